import JvmDerived
import JvmDerived.Pilot.@@N@@Statement
import JvmDerived.Pilot.@@N@@Code
set_option linter.unusedVariables false
set_option linter.unusedSimpArgs false
namespace Jvm.OwnW
open Sem ClassFile Op Lib Jvm.Stand Jvm.Free Jvm.LawKit Jvm.RoadKit
section Base
variable {p : Program} {l : Launch} {e : Env} {R : Room} {s : State} {m : MethodId} {args : Array Value} {below : List Frame} {meth : Method} {c : Code} {T : State} {locs : List Loc} {cells slots : Nat} {Z : State} {h h' : Heap} {a b : Addr} {ty : FieldType} {vs : List Value} {v : Value} {sl : Nat} {ws : List Addr}
variable {Q : Option Value → Heap → List Loc → Prop} {En : Outcome → State → List Loc → Prop} {kc ks : Nat} {U U' : State}
/-- from U the body comes to its end; what it leaves is Q, its frame En -/
def Wq (p : Program) (e : Env) (below : List Frame) (En : Outcome → State → List Loc → Prop) (Q : Option Value → Heap → List Loc → Prop) (U : State) : Prop :=
  ∃ s₂ o, Steps p.tables e below U s₂ ∧ s₂.status = .running ∧ Ended s₂ below o ∧ ∃ v L, o = .returned v ∧ Q v s₂.heap L ∧ En o s₂ L
theorem Wq.step (h1 : ∀ t, Steps p.tables e below U' t → Steps p.tables e below U t) (k : Wq p e below En Q U') : Wq p e below En Q U := by
  obtain ⟨s₂, o, q, r⟩ := k; exact ⟨s₂, o, h1 _ q, r⟩
theorem Wq.steps (h1 : Steps p.tables e below U U') (k : Wq p e below En Q U') : Wq p e below En Q U := by
  obtain ⟨s₂, o, q, r⟩ := k; exact ⟨s₂, o, h1.trans q, r⟩
theorem Wq.by (k1 : Wq p e below En Q U' → Wq p e below En Q U) (k : Wq p e below En Q U') : Wq p e below En Q U := k1 k
theorem Wq.ret {rv : Option Value} {g : JFrame} (X : Stand p l e R s m args below meth c T locs cells slots) (hlk : meth.locks = false) (hv : meth.sig.returnType = none → rv = none)
    (st : ∀ fs, (∀ (f : JFrame) (acts : List Action), f.method = m → f.locked = none → f.entered = [] → (doReturn e (T.setTop f) acts rv).1 = T.setFrames fs) → Steps p.tables e below (T.setTop g) (T.setFrames fs))
    (hc : cells ≤ kc) (hs : slots ≤ ks) (hQ : Q rv T.heap locs) : Wq p e below (fun o t L => FrameEnd s o t L kc ks) Q (T.setTop g) := by
  obtain ⟨fs, hr, hrun, hended, hW, hsame⟩ := X.leave (v := rv) hv hlk
  exact ⟨_, _, st fs hr, hrun, hended, rv, locs, rfl, hQ, ⟨rv, rfl⟩, hW, hsame.mono hc hs⟩
/-- the same for a body that may load a String constant for the first time -/
theorem Wq.retW {rv : Option Value} {g : JFrame} {vm₁ : Vm} {n : Nat} (X : Stand p l e R (s.setVm vm₁) m args below meth c T locs cells slots) (hS : s.Since vm₁ n) (hn : n ≤ T.heap.size) (hlk : meth.locks = false) (hv : meth.sig.returnType = none → rv = none)
    (st : ∀ fs, (∀ (f : JFrame) (acts : List Action), f.method = m → f.locked = none → f.entered = [] → (doReturn e (T.setTop f) acts rv).1 = T.setFrames fs) → Steps p.tables e below (T.setTop g) (T.setFrames fs))
    (hc : cells ≤ kc) (hs : slots ≤ ks) (hQ : Q rv T.heap locs) : Wq p e below (fun o t L => ReturnedEndW s o t L kc ks) Q (T.setTop g) := by
  obtain ⟨fs, hr, hrun, hended, w1, w2, w3, w4⟩ := X.leaveW hS hn (v := rv) hv hlk
  exact ⟨_, _, st fs hr, hrun, hended, rv, locs, rfl, hQ, ⟨rv, rfl⟩, w2, w3, w4.mono hc hs⟩
/-- an array and the whole list of what it holds -/
def Al (Z : State) (h : Heap) (a : Addr) (ty : FieldType) (vs : List Value) : Prop := ∃ cl : Cell, Arr Z h a cl ty ∧ cl.slots.toList = vs
theorem Al.lt (V : Al Z h a ty vs) : a < h.size := by obtain ⟨cl, A, -⟩ := V; exact A.lt
theorem Al.ext (V : Al Z h a ty vs) (E : Ext h h') : Al Z h' a ty vs := by obtain ⟨cl, A, r⟩ := V; exact ⟨cl, A.ext E, r⟩
theorem Al.other (V : Al Z h b ty vs) (W : Wr h h' a sl v) (q : b ≠ a) : Al Z h' b ty vs := by obtain ⟨cl, A, r⟩ := V; exact ⟨cl, A.other W q, r⟩
theorem Al.keep (V : Al Z h a ty vs) (K : Keep h h' ws) (q : a ∉ ws) : Al Z h' a ty vs := by obtain ⟨cl, A, r⟩ := V; exact ⟨cl, ⟨K.2.1 a cl A.1 q, A.2⟩, r⟩
theorem Al.new {cA : ClassId} {n : Int32} {k : Nat} {dv : Value} (A : Arr Z h a (newA cA ty n) ty) (hk : n.toNatClampNeg = k) (hd : defaultValue ty = dv) : Al Z h a ty (List.replicate k dv) := ⟨_, A, by subst hk hd; simp [newA]⟩
theorem Al.set (V : Al Z h a ty vs) (W : Wr h h' a sl v) : Al Z h' a ty (vs.set sl v) := by
  obtain ⟨cl, A, rfl⟩ := V
  exact ⟨_, A.same W, by simp [Cell.setSlot]⟩
theorem Sta.keepN {C n d : String} {v : Value} (F : Sta Z h C n d v) (K : Keep h h' ws) (q : ∀ w ∈ ws, ∀ cell : Cell, h[w]? = some cell → cell.vm.isStatics = false) : Sta Z h' C n d v := by
  obtain ⟨cf, i, k, f, st, cell, h1, h2, h3, h4, h5, h6, h7⟩ := F
  exact ⟨cf, i, k, f, st, cell, h1, h2, h3, h4, K.2.1 _ _ h5 (fun hm => by rw [q st hm cell h5] at h6; cases h6), h6, h7⟩
theorem fldI {t : Term} {C n d : String} {k : Int32} (hx : (Cond.eq (.field t C n d) (.int k)).value args s none s [] = some true) (ev : t.eval args s none [] s = some (.ref a)) : Fld s s.heap a C n d (.int k) := by
  refine Fld.start ?_
  have e1 := fld_at (C := C) (n := n) (dd := d) ev
  obtain ⟨x, y, h1, h2, k1, k2⟩ := cmp_v (Or.inl hx)
  rw [Term.int_eval] at h2
  cases h2
  rw [e1] at h1
  cases x <;> simp only [Kin] at k2 <;> first | (obtain ⟨z, hz⟩ := k2; cases hz) | skip
  have q := gotT (Cond.eq_ints (e1.trans h1) (Term.int_eval k)) hx
  rw [h1, q]
theorem fldJ {t : Term} {C n d : String} {k : Int64} (hx : (Cond.eq (.field t C n d) (.long k)).value args s none s [] = some true) (ev : t.eval args s none [] s = some (.ref a)) : Fld s s.heap a C n d (.long k) := by
  refine Fld.start ?_
  have e1 := fld_at (C := C) (n := n) (dd := d) ev
  obtain ⟨x, y, h1, h2, k1, k2⟩ := cmp_v (Or.inl hx)
  rw [long_at] at h2
  cases h2
  rw [e1] at h1
  cases x <;> simp only [Kin] at k2 <;> first | (obtain ⟨z, hz⟩ := k2; cases hz) | skip
  have q := gotT (eq_L (e1.trans h1) (long_at k)) hx
  rw [h1, q]
theorem Exa.ns {C : String} (F : Exa Z h a C) : ∀ cell : Cell, h[a]? = some cell → cell.vm.isStatics = false := by
  obtain ⟨c1, k, h1, h2, h3, h4, h5⟩ := F
  intro cell hc; cases h1.symm.trans hc; exact h4
theorem Al.ns (V : Al Z h a ty vs) : ∀ cell : Cell, h[a]? = some cell → cell.vm.isStatics = false := by
  obtain ⟨cl, A, -⟩ := V
  intro cell hc; cases A.1.symm.trans hc; exact A.plain
theorem clA (X : Stand p l e R s m args below meth c T locs cells slots) (hx : p.tables.exec = Jvm.exec) (hZ : Z.Warmed39 s.vm) {a0 : Array Value} {own ad : String} {index : Nat} (hown : s.vm.findClass own = some m.cls)
    (w1 : (Cond.methodLink own index ⟨ad, "clone", "()Ljava/lang/Object;"⟩).before a0 Z = true) (w2 : (Cond.sameMethod ad "java/lang/Object" "clone" "()Ljava/lang/Object;").before a0 Z = true) (w3 : (Cond.native ⟨"java/lang/Object", "clone", "()Ljava/lang/Object;"⟩).before a0 Z = true)
    (w4 : (Cond.instanceMethod ⟨"java/lang/Object", "clone", "()Ljava/lang/Object;"⟩).before a0 Z = true) (w5 : (Cond.selects ad ⟨ad, "clone", "()Ljava/lang/Object;"⟩ ⟨"java/lang/Object", "clone", "()Ljava/lang/Object;"⟩).before a0 Z = true) (w6 : (Cond.castable ad "java/lang/Cloneable").before a0 Z = true)
    (eT : T.heap = h) (V : Al Z h a ty vs) (E : Exa Z h a ad) (F : ∀ v ∈ vs, fits ty v = true) {g : JFrame} (hg : g.method = m) (hsize : g.locals.size = c.maxLocals) {rest : List Value} (hst : g.stack = .ref a :: rest) (hd : decode c.code g.pc = .ok (.invokevirtual index, 3))
    (hf : 1 ≤ R.frames) {W cap : Nat} (hW : 2 * g.monitorRoom + (rest.map fun v => v.category).sum ≤ W) (hl : W + 14 ≤ R.locals) (hcap : vs.length ≤ cap) (hc : cells + 1 ≤ R.cells) (hsl : slots + cap ≤ R.slots) :
    ∃ T' h', Stand p l e R s m args below meth c T' locs (cells + 1) (slots + cap) ∧ T'.heap = h' ∧ Ext h h' ∧ Al Z h' h.size ty vs ∧ Exa Z h' h.size ad ∧
      ∀ target, Steps p.tables e below (T'.setTop { g with pc := g.pc + 3, stack := .ref h.size :: rest }) target → Steps p.tables e below (T.setTop g) target := by
  obtain ⟨cl, A, r⟩ := V
  have FC : FitC Z cl := fitC_of A fun i hi v hv => F v (by rw [← r]; exact Array.mem_toList_iff.mpr (Array.mem_of_getElem? hv))
  obtain ⟨T', h', X', e', ex, A', E', st⟩ := cloneA X hx hZ hown w1 w2 w3 w4 w5 w6 eT A E FC hg hsize hst hd hf hW hl (by rw [← Array.length_toList, r]; exact hcap) hc hsl
  exact ⟨T', h', X', e', ex, ⟨_, A', r⟩, E', st⟩
theorem selPriv {a0 : Array Value} {y : MethodName} {k : Nat} (hZ : Z.Warmed39 s.vm) (wi : (Cond.instantiable y.cls k).before a0 Z = true) (wp : (Cond.privateMethod y).before a0 Z = true) (wm : (Cond.instanceMethod y).before a0 Z = true) (hy : y.cls ≠ "java/lang/invoke/MethodHandle" ∧ y.cls ≠ "java/lang/invoke/VarHandle") : (Cond.selects y.cls y y).before args s = true := by
  obtain ⟨c, k, h1, h2, -, h4, -⟩ := Cond.instantiable_spec (mv (args := args) hZ wi)
  simp only [Bool.or_eq_false_iff] at h4
  exact Jvm.Stand.selects_self_of_private h1 h2 h4.1 (Cond.privateMethod_at (mvP hZ wp (args := args))) (mv hZ wm) hy
theorem al_in {cl : Cell} {j : Int32} {i : Nat} (hvs : cl.slots.toList = vs) (hj : ¬ j < 0) (hi : j.toNatClampNeg = i) (hl : i < vs.length) : ¬ (j < 0 ∨ cl.slots.size ≤ j.toNatClampNeg) := by
  subst hvs hi
  rintro (q | q)
  · exact hj q
  · simp only [Array.length_toList] at hl; omega
theorem al_at {cl : Cell} {j : Int32} {i : Nat} (hvs : cl.slots.toList = vs) (hi : j.toNatClampNeg = i) (hv : vs[i]? = some v) : cl.slots[j.toNatClampNeg]? = some v := by
  subst hvs hi; simpa using hv
theorem al_lt {i : Nat} (hv : vs[i]? = some v) : i < vs.length := (List.getElem?_eq_some_iff.mp hv).1
theorem ldI (X : Stand p l e R s m args below meth c T locs cells slots) (hx : p.tables.exec = Jvm.exec) (hZ : Z.Warmed39 s.vm) (eT : T.heap = h) (V : Al Z h a .int vs) {j : Int32} {i : Nat} (hj : ¬ j < 0) (hi : j.toNatClampNeg = i) (hv : vs[i]? = some v) {g : JFrame} (hg : g.method = m) {rest : List Value} (hs : g.stack = .int j :: .ref a :: rest) (hd : decode c.code g.pc = .ok (.iaload, 1)) {target : State}
    (k : Steps p.tables e below (T.setTop { g with pc := g.pc + 1, stack := v :: rest }) target) : Steps p.tables e below (T.setTop g) target := by
  obtain ⟨cl, A, r⟩ := V
  exact X.iaload hx (by rw [eT]; exact A.1) (State.isArrayOf_alike hZ.alike A.2.1) A.2.2 (al_in r hj hi (al_lt hv)) (al_at r hi hv) hg hs hd _ k
theorem ldJ (X : Stand p l e R s m args below meth c T locs cells slots) (hx : p.tables.exec = Jvm.exec) (hZ : Z.Warmed39 s.vm) (eT : T.heap = h) (V : Al Z h a .long vs) {j : Int32} {i : Nat} (hj : ¬ j < 0) (hi : j.toNatClampNeg = i) (hv : vs[i]? = some v) {g : JFrame} (hg : g.method = m) {rest : List Value} (hs : g.stack = .int j :: .ref a :: rest) (hd : decode c.code g.pc = .ok (.laload, 1)) {target : State}
    (k : Steps p.tables e below (T.setTop { g with pc := g.pc + 1, stack := v :: rest }) target) : Steps p.tables e below (T.setTop g) target := by
  obtain ⟨cl, A, r⟩ := V
  exact X.laload hx (by rw [eT]; exact A.1) (State.isArrayOf_alike hZ.alike A.2.1) A.2.2 (al_in r hj hi (al_lt hv)) (al_at r hi hv) hg hs hd _ k
theorem ldC (X : Stand p l e R s m args below meth c T locs cells slots) (hx : p.tables.exec = Jvm.exec) (hZ : Z.Warmed39 s.vm) (eT : T.heap = h) (V : Al Z h a .char vs) {j : Int32} {i : Nat} (hj : ¬ j < 0) (hi : j.toNatClampNeg = i) (hv : vs[i]? = some v) {g : JFrame} (hg : g.method = m) {rest : List Value} (hs : g.stack = .int j :: .ref a :: rest) (hd : decode c.code g.pc = .ok (.caload, 1)) {target : State}
    (k : Steps p.tables e below (T.setTop { g with pc := g.pc + 1, stack := v :: rest }) target) : Steps p.tables e below (T.setTop g) target := by
  obtain ⟨cl, A, r⟩ := V
  exact X.caload hx (by rw [eT]; exact A.1) (State.isArrayOf_alike hZ.alike A.2.1) A.2.2 (al_in r hj hi (al_lt hv)) (al_at r hi hv) hg hs hd _ k
theorem ldB (X : Stand p l e R s m args below meth c T locs cells slots) (hx : p.tables.exec = Jvm.exec) (hZ : Z.Warmed39 s.vm) (eT : T.heap = h) (V : Al Z h a .byte vs) {j : Int32} {i : Nat} (hj : ¬ j < 0) (hi : j.toNatClampNeg = i) (hv : vs[i]? = some v) {g : JFrame} (hg : g.method = m) {rest : List Value} (hs : g.stack = .int j :: .ref a :: rest) (hd : decode c.code g.pc = .ok (.baload, 1)) {target : State}
    (k : Steps p.tables e below (T.setTop { g with pc := g.pc + 1, stack := v :: rest }) target) : Steps p.tables e below (T.setTop g) target := by
  obtain ⟨cl, A, r⟩ := V
  exact X.baloadBytes hx (by rw [eT]; exact A.1) (State.isArrayOf_alike hZ.alike A.2.1) A.2.2 (al_in r hj hi (al_lt hv)) (al_at r hi hv) hg hs hd _ k
theorem ldZ (X : Stand p l e R s m args below meth c T locs cells slots) (hx : p.tables.exec = Jvm.exec) (hZ : Z.Warmed39 s.vm) (eT : T.heap = h) (V : Al Z h a .boolean vs) {j : Int32} {i : Nat} (hj : ¬ j < 0) (hi : j.toNatClampNeg = i) (hv : vs[i]? = some v) {g : JFrame} (hg : g.method = m) {rest : List Value} (hs : g.stack = .int j :: .ref a :: rest) (hd : decode c.code g.pc = .ok (.baload, 1)) {target : State}
    (k : Steps p.tables e below (T.setTop { g with pc := g.pc + 1, stack := v :: rest }) target) : Steps p.tables e below (T.setTop g) target := by
  obtain ⟨cl, A, r⟩ := V
  exact X.baloadBooleans hx (by rw [eT]; exact A.1) (State.isArrayOf_alike hZ.alike A.2.1) A.2.2 (al_in r hj hi (al_lt hv)) (al_at r hi hv) hg hs hd _ k
theorem lenA (X : Stand p l e R s m args below meth c T locs cells slots) (hx : p.tables.exec = Jvm.exec) (hZ : Z.Warmed39 s.vm) (eT : T.heap = h) (V : Al Z h a ty vs) {n : Int32} (hn : vs.length.toInt32 = n) {g : JFrame} (hg : g.method = m) {rest : List Value} (hs : g.stack = .ref a :: rest) (hd : decode c.code g.pc = .ok (.arraylength, 1)) {target : State}
    (k : Steps p.tables e below (T.setTop { g with pc := g.pc + 1, stack := .int n :: rest }) target) : Steps p.tables e below (T.setTop g) target := by
  obtain ⟨cl, A, r⟩ := V
  refine X.arraylength hx (by rw [eT]; exact A.1) (State.isArrayOf_alike hZ.alike A.2.1) hg hs hd _ ?_
  rw [show cl.slots.size.toInt32 = n from by rw [← hn, ← r, Array.length_toList]]
  exact k
theorem asI (X : Stand p l e R s m args below meth c T locs cells slots) (hx : p.tables.exec = Jvm.exec) (hZ : Z.Warmed39 s.vm) (eT : T.heap = h) (V : Al Z h a .int vs) {j : Int32} {i : Nat} {x : Int32} (hj : ¬ j < 0) (hi : j.toNatClampNeg = i) (hl : i < vs.length) {g : JFrame} (hg : g.method = m) {rest : List Value} (hs : g.stack = .int x :: .int j :: .ref a :: rest) (hd : decode c.code g.pc = .ok (.iastore, 1)) :
    ∃ T' h', Stand p l e R s m args below meth c T' (locs ++ [⟨a, i⟩]) cells slots ∧ T'.heap = h' ∧ Wr h h' a i (.int x) ∧ Al Z h' a .int (vs.set i (.int x)) ∧ ∀ target, Steps p.tables e below (T'.setTop { g with pc := g.pc + 1, stack := rest }) target → Steps p.tables e below (T.setTop g) target := by
  have V0 := V
  obtain ⟨cl, A, r⟩ := V
  obtain ⟨T', h', X', e', W, st⟩ := stI X hx hZ eT A (al_in r hj hi hl) hg hs hd
  subst hi
  exact ⟨T', h', X', e', W, V0.set W, st⟩
theorem asJ (X : Stand p l e R s m args below meth c T locs cells slots) (hx : p.tables.exec = Jvm.exec) (hZ : Z.Warmed39 s.vm) (eT : T.heap = h) (V : Al Z h a .long vs) {j : Int32} {i : Nat} {x : Int64} (hj : ¬ j < 0) (hi : j.toNatClampNeg = i) (hl : i < vs.length) {g : JFrame} (hg : g.method = m) {rest : List Value} (hs : g.stack = .long x :: .int j :: .ref a :: rest) (hd : decode c.code g.pc = .ok (.lastore, 1)) :
    ∃ T' h', Stand p l e R s m args below meth c T' (locs ++ [⟨a, i⟩]) cells slots ∧ T'.heap = h' ∧ Wr h h' a i (.long x) ∧ Al Z h' a .long (vs.set i (.long x)) ∧ ∀ target, Steps p.tables e below (T'.setTop { g with pc := g.pc + 1, stack := rest }) target → Steps p.tables e below (T.setTop g) target := by
  have V0 := V
  obtain ⟨cl, A, r⟩ := V
  obtain ⟨T', h', X', e', W, st⟩ := stJ X hx hZ eT A (al_in r hj hi hl) hg hs hd
  subst hi
  exact ⟨T', h', X', e', W, V0.set W, st⟩
theorem asC (X : Stand p l e R s m args below meth c T locs cells slots) (hx : p.tables.exec = Jvm.exec) (hZ : Z.Warmed39 s.vm) (eT : T.heap = h) (V : Al Z h a .char vs) {j : Int32} {i : Nat} {x y : Int32} (hj : ¬ j < 0) (hi : j.toNatClampNeg = i) (hl : i < vs.length) (hy : nar .char x = y) {g : JFrame} (hg : g.method = m) {rest : List Value} (hs : g.stack = .int x :: .int j :: .ref a :: rest) (hd : decode c.code g.pc = .ok (.castore, 1)) :
    ∃ T' h', Stand p l e R s m args below meth c T' (locs ++ [⟨a, i⟩]) cells slots ∧ T'.heap = h' ∧ Wr h h' a i (.int y) ∧ Al Z h' a .char (vs.set i (.int y)) ∧ ∀ target, Steps p.tables e below (T'.setTop { g with pc := g.pc + 1, stack := rest }) target → Steps p.tables e below (T.setTop g) target := by
  have V0 := V
  obtain ⟨cl, A, r⟩ := V
  obtain ⟨T', h', X', e', W, st⟩ := stC X hx hZ eT A (al_in r hj hi hl) hg hs hd
  subst hi hy
  exact ⟨T', h', X', e', W, V0.set W, st⟩
theorem asB (X : Stand p l e R s m args below meth c T locs cells slots) (hx : p.tables.exec = Jvm.exec) (hZ : Z.Warmed39 s.vm) (eT : T.heap = h) (V : Al Z h a .byte vs) {j : Int32} {i : Nat} {x y : Int32} (hj : ¬ j < 0) (hi : j.toNatClampNeg = i) (hl : i < vs.length) (hy : nar .byte x = y) {g : JFrame} (hg : g.method = m) {rest : List Value} (hs : g.stack = .int x :: .int j :: .ref a :: rest) (hd : decode c.code g.pc = .ok (.bastore, 1)) :
    ∃ T' h', Stand p l e R s m args below meth c T' (locs ++ [⟨a, i⟩]) cells slots ∧ T'.heap = h' ∧ Wr h h' a i (.int y) ∧ Al Z h' a .byte (vs.set i (.int y)) ∧ ∀ target, Steps p.tables e below (T'.setTop { g with pc := g.pc + 1, stack := rest }) target → Steps p.tables e below (T.setTop g) target := by
  have V0 := V
  obtain ⟨cl, A, r⟩ := V
  obtain ⟨T', h', X', e', W, st⟩ := stB X hx hZ eT A (al_in r hj hi hl) hg hs hd
  subst hi hy
  exact ⟨T', h', X', e', W, V0.set W, st⟩
theorem asZ (X : Stand p l e R s m args below meth c T locs cells slots) (hx : p.tables.exec = Jvm.exec) (hZ : Z.Warmed39 s.vm) (eT : T.heap = h) (V : Al Z h a .boolean vs) {j : Int32} {i : Nat} {x y : Int32} (hj : ¬ j < 0) (hi : j.toNatClampNeg = i) (hl : i < vs.length) (hy : nar .boolean x = y) {g : JFrame} (hg : g.method = m) {rest : List Value} (hs : g.stack = .int x :: .int j :: .ref a :: rest) (hd : decode c.code g.pc = .ok (.bastore, 1)) :
    ∃ T' h', Stand p l e R s m args below meth c T' (locs ++ [⟨a, i⟩]) cells slots ∧ T'.heap = h' ∧ Wr h h' a i (.int y) ∧ Al Z h' a .boolean (vs.set i (.int y)) ∧ ∀ target, Steps p.tables e below (T'.setTop { g with pc := g.pc + 1, stack := rest }) target → Steps p.tables e below (T.setTop g) target := by
  have V0 := V
  obtain ⟨cl, A, r⟩ := V
  obtain ⟨T', h', X', e', W, st⟩ := stZ X hx hZ eT A (al_in r hj hi hl) hg hs hd
  subst hi hy
  exact ⟨T', h', X', e', W, V0.set W, st⟩
theorem Ow.iloadN (X : Stand p l e R s m args below meth c T locs cells slots) (hx : p.tables.exec = Jvm.exec) {pc : Nat} {ls : Array Slot} {st : List Value} {pc' : Nat} {k : Fin 4} {v : Int32} (hd : decode c.code pc = .ok (.iload_n k, 1)) (hl : ls[k.val]? = some (.val (.int v))) (k : Wq p e below En Q (T.setTop (mkF m pc' ls (.int v :: st)))) (hpc : pc + 1 = pc' := by rfl) : Wq p e below En Q (T.setTop (mkF m pc ls st)) := by subst hpc; exact Wq.step (fun _ q => XS.iloadN X.here hx rfl hd hl q) k
theorem Ow.istoreN (X : Stand p l e R s m args below meth c T locs cells slots) (hx : p.tables.exec = Jvm.exec) {pc : Nat} {ls : Array Slot} {st : List Value} {pc' : Nat} {k : Fin 4} {x : Int32} {l' : Array Slot} (hd : decode c.code pc = .ok (.istore_n k, 1)) (hl : storeLocals ls k.val (.int x) = some l') (k : Wq p e below En Q (T.setTop (mkF m pc' l' st))) (hpc : pc + 1 = pc' := by rfl) : Wq p e below En Q (T.setTop (mkF m pc ls (.int x :: st))) := by subst hpc; exact Wq.step (fun _ q => XS.istoreN X.here hx rfl hd rfl hl q) k
theorem Ow.lloadN (X : Stand p l e R s m args below meth c T locs cells slots) (hx : p.tables.exec = Jvm.exec) {pc : Nat} {ls : Array Slot} {st : List Value} {pc' : Nat} {k : Fin 4} {v : Int64} (hd : decode c.code pc = .ok (.lload_n k, 1)) (hl : ls[k.val]? = some (.val (.long v))) (k : Wq p e below En Q (T.setTop (mkF m pc' ls (.long v :: st)))) (hpc : pc + 1 = pc' := by rfl) : Wq p e below En Q (T.setTop (mkF m pc ls st)) := by subst hpc; exact Wq.step (fun _ q => XS.lloadN X.here hx rfl hd hl q) k
theorem Ow.lstoreN (X : Stand p l e R s m args below meth c T locs cells slots) (hx : p.tables.exec = Jvm.exec) {pc : Nat} {ls : Array Slot} {st : List Value} {pc' : Nat} {k : Fin 4} {x : Int64} {l' : Array Slot} (hd : decode c.code pc = .ok (.lstore_n k, 1)) (hl : storeLocals ls k.val (.long x) = some l') (k : Wq p e below En Q (T.setTop (mkF m pc' l' st))) (hpc : pc + 1 = pc' := by rfl) : Wq p e below En Q (T.setTop (mkF m pc ls (.long x :: st))) := by subst hpc; exact Wq.step (fun _ q => XS.lstoreN X.here hx rfl hd rfl hl q) k
theorem Ow.aloadN (X : Stand p l e R s m args below meth c T locs cells slots) (hx : p.tables.exec = Jvm.exec) {pc : Nat} {ls : Array Slot} {st : List Value} {pc' : Nat} {k : Fin 4} {v : Value} (hd : decode c.code pc = .ok (.aload_n k, 1)) (hl : ls[k.val]? = some (.val v)) (hv : v.isRef = true) (k : Wq p e below En Q (T.setTop (mkF m pc' ls (v :: st)))) (hpc : pc + 1 = pc' := by rfl) : Wq p e below En Q (T.setTop (mkF m pc ls st)) := by subst hpc; exact Wq.step (fun _ q => XS.aloadN X.here hx rfl hd hl hv q) k
theorem Ow.astoreN (X : Stand p l e R s m args below meth c T locs cells slots) (hx : p.tables.exec = Jvm.exec) {pc : Nat} {ls : Array Slot} {st : List Value} {pc' : Nat} {k : Fin 4} {x : Value} {l' : Array Slot} (hd : decode c.code pc = .ok (.astore_n k, 1)) (hv : x.isRef = true) (hl : storeLocals ls k.val x = some l') (k : Wq p e below En Q (T.setTop (mkF m pc' l' st))) (hpc : pc + 1 = pc' := by rfl) : Wq p e below En Q (T.setTop (mkF m pc ls (x :: st))) := by subst hpc; exact Wq.step (fun _ q => XS.astoreN X.here hx rfl hd rfl hv hl q) k
theorem Ow.iload (X : Stand p l e R s m args below meth c T locs cells slots) (hx : p.tables.exec = Jvm.exec) {pc : Nat} {ls : Array Slot} {st : List Value} {pc' : Nat} {k : Nat} {v : Int32} (hd : decode c.code pc = .ok (.iload k, 2)) (hl : ls[k]? = some (.val (.int v))) (k : Wq p e below En Q (T.setTop (mkF m pc' ls (.int v :: st)))) (hpc : pc + 2 = pc' := by rfl) : Wq p e below En Q (T.setTop (mkF m pc ls st)) := by subst hpc; exact Wq.step (fun _ q => XS.iload X.here hx rfl hd hl q) k
theorem Ow.istore (X : Stand p l e R s m args below meth c T locs cells slots) (hx : p.tables.exec = Jvm.exec) {pc : Nat} {ls : Array Slot} {st : List Value} {pc' : Nat} {k : Nat} {x : Int32} {l' : Array Slot} (hd : decode c.code pc = .ok (.istore k, 2)) (hl : storeLocals ls k (.int x) = some l') (k : Wq p e below En Q (T.setTop (mkF m pc' l' st))) (hpc : pc + 2 = pc' := by rfl) : Wq p e below En Q (T.setTop (mkF m pc ls (.int x :: st))) := by subst hpc; exact Wq.step (fun _ q => XS.istore X.here hx rfl hd rfl hl q) k
theorem Ow.lload (X : Stand p l e R s m args below meth c T locs cells slots) (hx : p.tables.exec = Jvm.exec) {pc : Nat} {ls : Array Slot} {st : List Value} {pc' : Nat} {k : Nat} {v : Int64} (hd : decode c.code pc = .ok (.lload k, 2)) (hl : ls[k]? = some (.val (.long v))) (k : Wq p e below En Q (T.setTop (mkF m pc' ls (.long v :: st)))) (hpc : pc + 2 = pc' := by rfl) : Wq p e below En Q (T.setTop (mkF m pc ls st)) := by subst hpc; exact Wq.step (fun _ q => XS.lload X.here hx rfl hd hl q) k
theorem Ow.lstore (X : Stand p l e R s m args below meth c T locs cells slots) (hx : p.tables.exec = Jvm.exec) {pc : Nat} {ls : Array Slot} {st : List Value} {pc' : Nat} {k : Nat} {x : Int64} {l' : Array Slot} (hd : decode c.code pc = .ok (.lstore k, 2)) (hl : storeLocals ls k (.long x) = some l') (k : Wq p e below En Q (T.setTop (mkF m pc' l' st))) (hpc : pc + 2 = pc' := by rfl) : Wq p e below En Q (T.setTop (mkF m pc ls (.long x :: st))) := by subst hpc; exact Wq.step (fun _ q => XS.lstore X.here hx rfl hd rfl hl q) k
theorem Ow.aload (X : Stand p l e R s m args below meth c T locs cells slots) (hx : p.tables.exec = Jvm.exec) {pc : Nat} {ls : Array Slot} {st : List Value} {pc' : Nat} {k : Nat} {v : Value} (hd : decode c.code pc = .ok (.aload k, 2)) (hl : ls[k]? = some (.val v)) (hv : v.isRef = true) (k : Wq p e below En Q (T.setTop (mkF m pc' ls (v :: st)))) (hpc : pc + 2 = pc' := by rfl) : Wq p e below En Q (T.setTop (mkF m pc ls st)) := by subst hpc; exact Wq.step (fun _ q => XS.aload X.here hx rfl hd hl hv q) k
theorem Ow.astore (X : Stand p l e R s m args below meth c T locs cells slots) (hx : p.tables.exec = Jvm.exec) {pc : Nat} {ls : Array Slot} {st : List Value} {pc' : Nat} {k : Nat} {x : Value} {l' : Array Slot} (hd : decode c.code pc = .ok (.astore k, 2)) (hv : x.isRef = true) (hl : storeLocals ls k x = some l') (k : Wq p e below En Q (T.setTop (mkF m pc' l' st))) (hpc : pc + 2 = pc' := by rfl) : Wq p e below En Q (T.setTop (mkF m pc ls (x :: st))) := by subst hpc; exact Wq.step (fun _ q => XS.astore X.here hx rfl hd rfl hv hl q) k
theorem Ow.istoreNS (X : Stand p l e R s m args below meth c T locs cells slots) (hx : p.tables.exec = Jvm.exec) {pc pc' : Nat} {ls : Array Slot} {st : List Value} {k : Fin 4} {x : Int32} {o : Slot} {l' : Array Slot} (hd : decode c.code pc = .ok (.istore_n k, 1)) (hold : ls[k.val]? = some o) (ho : o = .unset ∨ ∃ w, o = .val w ∧ w.category = 1) (hl : ls.setIfInBounds k.val (.val (.int x)) = l') (q : Wq p e below En Q (T.setTop (mkF m pc' l' st))) (hpc : pc + 1 = pc' := by rfl) : Wq p e below En Q (T.setTop (mkF m pc ls (.int x :: st))) := by
  subst hpc hl
  exact Wq.step (fun _ z => XS.istoreN X.here hx rfl hd rfl (XS.store1 hold ho rfl) z) q
theorem Ow.istoreS (X : Stand p l e R s m args below meth c T locs cells slots) (hx : p.tables.exec = Jvm.exec) {pc pc' : Nat} {ls : Array Slot} {st : List Value} {k : Nat} {x : Int32} {o : Slot} {l' : Array Slot} (hd : decode c.code pc = .ok (.istore k, 2)) (hold : ls[k]? = some o) (ho : o = .unset ∨ ∃ w, o = .val w ∧ w.category = 1) (hl : ls.setIfInBounds k (.val (.int x)) = l') (q : Wq p e below En Q (T.setTop (mkF m pc' l' st))) (hpc : pc + 2 = pc' := by rfl) : Wq p e below En Q (T.setTop (mkF m pc ls (.int x :: st))) := by
  subst hpc hl
  exact Wq.step (fun _ z => XS.istore X.here hx rfl hd rfl (XS.store1 hold ho rfl) z) q
theorem Ow.iconst (X : Stand p l e R s m args below meth c T locs cells slots) (hx : p.tables.exec = Jvm.exec) {pc : Nat} {ls : Array Slot} {st : List Value} {pc' : Nat} {i : Int} {z : Int32} (hd : decode c.code pc = .ok (.iconst i, 1)) (hz : Int32.ofInt i = z) (k : Wq p e below En Q (T.setTop (mkF m pc' ls (.int z :: st)))) (hpc : pc + 1 = pc' := by rfl) : Wq p e below En Q (T.setTop (mkF m pc ls st)) := by subst hz hpc; exact Wq.step (fun _ q => XS.iconst X.here hx rfl hd  q) k
theorem Ow.bipush (X : Stand p l e R s m args below meth c T locs cells slots) (hx : p.tables.exec = Jvm.exec) {pc : Nat} {ls : Array Slot} {st : List Value} {pc' : Nat} {i : Int} {z : Int32} (hd : decode c.code pc = .ok (.bipush i, 2)) (hz : (Int8.ofInt i).toInt32 = z) (k : Wq p e below En Q (T.setTop (mkF m pc' ls (.int z :: st)))) (hpc : pc + 2 = pc' := by rfl) : Wq p e below En Q (T.setTop (mkF m pc ls st)) := by subst hz hpc; exact Wq.step (fun _ q => XS.bipush X.here hx rfl hd  q) k
theorem Ow.sipush (X : Stand p l e R s m args below meth c T locs cells slots) (hx : p.tables.exec = Jvm.exec) {pc : Nat} {ls : Array Slot} {st : List Value} {pc' : Nat} {i : Int} {z : Int32} (hd : decode c.code pc = .ok (.sipush i, 3)) (hz : (Int16.ofInt i).toInt32 = z) (k : Wq p e below En Q (T.setTop (mkF m pc' ls (.int z :: st)))) (hpc : pc + 3 = pc' := by rfl) : Wq p e below En Q (T.setTop (mkF m pc ls st)) := by subst hz hpc; exact Wq.step (fun _ q => XS.sipush X.here hx rfl hd  q) k
theorem Ow.lconst (X : Stand p l e R s m args below meth c T locs cells slots) (hx : p.tables.exec = Jvm.exec) {pc : Nat} {ls : Array Slot} {st : List Value} {pc' : Nat} {i : Fin 2} {z : Int64} (hd : decode c.code pc = .ok (.lconst i, 1)) (hz : Int64.ofNat i = z) (k : Wq p e below En Q (T.setTop (mkF m pc' ls (.long z :: st)))) (hpc : pc + 1 = pc' := by rfl) : Wq p e below En Q (T.setTop (mkF m pc ls st)) := by subst hz hpc; exact Wq.step (fun _ q => XS.lconst X.here hx rfl hd  q) k
theorem Ow.aconstNull (X : Stand p l e R s m args below meth c T locs cells slots) (hx : p.tables.exec = Jvm.exec) {pc : Nat} {ls : Array Slot} {st : List Value} {pc' : Nat}  (hd : decode c.code pc = .ok (.aconst_null, 1))  (k : Wq p e below En Q (T.setTop (mkF m pc' ls (.null :: st)))) (hpc : pc + 1 = pc' := by rfl) : Wq p e below En Q (T.setTop (mkF m pc ls st)) := by subst hpc; exact Wq.step (fun _ q => XS.aconstNull X.here hx rfl hd  q) k
theorem Ow.iadd (X : Stand p l e R s m args below meth c T locs cells slots) (hx : p.tables.exec = Jvm.exec) {pc : Nat} {ls : Array Slot} {st : List Value} {pc' : Nat} {x y z : Int32} (hd : decode c.code pc = .ok (.iadd, 1)) (hz : x + y = z) (k : Wq p e below En Q (T.setTop (mkF m pc' ls (.int z :: st)))) (hpc : pc + 1 = pc' := by rfl) : Wq p e below En Q (T.setTop (mkF m pc ls (.int y :: .int x :: st))) := by subst hz hpc; exact Wq.step (fun _ q => XS.iadd X.here hx rfl hd rfl q) k
theorem Ow.ladd (X : Stand p l e R s m args below meth c T locs cells slots) (hx : p.tables.exec = Jvm.exec) {pc : Nat} {ls : Array Slot} {st : List Value} {pc' : Nat} {x y z : Int64} (hd : decode c.code pc = .ok (.ladd, 1)) (hz : x + y = z) (k : Wq p e below En Q (T.setTop (mkF m pc' ls (.long z :: st)))) (hpc : pc + 1 = pc' := by rfl) : Wq p e below En Q (T.setTop (mkF m pc ls (.long y :: .long x :: st))) := by subst hz hpc; exact Wq.step (fun _ q => XS.ladd X.here hx rfl hd rfl q) k
theorem Ow.isub (X : Stand p l e R s m args below meth c T locs cells slots) (hx : p.tables.exec = Jvm.exec) {pc : Nat} {ls : Array Slot} {st : List Value} {pc' : Nat} {x y z : Int32} (hd : decode c.code pc = .ok (.isub, 1)) (hz : x - y = z) (k : Wq p e below En Q (T.setTop (mkF m pc' ls (.int z :: st)))) (hpc : pc + 1 = pc' := by rfl) : Wq p e below En Q (T.setTop (mkF m pc ls (.int y :: .int x :: st))) := by subst hz hpc; exact Wq.step (fun _ q => XS.isub X.here hx rfl hd rfl q) k
theorem Ow.lsub (X : Stand p l e R s m args below meth c T locs cells slots) (hx : p.tables.exec = Jvm.exec) {pc : Nat} {ls : Array Slot} {st : List Value} {pc' : Nat} {x y z : Int64} (hd : decode c.code pc = .ok (.lsub, 1)) (hz : x - y = z) (k : Wq p e below En Q (T.setTop (mkF m pc' ls (.long z :: st)))) (hpc : pc + 1 = pc' := by rfl) : Wq p e below En Q (T.setTop (mkF m pc ls (.long y :: .long x :: st))) := by subst hz hpc; exact Wq.step (fun _ q => XS.lsub X.here hx rfl hd rfl q) k
theorem Ow.imul (X : Stand p l e R s m args below meth c T locs cells slots) (hx : p.tables.exec = Jvm.exec) {pc : Nat} {ls : Array Slot} {st : List Value} {pc' : Nat} {x y z : Int32} (hd : decode c.code pc = .ok (.imul, 1)) (hz : x * y = z) (k : Wq p e below En Q (T.setTop (mkF m pc' ls (.int z :: st)))) (hpc : pc + 1 = pc' := by rfl) : Wq p e below En Q (T.setTop (mkF m pc ls (.int y :: .int x :: st))) := by subst hz hpc; exact Wq.step (fun _ q => XS.imul X.here hx rfl hd rfl q) k
theorem Ow.lmul (X : Stand p l e R s m args below meth c T locs cells slots) (hx : p.tables.exec = Jvm.exec) {pc : Nat} {ls : Array Slot} {st : List Value} {pc' : Nat} {x y z : Int64} (hd : decode c.code pc = .ok (.lmul, 1)) (hz : x * y = z) (k : Wq p e below En Q (T.setTop (mkF m pc' ls (.long z :: st)))) (hpc : pc + 1 = pc' := by rfl) : Wq p e below En Q (T.setTop (mkF m pc ls (.long y :: .long x :: st))) := by subst hz hpc; exact Wq.step (fun _ q => XS.lmul X.here hx rfl hd rfl q) k
theorem Ow.iand (X : Stand p l e R s m args below meth c T locs cells slots) (hx : p.tables.exec = Jvm.exec) {pc : Nat} {ls : Array Slot} {st : List Value} {pc' : Nat} {x y z : Int32} (hd : decode c.code pc = .ok (.iand, 1)) (hz : x &&& y = z) (k : Wq p e below En Q (T.setTop (mkF m pc' ls (.int z :: st)))) (hpc : pc + 1 = pc' := by rfl) : Wq p e below En Q (T.setTop (mkF m pc ls (.int y :: .int x :: st))) := by subst hz hpc; exact Wq.step (fun _ q => XS.iand X.here hx rfl hd rfl q) k
theorem Ow.land (X : Stand p l e R s m args below meth c T locs cells slots) (hx : p.tables.exec = Jvm.exec) {pc : Nat} {ls : Array Slot} {st : List Value} {pc' : Nat} {x y z : Int64} (hd : decode c.code pc = .ok (.land, 1)) (hz : x &&& y = z) (k : Wq p e below En Q (T.setTop (mkF m pc' ls (.long z :: st)))) (hpc : pc + 1 = pc' := by rfl) : Wq p e below En Q (T.setTop (mkF m pc ls (.long y :: .long x :: st))) := by subst hz hpc; exact Wq.step (fun _ q => XS.land X.here hx rfl hd rfl q) k
theorem Ow.ior (X : Stand p l e R s m args below meth c T locs cells slots) (hx : p.tables.exec = Jvm.exec) {pc : Nat} {ls : Array Slot} {st : List Value} {pc' : Nat} {x y z : Int32} (hd : decode c.code pc = .ok (.ior, 1)) (hz : x ||| y = z) (k : Wq p e below En Q (T.setTop (mkF m pc' ls (.int z :: st)))) (hpc : pc + 1 = pc' := by rfl) : Wq p e below En Q (T.setTop (mkF m pc ls (.int y :: .int x :: st))) := by subst hz hpc; exact Wq.step (fun _ q => XS.ior X.here hx rfl hd rfl q) k
theorem Ow.lor (X : Stand p l e R s m args below meth c T locs cells slots) (hx : p.tables.exec = Jvm.exec) {pc : Nat} {ls : Array Slot} {st : List Value} {pc' : Nat} {x y z : Int64} (hd : decode c.code pc = .ok (.lor, 1)) (hz : x ||| y = z) (k : Wq p e below En Q (T.setTop (mkF m pc' ls (.long z :: st)))) (hpc : pc + 1 = pc' := by rfl) : Wq p e below En Q (T.setTop (mkF m pc ls (.long y :: .long x :: st))) := by subst hz hpc; exact Wq.step (fun _ q => XS.lor X.here hx rfl hd rfl q) k
theorem Ow.ixor (X : Stand p l e R s m args below meth c T locs cells slots) (hx : p.tables.exec = Jvm.exec) {pc : Nat} {ls : Array Slot} {st : List Value} {pc' : Nat} {x y z : Int32} (hd : decode c.code pc = .ok (.ixor, 1)) (hz : x ^^^ y = z) (k : Wq p e below En Q (T.setTop (mkF m pc' ls (.int z :: st)))) (hpc : pc + 1 = pc' := by rfl) : Wq p e below En Q (T.setTop (mkF m pc ls (.int y :: .int x :: st))) := by subst hz hpc; exact Wq.step (fun _ q => XS.ixor X.here hx rfl hd rfl q) k
theorem Ow.lxor (X : Stand p l e R s m args below meth c T locs cells slots) (hx : p.tables.exec = Jvm.exec) {pc : Nat} {ls : Array Slot} {st : List Value} {pc' : Nat} {x y z : Int64} (hd : decode c.code pc = .ok (.lxor, 1)) (hz : x ^^^ y = z) (k : Wq p e below En Q (T.setTop (mkF m pc' ls (.long z :: st)))) (hpc : pc + 1 = pc' := by rfl) : Wq p e below En Q (T.setTop (mkF m pc ls (.long y :: .long x :: st))) := by subst hz hpc; exact Wq.step (fun _ q => XS.lxor X.here hx rfl hd rfl q) k
theorem Ow.ineg (X : Stand p l e R s m args below meth c T locs cells slots) (hx : p.tables.exec = Jvm.exec) {pc : Nat} {ls : Array Slot} {st : List Value} {pc' : Nat} {x : Int32} {z : Int32} (hd : decode c.code pc = .ok (.ineg, 1)) (hz : -x = z) (k : Wq p e below En Q (T.setTop (mkF m pc' ls (.int z :: st)))) (hpc : pc + 1 = pc' := by rfl) : Wq p e below En Q (T.setTop (mkF m pc ls (.int x :: st))) := by subst hz hpc; exact Wq.step (fun _ q => XS.ineg X.here hx rfl hd rfl q) k
theorem Ow.lneg (X : Stand p l e R s m args below meth c T locs cells slots) (hx : p.tables.exec = Jvm.exec) {pc : Nat} {ls : Array Slot} {st : List Value} {pc' : Nat} {x : Int64} {z : Int64} (hd : decode c.code pc = .ok (.lneg, 1)) (hz : -x = z) (k : Wq p e below En Q (T.setTop (mkF m pc' ls (.long z :: st)))) (hpc : pc + 1 = pc' := by rfl) : Wq p e below En Q (T.setTop (mkF m pc ls (.long x :: st))) := by subst hz hpc; exact Wq.step (fun _ q => XS.lneg X.here hx rfl hd rfl q) k
theorem Ow.i2l (X : Stand p l e R s m args below meth c T locs cells slots) (hx : p.tables.exec = Jvm.exec) {pc : Nat} {ls : Array Slot} {st : List Value} {pc' : Nat} {x : Int32} {z : Int64} (hd : decode c.code pc = .ok (.i2l, 1)) (hz : x.toInt64 = z) (k : Wq p e below En Q (T.setTop (mkF m pc' ls (.long z :: st)))) (hpc : pc + 1 = pc' := by rfl) : Wq p e below En Q (T.setTop (mkF m pc ls (.int x :: st))) := by subst hz hpc; exact Wq.step (fun _ q => XS.i2l X.here hx rfl hd rfl q) k
theorem Ow.l2i (X : Stand p l e R s m args below meth c T locs cells slots) (hx : p.tables.exec = Jvm.exec) {pc : Nat} {ls : Array Slot} {st : List Value} {pc' : Nat} {x : Int64} {z : Int32} (hd : decode c.code pc = .ok (.l2i, 1)) (hz : x.toInt32 = z) (k : Wq p e below En Q (T.setTop (mkF m pc' ls (.int z :: st)))) (hpc : pc + 1 = pc' := by rfl) : Wq p e below En Q (T.setTop (mkF m pc ls (.long x :: st))) := by subst hz hpc; exact Wq.step (fun _ q => XS.l2i X.here hx rfl hd rfl q) k
theorem Ow.i2b (X : Stand p l e R s m args below meth c T locs cells slots) (hx : p.tables.exec = Jvm.exec) {pc : Nat} {ls : Array Slot} {st : List Value} {pc' : Nat} {x : Int32} {z : Int32} (hd : decode c.code pc = .ok (.i2b, 1)) (hz : x.toInt8.toInt32 = z) (k : Wq p e below En Q (T.setTop (mkF m pc' ls (.int z :: st)))) (hpc : pc + 1 = pc' := by rfl) : Wq p e below En Q (T.setTop (mkF m pc ls (.int x :: st))) := by subst hz hpc; exact Wq.step (fun _ q => XS.i2b X.here hx rfl hd rfl q) k
theorem Ow.i2s (X : Stand p l e R s m args below meth c T locs cells slots) (hx : p.tables.exec = Jvm.exec) {pc : Nat} {ls : Array Slot} {st : List Value} {pc' : Nat} {x : Int32} {z : Int32} (hd : decode c.code pc = .ok (.i2s, 1)) (hz : x.toInt16.toInt32 = z) (k : Wq p e below En Q (T.setTop (mkF m pc' ls (.int z :: st)))) (hpc : pc + 1 = pc' := by rfl) : Wq p e below En Q (T.setTop (mkF m pc ls (.int x :: st))) := by subst hz hpc; exact Wq.step (fun _ q => XS.i2s X.here hx rfl hd rfl q) k
theorem Ow.i2c (X : Stand p l e R s m args below meth c T locs cells slots) (hx : p.tables.exec = Jvm.exec) {pc : Nat} {ls : Array Slot} {st : List Value} {pc' : Nat} {x : Int32} {z : Int32} (hd : decode c.code pc = .ok (.i2c, 1)) (hz : x.toUInt32.toUInt16.toUInt32.toInt32 = z) (k : Wq p e below En Q (T.setTop (mkF m pc' ls (.int z :: st)))) (hpc : pc + 1 = pc' := by rfl) : Wq p e below En Q (T.setTop (mkF m pc ls (.int x :: st))) := by subst hz hpc; exact Wq.step (fun _ q => XS.i2c X.here hx rfl hd rfl q) k
theorem Ow.ishl (X : Stand p l e R s m args below meth c T locs cells slots) (hx : p.tables.exec = Jvm.exec) {pc : Nat} {ls : Array Slot} {st : List Value} {pc' : Nat} {x : Int32} {y : Int32} {z : Int32} (hd : decode c.code pc = .ok (.ishl, 1)) (hz : x <<< (y &&& 31) = z) (k : Wq p e below En Q (T.setTop (mkF m pc' ls (.int z :: st)))) (hpc : pc + 1 = pc' := by rfl) : Wq p e below En Q (T.setTop (mkF m pc ls (.int y :: .int x :: st))) := by subst hz hpc; exact Wq.step (fun _ q => XS.ishl X.here hx rfl hd rfl q) k
theorem Ow.ishr (X : Stand p l e R s m args below meth c T locs cells slots) (hx : p.tables.exec = Jvm.exec) {pc : Nat} {ls : Array Slot} {st : List Value} {pc' : Nat} {x : Int32} {y : Int32} {z : Int32} (hd : decode c.code pc = .ok (.ishr, 1)) (hz : x >>> (y &&& 31) = z) (k : Wq p e below En Q (T.setTop (mkF m pc' ls (.int z :: st)))) (hpc : pc + 1 = pc' := by rfl) : Wq p e below En Q (T.setTop (mkF m pc ls (.int y :: .int x :: st))) := by subst hz hpc; exact Wq.step (fun _ q => XS.ishr X.here hx rfl hd rfl q) k
theorem Ow.iushr (X : Stand p l e R s m args below meth c T locs cells slots) (hx : p.tables.exec = Jvm.exec) {pc : Nat} {ls : Array Slot} {st : List Value} {pc' : Nat} {x : Int32} {y : Int32} {z : Int32} (hd : decode c.code pc = .ok (.iushr, 1)) (hz : (x.toUInt32 >>> (y &&& 31).toUInt32).toInt32 = z) (k : Wq p e below En Q (T.setTop (mkF m pc' ls (.int z :: st)))) (hpc : pc + 1 = pc' := by rfl) : Wq p e below En Q (T.setTop (mkF m pc ls (.int y :: .int x :: st))) := by subst hz hpc; exact Wq.step (fun _ q => XS.iushr X.here hx rfl hd rfl q) k
theorem Ow.lshl (X : Stand p l e R s m args below meth c T locs cells slots) (hx : p.tables.exec = Jvm.exec) {pc : Nat} {ls : Array Slot} {st : List Value} {pc' : Nat} {x : Int64} {y : Int32} {z : Int64} (hd : decode c.code pc = .ok (.lshl, 1)) (hz : x <<< (y &&& 0x3f).toInt64 = z) (k : Wq p e below En Q (T.setTop (mkF m pc' ls (.long z :: st)))) (hpc : pc + 1 = pc' := by rfl) : Wq p e below En Q (T.setTop (mkF m pc ls (.int y :: .long x :: st))) := by subst hz hpc; exact Wq.step (fun _ q => XS.lshl X.here hx rfl hd rfl q) k
theorem Ow.lshr (X : Stand p l e R s m args below meth c T locs cells slots) (hx : p.tables.exec = Jvm.exec) {pc : Nat} {ls : Array Slot} {st : List Value} {pc' : Nat} {x : Int64} {y : Int32} {z : Int64} (hd : decode c.code pc = .ok (.lshr, 1)) (hz : x >>> (y &&& 0x3f).toInt64 = z) (k : Wq p e below En Q (T.setTop (mkF m pc' ls (.long z :: st)))) (hpc : pc + 1 = pc' := by rfl) : Wq p e below En Q (T.setTop (mkF m pc ls (.int y :: .long x :: st))) := by subst hz hpc; exact Wq.step (fun _ q => XS.lshr X.here hx rfl hd rfl q) k
theorem Ow.lushr (X : Stand p l e R s m args below meth c T locs cells slots) (hx : p.tables.exec = Jvm.exec) {pc : Nat} {ls : Array Slot} {st : List Value} {pc' : Nat} {x : Int64} {y : Int32} {z : Int64} (hd : decode c.code pc = .ok (.lushr, 1)) (hz : (x.toUInt64 >>> (y &&& 0x3f).toInt64.toUInt64).toInt64 = z) (k : Wq p e below En Q (T.setTop (mkF m pc' ls (.long z :: st)))) (hpc : pc + 1 = pc' := by rfl) : Wq p e below En Q (T.setTop (mkF m pc ls (.int y :: .long x :: st))) := by subst hz hpc; exact Wq.step (fun _ q => XS.lushr X.here hx rfl hd rfl q) k
theorem Ow.lcmp (X : Stand p l e R s m args below meth c T locs cells slots) (hx : p.tables.exec = Jvm.exec) {pc : Nat} {ls : Array Slot} {st : List Value} {pc' : Nat} {x y : Int64} (hd : decode c.code pc = .ok (.lcmp, 1))  (k : Wq p e below En Q (T.setTop (mkF m pc' ls (.int (lcmpW x y) :: st)))) (hpc : pc + 1 = pc' := by rfl) : Wq p e below En Q (T.setTop (mkF m pc ls (.long y :: .long x :: st))) := by subst hpc; exact Wq.step (fun _ q => XS.lcmp X.here hx rfl hd rfl q) k
theorem Ow.idiv (X : Stand p l e R s m args below meth c T locs cells slots) (hx : p.tables.exec = Jvm.exec) {pc : Nat} {ls : Array Slot} {st : List Value} {pc' : Nat} {x y z : Int32} (hd : decode c.code pc = .ok (.idiv, 1)) (hy : y ≠ 0) (hz : x / y = z) (k : Wq p e below En Q (T.setTop (mkF m pc' ls (.int z :: st)))) (hpc : pc + 1 = pc' := by rfl) : Wq p e below En Q (T.setTop (mkF m pc ls (.int y :: .int x :: st))) := by subst hz hpc; exact Wq.step (fun _ q => XS.idiv X.here hx rfl hd rfl hy q) k
theorem Ow.ldiv (X : Stand p l e R s m args below meth c T locs cells slots) (hx : p.tables.exec = Jvm.exec) {pc : Nat} {ls : Array Slot} {st : List Value} {pc' : Nat} {x y z : Int64} (hd : decode c.code pc = .ok (.ldiv, 1)) (hy : y ≠ 0) (hz : x / y = z) (k : Wq p e below En Q (T.setTop (mkF m pc' ls (.long z :: st)))) (hpc : pc + 1 = pc' := by rfl) : Wq p e below En Q (T.setTop (mkF m pc ls (.long y :: .long x :: st))) := by subst hz hpc; exact Wq.step (fun _ q => XS.ldiv X.here hx rfl hd rfl hy q) k
theorem Ow.irem (X : Stand p l e R s m args below meth c T locs cells slots) (hx : p.tables.exec = Jvm.exec) {pc : Nat} {ls : Array Slot} {st : List Value} {pc' : Nat} {x y z : Int32} (hd : decode c.code pc = .ok (.irem, 1)) (hy : y ≠ 0) (hz : x % y = z) (k : Wq p e below En Q (T.setTop (mkF m pc' ls (.int z :: st)))) (hpc : pc + 1 = pc' := by rfl) : Wq p e below En Q (T.setTop (mkF m pc ls (.int y :: .int x :: st))) := by subst hz hpc; exact Wq.step (fun _ q => iremM X hx rfl hd rfl hy q) k
theorem Ow.lrem (X : Stand p l e R s m args below meth c T locs cells slots) (hx : p.tables.exec = Jvm.exec) {pc : Nat} {ls : Array Slot} {st : List Value} {pc' : Nat} {x y z : Int64} (hd : decode c.code pc = .ok (.lrem, 1)) (hy : y ≠ 0) (hz : x % y = z) (k : Wq p e below En Q (T.setTop (mkF m pc' ls (.long z :: st)))) (hpc : pc + 1 = pc' := by rfl) : Wq p e below En Q (T.setTop (mkF m pc ls (.long y :: .long x :: st))) := by
  rw [← lrem_mod] at hz
  subst hz hpc
  exact Wq.step (fun _ q => XS.lrem X.here hx rfl hd rfl hy q) k
theorem Ow.iinc (X : Stand p l e R s m args below meth c T locs cells slots) (hx : p.tables.exec = Jvm.exec) {pc : Nat} {ls : Array Slot} {st : List Value} {pc' : Nat} {i : Nat} {cst : Int} {x : Int32} {l' : Array Slot} (hd : decode c.code pc = .ok (.iinc i cst, 3)) (hl : ls[i]? = some (.val (.int x))) (hl' : storeLocals ls i (.int (x + Int32.ofInt cst)) = some l') (k : Wq p e below En Q (T.setTop (mkF m pc' l' st))) (hpc : pc + 3 = pc' := by rfl) : Wq p e below En Q (T.setTop (mkF m pc ls st)) := by subst hpc; exact Wq.step (fun _ q => XS.iinc X.here hx rfl hd hl hl' q) k
theorem Ow.dup (X : Stand p l e R s m args below meth c T locs cells slots) (hx : p.tables.exec = Jvm.exec) {pc : Nat} {ls : Array Slot} {st : List Value} {pc' : Nat} {x : Value} (hd : decode c.code pc = .ok (.dup, 1)) (hc : x.category = 1) (k : Wq p e below En Q (T.setTop (mkF m pc' ls (x :: x :: st)))) (hpc : pc + 1 = pc' := by rfl) : Wq p e below En Q (T.setTop (mkF m pc ls (x :: st))) := by subst hpc; exact Wq.step (fun _ q => XS.dup X.here hx rfl hd rfl hc q) k
theorem Ow.pop (X : Stand p l e R s m args below meth c T locs cells slots) (hx : p.tables.exec = Jvm.exec) {pc : Nat} {ls : Array Slot} {st : List Value} {pc' : Nat} {x : Value} (hd : decode c.code pc = .ok (.pop, 1)) (hc : x.category = 1) (k : Wq p e below En Q (T.setTop (mkF m pc' ls st))) (hpc : pc + 1 = pc' := by rfl) : Wq p e below En Q (T.setTop (mkF m pc ls (x :: st))) := by subst hpc; exact Wq.step (fun _ q => XS.pop X.here hx rfl hd rfl hc q) k
theorem Ow.dupX1 (X : Stand p l e R s m args below meth c T locs cells slots) (hx : p.tables.exec = Jvm.exec) {pc : Nat} {ls : Array Slot} {st : List Value} {pc' : Nat} {x y : Value} (hd : decode c.code pc = .ok (.dup_x1, 1)) (hc : x.category = 1) (hc' : y.category = 1) (k : Wq p e below En Q (T.setTop (mkF m pc' ls (x :: y :: x :: st)))) (hpc : pc + 1 = pc' := by rfl) : Wq p e below En Q (T.setTop (mkF m pc ls (x :: y :: st))) := by subst hpc; exact Wq.step (fun _ q => XS.dupX1 X.here hx rfl hd rfl hc hc' q) k
theorem Ow.swap (X : Stand p l e R s m args below meth c T locs cells slots) (hx : p.tables.exec = Jvm.exec) {pc : Nat} {ls : Array Slot} {st : List Value} {pc' : Nat} {x y : Value} (hd : decode c.code pc = .ok (.swap, 1)) (hc : x.category = 1) (hc' : y.category = 1) (k : Wq p e below En Q (T.setTop (mkF m pc' ls (y :: x :: st)))) (hpc : pc + 1 = pc' := by rfl) : Wq p e below En Q (T.setTop (mkF m pc ls (x :: y :: st))) := by subst hpc; exact Wq.step (fun _ q => XS.swap X.here hx rfl hd rfl hc hc' q) k
theorem Ow.dup2 (X : Stand p l e R s m args below meth c T locs cells slots) (hx : p.tables.exec = Jvm.exec) {pc : Nat} {ls : Array Slot} {st : List Value} {pc' : Nat} {x y : Value} (hd : decode c.code pc = .ok (.dup2, 1)) (hc : x.category = 1) (hc' : y.category = 1) (k : Wq p e below En Q (T.setTop (mkF m pc' ls (x :: y :: x :: y :: st)))) (hpc : pc + 1 = pc' := by rfl) : Wq p e below En Q (T.setTop (mkF m pc ls (x :: y :: st))) := by subst hpc; exact Wq.step (fun _ q => Jvm.Free.XT.dup2 X.here hx rfl hd rfl hc hc' q) k
theorem Ow.dup2L (X : Stand p l e R s m args below meth c T locs cells slots) (hx : p.tables.exec = Jvm.exec) {pc : Nat} {ls : Array Slot} {st : List Value} {pc' : Nat} {x : Int64} (hd : decode c.code pc = .ok (.dup2, 1))  (k : Wq p e below En Q (T.setTop (mkF m pc' ls (.long x :: .long x :: st)))) (hpc : pc + 1 = pc' := by rfl) : Wq p e below En Q (T.setTop (mkF m pc ls (.long x :: st))) := by subst hpc; exact Wq.step (fun _ q => Jvm.Free.XT.dup2L X.here hx rfl hd rfl q) k
theorem Ow.goto (X : Stand p l e R s m args below meth c T locs cells slots) (hx : p.tables.exec = Jvm.exec) {pc : Nat} {ls : Array Slot} {st : List Value} {o : Int} {pc' : Nat} (hd : decode c.code pc = .ok (.goto o, 3)) (ho : 0 ≤ (pc : Int) + o) (hp : ((pc : Int) + o).toNat = pc') (k : Wq p e below En Q (T.setTop (mkF m pc' ls st))) : Wq p e below En Q (T.setTop (mkF m pc ls st)) := Wq.step (fun _ q => XS.goto X.here hx rfl rfl hd ho hp q) k
theorem Ow.ifYes (X : Stand p l e R s m args below meth c T locs cells slots) (hx : p.tables.exec = Jvm.exec) {pc : Nat} {ls : Array Slot} {st : List Value} {cd : ClassFile.Cond} {x : Int32} {o : Int} {pc' : Nat} (hd : decode c.code pc = .ok (.ifCond cd o, 3)) (hc : ifCond.holds cd x = true) (ho : 0 ≤ (pc : Int) + o) (hp : ((pc : Int) + o).toNat = pc') (k : Wq p e below En Q (T.setTop (mkF m pc' ls st))) : Wq p e below En Q (T.setTop (mkF m pc ls (.int x :: st))) := Wq.step (fun _ q => XS.ifYes X.here hx rfl rfl hd rfl hc ho hp q) k
theorem Ow.ifNo (X : Stand p l e R s m args below meth c T locs cells slots) (hx : p.tables.exec = Jvm.exec) {pc : Nat} {ls : Array Slot} {st : List Value} {pc' : Nat} {cd : ClassFile.Cond} {x : Int32} {o : Int} (hd : decode c.code pc = .ok (.ifCond cd o, 3)) (hc : ifCond.holds cd x = false) (k : Wq p e below En Q (T.setTop (mkF m pc' ls st))) (hpc : pc + 3 = pc' := by rfl) : Wq p e below En Q (T.setTop (mkF m pc ls (.int x :: st))) := by subst hpc; exact Wq.step (fun _ q => XS.ifNo X.here hx rfl hd rfl hc q) k
theorem Ow.icmpYes (X : Stand p l e R s m args below meth c T locs cells slots) (hx : p.tables.exec = Jvm.exec) {pc : Nat} {ls : Array Slot} {st : List Value} {cd : ClassFile.Cond} {x y : Int32} {o : Int} {pc' : Nat} (hd : decode c.code pc = .ok (.if_icmp cd o, 3)) (hc : if_icmp.holds cd x y = true) (ho : 0 ≤ (pc : Int) + o) (hp : ((pc : Int) + o).toNat = pc') (k : Wq p e below En Q (T.setTop (mkF m pc' ls st))) : Wq p e below En Q (T.setTop (mkF m pc ls (.int y :: .int x :: st))) := Wq.step (fun _ q => XS.icmpYes X.here hx rfl rfl hd rfl hc ho hp q) k
theorem Ow.icmpNo (X : Stand p l e R s m args below meth c T locs cells slots) (hx : p.tables.exec = Jvm.exec) {pc : Nat} {ls : Array Slot} {st : List Value} {pc' : Nat} {cd : ClassFile.Cond} {x y : Int32} {o : Int} (hd : decode c.code pc = .ok (.if_icmp cd o, 3)) (hc : if_icmp.holds cd x y = false) (k : Wq p e below En Q (T.setTop (mkF m pc' ls st))) (hpc : pc + 3 = pc' := by rfl) : Wq p e below En Q (T.setTop (mkF m pc ls (.int y :: .int x :: st))) := by subst hpc; exact Wq.step (fun _ q => XS.icmpNo X.here hx rfl hd rfl hc q) k
theorem Ow.ifnullYes (X : Stand p l e R s m args below meth c T locs cells slots) (hx : p.tables.exec = Jvm.exec) {pc : Nat} {ls : Array Slot} {st : List Value} {o : Int} {pc' : Nat} (hd : decode c.code pc = .ok (.ifnull o, 3)) (ho : 0 ≤ (pc : Int) + o) (hp : ((pc : Int) + o).toNat = pc') (k : Wq p e below En Q (T.setTop (mkF m pc' ls st))) : Wq p e below En Q (T.setTop (mkF m pc ls (.null :: st))) := Wq.step (fun _ q => XS.ifnullYes X.here hx rfl rfl hd rfl ho hp q) k
theorem Ow.ifnullNo (X : Stand p l e R s m args below meth c T locs cells slots) (hx : p.tables.exec = Jvm.exec) {pc : Nat} {ls : Array Slot} {st : List Value} {pc' : Nat} {o : Int} {b : Addr} (hd : decode c.code pc = .ok (.ifnull o, 3))  (k : Wq p e below En Q (T.setTop (mkF m pc' ls st))) (hpc : pc + 3 = pc' := by rfl) : Wq p e below En Q (T.setTop (mkF m pc ls (.ref b :: st))) := by subst hpc; exact Wq.step (fun _ q => XS.ifnullNo X.here hx rfl hd rfl q) k
theorem Ow.ifnonnullYes (X : Stand p l e R s m args below meth c T locs cells slots) (hx : p.tables.exec = Jvm.exec) {pc : Nat} {ls : Array Slot} {st : List Value} {o : Int} {b : Addr} {pc' : Nat} (hd : decode c.code pc = .ok (.ifnonnull o, 3)) (ho : 0 ≤ (pc : Int) + o) (hp : ((pc : Int) + o).toNat = pc') (k : Wq p e below En Q (T.setTop (mkF m pc' ls st))) : Wq p e below En Q (T.setTop (mkF m pc ls (.ref b :: st))) := Wq.step (fun _ q => XS.ifnonnullYes X.here hx rfl rfl hd rfl ho hp q) k
theorem Ow.ifnonnullNo (X : Stand p l e R s m args below meth c T locs cells slots) (hx : p.tables.exec = Jvm.exec) {pc : Nat} {ls : Array Slot} {st : List Value} {pc' : Nat} {o : Int} (hd : decode c.code pc = .ok (.ifnonnull o, 3))  (k : Wq p e below En Q (T.setTop (mkF m pc' ls st))) (hpc : pc + 3 = pc' := by rfl) : Wq p e below En Q (T.setTop (mkF m pc ls (.null :: st))) := by subst hpc; exact Wq.step (fun _ q => XS.ifnonnullNo X.here hx rfl hd rfl q) k
theorem Ow.acmp (X : Stand p l e R s m args below meth c T locs cells slots) (hx : p.tables.exec = Jvm.exec) {pc : Nat} {ls : Array Slot} {st : List Value} {cd : ACond} {x y : Value} {o : Int} {pc' : Nat} {same : Bool} (hd : decode c.code pc = .ok (.if_acmp cd o, 3)) (h1 : x.isRef = true) (h2 : y.isRef = true) (hq : decide (x = y) = same) (ho : 0 ≤ (pc : Int) + o) (hp : pc' = if acV cd same = true then ((pc : Int) + o).toNat else pc + 3) (k : Wq p e below En Q (T.setTop (mkF m pc' ls st))) : Wq p e below En Q (T.setTop (mkF m pc ls (y :: x :: st))) := Wq.step (fun _ q => Jvm.RoadKit.acmp (g := mkF m pc ls (y :: x :: st)) X hx rfl h1 h2 rfl hd rfl hq ho hp q) k
theorem Ow.ldcInt (X : Stand p l e R s m args below meth c T locs cells slots) (hx : p.tables.exec = Jvm.exec) (hZ : Z.Warmed39 s.vm) {a0 : Array Value} {own : String} {index : Nat} {v : Int32} {pc pc' : Nat} {ls : Array Slot} {st : List Value} (hown : s.vm.findClass own = some m.cls) (w : (Cond.constant own index v).before a0 Z = true) (hd : decode c.code pc = .ok (.ldc index, 2)) (k : Wq p e below En Q (T.setTop (mkF m pc' ls (.int v :: st)))) (hpc : pc + 2 = pc' := by rfl) : Wq p e below En Q (T.setTop (mkF m pc ls st)) := by subst hpc; exact Wq.step (fun _ q => X.ldcInt hx hown (mvT hZ w) (g := mkF m pc ls st) rfl hd _ q) k
theorem Ow.ldcwInt (X : Stand p l e R s m args below meth c T locs cells slots) (hx : p.tables.exec = Jvm.exec) (hZ : Z.Warmed39 s.vm) {a0 : Array Value} {own : String} {index : Nat} {v : Int32} {pc pc' : Nat} {ls : Array Slot} {st : List Value} (hown : s.vm.findClass own = some m.cls) (w : (Cond.constant own index v).before a0 Z = true) (hd : decode c.code pc = .ok (.ldc_w index, 3)) (k : Wq p e below En Q (T.setTop (mkF m pc' ls (.int v :: st)))) (hpc : pc + 3 = pc' := by rfl) : Wq p e below En Q (T.setTop (mkF m pc ls st)) := by subst hpc; exact Wq.step (fun _ q => X.ldcwInt hx hown (mvT hZ w) (g := mkF m pc ls st) rfl hd _ q) k
theorem Ow.ldc2Long (X : Stand p l e R s m args below meth c T locs cells slots) (hx : p.tables.exec = Jvm.exec) (hZ : Z.Warmed39 s.vm) {a0 : Array Value} {own : String} {index : Nat} {v : Int64} {pc pc' : Nat} {ls : Array Slot} {st : List Value} (hown : s.vm.findClass own = some m.cls) (w : (Cond.constantLong own index v).before a0 Z = true) (hd : decode c.code pc = .ok (.ldc2_w index, 3)) (k : Wq p e below En Q (T.setTop (mkF m pc' ls (.long v :: st)))) (hpc : pc + 3 = pc' := by rfl) : Wq p e below En Q (T.setTop (mkF m pc ls st)) := by subst hpc; exact Wq.step (fun _ q => X.ldc2Long hx hown (mvT hZ w) (g := mkF m pc ls st) rfl hd _ q) k
theorem Ow.ldI (X : Stand p l e R s m args below meth c T locs cells slots) (hx : p.tables.exec = Jvm.exec) (hZ : Z.Warmed39 s.vm) (eT : T.heap = h) (V : Al Z h a .int vs) {pc pc' : Nat} {ls : Array Slot} {st : List Value} {j : Int32} {i : Nat} (hd : decode c.code pc = .ok (.iaload, 1)) (hj : ¬ j < 0) (hi : j.toNatClampNeg = i) (hv : vs[i]? = some v) (k : Wq p e below En Q (T.setTop (mkF m pc' ls (v :: st)))) (hpc : pc + 1 = pc' := by rfl) : Wq p e below En Q (T.setTop (mkF m pc ls (.int j :: .ref a :: st))) := by subst hpc; exact Wq.step (fun _ q => Jvm.OwnW.ldI X hx hZ eT V hj hi hv (g := mkF m pc ls (.int j :: .ref a :: st)) rfl rfl hd q) k
theorem Ow.ldJ (X : Stand p l e R s m args below meth c T locs cells slots) (hx : p.tables.exec = Jvm.exec) (hZ : Z.Warmed39 s.vm) (eT : T.heap = h) (V : Al Z h a .long vs) {pc pc' : Nat} {ls : Array Slot} {st : List Value} {j : Int32} {i : Nat} (hd : decode c.code pc = .ok (.laload, 1)) (hj : ¬ j < 0) (hi : j.toNatClampNeg = i) (hv : vs[i]? = some v) (k : Wq p e below En Q (T.setTop (mkF m pc' ls (v :: st)))) (hpc : pc + 1 = pc' := by rfl) : Wq p e below En Q (T.setTop (mkF m pc ls (.int j :: .ref a :: st))) := by subst hpc; exact Wq.step (fun _ q => Jvm.OwnW.ldJ X hx hZ eT V hj hi hv (g := mkF m pc ls (.int j :: .ref a :: st)) rfl rfl hd q) k
theorem Ow.ldC (X : Stand p l e R s m args below meth c T locs cells slots) (hx : p.tables.exec = Jvm.exec) (hZ : Z.Warmed39 s.vm) (eT : T.heap = h) (V : Al Z h a .char vs) {pc pc' : Nat} {ls : Array Slot} {st : List Value} {j : Int32} {i : Nat} (hd : decode c.code pc = .ok (.caload, 1)) (hj : ¬ j < 0) (hi : j.toNatClampNeg = i) (hv : vs[i]? = some v) (k : Wq p e below En Q (T.setTop (mkF m pc' ls (v :: st)))) (hpc : pc + 1 = pc' := by rfl) : Wq p e below En Q (T.setTop (mkF m pc ls (.int j :: .ref a :: st))) := by subst hpc; exact Wq.step (fun _ q => Jvm.OwnW.ldC X hx hZ eT V hj hi hv (g := mkF m pc ls (.int j :: .ref a :: st)) rfl rfl hd q) k
theorem Ow.ldB (X : Stand p l e R s m args below meth c T locs cells slots) (hx : p.tables.exec = Jvm.exec) (hZ : Z.Warmed39 s.vm) (eT : T.heap = h) (V : Al Z h a .byte vs) {pc pc' : Nat} {ls : Array Slot} {st : List Value} {j : Int32} {i : Nat} (hd : decode c.code pc = .ok (.baload, 1)) (hj : ¬ j < 0) (hi : j.toNatClampNeg = i) (hv : vs[i]? = some v) (k : Wq p e below En Q (T.setTop (mkF m pc' ls (v :: st)))) (hpc : pc + 1 = pc' := by rfl) : Wq p e below En Q (T.setTop (mkF m pc ls (.int j :: .ref a :: st))) := by subst hpc; exact Wq.step (fun _ q => Jvm.OwnW.ldB X hx hZ eT V hj hi hv (g := mkF m pc ls (.int j :: .ref a :: st)) rfl rfl hd q) k
theorem Ow.ldZ (X : Stand p l e R s m args below meth c T locs cells slots) (hx : p.tables.exec = Jvm.exec) (hZ : Z.Warmed39 s.vm) (eT : T.heap = h) (V : Al Z h a .boolean vs) {pc pc' : Nat} {ls : Array Slot} {st : List Value} {j : Int32} {i : Nat} (hd : decode c.code pc = .ok (.baload, 1)) (hj : ¬ j < 0) (hi : j.toNatClampNeg = i) (hv : vs[i]? = some v) (k : Wq p e below En Q (T.setTop (mkF m pc' ls (v :: st)))) (hpc : pc + 1 = pc' := by rfl) : Wq p e below En Q (T.setTop (mkF m pc ls (.int j :: .ref a :: st))) := by subst hpc; exact Wq.step (fun _ q => Jvm.OwnW.ldZ X hx hZ eT V hj hi hv (g := mkF m pc ls (.int j :: .ref a :: st)) rfl rfl hd q) k
theorem Ow.ldR (X : Stand p l e R s m args below meth c T locs cells slots) (hx : p.tables.exec = Jvm.exec) (hZ : Z.Warmed39 s.vm) (eT : T.heap = h) (V : Al Z h a ty vs) (hty : ty.isReference = true) {pc pc' : Nat} {ls : Array Slot} {st : List Value} {j : Int32} {i : Nat} (hd : decode c.code pc = .ok (.aaload, 1)) (hj : ¬ j < 0) (hi : j.toNatClampNeg = i) (hv : vs[i]? = some v) (k : Wq p e below En Q (T.setTop (mkF m pc' ls (v :: st)))) (hpc : pc + 1 = pc' := by rfl) : Wq p e below En Q (T.setTop (mkF m pc ls (.int j :: .ref a :: st))) := by
  subst hpc
  obtain ⟨cl, A, r⟩ := V
  exact Wq.step (fun _ q => X.aaload hx (by rw [eT]; exact A.1) (State.isArrayOf_alike hZ.alike A.2.1) hty A.2.2 (al_in r hj hi (al_lt hv)) (al_at r hi hv) (g := mkF m pc ls (.int j :: .ref a :: st)) rfl rfl hd _ q) k
theorem Ow.lenA (X : Stand p l e R s m args below meth c T locs cells slots) (hx : p.tables.exec = Jvm.exec) (hZ : Z.Warmed39 s.vm) (eT : T.heap = h) (V : Al Z h a ty vs) {pc pc' : Nat} {ls : Array Slot} {st : List Value} {n : Int32} (hd : decode c.code pc = .ok (.arraylength, 1)) (hn : vs.length.toInt32 = n) (k : Wq p e below En Q (T.setTop (mkF m pc' ls (.int n :: st)))) (hpc : pc + 1 = pc' := by rfl) : Wq p e below En Q (T.setTop (mkF m pc ls (.ref a :: st))) := by subst hpc; exact Wq.step (fun _ q => Jvm.OwnW.lenA X hx hZ eT V hn (g := mkF m pc ls (.ref a :: st)) rfl rfl hd q) k
end Base
end Jvm.OwnW
namespace Jvm.Pilot.@@N@@
open Jvm Jvm.ClassFile Sem Op Lib Jvm.Free Jvm.Stand Jvm.LawKit Jvm.RoadKit Jvm.OwnW Bundle Jvm.Pilot.@@N@@.Jvm.D
theorem kw7 {Z : State} {a0 : Array Value} (hw : ∀ d ∈ tables_1, d.before a0 Z = true) : (Jvm.Cond.methodLink "com/example/tauten/tauten/ChangeList" (1 : Nat) ({ cls := "java/lang/Object", name := "<init>", desc := "()V" } : Jvm.MethodName)).before a0 Z = true := hw _ (List.mem_of_getElem? (i := 7) rfl)
theorem kw8 {Z : State} {a0 : Array Value} (hw : ∀ d ∈ tables_1, d.before a0 Z = true) : (Jvm.Cond.instanceMethod ({ cls := "java/lang/Object", name := "<init>", desc := "()V" } : Jvm.MethodName)).before a0 Z = true := hw _ (List.mem_of_getElem? (i := 8) rfl)
theorem kw9 {Z : State} {a0 : Array Value} (hw : ∀ d ∈ tables_1, d.before a0 Z = true) : (Jvm.Cond.code ({ cls := "java/lang/Object", name := "<init>", desc := "()V" } : Jvm.MethodName) object_method_1_code (1 : Nat) (Option.none : Option Jvm.ClassFile.FieldType)).before a0 Z = true := hw _ (List.mem_of_getElem? (i := 9) rfl)
theorem kw10 {Z : State} {a0 : Array Value} (hw : ∀ d ∈ tables_1, d.before a0 Z = true) : (Jvm.Cond.arrayClass Jvm.ClassFile.FieldType.int).before a0 Z = true := hw _ (List.mem_of_getElem? (i := 10) rfl)
theorem kw12 {Z : State} {a0 : Array Value} (hw : ∀ d ∈ tables_1, d.before a0 Z = true) : (Jvm.Cond.laysFinal "com/example/tauten/tauten/ChangeList" "com/example/tauten/tauten/ChangeList" "noted" "[I").before a0 Z = true := hw _ (List.mem_of_getElem? (i := 12) rfl)
theorem kw11 {Z : State} {a0 : Array Value} (hw : ∀ d ∈ tables_1, d.before a0 Z = true) : (Jvm.Cond.fieldLink "com/example/tauten/tauten/ChangeList" (7 : Nat) "com/example/tauten/tauten/ChangeList" "noted" "[I").before a0 Z = true := hw _ (List.mem_of_getElem? (i := 11) rfl)
theorem kw2 {Z : State} {a0 : Array Value} (hw : ∀ d ∈ tables_1, d.before a0 Z = true) : (Jvm.Cond.instantiable "com/example/tauten/tauten/ChangeList" (3 : Nat)).before a0 Z = true := hw _ (List.mem_of_getElem? (i := 2) rfl)
theorem kw15 {Z : State} {a0 : Array Value} (hw : ∀ d ∈ tables_1, d.before a0 Z = true) : (Jvm.Cond.laysFinal "com/example/tauten/tauten/ChangeList" "com/example/tauten/tauten/ChangeList" "isNoted" "[Z").before a0 Z = true := hw _ (List.mem_of_getElem? (i := 15) rfl)
theorem kw22 {Z : State} {a0 : Array Value} (hw : ∀ d ∈ tables_1, d.before a0 Z = true) : (Jvm.Cond.lays "com/example/tauten/tauten/ChangeList" "com/example/tauten/tauten/ChangeList" "count" "I").before a0 Z = true := hw _ (List.mem_of_getElem? (i := 22) rfl)
theorem kw13 {Z : State} {a0 : Array Value} (hw : ∀ d ∈ tables_1, d.before a0 Z = true) : (Jvm.Cond.arrayClass Jvm.ClassFile.FieldType.boolean).before a0 Z = true := hw _ (List.mem_of_getElem? (i := 13) rfl)
theorem kw14 {Z : State} {a0 : Array Value} (hw : ∀ d ∈ tables_1, d.before a0 Z = true) : (Jvm.Cond.fieldLink "com/example/tauten/tauten/ChangeList" (13 : Nat) "com/example/tauten/tauten/ChangeList" "isNoted" "[Z").before a0 Z = true := hw _ (List.mem_of_getElem? (i := 14) rfl)
theorem d_prog_3_method_1_0 : decode prog_3_method_1_code 0 = .ok (.aload_n 0, 1) := by decide +kernel
theorem d_prog_3_method_1_1 : decode prog_3_method_1_code 1 = .ok (.invokespecial 1, 3) := by decide +kernel
theorem d_prog_3_method_1_4 : decode prog_3_method_1_code 4 = .ok (.aload_n 0, 1) := by decide +kernel
theorem d_prog_3_method_1_5 : decode prog_3_method_1_code 5 = .ok (.iload_n 1, 1) := by decide +kernel
theorem d_prog_3_method_1_6 : decode prog_3_method_1_code 6 = .ok (.newarray .int, 2) := by decide +kernel
theorem d_prog_3_method_1_8 : decode prog_3_method_1_code 8 = .ok (.putfield 7, 3) := by decide +kernel
theorem d_prog_3_method_1_11 : decode prog_3_method_1_code 11 = .ok (.aload_n 0, 1) := by decide +kernel
theorem d_prog_3_method_1_12 : decode prog_3_method_1_code 12 = .ok (.iload_n 1, 1) := by decide +kernel
theorem d_prog_3_method_1_13 : decode prog_3_method_1_code 13 = .ok (.newarray .boolean, 2) := by decide +kernel
theorem d_prog_3_method_1_15 : decode prog_3_method_1_code 15 = .ok (.putfield 13, 3) := by decide +kernel
theorem pn1 : plainName "com/example/tauten/tauten/ChangeList" = true := by first | (simp [plainName, overriddenIn]; done) | decide +kernel
theorem ef_ctor (m : MethodId) (thisctor : Addr) : entryFrame m #[(.ref thisctor), (.int (3 : Int32))] 2 = mkF m 0 #[.val (.ref thisctor), .val (.int (3 : Int32))] [] := by first | (simp [entryFrame, mkF, argsToLocals, Value.category]; done) | rfl
def Q_ctor (Z : State) (thisctor : Addr) (h0 : Heap) (n0 : Nat) (v : Option Value) (h : Heap) (L : List Loc) : Prop := ∃ b2 b4 : Addr, v = none ∧ Fr n0 L ∧ Keep h0 h [thisctor] ∧ h0.size ≤ b2 ∧ h0.size ≤ b4 ∧ b2 ≠ b4 ∧ Exa Z h thisctor "com/example/tauten/tauten/ChangeList" ∧ Fld Z h thisctor "com/example/tauten/tauten/ChangeList" "count" "I" (.int (0 : Int32)) ∧ Al Z h b2 .int [(.int (0 : Int32)), (.int (0 : Int32)), (.int (0 : Int32))] ∧ Fld Z h thisctor "com/example/tauten/tauten/ChangeList" "noted" "[I" (.ref b2) ∧ Al Z h b4 .boolean [(.int (0 : Int32)), (.int (0 : Int32)), (.int (0 : Int32))] ∧ Fld Z h thisctor "com/example/tauten/tauten/ChangeList" "isNoted" "[Z" (.ref b4)
theorem d_prog_3_method_1_18 : decode prog_3_method_1_code 18 = .ok (.return_, 1) := by decide +kernel
abbrev mt1 : MethodName := ⟨"com/example/tauten/tauten/ChangeList", "<init>", "(I)V"⟩
set_option maxRecDepth 65536 in
set_option maxHeartbeats 40000000 in
theorem rm_ctor (l : Launch) (Z : State) (a0 : Array Value) (hw : ∀ d ∈ tables_1, d.before a0 Z = true) (ws : List Jvm.Cond) (thisctor : Addr) (h0 : Heap) (n0 : Nat) (Z0 : n0 ≤ h0.size) (E_thisctor : Exa Z h0 thisctor "com/example/tauten/tauten/ChangeList") (F_thisctor_noted : Fld Z h0 thisctor "com/example/tauten/tauten/ChangeList" "noted" "[I" .null) (F_thisctor_isNoted : Fld Z h0 thisctor "com/example/tauten/tauten/ChangeList" "isNoted" "[Z" .null) (F_thisctor_count : Fld Z h0 thisctor "com/example/tauten/tauten/ChangeList" "count" "I" (.int (0 : Int32))) (g_thisctor : n0 ≤ thisctor) :
    MetFree l mt1 (head1 (Jvm.Cond.code mt1 prog_3_method_1_code 2 none :: ws) ({ frames := 1, cells := 2, slots := 6, locals := 12 } : Room)) (fun a U => a = #[(.ref thisctor), (.int (3 : Int32))] ∧ Z.Warmed39 U.vm ∧ U.heap = h0) (fun _ _ _ _ _ => True) (fun _ U o U' => ∃ v L, o = .returned v ∧ (Q_ctor Z thisctor h0 n0) v U'.heap L ∧ FrameEnd U o U' L ({ frames := 1, cells := 2, slots := 6, locals := 12 } : Room).cells ({ frames := 1, cells := 2, slots := 6, locals := 12 } : Room).slots) := by
  refine MetFree.of_bodySF (plainFor_of_name pn1) hisR ?_
  intro p e s m args below meth c s₁ Bd hml0 hP hK
  obtain ⟨rfl, hZ, hh⟩ := hP
  have hx := Bd.exec
  have hby := Bd.bytes
  have hml : c.maxLocals = 2 := hml0
  have hown : s.vm.findClass "com/example/tauten/tauten/ChangeList" = some m.cls := findClass_of_methodNamed Bd.named
  have hnm := (name_of_methodNamed Bd.named Bd.method).1
  have X0 : Stand p l e ({ frames := 1, cells := 2, slots := 6, locals := 12 } : Room) s m #[(.ref thisctor), (.int (3 : Int32))] below meth c s₁ [] 0 0 := Stand.of_body Bd
  have e0 : s₁.heap = h0 := by rw [← hh, Bd.state]; rfl
  have N0 := Fr.nil n0
  refine Wq.step (p := p) (e := e) (below := below) (En := (fun o t L => FrameEnd s o t L ({ frames := 1, cells := 2, slots := 6, locals := 12 } : Room).cells ({ frames := 1, cells := 2, slots := 6, locals := 12 } : Room).slots)) (Q := (Q_ctor Z thisctor h0 n0)) (fun t k => castTop (ef_ctor m thisctor) k) ?_
  show Wq _ _ _ _ _ (s₁.setTop (mkF m 0 #[.val (.ref thisctor), .val (.int (3 : Int32))] []))
  refine Ow.aloadN X0 hx (pc' := 1) (hb hby d_prog_3_method_1_0) rfl rfl ?_
  obtain ⟨T1, X1, e1, st1⟩ := initO X0 hx hZ hown (kw7 hw) (kw8 hw) (kw9 hw) e0 (g := (mkF m 1 #[.val (.ref thisctor), .val (.int (3 : Int32))] [(.ref thisctor)])) rfl (by rw [hml]; rfl) rfl (hb hby d_prog_3_method_1_1) (by decide) (W := 0) (by show 2 * 0 + _ ≤ _; exact Nat.le_of_eq rfl) (by decide)
  refine Wq.step st1 ?_
  show Wq _ _ _ _ _ (T1.setTop (mkF m 4 #[.val (.ref thisctor), .val (.int (3 : Int32))] []))
  refine Ow.aloadN X1 hx (pc' := 5) (hb hby d_prog_3_method_1_4) rfl rfl ?_
  refine Ow.iloadN X1 hx (pc' := 6) (hb hby d_prog_3_method_1_5) rfl ?_
  obtain ⟨T2, h2, k2, X2, e2, E2, A2, st2⟩ := newP X1 hx hZ (aty := .int) (kw10 hw) e1 (g := (mkF m 6 #[.val (.ref thisctor), .val (.int (3 : Int32))] [(.int (3 : Int32)), (.ref thisctor)])) rfl (hb hby d_prog_3_method_1_6) rfl (by decide) (cap := 3) (by decide) (by decide) (by decide) (by decide)
  obtain ⟨b2, gz2⟩ : ∃ z, z = h0.size := ⟨_, rfl⟩
  rw [← gz2] at A2 st2
  have g_b2 : n0 ≤ b2 := Nat.le_trans Z0 (Nat.le_of_eq gz2.symm)
  have sz_b2 : h0.size ≤ b2 := Nat.le_of_eq gz2.symm
  have ne_thisctor_b2 : thisctor ≠ b2 := Nat.ne_of_lt (Nat.lt_of_lt_of_le E_thisctor.lt (Nat.le_of_eq gz2.symm))
  have K2 : Keep h0 h2 [thisctor] := (Keep.refl h0 [thisctor]).ext E2
  have Z2 : n0 ≤ h2.size := Nat.le_trans Z0 E2.1
  have E_thisctor_t2 := E_thisctor.ext E2
  have F_thisctor_noted_t2 := F_thisctor_noted.ext E2
  have F_thisctor_isNoted_t2 := F_thisctor_isNoted.ext E2
  have F_thisctor_count_t2 := F_thisctor_count.ext E2
  have V_b2 : Al Z h2 b2 .int [(.int (0 : Int32)), (.int (0 : Int32)), (.int (0 : Int32))] := Al.new A2 (k := 3) (rfl) rfl
  refine Wq.step st2 ?_
  show Wq _ _ _ _ _ (T2.setTop (mkF m 8 #[.val (.ref thisctor), .val (.int (3 : Int32))] [(.ref b2), (.ref thisctor)]))
  obtain ⟨T3, h3, X3, e3, W3, st3⟩ := putF X2 hx hZ hown (host := "") (Or.inl (kw11 hw)) Via.refl e2 F_thisctor_noted_t2 E_thisctor_t2 (Or.inr ⟨(kw12 hw), rfl, hnm⟩) (kw2 hw) (ty := (.array .int)) (by decide) (rfl) (rfl) (g := (mkF m 8 #[.val (.ref thisctor), .val (.int (3 : Int32))] [(.ref b2), (.ref thisctor)])) rfl rfl (hb hby d_prog_3_method_1_8)
  refine Wq.step st3 ?_
  have N3 := Fr.snoc X3 N0 g_thisctor
  have K3 : Keep h0 h3 [thisctor] := K2.wr W3 (Or.inl (List.mem_of_getElem? (i := 0) rfl))
  have Z3 : n0 ≤ h3.size := Nat.le_trans Z2 (Keep.of_wr W3).1
  have E_thisctor_t3 := E_thisctor_t2.wr W3
  have F_thisctor_isNoted_t3 := F_thisctor_isNoted_t2.other W3 (Or.inr (slot_ne (Or.inr (kw15 hw)) (Or.inr (kw12 hw)) (by decide) (t := (.array .boolean)) (t' := (.array .int)) (by decide) (by decide)))
  have F_thisctor_count_t3 := F_thisctor_count_t2.other W3 (Or.inr (slot_ne (Or.inl (kw22 hw)) (Or.inr (kw12 hw)) (by decide) (t := .int) (t' := (.array .int)) (by decide) (by decide)))
  have V_b2_t3 := V_b2.other W3 (Ne.symm ne_thisctor_b2)
  have F_thisctor_noted_t3 : Fld Z h3 thisctor "com/example/tauten/tauten/ChangeList" "noted" "[I" (.ref b2) := F_thisctor_noted_t2.same W3
  show Wq _ _ _ _ _ (T3.setTop (mkF m 11 #[.val (.ref thisctor), .val (.int (3 : Int32))] []))
  refine Ow.aloadN X3 hx (pc' := 12) (hb hby d_prog_3_method_1_11) rfl rfl ?_
  refine Ow.iloadN X3 hx (pc' := 13) (hb hby d_prog_3_method_1_12) rfl ?_
  obtain ⟨T4, h4, k4, X4, e4, E4, A4, st4⟩ := newP X3 hx hZ (aty := .boolean) (kw13 hw) e3 (g := (mkF m 13 #[.val (.ref thisctor), .val (.int (3 : Int32))] [(.int (3 : Int32)), (.ref thisctor)])) rfl (hb hby d_prog_3_method_1_13) rfl (by decide) (cap := 3) (by decide) (by decide) (by decide) (by decide)
  obtain ⟨b4, gz4⟩ : ∃ z, z = h3.size := ⟨_, rfl⟩
  rw [← gz4] at A4 st4
  have g_b4 : n0 ≤ b4 := Nat.le_trans Z3 (Nat.le_of_eq gz4.symm)
  have sz_b4 : h0.size ≤ b4 := Nat.le_trans K3.1 (Nat.le_of_eq gz4.symm)
  have ne_thisctor_b4 : thisctor ≠ b4 := Nat.ne_of_lt (Nat.lt_of_lt_of_le E_thisctor_t3.lt (Nat.le_of_eq gz4.symm))
  have ne_b2_b4 : b2 ≠ b4 := Nat.ne_of_lt (Nat.lt_of_lt_of_le V_b2_t3.lt (Nat.le_of_eq gz4.symm))
  have K4 : Keep h0 h4 [thisctor] := K3.ext E4
  have Z4 : n0 ≤ h4.size := Nat.le_trans Z3 E4.1
  have E_thisctor_t4 := E_thisctor_t3.ext E4
  have F_thisctor_isNoted_t4 := F_thisctor_isNoted_t3.ext E4
  have F_thisctor_count_t4 := F_thisctor_count_t3.ext E4
  have V_b2_t4 := V_b2_t3.ext E4
  have F_thisctor_noted_t4 := F_thisctor_noted_t3.ext E4
  have V_b4 : Al Z h4 b4 .boolean [(.int (0 : Int32)), (.int (0 : Int32)), (.int (0 : Int32))] := Al.new A4 (k := 3) (rfl) rfl
  refine Wq.step st4 ?_
  show Wq _ _ _ _ _ (T4.setTop (mkF m 15 #[.val (.ref thisctor), .val (.int (3 : Int32))] [(.ref b4), (.ref thisctor)]))
  obtain ⟨T5, h5, X5, e5, W5, st5⟩ := putF X4 hx hZ hown (host := "") (Or.inl (kw14 hw)) Via.refl e4 F_thisctor_isNoted_t4 E_thisctor_t4 (Or.inr ⟨(kw15 hw), rfl, hnm⟩) (kw2 hw) (ty := (.array .boolean)) (by decide) (rfl) (rfl) (g := (mkF m 15 #[.val (.ref thisctor), .val (.int (3 : Int32))] [(.ref b4), (.ref thisctor)])) rfl rfl (hb hby d_prog_3_method_1_15)
  refine Wq.step st5 ?_
  have N5 := Fr.snoc X5 N3 g_thisctor
  have K5 : Keep h0 h5 [thisctor] := K4.wr W5 (Or.inl (List.mem_of_getElem? (i := 0) rfl))
  have Z5 : n0 ≤ h5.size := Nat.le_trans Z4 (Keep.of_wr W5).1
  have E_thisctor_t5 := E_thisctor_t4.wr W5
  have F_thisctor_count_t5 := F_thisctor_count_t4.other W5 (Or.inr (slot_ne (Or.inl (kw22 hw)) (Or.inr (kw15 hw)) (by decide) (t := .int) (t' := (.array .boolean)) (by decide) (by decide)))
  have V_b2_t5 := V_b2_t4.other W5 (Ne.symm ne_thisctor_b2)
  have F_thisctor_noted_t5 := F_thisctor_noted_t4.other W5 (Or.inr (slot_ne (Or.inr (kw12 hw)) (Or.inr (kw15 hw)) (by decide) (t := (.array .int)) (t' := (.array .boolean)) (by decide) (by decide)))
  have V_b4_t5 := V_b4.other W5 (Ne.symm ne_thisctor_b4)
  have F_thisctor_isNoted_t5 : Fld Z h5 thisctor "com/example/tauten/tauten/ChangeList" "isNoted" "[Z" (.ref b4) := F_thisctor_isNoted_t4.same W5
  show Wq _ _ _ _ _ (T5.setTop (mkF m 18 #[.val (.ref thisctor), .val (.int (3 : Int32))] []))
  exact Wq.ret X5 (BodyLoose.notSynchronized Bd) (rv := none) (fun _ => rfl) (fun _ hr => X5.returnOut hx Bd.returns (hb hby d_prog_3_method_1_18) hr) (by decide) (by decide) (by rw [e5]; exact ⟨b2, b4, rfl, N5, K5, sz_b2, sz_b4, ne_b2_b4, E_thisctor_t5, F_thisctor_count_t5, V_b2_t5, F_thisctor_noted_t5, V_b4_t5, F_thisctor_isNoted_t5⟩)
theorem d_method_2_0 : decode method_2_code 0 = .ok (.aload_n 1, 1) := by decide +kernel
theorem d_method_2_1 : decode method_2_code 1 = .ok (.iconst 1, 1) := by decide +kernel
theorem d_method_2_2 : decode method_2_code 2 = .ok (.iaload, 1) := by decide +kernel
theorem d_method_2_3 : decode method_2_code 3 = .ok (.iconst 1, 1) := by decide +kernel
theorem d_method_2_4 : decode method_2_code 4 = .ok (.if_icmp .ne 13, 3) := by decide +kernel
theorem d_method_2_7 : decode method_2_code 7 = .ok (.iload_n 0, 1) := by decide +kernel
theorem d_method_2_8 : decode method_2_code 8 = .ok (.iconst (-1), 1) := by decide +kernel
theorem d_method_2_9 : decode method_2_code 9 = .ok (.if_icmp .eq 7, 3) := by decide +kernel
theorem d_method_2_12 : decode method_2_code 12 = .ok (.aload_n 1, 1) := by decide +kernel
theorem d_method_2_13 : decode method_2_code 13 = .ok (.iconst 2, 1) := by decide +kernel
theorem d_method_2_14 : decode method_2_code 14 = .ok (.iconst 0, 1) := by decide +kernel
theorem d_method_2_15 : decode method_2_code 15 = .ok (.iastore, 1) := by decide +kernel
theorem d_method_2_17 : decode method_2_code 17 = .ok (.iload_n 0, 1) := by decide +kernel
theorem d_method_2_18 : decode method_2_code 18 = .ok (.iconst (-1), 1) := by decide +kernel
theorem d_method_2_19 : decode method_2_code 19 = .ok (.if_icmp .ne 8, 3) := by decide +kernel
theorem d_method_2_22 : decode method_2_code 22 = .ok (.aload_n 1, 1) := by decide +kernel
theorem d_method_2_23 : decode method_2_code 23 = .ok (.iconst 1, 1) := by decide +kernel
theorem d_method_2_24 : decode method_2_code 24 = .ok (.iconst 1, 1) := by decide +kernel
theorem d_method_2_25 : decode method_2_code 25 = .ok (.iastore, 1) := by decide +kernel
theorem d_method_2_27 : decode method_2_code 27 = .ok (.iload_n 0, 1) := by decide +kernel
theorem d_method_2_28 : decode method_2_code 28 = .ok (.ifCond .lt 8, 3) := by decide +kernel
theorem d_method_2_31 : decode method_2_code 31 = .ok (.iload_n 0, 1) := by decide +kernel
theorem d_method_2_32 : decode method_2_code 32 = .ok (.iconst 2, 1) := by decide +kernel
theorem d_method_2_33 : decode method_2_code 33 = .ok (.if_icmp .le 8, 3) := by decide +kernel
theorem d_method_2_36 : decode method_2_code 36 = .ok (.aload_n 1, 1) := by decide +kernel
theorem d_method_2_37 : decode method_2_code 37 = .ok (.iconst 2, 1) := by decide +kernel
theorem d_method_2_38 : decode method_2_code 38 = .ok (.iconst 0, 1) := by decide +kernel
theorem d_method_2_39 : decode method_2_code 39 = .ok (.iastore, 1) := by decide +kernel
theorem d_method_2_41 : decode method_2_code 41 = .ok (.aload_n 1, 1) := by decide +kernel
theorem d_method_2_42 : decode method_2_code 42 = .ok (.iconst 0, 1) := by decide +kernel
theorem d_method_2_43 : decode method_2_code 43 = .ok (.iaload, 1) := by decide +kernel
theorem d_method_2_44 : decode method_2_code 44 = .ok (.iload_n 0, 1) := by decide +kernel
theorem d_method_2_45 : decode method_2_code 45 = .ok (.ishr, 1) := by decide +kernel
theorem d_method_2_46 : decode method_2_code 46 = .ok (.iconst 1, 1) := by decide +kernel
theorem d_method_2_47 : decode method_2_code 47 = .ok (.iand, 1) := by decide +kernel
theorem d_method_2_48 : decode method_2_code 48 = .ok (.ifCond .eq 7, 3) := by decide +kernel
theorem d_method_2_51 : decode method_2_code 51 = .ok (.aload_n 1, 1) := by decide +kernel
theorem d_method_2_52 : decode method_2_code 52 = .ok (.iconst 2, 1) := by decide +kernel
theorem d_method_2_53 : decode method_2_code 53 = .ok (.iconst 0, 1) := by decide +kernel
theorem d_method_2_54 : decode method_2_code 54 = .ok (.iastore, 1) := by decide +kernel
theorem d_method_2_55 : decode method_2_code 55 = .ok (.aload_n 1, 1) := by decide +kernel
theorem d_method_2_56 : decode method_2_code 56 = .ok (.iconst 0, 1) := by decide +kernel
theorem d_method_2_57 : decode method_2_code 57 = .ok (.aload_n 1, 1) := by decide +kernel
theorem d_method_2_58 : decode method_2_code 58 = .ok (.iconst 0, 1) := by decide +kernel
theorem d_method_2_59 : decode method_2_code 59 = .ok (.iaload, 1) := by decide +kernel
theorem d_method_2_60 : decode method_2_code 60 = .ok (.iconst 1, 1) := by decide +kernel
theorem d_method_2_61 : decode method_2_code 61 = .ok (.iload_n 0, 1) := by decide +kernel
theorem d_method_2_62 : decode method_2_code 62 = .ok (.ishl, 1) := by decide +kernel
theorem d_method_2_63 : decode method_2_code 63 = .ok (.ior, 1) := by decide +kernel
theorem d_method_2_64 : decode method_2_code 64 = .ok (.iastore, 1) := by decide +kernel
theorem pn2 : plainName "com/example/tauten/tauten/ChangeListNextPinLaw" = true := by first | (simp [plainName, overriddenIn]; done) | decide +kernel
theorem ef_take (m : MethodId) (xtake_1 : Int32) (atake_2 : Addr) : entryFrame m #[(.int xtake_1), (.ref atake_2)] 2 = mkF m 0 #[.val (.int xtake_1), .val (.ref atake_2)] [] := by first | (simp [entryFrame, mkF, argsToLocals, Value.category]; done) | rfl
def f_take_p0 (xtake_1 : Int32) (m1 : Int32) (m2 : Int32) (m3 : Int32) : Int32 := (if m2 = (1 : Int32) then (if xtake_1 = (-1 : Int32) then m1 else m1) else (if xtake_1 = (-1 : Int32) then m1 else (if xtake_1 < (0 : Int32) then m1 else (if (2 : Int32) < xtake_1 then m1 else (if ((m1 >>> (xtake_1 &&& 31)) &&& (1 : Int32)) = (0 : Int32) then (m1 ||| ((1 : Int32) <<< (xtake_1 &&& 31))) else (m1 ||| ((1 : Int32) <<< (xtake_1 &&& 31))))))))
def f_take_p1 (xtake_1 : Int32) (m1 : Int32) (m2 : Int32) (m3 : Int32) : Int32 := (if m2 = (1 : Int32) then (if xtake_1 = (-1 : Int32) then m2 else m2) else (if xtake_1 = (-1 : Int32) then (1 : Int32) else (if xtake_1 < (0 : Int32) then m2 else (if (2 : Int32) < xtake_1 then m2 else (if ((m1 >>> (xtake_1 &&& 31)) &&& (1 : Int32)) = (0 : Int32) then m2 else m2)))))
def f_take_p2 (xtake_1 : Int32) (m1 : Int32) (m2 : Int32) (m3 : Int32) : Int32 := (if m2 = (1 : Int32) then (if xtake_1 = (-1 : Int32) then m3 else (0 : Int32)) else (if xtake_1 = (-1 : Int32) then m3 else (if xtake_1 < (0 : Int32) then (0 : Int32) else (if (2 : Int32) < xtake_1 then (0 : Int32) else (if ((m1 >>> (xtake_1 &&& 31)) &&& (1 : Int32)) = (0 : Int32) then m3 else (0 : Int32))))))
def Q_take (Z : State) (xtake_1 : Int32) (atake_2 : Addr) (m1 : Int32) (m2 : Int32) (m3 : Int32) (h0 : Heap) (n0 : Nat) (v : Option Value) (h : Heap) (L : List Loc) : Prop := v = none ∧ Fr n0 L ∧ Keep h0 h [atake_2] ∧ Al Z h atake_2 .int [(.int (f_take_p0 xtake_1 m1 m2 m3)), (.int (f_take_p1 xtake_1 m1 m2 m3)), (.int (f_take_p2 xtake_1 m1 m2 m3))]
theorem d_method_2_16 : decode method_2_code 16 = .ok (.return_, 1) := by decide +kernel
theorem d_method_2_26 : decode method_2_code 26 = .ok (.return_, 1) := by decide +kernel
theorem d_method_2_40 : decode method_2_code 40 = .ok (.return_, 1) := by decide +kernel
theorem d_method_2_65 : decode method_2_code 65 = .ok (.return_, 1) := by decide +kernel
abbrev mt2 : MethodName := ⟨"com/example/tauten/tauten/ChangeListNextPinLaw", "take", "(I[I)V"⟩
set_option maxRecDepth 65536 in
set_option maxHeartbeats 40000000 in
theorem rm_take (l : Launch) (Z : State) (a0 : Array Value) (hw : ∀ d ∈ tables_1, d.before a0 Z = true) (ws : List Jvm.Cond) (xtake_1 : Int32) (atake_2 : Addr) (m1 : Int32) (m2 : Int32) (m3 : Int32) (h0 : Heap) (n0 : Nat) (Z0 : n0 ≤ h0.size) (V_atake_2 : Al Z h0 atake_2 .int [(.int m1), (.int m2), (.int m3)]) (g_atake_2 : n0 ≤ atake_2) :
    MetFree l mt2 (head1 (Jvm.Cond.code mt2 method_2_code 2 none :: ws) ({ frames := 0, cells := 0, slots := 0, locals := 0 } : Room)) (fun a U => a = #[(.int xtake_1), (.ref atake_2)] ∧ Z.Warmed39 U.vm ∧ U.heap = h0) (fun _ _ _ _ _ => True) (fun _ U o U' => ∃ v L, o = .returned v ∧ (Q_take Z xtake_1 atake_2 m1 m2 m3 h0 n0) v U'.heap L ∧ FrameEnd U o U' L ({ frames := 0, cells := 0, slots := 0, locals := 0 } : Room).cells ({ frames := 0, cells := 0, slots := 0, locals := 0 } : Room).slots) := by
  refine MetFree.of_bodySF (plainFor_of_name pn2) hisR ?_
  intro p e s m args below meth c s₁ Bd hml0 hP hK
  obtain ⟨rfl, hZ, hh⟩ := hP
  have hx := Bd.exec
  have hby := Bd.bytes
  have hml : c.maxLocals = 2 := hml0
  have hown : s.vm.findClass "com/example/tauten/tauten/ChangeListNextPinLaw" = some m.cls := findClass_of_methodNamed Bd.named
  have hnm := (name_of_methodNamed Bd.named Bd.method).1
  have X0 : Stand p l e ({ frames := 0, cells := 0, slots := 0, locals := 0 } : Room) s m #[(.int xtake_1), (.ref atake_2)] below meth c s₁ [] 0 0 := Stand.of_body Bd
  have e0 : s₁.heap = h0 := by rw [← hh, Bd.state]; rfl
  have N0 := Fr.nil n0
  refine Wq.step (p := p) (e := e) (below := below) (En := (fun o t L => FrameEnd s o t L ({ frames := 0, cells := 0, slots := 0, locals := 0 } : Room).cells ({ frames := 0, cells := 0, slots := 0, locals := 0 } : Room).slots)) (Q := (Q_take Z xtake_1 atake_2 m1 m2 m3 h0 n0)) (fun t k => castTop (ef_take m xtake_1 atake_2) k) ?_
  show Wq _ _ _ _ _ (s₁.setTop (mkF m 0 #[.val (.int xtake_1), .val (.ref atake_2)] []))
  refine Ow.aloadN X0 hx (pc' := 1) (hb hby d_method_2_0) rfl rfl ?_
  refine Ow.iconst X0 hx (pc' := 2) (hb hby d_method_2_1) (z := (1 : Int32)) rfl ?_
  refine Ow.ldI X0 hx hZ e0 V_atake_2 (pc' := 3) (hb hby d_method_2_2) (j := (1 : Int32)) (i := 1) (v := (.int m2)) (by decide) rfl rfl ?_
  refine Ow.iconst X0 hx (pc' := 4) (hb hby d_method_2_3) (z := (1 : Int32)) rfl ?_
  by_cases hc4 : m2 = (1 : Int32)
  · skip
    refine Ow.icmpNo X0 hx (pc' := 7) (hb hby d_method_2_4) (teq hc4).2 ?_
    refine Ow.iloadN X0 hx (pc' := 8) (hb hby d_method_2_7) rfl ?_
    refine Ow.iconst X0 hx (pc' := 9) (hb hby d_method_2_8) (z := (-1 : Int32)) rfl ?_
    by_cases hc9 : xtake_1 = (-1 : Int32)
    · skip
      refine Ow.icmpYes X0 hx (pc' := 16) (hb hby d_method_2_9) (teq hc9).1 (by decide) (by decide) ?_
      exact Wq.ret X0 (BodyLoose.notSynchronized Bd) (rv := none) (fun _ => rfl) (fun _ hr => X0.returnOut hx Bd.returns (hb hby d_method_2_16) hr) (by decide) (by decide) (by rw [e0]; exact ⟨rfl, N0, Keep.refl h0 [atake_2], (by simp only [f_take_p0, f_take_p1, f_take_p2, if_pos hc4, if_pos hc9]; exact V_atake_2)⟩)
    · skip
      refine Ow.icmpNo X0 hx (pc' := 12) (hb hby d_method_2_9) (feq hc9).1 ?_
      refine Ow.aloadN X0 hx (pc' := 13) (hb hby d_method_2_12) rfl rfl ?_
      refine Ow.iconst X0 hx (pc' := 14) (hb hby d_method_2_13) (z := (2 : Int32)) rfl ?_
      refine Ow.iconst X0 hx (pc' := 15) (hb hby d_method_2_14) (z := (0 : Int32)) rfl ?_
      obtain ⟨T6, h6, X6, e6, W6, Vr6, st6⟩ := asI X0 hx hZ e0 V_atake_2 (j := (2 : Int32)) (i := 2) (by decide) rfl (Nat.le_of_ble_eq_true rfl) (g := (mkF m 15 #[.val (.int xtake_1), .val (.ref atake_2)] [(.int (0 : Int32)), (.int (2 : Int32)), (.ref atake_2)])) rfl rfl (hb hby d_method_2_15)
      refine Wq.step st6 ?_
      have N6 := Fr.snoc X6 N0 g_atake_2
      have K6 : Keep h0 h6 [atake_2] := (Keep.refl h0 [atake_2]).wr W6 (Or.inl (List.mem_of_getElem? (i := 0) rfl))
      have Z6 : n0 ≤ h6.size := Nat.le_trans Z0 (Keep.of_wr W6).1
      have V_atake_2_t6 : Al Z h6 atake_2 .int [(.int m1), (.int m2), (.int (0 : Int32))] := Vr6
      show Wq _ _ _ _ _ (T6.setTop (mkF m 16 #[.val (.int xtake_1), .val (.ref atake_2)] []))
      exact Wq.ret X6 (BodyLoose.notSynchronized Bd) (rv := none) (fun _ => rfl) (fun _ hr => X6.returnOut hx Bd.returns (hb hby d_method_2_16) hr) (by decide) (by decide) (by rw [e6]; exact ⟨rfl, N6, K6, (by simp only [f_take_p0, f_take_p1, f_take_p2, if_pos hc4, if_neg hc9]; exact V_atake_2_t6)⟩)
  · skip
    refine Ow.icmpYes X0 hx (pc' := 17) (hb hby d_method_2_4) (feq hc4).2 (by decide) (by decide) ?_
    refine Ow.iloadN X0 hx (pc' := 18) (hb hby d_method_2_17) rfl ?_
    refine Ow.iconst X0 hx (pc' := 19) (hb hby d_method_2_18) (z := (-1 : Int32)) rfl ?_
    by_cases hc19 : xtake_1 = (-1 : Int32)
    · skip
      refine Ow.icmpNo X0 hx (pc' := 22) (hb hby d_method_2_19) (teq hc19).2 ?_
      refine Ow.aloadN X0 hx (pc' := 23) (hb hby d_method_2_22) rfl rfl ?_
      refine Ow.iconst X0 hx (pc' := 24) (hb hby d_method_2_23) (z := (1 : Int32)) rfl ?_
      refine Ow.iconst X0 hx (pc' := 25) (hb hby d_method_2_24) (z := (1 : Int32)) rfl ?_
      obtain ⟨T7, h7, X7, e7, W7, Vr7, st7⟩ := asI X0 hx hZ e0 V_atake_2 (j := (1 : Int32)) (i := 1) (by decide) rfl (Nat.le_of_ble_eq_true rfl) (g := (mkF m 25 #[.val (.int xtake_1), .val (.ref atake_2)] [(.int (1 : Int32)), (.int (1 : Int32)), (.ref atake_2)])) rfl rfl (hb hby d_method_2_25)
      refine Wq.step st7 ?_
      have N7 := Fr.snoc X7 N0 g_atake_2
      have K7 : Keep h0 h7 [atake_2] := (Keep.refl h0 [atake_2]).wr W7 (Or.inl (List.mem_of_getElem? (i := 0) rfl))
      have Z7 : n0 ≤ h7.size := Nat.le_trans Z0 (Keep.of_wr W7).1
      have V_atake_2_t7 : Al Z h7 atake_2 .int [(.int m1), (.int (1 : Int32)), (.int m3)] := Vr7
      show Wq _ _ _ _ _ (T7.setTop (mkF m 26 #[.val (.int xtake_1), .val (.ref atake_2)] []))
      exact Wq.ret X7 (BodyLoose.notSynchronized Bd) (rv := none) (fun _ => rfl) (fun _ hr => X7.returnOut hx Bd.returns (hb hby d_method_2_26) hr) (by decide) (by decide) (by rw [e7]; exact ⟨rfl, N7, K7, (by simp only [f_take_p0, f_take_p1, f_take_p2, if_neg hc4, if_pos hc19]; exact V_atake_2_t7)⟩)
    · skip
      refine Ow.icmpYes X0 hx (pc' := 27) (hb hby d_method_2_19) (feq hc19).2 (by decide) (by decide) ?_
      refine Ow.iloadN X0 hx (pc' := 28) (hb hby d_method_2_27) rfl ?_
      by_cases hc28 : xtake_1 < (0 : Int32)
      · skip
        refine Ow.ifYes X0 hx (pc' := 36) (hb hby d_method_2_28) ((if0 _ _).trans (tlt hc28).1) (by decide) (by decide) ?_
        refine Ow.aloadN X0 hx (pc' := 37) (hb hby d_method_2_36) rfl rfl ?_
        refine Ow.iconst X0 hx (pc' := 38) (hb hby d_method_2_37) (z := (2 : Int32)) rfl ?_
        refine Ow.iconst X0 hx (pc' := 39) (hb hby d_method_2_38) (z := (0 : Int32)) rfl ?_
        obtain ⟨T8, h8, X8, e8, W8, Vr8, st8⟩ := asI X0 hx hZ e0 V_atake_2 (j := (2 : Int32)) (i := 2) (by decide) rfl (Nat.le_of_ble_eq_true rfl) (g := (mkF m 39 #[.val (.int xtake_1), .val (.ref atake_2)] [(.int (0 : Int32)), (.int (2 : Int32)), (.ref atake_2)])) rfl rfl (hb hby d_method_2_39)
        refine Wq.step st8 ?_
        have N8 := Fr.snoc X8 N0 g_atake_2
        have K8 : Keep h0 h8 [atake_2] := (Keep.refl h0 [atake_2]).wr W8 (Or.inl (List.mem_of_getElem? (i := 0) rfl))
        have Z8 : n0 ≤ h8.size := Nat.le_trans Z0 (Keep.of_wr W8).1
        have V_atake_2_t8 : Al Z h8 atake_2 .int [(.int m1), (.int m2), (.int (0 : Int32))] := Vr8
        show Wq _ _ _ _ _ (T8.setTop (mkF m 40 #[.val (.int xtake_1), .val (.ref atake_2)] []))
        exact Wq.ret X8 (BodyLoose.notSynchronized Bd) (rv := none) (fun _ => rfl) (fun _ hr => X8.returnOut hx Bd.returns (hb hby d_method_2_40) hr) (by decide) (by decide) (by rw [e8]; exact ⟨rfl, N8, K8, (by simp only [f_take_p0, f_take_p1, f_take_p2, if_neg hc4, if_neg hc19, if_pos hc28]; exact V_atake_2_t8)⟩)
      · skip
        refine Ow.ifNo X0 hx (pc' := 31) (hb hby d_method_2_28) ((if0 _ _).trans (flt hc28).1) ?_
        refine Ow.iloadN X0 hx (pc' := 32) (hb hby d_method_2_31) rfl ?_
        refine Ow.iconst X0 hx (pc' := 33) (hb hby d_method_2_32) (z := (2 : Int32)) rfl ?_
        by_cases hc33 : (2 : Int32) < xtake_1
        · skip
          refine Ow.icmpNo X0 hx (pc' := 36) (hb hby d_method_2_33) (tlt hc33).2.2.2 ?_
          refine Ow.aloadN X0 hx (pc' := 37) (hb hby d_method_2_36) rfl rfl ?_
          refine Ow.iconst X0 hx (pc' := 38) (hb hby d_method_2_37) (z := (2 : Int32)) rfl ?_
          refine Ow.iconst X0 hx (pc' := 39) (hb hby d_method_2_38) (z := (0 : Int32)) rfl ?_
          obtain ⟨T9, h9, X9, e9, W9, Vr9, st9⟩ := asI X0 hx hZ e0 V_atake_2 (j := (2 : Int32)) (i := 2) (by decide) rfl (Nat.le_of_ble_eq_true rfl) (g := (mkF m 39 #[.val (.int xtake_1), .val (.ref atake_2)] [(.int (0 : Int32)), (.int (2 : Int32)), (.ref atake_2)])) rfl rfl (hb hby d_method_2_39)
          refine Wq.step st9 ?_
          have N9 := Fr.snoc X9 N0 g_atake_2
          have K9 : Keep h0 h9 [atake_2] := (Keep.refl h0 [atake_2]).wr W9 (Or.inl (List.mem_of_getElem? (i := 0) rfl))
          have Z9 : n0 ≤ h9.size := Nat.le_trans Z0 (Keep.of_wr W9).1
          have V_atake_2_t9 : Al Z h9 atake_2 .int [(.int m1), (.int m2), (.int (0 : Int32))] := Vr9
          show Wq _ _ _ _ _ (T9.setTop (mkF m 40 #[.val (.int xtake_1), .val (.ref atake_2)] []))
          exact Wq.ret X9 (BodyLoose.notSynchronized Bd) (rv := none) (fun _ => rfl) (fun _ hr => X9.returnOut hx Bd.returns (hb hby d_method_2_40) hr) (by decide) (by decide) (by rw [e9]; exact ⟨rfl, N9, K9, (by simp only [f_take_p0, f_take_p1, f_take_p2, if_neg hc4, if_neg hc19, if_neg hc28, if_pos hc33]; exact V_atake_2_t9)⟩)
        · skip
          refine Ow.icmpYes X0 hx (pc' := 41) (hb hby d_method_2_33) (flt hc33).2.2.2 (by decide) (by decide) ?_
          refine Ow.aloadN X0 hx (pc' := 42) (hb hby d_method_2_41) rfl rfl ?_
          refine Ow.iconst X0 hx (pc' := 43) (hb hby d_method_2_42) (z := (0 : Int32)) rfl ?_
          refine Ow.ldI X0 hx hZ e0 V_atake_2 (pc' := 44) (hb hby d_method_2_43) (j := (0 : Int32)) (i := 0) (v := (.int m1)) (by decide) rfl rfl ?_
          refine Ow.iloadN X0 hx (pc' := 45) (hb hby d_method_2_44) rfl ?_
          refine Ow.ishr X0 hx (pc' := 46) (hb hby d_method_2_45) (z := (m1 >>> (xtake_1 &&& 31))) rfl ?_
          refine Ow.iconst X0 hx (pc' := 47) (hb hby d_method_2_46) (z := (1 : Int32)) rfl ?_
          refine Ow.iand X0 hx (pc' := 48) (hb hby d_method_2_47) (z := ((m1 >>> (xtake_1 &&& 31)) &&& (1 : Int32))) rfl ?_
          by_cases hc48 : ((m1 >>> (xtake_1 &&& 31)) &&& (1 : Int32)) = (0 : Int32)
          · skip
            refine Ow.ifYes X0 hx (pc' := 55) (hb hby d_method_2_48) ((if0 _ _).trans (teq hc48).1) (by decide) (by decide) ?_
            refine Ow.aloadN X0 hx (pc' := 56) (hb hby d_method_2_55) rfl rfl ?_
            refine Ow.iconst X0 hx (pc' := 57) (hb hby d_method_2_56) (z := (0 : Int32)) rfl ?_
            refine Ow.aloadN X0 hx (pc' := 58) (hb hby d_method_2_57) rfl rfl ?_
            refine Ow.iconst X0 hx (pc' := 59) (hb hby d_method_2_58) (z := (0 : Int32)) rfl ?_
            refine Ow.ldI X0 hx hZ e0 V_atake_2 (pc' := 60) (hb hby d_method_2_59) (j := (0 : Int32)) (i := 0) (v := (.int m1)) (by decide) rfl rfl ?_
            refine Ow.iconst X0 hx (pc' := 61) (hb hby d_method_2_60) (z := (1 : Int32)) rfl ?_
            refine Ow.iloadN X0 hx (pc' := 62) (hb hby d_method_2_61) rfl ?_
            refine Ow.ishl X0 hx (pc' := 63) (hb hby d_method_2_62) (z := ((1 : Int32) <<< (xtake_1 &&& 31))) rfl ?_
            refine Ow.ior X0 hx (pc' := 64) (hb hby d_method_2_63) (z := (m1 ||| ((1 : Int32) <<< (xtake_1 &&& 31)))) rfl ?_
            obtain ⟨T10, h10, X10, e10, W10, Vr10, st10⟩ := asI X0 hx hZ e0 V_atake_2 (j := (0 : Int32)) (i := 0) (by decide) rfl (Nat.le_of_ble_eq_true rfl) (g := (mkF m 64 #[.val (.int xtake_1), .val (.ref atake_2)] [(.int (m1 ||| ((1 : Int32) <<< (xtake_1 &&& 31)))), (.int (0 : Int32)), (.ref atake_2)])) rfl rfl (hb hby d_method_2_64)
            refine Wq.step st10 ?_
            have N10 := Fr.snoc X10 N0 g_atake_2
            have K10 : Keep h0 h10 [atake_2] := (Keep.refl h0 [atake_2]).wr W10 (Or.inl (List.mem_of_getElem? (i := 0) rfl))
            have Z10 : n0 ≤ h10.size := Nat.le_trans Z0 (Keep.of_wr W10).1
            have V_atake_2_t10 : Al Z h10 atake_2 .int [(.int (m1 ||| ((1 : Int32) <<< (xtake_1 &&& 31)))), (.int m2), (.int m3)] := Vr10
            show Wq _ _ _ _ _ (T10.setTop (mkF m 65 #[.val (.int xtake_1), .val (.ref atake_2)] []))
            exact Wq.ret X10 (BodyLoose.notSynchronized Bd) (rv := none) (fun _ => rfl) (fun _ hr => X10.returnOut hx Bd.returns (hb hby d_method_2_65) hr) (by decide) (by decide) (by rw [e10]; exact ⟨rfl, N10, K10, (by simp only [f_take_p0, f_take_p1, f_take_p2, if_neg hc4, if_neg hc19, if_neg hc28, if_neg hc33, if_pos hc48]; exact V_atake_2_t10)⟩)
          · skip
            refine Ow.ifNo X0 hx (pc' := 51) (hb hby d_method_2_48) ((if0 _ _).trans (feq hc48).1) ?_
            refine Ow.aloadN X0 hx (pc' := 52) (hb hby d_method_2_51) rfl rfl ?_
            refine Ow.iconst X0 hx (pc' := 53) (hb hby d_method_2_52) (z := (2 : Int32)) rfl ?_
            refine Ow.iconst X0 hx (pc' := 54) (hb hby d_method_2_53) (z := (0 : Int32)) rfl ?_
            obtain ⟨T11, h11, X11, e11, W11, Vr11, st11⟩ := asI X0 hx hZ e0 V_atake_2 (j := (2 : Int32)) (i := 2) (by decide) rfl (Nat.le_of_ble_eq_true rfl) (g := (mkF m 54 #[.val (.int xtake_1), .val (.ref atake_2)] [(.int (0 : Int32)), (.int (2 : Int32)), (.ref atake_2)])) rfl rfl (hb hby d_method_2_54)
            refine Wq.step st11 ?_
            have N11 := Fr.snoc X11 N0 g_atake_2
            have K11 : Keep h0 h11 [atake_2] := (Keep.refl h0 [atake_2]).wr W11 (Or.inl (List.mem_of_getElem? (i := 0) rfl))
            have Z11 : n0 ≤ h11.size := Nat.le_trans Z0 (Keep.of_wr W11).1
            have V_atake_2_t11 : Al Z h11 atake_2 .int [(.int m1), (.int m2), (.int (0 : Int32))] := Vr11
            show Wq _ _ _ _ _ (T11.setTop (mkF m 55 #[.val (.int xtake_1), .val (.ref atake_2)] []))
            refine Ow.aloadN X11 hx (pc' := 56) (hb hby d_method_2_55) rfl rfl ?_
            refine Ow.iconst X11 hx (pc' := 57) (hb hby d_method_2_56) (z := (0 : Int32)) rfl ?_
            refine Ow.aloadN X11 hx (pc' := 58) (hb hby d_method_2_57) rfl rfl ?_
            refine Ow.iconst X11 hx (pc' := 59) (hb hby d_method_2_58) (z := (0 : Int32)) rfl ?_
            refine Ow.ldI X11 hx hZ e11 V_atake_2_t11 (pc' := 60) (hb hby d_method_2_59) (j := (0 : Int32)) (i := 0) (v := (.int m1)) (by decide) rfl rfl ?_
            refine Ow.iconst X11 hx (pc' := 61) (hb hby d_method_2_60) (z := (1 : Int32)) rfl ?_
            refine Ow.iloadN X11 hx (pc' := 62) (hb hby d_method_2_61) rfl ?_
            refine Ow.ishl X11 hx (pc' := 63) (hb hby d_method_2_62) (z := ((1 : Int32) <<< (xtake_1 &&& 31))) rfl ?_
            refine Ow.ior X11 hx (pc' := 64) (hb hby d_method_2_63) (z := (m1 ||| ((1 : Int32) <<< (xtake_1 &&& 31)))) rfl ?_
            obtain ⟨T12, h12, X12, e12, W12, Vr12, st12⟩ := asI X11 hx hZ e11 V_atake_2_t11 (j := (0 : Int32)) (i := 0) (by decide) rfl (Nat.le_of_ble_eq_true rfl) (g := (mkF m 64 #[.val (.int xtake_1), .val (.ref atake_2)] [(.int (m1 ||| ((1 : Int32) <<< (xtake_1 &&& 31)))), (.int (0 : Int32)), (.ref atake_2)])) rfl rfl (hb hby d_method_2_64)
            refine Wq.step st12 ?_
            have N12 := Fr.snoc X12 N11 g_atake_2
            have K12 : Keep h0 h12 [atake_2] := K11.wr W12 (Or.inl (List.mem_of_getElem? (i := 0) rfl))
            have Z12 : n0 ≤ h12.size := Nat.le_trans Z11 (Keep.of_wr W12).1
            have V_atake_2_t12 : Al Z h12 atake_2 .int [(.int (m1 ||| ((1 : Int32) <<< (xtake_1 &&& 31)))), (.int m2), (.int (0 : Int32))] := Vr12
            show Wq _ _ _ _ _ (T12.setTop (mkF m 65 #[.val (.int xtake_1), .val (.ref atake_2)] []))
            exact Wq.ret X12 (BodyLoose.notSynchronized Bd) (rv := none) (fun _ => rfl) (fun _ hr => X12.returnOut hx Bd.returns (hb hby d_method_2_65) hr) (by decide) (by decide) (by rw [e12]; exact ⟨rfl, N12, K12, (by simp only [f_take_p0, f_take_p1, f_take_p2, if_neg hc4, if_neg hc19, if_neg hc28, if_neg hc33, if_neg hc48]; exact V_atake_2_t12)⟩)
theorem d_prog_3_method_2_0 : decode prog_3_method_2_code 0 = .ok (.aload_n 0, 1) := by decide +kernel
theorem d_prog_3_method_2_1 : decode prog_3_method_2_code 1 = .ok (.getfield 13, 3) := by decide +kernel
theorem d_prog_3_method_2_4 : decode prog_3_method_2_code 4 = .ok (.iload_n 1, 1) := by decide +kernel
theorem d_prog_3_method_2_5 : decode prog_3_method_2_code 5 = .ok (.baload, 1) := by decide +kernel
theorem d_prog_3_method_2_6 : decode prog_3_method_2_code 6 = .ok (.ifCond .ne 27, 3) := by decide +kernel
theorem ef_noteY (m : MethodId) (thisnoteY : Addr) (xnoteY_1 : Int32) : entryFrame m #[(.ref thisnoteY), (.int xnoteY_1)] 2 = mkF m 0 #[.val (.ref thisnoteY), .val (.int xnoteY_1)] [] := by first | (simp [entryFrame, mkF, argsToLocals, Value.category]; done) | rfl
def Q_noteY (Z : State) (thisnoteY : Addr) (xnoteY_1 : Int32) (bY : Addr) (bsY : List Value) (wY : Int32) (h0 : Heap) (n0 : Nat) (v : Option Value) (h : Heap) (L : List Loc) : Prop := v = none ∧ Fr n0 L ∧ h = h0
theorem d_prog_3_method_2_33 : decode prog_3_method_2_code 33 = .ok (.return_, 1) := by decide +kernel
abbrev mt3 : MethodName := ⟨"com/example/tauten/tauten/ChangeList", "note", "(I)V"⟩
set_option maxRecDepth 65536 in
set_option maxHeartbeats 40000000 in
theorem rm_noteY (l : Launch) (Z : State) (a0 : Array Value) (hw : ∀ d ∈ tables_1, d.before a0 Z = true) (ws : List Jvm.Cond) (thisnoteY : Addr) (xnoteY_1 : Int32) (bY : Addr) (bsY : List Value) (wY : Int32) (h0 : Heap) (n0 : Nat) (Z0 : n0 ≤ h0.size) (hj : ¬ xnoteY_1 < 0) (hb1 : bsY[xnoteY_1.toNatClampNeg]? = some (.int wY)) (hwn : ¬ (wY = (0 : Int32))) (F_thisnoteY_isNoted : Fld Z h0 thisnoteY "com/example/tauten/tauten/ChangeList" "isNoted" "[Z" (.ref bY)) (V_bY : Al Z h0 bY .boolean bsY) :
    MetFree l mt3 (head1 (Jvm.Cond.code mt3 prog_3_method_2_code 2 none :: ws) ({ frames := 0, cells := 0, slots := 0, locals := 0 } : Room)) (fun a U => a = #[(.ref thisnoteY), (.int xnoteY_1)] ∧ Z.Warmed39 U.vm ∧ U.heap = h0) (fun _ _ _ _ _ => True) (fun _ U o U' => ∃ v L, o = .returned v ∧ (Q_noteY Z thisnoteY xnoteY_1 bY bsY wY h0 n0) v U'.heap L ∧ FrameEnd U o U' L ({ frames := 0, cells := 0, slots := 0, locals := 0 } : Room).cells ({ frames := 0, cells := 0, slots := 0, locals := 0 } : Room).slots) := by
  refine MetFree.of_bodySF (plainFor_of_name pn1) hisR ?_
  intro p e s m args below meth c s₁ Bd hml0 hP hK
  obtain ⟨rfl, hZ, hh⟩ := hP
  have hx := Bd.exec
  have hby := Bd.bytes
  have hml : c.maxLocals = 2 := hml0
  have hown : s.vm.findClass "com/example/tauten/tauten/ChangeList" = some m.cls := findClass_of_methodNamed Bd.named
  have hnm := (name_of_methodNamed Bd.named Bd.method).1
  have X0 : Stand p l e ({ frames := 0, cells := 0, slots := 0, locals := 0 } : Room) s m #[(.ref thisnoteY), (.int xnoteY_1)] below meth c s₁ [] 0 0 := Stand.of_body Bd
  have e0 : s₁.heap = h0 := by rw [← hh, Bd.state]; rfl
  have N0 := Fr.nil n0
  refine Wq.step (p := p) (e := e) (below := below) (En := (fun o t L => FrameEnd s o t L ({ frames := 0, cells := 0, slots := 0, locals := 0 } : Room).cells ({ frames := 0, cells := 0, slots := 0, locals := 0 } : Room).slots)) (Q := (Q_noteY Z thisnoteY xnoteY_1 bY bsY wY h0 n0)) (fun t k => castTop (ef_noteY m thisnoteY xnoteY_1) k) ?_
  show Wq _ _ _ _ _ (s₁.setTop (mkF m 0 #[.val (.ref thisnoteY), .val (.int xnoteY_1)] []))
  refine Ow.aloadN X0 hx (pc' := 1) (hb hby d_prog_3_method_2_0) rfl rfl ?_
  obtain ⟨T13, X13, e13, st13⟩ := getF X0 hx hZ hown (host := "") (Or.inl (kw14 hw)) Via.refl e0 F_thisnoteY_isNoted (g := (mkF m 1 #[.val (.ref thisnoteY), .val (.int xnoteY_1)] [(.ref thisnoteY)])) rfl rfl (hb hby d_prog_3_method_2_1)
  refine Wq.step st13 ?_
  show Wq _ _ _ _ _ (T13.setTop (mkF m 4 #[.val (.ref thisnoteY), .val (.int xnoteY_1)] [(.ref bY)]))
  refine Ow.iloadN X13 hx (pc' := 5) (hb hby d_prog_3_method_2_4) rfl ?_
  refine Ow.ldZ X13 hx hZ e13 V_bY (pc' := 6) (hb hby d_prog_3_method_2_5) (j := xnoteY_1) (i := xnoteY_1.toNatClampNeg) (v := (.int wY)) (hj) (rfl) (hb1) ?_
  refine Ow.ifYes X13 hx (pc' := 33) (hb hby d_prog_3_method_2_6) ((if0 _ _).trans (feq (hwn : ¬ (wY = (0 : Int32)))).2) (by decide) (by decide) ?_
  exact Wq.ret X13 (BodyLoose.notSynchronized Bd) (rv := none) (fun _ => rfl) (fun _ hr => X13.returnOut hx Bd.returns (hb hby d_prog_3_method_2_33) hr) (by decide) (by decide) ⟨rfl, N0, e13⟩
theorem kw21 {Z : State} {a0 : Array Value} (hw : ∀ d ∈ tables_1, d.before a0 Z = true) : (Jvm.Cond.fieldLink "com/example/tauten/tauten/ChangeList" (17 : Nat) "com/example/tauten/tauten/ChangeList" "count" "I").before a0 Z = true := hw _ (List.mem_of_getElem? (i := 21) rfl)
theorem d_prog_3_method_2_9 : decode prog_3_method_2_code 9 = .ok (.aload_n 0, 1) := by decide +kernel
theorem d_prog_3_method_2_10 : decode prog_3_method_2_code 10 = .ok (.getfield 13, 3) := by decide +kernel
theorem d_prog_3_method_2_13 : decode prog_3_method_2_code 13 = .ok (.iload_n 1, 1) := by decide +kernel
theorem d_prog_3_method_2_14 : decode prog_3_method_2_code 14 = .ok (.iconst 1, 1) := by decide +kernel
theorem d_prog_3_method_2_15 : decode prog_3_method_2_code 15 = .ok (.bastore, 1) := by decide +kernel
theorem d_prog_3_method_2_16 : decode prog_3_method_2_code 16 = .ok (.aload_n 0, 1) := by decide +kernel
theorem d_prog_3_method_2_17 : decode prog_3_method_2_code 17 = .ok (.getfield 7, 3) := by decide +kernel
theorem d_prog_3_method_2_20 : decode prog_3_method_2_code 20 = .ok (.aload_n 0, 1) := by decide +kernel
theorem d_prog_3_method_2_21 : decode prog_3_method_2_code 21 = .ok (.dup, 1) := by decide +kernel
theorem d_prog_3_method_2_22 : decode prog_3_method_2_code 22 = .ok (.getfield 17, 3) := by decide +kernel
theorem d_prog_3_method_2_25 : decode prog_3_method_2_code 25 = .ok (.dup_x1, 1) := by decide +kernel
theorem d_prog_3_method_2_26 : decode prog_3_method_2_code 26 = .ok (.iconst 1, 1) := by decide +kernel
theorem d_prog_3_method_2_27 : decode prog_3_method_2_code 27 = .ok (.iadd, 1) := by decide +kernel
theorem d_prog_3_method_2_28 : decode prog_3_method_2_code 28 = .ok (.putfield 17, 3) := by decide +kernel
theorem d_prog_3_method_2_31 : decode prog_3_method_2_code 31 = .ok (.iload_n 1, 1) := by decide +kernel
theorem d_prog_3_method_2_32 : decode prog_3_method_2_code 32 = .ok (.iastore, 1) := by decide +kernel
theorem ef_noteN (m : MethodId) (thisnoteN : Addr) (xnoteN_1 : Int32) : entryFrame m #[(.ref thisnoteN), (.int xnoteN_1)] 2 = mkF m 0 #[.val (.ref thisnoteN), .val (.int xnoteN_1)] [] := by first | (simp [entryFrame, mkF, argsToLocals, Value.category]; done) | rfl
def Q_noteN (Z : State) (thisnoteN : Addr) (xnoteN_1 : Int32) (nN : Addr) (bN : Addr) (cN : Int32) (vsN : List Value) (bsN : List Value) (h0 : Heap) (n0 : Nat) (v : Option Value) (h : Heap) (L : List Loc) : Prop := v = none ∧ Fr n0 L ∧ Keep h0 h [bN, thisnoteN, nN] ∧ Exa Z h thisnoteN "com/example/tauten/tauten/ChangeList" ∧ Fld Z h thisnoteN "com/example/tauten/tauten/ChangeList" "noted" "[I" (.ref nN) ∧ Fld Z h thisnoteN "com/example/tauten/tauten/ChangeList" "isNoted" "[Z" (.ref bN) ∧ Al Z h bN .boolean (bsN.set xnoteN_1.toNatClampNeg (.int (1 : Int32))) ∧ Fld Z h thisnoteN "com/example/tauten/tauten/ChangeList" "count" "I" (.int (cN + (1 : Int32))) ∧ Al Z h nN .int (vsN.set cN.toNatClampNeg (.int xnoteN_1))
set_option maxRecDepth 65536 in
set_option maxHeartbeats 40000000 in
theorem rm_noteN (l : Launch) (Z : State) (a0 : Array Value) (hw : ∀ d ∈ tables_1, d.before a0 Z = true) (ws : List Jvm.Cond) (thisnoteN : Addr) (xnoteN_1 : Int32) (nN : Addr) (bN : Addr) (cN : Int32) (vsN : List Value) (bsN : List Value) (h0 : Heap) (n0 : Nat) (Z0 : n0 ≤ h0.size) (hj : ¬ xnoteN_1 < 0) (hb1 : bsN[xnoteN_1.toNatClampNeg]? = some (.int (0 : Int32))) (hc : ¬ cN < 0) (hcl : cN.toNatClampNeg < vsN.length) (E_thisnoteN : Exa Z h0 thisnoteN "com/example/tauten/tauten/ChangeList") (F_thisnoteN_noted : Fld Z h0 thisnoteN "com/example/tauten/tauten/ChangeList" "noted" "[I" (.ref nN)) (F_thisnoteN_isNoted : Fld Z h0 thisnoteN "com/example/tauten/tauten/ChangeList" "isNoted" "[Z" (.ref bN)) (F_thisnoteN_count : Fld Z h0 thisnoteN "com/example/tauten/tauten/ChangeList" "count" "I" (.int cN)) (V_nN : Al Z h0 nN .int vsN) (V_bN : Al Z h0 bN .boolean bsN) (g_thisnoteN : n0 ≤ thisnoteN) (g_nN : n0 ≤ nN) (g_bN : n0 ≤ bN) (ne_thisnoteN_nN : thisnoteN ≠ nN) (ne_thisnoteN_bN : thisnoteN ≠ bN) (ne_nN_bN : nN ≠ bN) :
    MetFree l mt3 (head1 (Jvm.Cond.code mt3 prog_3_method_2_code 2 none :: ws) ({ frames := 0, cells := 0, slots := 0, locals := 0 } : Room)) (fun a U => a = #[(.ref thisnoteN), (.int xnoteN_1)] ∧ Z.Warmed39 U.vm ∧ U.heap = h0) (fun _ _ _ _ _ => True) (fun _ U o U' => ∃ v L, o = .returned v ∧ (Q_noteN Z thisnoteN xnoteN_1 nN bN cN vsN bsN h0 n0) v U'.heap L ∧ FrameEnd U o U' L ({ frames := 0, cells := 0, slots := 0, locals := 0 } : Room).cells ({ frames := 0, cells := 0, slots := 0, locals := 0 } : Room).slots) := by
  refine MetFree.of_bodySF (plainFor_of_name pn1) hisR ?_
  intro p e s m args below meth c s₁ Bd hml0 hP hK
  obtain ⟨rfl, hZ, hh⟩ := hP
  have hx := Bd.exec
  have hby := Bd.bytes
  have hml : c.maxLocals = 2 := hml0
  have hown : s.vm.findClass "com/example/tauten/tauten/ChangeList" = some m.cls := findClass_of_methodNamed Bd.named
  have hnm := (name_of_methodNamed Bd.named Bd.method).1
  have X0 : Stand p l e ({ frames := 0, cells := 0, slots := 0, locals := 0 } : Room) s m #[(.ref thisnoteN), (.int xnoteN_1)] below meth c s₁ [] 0 0 := Stand.of_body Bd
  have e0 : s₁.heap = h0 := by rw [← hh, Bd.state]; rfl
  have N0 := Fr.nil n0
  refine Wq.step (p := p) (e := e) (below := below) (En := (fun o t L => FrameEnd s o t L ({ frames := 0, cells := 0, slots := 0, locals := 0 } : Room).cells ({ frames := 0, cells := 0, slots := 0, locals := 0 } : Room).slots)) (Q := (Q_noteN Z thisnoteN xnoteN_1 nN bN cN vsN bsN h0 n0)) (fun t k => castTop (ef_noteN m thisnoteN xnoteN_1) k) ?_
  show Wq _ _ _ _ _ (s₁.setTop (mkF m 0 #[.val (.ref thisnoteN), .val (.int xnoteN_1)] []))
  refine Ow.aloadN X0 hx (pc' := 1) (hb hby d_prog_3_method_2_0) rfl rfl ?_
  obtain ⟨T14, X14, e14, st14⟩ := getF X0 hx hZ hown (host := "") (Or.inl (kw14 hw)) Via.refl e0 F_thisnoteN_isNoted (g := (mkF m 1 #[.val (.ref thisnoteN), .val (.int xnoteN_1)] [(.ref thisnoteN)])) rfl rfl (hb hby d_prog_3_method_2_1)
  refine Wq.step st14 ?_
  show Wq _ _ _ _ _ (T14.setTop (mkF m 4 #[.val (.ref thisnoteN), .val (.int xnoteN_1)] [(.ref bN)]))
  refine Ow.iloadN X14 hx (pc' := 5) (hb hby d_prog_3_method_2_4) rfl ?_
  refine Ow.ldZ X14 hx hZ e14 V_bN (pc' := 6) (hb hby d_prog_3_method_2_5) (j := xnoteN_1) (i := xnoteN_1.toNatClampNeg) (v := (.int (0 : Int32))) (hj) (rfl) (hb1) ?_
  refine Ow.ifNo X14 hx (pc' := 9) (hb hby d_prog_3_method_2_6) ((if0 _ _).trans (teq (by decide : (0 : Int32) = (0 : Int32))).2) ?_
  refine Ow.aloadN X14 hx (pc' := 10) (hb hby d_prog_3_method_2_9) rfl rfl ?_
  obtain ⟨T15, X15, e15, st15⟩ := getF X14 hx hZ hown (host := "") (Or.inl (kw14 hw)) Via.refl e14 F_thisnoteN_isNoted (g := (mkF m 10 #[.val (.ref thisnoteN), .val (.int xnoteN_1)] [(.ref thisnoteN)])) rfl rfl (hb hby d_prog_3_method_2_10)
  refine Wq.step st15 ?_
  show Wq _ _ _ _ _ (T15.setTop (mkF m 13 #[.val (.ref thisnoteN), .val (.int xnoteN_1)] [(.ref bN)]))
  refine Ow.iloadN X15 hx (pc' := 14) (hb hby d_prog_3_method_2_13) rfl ?_
  refine Ow.iconst X15 hx (pc' := 15) (hb hby d_prog_3_method_2_14) (z := (1 : Int32)) rfl ?_
  obtain ⟨T16, h16, X16, e16, W16, Vr16, st16⟩ := asZ X15 hx hZ e15 V_bN (j := xnoteN_1) (i := xnoteN_1.toNatClampNeg) (hj) (rfl) (al_lt hb1) (y := (1 : Int32)) rfl (g := (mkF m 15 #[.val (.ref thisnoteN), .val (.int xnoteN_1)] [(.int (1 : Int32)), (.int xnoteN_1), (.ref bN)])) rfl rfl (hb hby d_prog_3_method_2_15)
  refine Wq.step st16 ?_
  have N16 := Fr.snoc X16 N0 g_bN
  have K16 : Keep h0 h16 [bN, thisnoteN, nN] := (Keep.refl h0 [bN, thisnoteN, nN]).wr W16 (Or.inl (List.mem_of_getElem? (i := 0) rfl))
  have Z16 : n0 ≤ h16.size := Nat.le_trans Z0 (Keep.of_wr W16).1
  have E_thisnoteN_t16 := E_thisnoteN.wr W16
  have F_thisnoteN_noted_t16 := F_thisnoteN_noted.other W16 (Or.inl ne_thisnoteN_bN)
  have F_thisnoteN_isNoted_t16 := F_thisnoteN_isNoted.other W16 (Or.inl ne_thisnoteN_bN)
  have F_thisnoteN_count_t16 := F_thisnoteN_count.other W16 (Or.inl ne_thisnoteN_bN)
  have V_nN_t16 := V_nN.other W16 ne_nN_bN
  have V_bN_t16 : Al Z h16 bN .boolean (bsN.set xnoteN_1.toNatClampNeg (.int (1 : Int32))) := Vr16
  show Wq _ _ _ _ _ (T16.setTop (mkF m 16 #[.val (.ref thisnoteN), .val (.int xnoteN_1)] []))
  refine Ow.aloadN X16 hx (pc' := 17) (hb hby d_prog_3_method_2_16) rfl rfl ?_
  obtain ⟨T17, X17, e17, st17⟩ := getF X16 hx hZ hown (host := "") (Or.inl (kw11 hw)) Via.refl e16 F_thisnoteN_noted_t16 (g := (mkF m 17 #[.val (.ref thisnoteN), .val (.int xnoteN_1)] [(.ref thisnoteN)])) rfl rfl (hb hby d_prog_3_method_2_17)
  refine Wq.step st17 ?_
  show Wq _ _ _ _ _ (T17.setTop (mkF m 20 #[.val (.ref thisnoteN), .val (.int xnoteN_1)] [(.ref nN)]))
  refine Ow.aloadN X17 hx (pc' := 21) (hb hby d_prog_3_method_2_20) rfl rfl ?_
  refine Ow.dup X17 hx (pc' := 22) (hb hby d_prog_3_method_2_21) rfl ?_
  obtain ⟨T18, X18, e18, st18⟩ := getF X17 hx hZ hown (host := "") (Or.inl (kw21 hw)) Via.refl e17 F_thisnoteN_count_t16 (g := (mkF m 22 #[.val (.ref thisnoteN), .val (.int xnoteN_1)] [(.ref thisnoteN), (.ref thisnoteN), (.ref nN)])) rfl rfl (hb hby d_prog_3_method_2_22)
  refine Wq.step st18 ?_
  show Wq _ _ _ _ _ (T18.setTop (mkF m 25 #[.val (.ref thisnoteN), .val (.int xnoteN_1)] [(.int cN), (.ref thisnoteN), (.ref nN)]))
  refine Ow.dupX1 X18 hx (pc' := 26) (hb hby d_prog_3_method_2_25) rfl rfl ?_
  refine Ow.iconst X18 hx (pc' := 27) (hb hby d_prog_3_method_2_26) (z := (1 : Int32)) rfl ?_
  refine Ow.iadd X18 hx (pc' := 28) (hb hby d_prog_3_method_2_27) (z := (cN + (1 : Int32))) rfl ?_
  obtain ⟨T19, h19, X19, e19, W19, st19⟩ := putF X18 hx hZ hown (host := "") (Or.inl (kw21 hw)) Via.refl e18 F_thisnoteN_count_t16 E_thisnoteN_t16 (Or.inl (kw22 hw)) (kw2 hw) (ty := .int) (by decide) (rfl) (rfl) (g := (mkF m 28 #[.val (.ref thisnoteN), .val (.int xnoteN_1)] [(.int (cN + (1 : Int32))), (.ref thisnoteN), (.int cN), (.ref nN)])) rfl rfl (hb hby d_prog_3_method_2_28)
  refine Wq.step st19 ?_
  have N19 := Fr.snoc X19 N16 g_thisnoteN
  have K19 : Keep h0 h19 [bN, thisnoteN, nN] := K16.wr W19 (Or.inl (List.mem_of_getElem? (i := 1) rfl))
  have Z19 : n0 ≤ h19.size := Nat.le_trans Z16 (Keep.of_wr W19).1
  have E_thisnoteN_t19 := E_thisnoteN_t16.wr W19
  have F_thisnoteN_noted_t19 := F_thisnoteN_noted_t16.other W19 (Or.inr (slot_ne (Or.inr (kw12 hw)) (Or.inl (kw22 hw)) (by decide) (t := (.array .int)) (t' := .int) (by decide) (by decide)))
  have F_thisnoteN_isNoted_t19 := F_thisnoteN_isNoted_t16.other W19 (Or.inr (slot_ne (Or.inr (kw15 hw)) (Or.inl (kw22 hw)) (by decide) (t := (.array .boolean)) (t' := .int) (by decide) (by decide)))
  have V_nN_t19 := V_nN_t16.other W19 (Ne.symm ne_thisnoteN_nN)
  have V_bN_t19 := V_bN_t16.other W19 (Ne.symm ne_thisnoteN_bN)
  have F_thisnoteN_count_t19 : Fld Z h19 thisnoteN "com/example/tauten/tauten/ChangeList" "count" "I" (.int (cN + (1 : Int32))) := F_thisnoteN_count_t16.same W19
  show Wq _ _ _ _ _ (T19.setTop (mkF m 31 #[.val (.ref thisnoteN), .val (.int xnoteN_1)] [(.int cN), (.ref nN)]))
  refine Ow.iloadN X19 hx (pc' := 32) (hb hby d_prog_3_method_2_31) rfl ?_
  obtain ⟨T20, h20, X20, e20, W20, Vr20, st20⟩ := asI X19 hx hZ e19 V_nN_t19 (j := cN) (i := cN.toNatClampNeg) (hc) (rfl) (hcl) (g := (mkF m 32 #[.val (.ref thisnoteN), .val (.int xnoteN_1)] [(.int xnoteN_1), (.int cN), (.ref nN)])) rfl rfl (hb hby d_prog_3_method_2_32)
  refine Wq.step st20 ?_
  have N20 := Fr.snoc X20 N19 g_nN
  have K20 : Keep h0 h20 [bN, thisnoteN, nN] := K19.wr W20 (Or.inl (List.mem_of_getElem? (i := 2) rfl))
  have Z20 : n0 ≤ h20.size := Nat.le_trans Z19 (Keep.of_wr W20).1
  have E_thisnoteN_t20 := E_thisnoteN_t19.wr W20
  have F_thisnoteN_noted_t20 := F_thisnoteN_noted_t19.other W20 (Or.inl ne_thisnoteN_nN)
  have F_thisnoteN_isNoted_t20 := F_thisnoteN_isNoted_t19.other W20 (Or.inl ne_thisnoteN_nN)
  have V_bN_t20 := V_bN_t19.other W20 (Ne.symm ne_nN_bN)
  have F_thisnoteN_count_t20 := F_thisnoteN_count_t19.other W20 (Or.inl ne_thisnoteN_nN)
  have V_nN_t20 : Al Z h20 nN .int (vsN.set cN.toNatClampNeg (.int xnoteN_1)) := Vr20
  show Wq _ _ _ _ _ (T20.setTop (mkF m 33 #[.val (.ref thisnoteN), .val (.int xnoteN_1)] []))
  exact Wq.ret X20 (BodyLoose.notSynchronized Bd) (rv := none) (fun _ => rfl) (fun _ hr => X20.returnOut hx Bd.returns (hb hby d_prog_3_method_2_33) hr) (by decide) (by decide) (by rw [e20]; exact ⟨rfl, N20, K20, E_thisnoteN_t20, F_thisnoteN_noted_t20, F_thisnoteN_isNoted_t20, V_bN_t20, F_thisnoteN_count_t20, V_nN_t20⟩)
theorem d_prog_3_method_3_0 : decode prog_3_method_3_code 0 = .ok (.aload_n 0, 1) := by decide +kernel
theorem d_prog_3_method_3_1 : decode prog_3_method_3_code 1 = .ok (.getfield 17, 3) := by decide +kernel
theorem d_prog_3_method_3_4 : decode prog_3_method_3_code 4 = .ok (.ifCond .ne 5, 3) := by decide +kernel
theorem d_prog_3_method_3_7 : decode prog_3_method_3_code 7 = .ok (.iconst (-1), 1) := by decide +kernel
theorem ef_nextA (m : MethodId) (thisnextA : Addr) : entryFrame m #[(.ref thisnextA)] 2 = mkF m 0 #[.val (.ref thisnextA), .unset] [] := by first | (simp [entryFrame, mkF, argsToLocals, Value.category]; done) | rfl
def Q_nextA (Z : State) (thisnextA : Addr) (h0 : Heap) (n0 : Nat) (v : Option Value) (h : Heap) (L : List Loc) : Prop := v = some (.int (-1 : Int32)) ∧ Fr n0 L ∧ h = h0
theorem d_prog_3_method_3_8 : decode prog_3_method_3_code 8 = .ok (.ireturn, 1) := by decide +kernel
abbrev mt4 : MethodName := ⟨"com/example/tauten/tauten/ChangeList", "next", "()I"⟩
set_option maxRecDepth 65536 in
set_option maxHeartbeats 40000000 in
theorem rm_nextA (l : Launch) (Z : State) (a0 : Array Value) (hw : ∀ d ∈ tables_1, d.before a0 Z = true) (ws : List Jvm.Cond) (thisnextA : Addr) (h0 : Heap) (n0 : Nat) (Z0 : n0 ≤ h0.size) (F_thisnextA_count : Fld Z h0 thisnextA "com/example/tauten/tauten/ChangeList" "count" "I" (.int (0 : Int32))) :
    MetFree l mt4 (head1 (Jvm.Cond.code mt4 prog_3_method_3_code 2 (some .int) :: ws) ({ frames := 0, cells := 0, slots := 0, locals := 0 } : Room)) (fun a U => a = #[(.ref thisnextA)] ∧ Z.Warmed39 U.vm ∧ U.heap = h0) (fun _ _ _ _ _ => True) (fun _ U o U' => ∃ v L, o = .returned v ∧ (Q_nextA Z thisnextA h0 n0) v U'.heap L ∧ FrameEnd U o U' L ({ frames := 0, cells := 0, slots := 0, locals := 0 } : Room).cells ({ frames := 0, cells := 0, slots := 0, locals := 0 } : Room).slots) := by
  refine MetFree.of_bodySF (plainFor_of_name pn1) hisR ?_
  intro p e s m args below meth c s₁ Bd hml0 hP hK
  obtain ⟨rfl, hZ, hh⟩ := hP
  have hx := Bd.exec
  have hby := Bd.bytes
  have hml : c.maxLocals = 2 := hml0
  have hown : s.vm.findClass "com/example/tauten/tauten/ChangeList" = some m.cls := findClass_of_methodNamed Bd.named
  have hnm := (name_of_methodNamed Bd.named Bd.method).1
  have X0 : Stand p l e ({ frames := 0, cells := 0, slots := 0, locals := 0 } : Room) s m #[(.ref thisnextA)] below meth c s₁ [] 0 0 := Stand.of_body Bd
  have e0 : s₁.heap = h0 := by rw [← hh, Bd.state]; rfl
  have N0 := Fr.nil n0
  refine Wq.step (p := p) (e := e) (below := below) (En := (fun o t L => FrameEnd s o t L ({ frames := 0, cells := 0, slots := 0, locals := 0 } : Room).cells ({ frames := 0, cells := 0, slots := 0, locals := 0 } : Room).slots)) (Q := (Q_nextA Z thisnextA h0 n0)) (fun t k => castTop (ef_nextA m thisnextA) k) ?_
  show Wq _ _ _ _ _ (s₁.setTop (mkF m 0 #[.val (.ref thisnextA), .unset] []))
  refine Ow.aloadN X0 hx (pc' := 1) (hb hby d_prog_3_method_3_0) rfl rfl ?_
  obtain ⟨T21, X21, e21, st21⟩ := getF X0 hx hZ hown (host := "") (Or.inl (kw21 hw)) Via.refl e0 F_thisnextA_count (g := (mkF m 1 #[.val (.ref thisnextA), .unset] [(.ref thisnextA)])) rfl rfl (hb hby d_prog_3_method_3_1)
  refine Wq.step st21 ?_
  show Wq _ _ _ _ _ (T21.setTop (mkF m 4 #[.val (.ref thisnextA), .unset] [(.int (0 : Int32))]))
  refine Ow.ifNo X21 hx (pc' := 7) (hb hby d_prog_3_method_3_4) ((if0 _ _).trans (teq (by decide : (0 : Int32) = (0 : Int32))).2) ?_
  refine Ow.iconst X21 hx (pc' := 8) (hb hby d_prog_3_method_3_7) (z := (-1 : Int32)) rfl ?_
  exact Wq.ret X21 (BodyLoose.notSynchronized Bd) (rv := some (.int (-1 : Int32))) (fun h => by rw [Bd.returns] at h; cases h) (fun _ hr => retOut X21 hx Bd.returns rfl (Or.inl ⟨rfl, Or.inl rfl, _, rfl⟩) (hb hby d_prog_3_method_3_8) hr) (by decide) (by decide) ⟨rfl, N0, e21⟩
theorem d_prog_3_method_3_9 : decode prog_3_method_3_code 9 = .ok (.aload_n 0, 1) := by decide +kernel
theorem d_prog_3_method_3_10 : decode prog_3_method_3_code 10 = .ok (.getfield 7, 3) := by decide +kernel
theorem d_prog_3_method_3_13 : decode prog_3_method_3_code 13 = .ok (.aload_n 0, 1) := by decide +kernel
theorem d_prog_3_method_3_14 : decode prog_3_method_3_code 14 = .ok (.dup, 1) := by decide +kernel
theorem d_prog_3_method_3_15 : decode prog_3_method_3_code 15 = .ok (.getfield 17, 3) := by decide +kernel
theorem d_prog_3_method_3_18 : decode prog_3_method_3_code 18 = .ok (.iconst 1, 1) := by decide +kernel
theorem d_prog_3_method_3_19 : decode prog_3_method_3_code 19 = .ok (.isub, 1) := by decide +kernel
theorem d_prog_3_method_3_20 : decode prog_3_method_3_code 20 = .ok (.dup_x1, 1) := by decide +kernel
theorem d_prog_3_method_3_21 : decode prog_3_method_3_code 21 = .ok (.putfield 17, 3) := by decide +kernel
theorem d_prog_3_method_3_24 : decode prog_3_method_3_code 24 = .ok (.iaload, 1) := by decide +kernel
theorem d_prog_3_method_3_25 : decode prog_3_method_3_code 25 = .ok (.istore_n 1, 1) := by decide +kernel
theorem d_prog_3_method_3_26 : decode prog_3_method_3_code 26 = .ok (.aload_n 0, 1) := by decide +kernel
theorem d_prog_3_method_3_27 : decode prog_3_method_3_code 27 = .ok (.getfield 13, 3) := by decide +kernel
theorem d_prog_3_method_3_30 : decode prog_3_method_3_code 30 = .ok (.iload_n 1, 1) := by decide +kernel
theorem d_prog_3_method_3_31 : decode prog_3_method_3_code 31 = .ok (.iconst 0, 1) := by decide +kernel
theorem d_prog_3_method_3_32 : decode prog_3_method_3_code 32 = .ok (.bastore, 1) := by decide +kernel
theorem d_prog_3_method_3_33 : decode prog_3_method_3_code 33 = .ok (.iload_n 1, 1) := by decide +kernel
theorem ef_nextB (m : MethodId) (thisnextB : Addr) : entryFrame m #[(.ref thisnextB)] 2 = mkF m 0 #[.val (.ref thisnextB), .unset] [] := by first | (simp [entryFrame, mkF, argsToLocals, Value.category]; done) | rfl
def Q_nextB (Z : State) (thisnextB : Addr) (nB : Addr) (bB : Addr) (cB : Int32) (vsB : List Value) (bsB : List Value) (yB : Int32) (h0 : Heap) (n0 : Nat) (v : Option Value) (h : Heap) (L : List Loc) : Prop := v = some (.int yB) ∧ Fr n0 L ∧ Keep h0 h [thisnextB, bB] ∧ Exa Z h thisnextB "com/example/tauten/tauten/ChangeList" ∧ Fld Z h thisnextB "com/example/tauten/tauten/ChangeList" "noted" "[I" (.ref nB) ∧ Fld Z h thisnextB "com/example/tauten/tauten/ChangeList" "isNoted" "[Z" (.ref bB) ∧ Fld Z h thisnextB "com/example/tauten/tauten/ChangeList" "count" "I" (.int (cB - (1 : Int32))) ∧ Al Z h bB .boolean (bsB.set yB.toNatClampNeg (.int (0 : Int32)))
theorem d_prog_3_method_3_34 : decode prog_3_method_3_code 34 = .ok (.ireturn, 1) := by decide +kernel
set_option maxRecDepth 65536 in
set_option maxHeartbeats 40000000 in
theorem rm_nextB (l : Launch) (Z : State) (a0 : Array Value) (hw : ∀ d ∈ tables_1, d.before a0 Z = true) (ws : List Jvm.Cond) (thisnextB : Addr) (nB : Addr) (bB : Addr) (cB : Int32) (vsB : List Value) (bsB : List Value) (yB : Int32) (h0 : Heap) (n0 : Nat) (Z0 : n0 ≤ h0.size) (hc0 : ¬ (cB = (0 : Int32))) (hk1 : ¬ (cB - (1 : Int32)) < 0) (hy : vsB[(cB - (1 : Int32)).toNatClampNeg]? = some (.int yB)) (hy0 : ¬ yB < 0) (hyl : yB.toNatClampNeg < bsB.length) (E_thisnextB : Exa Z h0 thisnextB "com/example/tauten/tauten/ChangeList") (F_thisnextB_noted : Fld Z h0 thisnextB "com/example/tauten/tauten/ChangeList" "noted" "[I" (.ref nB)) (F_thisnextB_isNoted : Fld Z h0 thisnextB "com/example/tauten/tauten/ChangeList" "isNoted" "[Z" (.ref bB)) (F_thisnextB_count : Fld Z h0 thisnextB "com/example/tauten/tauten/ChangeList" "count" "I" (.int cB)) (V_nB : Al Z h0 nB .int vsB) (V_bB : Al Z h0 bB .boolean bsB) (g_thisnextB : n0 ≤ thisnextB) (g_nB : n0 ≤ nB) (g_bB : n0 ≤ bB) (ne_thisnextB_nB : thisnextB ≠ nB) (ne_thisnextB_bB : thisnextB ≠ bB) (ne_nB_bB : nB ≠ bB) :
    MetFree l mt4 (head1 (Jvm.Cond.code mt4 prog_3_method_3_code 2 (some .int) :: ws) ({ frames := 0, cells := 0, slots := 0, locals := 0 } : Room)) (fun a U => a = #[(.ref thisnextB)] ∧ Z.Warmed39 U.vm ∧ U.heap = h0) (fun _ _ _ _ _ => True) (fun _ U o U' => ∃ v L, o = .returned v ∧ (Q_nextB Z thisnextB nB bB cB vsB bsB yB h0 n0) v U'.heap L ∧ FrameEnd U o U' L ({ frames := 0, cells := 0, slots := 0, locals := 0 } : Room).cells ({ frames := 0, cells := 0, slots := 0, locals := 0 } : Room).slots) := by
  refine MetFree.of_bodySF (plainFor_of_name pn1) hisR ?_
  intro p e s m args below meth c s₁ Bd hml0 hP hK
  obtain ⟨rfl, hZ, hh⟩ := hP
  have hx := Bd.exec
  have hby := Bd.bytes
  have hml : c.maxLocals = 2 := hml0
  have hown : s.vm.findClass "com/example/tauten/tauten/ChangeList" = some m.cls := findClass_of_methodNamed Bd.named
  have hnm := (name_of_methodNamed Bd.named Bd.method).1
  have X0 : Stand p l e ({ frames := 0, cells := 0, slots := 0, locals := 0 } : Room) s m #[(.ref thisnextB)] below meth c s₁ [] 0 0 := Stand.of_body Bd
  have e0 : s₁.heap = h0 := by rw [← hh, Bd.state]; rfl
  have N0 := Fr.nil n0
  refine Wq.step (p := p) (e := e) (below := below) (En := (fun o t L => FrameEnd s o t L ({ frames := 0, cells := 0, slots := 0, locals := 0 } : Room).cells ({ frames := 0, cells := 0, slots := 0, locals := 0 } : Room).slots)) (Q := (Q_nextB Z thisnextB nB bB cB vsB bsB yB h0 n0)) (fun t k => castTop (ef_nextB m thisnextB) k) ?_
  show Wq _ _ _ _ _ (s₁.setTop (mkF m 0 #[.val (.ref thisnextB), .unset] []))
  refine Ow.aloadN X0 hx (pc' := 1) (hb hby d_prog_3_method_3_0) rfl rfl ?_
  obtain ⟨T22, X22, e22, st22⟩ := getF X0 hx hZ hown (host := "") (Or.inl (kw21 hw)) Via.refl e0 F_thisnextB_count (g := (mkF m 1 #[.val (.ref thisnextB), .unset] [(.ref thisnextB)])) rfl rfl (hb hby d_prog_3_method_3_1)
  refine Wq.step st22 ?_
  show Wq _ _ _ _ _ (T22.setTop (mkF m 4 #[.val (.ref thisnextB), .unset] [(.int cB)]))
  refine Ow.ifYes X22 hx (pc' := 9) (hb hby d_prog_3_method_3_4) ((if0 _ _).trans (feq (hc0 : ¬ (cB = (0 : Int32)))).2) (by decide) (by decide) ?_
  refine Ow.aloadN X22 hx (pc' := 10) (hb hby d_prog_3_method_3_9) rfl rfl ?_
  obtain ⟨T23, X23, e23, st23⟩ := getF X22 hx hZ hown (host := "") (Or.inl (kw11 hw)) Via.refl e22 F_thisnextB_noted (g := (mkF m 10 #[.val (.ref thisnextB), .unset] [(.ref thisnextB)])) rfl rfl (hb hby d_prog_3_method_3_10)
  refine Wq.step st23 ?_
  show Wq _ _ _ _ _ (T23.setTop (mkF m 13 #[.val (.ref thisnextB), .unset] [(.ref nB)]))
  refine Ow.aloadN X23 hx (pc' := 14) (hb hby d_prog_3_method_3_13) rfl rfl ?_
  refine Ow.dup X23 hx (pc' := 15) (hb hby d_prog_3_method_3_14) rfl ?_
  obtain ⟨T24, X24, e24, st24⟩ := getF X23 hx hZ hown (host := "") (Or.inl (kw21 hw)) Via.refl e23 F_thisnextB_count (g := (mkF m 15 #[.val (.ref thisnextB), .unset] [(.ref thisnextB), (.ref thisnextB), (.ref nB)])) rfl rfl (hb hby d_prog_3_method_3_15)
  refine Wq.step st24 ?_
  show Wq _ _ _ _ _ (T24.setTop (mkF m 18 #[.val (.ref thisnextB), .unset] [(.int cB), (.ref thisnextB), (.ref nB)]))
  refine Ow.iconst X24 hx (pc' := 19) (hb hby d_prog_3_method_3_18) (z := (1 : Int32)) rfl ?_
  refine Ow.isub X24 hx (pc' := 20) (hb hby d_prog_3_method_3_19) (z := (cB - (1 : Int32))) rfl ?_
  refine Ow.dupX1 X24 hx (pc' := 21) (hb hby d_prog_3_method_3_20) rfl rfl ?_
  obtain ⟨T25, h25, X25, e25, W25, st25⟩ := putF X24 hx hZ hown (host := "") (Or.inl (kw21 hw)) Via.refl e24 F_thisnextB_count E_thisnextB (Or.inl (kw22 hw)) (kw2 hw) (ty := .int) (by decide) (rfl) (rfl) (g := (mkF m 21 #[.val (.ref thisnextB), .unset] [(.int (cB - (1 : Int32))), (.ref thisnextB), (.int (cB - (1 : Int32))), (.ref nB)])) rfl rfl (hb hby d_prog_3_method_3_21)
  refine Wq.step st25 ?_
  have N25 := Fr.snoc X25 N0 g_thisnextB
  have K25 : Keep h0 h25 [thisnextB, bB] := (Keep.refl h0 [thisnextB, bB]).wr W25 (Or.inl (List.mem_of_getElem? (i := 0) rfl))
  have Z25 : n0 ≤ h25.size := Nat.le_trans Z0 (Keep.of_wr W25).1
  have E_thisnextB_t25 := E_thisnextB.wr W25
  have F_thisnextB_noted_t25 := F_thisnextB_noted.other W25 (Or.inr (slot_ne (Or.inr (kw12 hw)) (Or.inl (kw22 hw)) (by decide) (t := (.array .int)) (t' := .int) (by decide) (by decide)))
  have F_thisnextB_isNoted_t25 := F_thisnextB_isNoted.other W25 (Or.inr (slot_ne (Or.inr (kw15 hw)) (Or.inl (kw22 hw)) (by decide) (t := (.array .boolean)) (t' := .int) (by decide) (by decide)))
  have V_nB_t25 := V_nB.other W25 (Ne.symm ne_thisnextB_nB)
  have V_bB_t25 := V_bB.other W25 (Ne.symm ne_thisnextB_bB)
  have F_thisnextB_count_t25 : Fld Z h25 thisnextB "com/example/tauten/tauten/ChangeList" "count" "I" (.int (cB - (1 : Int32))) := F_thisnextB_count.same W25
  show Wq _ _ _ _ _ (T25.setTop (mkF m 24 #[.val (.ref thisnextB), .unset] [(.int (cB - (1 : Int32))), (.ref nB)]))
  refine Ow.ldI X25 hx hZ e25 V_nB_t25 (pc' := 25) (hb hby d_prog_3_method_3_24) (j := (cB - (1 : Int32))) (i := (cB - (1 : Int32)).toNatClampNeg) (v := (.int yB)) (hk1) (rfl) (hy) ?_
  refine Ow.istoreN X25 hx (pc' := 26) (hb hby d_prog_3_method_3_25) (l' := #[.val (.ref thisnextB), .val (.int yB)]) rfl ?_
  refine Ow.aloadN X25 hx (pc' := 27) (hb hby d_prog_3_method_3_26) rfl rfl ?_
  obtain ⟨T26, X26, e26, st26⟩ := getF X25 hx hZ hown (host := "") (Or.inl (kw14 hw)) Via.refl e25 F_thisnextB_isNoted_t25 (g := (mkF m 27 #[.val (.ref thisnextB), .val (.int yB)] [(.ref thisnextB)])) rfl rfl (hb hby d_prog_3_method_3_27)
  refine Wq.step st26 ?_
  show Wq _ _ _ _ _ (T26.setTop (mkF m 30 #[.val (.ref thisnextB), .val (.int yB)] [(.ref bB)]))
  refine Ow.iloadN X26 hx (pc' := 31) (hb hby d_prog_3_method_3_30) rfl ?_
  refine Ow.iconst X26 hx (pc' := 32) (hb hby d_prog_3_method_3_31) (z := (0 : Int32)) rfl ?_
  obtain ⟨T27, h27, X27, e27, W27, Vr27, st27⟩ := asZ X26 hx hZ e26 V_bB_t25 (j := yB) (i := yB.toNatClampNeg) (hy0) (rfl) (hyl) (y := (0 : Int32)) rfl (g := (mkF m 32 #[.val (.ref thisnextB), .val (.int yB)] [(.int (0 : Int32)), (.int yB), (.ref bB)])) rfl rfl (hb hby d_prog_3_method_3_32)
  refine Wq.step st27 ?_
  have N27 := Fr.snoc X27 N25 g_bB
  have K27 : Keep h0 h27 [thisnextB, bB] := K25.wr W27 (Or.inl (List.mem_of_getElem? (i := 1) rfl))
  have Z27 : n0 ≤ h27.size := Nat.le_trans Z25 (Keep.of_wr W27).1
  have E_thisnextB_t27 := E_thisnextB_t25.wr W27
  have F_thisnextB_noted_t27 := F_thisnextB_noted_t25.other W27 (Or.inl ne_thisnextB_bB)
  have F_thisnextB_isNoted_t27 := F_thisnextB_isNoted_t25.other W27 (Or.inl ne_thisnextB_bB)
  have V_nB_t27 := V_nB_t25.other W27 ne_nB_bB
  have F_thisnextB_count_t27 := F_thisnextB_count_t25.other W27 (Or.inl ne_thisnextB_bB)
  have V_bB_t27 : Al Z h27 bB .boolean (bsB.set yB.toNatClampNeg (.int (0 : Int32))) := Vr27
  show Wq _ _ _ _ _ (T27.setTop (mkF m 33 #[.val (.ref thisnextB), .val (.int yB)] []))
  refine Ow.iloadN X27 hx (pc' := 34) (hb hby d_prog_3_method_3_33) rfl ?_
  exact Wq.ret X27 (BodyLoose.notSynchronized Bd) (rv := some (.int yB)) (fun h => by rw [Bd.returns] at h; cases h) (fun _ hr => retOut X27 hx Bd.returns rfl (Or.inl ⟨rfl, Or.inl rfl, _, rfl⟩) (hb hby d_prog_3_method_3_34) hr) (by decide) (by decide) (by rw [e27]; exact ⟨rfl, N27, K27, E_thisnextB_t27, F_thisnextB_noted_t27, F_thisnextB_isNoted_t27, F_thisnextB_count_t27, V_bB_t27⟩)
def own_nV (vs bs : List Value) (c x : Int32) : List Value := if bs[x.toNatClampNeg]? = some (.int (0 : Int32)) then vs.set c.toNatClampNeg (.int x) else vs
def own_nB (bs : List Value) (x : Int32) : List Value := if bs[x.toNatClampNeg]? = some (.int (0 : Int32)) then bs.set x.toNatClampNeg (.int (1 : Int32)) else bs
def own_nC (bs : List Value) (c x : Int32) : Int32 := if bs[x.toNatClampNeg]? = some (.int (0 : Int32)) then c + (1 : Int32) else c
def own_okN (vs bs : List Value) (c x : Int32) : Bool := decide (¬ x < 0) && decide (¬ c < 0) && decide (c.toNatClampNeg < vs.length) && decide (bs[x.toNatClampNeg]? = some (.int (0 : Int32)) ∨ bs[x.toNatClampNeg]? = some (.int (1 : Int32)))
def own_xY (vs : List Value) (c : Int32) : Int32 := match vs[(c - (1 : Int32)).toNatClampNeg]? with | some (.int y) => y | _ => 0
def own_xR (vs : List Value) (c : Int32) : Int32 := if c = (0 : Int32) then (-1 : Int32) else own_xY vs c
def own_xB (vs bs : List Value) (c : Int32) : List Value := if c = (0 : Int32) then bs else bs.set (own_xY vs c).toNatClampNeg (.int (0 : Int32))
def own_xC (c : Int32) : Int32 := if c = (0 : Int32) then c else c - (1 : Int32)
def own_okX (vs bs : List Value) (c : Int32) : Bool := decide (c = (0 : Int32)) || (decide (¬ (c - (1 : Int32)) < 0) && decide (vs[(c - (1 : Int32)).toNatClampNeg]? = some (.int (own_xY vs c))) && decide (¬ own_xY vs c < 0) && decide ((own_xY vs c).toNatClampNeg < bs.length))
def own_T3 (x : Int32) : Prop := x = 0 ∨ x = 1 ∨ x = 2
theorem own_mod3 (x : Int32) : own_T3 ((x &&& (2147483647 : Int32)) % (3 : Int32)) := by
  have h := c_mask x 2147483647 31 (by decide) (by decide)
  have h2 := (c_irem (x &&& 2147483647) 3 3 (by decide)).1 (by omega)
  have e0 : (0 : Int32).toInt = 0 := by decide
  have e1 : (1 : Int32).toInt = 1 := by decide
  have e2 : (2 : Int32).toInt = 2 := by decide
  unfold own_T3
  simp only [← Int32.toInt_inj, e0, e1, e2]
  omega
def Q_noteC (Z : State) (t : Addr) (x : Int32) (n b : Addr) (c : Int32) (vs bs : List Value) (h0 : Heap) (n0 : Nat) (v : Option Value) (h : Heap) (L : List Loc) : Prop := v = none ∧ Fr n0 L ∧ Keep h0 h [b, t, n] ∧ Fld Z h t "com/example/tauten/tauten/ChangeList" "noted" "[I" (.ref n) ∧ Fld Z h t "com/example/tauten/tauten/ChangeList" "isNoted" "[Z" (.ref b) ∧ Fld Z h t "com/example/tauten/tauten/ChangeList" "count" "I" (.int (own_nC bs c x)) ∧ Al Z h n .int (own_nV vs bs c x) ∧ Al Z h b .boolean (own_nB bs x)
def Q_nextC (Z : State) (t n b : Addr) (c : Int32) (vs bs : List Value) (h0 : Heap) (n0 : Nat) (v : Option Value) (h : Heap) (L : List Loc) : Prop := v = some (.int (own_xR vs c)) ∧ Fr n0 L ∧ Keep h0 h [t, b] ∧ Fld Z h t "com/example/tauten/tauten/ChangeList" "noted" "[I" (.ref n) ∧ Fld Z h t "com/example/tauten/tauten/ChangeList" "isNoted" "[Z" (.ref b) ∧ Fld Z h t "com/example/tauten/tauten/ChangeList" "count" "I" (.int (own_xC c)) ∧ Al Z h n .int vs ∧ Al Z h b .boolean (own_xB vs bs c)
theorem rm_noteC (l : Launch) (Z : State) (a0 : Array Value) (hw : ∀ d ∈ tables_1, d.before a0 Z = true) (ws : List Jvm.Cond) (t : Addr) (x : Int32) (n b : Addr) (c : Int32) (vs bs : List Value) (h0 : Heap) (n0 : Nat) (Z0 : n0 ≤ h0.size) (E_t : Exa Z h0 t "com/example/tauten/tauten/ChangeList") (F_t_noted : Fld Z h0 t "com/example/tauten/tauten/ChangeList" "noted" "[I" (.ref n)) (F_t_isNoted : Fld Z h0 t "com/example/tauten/tauten/ChangeList" "isNoted" "[Z" (.ref b)) (F_t_count : Fld Z h0 t "com/example/tauten/tauten/ChangeList" "count" "I" (.int c)) (V_n : Al Z h0 n .int vs) (V_b : Al Z h0 b .boolean bs) (g_t : n0 ≤ t) (g_n : n0 ≤ n) (g_b : n0 ≤ b) (ne_t_n : t ≠ n) (ne_t_b : t ≠ b) (ne_n_b : n ≠ b) (ok : own_okN vs bs c x = true) :
    MetFree l mt3 (head1 (Jvm.Cond.code mt3 prog_3_method_2_code 2 none :: ws) ({ frames := 0, cells := 0, slots := 0, locals := 0 } : Room)) (fun a U => a = #[(.ref t), (.int x)] ∧ Z.Warmed39 U.vm ∧ U.heap = h0) (fun _ _ _ _ _ => True) (fun _ U o U' => ∃ v L, o = .returned v ∧ (Q_noteC Z t x n b c vs bs h0 n0) v U'.heap L ∧ FrameEnd U o U' L ({ frames := 0, cells := 0, slots := 0, locals := 0 } : Room).cells ({ frames := 0, cells := 0, slots := 0, locals := 0 } : Room).slots) := by
  simp only [own_okN, Bool.and_eq_true, decide_eq_true_eq] at ok
  obtain ⟨⟨⟨k1, k2⟩, k3⟩, k4⟩ := ok
  by_cases hb1 : bs[x.toNatClampNeg]? = some (.int (0 : Int32))
  · have M := rm_noteN l Z a0 hw ws t x n b c vs bs h0 n0 Z0 k1 hb1 k2 k3 E_t F_t_noted F_t_isNoted F_t_count V_n V_b g_t g_n g_b ne_t_n ne_t_b ne_n_b
    intro p e ha hc hk s m args below hf happ hP hK
    obtain ⟨k, o, h1, h2, h3, v, L, rfl, q, fe⟩ := M p e ha hc hk s m args below hf happ hP hK
    refine ⟨k, _, h1, h2, h3, v, L, rfl, ?_, fe⟩
    obtain ⟨q1, q2, q3, q4, q5, q6, q7, q8, q9⟩ := q
    unfold Q_noteC own_nC own_nV own_nB
    rw [if_pos hb1, if_pos hb1, if_pos hb1]
    exact ⟨q1, q2, q3, by first | exact q4 | exact q5 | exact q6 | exact q7 | exact q8 | exact q9, by first | exact q4 | exact q5 | exact q6 | exact q7 | exact q8 | exact q9, by first | exact q4 | exact q5 | exact q6 | exact q7 | exact q8 | exact q9, by first | exact q4 | exact q5 | exact q6 | exact q7 | exact q8 | exact q9, by first | exact q4 | exact q5 | exact q6 | exact q7 | exact q8 | exact q9⟩
  · have hb2 := k4.resolve_left hb1
    have M := rm_noteY l Z a0 hw ws t x b bs 1 h0 n0 Z0 k1 hb2 (by decide) F_t_isNoted V_b
    intro p e ha hc hk s m args below hf happ hP hK
    obtain ⟨k, o, h1, h2, h3, v, L, rfl, q, fe⟩ := M p e ha hc hk s m args below hf happ hP hK
    refine ⟨k, _, h1, h2, h3, v, L, rfl, ?_, fe⟩
    obtain ⟨q1, q2, q3⟩ := q
    unfold Q_noteC own_nC own_nV own_nB
    rw [if_neg hb1, if_neg hb1, if_neg hb1, q3]
    exact ⟨q1, q2, Keep.refl _ _, F_t_noted, F_t_isNoted, F_t_count, V_n, V_b⟩
theorem rm_nextC (l : Launch) (Z : State) (a0 : Array Value) (hw : ∀ d ∈ tables_1, d.before a0 Z = true) (ws : List Jvm.Cond) (t n b : Addr) (c : Int32) (vs bs : List Value) (h0 : Heap) (n0 : Nat) (Z0 : n0 ≤ h0.size) (E_t : Exa Z h0 t "com/example/tauten/tauten/ChangeList") (F_t_noted : Fld Z h0 t "com/example/tauten/tauten/ChangeList" "noted" "[I" (.ref n)) (F_t_isNoted : Fld Z h0 t "com/example/tauten/tauten/ChangeList" "isNoted" "[Z" (.ref b)) (F_t_count : Fld Z h0 t "com/example/tauten/tauten/ChangeList" "count" "I" (.int c)) (V_n : Al Z h0 n .int vs) (V_b : Al Z h0 b .boolean bs) (g_t : n0 ≤ t) (g_n : n0 ≤ n) (g_b : n0 ≤ b) (ne_t_n : t ≠ n) (ne_t_b : t ≠ b) (ne_n_b : n ≠ b) (ok : own_okX vs bs c = true) :
    MetFree l mt4 (head1 (Jvm.Cond.code mt4 prog_3_method_3_code 2 (some .int) :: ws) ({ frames := 0, cells := 0, slots := 0, locals := 0 } : Room)) (fun a U => a = #[(.ref t)] ∧ Z.Warmed39 U.vm ∧ U.heap = h0) (fun _ _ _ _ _ => True) (fun _ U o U' => ∃ v L, o = .returned v ∧ (Q_nextC Z t n b c vs bs h0 n0) v U'.heap L ∧ FrameEnd U o U' L ({ frames := 0, cells := 0, slots := 0, locals := 0 } : Room).cells ({ frames := 0, cells := 0, slots := 0, locals := 0 } : Room).slots) := by
  simp only [own_okX, Bool.or_eq_true, Bool.and_eq_true, decide_eq_true_eq] at ok
  by_cases hc0 : c = (0 : Int32)
  · subst hc0
    have M := rm_nextA l Z a0 hw ws t h0 n0 Z0 F_t_count
    intro p e ha hc hk s m args below hf happ hP hK
    obtain ⟨k, o, h1, h2, h3, v, L, rfl, q, fe⟩ := M p e ha hc hk s m args below hf happ hP hK
    refine ⟨k, _, h1, h2, h3, v, L, rfl, ?_, fe⟩
    obtain ⟨q1, q2, q3⟩ := q
    unfold Q_nextC own_xR own_xB own_xC
    rw [if_pos rfl, if_pos rfl, if_pos rfl, q3]
    exact ⟨q1, q2, Keep.refl _ _, F_t_noted, F_t_isNoted, F_t_count, V_n, V_b⟩
  · obtain ⟨⟨⟨k1, k2⟩, k3⟩, k4⟩ := ok.resolve_left hc0
    have M := rm_nextB l Z a0 hw ws t n b c vs bs (own_xY vs c) h0 n0 Z0 hc0 k1 k2 k3 k4 E_t F_t_noted F_t_isNoted F_t_count V_n V_b g_t g_n g_b ne_t_n ne_t_b ne_n_b
    intro p e ha hc hk s m args below hf happ hP hK
    obtain ⟨k, o, h1, h2, h3, v, L, rfl, q, fe⟩ := M p e ha hc hk s m args below hf happ hP hK
    refine ⟨k, _, h1, h2, h3, v, L, rfl, ?_, fe⟩
    have q0 := q.2.2.1
    have qV := V_n.keep q0 (ninS (Ne.symm ne_t_n) (ninS ne_n_b nin0))
    obtain ⟨q1, q2, q3, q4, q5, q6, q7, q8⟩ := q
    unfold Q_nextC own_xR own_xB own_xC
    rw [if_neg hc0, if_neg hc0, if_neg hc0]
    exact ⟨q1, q2, q3, by first | exact q4 | exact q5 | exact q6 | exact q7 | exact q8, by first | exact q4 | exact q5 | exact q6 | exact q7 | exact q8, by first | exact q4 | exact q5 | exact q6 | exact q7 | exact q8, qV, by first | exact q4 | exact q5 | exact q6 | exact q7 | exact q8⟩
theorem own_lt12 {x : Int32} (h : x < (1 : Int32)) : x < (2 : Int32) := by
  rw [Int32.lt_iff_toInt_lt] at h ⊢
  have e1 : (1 : Int32).toInt = 1 := by decide
  have e2 : (2 : Int32).toInt = 2 := by decide
  omega
theorem own_lt23 {x : Int32} (h : x < (2 : Int32)) : x < (3 : Int32) := by
  rw [Int32.lt_iff_toInt_lt] at h ⊢
  have e1 : (3 : Int32).toInt = 3 := by decide
  have e2 : (2 : Int32).toInt = 2 := by decide
  omega
theorem own_lt13 {x : Int32} (h : x < (1 : Int32)) : x < (3 : Int32) := own_lt23 (own_lt12 h)
theorem kw0 {Z : State} {a0 : Array Value} (hw : ∀ d ∈ tables_1, d.before a0 Z = true) : (Jvm.Cond.constant "com/example/tauten/tauten/ChangeListNextPinLaw" (7 : Nat) (2147483647 : Int32)).before a0 Z = true := hw _ (List.mem_of_getElem? (i := 0) rfl)
theorem kw1 {Z : State} {a0 : Array Value} (hw : ∀ d ∈ tables_1, d.before a0 Z = true) : (Jvm.Cond.classLink "com/example/tauten/tauten/ChangeListNextPinLaw" (8 : Nat) "com/example/tauten/tauten/ChangeList").before a0 Z = true := hw _ (List.mem_of_getElem? (i := 1) rfl)
theorem kw3 {Z : State} {a0 : Array Value} (hw : ∀ d ∈ tables_1, d.before a0 Z = true) : (Jvm.Cond.initialized "com/example/tauten/tauten/ChangeList").before a0 Z = true := hw _ (List.mem_of_getElem? (i := 3) rfl)
theorem kw6 {Z : State} {a0 : Array Value} (hw : ∀ d ∈ tables_1, d.before a0 Z = true) : (Jvm.Cond.code ({ cls := "com/example/tauten/tauten/ChangeList", name := "<init>", desc := "(I)V" } : Jvm.MethodName) prog_3_method_1_code (2 : Nat) (Option.none : Option Jvm.ClassFile.FieldType)).before a0 Z = true := hw _ (List.mem_of_getElem? (i := 6) rfl)
theorem pd1 : parseMethodDescriptor "(I)V" = some ⟨[.int], none⟩ := by decide +kernel
theorem kw4 {Z : State} {a0 : Array Value} (hw : ∀ d ∈ tables_1, d.before a0 Z = true) : (Jvm.Cond.methodLink "com/example/tauten/tauten/ChangeListNextPinLaw" (10 : Nat) ({ cls := "com/example/tauten/tauten/ChangeList", name := "<init>", desc := "(I)V" } : Jvm.MethodName)).before a0 Z = true := hw _ (List.mem_of_getElem? (i := 4) rfl)
theorem kw5 {Z : State} {a0 : Array Value} (hw : ∀ d ∈ tables_1, d.before a0 Z = true) : (Jvm.Cond.instanceMethod ({ cls := "com/example/tauten/tauten/ChangeList", name := "<init>", desc := "(I)V" } : Jvm.MethodName)).before a0 Z = true := hw _ (List.mem_of_getElem? (i := 5) rfl)
set_option maxRecDepth 65536 in
theorem own_en35   : own_okX [(.int (0 : Int32)), (.int (0 : Int32)), (.int (0 : Int32))] [(.int (0 : Int32)), (.int (0 : Int32)), (.int (0 : Int32))] (0 : Int32) = true := by
  decide +kernel
theorem kw20 {Z : State} {a0 : Array Value} (hw : ∀ d ∈ tables_1, d.before a0 Z = true) : (Jvm.Cond.code ({ cls := "com/example/tauten/tauten/ChangeList", name := "next", desc := "()I" } : Jvm.MethodName) prog_3_method_3_code (2 : Nat) (Option.some Jvm.ClassFile.FieldType.int)).before a0 Z = true := hw _ (List.mem_of_getElem? (i := 20) rfl)
theorem pd2 : parseMethodDescriptor "()I" = some ⟨[], some .int⟩ := by decide +kernel
theorem kw16 {Z : State} {a0 : Array Value} (hw : ∀ d ∈ tables_1, d.before a0 Z = true) : (Jvm.Cond.methodLink "com/example/tauten/tauten/ChangeListNextPinLaw" (16 : Nat) ({ cls := "com/example/tauten/tauten/ChangeList", name := "next", desc := "()I" } : Jvm.MethodName)).before a0 Z = true := hw _ (List.mem_of_getElem? (i := 16) rfl)
theorem kw17 {Z : State} {a0 : Array Value} (hw : ∀ d ∈ tables_1, d.before a0 Z = true) : (Jvm.Cond.declares ({ cls := "com/example/tauten/tauten/ChangeList", name := "next", desc := "()I" } : Jvm.MethodName)).before a0 Z = true := hw _ (List.mem_of_getElem? (i := 17) rfl)
theorem kw19 {Z : State} {a0 : Array Value} (hw : ∀ d ∈ tables_1, d.before a0 Z = true) : (Jvm.Cond.selects "com/example/tauten/tauten/ChangeList" ({ cls := "com/example/tauten/tauten/ChangeList", name := "next", desc := "()I" } : Jvm.MethodName) ({ cls := "com/example/tauten/tauten/ChangeList", name := "next", desc := "()I" } : Jvm.MethodName)).before a0 Z = true := hw _ (List.mem_of_getElem? (i := 19) rfl)
theorem kw18 {Z : State} {a0 : Array Value} (hw : ∀ d ∈ tables_1, d.before a0 Z = true) : (Jvm.Cond.instanceMethod ({ cls := "com/example/tauten/tauten/ChangeList", name := "next", desc := "()I" } : Jvm.MethodName)).before a0 Z = true := hw _ (List.mem_of_getElem? (i := 18) rfl)
theorem kw26 {Z : State} {a0 : Array Value} (hw : ∀ d ∈ tables_1, d.before a0 Z = true) : (Jvm.Cond.code ({ cls := "com/example/tauten/tauten/ChangeListNextPinLaw", name := "take", desc := "(I[I)V" } : Jvm.MethodName) method_2_code (2 : Nat) (Option.none : Option Jvm.ClassFile.FieldType)).before a0 Z = true := hw _ (List.mem_of_getElem? (i := 26) rfl)
theorem kw25 {Z : State} {a0 : Array Value} (hw : ∀ d ∈ tables_1, d.before a0 Z = true) : (Jvm.Cond.initialized "com/example/tauten/tauten/ChangeListNextPinLaw").before a0 Z = true := hw _ (List.mem_of_getElem? (i := 25) rfl)
theorem pd3 : parseMethodDescriptor "(I[I)V" = some ⟨[.int, (.array .int)], none⟩ := by decide +kernel
theorem kw23 {Z : State} {a0 : Array Value} (hw : ∀ d ∈ tables_1, d.before a0 Z = true) : (Jvm.Cond.methodLink "com/example/tauten/tauten/ChangeListNextPinLaw" (20 : Nat) ({ cls := "com/example/tauten/tauten/ChangeListNextPinLaw", name := "take", desc := "(I[I)V" } : Jvm.MethodName)).before a0 Z = true := hw _ (List.mem_of_getElem? (i := 23) rfl)
theorem kw24 {Z : State} {a0 : Array Value} (hw : ∀ d ∈ tables_1, d.before a0 Z = true) : (Jvm.Cond.static ({ cls := "com/example/tauten/tauten/ChangeListNextPinLaw", name := "take", desc := "(I[I)V" } : Jvm.MethodName)).before a0 Z = true := hw _ (List.mem_of_getElem? (i := 24) rfl)
set_option maxRecDepth 65536 in
theorem own_en44  {q36 : Int32} (hq36 : q36 = (own_xC (0 : Int32))) {q37 : List Value} (hq37 : q37 = [(.int (0 : Int32)), (.int (0 : Int32)), (.int (0 : Int32))]) {q38 : List Value} (hq38 : q38 = (own_xB [(.int (0 : Int32)), (.int (0 : Int32)), (.int (0 : Int32))] [(.int (0 : Int32)), (.int (0 : Int32)), (.int (0 : Int32))] (0 : Int32))) : own_okX q37 q38 q36 = true := by
  subst hq38 hq37 hq36
  decide +kernel
set_option maxRecDepth 65536 in
theorem own_en52  {q36 : Int32} (hq36 : q36 = (own_xC (0 : Int32))) {q37 : List Value} (hq37 : q37 = [(.int (0 : Int32)), (.int (0 : Int32)), (.int (0 : Int32))]) {q38 : List Value} (hq38 : q38 = (own_xB [(.int (0 : Int32)), (.int (0 : Int32)), (.int (0 : Int32))] [(.int (0 : Int32)), (.int (0 : Int32)), (.int (0 : Int32))] (0 : Int32))) {q45 : Int32} (hq45 : q45 = (own_xC q36)) {q46 : List Value} (hq46 : q46 = (own_xB q37 q38 q36)) : own_okX q37 q46 q45 = true := by
  subst hq46 hq45 hq38 hq37 hq36
  decide +kernel
set_option maxRecDepth 65536 in
theorem own_en60  {q36 : Int32} (hq36 : q36 = (own_xC (0 : Int32))) {q37 : List Value} (hq37 : q37 = [(.int (0 : Int32)), (.int (0 : Int32)), (.int (0 : Int32))]) {q38 : List Value} (hq38 : q38 = (own_xB [(.int (0 : Int32)), (.int (0 : Int32)), (.int (0 : Int32))] [(.int (0 : Int32)), (.int (0 : Int32)), (.int (0 : Int32))] (0 : Int32))) {q45 : Int32} (hq45 : q45 = (own_xC q36)) {q46 : List Value} (hq46 : q46 = (own_xB q37 q38 q36)) {q53 : Int32} (hq53 : q53 = (own_xC q45)) {q54 : List Value} (hq54 : q54 = (own_xB q37 q46 q45)) : own_okX q37 q54 q53 = true := by
  subst hq54 hq53 hq46 hq45 hq38 hq37 hq36
  decide +kernel
set_option maxRecDepth 65536 in
theorem own_en67  {q36 : Int32} (hq36 : q36 = (own_xC (0 : Int32))) {q37 : List Value} (hq37 : q37 = [(.int (0 : Int32)), (.int (0 : Int32)), (.int (0 : Int32))]) {v139 : Int32} (hv139 : (own_xR [(.int (0 : Int32)), (.int (0 : Int32)), (.int (0 : Int32))] (0 : Int32)) = v139) {q40 : Int32} (hq40 : q40 = (f_take_p0 v139 (0 : Int32) (0 : Int32) (1 : Int32))) {q41 : Int32} (hq41 : q41 = (f_take_p1 v139 (0 : Int32) (0 : Int32) (1 : Int32))) {q42 : Int32} (hq42 : q42 = (f_take_p2 v139 (0 : Int32) (0 : Int32) (1 : Int32))) {q45 : Int32} (hq45 : q45 = (own_xC q36)) {v149 : Int32} (hv149 : (own_xR q37 q36) = v149) {q48 : Int32} (hq48 : q48 = (f_take_p0 v149 q40 q41 q42)) {q49 : Int32} (hq49 : q49 = (f_take_p1 v149 q40 q41 q42)) {q50 : Int32} (hq50 : q50 = (f_take_p2 v149 q40 q41 q42)) {q53 : Int32} (hq53 : q53 = (own_xC q45)) {v159 : Int32} (hv159 : (own_xR q37 q45) = v159) {q56 : Int32} (hq56 : q56 = (f_take_p0 v159 q48 q49 q50)) {q57 : Int32} (hq57 : q57 = (f_take_p1 v159 q48 q49 q50)) {q58 : Int32} (hq58 : q58 = (f_take_p2 v159 q48 q49 q50)) {v169 : Int32} (hv169 : (own_xR q37 q53) = v169) {q66 : Int32} (hq66 : q66 = (f_take_p2 v169 q56 q57 q58)) : q66 = (1 : Int32) := by
  subst hq66 hv169 hq58 hq57 hq56 hv159 hq53 hq50 hq49 hq48 hv149 hq45 hq42 hq41 hq40 hv139 hq37 hq36
  decide +kernel
set_option maxRecDepth 65536 in
theorem own_en68  {q36 : Int32} (hq36 : q36 = (own_xC (0 : Int32))) {q37 : List Value} (hq37 : q37 = [(.int (0 : Int32)), (.int (0 : Int32)), (.int (0 : Int32))]) {v139 : Int32} (hv139 : (own_xR [(.int (0 : Int32)), (.int (0 : Int32)), (.int (0 : Int32))] (0 : Int32)) = v139) {q40 : Int32} (hq40 : q40 = (f_take_p0 v139 (0 : Int32) (0 : Int32) (1 : Int32))) {q41 : Int32} (hq41 : q41 = (f_take_p1 v139 (0 : Int32) (0 : Int32) (1 : Int32))) {q42 : Int32} (hq42 : q42 = (f_take_p2 v139 (0 : Int32) (0 : Int32) (1 : Int32))) {q45 : Int32} (hq45 : q45 = (own_xC q36)) {v149 : Int32} (hv149 : (own_xR q37 q36) = v149) {q48 : Int32} (hq48 : q48 = (f_take_p0 v149 q40 q41 q42)) {q49 : Int32} (hq49 : q49 = (f_take_p1 v149 q40 q41 q42)) {q50 : Int32} (hq50 : q50 = (f_take_p2 v149 q40 q41 q42)) {q53 : Int32} (hq53 : q53 = (own_xC q45)) {v159 : Int32} (hv159 : (own_xR q37 q45) = v159) {q56 : Int32} (hq56 : q56 = (f_take_p0 v159 q48 q49 q50)) {q57 : Int32} (hq57 : q57 = (f_take_p1 v159 q48 q49 q50)) {q58 : Int32} (hq58 : q58 = (f_take_p2 v159 q48 q49 q50)) {v169 : Int32} (hv169 : (own_xR q37 q53) = v169) {q65 : Int32} (hq65 : q65 = (f_take_p1 v169 q56 q57 q58)) : q65 = (1 : Int32) := by
  subst hq65 hv169 hq58 hq57 hq56 hv159 hq53 hq50 hq49 hq48 hv149 hq45 hq42 hq41 hq40 hv139 hq37 hq36
  decide +kernel
set_option maxRecDepth 65536 in
theorem own_en69  {q36 : Int32} (hq36 : q36 = (own_xC (0 : Int32))) {q37 : List Value} (hq37 : q37 = [(.int (0 : Int32)), (.int (0 : Int32)), (.int (0 : Int32))]) {v139 : Int32} (hv139 : (own_xR [(.int (0 : Int32)), (.int (0 : Int32)), (.int (0 : Int32))] (0 : Int32)) = v139) {q40 : Int32} (hq40 : q40 = (f_take_p0 v139 (0 : Int32) (0 : Int32) (1 : Int32))) {q41 : Int32} (hq41 : q41 = (f_take_p1 v139 (0 : Int32) (0 : Int32) (1 : Int32))) {q42 : Int32} (hq42 : q42 = (f_take_p2 v139 (0 : Int32) (0 : Int32) (1 : Int32))) {q45 : Int32} (hq45 : q45 = (own_xC q36)) {v149 : Int32} (hv149 : (own_xR q37 q36) = v149) {q48 : Int32} (hq48 : q48 = (f_take_p0 v149 q40 q41 q42)) {q49 : Int32} (hq49 : q49 = (f_take_p1 v149 q40 q41 q42)) {q50 : Int32} (hq50 : q50 = (f_take_p2 v149 q40 q41 q42)) {q53 : Int32} (hq53 : q53 = (own_xC q45)) {v159 : Int32} (hv159 : (own_xR q37 q45) = v159) {q56 : Int32} (hq56 : q56 = (f_take_p0 v159 q48 q49 q50)) {q57 : Int32} (hq57 : q57 = (f_take_p1 v159 q48 q49 q50)) {q58 : Int32} (hq58 : q58 = (f_take_p2 v159 q48 q49 q50)) {v169 : Int32} (hv169 : (own_xR q37 q53) = v169) {q64 : Int32} (hq64 : q64 = (f_take_p0 v169 q56 q57 q58)) : q64 = (0 : Int32) := by
  subst hq64 hv169 hq58 hq57 hq56 hv159 hq53 hq50 hq49 hq48 hv149 hq45 hq42 hq41 hq40 hv139 hq37 hq36
  decide +kernel
set_option maxRecDepth 65536 in
theorem own_en71 {v36 : Int32} (h_v36 : own_T3 v36) {q36 : Int32} (hq36 : q36 = (own_xC (0 : Int32))) {q37 : List Value} (hq37 : q37 = [(.int (0 : Int32)), (.int (0 : Int32)), (.int (0 : Int32))]) {q38 : List Value} (hq38 : q38 = (own_xB [(.int (0 : Int32)), (.int (0 : Int32)), (.int (0 : Int32))] [(.int (0 : Int32)), (.int (0 : Int32)), (.int (0 : Int32))] (0 : Int32))) {q45 : Int32} (hq45 : q45 = (own_xC q36)) {q46 : List Value} (hq46 : q46 = (own_xB q37 q38 q36)) {q53 : Int32} (hq53 : q53 = (own_xC q45)) {q54 : List Value} (hq54 : q54 = (own_xB q37 q46 q45)) {q61 : Int32} (hq61 : q61 = (own_xC q53)) {q62 : List Value} (hq62 : q62 = (own_xB q37 q54 q53)) : own_okN q37 q62 q61 v36 = true := by
  subst hq62 hq61 hq54 hq53 hq46 hq45 hq38 hq37 hq36
  rcases h_v36 with rfl | rfl | rfl <;> decide +kernel
theorem kw31 {Z : State} {a0 : Array Value} (hw : ∀ d ∈ tables_1, d.before a0 Z = true) : (Jvm.Cond.code ({ cls := "com/example/tauten/tauten/ChangeList", name := "note", desc := "(I)V" } : Jvm.MethodName) prog_3_method_2_code (2 : Nat) (Option.none : Option Jvm.ClassFile.FieldType)).before a0 Z = true := hw _ (List.mem_of_getElem? (i := 31) rfl)
theorem kw27 {Z : State} {a0 : Array Value} (hw : ∀ d ∈ tables_1, d.before a0 Z = true) : (Jvm.Cond.methodLink "com/example/tauten/tauten/ChangeListNextPinLaw" (13 : Nat) ({ cls := "com/example/tauten/tauten/ChangeList", name := "note", desc := "(I)V" } : Jvm.MethodName)).before a0 Z = true := hw _ (List.mem_of_getElem? (i := 27) rfl)
theorem kw28 {Z : State} {a0 : Array Value} (hw : ∀ d ∈ tables_1, d.before a0 Z = true) : (Jvm.Cond.declares ({ cls := "com/example/tauten/tauten/ChangeList", name := "note", desc := "(I)V" } : Jvm.MethodName)).before a0 Z = true := hw _ (List.mem_of_getElem? (i := 28) rfl)
theorem kw30 {Z : State} {a0 : Array Value} (hw : ∀ d ∈ tables_1, d.before a0 Z = true) : (Jvm.Cond.selects "com/example/tauten/tauten/ChangeList" ({ cls := "com/example/tauten/tauten/ChangeList", name := "note", desc := "(I)V" } : Jvm.MethodName) ({ cls := "com/example/tauten/tauten/ChangeList", name := "note", desc := "(I)V" } : Jvm.MethodName)).before a0 Z = true := hw _ (List.mem_of_getElem? (i := 30) rfl)
theorem kw29 {Z : State} {a0 : Array Value} (hw : ∀ d ∈ tables_1, d.before a0 Z = true) : (Jvm.Cond.instanceMethod ({ cls := "com/example/tauten/tauten/ChangeList", name := "note", desc := "(I)V" } : Jvm.MethodName)).before a0 Z = true := hw _ (List.mem_of_getElem? (i := 29) rfl)
set_option maxRecDepth 65536 in
theorem own_en76 {v36 : Int32} (h_v36 : own_T3 v36) {q36 : Int32} (hq36 : q36 = (own_xC (0 : Int32))) {q37 : List Value} (hq37 : q37 = [(.int (0 : Int32)), (.int (0 : Int32)), (.int (0 : Int32))]) {q38 : List Value} (hq38 : q38 = (own_xB [(.int (0 : Int32)), (.int (0 : Int32)), (.int (0 : Int32))] [(.int (0 : Int32)), (.int (0 : Int32)), (.int (0 : Int32))] (0 : Int32))) {q45 : Int32} (hq45 : q45 = (own_xC q36)) {q46 : List Value} (hq46 : q46 = (own_xB q37 q38 q36)) {q53 : Int32} (hq53 : q53 = (own_xC q45)) {q54 : List Value} (hq54 : q54 = (own_xB q37 q46 q45)) {q61 : Int32} (hq61 : q61 = (own_xC q53)) {q62 : List Value} (hq62 : q62 = (own_xB q37 q54 q53)) {q72 : Int32} (hq72 : q72 = (own_nC q62 q61 v36)) {q73 : List Value} (hq73 : q73 = (own_nV q37 q62 q61 v36)) {q74 : List Value} (hq74 : q74 = (own_nB q62 v36)) : own_okX q73 q74 q72 = true := by
  subst hq74 hq73 hq72 hq62 hq61 hq54 hq53 hq46 hq45 hq38 hq37 hq36
  rcases h_v36 with rfl | rfl | rfl <;> decide +kernel
set_option maxRecDepth 65536 in
theorem own_en79 {v36 : Int32} (h_v36 : own_T3 v36) {q36 : Int32} (hq36 : q36 = (own_xC (0 : Int32))) {q37 : List Value} (hq37 : q37 = [(.int (0 : Int32)), (.int (0 : Int32)), (.int (0 : Int32))]) {q38 : List Value} (hq38 : q38 = (own_xB [(.int (0 : Int32)), (.int (0 : Int32)), (.int (0 : Int32))] [(.int (0 : Int32)), (.int (0 : Int32)), (.int (0 : Int32))] (0 : Int32))) {q45 : Int32} (hq45 : q45 = (own_xC q36)) {q46 : List Value} (hq46 : q46 = (own_xB q37 q38 q36)) {q53 : Int32} (hq53 : q53 = (own_xC q45)) {q54 : List Value} (hq54 : q54 = (own_xB q37 q46 q45)) {q61 : Int32} (hq61 : q61 = (own_xC q53)) {q62 : List Value} (hq62 : q62 = (own_xB q37 q54 q53)) {q72 : Int32} (hq72 : q72 = (own_nC q62 q61 v36)) {q73 : List Value} (hq73 : q73 = (own_nV q37 q62 q61 v36)) {v218 : Int32} (hv218 : (own_xR q73 q72) = v218) : v218 = v36 := by
  subst hv218 hq73 hq72 hq62 hq61 hq54 hq53 hq46 hq45 hq38 hq37 hq36
  rcases h_v36 with rfl | rfl | rfl <;> decide +kernel
set_option maxRecDepth 65536 in
theorem own_en81 {v12 : Int32} (h_v12 : own_T3 v12)  : own_okN [(.int (0 : Int32)), (.int (0 : Int32)), (.int (0 : Int32))] [(.int (0 : Int32)), (.int (0 : Int32)), (.int (0 : Int32))] (0 : Int32) v12 = true := by
  rcases h_v12 with rfl | rfl | rfl <;> decide +kernel
set_option maxRecDepth 65536 in
theorem own_en90 {v12 : Int32} (h_v12 : own_T3 v12) {q82 : Int32} (hq82 : q82 = (own_nC [(.int (0 : Int32)), (.int (0 : Int32)), (.int (0 : Int32))] (0 : Int32) v12)) {q83 : List Value} (hq83 : q83 = (own_nV [(.int (0 : Int32)), (.int (0 : Int32)), (.int (0 : Int32))] [(.int (0 : Int32)), (.int (0 : Int32)), (.int (0 : Int32))] (0 : Int32) v12)) {q84 : List Value} (hq84 : q84 = (own_nB [(.int (0 : Int32)), (.int (0 : Int32)), (.int (0 : Int32))] v12)) : own_okX q83 q84 q82 = true := by
  subst hq84 hq83 hq82
  rcases h_v12 with rfl | rfl | rfl <;> decide +kernel
set_option maxRecDepth 65536 in
theorem own_en98 {v12 : Int32} (h_v12 : own_T3 v12) {q82 : Int32} (hq82 : q82 = (own_nC [(.int (0 : Int32)), (.int (0 : Int32)), (.int (0 : Int32))] (0 : Int32) v12)) {q83 : List Value} (hq83 : q83 = (own_nV [(.int (0 : Int32)), (.int (0 : Int32)), (.int (0 : Int32))] [(.int (0 : Int32)), (.int (0 : Int32)), (.int (0 : Int32))] (0 : Int32) v12)) {q84 : List Value} (hq84 : q84 = (own_nB [(.int (0 : Int32)), (.int (0 : Int32)), (.int (0 : Int32))] v12)) {q91 : Int32} (hq91 : q91 = (own_xC q82)) {q92 : List Value} (hq92 : q92 = (own_xB q83 q84 q82)) : own_okX q83 q92 q91 = true := by
  subst hq92 hq91 hq84 hq83 hq82
  rcases h_v12 with rfl | rfl | rfl <;> decide +kernel
set_option maxRecDepth 65536 in
theorem own_en106 {v12 : Int32} (h_v12 : own_T3 v12) {q82 : Int32} (hq82 : q82 = (own_nC [(.int (0 : Int32)), (.int (0 : Int32)), (.int (0 : Int32))] (0 : Int32) v12)) {q83 : List Value} (hq83 : q83 = (own_nV [(.int (0 : Int32)), (.int (0 : Int32)), (.int (0 : Int32))] [(.int (0 : Int32)), (.int (0 : Int32)), (.int (0 : Int32))] (0 : Int32) v12)) {q84 : List Value} (hq84 : q84 = (own_nB [(.int (0 : Int32)), (.int (0 : Int32)), (.int (0 : Int32))] v12)) {q91 : Int32} (hq91 : q91 = (own_xC q82)) {q92 : List Value} (hq92 : q92 = (own_xB q83 q84 q82)) {q99 : Int32} (hq99 : q99 = (own_xC q91)) {q100 : List Value} (hq100 : q100 = (own_xB q83 q92 q91)) : own_okX q83 q100 q99 = true := by
  subst hq100 hq99 hq92 hq91 hq84 hq83 hq82
  rcases h_v12 with rfl | rfl | rfl <;> decide +kernel
set_option maxRecDepth 65536 in
theorem own_en114 {v12 : Int32} (h_v12 : own_T3 v12) {q82 : Int32} (hq82 : q82 = (own_nC [(.int (0 : Int32)), (.int (0 : Int32)), (.int (0 : Int32))] (0 : Int32) v12)) {q83 : List Value} (hq83 : q83 = (own_nV [(.int (0 : Int32)), (.int (0 : Int32)), (.int (0 : Int32))] [(.int (0 : Int32)), (.int (0 : Int32)), (.int (0 : Int32))] (0 : Int32) v12)) {q84 : List Value} (hq84 : q84 = (own_nB [(.int (0 : Int32)), (.int (0 : Int32)), (.int (0 : Int32))] v12)) {q91 : Int32} (hq91 : q91 = (own_xC q82)) {q92 : List Value} (hq92 : q92 = (own_xB q83 q84 q82)) {q99 : Int32} (hq99 : q99 = (own_xC q91)) {q100 : List Value} (hq100 : q100 = (own_xB q83 q92 q91)) {q107 : Int32} (hq107 : q107 = (own_xC q99)) {q108 : List Value} (hq108 : q108 = (own_xB q83 q100 q99)) : own_okX q83 q108 q107 = true := by
  subst hq108 hq107 hq100 hq99 hq92 hq91 hq84 hq83 hq82
  rcases h_v12 with rfl | rfl | rfl <;> decide +kernel
set_option maxRecDepth 65536 in
theorem own_en121 {v12 : Int32} (h_v12 : own_T3 v12) {q82 : Int32} (hq82 : q82 = (own_nC [(.int (0 : Int32)), (.int (0 : Int32)), (.int (0 : Int32))] (0 : Int32) v12)) {q83 : List Value} (hq83 : q83 = (own_nV [(.int (0 : Int32)), (.int (0 : Int32)), (.int (0 : Int32))] [(.int (0 : Int32)), (.int (0 : Int32)), (.int (0 : Int32))] (0 : Int32) v12)) {q91 : Int32} (hq91 : q91 = (own_xC q82)) {v139 : Int32} (hv139 : (own_xR q83 q82) = v139) {q94 : Int32} (hq94 : q94 = (f_take_p0 v139 (0 : Int32) (0 : Int32) (1 : Int32))) {q95 : Int32} (hq95 : q95 = (f_take_p1 v139 (0 : Int32) (0 : Int32) (1 : Int32))) {q96 : Int32} (hq96 : q96 = (f_take_p2 v139 (0 : Int32) (0 : Int32) (1 : Int32))) {q99 : Int32} (hq99 : q99 = (own_xC q91)) {v149 : Int32} (hv149 : (own_xR q83 q91) = v149) {q102 : Int32} (hq102 : q102 = (f_take_p0 v149 q94 q95 q96)) {q103 : Int32} (hq103 : q103 = (f_take_p1 v149 q94 q95 q96)) {q104 : Int32} (hq104 : q104 = (f_take_p2 v149 q94 q95 q96)) {q107 : Int32} (hq107 : q107 = (own_xC q99)) {v159 : Int32} (hv159 : (own_xR q83 q99) = v159) {q110 : Int32} (hq110 : q110 = (f_take_p0 v159 q102 q103 q104)) {q111 : Int32} (hq111 : q111 = (f_take_p1 v159 q102 q103 q104)) {q112 : Int32} (hq112 : q112 = (f_take_p2 v159 q102 q103 q104)) {v169 : Int32} (hv169 : (own_xR q83 q107) = v169) {q120 : Int32} (hq120 : q120 = (f_take_p2 v169 q110 q111 q112)) : q120 = (1 : Int32) := by
  subst hq120 hv169 hq112 hq111 hq110 hv159 hq107 hq104 hq103 hq102 hv149 hq99 hq96 hq95 hq94 hv139 hq91 hq83 hq82
  rcases h_v12 with rfl | rfl | rfl <;> decide +kernel
set_option maxRecDepth 65536 in
theorem own_en122 {v12 : Int32} (h_v12 : own_T3 v12) {q82 : Int32} (hq82 : q82 = (own_nC [(.int (0 : Int32)), (.int (0 : Int32)), (.int (0 : Int32))] (0 : Int32) v12)) {q83 : List Value} (hq83 : q83 = (own_nV [(.int (0 : Int32)), (.int (0 : Int32)), (.int (0 : Int32))] [(.int (0 : Int32)), (.int (0 : Int32)), (.int (0 : Int32))] (0 : Int32) v12)) {q91 : Int32} (hq91 : q91 = (own_xC q82)) {v139 : Int32} (hv139 : (own_xR q83 q82) = v139) {q94 : Int32} (hq94 : q94 = (f_take_p0 v139 (0 : Int32) (0 : Int32) (1 : Int32))) {q95 : Int32} (hq95 : q95 = (f_take_p1 v139 (0 : Int32) (0 : Int32) (1 : Int32))) {q96 : Int32} (hq96 : q96 = (f_take_p2 v139 (0 : Int32) (0 : Int32) (1 : Int32))) {q99 : Int32} (hq99 : q99 = (own_xC q91)) {v149 : Int32} (hv149 : (own_xR q83 q91) = v149) {q102 : Int32} (hq102 : q102 = (f_take_p0 v149 q94 q95 q96)) {q103 : Int32} (hq103 : q103 = (f_take_p1 v149 q94 q95 q96)) {q104 : Int32} (hq104 : q104 = (f_take_p2 v149 q94 q95 q96)) {q107 : Int32} (hq107 : q107 = (own_xC q99)) {v159 : Int32} (hv159 : (own_xR q83 q99) = v159) {q110 : Int32} (hq110 : q110 = (f_take_p0 v159 q102 q103 q104)) {q111 : Int32} (hq111 : q111 = (f_take_p1 v159 q102 q103 q104)) {q112 : Int32} (hq112 : q112 = (f_take_p2 v159 q102 q103 q104)) {v169 : Int32} (hv169 : (own_xR q83 q107) = v169) {q119 : Int32} (hq119 : q119 = (f_take_p1 v169 q110 q111 q112)) : q119 = (1 : Int32) := by
  subst hq119 hv169 hq112 hq111 hq110 hv159 hq107 hq104 hq103 hq102 hv149 hq99 hq96 hq95 hq94 hv139 hq91 hq83 hq82
  rcases h_v12 with rfl | rfl | rfl <;> decide +kernel
set_option maxRecDepth 65536 in
theorem own_en123 {v12 : Int32} (h_v12 : own_T3 v12) {q82 : Int32} (hq82 : q82 = (own_nC [(.int (0 : Int32)), (.int (0 : Int32)), (.int (0 : Int32))] (0 : Int32) v12)) {q83 : List Value} (hq83 : q83 = (own_nV [(.int (0 : Int32)), (.int (0 : Int32)), (.int (0 : Int32))] [(.int (0 : Int32)), (.int (0 : Int32)), (.int (0 : Int32))] (0 : Int32) v12)) {v71 : Int32} (hv71 : ((0 : Int32) ||| ((1 : Int32) <<< (v12 &&& 31))) = v71) {q91 : Int32} (hq91 : q91 = (own_xC q82)) {v139 : Int32} (hv139 : (own_xR q83 q82) = v139) {q94 : Int32} (hq94 : q94 = (f_take_p0 v139 (0 : Int32) (0 : Int32) (1 : Int32))) {q95 : Int32} (hq95 : q95 = (f_take_p1 v139 (0 : Int32) (0 : Int32) (1 : Int32))) {q96 : Int32} (hq96 : q96 = (f_take_p2 v139 (0 : Int32) (0 : Int32) (1 : Int32))) {q99 : Int32} (hq99 : q99 = (own_xC q91)) {v149 : Int32} (hv149 : (own_xR q83 q91) = v149) {q102 : Int32} (hq102 : q102 = (f_take_p0 v149 q94 q95 q96)) {q103 : Int32} (hq103 : q103 = (f_take_p1 v149 q94 q95 q96)) {q104 : Int32} (hq104 : q104 = (f_take_p2 v149 q94 q95 q96)) {q107 : Int32} (hq107 : q107 = (own_xC q99)) {v159 : Int32} (hv159 : (own_xR q83 q99) = v159) {q110 : Int32} (hq110 : q110 = (f_take_p0 v159 q102 q103 q104)) {q111 : Int32} (hq111 : q111 = (f_take_p1 v159 q102 q103 q104)) {q112 : Int32} (hq112 : q112 = (f_take_p2 v159 q102 q103 q104)) {v169 : Int32} (hv169 : (own_xR q83 q107) = v169) {q118 : Int32} (hq118 : q118 = (f_take_p0 v169 q110 q111 q112)) : q118 = v71 := by
  subst hq118 hv169 hq112 hq111 hq110 hv159 hq107 hq104 hq103 hq102 hv149 hq99 hq96 hq95 hq94 hv139 hq91 hv71 hq83 hq82
  rcases h_v12 with rfl | rfl | rfl <;> decide +kernel
set_option maxRecDepth 65536 in
theorem own_en125 {v12 : Int32} (h_v12 : own_T3 v12) {v36 : Int32} (h_v36 : own_T3 v36) {q82 : Int32} (hq82 : q82 = (own_nC [(.int (0 : Int32)), (.int (0 : Int32)), (.int (0 : Int32))] (0 : Int32) v12)) {q83 : List Value} (hq83 : q83 = (own_nV [(.int (0 : Int32)), (.int (0 : Int32)), (.int (0 : Int32))] [(.int (0 : Int32)), (.int (0 : Int32)), (.int (0 : Int32))] (0 : Int32) v12)) {q84 : List Value} (hq84 : q84 = (own_nB [(.int (0 : Int32)), (.int (0 : Int32)), (.int (0 : Int32))] v12)) {q91 : Int32} (hq91 : q91 = (own_xC q82)) {q92 : List Value} (hq92 : q92 = (own_xB q83 q84 q82)) {q99 : Int32} (hq99 : q99 = (own_xC q91)) {q100 : List Value} (hq100 : q100 = (own_xB q83 q92 q91)) {q107 : Int32} (hq107 : q107 = (own_xC q99)) {q108 : List Value} (hq108 : q108 = (own_xB q83 q100 q99)) {q115 : Int32} (hq115 : q115 = (own_xC q107)) {q116 : List Value} (hq116 : q116 = (own_xB q83 q108 q107)) : own_okN q83 q116 q115 v36 = true := by
  subst hq116 hq115 hq108 hq107 hq100 hq99 hq92 hq91 hq84 hq83 hq82
  rcases h_v12 with rfl | rfl | rfl <;> rcases h_v36 with rfl | rfl | rfl <;> decide +kernel
set_option maxRecDepth 65536 in
theorem own_en130 {v12 : Int32} (h_v12 : own_T3 v12) {v36 : Int32} (h_v36 : own_T3 v36) {q82 : Int32} (hq82 : q82 = (own_nC [(.int (0 : Int32)), (.int (0 : Int32)), (.int (0 : Int32))] (0 : Int32) v12)) {q83 : List Value} (hq83 : q83 = (own_nV [(.int (0 : Int32)), (.int (0 : Int32)), (.int (0 : Int32))] [(.int (0 : Int32)), (.int (0 : Int32)), (.int (0 : Int32))] (0 : Int32) v12)) {q84 : List Value} (hq84 : q84 = (own_nB [(.int (0 : Int32)), (.int (0 : Int32)), (.int (0 : Int32))] v12)) {q91 : Int32} (hq91 : q91 = (own_xC q82)) {q92 : List Value} (hq92 : q92 = (own_xB q83 q84 q82)) {q99 : Int32} (hq99 : q99 = (own_xC q91)) {q100 : List Value} (hq100 : q100 = (own_xB q83 q92 q91)) {q107 : Int32} (hq107 : q107 = (own_xC q99)) {q108 : List Value} (hq108 : q108 = (own_xB q83 q100 q99)) {q115 : Int32} (hq115 : q115 = (own_xC q107)) {q116 : List Value} (hq116 : q116 = (own_xB q83 q108 q107)) {q126 : Int32} (hq126 : q126 = (own_nC q116 q115 v36)) {q127 : List Value} (hq127 : q127 = (own_nV q83 q116 q115 v36)) {q128 : List Value} (hq128 : q128 = (own_nB q116 v36)) : own_okX q127 q128 q126 = true := by
  subst hq128 hq127 hq126 hq116 hq115 hq108 hq107 hq100 hq99 hq92 hq91 hq84 hq83 hq82
  rcases h_v12 with rfl | rfl | rfl <;> rcases h_v36 with rfl | rfl | rfl <;> decide +kernel
set_option maxRecDepth 65536 in
theorem own_en133 {v12 : Int32} (h_v12 : own_T3 v12) {v36 : Int32} (h_v36 : own_T3 v36) {q82 : Int32} (hq82 : q82 = (own_nC [(.int (0 : Int32)), (.int (0 : Int32)), (.int (0 : Int32))] (0 : Int32) v12)) {q83 : List Value} (hq83 : q83 = (own_nV [(.int (0 : Int32)), (.int (0 : Int32)), (.int (0 : Int32))] [(.int (0 : Int32)), (.int (0 : Int32)), (.int (0 : Int32))] (0 : Int32) v12)) {q84 : List Value} (hq84 : q84 = (own_nB [(.int (0 : Int32)), (.int (0 : Int32)), (.int (0 : Int32))] v12)) {q91 : Int32} (hq91 : q91 = (own_xC q82)) {q92 : List Value} (hq92 : q92 = (own_xB q83 q84 q82)) {q99 : Int32} (hq99 : q99 = (own_xC q91)) {q100 : List Value} (hq100 : q100 = (own_xB q83 q92 q91)) {q107 : Int32} (hq107 : q107 = (own_xC q99)) {q108 : List Value} (hq108 : q108 = (own_xB q83 q100 q99)) {q115 : Int32} (hq115 : q115 = (own_xC q107)) {q116 : List Value} (hq116 : q116 = (own_xB q83 q108 q107)) {q126 : Int32} (hq126 : q126 = (own_nC q116 q115 v36)) {q127 : List Value} (hq127 : q127 = (own_nV q83 q116 q115 v36)) {v218 : Int32} (hv218 : (own_xR q127 q126) = v218) : v218 = v36 := by
  subst hv218 hq127 hq126 hq116 hq115 hq108 hq107 hq100 hq99 hq92 hq91 hq84 hq83 hq82
  rcases h_v12 with rfl | rfl | rfl <;> rcases h_v36 with rfl | rfl | rfl <;> decide +kernel
set_option maxRecDepth 65536 in
theorem own_en135 {v12 : Int32} (h_v12 : own_T3 v12) {v20 : Int32} (h_v20 : own_T3 v20) {q82 : Int32} (hq82 : q82 = (own_nC [(.int (0 : Int32)), (.int (0 : Int32)), (.int (0 : Int32))] (0 : Int32) v12)) {q83 : List Value} (hq83 : q83 = (own_nV [(.int (0 : Int32)), (.int (0 : Int32)), (.int (0 : Int32))] [(.int (0 : Int32)), (.int (0 : Int32)), (.int (0 : Int32))] (0 : Int32) v12)) {q84 : List Value} (hq84 : q84 = (own_nB [(.int (0 : Int32)), (.int (0 : Int32)), (.int (0 : Int32))] v12)) : own_okN q83 q84 q82 v20 = true := by
  subst hq84 hq83 hq82
  rcases h_v12 with rfl | rfl | rfl <;> rcases h_v20 with rfl | rfl | rfl <;> decide +kernel
set_option maxRecDepth 65536 in
theorem own_en144 {v12 : Int32} (h_v12 : own_T3 v12) {v20 : Int32} (h_v20 : own_T3 v20) {q82 : Int32} (hq82 : q82 = (own_nC [(.int (0 : Int32)), (.int (0 : Int32)), (.int (0 : Int32))] (0 : Int32) v12)) {q83 : List Value} (hq83 : q83 = (own_nV [(.int (0 : Int32)), (.int (0 : Int32)), (.int (0 : Int32))] [(.int (0 : Int32)), (.int (0 : Int32)), (.int (0 : Int32))] (0 : Int32) v12)) {q84 : List Value} (hq84 : q84 = (own_nB [(.int (0 : Int32)), (.int (0 : Int32)), (.int (0 : Int32))] v12)) {q136 : Int32} (hq136 : q136 = (own_nC q84 q82 v20)) {q137 : List Value} (hq137 : q137 = (own_nV q83 q84 q82 v20)) {q138 : List Value} (hq138 : q138 = (own_nB q84 v20)) : own_okX q137 q138 q136 = true := by
  subst hq138 hq137 hq136 hq84 hq83 hq82
  rcases h_v12 with rfl | rfl | rfl <;> rcases h_v20 with rfl | rfl | rfl <;> decide +kernel
set_option maxRecDepth 65536 in
theorem own_en152 {v12 : Int32} (h_v12 : own_T3 v12) {v20 : Int32} (h_v20 : own_T3 v20) {q82 : Int32} (hq82 : q82 = (own_nC [(.int (0 : Int32)), (.int (0 : Int32)), (.int (0 : Int32))] (0 : Int32) v12)) {q83 : List Value} (hq83 : q83 = (own_nV [(.int (0 : Int32)), (.int (0 : Int32)), (.int (0 : Int32))] [(.int (0 : Int32)), (.int (0 : Int32)), (.int (0 : Int32))] (0 : Int32) v12)) {q84 : List Value} (hq84 : q84 = (own_nB [(.int (0 : Int32)), (.int (0 : Int32)), (.int (0 : Int32))] v12)) {q136 : Int32} (hq136 : q136 = (own_nC q84 q82 v20)) {q137 : List Value} (hq137 : q137 = (own_nV q83 q84 q82 v20)) {q138 : List Value} (hq138 : q138 = (own_nB q84 v20)) {q145 : Int32} (hq145 : q145 = (own_xC q136)) {q146 : List Value} (hq146 : q146 = (own_xB q137 q138 q136)) : own_okX q137 q146 q145 = true := by
  subst hq146 hq145 hq138 hq137 hq136 hq84 hq83 hq82
  rcases h_v12 with rfl | rfl | rfl <;> rcases h_v20 with rfl | rfl | rfl <;> decide +kernel
set_option maxRecDepth 65536 in
theorem own_en160 {v12 : Int32} (h_v12 : own_T3 v12) {v20 : Int32} (h_v20 : own_T3 v20) {q82 : Int32} (hq82 : q82 = (own_nC [(.int (0 : Int32)), (.int (0 : Int32)), (.int (0 : Int32))] (0 : Int32) v12)) {q83 : List Value} (hq83 : q83 = (own_nV [(.int (0 : Int32)), (.int (0 : Int32)), (.int (0 : Int32))] [(.int (0 : Int32)), (.int (0 : Int32)), (.int (0 : Int32))] (0 : Int32) v12)) {q84 : List Value} (hq84 : q84 = (own_nB [(.int (0 : Int32)), (.int (0 : Int32)), (.int (0 : Int32))] v12)) {q136 : Int32} (hq136 : q136 = (own_nC q84 q82 v20)) {q137 : List Value} (hq137 : q137 = (own_nV q83 q84 q82 v20)) {q138 : List Value} (hq138 : q138 = (own_nB q84 v20)) {q145 : Int32} (hq145 : q145 = (own_xC q136)) {q146 : List Value} (hq146 : q146 = (own_xB q137 q138 q136)) {q153 : Int32} (hq153 : q153 = (own_xC q145)) {q154 : List Value} (hq154 : q154 = (own_xB q137 q146 q145)) : own_okX q137 q154 q153 = true := by
  subst hq154 hq153 hq146 hq145 hq138 hq137 hq136 hq84 hq83 hq82
  rcases h_v12 with rfl | rfl | rfl <;> rcases h_v20 with rfl | rfl | rfl <;> decide +kernel
set_option maxRecDepth 65536 in
theorem own_en168 {v12 : Int32} (h_v12 : own_T3 v12) {v20 : Int32} (h_v20 : own_T3 v20) {q82 : Int32} (hq82 : q82 = (own_nC [(.int (0 : Int32)), (.int (0 : Int32)), (.int (0 : Int32))] (0 : Int32) v12)) {q83 : List Value} (hq83 : q83 = (own_nV [(.int (0 : Int32)), (.int (0 : Int32)), (.int (0 : Int32))] [(.int (0 : Int32)), (.int (0 : Int32)), (.int (0 : Int32))] (0 : Int32) v12)) {q84 : List Value} (hq84 : q84 = (own_nB [(.int (0 : Int32)), (.int (0 : Int32)), (.int (0 : Int32))] v12)) {q136 : Int32} (hq136 : q136 = (own_nC q84 q82 v20)) {q137 : List Value} (hq137 : q137 = (own_nV q83 q84 q82 v20)) {q138 : List Value} (hq138 : q138 = (own_nB q84 v20)) {q145 : Int32} (hq145 : q145 = (own_xC q136)) {q146 : List Value} (hq146 : q146 = (own_xB q137 q138 q136)) {q153 : Int32} (hq153 : q153 = (own_xC q145)) {q154 : List Value} (hq154 : q154 = (own_xB q137 q146 q145)) {q161 : Int32} (hq161 : q161 = (own_xC q153)) {q162 : List Value} (hq162 : q162 = (own_xB q137 q154 q153)) : own_okX q137 q162 q161 = true := by
  subst hq162 hq161 hq154 hq153 hq146 hq145 hq138 hq137 hq136 hq84 hq83 hq82
  rcases h_v12 with rfl | rfl | rfl <;> rcases h_v20 with rfl | rfl | rfl <;> decide +kernel
set_option maxRecDepth 65536 in
theorem own_en175 {v12 : Int32} (h_v12 : own_T3 v12) {v20 : Int32} (h_v20 : own_T3 v20) {q82 : Int32} (hq82 : q82 = (own_nC [(.int (0 : Int32)), (.int (0 : Int32)), (.int (0 : Int32))] (0 : Int32) v12)) {q83 : List Value} (hq83 : q83 = (own_nV [(.int (0 : Int32)), (.int (0 : Int32)), (.int (0 : Int32))] [(.int (0 : Int32)), (.int (0 : Int32)), (.int (0 : Int32))] (0 : Int32) v12)) {q84 : List Value} (hq84 : q84 = (own_nB [(.int (0 : Int32)), (.int (0 : Int32)), (.int (0 : Int32))] v12)) {q136 : Int32} (hq136 : q136 = (own_nC q84 q82 v20)) {q137 : List Value} (hq137 : q137 = (own_nV q83 q84 q82 v20)) {q145 : Int32} (hq145 : q145 = (own_xC q136)) {v139 : Int32} (hv139 : (own_xR q137 q136) = v139) {q148 : Int32} (hq148 : q148 = (f_take_p0 v139 (0 : Int32) (0 : Int32) (1 : Int32))) {q149 : Int32} (hq149 : q149 = (f_take_p1 v139 (0 : Int32) (0 : Int32) (1 : Int32))) {q150 : Int32} (hq150 : q150 = (f_take_p2 v139 (0 : Int32) (0 : Int32) (1 : Int32))) {q153 : Int32} (hq153 : q153 = (own_xC q145)) {v149 : Int32} (hv149 : (own_xR q137 q145) = v149) {q156 : Int32} (hq156 : q156 = (f_take_p0 v149 q148 q149 q150)) {q157 : Int32} (hq157 : q157 = (f_take_p1 v149 q148 q149 q150)) {q158 : Int32} (hq158 : q158 = (f_take_p2 v149 q148 q149 q150)) {q161 : Int32} (hq161 : q161 = (own_xC q153)) {v159 : Int32} (hv159 : (own_xR q137 q153) = v159) {q164 : Int32} (hq164 : q164 = (f_take_p0 v159 q156 q157 q158)) {q165 : Int32} (hq165 : q165 = (f_take_p1 v159 q156 q157 q158)) {q166 : Int32} (hq166 : q166 = (f_take_p2 v159 q156 q157 q158)) {v169 : Int32} (hv169 : (own_xR q137 q161) = v169) {q174 : Int32} (hq174 : q174 = (f_take_p2 v169 q164 q165 q166)) : q174 = (1 : Int32) := by
  subst hq174 hv169 hq166 hq165 hq164 hv159 hq161 hq158 hq157 hq156 hv149 hq153 hq150 hq149 hq148 hv139 hq145 hq137 hq136 hq84 hq83 hq82
  rcases h_v12 with rfl | rfl | rfl <;> rcases h_v20 with rfl | rfl | rfl <;> decide +kernel
set_option maxRecDepth 65536 in
theorem own_en176 {v12 : Int32} (h_v12 : own_T3 v12) {v20 : Int32} (h_v20 : own_T3 v20) {q82 : Int32} (hq82 : q82 = (own_nC [(.int (0 : Int32)), (.int (0 : Int32)), (.int (0 : Int32))] (0 : Int32) v12)) {q83 : List Value} (hq83 : q83 = (own_nV [(.int (0 : Int32)), (.int (0 : Int32)), (.int (0 : Int32))] [(.int (0 : Int32)), (.int (0 : Int32)), (.int (0 : Int32))] (0 : Int32) v12)) {q84 : List Value} (hq84 : q84 = (own_nB [(.int (0 : Int32)), (.int (0 : Int32)), (.int (0 : Int32))] v12)) {q136 : Int32} (hq136 : q136 = (own_nC q84 q82 v20)) {q137 : List Value} (hq137 : q137 = (own_nV q83 q84 q82 v20)) {q145 : Int32} (hq145 : q145 = (own_xC q136)) {v139 : Int32} (hv139 : (own_xR q137 q136) = v139) {q148 : Int32} (hq148 : q148 = (f_take_p0 v139 (0 : Int32) (0 : Int32) (1 : Int32))) {q149 : Int32} (hq149 : q149 = (f_take_p1 v139 (0 : Int32) (0 : Int32) (1 : Int32))) {q150 : Int32} (hq150 : q150 = (f_take_p2 v139 (0 : Int32) (0 : Int32) (1 : Int32))) {q153 : Int32} (hq153 : q153 = (own_xC q145)) {v149 : Int32} (hv149 : (own_xR q137 q145) = v149) {q156 : Int32} (hq156 : q156 = (f_take_p0 v149 q148 q149 q150)) {q157 : Int32} (hq157 : q157 = (f_take_p1 v149 q148 q149 q150)) {q158 : Int32} (hq158 : q158 = (f_take_p2 v149 q148 q149 q150)) {q161 : Int32} (hq161 : q161 = (own_xC q153)) {v159 : Int32} (hv159 : (own_xR q137 q153) = v159) {q164 : Int32} (hq164 : q164 = (f_take_p0 v159 q156 q157 q158)) {q165 : Int32} (hq165 : q165 = (f_take_p1 v159 q156 q157 q158)) {q166 : Int32} (hq166 : q166 = (f_take_p2 v159 q156 q157 q158)) {v169 : Int32} (hv169 : (own_xR q137 q161) = v169) {q173 : Int32} (hq173 : q173 = (f_take_p1 v169 q164 q165 q166)) : q173 = (1 : Int32) := by
  subst hq173 hv169 hq166 hq165 hq164 hv159 hq161 hq158 hq157 hq156 hv149 hq153 hq150 hq149 hq148 hv139 hq145 hq137 hq136 hq84 hq83 hq82
  rcases h_v12 with rfl | rfl | rfl <;> rcases h_v20 with rfl | rfl | rfl <;> decide +kernel
set_option maxRecDepth 65536 in
theorem own_en177 {v12 : Int32} (h_v12 : own_T3 v12) {v20 : Int32} (h_v20 : own_T3 v20) {q82 : Int32} (hq82 : q82 = (own_nC [(.int (0 : Int32)), (.int (0 : Int32)), (.int (0 : Int32))] (0 : Int32) v12)) {q83 : List Value} (hq83 : q83 = (own_nV [(.int (0 : Int32)), (.int (0 : Int32)), (.int (0 : Int32))] [(.int (0 : Int32)), (.int (0 : Int32)), (.int (0 : Int32))] (0 : Int32) v12)) {q84 : List Value} (hq84 : q84 = (own_nB [(.int (0 : Int32)), (.int (0 : Int32)), (.int (0 : Int32))] v12)) {v71 : Int32} (hv71 : ((0 : Int32) ||| ((1 : Int32) <<< (v12 &&& 31))) = v71) {q136 : Int32} (hq136 : q136 = (own_nC q84 q82 v20)) {q137 : List Value} (hq137 : q137 = (own_nV q83 q84 q82 v20)) {v93 : Int32} (hv93 : (v71 ||| ((1 : Int32) <<< (v20 &&& 31))) = v93) {q145 : Int32} (hq145 : q145 = (own_xC q136)) {v139 : Int32} (hv139 : (own_xR q137 q136) = v139) {q148 : Int32} (hq148 : q148 = (f_take_p0 v139 (0 : Int32) (0 : Int32) (1 : Int32))) {q149 : Int32} (hq149 : q149 = (f_take_p1 v139 (0 : Int32) (0 : Int32) (1 : Int32))) {q150 : Int32} (hq150 : q150 = (f_take_p2 v139 (0 : Int32) (0 : Int32) (1 : Int32))) {q153 : Int32} (hq153 : q153 = (own_xC q145)) {v149 : Int32} (hv149 : (own_xR q137 q145) = v149) {q156 : Int32} (hq156 : q156 = (f_take_p0 v149 q148 q149 q150)) {q157 : Int32} (hq157 : q157 = (f_take_p1 v149 q148 q149 q150)) {q158 : Int32} (hq158 : q158 = (f_take_p2 v149 q148 q149 q150)) {q161 : Int32} (hq161 : q161 = (own_xC q153)) {v159 : Int32} (hv159 : (own_xR q137 q153) = v159) {q164 : Int32} (hq164 : q164 = (f_take_p0 v159 q156 q157 q158)) {q165 : Int32} (hq165 : q165 = (f_take_p1 v159 q156 q157 q158)) {q166 : Int32} (hq166 : q166 = (f_take_p2 v159 q156 q157 q158)) {v169 : Int32} (hv169 : (own_xR q137 q161) = v169) {q172 : Int32} (hq172 : q172 = (f_take_p0 v169 q164 q165 q166)) : q172 = v93 := by
  subst hq172 hv169 hq166 hq165 hq164 hv159 hq161 hq158 hq157 hq156 hv149 hq153 hq150 hq149 hq148 hv139 hq145 hv93 hq137 hq136 hv71 hq84 hq83 hq82
  rcases h_v12 with rfl | rfl | rfl <;> rcases h_v20 with rfl | rfl | rfl <;> decide +kernel
set_option maxRecDepth 65536 in
theorem own_en179 {v12 : Int32} (h_v12 : own_T3 v12) {v20 : Int32} (h_v20 : own_T3 v20) {v36 : Int32} (h_v36 : own_T3 v36) {q82 : Int32} (hq82 : q82 = (own_nC [(.int (0 : Int32)), (.int (0 : Int32)), (.int (0 : Int32))] (0 : Int32) v12)) {q83 : List Value} (hq83 : q83 = (own_nV [(.int (0 : Int32)), (.int (0 : Int32)), (.int (0 : Int32))] [(.int (0 : Int32)), (.int (0 : Int32)), (.int (0 : Int32))] (0 : Int32) v12)) {q84 : List Value} (hq84 : q84 = (own_nB [(.int (0 : Int32)), (.int (0 : Int32)), (.int (0 : Int32))] v12)) {q136 : Int32} (hq136 : q136 = (own_nC q84 q82 v20)) {q137 : List Value} (hq137 : q137 = (own_nV q83 q84 q82 v20)) {q138 : List Value} (hq138 : q138 = (own_nB q84 v20)) {q145 : Int32} (hq145 : q145 = (own_xC q136)) {q146 : List Value} (hq146 : q146 = (own_xB q137 q138 q136)) {q153 : Int32} (hq153 : q153 = (own_xC q145)) {q154 : List Value} (hq154 : q154 = (own_xB q137 q146 q145)) {q161 : Int32} (hq161 : q161 = (own_xC q153)) {q162 : List Value} (hq162 : q162 = (own_xB q137 q154 q153)) {q169 : Int32} (hq169 : q169 = (own_xC q161)) {q170 : List Value} (hq170 : q170 = (own_xB q137 q162 q161)) : own_okN q137 q170 q169 v36 = true := by
  subst hq170 hq169 hq162 hq161 hq154 hq153 hq146 hq145 hq138 hq137 hq136 hq84 hq83 hq82
  rcases h_v12 with rfl | rfl | rfl <;> rcases h_v20 with rfl | rfl | rfl <;> rcases h_v36 with rfl | rfl | rfl <;> decide +kernel
set_option maxRecDepth 65536 in
theorem own_en184 {v12 : Int32} (h_v12 : own_T3 v12) {v20 : Int32} (h_v20 : own_T3 v20) {v36 : Int32} (h_v36 : own_T3 v36) {q82 : Int32} (hq82 : q82 = (own_nC [(.int (0 : Int32)), (.int (0 : Int32)), (.int (0 : Int32))] (0 : Int32) v12)) {q83 : List Value} (hq83 : q83 = (own_nV [(.int (0 : Int32)), (.int (0 : Int32)), (.int (0 : Int32))] [(.int (0 : Int32)), (.int (0 : Int32)), (.int (0 : Int32))] (0 : Int32) v12)) {q84 : List Value} (hq84 : q84 = (own_nB [(.int (0 : Int32)), (.int (0 : Int32)), (.int (0 : Int32))] v12)) {q136 : Int32} (hq136 : q136 = (own_nC q84 q82 v20)) {q137 : List Value} (hq137 : q137 = (own_nV q83 q84 q82 v20)) {q138 : List Value} (hq138 : q138 = (own_nB q84 v20)) {q145 : Int32} (hq145 : q145 = (own_xC q136)) {q146 : List Value} (hq146 : q146 = (own_xB q137 q138 q136)) {q153 : Int32} (hq153 : q153 = (own_xC q145)) {q154 : List Value} (hq154 : q154 = (own_xB q137 q146 q145)) {q161 : Int32} (hq161 : q161 = (own_xC q153)) {q162 : List Value} (hq162 : q162 = (own_xB q137 q154 q153)) {q169 : Int32} (hq169 : q169 = (own_xC q161)) {q170 : List Value} (hq170 : q170 = (own_xB q137 q162 q161)) {q180 : Int32} (hq180 : q180 = (own_nC q170 q169 v36)) {q181 : List Value} (hq181 : q181 = (own_nV q137 q170 q169 v36)) {q182 : List Value} (hq182 : q182 = (own_nB q170 v36)) : own_okX q181 q182 q180 = true := by
  subst hq182 hq181 hq180 hq170 hq169 hq162 hq161 hq154 hq153 hq146 hq145 hq138 hq137 hq136 hq84 hq83 hq82
  rcases h_v12 with rfl | rfl | rfl <;> rcases h_v20 with rfl | rfl | rfl <;> rcases h_v36 with rfl | rfl | rfl <;> decide +kernel
set_option maxRecDepth 65536 in
theorem own_en187 {v12 : Int32} (h_v12 : own_T3 v12) {v20 : Int32} (h_v20 : own_T3 v20) {v36 : Int32} (h_v36 : own_T3 v36) {q82 : Int32} (hq82 : q82 = (own_nC [(.int (0 : Int32)), (.int (0 : Int32)), (.int (0 : Int32))] (0 : Int32) v12)) {q83 : List Value} (hq83 : q83 = (own_nV [(.int (0 : Int32)), (.int (0 : Int32)), (.int (0 : Int32))] [(.int (0 : Int32)), (.int (0 : Int32)), (.int (0 : Int32))] (0 : Int32) v12)) {q84 : List Value} (hq84 : q84 = (own_nB [(.int (0 : Int32)), (.int (0 : Int32)), (.int (0 : Int32))] v12)) {q136 : Int32} (hq136 : q136 = (own_nC q84 q82 v20)) {q137 : List Value} (hq137 : q137 = (own_nV q83 q84 q82 v20)) {q138 : List Value} (hq138 : q138 = (own_nB q84 v20)) {q145 : Int32} (hq145 : q145 = (own_xC q136)) {q146 : List Value} (hq146 : q146 = (own_xB q137 q138 q136)) {q153 : Int32} (hq153 : q153 = (own_xC q145)) {q154 : List Value} (hq154 : q154 = (own_xB q137 q146 q145)) {q161 : Int32} (hq161 : q161 = (own_xC q153)) {q162 : List Value} (hq162 : q162 = (own_xB q137 q154 q153)) {q169 : Int32} (hq169 : q169 = (own_xC q161)) {q170 : List Value} (hq170 : q170 = (own_xB q137 q162 q161)) {q180 : Int32} (hq180 : q180 = (own_nC q170 q169 v36)) {q181 : List Value} (hq181 : q181 = (own_nV q137 q170 q169 v36)) {v218 : Int32} (hv218 : (own_xR q181 q180) = v218) : v218 = v36 := by
  subst hv218 hq181 hq180 hq170 hq169 hq162 hq161 hq154 hq153 hq146 hq145 hq138 hq137 hq136 hq84 hq83 hq82
  rcases h_v12 with rfl | rfl | rfl <;> rcases h_v20 with rfl | rfl | rfl <;> rcases h_v36 with rfl | rfl | rfl <;> decide +kernel
set_option maxRecDepth 65536 in
theorem own_en189 {v12 : Int32} (h_v12 : own_T3 v12) {v20 : Int32} (h_v20 : own_T3 v20) {v28 : Int32} (h_v28 : own_T3 v28) {q82 : Int32} (hq82 : q82 = (own_nC [(.int (0 : Int32)), (.int (0 : Int32)), (.int (0 : Int32))] (0 : Int32) v12)) {q83 : List Value} (hq83 : q83 = (own_nV [(.int (0 : Int32)), (.int (0 : Int32)), (.int (0 : Int32))] [(.int (0 : Int32)), (.int (0 : Int32)), (.int (0 : Int32))] (0 : Int32) v12)) {q84 : List Value} (hq84 : q84 = (own_nB [(.int (0 : Int32)), (.int (0 : Int32)), (.int (0 : Int32))] v12)) {q136 : Int32} (hq136 : q136 = (own_nC q84 q82 v20)) {q137 : List Value} (hq137 : q137 = (own_nV q83 q84 q82 v20)) {q138 : List Value} (hq138 : q138 = (own_nB q84 v20)) : own_okN q137 q138 q136 v28 = true := by
  subst hq138 hq137 hq136 hq84 hq83 hq82
  rcases h_v12 with rfl | rfl | rfl <;> rcases h_v20 with rfl | rfl | rfl <;> rcases h_v28 with rfl | rfl | rfl <;> decide +kernel
set_option maxRecDepth 65536 in
theorem own_en198 {v12 : Int32} (h_v12 : own_T3 v12) {v20 : Int32} (h_v20 : own_T3 v20) {v28 : Int32} (h_v28 : own_T3 v28) {q82 : Int32} (hq82 : q82 = (own_nC [(.int (0 : Int32)), (.int (0 : Int32)), (.int (0 : Int32))] (0 : Int32) v12)) {q83 : List Value} (hq83 : q83 = (own_nV [(.int (0 : Int32)), (.int (0 : Int32)), (.int (0 : Int32))] [(.int (0 : Int32)), (.int (0 : Int32)), (.int (0 : Int32))] (0 : Int32) v12)) {q84 : List Value} (hq84 : q84 = (own_nB [(.int (0 : Int32)), (.int (0 : Int32)), (.int (0 : Int32))] v12)) {q136 : Int32} (hq136 : q136 = (own_nC q84 q82 v20)) {q137 : List Value} (hq137 : q137 = (own_nV q83 q84 q82 v20)) {q138 : List Value} (hq138 : q138 = (own_nB q84 v20)) {q190 : Int32} (hq190 : q190 = (own_nC q138 q136 v28)) {q191 : List Value} (hq191 : q191 = (own_nV q137 q138 q136 v28)) {q192 : List Value} (hq192 : q192 = (own_nB q138 v28)) : own_okX q191 q192 q190 = true := by
  subst hq192 hq191 hq190 hq138 hq137 hq136 hq84 hq83 hq82
  rcases h_v12 with rfl | rfl | rfl <;> rcases h_v20 with rfl | rfl | rfl <;> rcases h_v28 with rfl | rfl | rfl <;> decide +kernel
set_option maxRecDepth 65536 in
theorem own_en206 {v12 : Int32} (h_v12 : own_T3 v12) {v20 : Int32} (h_v20 : own_T3 v20) {v28 : Int32} (h_v28 : own_T3 v28) {q82 : Int32} (hq82 : q82 = (own_nC [(.int (0 : Int32)), (.int (0 : Int32)), (.int (0 : Int32))] (0 : Int32) v12)) {q83 : List Value} (hq83 : q83 = (own_nV [(.int (0 : Int32)), (.int (0 : Int32)), (.int (0 : Int32))] [(.int (0 : Int32)), (.int (0 : Int32)), (.int (0 : Int32))] (0 : Int32) v12)) {q84 : List Value} (hq84 : q84 = (own_nB [(.int (0 : Int32)), (.int (0 : Int32)), (.int (0 : Int32))] v12)) {q136 : Int32} (hq136 : q136 = (own_nC q84 q82 v20)) {q137 : List Value} (hq137 : q137 = (own_nV q83 q84 q82 v20)) {q138 : List Value} (hq138 : q138 = (own_nB q84 v20)) {q190 : Int32} (hq190 : q190 = (own_nC q138 q136 v28)) {q191 : List Value} (hq191 : q191 = (own_nV q137 q138 q136 v28)) {q192 : List Value} (hq192 : q192 = (own_nB q138 v28)) {q199 : Int32} (hq199 : q199 = (own_xC q190)) {q200 : List Value} (hq200 : q200 = (own_xB q191 q192 q190)) : own_okX q191 q200 q199 = true := by
  subst hq200 hq199 hq192 hq191 hq190 hq138 hq137 hq136 hq84 hq83 hq82
  rcases h_v12 with rfl | rfl | rfl <;> rcases h_v20 with rfl | rfl | rfl <;> rcases h_v28 with rfl | rfl | rfl <;> decide +kernel
set_option maxRecDepth 65536 in
theorem own_en214 {v12 : Int32} (h_v12 : own_T3 v12) {v20 : Int32} (h_v20 : own_T3 v20) {v28 : Int32} (h_v28 : own_T3 v28) {q82 : Int32} (hq82 : q82 = (own_nC [(.int (0 : Int32)), (.int (0 : Int32)), (.int (0 : Int32))] (0 : Int32) v12)) {q83 : List Value} (hq83 : q83 = (own_nV [(.int (0 : Int32)), (.int (0 : Int32)), (.int (0 : Int32))] [(.int (0 : Int32)), (.int (0 : Int32)), (.int (0 : Int32))] (0 : Int32) v12)) {q84 : List Value} (hq84 : q84 = (own_nB [(.int (0 : Int32)), (.int (0 : Int32)), (.int (0 : Int32))] v12)) {q136 : Int32} (hq136 : q136 = (own_nC q84 q82 v20)) {q137 : List Value} (hq137 : q137 = (own_nV q83 q84 q82 v20)) {q138 : List Value} (hq138 : q138 = (own_nB q84 v20)) {q190 : Int32} (hq190 : q190 = (own_nC q138 q136 v28)) {q191 : List Value} (hq191 : q191 = (own_nV q137 q138 q136 v28)) {q192 : List Value} (hq192 : q192 = (own_nB q138 v28)) {q199 : Int32} (hq199 : q199 = (own_xC q190)) {q200 : List Value} (hq200 : q200 = (own_xB q191 q192 q190)) {q207 : Int32} (hq207 : q207 = (own_xC q199)) {q208 : List Value} (hq208 : q208 = (own_xB q191 q200 q199)) : own_okX q191 q208 q207 = true := by
  subst hq208 hq207 hq200 hq199 hq192 hq191 hq190 hq138 hq137 hq136 hq84 hq83 hq82
  rcases h_v12 with rfl | rfl | rfl <;> rcases h_v20 with rfl | rfl | rfl <;> rcases h_v28 with rfl | rfl | rfl <;> decide +kernel
set_option maxRecDepth 65536 in
theorem own_en222 {v12 : Int32} (h_v12 : own_T3 v12) {v20 : Int32} (h_v20 : own_T3 v20) {v28 : Int32} (h_v28 : own_T3 v28) {q82 : Int32} (hq82 : q82 = (own_nC [(.int (0 : Int32)), (.int (0 : Int32)), (.int (0 : Int32))] (0 : Int32) v12)) {q83 : List Value} (hq83 : q83 = (own_nV [(.int (0 : Int32)), (.int (0 : Int32)), (.int (0 : Int32))] [(.int (0 : Int32)), (.int (0 : Int32)), (.int (0 : Int32))] (0 : Int32) v12)) {q84 : List Value} (hq84 : q84 = (own_nB [(.int (0 : Int32)), (.int (0 : Int32)), (.int (0 : Int32))] v12)) {q136 : Int32} (hq136 : q136 = (own_nC q84 q82 v20)) {q137 : List Value} (hq137 : q137 = (own_nV q83 q84 q82 v20)) {q138 : List Value} (hq138 : q138 = (own_nB q84 v20)) {q190 : Int32} (hq190 : q190 = (own_nC q138 q136 v28)) {q191 : List Value} (hq191 : q191 = (own_nV q137 q138 q136 v28)) {q192 : List Value} (hq192 : q192 = (own_nB q138 v28)) {q199 : Int32} (hq199 : q199 = (own_xC q190)) {q200 : List Value} (hq200 : q200 = (own_xB q191 q192 q190)) {q207 : Int32} (hq207 : q207 = (own_xC q199)) {q208 : List Value} (hq208 : q208 = (own_xB q191 q200 q199)) {q215 : Int32} (hq215 : q215 = (own_xC q207)) {q216 : List Value} (hq216 : q216 = (own_xB q191 q208 q207)) : own_okX q191 q216 q215 = true := by
  subst hq216 hq215 hq208 hq207 hq200 hq199 hq192 hq191 hq190 hq138 hq137 hq136 hq84 hq83 hq82
  rcases h_v12 with rfl | rfl | rfl <;> rcases h_v20 with rfl | rfl | rfl <;> rcases h_v28 with rfl | rfl | rfl <;> decide +kernel
set_option maxRecDepth 65536 in
theorem own_en229 {v12 : Int32} (h_v12 : own_T3 v12) {v20 : Int32} (h_v20 : own_T3 v20) {v28 : Int32} (h_v28 : own_T3 v28) {q82 : Int32} (hq82 : q82 = (own_nC [(.int (0 : Int32)), (.int (0 : Int32)), (.int (0 : Int32))] (0 : Int32) v12)) {q83 : List Value} (hq83 : q83 = (own_nV [(.int (0 : Int32)), (.int (0 : Int32)), (.int (0 : Int32))] [(.int (0 : Int32)), (.int (0 : Int32)), (.int (0 : Int32))] (0 : Int32) v12)) {q84 : List Value} (hq84 : q84 = (own_nB [(.int (0 : Int32)), (.int (0 : Int32)), (.int (0 : Int32))] v12)) {q136 : Int32} (hq136 : q136 = (own_nC q84 q82 v20)) {q137 : List Value} (hq137 : q137 = (own_nV q83 q84 q82 v20)) {q138 : List Value} (hq138 : q138 = (own_nB q84 v20)) {q190 : Int32} (hq190 : q190 = (own_nC q138 q136 v28)) {q191 : List Value} (hq191 : q191 = (own_nV q137 q138 q136 v28)) {q199 : Int32} (hq199 : q199 = (own_xC q190)) {v139 : Int32} (hv139 : (own_xR q191 q190) = v139) {q202 : Int32} (hq202 : q202 = (f_take_p0 v139 (0 : Int32) (0 : Int32) (1 : Int32))) {q203 : Int32} (hq203 : q203 = (f_take_p1 v139 (0 : Int32) (0 : Int32) (1 : Int32))) {q204 : Int32} (hq204 : q204 = (f_take_p2 v139 (0 : Int32) (0 : Int32) (1 : Int32))) {q207 : Int32} (hq207 : q207 = (own_xC q199)) {v149 : Int32} (hv149 : (own_xR q191 q199) = v149) {q210 : Int32} (hq210 : q210 = (f_take_p0 v149 q202 q203 q204)) {q211 : Int32} (hq211 : q211 = (f_take_p1 v149 q202 q203 q204)) {q212 : Int32} (hq212 : q212 = (f_take_p2 v149 q202 q203 q204)) {q215 : Int32} (hq215 : q215 = (own_xC q207)) {v159 : Int32} (hv159 : (own_xR q191 q207) = v159) {q218 : Int32} (hq218 : q218 = (f_take_p0 v159 q210 q211 q212)) {q219 : Int32} (hq219 : q219 = (f_take_p1 v159 q210 q211 q212)) {q220 : Int32} (hq220 : q220 = (f_take_p2 v159 q210 q211 q212)) {v169 : Int32} (hv169 : (own_xR q191 q215) = v169) {q228 : Int32} (hq228 : q228 = (f_take_p2 v169 q218 q219 q220)) : q228 = (1 : Int32) := by
  subst hq228 hv169 hq220 hq219 hq218 hv159 hq215 hq212 hq211 hq210 hv149 hq207 hq204 hq203 hq202 hv139 hq199 hq191 hq190 hq138 hq137 hq136 hq84 hq83 hq82
  rcases h_v12 with rfl | rfl | rfl <;> rcases h_v20 with rfl | rfl | rfl <;> rcases h_v28 with rfl | rfl | rfl <;> decide +kernel
set_option maxRecDepth 65536 in
theorem own_en230 {v12 : Int32} (h_v12 : own_T3 v12) {v20 : Int32} (h_v20 : own_T3 v20) {v28 : Int32} (h_v28 : own_T3 v28) {q82 : Int32} (hq82 : q82 = (own_nC [(.int (0 : Int32)), (.int (0 : Int32)), (.int (0 : Int32))] (0 : Int32) v12)) {q83 : List Value} (hq83 : q83 = (own_nV [(.int (0 : Int32)), (.int (0 : Int32)), (.int (0 : Int32))] [(.int (0 : Int32)), (.int (0 : Int32)), (.int (0 : Int32))] (0 : Int32) v12)) {q84 : List Value} (hq84 : q84 = (own_nB [(.int (0 : Int32)), (.int (0 : Int32)), (.int (0 : Int32))] v12)) {q136 : Int32} (hq136 : q136 = (own_nC q84 q82 v20)) {q137 : List Value} (hq137 : q137 = (own_nV q83 q84 q82 v20)) {q138 : List Value} (hq138 : q138 = (own_nB q84 v20)) {q190 : Int32} (hq190 : q190 = (own_nC q138 q136 v28)) {q191 : List Value} (hq191 : q191 = (own_nV q137 q138 q136 v28)) {q199 : Int32} (hq199 : q199 = (own_xC q190)) {v139 : Int32} (hv139 : (own_xR q191 q190) = v139) {q202 : Int32} (hq202 : q202 = (f_take_p0 v139 (0 : Int32) (0 : Int32) (1 : Int32))) {q203 : Int32} (hq203 : q203 = (f_take_p1 v139 (0 : Int32) (0 : Int32) (1 : Int32))) {q204 : Int32} (hq204 : q204 = (f_take_p2 v139 (0 : Int32) (0 : Int32) (1 : Int32))) {q207 : Int32} (hq207 : q207 = (own_xC q199)) {v149 : Int32} (hv149 : (own_xR q191 q199) = v149) {q210 : Int32} (hq210 : q210 = (f_take_p0 v149 q202 q203 q204)) {q211 : Int32} (hq211 : q211 = (f_take_p1 v149 q202 q203 q204)) {q212 : Int32} (hq212 : q212 = (f_take_p2 v149 q202 q203 q204)) {q215 : Int32} (hq215 : q215 = (own_xC q207)) {v159 : Int32} (hv159 : (own_xR q191 q207) = v159) {q218 : Int32} (hq218 : q218 = (f_take_p0 v159 q210 q211 q212)) {q219 : Int32} (hq219 : q219 = (f_take_p1 v159 q210 q211 q212)) {q220 : Int32} (hq220 : q220 = (f_take_p2 v159 q210 q211 q212)) {v169 : Int32} (hv169 : (own_xR q191 q215) = v169) {q227 : Int32} (hq227 : q227 = (f_take_p1 v169 q218 q219 q220)) : q227 = (1 : Int32) := by
  subst hq227 hv169 hq220 hq219 hq218 hv159 hq215 hq212 hq211 hq210 hv149 hq207 hq204 hq203 hq202 hv139 hq199 hq191 hq190 hq138 hq137 hq136 hq84 hq83 hq82
  rcases h_v12 with rfl | rfl | rfl <;> rcases h_v20 with rfl | rfl | rfl <;> rcases h_v28 with rfl | rfl | rfl <;> decide +kernel
set_option maxRecDepth 65536 in
theorem own_en231 {v12 : Int32} (h_v12 : own_T3 v12) {v20 : Int32} (h_v20 : own_T3 v20) {v28 : Int32} (h_v28 : own_T3 v28) {q82 : Int32} (hq82 : q82 = (own_nC [(.int (0 : Int32)), (.int (0 : Int32)), (.int (0 : Int32))] (0 : Int32) v12)) {q83 : List Value} (hq83 : q83 = (own_nV [(.int (0 : Int32)), (.int (0 : Int32)), (.int (0 : Int32))] [(.int (0 : Int32)), (.int (0 : Int32)), (.int (0 : Int32))] (0 : Int32) v12)) {q84 : List Value} (hq84 : q84 = (own_nB [(.int (0 : Int32)), (.int (0 : Int32)), (.int (0 : Int32))] v12)) {v71 : Int32} (hv71 : ((0 : Int32) ||| ((1 : Int32) <<< (v12 &&& 31))) = v71) {q136 : Int32} (hq136 : q136 = (own_nC q84 q82 v20)) {q137 : List Value} (hq137 : q137 = (own_nV q83 q84 q82 v20)) {q138 : List Value} (hq138 : q138 = (own_nB q84 v20)) {v93 : Int32} (hv93 : (v71 ||| ((1 : Int32) <<< (v20 &&& 31))) = v93) {q190 : Int32} (hq190 : q190 = (own_nC q138 q136 v28)) {q191 : List Value} (hq191 : q191 = (own_nV q137 q138 q136 v28)) {v115 : Int32} (hv115 : (v93 ||| ((1 : Int32) <<< (v28 &&& 31))) = v115) {q199 : Int32} (hq199 : q199 = (own_xC q190)) {v139 : Int32} (hv139 : (own_xR q191 q190) = v139) {q202 : Int32} (hq202 : q202 = (f_take_p0 v139 (0 : Int32) (0 : Int32) (1 : Int32))) {q203 : Int32} (hq203 : q203 = (f_take_p1 v139 (0 : Int32) (0 : Int32) (1 : Int32))) {q204 : Int32} (hq204 : q204 = (f_take_p2 v139 (0 : Int32) (0 : Int32) (1 : Int32))) {q207 : Int32} (hq207 : q207 = (own_xC q199)) {v149 : Int32} (hv149 : (own_xR q191 q199) = v149) {q210 : Int32} (hq210 : q210 = (f_take_p0 v149 q202 q203 q204)) {q211 : Int32} (hq211 : q211 = (f_take_p1 v149 q202 q203 q204)) {q212 : Int32} (hq212 : q212 = (f_take_p2 v149 q202 q203 q204)) {q215 : Int32} (hq215 : q215 = (own_xC q207)) {v159 : Int32} (hv159 : (own_xR q191 q207) = v159) {q218 : Int32} (hq218 : q218 = (f_take_p0 v159 q210 q211 q212)) {q219 : Int32} (hq219 : q219 = (f_take_p1 v159 q210 q211 q212)) {q220 : Int32} (hq220 : q220 = (f_take_p2 v159 q210 q211 q212)) {v169 : Int32} (hv169 : (own_xR q191 q215) = v169) {q226 : Int32} (hq226 : q226 = (f_take_p0 v169 q218 q219 q220)) : q226 = v115 := by
  subst hq226 hv169 hq220 hq219 hq218 hv159 hq215 hq212 hq211 hq210 hv149 hq207 hq204 hq203 hq202 hv139 hq199 hv115 hq191 hq190 hv93 hq138 hq137 hq136 hv71 hq84 hq83 hq82
  rcases h_v12 with rfl | rfl | rfl <;> rcases h_v20 with rfl | rfl | rfl <;> rcases h_v28 with rfl | rfl | rfl <;> decide +kernel
set_option maxRecDepth 65536 in
theorem own_en233 {v12 : Int32} (h_v12 : own_T3 v12) {v20 : Int32} (h_v20 : own_T3 v20) {v28 : Int32} (h_v28 : own_T3 v28) {v36 : Int32} (h_v36 : own_T3 v36) {q82 : Int32} (hq82 : q82 = (own_nC [(.int (0 : Int32)), (.int (0 : Int32)), (.int (0 : Int32))] (0 : Int32) v12)) {q83 : List Value} (hq83 : q83 = (own_nV [(.int (0 : Int32)), (.int (0 : Int32)), (.int (0 : Int32))] [(.int (0 : Int32)), (.int (0 : Int32)), (.int (0 : Int32))] (0 : Int32) v12)) {q84 : List Value} (hq84 : q84 = (own_nB [(.int (0 : Int32)), (.int (0 : Int32)), (.int (0 : Int32))] v12)) {q136 : Int32} (hq136 : q136 = (own_nC q84 q82 v20)) {q137 : List Value} (hq137 : q137 = (own_nV q83 q84 q82 v20)) {q138 : List Value} (hq138 : q138 = (own_nB q84 v20)) {q190 : Int32} (hq190 : q190 = (own_nC q138 q136 v28)) {q191 : List Value} (hq191 : q191 = (own_nV q137 q138 q136 v28)) {q192 : List Value} (hq192 : q192 = (own_nB q138 v28)) {q199 : Int32} (hq199 : q199 = (own_xC q190)) {q200 : List Value} (hq200 : q200 = (own_xB q191 q192 q190)) {q207 : Int32} (hq207 : q207 = (own_xC q199)) {q208 : List Value} (hq208 : q208 = (own_xB q191 q200 q199)) {q215 : Int32} (hq215 : q215 = (own_xC q207)) {q216 : List Value} (hq216 : q216 = (own_xB q191 q208 q207)) {q223 : Int32} (hq223 : q223 = (own_xC q215)) {q224 : List Value} (hq224 : q224 = (own_xB q191 q216 q215)) : own_okN q191 q224 q223 v36 = true := by
  subst hq224 hq223 hq216 hq215 hq208 hq207 hq200 hq199 hq192 hq191 hq190 hq138 hq137 hq136 hq84 hq83 hq82
  rcases h_v12 with rfl | rfl | rfl <;> rcases h_v20 with rfl | rfl | rfl <;> rcases h_v28 with rfl | rfl | rfl <;> rcases h_v36 with rfl | rfl | rfl <;> decide +kernel
set_option maxRecDepth 65536 in
theorem own_en238 {v12 : Int32} (h_v12 : own_T3 v12) {v20 : Int32} (h_v20 : own_T3 v20) {v28 : Int32} (h_v28 : own_T3 v28) {v36 : Int32} (h_v36 : own_T3 v36) {q82 : Int32} (hq82 : q82 = (own_nC [(.int (0 : Int32)), (.int (0 : Int32)), (.int (0 : Int32))] (0 : Int32) v12)) {q83 : List Value} (hq83 : q83 = (own_nV [(.int (0 : Int32)), (.int (0 : Int32)), (.int (0 : Int32))] [(.int (0 : Int32)), (.int (0 : Int32)), (.int (0 : Int32))] (0 : Int32) v12)) {q84 : List Value} (hq84 : q84 = (own_nB [(.int (0 : Int32)), (.int (0 : Int32)), (.int (0 : Int32))] v12)) {q136 : Int32} (hq136 : q136 = (own_nC q84 q82 v20)) {q137 : List Value} (hq137 : q137 = (own_nV q83 q84 q82 v20)) {q138 : List Value} (hq138 : q138 = (own_nB q84 v20)) {q190 : Int32} (hq190 : q190 = (own_nC q138 q136 v28)) {q191 : List Value} (hq191 : q191 = (own_nV q137 q138 q136 v28)) {q192 : List Value} (hq192 : q192 = (own_nB q138 v28)) {q199 : Int32} (hq199 : q199 = (own_xC q190)) {q200 : List Value} (hq200 : q200 = (own_xB q191 q192 q190)) {q207 : Int32} (hq207 : q207 = (own_xC q199)) {q208 : List Value} (hq208 : q208 = (own_xB q191 q200 q199)) {q215 : Int32} (hq215 : q215 = (own_xC q207)) {q216 : List Value} (hq216 : q216 = (own_xB q191 q208 q207)) {q223 : Int32} (hq223 : q223 = (own_xC q215)) {q224 : List Value} (hq224 : q224 = (own_xB q191 q216 q215)) {q234 : Int32} (hq234 : q234 = (own_nC q224 q223 v36)) {q235 : List Value} (hq235 : q235 = (own_nV q191 q224 q223 v36)) {q236 : List Value} (hq236 : q236 = (own_nB q224 v36)) : own_okX q235 q236 q234 = true := by
  subst hq236 hq235 hq234 hq224 hq223 hq216 hq215 hq208 hq207 hq200 hq199 hq192 hq191 hq190 hq138 hq137 hq136 hq84 hq83 hq82
  rcases h_v12 with rfl | rfl | rfl <;> rcases h_v20 with rfl | rfl | rfl <;> rcases h_v28 with rfl | rfl | rfl <;> rcases h_v36 with rfl | rfl | rfl <;> decide +kernel
set_option maxRecDepth 65536 in
theorem own_en241 {v12 : Int32} (h_v12 : own_T3 v12) {v20 : Int32} (h_v20 : own_T3 v20) {v28 : Int32} (h_v28 : own_T3 v28) {v36 : Int32} (h_v36 : own_T3 v36) {q82 : Int32} (hq82 : q82 = (own_nC [(.int (0 : Int32)), (.int (0 : Int32)), (.int (0 : Int32))] (0 : Int32) v12)) {q83 : List Value} (hq83 : q83 = (own_nV [(.int (0 : Int32)), (.int (0 : Int32)), (.int (0 : Int32))] [(.int (0 : Int32)), (.int (0 : Int32)), (.int (0 : Int32))] (0 : Int32) v12)) {q84 : List Value} (hq84 : q84 = (own_nB [(.int (0 : Int32)), (.int (0 : Int32)), (.int (0 : Int32))] v12)) {q136 : Int32} (hq136 : q136 = (own_nC q84 q82 v20)) {q137 : List Value} (hq137 : q137 = (own_nV q83 q84 q82 v20)) {q138 : List Value} (hq138 : q138 = (own_nB q84 v20)) {q190 : Int32} (hq190 : q190 = (own_nC q138 q136 v28)) {q191 : List Value} (hq191 : q191 = (own_nV q137 q138 q136 v28)) {q192 : List Value} (hq192 : q192 = (own_nB q138 v28)) {q199 : Int32} (hq199 : q199 = (own_xC q190)) {q200 : List Value} (hq200 : q200 = (own_xB q191 q192 q190)) {q207 : Int32} (hq207 : q207 = (own_xC q199)) {q208 : List Value} (hq208 : q208 = (own_xB q191 q200 q199)) {q215 : Int32} (hq215 : q215 = (own_xC q207)) {q216 : List Value} (hq216 : q216 = (own_xB q191 q208 q207)) {q223 : Int32} (hq223 : q223 = (own_xC q215)) {q224 : List Value} (hq224 : q224 = (own_xB q191 q216 q215)) {q234 : Int32} (hq234 : q234 = (own_nC q224 q223 v36)) {q235 : List Value} (hq235 : q235 = (own_nV q191 q224 q223 v36)) {v218 : Int32} (hv218 : (own_xR q235 q234) = v218) : v218 = v36 := by
  subst hv218 hq235 hq234 hq224 hq223 hq216 hq215 hq208 hq207 hq200 hq199 hq192 hq191 hq190 hq138 hq137 hq136 hq84 hq83 hq82
  rcases h_v12 with rfl | rfl | rfl <;> rcases h_v20 with rfl | rfl | rfl <;> rcases h_v28 with rfl | rfl | rfl <;> rcases h_v36 with rfl | rfl | rfl <;> decide +kernel
theorem ef_law (m : MethodId) (xlaw_1 : Int32) (xlaw_2 : Int32) (xlaw_3 : Int32) (xlaw_4 : Int32) (xlaw_5 : Int32) : entryFrame m #[(.int xlaw_1), (.int xlaw_2), (.int xlaw_3), (.int xlaw_4), (.int xlaw_5)] maxLocals = mkF m 0 #[.val (.int xlaw_1), .val (.int xlaw_2), .val (.int xlaw_3), .val (.int xlaw_4), .val (.int xlaw_5), .unset, .unset, .unset, .unset, .unset, .unset, .unset, .unset, .unset, .unset] [] := by first | (simp [entryFrame, mkF, argsToLocals, Value.category, maxLocals]; done) | rfl
def Q_law (n0 : Nat) (v : Option Value) (h : Heap) (L : List Loc) : Prop := v = some (.int 1) ∧ Fr n0 L
set_option maxRecDepth 65536 in
set_option maxHeartbeats 40000000 in
theorem rm_law (l : Launch) (Z : State) (a0 : Array Value) (hw : ∀ d ∈ tables_1, d.before a0 Z = true) (ws : List Jvm.Cond) (xlaw_1 : Int32) (xlaw_2 : Int32) (xlaw_3 : Int32) (xlaw_4 : Int32) (xlaw_5 : Int32) (h0 : Heap) (n0 : Nat) (Z0 : n0 ≤ h0.size)  :
    MetFree l x (head1 (Jvm.Cond.code x code maxLocals ret :: ws) room_1) (fun a U => a = #[(.int xlaw_1), (.int xlaw_2), (.int xlaw_3), (.int xlaw_4), (.int xlaw_5)] ∧ Z.Warmed39 U.vm ∧ U.heap = h0) (fun _ _ _ _ _ => True) (fun _ U o U' => ∃ v L, o = .returned v ∧ (Q_law n0) v U'.heap L ∧ FrameEnd U o U' L 16 128) := by
  refine MetFree.of_bodySF (plainFor_of_name pn2) hisR ?_
  intro p e s m args below meth c s₁ Bd hml0 hP hK
  obtain ⟨rfl, hZ, hh⟩ := hP
  have hx := Bd.exec
  have hby := Bd.bytes
  have hml : c.maxLocals = 15 := hml0
  have hown : s.vm.findClass "com/example/tauten/tauten/ChangeListNextPinLaw" = some m.cls := findClass_of_methodNamed Bd.named
  have hnm := (name_of_methodNamed Bd.named Bd.method).1
  have X0 : Stand p l e room_1 s m #[(.int xlaw_1), (.int xlaw_2), (.int xlaw_3), (.int xlaw_4), (.int xlaw_5)] below meth c s₁ [] 0 0 := Stand.of_body Bd
  have e0 : s₁.heap = h0 := by rw [← hh, Bd.state]; rfl
  have N0 := Fr.nil n0
  refine Wq.step (p := p) (e := e) (below := below) (En := (fun o t L => FrameEnd s o t L 16 128)) (Q := (Q_law n0)) (fun t k => castTop (ef_law m xlaw_1 xlaw_2 xlaw_3 xlaw_4 xlaw_5) k) ?_
  show Wq _ _ _ _ _ (s₁.setTop (mkF m 0 #[.val (.int xlaw_1), .val (.int xlaw_2), .val (.int xlaw_3), .val (.int xlaw_4), .val (.int xlaw_5), .unset, .unset, .unset, .unset, .unset, .unset, .unset, .unset, .unset, .unset] []))
  refine Ow.iload X0 hx (pc' := 2) (hb hby at_0) rfl ?_
  refine Ow.iconst X0 hx (pc' := 3) (hb hby at_2) (z := (3 : Int32)) rfl ?_
  refine Ow.iand X0 hx (pc' := 4) (hb hby at_3) (z := (xlaw_5 &&& (3 : Int32))) rfl ?_
  refine Ow.istore X0 hx (pc' := 6) (hb hby at_4) (l' := #[.val (.int xlaw_1), .val (.int xlaw_2), .val (.int xlaw_3), .val (.int xlaw_4), .val (.int xlaw_5), .val (.int (xlaw_5 &&& (3 : Int32))), .unset, .unset, .unset, .unset, .unset, .unset, .unset, .unset, .unset]) rfl ?_
  generalize hv4 : (xlaw_5 &&& (3 : Int32)) = v4
  refine Ow.iloadN X0 hx (pc' := 7) (hb hby at_6) rfl ?_
  refine Ow.ldcInt X0 hx hZ (pc' := 9) hown (kw0 hw) (hb hby at_7) ?_
  refine Ow.iand X0 hx (pc' := 10) (hb hby at_9) (z := (xlaw_1 &&& (2147483647 : Int32))) rfl ?_
  refine Ow.iconst X0 hx (pc' := 11) (hb hby at_10) (z := (3 : Int32)) rfl ?_
  refine Ow.irem X0 hx (pc' := 12) (hb hby at_11) (by decide : (3 : Int32) ≠ (0 : Int32)) (z := ((xlaw_1 &&& (2147483647 : Int32)) % (3 : Int32))) rfl ?_
  refine Ow.istore X0 hx (pc' := 14) (hb hby at_12) (l' := #[.val (.int xlaw_1), .val (.int xlaw_2), .val (.int xlaw_3), .val (.int xlaw_4), .val (.int xlaw_5), .val (.int v4), .val (.int ((xlaw_1 &&& (2147483647 : Int32)) % (3 : Int32))), .unset, .unset, .unset, .unset, .unset, .unset, .unset, .unset]) rfl ?_
  generalize hv12 : ((xlaw_1 &&& (2147483647 : Int32)) % (3 : Int32)) = v12
  refine Ow.iloadN X0 hx (pc' := 15) (hb hby at_14) rfl ?_
  refine Ow.ldcInt X0 hx hZ (pc' := 17) hown (kw0 hw) (hb hby at_15) ?_
  refine Ow.iand X0 hx (pc' := 18) (hb hby at_17) (z := (xlaw_2 &&& (2147483647 : Int32))) rfl ?_
  refine Ow.iconst X0 hx (pc' := 19) (hb hby at_18) (z := (3 : Int32)) rfl ?_
  refine Ow.irem X0 hx (pc' := 20) (hb hby at_19) (by decide : (3 : Int32) ≠ (0 : Int32)) (z := ((xlaw_2 &&& (2147483647 : Int32)) % (3 : Int32))) rfl ?_
  refine Ow.istore X0 hx (pc' := 22) (hb hby at_20) (l' := #[.val (.int xlaw_1), .val (.int xlaw_2), .val (.int xlaw_3), .val (.int xlaw_4), .val (.int xlaw_5), .val (.int v4), .val (.int v12), .val (.int ((xlaw_2 &&& (2147483647 : Int32)) % (3 : Int32))), .unset, .unset, .unset, .unset, .unset, .unset, .unset]) rfl ?_
  generalize hv20 : ((xlaw_2 &&& (2147483647 : Int32)) % (3 : Int32)) = v20
  refine Ow.iloadN X0 hx (pc' := 23) (hb hby at_22) rfl ?_
  refine Ow.ldcInt X0 hx hZ (pc' := 25) hown (kw0 hw) (hb hby at_23) ?_
  refine Ow.iand X0 hx (pc' := 26) (hb hby at_25) (z := (xlaw_3 &&& (2147483647 : Int32))) rfl ?_
  refine Ow.iconst X0 hx (pc' := 27) (hb hby at_26) (z := (3 : Int32)) rfl ?_
  refine Ow.irem X0 hx (pc' := 28) (hb hby at_27) (by decide : (3 : Int32) ≠ (0 : Int32)) (z := ((xlaw_3 &&& (2147483647 : Int32)) % (3 : Int32))) rfl ?_
  refine Ow.istore X0 hx (pc' := 30) (hb hby at_28) (l' := #[.val (.int xlaw_1), .val (.int xlaw_2), .val (.int xlaw_3), .val (.int xlaw_4), .val (.int xlaw_5), .val (.int v4), .val (.int v12), .val (.int v20), .val (.int ((xlaw_3 &&& (2147483647 : Int32)) % (3 : Int32))), .unset, .unset, .unset, .unset, .unset, .unset]) rfl ?_
  generalize hv28 : ((xlaw_3 &&& (2147483647 : Int32)) % (3 : Int32)) = v28
  refine Ow.iloadN X0 hx (pc' := 31) (hb hby at_30) rfl ?_
  refine Ow.ldcInt X0 hx hZ (pc' := 33) hown (kw0 hw) (hb hby at_31) ?_
  refine Ow.iand X0 hx (pc' := 34) (hb hby at_33) (z := (xlaw_4 &&& (2147483647 : Int32))) rfl ?_
  refine Ow.iconst X0 hx (pc' := 35) (hb hby at_34) (z := (3 : Int32)) rfl ?_
  refine Ow.irem X0 hx (pc' := 36) (hb hby at_35) (by decide : (3 : Int32) ≠ (0 : Int32)) (z := ((xlaw_4 &&& (2147483647 : Int32)) % (3 : Int32))) rfl ?_
  refine Ow.istore X0 hx (pc' := 38) (hb hby at_36) (l' := #[.val (.int xlaw_1), .val (.int xlaw_2), .val (.int xlaw_3), .val (.int xlaw_4), .val (.int xlaw_5), .val (.int v4), .val (.int v12), .val (.int v20), .val (.int v28), .val (.int ((xlaw_4 &&& (2147483647 : Int32)) % (3 : Int32))), .unset, .unset, .unset, .unset, .unset]) rfl ?_
  generalize hv36 : ((xlaw_4 &&& (2147483647 : Int32)) % (3 : Int32)) = v36
  have A_v12 : own_T3 v12 := by rw [← hv12]; exact own_mod3 _
  have A_v20 : own_T3 v20 := by rw [← hv20]; exact own_mod3 _
  have A_v28 : own_T3 v28 := by rw [← hv28]; exact own_mod3 _
  have A_v36 : own_T3 v36 := by rw [← hv36]; exact own_mod3 _
  obtain ⟨T28, h28, X28, e28, E28, A28, D28, -, st28⟩ := newO X0 hx hZ hown (kw1 hw) (kw2 hw) (kw3 hw) e0 (g := (mkF m 38 #[.val (.int xlaw_1), .val (.int xlaw_2), .val (.int xlaw_3), .val (.int xlaw_4), .val (.int xlaw_5), .val (.int v4), .val (.int v12), .val (.int v20), .val (.int v28), .val (.int v36), .unset, .unset, .unset, .unset, .unset] [])) rfl (hb hby at_38) (by decide) (by decide)
  obtain ⟨o28, gz28⟩ : ∃ z, z = h0.size := ⟨_, rfl⟩
  rw [← gz28] at A28 D28 st28
  have g_o28 : n0 ≤ o28 := Nat.le_trans Z0 (Nat.le_of_eq gz28.symm)
  have sz_o28 : h0.size ≤ o28 := Nat.le_of_eq gz28.symm
  have K28 : Keep h0 h28 [] := (Keep.refl h0 []).ext E28
  have Z28 : n0 ≤ h28.size := Nat.le_trans Z0 E28.1
  refine Wq.step st28 ?_
  have F_o28_noted : Fld Z h28 o28 "com/example/tauten/tauten/ChangeList" "noted" "[I" .null := D28 (Or.inr (kw12 hw)) (ty := (.array .int)) (by decide)
  have F_o28_isNoted : Fld Z h28 o28 "com/example/tauten/tauten/ChangeList" "isNoted" "[Z" .null := D28 (Or.inr (kw15 hw)) (ty := (.array .boolean)) (by decide)
  have F_o28_count : Fld Z h28 o28 "com/example/tauten/tauten/ChangeList" "count" "I" (.int (0 : Int32)) := D28 (Or.inl (kw22 hw)) (ty := .int) (by decide)
  show Wq _ _ _ _ _ (T28.setTop (mkF m 41 #[.val (.int xlaw_1), .val (.int xlaw_2), .val (.int xlaw_3), .val (.int xlaw_4), .val (.int xlaw_5), .val (.int v4), .val (.int v12), .val (.int v20), .val (.int v28), .val (.int v36), .unset, .unset, .unset, .unset, .unset] [(.ref o28)]))
  refine Ow.dup X28 hx (pc' := 42) (hb hby at_41) rfl ?_
  refine Ow.iconst X28 hx (pc' := 43) (hb hby at_42) (z := (3 : Int32)) rfl ?_
  obtain ⟨_, _, ⟨T29, L29, k29, n29⟩, -, X29, ⟨Lc29, hQ29, l29, y29, z29⟩, st29⟩ := X28.specialBack hx (y := mt1) rfl hown (mvT hZ (kw4 hw)) (mvT hZ (kw5 hw)) (mvT hZ (kw6 hw)) (by decide) (backOf (W := 1) (rm_ctor l Z a0 hw [] o28 h28 n0 Z28 A28 F_o28_noted F_o28_isNoted F_o28_count g_o28) hZ (kw6 hw) (kw3 hw) (by decide) (by decide)) (g := (mkF m 43 #[.val (.int xlaw_1), .val (.int xlaw_2), .val (.int xlaw_3), .val (.int xlaw_4), .val (.int xlaw_5), .val (.int v4), .val (.int v12), .val (.int v20), .val (.int v28), .val (.int v36), .unset, .unset, .unset, .unset, .unset] [(.int (3 : Int32)), (.ref o28), (.ref o28)])) rfl (by rw [hml]; rfl) (Steps.refl _) (a := o28) (argsL := [(.int (3 : Int32))]) (rest := [(.ref o28)]) (lenOf pd1 rfl) rfl (by show 2 * 0 + _ ≤ _; exact Nat.le_of_eq rfl) (hb hby at_43) (fun _ _ => ⟨rfl, e28, (by decide : 1 + 2 ≤ _), (by decide : 3 + 6 ≤ _)⟩)
  dsimp only [Pt.U, Pt.locs, Pt.cells, Pt.slots] at X29 l29 y29 z29 st29 hQ29
  subst l29 y29 z29
  obtain ⟨b2_c29, b4_c29, rfl, Nq29, Kq29, szq_b2_c29, szq_b4_c29, ne_b2_c29_b4_c29, P29_0, P29_1, P29_2, P29_3, P29_4, P29_5⟩ := hQ29
  have g_b2_c29 : n0 ≤ b2_c29 := Nat.le_trans Z28 szq_b2_c29
  have sz_b2_c29 : h0.size ≤ b2_c29 := Nat.le_trans K28.1 szq_b2_c29
  have ne_o28_b2_c29 : o28 ≠ b2_c29 := Nat.ne_of_lt (Nat.lt_of_lt_of_le A28.lt szq_b2_c29)
  have g_b4_c29 : n0 ≤ b4_c29 := Nat.le_trans Z28 szq_b4_c29
  have sz_b4_c29 : h0.size ≤ b4_c29 := Nat.le_trans K28.1 szq_b4_c29
  have ne_o28_b4_c29 : o28 ≠ b4_c29 := Nat.ne_of_lt (Nat.lt_of_lt_of_le A28.lt szq_b4_c29)
  have N29 := Fr.app N0 Nq29
  have K29 : Keep h0 T29.heap [] := K28.trans Kq29 (allS (P := fun x => x ∈ [] ∨ h0.size ≤ x) (Or.inr sz_o28) all0)
  have Z29 : n0 ≤ T29.heap.size := Nat.le_trans Z28 Kq29.1
  have A28_t29 := A28.keep Kq29
  have e29 : T29.heap = T29.heap := rfl
  refine Wq.steps st29 ?_
  show Wq _ _ _ _ _ (T29.setTop (mkF m 46 #[.val (.int xlaw_1), .val (.int xlaw_2), .val (.int xlaw_3), .val (.int xlaw_4), .val (.int xlaw_5), .val (.int v4), .val (.int v12), .val (.int v20), .val (.int v28), .val (.int v36), .unset, .unset, .unset, .unset, .unset] [(.ref o28)]))
  refine Ow.astore X29 hx (pc' := 48) (hb hby at_46) rfl (l' := #[.val (.int xlaw_1), .val (.int xlaw_2), .val (.int xlaw_3), .val (.int xlaw_4), .val (.int xlaw_5), .val (.int v4), .val (.int v12), .val (.int v20), .val (.int v28), .val (.int v36), .val (.ref o28), .unset, .unset, .unset, .unset]) rfl ?_
  refine Ow.iconst X29 hx (pc' := 49) (hb hby at_48) (z := (0 : Int32)) rfl ?_
  refine Ow.istore X29 hx (pc' := 51) (hb hby at_49) (l' := #[.val (.int xlaw_1), .val (.int xlaw_2), .val (.int xlaw_3), .val (.int xlaw_4), .val (.int xlaw_5), .val (.int v4), .val (.int v12), .val (.int v20), .val (.int v28), .val (.int v36), .val (.ref o28), .val (.int (0 : Int32)), .unset, .unset, .unset]) rfl ?_
  refine Ow.iload X29 hx (pc' := 53) (hb hby at_51) rfl ?_
  refine Ow.iconst X29 hx (pc' := 54) (hb hby at_53) (z := (1 : Int32)) rfl ?_
  by_cases hc54 : v4 < (1 : Int32)
  · skip
    refine Ow.icmpYes X29 hx (pc' := 73) (hb hby at_54) (tlt hc54).1 (by decide) (by decide) ?_
    refine Ow.iload X29 hx (pc' := 75) (hb hby at_73) rfl ?_
    refine Ow.iconst X29 hx (pc' := 76) (hb hby at_75) (z := (2 : Int32)) rfl ?_
    refine Ow.icmpYes X29 hx (pc' := 95) (hb hby at_76) (tlt (by subst hv4; exact own_lt12 hc54 : v4 < (2 : Int32))).1 (by decide) (by decide) ?_
    refine Ow.iload X29 hx (pc' := 97) (hb hby at_95) rfl ?_
    refine Ow.iconst X29 hx (pc' := 98) (hb hby at_97) (z := (3 : Int32)) rfl ?_
    refine Ow.icmpYes X29 hx (pc' := 117) (hb hby at_98) (tlt (by subst hv4; exact own_lt13 hc54 : v4 < (3 : Int32))).1 (by decide) (by decide) ?_
    refine Ow.iconst X29 hx (pc' := 118) (hb hby at_117) (z := (3 : Int32)) rfl ?_
    obtain ⟨T30, h30, k30, X30, e30, E30, A30, st30⟩ := newP X29 hx hZ (aty := .int) (kw10 hw) e29 (g := (mkF m 118 #[.val (.int xlaw_1), .val (.int xlaw_2), .val (.int xlaw_3), .val (.int xlaw_4), .val (.int xlaw_5), .val (.int v4), .val (.int v12), .val (.int v20), .val (.int v28), .val (.int v36), .val (.ref o28), .val (.int (0 : Int32)), .unset, .unset, .unset] [(.int (3 : Int32))])) rfl (hb hby at_118) rfl (by decide) (cap := 3) (by decide) (by decide) (by decide) (by decide)
    obtain ⟨b30, gz30⟩ : ∃ z, z = T29.heap.size := ⟨_, rfl⟩
    rw [← gz30] at A30 st30
    have g_b30 : n0 ≤ b30 := Nat.le_trans Z29 (Nat.le_of_eq gz30.symm)
    have sz_b30 : h0.size ≤ b30 := Nat.le_trans K29.1 (Nat.le_of_eq gz30.symm)
    have ne_o28_b30 : o28 ≠ b30 := Nat.ne_of_lt (Nat.lt_of_lt_of_le A28_t29.lt (Nat.le_of_eq gz30.symm))
    have ne_b2_c29_b30 : b2_c29 ≠ b30 := Nat.ne_of_lt (Nat.lt_of_lt_of_le P29_2.lt (Nat.le_of_eq gz30.symm))
    have ne_b4_c29_b30 : b4_c29 ≠ b30 := Nat.ne_of_lt (Nat.lt_of_lt_of_le P29_4.lt (Nat.le_of_eq gz30.symm))
    have K30 : Keep h0 h30 [] := K29.ext E30
    have Z30 : n0 ≤ h30.size := Nat.le_trans Z29 E30.1
    have A28_t30 := A28_t29.ext E30
    have P29_1_t30 := P29_1.ext E30
    have P29_2_t30 := P29_2.ext E30
    have P29_3_t30 := P29_3.ext E30
    have P29_4_t30 := P29_4.ext E30
    have P29_5_t30 := P29_5.ext E30
    have V_b30 : Al Z h30 b30 .int [(.int (0 : Int32)), (.int (0 : Int32)), (.int (0 : Int32))] := Al.new A30 (k := 3) (rfl) rfl
    refine Wq.step st30 ?_
    show Wq _ _ _ _ _ (T30.setTop (mkF m 120 #[.val (.int xlaw_1), .val (.int xlaw_2), .val (.int xlaw_3), .val (.int xlaw_4), .val (.int xlaw_5), .val (.int v4), .val (.int v12), .val (.int v20), .val (.int v28), .val (.int v36), .val (.ref o28), .val (.int (0 : Int32)), .unset, .unset, .unset] [(.ref b30)]))
    refine Ow.astore X30 hx (pc' := 122) (hb hby at_120) rfl (l' := #[.val (.int xlaw_1), .val (.int xlaw_2), .val (.int xlaw_3), .val (.int xlaw_4), .val (.int xlaw_5), .val (.int v4), .val (.int v12), .val (.int v20), .val (.int v28), .val (.int v36), .val (.ref o28), .val (.int (0 : Int32)), .val (.ref b30), .unset, .unset]) rfl ?_
    refine Ow.aload X30 hx (pc' := 124) (hb hby at_122) rfl rfl ?_
    refine Ow.iconst X30 hx (pc' := 125) (hb hby at_124) (z := (0 : Int32)) rfl ?_
    refine Ow.iconst X30 hx (pc' := 126) (hb hby at_125) (z := (0 : Int32)) rfl ?_
    obtain ⟨T31, h31, X31, e31, W31, Vr31, st31⟩ := asI X30 hx hZ e30 V_b30 (j := (0 : Int32)) (i := 0) (by decide) rfl (Nat.le_of_ble_eq_true rfl) (g := (mkF m 126 #[.val (.int xlaw_1), .val (.int xlaw_2), .val (.int xlaw_3), .val (.int xlaw_4), .val (.int xlaw_5), .val (.int v4), .val (.int v12), .val (.int v20), .val (.int v28), .val (.int v36), .val (.ref o28), .val (.int (0 : Int32)), .val (.ref b30), .unset, .unset] [(.int (0 : Int32)), (.int (0 : Int32)), (.ref b30)])) rfl rfl (hb hby at_126)
    refine Wq.step st31 ?_
    have N31 := Fr.snoc X31 N29 g_b30
    have K31 : Keep h0 h31 [] := K30.wr W31 (Or.inr sz_b30)
    have Z31 : n0 ≤ h31.size := Nat.le_trans Z30 (Keep.of_wr W31).1
    have A28_t31 := A28_t30.wr W31
    have P29_1_t31 := P29_1_t30.other W31 (Or.inl ne_o28_b30)
    have P29_2_t31 := P29_2_t30.other W31 ne_b2_c29_b30
    have P29_3_t31 := P29_3_t30.other W31 (Or.inl ne_o28_b30)
    have P29_4_t31 := P29_4_t30.other W31 ne_b4_c29_b30
    have P29_5_t31 := P29_5_t30.other W31 (Or.inl ne_o28_b30)
    have V_b30_t31 : Al Z h31 b30 .int [(.int (0 : Int32)), (.int (0 : Int32)), (.int (0 : Int32))] := Vr31
    show Wq _ _ _ _ _ (T31.setTop (mkF m 127 #[.val (.int xlaw_1), .val (.int xlaw_2), .val (.int xlaw_3), .val (.int xlaw_4), .val (.int xlaw_5), .val (.int v4), .val (.int v12), .val (.int v20), .val (.int v28), .val (.int v36), .val (.ref o28), .val (.int (0 : Int32)), .val (.ref b30), .unset, .unset] []))
    refine Ow.aload X31 hx (pc' := 129) (hb hby at_127) rfl rfl ?_
    refine Ow.iconst X31 hx (pc' := 130) (hb hby at_129) (z := (1 : Int32)) rfl ?_
    refine Ow.iconst X31 hx (pc' := 131) (hb hby at_130) (z := (0 : Int32)) rfl ?_
    obtain ⟨T32, h32, X32, e32, W32, Vr32, st32⟩ := asI X31 hx hZ e31 V_b30_t31 (j := (1 : Int32)) (i := 1) (by decide) rfl (Nat.le_of_ble_eq_true rfl) (g := (mkF m 131 #[.val (.int xlaw_1), .val (.int xlaw_2), .val (.int xlaw_3), .val (.int xlaw_4), .val (.int xlaw_5), .val (.int v4), .val (.int v12), .val (.int v20), .val (.int v28), .val (.int v36), .val (.ref o28), .val (.int (0 : Int32)), .val (.ref b30), .unset, .unset] [(.int (0 : Int32)), (.int (1 : Int32)), (.ref b30)])) rfl rfl (hb hby at_131)
    refine Wq.step st32 ?_
    have N32 := Fr.snoc X32 N31 g_b30
    have K32 : Keep h0 h32 [] := K31.wr W32 (Or.inr sz_b30)
    have Z32 : n0 ≤ h32.size := Nat.le_trans Z31 (Keep.of_wr W32).1
    have A28_t32 := A28_t31.wr W32
    have P29_1_t32 := P29_1_t31.other W32 (Or.inl ne_o28_b30)
    have P29_2_t32 := P29_2_t31.other W32 ne_b2_c29_b30
    have P29_3_t32 := P29_3_t31.other W32 (Or.inl ne_o28_b30)
    have P29_4_t32 := P29_4_t31.other W32 ne_b4_c29_b30
    have P29_5_t32 := P29_5_t31.other W32 (Or.inl ne_o28_b30)
    have V_b30_t32 : Al Z h32 b30 .int [(.int (0 : Int32)), (.int (0 : Int32)), (.int (0 : Int32))] := Vr32
    show Wq _ _ _ _ _ (T32.setTop (mkF m 132 #[.val (.int xlaw_1), .val (.int xlaw_2), .val (.int xlaw_3), .val (.int xlaw_4), .val (.int xlaw_5), .val (.int v4), .val (.int v12), .val (.int v20), .val (.int v28), .val (.int v36), .val (.ref o28), .val (.int (0 : Int32)), .val (.ref b30), .unset, .unset] []))
    refine Ow.aload X32 hx (pc' := 134) (hb hby at_132) rfl rfl ?_
    refine Ow.iconst X32 hx (pc' := 135) (hb hby at_134) (z := (2 : Int32)) rfl ?_
    refine Ow.iconst X32 hx (pc' := 136) (hb hby at_135) (z := (1 : Int32)) rfl ?_
    obtain ⟨T33, h33, X33, e33, W33, Vr33, st33⟩ := asI X32 hx hZ e32 V_b30_t32 (j := (2 : Int32)) (i := 2) (by decide) rfl (Nat.le_of_ble_eq_true rfl) (g := (mkF m 136 #[.val (.int xlaw_1), .val (.int xlaw_2), .val (.int xlaw_3), .val (.int xlaw_4), .val (.int xlaw_5), .val (.int v4), .val (.int v12), .val (.int v20), .val (.int v28), .val (.int v36), .val (.ref o28), .val (.int (0 : Int32)), .val (.ref b30), .unset, .unset] [(.int (1 : Int32)), (.int (2 : Int32)), (.ref b30)])) rfl rfl (hb hby at_136)
    refine Wq.step st33 ?_
    have N33 := Fr.snoc X33 N32 g_b30
    have K33 : Keep h0 h33 [] := K32.wr W33 (Or.inr sz_b30)
    have Z33 : n0 ≤ h33.size := Nat.le_trans Z32 (Keep.of_wr W33).1
    have A28_t33 := A28_t32.wr W33
    have P29_1_t33 := P29_1_t32.other W33 (Or.inl ne_o28_b30)
    have P29_2_t33 := P29_2_t32.other W33 ne_b2_c29_b30
    have P29_3_t33 := P29_3_t32.other W33 (Or.inl ne_o28_b30)
    have P29_4_t33 := P29_4_t32.other W33 ne_b4_c29_b30
    have P29_5_t33 := P29_5_t32.other W33 (Or.inl ne_o28_b30)
    have V_b30_t33 : Al Z h33 b30 .int [(.int (0 : Int32)), (.int (0 : Int32)), (.int (1 : Int32))] := Vr33
    show Wq _ _ _ _ _ (T33.setTop (mkF m 137 #[.val (.int xlaw_1), .val (.int xlaw_2), .val (.int xlaw_3), .val (.int xlaw_4), .val (.int xlaw_5), .val (.int v4), .val (.int v12), .val (.int v20), .val (.int v28), .val (.int v36), .val (.ref o28), .val (.int (0 : Int32)), .val (.ref b30), .unset, .unset] []))
    refine Ow.aload X33 hx (pc' := 139) (hb hby at_137) rfl rfl ?_
    obtain ⟨cq34, kq34, q34a, q34b, q34c⟩ := isOf hZ e33 A28_t33
    obtain ⟨_, _, ⟨T34, L34, k34, n34⟩, -, X34, ⟨Lc34, hQ34, l34, y34, z34⟩, st34⟩ := X33.virtualBack hx (y := mt4) (z := mt4) hown (mvT hZ (kw16 hw)) (mvT hZ (kw17 hw)) (notFace_of_selects (args := #[]) (mvT hZ (kw19 hw))) (mvT hZ (kw19 hw)) (mvT hZ (kw18 hw)) (by decide) (backOf (W := 0) (rm_nextC l Z a0 hw [] o28 b2_c29 b4_c29 (0 : Int32) [(.int (0 : Int32)), (.int (0 : Int32)), (.int (0 : Int32))] [(.int (0 : Int32)), (.int (0 : Int32)), (.int (0 : Int32))] h33 n0 Z33 A28_t33 P29_3_t33 P29_5_t33 P29_1_t33 P29_2_t33 P29_4_t33 g_o28 g_b2_c29 g_b4_c29 ne_o28_b2_c29 ne_o28_b4_c29 ne_b2_c29_b4_c29 (own_en35  )) hZ (kw20 hw) (kw3 hw) (by decide) (by decide)) q34a q34c (g := (mkF m 139 #[.val (.int xlaw_1), .val (.int xlaw_2), .val (.int xlaw_3), .val (.int xlaw_4), .val (.int xlaw_5), .val (.int v4), .val (.int v12), .val (.int v20), .val (.int v28), .val (.int v36), .val (.ref o28), .val (.int (0 : Int32)), .val (.ref b30), .unset, .unset] [(.ref o28)])) rfl (by rw [hml]; rfl) (Steps.refl _) (argsL := []) (rest := []) (lenOf pd2 rfl) rfl (by show 2 * 0 + _ ≤ _; exact Nat.le_of_eq rfl) (hb hby at_139) (fun _ _ => ⟨rfl, e33, (by decide : 4 + 0 ≤ _), (by decide : 12 + 0 ≤ _)⟩)
    dsimp only [Pt.U, Pt.locs, Pt.cells, Pt.slots] at X34 l34 y34 z34 st34 hQ34
    subst l34 y34 z34
    obtain ⟨rfl, Nq34, Kq34, P34_0, P34_1, P34_2, P34_3, P34_4⟩ := hQ34
    have N34 := Fr.app N33 Nq34
    have K34 : Keep h0 T34.heap [] := K33.trans Kq34 (allS (P := fun x => x ∈ [] ∨ h0.size ≤ x) (Or.inr sz_o28) (allS (P := fun x => x ∈ [] ∨ h0.size ≤ x) (Or.inr sz_b4_c29) all0))
    have Z34 : n0 ≤ T34.heap.size := Nat.le_trans Z33 Kq34.1
    have A28_t34 := A28_t33.keep Kq34
    have P29_2_t34 := P29_2_t33.keep Kq34 (ninS (Ne.symm ne_o28_b2_c29) (ninS ne_b2_c29_b4_c29 nin0))
    have V_b30_t34 := V_b30_t33.keep Kq34 (ninS (Ne.symm ne_o28_b30) (ninS (Ne.symm ne_b4_c29_b30) nin0))
    have e34 : T34.heap = T34.heap := rfl
    obtain ⟨q36, hq36⟩ : ∃ z : Int32, z = (own_xC (0 : Int32)) := ⟨_, rfl⟩
    rw [← hq36] at P34_2
    obtain ⟨q37, hq37⟩ : ∃ z : List Value, z = [(.int (0 : Int32)), (.int (0 : Int32)), (.int (0 : Int32))] := ⟨_, rfl⟩
    rw [← hq37] at P34_3
    obtain ⟨q38, hq38⟩ : ∃ z : List Value, z = (own_xB [(.int (0 : Int32)), (.int (0 : Int32)), (.int (0 : Int32))] [(.int (0 : Int32)), (.int (0 : Int32)), (.int (0 : Int32))] (0 : Int32)) := ⟨_, rfl⟩
    rw [← hq38] at P34_4
    refine Wq.steps st34 ?_
    show Wq _ _ _ _ _ (T34.setTop (mkF m 142 #[.val (.int xlaw_1), .val (.int xlaw_2), .val (.int xlaw_3), .val (.int xlaw_4), .val (.int xlaw_5), .val (.int v4), .val (.int v12), .val (.int v20), .val (.int v28), .val (.int v36), .val (.ref o28), .val (.int (0 : Int32)), .val (.ref b30), .unset, .unset] [(.int (own_xR [(.int (0 : Int32)), (.int (0 : Int32)), (.int (0 : Int32))] (0 : Int32)))]))
    generalize hv139 : (own_xR [(.int (0 : Int32)), (.int (0 : Int32)), (.int (0 : Int32))] (0 : Int32)) = v139
    show Wq _ _ _ _ _ (T34.setTop (mkF m 142 #[.val (.int xlaw_1), .val (.int xlaw_2), .val (.int xlaw_3), .val (.int xlaw_4), .val (.int xlaw_5), .val (.int v4), .val (.int v12), .val (.int v20), .val (.int v28), .val (.int v36), .val (.ref o28), .val (.int (0 : Int32)), .val (.ref b30), .unset, .unset] [(.int v139)]))
    refine Ow.aload X34 hx (pc' := 144) (hb hby at_142) rfl rfl ?_
    obtain ⟨_, _, ⟨T39, L39, k39, n39⟩, -, X39, ⟨Lc39, hQ39, l39, y39, z39⟩, st39⟩ := Jvm.LawKit.callS X34 hx (y := mt2) hown (mvT hZ (kw23 hw)) (mvT hZ (kw24 hw)) (mvT hZ (kw25 hw)) (mvT hZ (kw26 hw)) (by decide) (backOf (W := 0) (rm_take l Z a0 hw [] v139 b30 (0 : Int32) (0 : Int32) (1 : Int32) T34.heap n0 Z34 V_b30_t34 g_b30) hZ (kw26 hw) (kw25 hw) (by decide) (by decide)) (g := (mkF m 144 #[.val (.int xlaw_1), .val (.int xlaw_2), .val (.int xlaw_3), .val (.int xlaw_4), .val (.int xlaw_5), .val (.int v4), .val (.int v12), .val (.int v20), .val (.int v28), .val (.int v36), .val (.ref o28), .val (.int (0 : Int32)), .val (.ref b30), .unset, .unset] [(.ref b30), (.int v139)])) rfl (by rw [hml]; rfl) (argsL := [(.int v139), (.ref b30)]) (rest := []) (lenOf pd3 rfl) rfl (by show 2 * 0 + _ ≤ _; exact Nat.le_of_eq rfl) (hb hby at_144) (fun _ _ => ⟨rfl, e34, (by decide : 4 + 0 ≤ _), (by decide : 12 + 0 ≤ _)⟩)
    dsimp only [Pt.U, Pt.locs, Pt.cells, Pt.slots] at X39 l39 y39 z39 st39 hQ39
    subst l39 y39 z39
    obtain ⟨rfl, Nq39, Kq39, P39_0⟩ := hQ39
    have N39 := Fr.app N34 Nq39
    have K39 : Keep h0 T39.heap [] := K34.trans Kq39 (allS (P := fun x => x ∈ [] ∨ h0.size ≤ x) (Or.inr sz_b30) all0)
    have Z39 : n0 ≤ T39.heap.size := Nat.le_trans Z34 Kq39.1
    have A28_t39 := A28_t34.keep Kq39
    have P34_3_t39 := P34_3.keep Kq39 (ninS ne_b2_c29_b30 nin0)
    have P34_0_t39 := P34_0.keep Kq39 (ninS ne_o28_b30 nin0)
    have P34_1_t39 := P34_1.keep Kq39 (ninS ne_o28_b30 nin0)
    have P34_2_t39 := P34_2.keep Kq39 (ninS ne_o28_b30 nin0)
    have P34_4_t39 := P34_4.keep Kq39 (ninS ne_b4_c29_b30 nin0)
    have e39 : T39.heap = T39.heap := rfl
    obtain ⟨q40, hq40⟩ : ∃ z : Int32, z = (f_take_p0 v139 (0 : Int32) (0 : Int32) (1 : Int32)) := ⟨_, rfl⟩
    rw [← hq40] at P39_0
    obtain ⟨q41, hq41⟩ : ∃ z : Int32, z = (f_take_p1 v139 (0 : Int32) (0 : Int32) (1 : Int32)) := ⟨_, rfl⟩
    rw [← hq41] at P39_0
    obtain ⟨q42, hq42⟩ : ∃ z : Int32, z = (f_take_p2 v139 (0 : Int32) (0 : Int32) (1 : Int32)) := ⟨_, rfl⟩
    rw [← hq42] at P39_0
    refine Wq.step st39 ?_
    show Wq _ _ _ _ _ (T39.setTop (mkF m 147 #[.val (.int xlaw_1), .val (.int xlaw_2), .val (.int xlaw_3), .val (.int xlaw_4), .val (.int xlaw_5), .val (.int v4), .val (.int v12), .val (.int v20), .val (.int v28), .val (.int v36), .val (.ref o28), .val (.int (0 : Int32)), .val (.ref b30), .unset, .unset] []))
    refine Ow.aload X39 hx (pc' := 149) (hb hby at_147) rfl rfl ?_
    obtain ⟨cq43, kq43, q43a, q43b, q43c⟩ := isOf hZ e39 A28_t39
    obtain ⟨_, _, ⟨T43, L43, k43, n43⟩, -, X43, ⟨Lc43, hQ43, l43, y43, z43⟩, st43⟩ := X39.virtualBack hx (y := mt4) (z := mt4) hown (mvT hZ (kw16 hw)) (mvT hZ (kw17 hw)) (notFace_of_selects (args := #[]) (mvT hZ (kw19 hw))) (mvT hZ (kw19 hw)) (mvT hZ (kw18 hw)) (by decide) (backOf (W := 0) (rm_nextC l Z a0 hw [] o28 b2_c29 b4_c29 q36 q37 q38 T39.heap n0 Z39 A28_t39 P34_0_t39 P34_1_t39 P34_2_t39 P34_3_t39 P34_4_t39 g_o28 g_b2_c29 g_b4_c29 ne_o28_b2_c29 ne_o28_b4_c29 ne_b2_c29_b4_c29 (own_en44  hq36 hq37 hq38)) hZ (kw20 hw) (kw3 hw) (by decide) (by decide)) q43a q43c (g := (mkF m 149 #[.val (.int xlaw_1), .val (.int xlaw_2), .val (.int xlaw_3), .val (.int xlaw_4), .val (.int xlaw_5), .val (.int v4), .val (.int v12), .val (.int v20), .val (.int v28), .val (.int v36), .val (.ref o28), .val (.int (0 : Int32)), .val (.ref b30), .unset, .unset] [(.ref o28)])) rfl (by rw [hml]; rfl) (Steps.refl _) (argsL := []) (rest := []) (lenOf pd2 rfl) rfl (by show 2 * 0 + _ ≤ _; exact Nat.le_of_eq rfl) (hb hby at_149) (fun _ _ => ⟨rfl, e39, (by decide : 4 + 0 ≤ _), (by decide : 12 + 0 ≤ _)⟩)
    dsimp only [Pt.U, Pt.locs, Pt.cells, Pt.slots] at X43 l43 y43 z43 st43 hQ43
    subst l43 y43 z43
    obtain ⟨rfl, Nq43, Kq43, P43_0, P43_1, P43_2, P43_3, P43_4⟩ := hQ43
    have N43 := Fr.app N39 Nq43
    have K43 : Keep h0 T43.heap [] := K39.trans Kq43 (allS (P := fun x => x ∈ [] ∨ h0.size ≤ x) (Or.inr sz_o28) (allS (P := fun x => x ∈ [] ∨ h0.size ≤ x) (Or.inr sz_b4_c29) all0))
    have Z43 : n0 ≤ T43.heap.size := Nat.le_trans Z39 Kq43.1
    have A28_t43 := A28_t39.keep Kq43
    have P34_3_t43 := P34_3_t39.keep Kq43 (ninS (Ne.symm ne_o28_b2_c29) (ninS ne_b2_c29_b4_c29 nin0))
    have P39_0_t43 := P39_0.keep Kq43 (ninS (Ne.symm ne_o28_b30) (ninS (Ne.symm ne_b4_c29_b30) nin0))
    have e43 : T43.heap = T43.heap := rfl
    obtain ⟨q45, hq45⟩ : ∃ z : Int32, z = (own_xC q36) := ⟨_, rfl⟩
    rw [← hq45] at P43_2
    obtain ⟨q46, hq46⟩ : ∃ z : List Value, z = (own_xB q37 q38 q36) := ⟨_, rfl⟩
    rw [← hq46] at P43_4
    refine Wq.steps st43 ?_
    show Wq _ _ _ _ _ (T43.setTop (mkF m 152 #[.val (.int xlaw_1), .val (.int xlaw_2), .val (.int xlaw_3), .val (.int xlaw_4), .val (.int xlaw_5), .val (.int v4), .val (.int v12), .val (.int v20), .val (.int v28), .val (.int v36), .val (.ref o28), .val (.int (0 : Int32)), .val (.ref b30), .unset, .unset] [(.int (own_xR q37 q36))]))
    generalize hv149 : (own_xR q37 q36) = v149
    show Wq _ _ _ _ _ (T43.setTop (mkF m 152 #[.val (.int xlaw_1), .val (.int xlaw_2), .val (.int xlaw_3), .val (.int xlaw_4), .val (.int xlaw_5), .val (.int v4), .val (.int v12), .val (.int v20), .val (.int v28), .val (.int v36), .val (.ref o28), .val (.int (0 : Int32)), .val (.ref b30), .unset, .unset] [(.int v149)]))
    refine Ow.aload X43 hx (pc' := 154) (hb hby at_152) rfl rfl ?_
    obtain ⟨_, _, ⟨T47, L47, k47, n47⟩, -, X47, ⟨Lc47, hQ47, l47, y47, z47⟩, st47⟩ := Jvm.LawKit.callS X43 hx (y := mt2) hown (mvT hZ (kw23 hw)) (mvT hZ (kw24 hw)) (mvT hZ (kw25 hw)) (mvT hZ (kw26 hw)) (by decide) (backOf (W := 0) (rm_take l Z a0 hw [] v149 b30 q40 q41 q42 T43.heap n0 Z43 P39_0_t43 g_b30) hZ (kw26 hw) (kw25 hw) (by decide) (by decide)) (g := (mkF m 154 #[.val (.int xlaw_1), .val (.int xlaw_2), .val (.int xlaw_3), .val (.int xlaw_4), .val (.int xlaw_5), .val (.int v4), .val (.int v12), .val (.int v20), .val (.int v28), .val (.int v36), .val (.ref o28), .val (.int (0 : Int32)), .val (.ref b30), .unset, .unset] [(.ref b30), (.int v149)])) rfl (by rw [hml]; rfl) (argsL := [(.int v149), (.ref b30)]) (rest := []) (lenOf pd3 rfl) rfl (by show 2 * 0 + _ ≤ _; exact Nat.le_of_eq rfl) (hb hby at_154) (fun _ _ => ⟨rfl, e43, (by decide : 4 + 0 ≤ _), (by decide : 12 + 0 ≤ _)⟩)
    dsimp only [Pt.U, Pt.locs, Pt.cells, Pt.slots] at X47 l47 y47 z47 st47 hQ47
    subst l47 y47 z47
    obtain ⟨rfl, Nq47, Kq47, P47_0⟩ := hQ47
    have N47 := Fr.app N43 Nq47
    have K47 : Keep h0 T47.heap [] := K43.trans Kq47 (allS (P := fun x => x ∈ [] ∨ h0.size ≤ x) (Or.inr sz_b30) all0)
    have Z47 : n0 ≤ T47.heap.size := Nat.le_trans Z43 Kq47.1
    have A28_t47 := A28_t43.keep Kq47
    have P43_3_t47 := P43_3.keep Kq47 (ninS ne_b2_c29_b30 nin0)
    have P43_0_t47 := P43_0.keep Kq47 (ninS ne_o28_b30 nin0)
    have P43_1_t47 := P43_1.keep Kq47 (ninS ne_o28_b30 nin0)
    have P43_2_t47 := P43_2.keep Kq47 (ninS ne_o28_b30 nin0)
    have P43_4_t47 := P43_4.keep Kq47 (ninS ne_b4_c29_b30 nin0)
    have e47 : T47.heap = T47.heap := rfl
    obtain ⟨q48, hq48⟩ : ∃ z : Int32, z = (f_take_p0 v149 q40 q41 q42) := ⟨_, rfl⟩
    rw [← hq48] at P47_0
    obtain ⟨q49, hq49⟩ : ∃ z : Int32, z = (f_take_p1 v149 q40 q41 q42) := ⟨_, rfl⟩
    rw [← hq49] at P47_0
    obtain ⟨q50, hq50⟩ : ∃ z : Int32, z = (f_take_p2 v149 q40 q41 q42) := ⟨_, rfl⟩
    rw [← hq50] at P47_0
    refine Wq.step st47 ?_
    show Wq _ _ _ _ _ (T47.setTop (mkF m 157 #[.val (.int xlaw_1), .val (.int xlaw_2), .val (.int xlaw_3), .val (.int xlaw_4), .val (.int xlaw_5), .val (.int v4), .val (.int v12), .val (.int v20), .val (.int v28), .val (.int v36), .val (.ref o28), .val (.int (0 : Int32)), .val (.ref b30), .unset, .unset] []))
    refine Ow.aload X47 hx (pc' := 159) (hb hby at_157) rfl rfl ?_
    obtain ⟨cq51, kq51, q51a, q51b, q51c⟩ := isOf hZ e47 A28_t47
    obtain ⟨_, _, ⟨T51, L51, k51, n51⟩, -, X51, ⟨Lc51, hQ51, l51, y51, z51⟩, st51⟩ := X47.virtualBack hx (y := mt4) (z := mt4) hown (mvT hZ (kw16 hw)) (mvT hZ (kw17 hw)) (notFace_of_selects (args := #[]) (mvT hZ (kw19 hw))) (mvT hZ (kw19 hw)) (mvT hZ (kw18 hw)) (by decide) (backOf (W := 0) (rm_nextC l Z a0 hw [] o28 b2_c29 b4_c29 q45 q37 q46 T47.heap n0 Z47 A28_t47 P43_0_t47 P43_1_t47 P43_2_t47 P43_3_t47 P43_4_t47 g_o28 g_b2_c29 g_b4_c29 ne_o28_b2_c29 ne_o28_b4_c29 ne_b2_c29_b4_c29 (own_en52  hq36 hq37 hq38 hq45 hq46)) hZ (kw20 hw) (kw3 hw) (by decide) (by decide)) q51a q51c (g := (mkF m 159 #[.val (.int xlaw_1), .val (.int xlaw_2), .val (.int xlaw_3), .val (.int xlaw_4), .val (.int xlaw_5), .val (.int v4), .val (.int v12), .val (.int v20), .val (.int v28), .val (.int v36), .val (.ref o28), .val (.int (0 : Int32)), .val (.ref b30), .unset, .unset] [(.ref o28)])) rfl (by rw [hml]; rfl) (Steps.refl _) (argsL := []) (rest := []) (lenOf pd2 rfl) rfl (by show 2 * 0 + _ ≤ _; exact Nat.le_of_eq rfl) (hb hby at_159) (fun _ _ => ⟨rfl, e47, (by decide : 4 + 0 ≤ _), (by decide : 12 + 0 ≤ _)⟩)
    dsimp only [Pt.U, Pt.locs, Pt.cells, Pt.slots] at X51 l51 y51 z51 st51 hQ51
    subst l51 y51 z51
    obtain ⟨rfl, Nq51, Kq51, P51_0, P51_1, P51_2, P51_3, P51_4⟩ := hQ51
    have N51 := Fr.app N47 Nq51
    have K51 : Keep h0 T51.heap [] := K47.trans Kq51 (allS (P := fun x => x ∈ [] ∨ h0.size ≤ x) (Or.inr sz_o28) (allS (P := fun x => x ∈ [] ∨ h0.size ≤ x) (Or.inr sz_b4_c29) all0))
    have Z51 : n0 ≤ T51.heap.size := Nat.le_trans Z47 Kq51.1
    have A28_t51 := A28_t47.keep Kq51
    have P43_3_t51 := P43_3_t47.keep Kq51 (ninS (Ne.symm ne_o28_b2_c29) (ninS ne_b2_c29_b4_c29 nin0))
    have P47_0_t51 := P47_0.keep Kq51 (ninS (Ne.symm ne_o28_b30) (ninS (Ne.symm ne_b4_c29_b30) nin0))
    have e51 : T51.heap = T51.heap := rfl
    obtain ⟨q53, hq53⟩ : ∃ z : Int32, z = (own_xC q45) := ⟨_, rfl⟩
    rw [← hq53] at P51_2
    obtain ⟨q54, hq54⟩ : ∃ z : List Value, z = (own_xB q37 q46 q45) := ⟨_, rfl⟩
    rw [← hq54] at P51_4
    refine Wq.steps st51 ?_
    show Wq _ _ _ _ _ (T51.setTop (mkF m 162 #[.val (.int xlaw_1), .val (.int xlaw_2), .val (.int xlaw_3), .val (.int xlaw_4), .val (.int xlaw_5), .val (.int v4), .val (.int v12), .val (.int v20), .val (.int v28), .val (.int v36), .val (.ref o28), .val (.int (0 : Int32)), .val (.ref b30), .unset, .unset] [(.int (own_xR q37 q45))]))
    generalize hv159 : (own_xR q37 q45) = v159
    show Wq _ _ _ _ _ (T51.setTop (mkF m 162 #[.val (.int xlaw_1), .val (.int xlaw_2), .val (.int xlaw_3), .val (.int xlaw_4), .val (.int xlaw_5), .val (.int v4), .val (.int v12), .val (.int v20), .val (.int v28), .val (.int v36), .val (.ref o28), .val (.int (0 : Int32)), .val (.ref b30), .unset, .unset] [(.int v159)]))
    refine Ow.aload X51 hx (pc' := 164) (hb hby at_162) rfl rfl ?_
    obtain ⟨_, _, ⟨T55, L55, k55, n55⟩, -, X55, ⟨Lc55, hQ55, l55, y55, z55⟩, st55⟩ := Jvm.LawKit.callS X51 hx (y := mt2) hown (mvT hZ (kw23 hw)) (mvT hZ (kw24 hw)) (mvT hZ (kw25 hw)) (mvT hZ (kw26 hw)) (by decide) (backOf (W := 0) (rm_take l Z a0 hw [] v159 b30 q48 q49 q50 T51.heap n0 Z51 P47_0_t51 g_b30) hZ (kw26 hw) (kw25 hw) (by decide) (by decide)) (g := (mkF m 164 #[.val (.int xlaw_1), .val (.int xlaw_2), .val (.int xlaw_3), .val (.int xlaw_4), .val (.int xlaw_5), .val (.int v4), .val (.int v12), .val (.int v20), .val (.int v28), .val (.int v36), .val (.ref o28), .val (.int (0 : Int32)), .val (.ref b30), .unset, .unset] [(.ref b30), (.int v159)])) rfl (by rw [hml]; rfl) (argsL := [(.int v159), (.ref b30)]) (rest := []) (lenOf pd3 rfl) rfl (by show 2 * 0 + _ ≤ _; exact Nat.le_of_eq rfl) (hb hby at_164) (fun _ _ => ⟨rfl, e51, (by decide : 4 + 0 ≤ _), (by decide : 12 + 0 ≤ _)⟩)
    dsimp only [Pt.U, Pt.locs, Pt.cells, Pt.slots] at X55 l55 y55 z55 st55 hQ55
    subst l55 y55 z55
    obtain ⟨rfl, Nq55, Kq55, P55_0⟩ := hQ55
    have N55 := Fr.app N51 Nq55
    have K55 : Keep h0 T55.heap [] := K51.trans Kq55 (allS (P := fun x => x ∈ [] ∨ h0.size ≤ x) (Or.inr sz_b30) all0)
    have Z55 : n0 ≤ T55.heap.size := Nat.le_trans Z51 Kq55.1
    have A28_t55 := A28_t51.keep Kq55
    have P51_3_t55 := P51_3.keep Kq55 (ninS ne_b2_c29_b30 nin0)
    have P51_0_t55 := P51_0.keep Kq55 (ninS ne_o28_b30 nin0)
    have P51_1_t55 := P51_1.keep Kq55 (ninS ne_o28_b30 nin0)
    have P51_2_t55 := P51_2.keep Kq55 (ninS ne_o28_b30 nin0)
    have P51_4_t55 := P51_4.keep Kq55 (ninS ne_b4_c29_b30 nin0)
    have e55 : T55.heap = T55.heap := rfl
    obtain ⟨q56, hq56⟩ : ∃ z : Int32, z = (f_take_p0 v159 q48 q49 q50) := ⟨_, rfl⟩
    rw [← hq56] at P55_0
    obtain ⟨q57, hq57⟩ : ∃ z : Int32, z = (f_take_p1 v159 q48 q49 q50) := ⟨_, rfl⟩
    rw [← hq57] at P55_0
    obtain ⟨q58, hq58⟩ : ∃ z : Int32, z = (f_take_p2 v159 q48 q49 q50) := ⟨_, rfl⟩
    rw [← hq58] at P55_0
    refine Wq.step st55 ?_
    show Wq _ _ _ _ _ (T55.setTop (mkF m 167 #[.val (.int xlaw_1), .val (.int xlaw_2), .val (.int xlaw_3), .val (.int xlaw_4), .val (.int xlaw_5), .val (.int v4), .val (.int v12), .val (.int v20), .val (.int v28), .val (.int v36), .val (.ref o28), .val (.int (0 : Int32)), .val (.ref b30), .unset, .unset] []))
    refine Ow.aload X55 hx (pc' := 169) (hb hby at_167) rfl rfl ?_
    obtain ⟨cq59, kq59, q59a, q59b, q59c⟩ := isOf hZ e55 A28_t55
    obtain ⟨_, _, ⟨T59, L59, k59, n59⟩, -, X59, ⟨Lc59, hQ59, l59, y59, z59⟩, st59⟩ := X55.virtualBack hx (y := mt4) (z := mt4) hown (mvT hZ (kw16 hw)) (mvT hZ (kw17 hw)) (notFace_of_selects (args := #[]) (mvT hZ (kw19 hw))) (mvT hZ (kw19 hw)) (mvT hZ (kw18 hw)) (by decide) (backOf (W := 0) (rm_nextC l Z a0 hw [] o28 b2_c29 b4_c29 q53 q37 q54 T55.heap n0 Z55 A28_t55 P51_0_t55 P51_1_t55 P51_2_t55 P51_3_t55 P51_4_t55 g_o28 g_b2_c29 g_b4_c29 ne_o28_b2_c29 ne_o28_b4_c29 ne_b2_c29_b4_c29 (own_en60  hq36 hq37 hq38 hq45 hq46 hq53 hq54)) hZ (kw20 hw) (kw3 hw) (by decide) (by decide)) q59a q59c (g := (mkF m 169 #[.val (.int xlaw_1), .val (.int xlaw_2), .val (.int xlaw_3), .val (.int xlaw_4), .val (.int xlaw_5), .val (.int v4), .val (.int v12), .val (.int v20), .val (.int v28), .val (.int v36), .val (.ref o28), .val (.int (0 : Int32)), .val (.ref b30), .unset, .unset] [(.ref o28)])) rfl (by rw [hml]; rfl) (Steps.refl _) (argsL := []) (rest := []) (lenOf pd2 rfl) rfl (by show 2 * 0 + _ ≤ _; exact Nat.le_of_eq rfl) (hb hby at_169) (fun _ _ => ⟨rfl, e55, (by decide : 4 + 0 ≤ _), (by decide : 12 + 0 ≤ _)⟩)
    dsimp only [Pt.U, Pt.locs, Pt.cells, Pt.slots] at X59 l59 y59 z59 st59 hQ59
    subst l59 y59 z59
    obtain ⟨rfl, Nq59, Kq59, P59_0, P59_1, P59_2, P59_3, P59_4⟩ := hQ59
    have N59 := Fr.app N55 Nq59
    have K59 : Keep h0 T59.heap [] := K55.trans Kq59 (allS (P := fun x => x ∈ [] ∨ h0.size ≤ x) (Or.inr sz_o28) (allS (P := fun x => x ∈ [] ∨ h0.size ≤ x) (Or.inr sz_b4_c29) all0))
    have Z59 : n0 ≤ T59.heap.size := Nat.le_trans Z55 Kq59.1
    have A28_t59 := A28_t55.keep Kq59
    have P51_3_t59 := P51_3_t55.keep Kq59 (ninS (Ne.symm ne_o28_b2_c29) (ninS ne_b2_c29_b4_c29 nin0))
    have P55_0_t59 := P55_0.keep Kq59 (ninS (Ne.symm ne_o28_b30) (ninS (Ne.symm ne_b4_c29_b30) nin0))
    have e59 : T59.heap = T59.heap := rfl
    obtain ⟨q61, hq61⟩ : ∃ z : Int32, z = (own_xC q53) := ⟨_, rfl⟩
    rw [← hq61] at P59_2
    obtain ⟨q62, hq62⟩ : ∃ z : List Value, z = (own_xB q37 q54 q53) := ⟨_, rfl⟩
    rw [← hq62] at P59_4
    refine Wq.steps st59 ?_
    show Wq _ _ _ _ _ (T59.setTop (mkF m 172 #[.val (.int xlaw_1), .val (.int xlaw_2), .val (.int xlaw_3), .val (.int xlaw_4), .val (.int xlaw_5), .val (.int v4), .val (.int v12), .val (.int v20), .val (.int v28), .val (.int v36), .val (.ref o28), .val (.int (0 : Int32)), .val (.ref b30), .unset, .unset] [(.int (own_xR q37 q53))]))
    generalize hv169 : (own_xR q37 q53) = v169
    show Wq _ _ _ _ _ (T59.setTop (mkF m 172 #[.val (.int xlaw_1), .val (.int xlaw_2), .val (.int xlaw_3), .val (.int xlaw_4), .val (.int xlaw_5), .val (.int v4), .val (.int v12), .val (.int v20), .val (.int v28), .val (.int v36), .val (.ref o28), .val (.int (0 : Int32)), .val (.ref b30), .unset, .unset] [(.int v169)]))
    refine Ow.aload X59 hx (pc' := 174) (hb hby at_172) rfl rfl ?_
    obtain ⟨_, _, ⟨T63, L63, k63, n63⟩, -, X63, ⟨Lc63, hQ63, l63, y63, z63⟩, st63⟩ := Jvm.LawKit.callS X59 hx (y := mt2) hown (mvT hZ (kw23 hw)) (mvT hZ (kw24 hw)) (mvT hZ (kw25 hw)) (mvT hZ (kw26 hw)) (by decide) (backOf (W := 0) (rm_take l Z a0 hw [] v169 b30 q56 q57 q58 T59.heap n0 Z59 P55_0_t59 g_b30) hZ (kw26 hw) (kw25 hw) (by decide) (by decide)) (g := (mkF m 174 #[.val (.int xlaw_1), .val (.int xlaw_2), .val (.int xlaw_3), .val (.int xlaw_4), .val (.int xlaw_5), .val (.int v4), .val (.int v12), .val (.int v20), .val (.int v28), .val (.int v36), .val (.ref o28), .val (.int (0 : Int32)), .val (.ref b30), .unset, .unset] [(.ref b30), (.int v169)])) rfl (by rw [hml]; rfl) (argsL := [(.int v169), (.ref b30)]) (rest := []) (lenOf pd3 rfl) rfl (by show 2 * 0 + _ ≤ _; exact Nat.le_of_eq rfl) (hb hby at_174) (fun _ _ => ⟨rfl, e59, (by decide : 4 + 0 ≤ _), (by decide : 12 + 0 ≤ _)⟩)
    dsimp only [Pt.U, Pt.locs, Pt.cells, Pt.slots] at X63 l63 y63 z63 st63 hQ63
    subst l63 y63 z63
    obtain ⟨rfl, Nq63, Kq63, P63_0⟩ := hQ63
    have N63 := Fr.app N59 Nq63
    have K63 : Keep h0 T63.heap [] := K59.trans Kq63 (allS (P := fun x => x ∈ [] ∨ h0.size ≤ x) (Or.inr sz_b30) all0)
    have Z63 : n0 ≤ T63.heap.size := Nat.le_trans Z59 Kq63.1
    have A28_t63 := A28_t59.keep Kq63
    have P59_3_t63 := P59_3.keep Kq63 (ninS ne_b2_c29_b30 nin0)
    have P59_0_t63 := P59_0.keep Kq63 (ninS ne_o28_b30 nin0)
    have P59_1_t63 := P59_1.keep Kq63 (ninS ne_o28_b30 nin0)
    have P59_2_t63 := P59_2.keep Kq63 (ninS ne_o28_b30 nin0)
    have P59_4_t63 := P59_4.keep Kq63 (ninS ne_b4_c29_b30 nin0)
    have e63 : T63.heap = T63.heap := rfl
    obtain ⟨q64, hq64⟩ : ∃ z : Int32, z = (f_take_p0 v169 q56 q57 q58) := ⟨_, rfl⟩
    rw [← hq64] at P63_0
    obtain ⟨q65, hq65⟩ : ∃ z : Int32, z = (f_take_p1 v169 q56 q57 q58) := ⟨_, rfl⟩
    rw [← hq65] at P63_0
    obtain ⟨q66, hq66⟩ : ∃ z : Int32, z = (f_take_p2 v169 q56 q57 q58) := ⟨_, rfl⟩
    rw [← hq66] at P63_0
    refine Wq.step st63 ?_
    show Wq _ _ _ _ _ (T63.setTop (mkF m 177 #[.val (.int xlaw_1), .val (.int xlaw_2), .val (.int xlaw_3), .val (.int xlaw_4), .val (.int xlaw_5), .val (.int v4), .val (.int v12), .val (.int v20), .val (.int v28), .val (.int v36), .val (.ref o28), .val (.int (0 : Int32)), .val (.ref b30), .unset, .unset] []))
    refine Ow.aload X63 hx (pc' := 179) (hb hby at_177) rfl rfl ?_
    refine Ow.iconst X63 hx (pc' := 180) (hb hby at_179) (z := (2 : Int32)) rfl ?_
    refine Ow.ldI X63 hx hZ e63 P63_0 (pc' := 181) (hb hby at_180) (j := (2 : Int32)) (i := 2) (v := (.int q66)) (by decide) rfl rfl ?_
    refine Ow.iconst X63 hx (pc' := 182) (hb hby at_181) (z := (1 : Int32)) rfl ?_
    refine Ow.icmpNo X63 hx (pc' := 185) (hb hby at_182) (teq (own_en67  hq36 hq37 hv139 hq40 hq41 hq42 hq45 hv149 hq48 hq49 hq50 hq53 hv159 hq56 hq57 hq58 hv169 hq66 : q66 = (1 : Int32))).2 ?_
    refine Ow.aload X63 hx (pc' := 187) (hb hby at_185) rfl rfl ?_
    refine Ow.iconst X63 hx (pc' := 188) (hb hby at_187) (z := (1 : Int32)) rfl ?_
    refine Ow.ldI X63 hx hZ e63 P63_0 (pc' := 189) (hb hby at_188) (j := (1 : Int32)) (i := 1) (v := (.int q65)) (by decide) rfl rfl ?_
    refine Ow.iconst X63 hx (pc' := 190) (hb hby at_189) (z := (1 : Int32)) rfl ?_
    refine Ow.icmpNo X63 hx (pc' := 193) (hb hby at_190) (teq (own_en68  hq36 hq37 hv139 hq40 hq41 hq42 hq45 hv149 hq48 hq49 hq50 hq53 hv159 hq56 hq57 hq58 hv169 hq65 : q65 = (1 : Int32))).2 ?_
    refine Ow.aload X63 hx (pc' := 195) (hb hby at_193) rfl rfl ?_
    refine Ow.iconst X63 hx (pc' := 196) (hb hby at_195) (z := (0 : Int32)) rfl ?_
    refine Ow.ldI X63 hx hZ e63 P63_0 (pc' := 197) (hb hby at_196) (j := (0 : Int32)) (i := 0) (v := (.int q64)) (by decide) rfl rfl ?_
    refine Ow.iload X63 hx (pc' := 199) (hb hby at_197) rfl ?_
    refine Ow.icmpNo X63 hx (pc' := 202) (hb hby at_199) (teq (own_en69  hq36 hq37 hv139 hq40 hq41 hq42 hq45 hv149 hq48 hq49 hq50 hq53 hv159 hq56 hq57 hq58 hv169 hq64 : q64 = (0 : Int32))).2 ?_
    refine Ow.iconst X63 hx (pc' := 203) (hb hby at_202) (z := (1 : Int32)) rfl ?_
    refine Ow.goto X63 hx (pc' := 207) (hb hby at_203) (by decide) (by decide) ?_
    refine Ow.istore X63 hx (pc' := 209) (hb hby at_207) (l' := #[.val (.int xlaw_1), .val (.int xlaw_2), .val (.int xlaw_3), .val (.int xlaw_4), .val (.int xlaw_5), .val (.int v4), .val (.int v12), .val (.int v20), .val (.int v28), .val (.int v36), .val (.ref o28), .val (.int (0 : Int32)), .val (.ref b30), .val (.int (1 : Int32)), .unset]) rfl ?_
    refine Ow.aload X63 hx (pc' := 211) (hb hby at_209) rfl rfl ?_
    refine Ow.iload X63 hx (pc' := 213) (hb hby at_211) rfl ?_
    obtain ⟨cq70, kq70, q70a, q70b, q70c⟩ := isOf hZ e63 A28_t63
    obtain ⟨_, _, ⟨T70, L70, k70, n70⟩, -, X70, ⟨Lc70, hQ70, l70, y70, z70⟩, st70⟩ := X63.virtualBack hx (y := mt3) (z := mt3) hown (mvT hZ (kw27 hw)) (mvT hZ (kw28 hw)) (notFace_of_selects (args := #[]) (mvT hZ (kw30 hw))) (mvT hZ (kw30 hw)) (mvT hZ (kw29 hw)) (by decide) (backOf (W := 0) (rm_noteC l Z a0 hw [] o28 v36 b2_c29 b4_c29 q61 q37 q62 T63.heap n0 Z63 A28_t63 P59_0_t63 P59_1_t63 P59_2_t63 P59_3_t63 P59_4_t63 g_o28 g_b2_c29 g_b4_c29 ne_o28_b2_c29 ne_o28_b4_c29 ne_b2_c29_b4_c29 (own_en71 A_v36 hq36 hq37 hq38 hq45 hq46 hq53 hq54 hq61 hq62)) hZ (kw31 hw) (kw3 hw) (by decide) (by decide)) q70a q70c (g := (mkF m 213 #[.val (.int xlaw_1), .val (.int xlaw_2), .val (.int xlaw_3), .val (.int xlaw_4), .val (.int xlaw_5), .val (.int v4), .val (.int v12), .val (.int v20), .val (.int v28), .val (.int v36), .val (.ref o28), .val (.int (0 : Int32)), .val (.ref b30), .val (.int (1 : Int32)), .unset] [(.int v36), (.ref o28)])) rfl (by rw [hml]; rfl) (Steps.refl _) (argsL := [(.int v36)]) (rest := []) (lenOf pd1 rfl) rfl (by show 2 * 0 + _ ≤ _; exact Nat.le_of_eq rfl) (hb hby at_213) (fun _ _ => ⟨rfl, e63, (by decide : 4 + 0 ≤ _), (by decide : 12 + 0 ≤ _)⟩)
    dsimp only [Pt.U, Pt.locs, Pt.cells, Pt.slots] at X70 l70 y70 z70 st70 hQ70
    subst l70 y70 z70
    obtain ⟨rfl, Nq70, Kq70, P70_0, P70_1, P70_2, P70_3, P70_4⟩ := hQ70
    have N70 := Fr.app N63 Nq70
    have K70 : Keep h0 T70.heap [] := K63.trans Kq70 (allS (P := fun x => x ∈ [] ∨ h0.size ≤ x) (Or.inr sz_b4_c29) (allS (P := fun x => x ∈ [] ∨ h0.size ≤ x) (Or.inr sz_o28) (allS (P := fun x => x ∈ [] ∨ h0.size ≤ x) (Or.inr sz_b2_c29) all0)))
    have Z70 : n0 ≤ T70.heap.size := Nat.le_trans Z63 Kq70.1
    have A28_t70 := A28_t63.keep Kq70
    have P63_0_t70 := P63_0.keep Kq70 (ninS (Ne.symm ne_b4_c29_b30) (ninS (Ne.symm ne_o28_b30) (ninS (Ne.symm ne_b2_c29_b30) nin0)))
    have e70 : T70.heap = T70.heap := rfl
    obtain ⟨q72, hq72⟩ : ∃ z : Int32, z = (own_nC q62 q61 v36) := ⟨_, rfl⟩
    rw [← hq72] at P70_2
    obtain ⟨q73, hq73⟩ : ∃ z : List Value, z = (own_nV q37 q62 q61 v36) := ⟨_, rfl⟩
    rw [← hq73] at P70_3
    obtain ⟨q74, hq74⟩ : ∃ z : List Value, z = (own_nB q62 v36) := ⟨_, rfl⟩
    rw [← hq74] at P70_4
    refine Wq.steps st70 ?_
    show Wq _ _ _ _ _ (T70.setTop (mkF m 216 #[.val (.int xlaw_1), .val (.int xlaw_2), .val (.int xlaw_3), .val (.int xlaw_4), .val (.int xlaw_5), .val (.int v4), .val (.int v12), .val (.int v20), .val (.int v28), .val (.int v36), .val (.ref o28), .val (.int (0 : Int32)), .val (.ref b30), .val (.int (1 : Int32)), .unset] []))
    refine Ow.aload X70 hx (pc' := 218) (hb hby at_216) rfl rfl ?_
    obtain ⟨cq75, kq75, q75a, q75b, q75c⟩ := isOf hZ e70 A28_t70
    obtain ⟨_, _, ⟨T75, L75, k75, n75⟩, -, X75, ⟨Lc75, hQ75, l75, y75, z75⟩, st75⟩ := X70.virtualBack hx (y := mt4) (z := mt4) hown (mvT hZ (kw16 hw)) (mvT hZ (kw17 hw)) (notFace_of_selects (args := #[]) (mvT hZ (kw19 hw))) (mvT hZ (kw19 hw)) (mvT hZ (kw18 hw)) (by decide) (backOf (W := 0) (rm_nextC l Z a0 hw [] o28 b2_c29 b4_c29 q72 q73 q74 T70.heap n0 Z70 A28_t70 P70_0 P70_1 P70_2 P70_3 P70_4 g_o28 g_b2_c29 g_b4_c29 ne_o28_b2_c29 ne_o28_b4_c29 ne_b2_c29_b4_c29 (own_en76 A_v36 hq36 hq37 hq38 hq45 hq46 hq53 hq54 hq61 hq62 hq72 hq73 hq74)) hZ (kw20 hw) (kw3 hw) (by decide) (by decide)) q75a q75c (g := (mkF m 218 #[.val (.int xlaw_1), .val (.int xlaw_2), .val (.int xlaw_3), .val (.int xlaw_4), .val (.int xlaw_5), .val (.int v4), .val (.int v12), .val (.int v20), .val (.int v28), .val (.int v36), .val (.ref o28), .val (.int (0 : Int32)), .val (.ref b30), .val (.int (1 : Int32)), .unset] [(.ref o28)])) rfl (by rw [hml]; rfl) (Steps.refl _) (argsL := []) (rest := []) (lenOf pd2 rfl) rfl (by show 2 * 0 + _ ≤ _; exact Nat.le_of_eq rfl) (hb hby at_218) (fun _ _ => ⟨rfl, e70, (by decide : 4 + 0 ≤ _), (by decide : 12 + 0 ≤ _)⟩)
    dsimp only [Pt.U, Pt.locs, Pt.cells, Pt.slots] at X75 l75 y75 z75 st75 hQ75
    subst l75 y75 z75
    obtain ⟨rfl, Nq75, Kq75, P75_0, P75_1, P75_2, P75_3, P75_4⟩ := hQ75
    have N75 := Fr.app N70 Nq75
    have K75 : Keep h0 T75.heap [] := K70.trans Kq75 (allS (P := fun x => x ∈ [] ∨ h0.size ≤ x) (Or.inr sz_o28) (allS (P := fun x => x ∈ [] ∨ h0.size ≤ x) (Or.inr sz_b4_c29) all0))
    have Z75 : n0 ≤ T75.heap.size := Nat.le_trans Z70 Kq75.1
    have A28_t75 := A28_t70.keep Kq75
    have P63_0_t75 := P63_0_t70.keep Kq75 (ninS (Ne.symm ne_o28_b30) (ninS (Ne.symm ne_b4_c29_b30) nin0))
    have P70_3_t75 := P70_3.keep Kq75 (ninS (Ne.symm ne_o28_b2_c29) (ninS ne_b2_c29_b4_c29 nin0))
    have e75 : T75.heap = T75.heap := rfl
    obtain ⟨q77, hq77⟩ : ∃ z : Int32, z = (own_xC q72) := ⟨_, rfl⟩
    rw [← hq77] at P75_2
    obtain ⟨q78, hq78⟩ : ∃ z : List Value, z = (own_xB q73 q74 q72) := ⟨_, rfl⟩
    rw [← hq78] at P75_4
    refine Wq.steps st75 ?_
    show Wq _ _ _ _ _ (T75.setTop (mkF m 221 #[.val (.int xlaw_1), .val (.int xlaw_2), .val (.int xlaw_3), .val (.int xlaw_4), .val (.int xlaw_5), .val (.int v4), .val (.int v12), .val (.int v20), .val (.int v28), .val (.int v36), .val (.ref o28), .val (.int (0 : Int32)), .val (.ref b30), .val (.int (1 : Int32)), .unset] [(.int (own_xR q73 q72))]))
    generalize hv218 : (own_xR q73 q72) = v218
    show Wq _ _ _ _ _ (T75.setTop (mkF m 221 #[.val (.int xlaw_1), .val (.int xlaw_2), .val (.int xlaw_3), .val (.int xlaw_4), .val (.int xlaw_5), .val (.int v4), .val (.int v12), .val (.int v20), .val (.int v28), .val (.int v36), .val (.ref o28), .val (.int (0 : Int32)), .val (.ref b30), .val (.int (1 : Int32)), .unset] [(.int v218)]))
    refine Ow.iload X75 hx (pc' := 223) (hb hby at_221) rfl ?_
    refine Ow.icmpNo X75 hx (pc' := 226) (hb hby at_223) (teq (own_en79 A_v36 hq36 hq37 hq38 hq45 hq46 hq53 hq54 hq61 hq62 hq72 hq73 hv218 : v218 = v36)).2 ?_
    refine Ow.iconst X75 hx (pc' := 227) (hb hby at_226) (z := (1 : Int32)) rfl ?_
    refine Ow.goto X75 hx (pc' := 231) (hb hby at_227) (by decide) (by decide) ?_
    refine Ow.istore X75 hx (pc' := 233) (hb hby at_231) (l' := #[.val (.int xlaw_1), .val (.int xlaw_2), .val (.int xlaw_3), .val (.int xlaw_4), .val (.int xlaw_5), .val (.int v4), .val (.int v12), .val (.int v20), .val (.int v28), .val (.int v36), .val (.ref o28), .val (.int (0 : Int32)), .val (.ref b30), .val (.int (1 : Int32)), .val (.int (1 : Int32))]) rfl ?_
    refine Ow.iload X75 hx (pc' := 235) (hb hby at_233) rfl ?_
    refine Ow.ifNo X75 hx (pc' := 238) (hb hby at_235) ((if0 _ _).trans (feq (by decide : ¬ ((1 : Int32) = (0 : Int32)))).1) ?_
    refine Ow.iload X75 hx (pc' := 240) (hb hby at_238) rfl ?_
    refine Ow.ifNo X75 hx (pc' := 243) (hb hby at_240) ((if0 _ _).trans (feq (by decide : ¬ ((1 : Int32) = (0 : Int32)))).1) ?_
    refine Ow.iconst X75 hx (pc' := 244) (hb hby at_243) (z := (1 : Int32)) rfl ?_
    refine Ow.goto X75 hx (pc' := 248) (hb hby at_244) (by decide) (by decide) ?_
    exact Wq.ret X75 (BodyLoose.notSynchronized Bd) (rv := some (.int (1 : Int32))) (fun h => by rw [Bd.returns] at h; cases h) (fun _ hr => retN X75 hx (t := .boolean) Bd.returns (by simp) (hb hby at_248) hr) (by decide) (by decide) ⟨rfl, N75⟩
  · skip
    refine Ow.icmpNo X29 hx (pc' := 57) (hb hby at_54) (flt hc54).1 ?_
    refine Ow.aload X29 hx (pc' := 59) (hb hby at_57) rfl rfl ?_
    refine Ow.iload X29 hx (pc' := 61) (hb hby at_59) rfl ?_
    obtain ⟨cq80, kq80, q80a, q80b, q80c⟩ := isOf hZ e29 A28_t29
    obtain ⟨_, _, ⟨T80, L80, k80, n80⟩, -, X80, ⟨Lc80, hQ80, l80, y80, z80⟩, st80⟩ := X29.virtualBack hx (y := mt3) (z := mt3) hown (mvT hZ (kw27 hw)) (mvT hZ (kw28 hw)) (notFace_of_selects (args := #[]) (mvT hZ (kw30 hw))) (mvT hZ (kw30 hw)) (mvT hZ (kw29 hw)) (by decide) (backOf (W := 0) (rm_noteC l Z a0 hw [] o28 v12 b2_c29 b4_c29 (0 : Int32) [(.int (0 : Int32)), (.int (0 : Int32)), (.int (0 : Int32))] [(.int (0 : Int32)), (.int (0 : Int32)), (.int (0 : Int32))] T29.heap n0 Z29 A28_t29 P29_3 P29_5 P29_1 P29_2 P29_4 g_o28 g_b2_c29 g_b4_c29 ne_o28_b2_c29 ne_o28_b4_c29 ne_b2_c29_b4_c29 (own_en81 A_v12 )) hZ (kw31 hw) (kw3 hw) (by decide) (by decide)) q80a q80c (g := (mkF m 61 #[.val (.int xlaw_1), .val (.int xlaw_2), .val (.int xlaw_3), .val (.int xlaw_4), .val (.int xlaw_5), .val (.int v4), .val (.int v12), .val (.int v20), .val (.int v28), .val (.int v36), .val (.ref o28), .val (.int (0 : Int32)), .unset, .unset, .unset] [(.int v12), (.ref o28)])) rfl (by rw [hml]; rfl) (Steps.refl _) (argsL := [(.int v12)]) (rest := []) (lenOf pd1 rfl) rfl (by show 2 * 0 + _ ≤ _; exact Nat.le_of_eq rfl) (hb hby at_61) (fun _ _ => ⟨rfl, e29, (by decide : 3 + 0 ≤ _), (by decide : 9 + 0 ≤ _)⟩)
    dsimp only [Pt.U, Pt.locs, Pt.cells, Pt.slots] at X80 l80 y80 z80 st80 hQ80
    subst l80 y80 z80
    obtain ⟨rfl, Nq80, Kq80, P80_0, P80_1, P80_2, P80_3, P80_4⟩ := hQ80
    have N80 := Fr.app N29 Nq80
    have K80 : Keep h0 T80.heap [] := K29.trans Kq80 (allS (P := fun x => x ∈ [] ∨ h0.size ≤ x) (Or.inr sz_b4_c29) (allS (P := fun x => x ∈ [] ∨ h0.size ≤ x) (Or.inr sz_o28) (allS (P := fun x => x ∈ [] ∨ h0.size ≤ x) (Or.inr sz_b2_c29) all0)))
    have Z80 : n0 ≤ T80.heap.size := Nat.le_trans Z29 Kq80.1
    have A28_t80 := A28_t29.keep Kq80
    have e80 : T80.heap = T80.heap := rfl
    obtain ⟨q82, hq82⟩ : ∃ z : Int32, z = (own_nC [(.int (0 : Int32)), (.int (0 : Int32)), (.int (0 : Int32))] (0 : Int32) v12) := ⟨_, rfl⟩
    rw [← hq82] at P80_2
    obtain ⟨q83, hq83⟩ : ∃ z : List Value, z = (own_nV [(.int (0 : Int32)), (.int (0 : Int32)), (.int (0 : Int32))] [(.int (0 : Int32)), (.int (0 : Int32)), (.int (0 : Int32))] (0 : Int32) v12) := ⟨_, rfl⟩
    rw [← hq83] at P80_3
    obtain ⟨q84, hq84⟩ : ∃ z : List Value, z = (own_nB [(.int (0 : Int32)), (.int (0 : Int32)), (.int (0 : Int32))] v12) := ⟨_, rfl⟩
    rw [← hq84] at P80_4
    refine Wq.steps st80 ?_
    show Wq _ _ _ _ _ (T80.setTop (mkF m 64 #[.val (.int xlaw_1), .val (.int xlaw_2), .val (.int xlaw_3), .val (.int xlaw_4), .val (.int xlaw_5), .val (.int v4), .val (.int v12), .val (.int v20), .val (.int v28), .val (.int v36), .val (.ref o28), .val (.int (0 : Int32)), .unset, .unset, .unset] []))
    refine Ow.iload X80 hx (pc' := 66) (hb hby at_64) rfl ?_
    refine Ow.iconst X80 hx (pc' := 67) (hb hby at_66) (z := (1 : Int32)) rfl ?_
    refine Ow.iload X80 hx (pc' := 69) (hb hby at_67) rfl ?_
    refine Ow.ishl X80 hx (pc' := 70) (hb hby at_69) (z := ((1 : Int32) <<< (v12 &&& 31))) rfl ?_
    refine Ow.ior X80 hx (pc' := 71) (hb hby at_70) (z := ((0 : Int32) ||| ((1 : Int32) <<< (v12 &&& 31)))) rfl ?_
    refine Ow.istore X80 hx (pc' := 73) (hb hby at_71) (l' := #[.val (.int xlaw_1), .val (.int xlaw_2), .val (.int xlaw_3), .val (.int xlaw_4), .val (.int xlaw_5), .val (.int v4), .val (.int v12), .val (.int v20), .val (.int v28), .val (.int v36), .val (.ref o28), .val (.int ((0 : Int32) ||| ((1 : Int32) <<< (v12 &&& 31)))), .unset, .unset, .unset]) rfl ?_
    generalize hv71 : ((0 : Int32) ||| ((1 : Int32) <<< (v12 &&& 31))) = v71
    refine Ow.iload X80 hx (pc' := 75) (hb hby at_73) rfl ?_
    refine Ow.iconst X80 hx (pc' := 76) (hb hby at_75) (z := (2 : Int32)) rfl ?_
    by_cases hc76 : v4 < (2 : Int32)
    · skip
      refine Ow.icmpYes X80 hx (pc' := 95) (hb hby at_76) (tlt hc76).1 (by decide) (by decide) ?_
      refine Ow.iload X80 hx (pc' := 97) (hb hby at_95) rfl ?_
      refine Ow.iconst X80 hx (pc' := 98) (hb hby at_97) (z := (3 : Int32)) rfl ?_
      refine Ow.icmpYes X80 hx (pc' := 117) (hb hby at_98) (tlt (by subst hv4; exact own_lt23 hc76 : v4 < (3 : Int32))).1 (by decide) (by decide) ?_
      refine Ow.iconst X80 hx (pc' := 118) (hb hby at_117) (z := (3 : Int32)) rfl ?_
      obtain ⟨T85, h85, k85, X85, e85, E85, A85, st85⟩ := newP X80 hx hZ (aty := .int) (kw10 hw) e80 (g := (mkF m 118 #[.val (.int xlaw_1), .val (.int xlaw_2), .val (.int xlaw_3), .val (.int xlaw_4), .val (.int xlaw_5), .val (.int v4), .val (.int v12), .val (.int v20), .val (.int v28), .val (.int v36), .val (.ref o28), .val (.int v71), .unset, .unset, .unset] [(.int (3 : Int32))])) rfl (hb hby at_118) rfl (by decide) (cap := 3) (by decide) (by decide) (by decide) (by decide)
      obtain ⟨b85, gz85⟩ : ∃ z, z = T80.heap.size := ⟨_, rfl⟩
      rw [← gz85] at A85 st85
      have g_b85 : n0 ≤ b85 := Nat.le_trans Z80 (Nat.le_of_eq gz85.symm)
      have sz_b85 : h0.size ≤ b85 := Nat.le_trans K80.1 (Nat.le_of_eq gz85.symm)
      have ne_o28_b85 : o28 ≠ b85 := Nat.ne_of_lt (Nat.lt_of_lt_of_le A28_t80.lt (Nat.le_of_eq gz85.symm))
      have ne_b2_c29_b85 : b2_c29 ≠ b85 := Nat.ne_of_lt (Nat.lt_of_lt_of_le P80_3.lt (Nat.le_of_eq gz85.symm))
      have ne_b4_c29_b85 : b4_c29 ≠ b85 := Nat.ne_of_lt (Nat.lt_of_lt_of_le P80_4.lt (Nat.le_of_eq gz85.symm))
      have K85 : Keep h0 h85 [] := K80.ext E85
      have Z85 : n0 ≤ h85.size := Nat.le_trans Z80 E85.1
      have A28_t85 := A28_t80.ext E85
      have P80_0_t85 := P80_0.ext E85
      have P80_1_t85 := P80_1.ext E85
      have P80_2_t85 := P80_2.ext E85
      have P80_3_t85 := P80_3.ext E85
      have P80_4_t85 := P80_4.ext E85
      have V_b85 : Al Z h85 b85 .int [(.int (0 : Int32)), (.int (0 : Int32)), (.int (0 : Int32))] := Al.new A85 (k := 3) (rfl) rfl
      refine Wq.step st85 ?_
      show Wq _ _ _ _ _ (T85.setTop (mkF m 120 #[.val (.int xlaw_1), .val (.int xlaw_2), .val (.int xlaw_3), .val (.int xlaw_4), .val (.int xlaw_5), .val (.int v4), .val (.int v12), .val (.int v20), .val (.int v28), .val (.int v36), .val (.ref o28), .val (.int v71), .unset, .unset, .unset] [(.ref b85)]))
      refine Ow.astore X85 hx (pc' := 122) (hb hby at_120) rfl (l' := #[.val (.int xlaw_1), .val (.int xlaw_2), .val (.int xlaw_3), .val (.int xlaw_4), .val (.int xlaw_5), .val (.int v4), .val (.int v12), .val (.int v20), .val (.int v28), .val (.int v36), .val (.ref o28), .val (.int v71), .val (.ref b85), .unset, .unset]) rfl ?_
      refine Ow.aload X85 hx (pc' := 124) (hb hby at_122) rfl rfl ?_
      refine Ow.iconst X85 hx (pc' := 125) (hb hby at_124) (z := (0 : Int32)) rfl ?_
      refine Ow.iconst X85 hx (pc' := 126) (hb hby at_125) (z := (0 : Int32)) rfl ?_
      obtain ⟨T86, h86, X86, e86, W86, Vr86, st86⟩ := asI X85 hx hZ e85 V_b85 (j := (0 : Int32)) (i := 0) (by decide) rfl (Nat.le_of_ble_eq_true rfl) (g := (mkF m 126 #[.val (.int xlaw_1), .val (.int xlaw_2), .val (.int xlaw_3), .val (.int xlaw_4), .val (.int xlaw_5), .val (.int v4), .val (.int v12), .val (.int v20), .val (.int v28), .val (.int v36), .val (.ref o28), .val (.int v71), .val (.ref b85), .unset, .unset] [(.int (0 : Int32)), (.int (0 : Int32)), (.ref b85)])) rfl rfl (hb hby at_126)
      refine Wq.step st86 ?_
      have N86 := Fr.snoc X86 N80 g_b85
      have K86 : Keep h0 h86 [] := K85.wr W86 (Or.inr sz_b85)
      have Z86 : n0 ≤ h86.size := Nat.le_trans Z85 (Keep.of_wr W86).1
      have A28_t86 := A28_t85.wr W86
      have P80_0_t86 := P80_0_t85.other W86 (Or.inl ne_o28_b85)
      have P80_1_t86 := P80_1_t85.other W86 (Or.inl ne_o28_b85)
      have P80_2_t86 := P80_2_t85.other W86 (Or.inl ne_o28_b85)
      have P80_3_t86 := P80_3_t85.other W86 ne_b2_c29_b85
      have P80_4_t86 := P80_4_t85.other W86 ne_b4_c29_b85
      have V_b85_t86 : Al Z h86 b85 .int [(.int (0 : Int32)), (.int (0 : Int32)), (.int (0 : Int32))] := Vr86
      show Wq _ _ _ _ _ (T86.setTop (mkF m 127 #[.val (.int xlaw_1), .val (.int xlaw_2), .val (.int xlaw_3), .val (.int xlaw_4), .val (.int xlaw_5), .val (.int v4), .val (.int v12), .val (.int v20), .val (.int v28), .val (.int v36), .val (.ref o28), .val (.int v71), .val (.ref b85), .unset, .unset] []))
      refine Ow.aload X86 hx (pc' := 129) (hb hby at_127) rfl rfl ?_
      refine Ow.iconst X86 hx (pc' := 130) (hb hby at_129) (z := (1 : Int32)) rfl ?_
      refine Ow.iconst X86 hx (pc' := 131) (hb hby at_130) (z := (0 : Int32)) rfl ?_
      obtain ⟨T87, h87, X87, e87, W87, Vr87, st87⟩ := asI X86 hx hZ e86 V_b85_t86 (j := (1 : Int32)) (i := 1) (by decide) rfl (Nat.le_of_ble_eq_true rfl) (g := (mkF m 131 #[.val (.int xlaw_1), .val (.int xlaw_2), .val (.int xlaw_3), .val (.int xlaw_4), .val (.int xlaw_5), .val (.int v4), .val (.int v12), .val (.int v20), .val (.int v28), .val (.int v36), .val (.ref o28), .val (.int v71), .val (.ref b85), .unset, .unset] [(.int (0 : Int32)), (.int (1 : Int32)), (.ref b85)])) rfl rfl (hb hby at_131)
      refine Wq.step st87 ?_
      have N87 := Fr.snoc X87 N86 g_b85
      have K87 : Keep h0 h87 [] := K86.wr W87 (Or.inr sz_b85)
      have Z87 : n0 ≤ h87.size := Nat.le_trans Z86 (Keep.of_wr W87).1
      have A28_t87 := A28_t86.wr W87
      have P80_0_t87 := P80_0_t86.other W87 (Or.inl ne_o28_b85)
      have P80_1_t87 := P80_1_t86.other W87 (Or.inl ne_o28_b85)
      have P80_2_t87 := P80_2_t86.other W87 (Or.inl ne_o28_b85)
      have P80_3_t87 := P80_3_t86.other W87 ne_b2_c29_b85
      have P80_4_t87 := P80_4_t86.other W87 ne_b4_c29_b85
      have V_b85_t87 : Al Z h87 b85 .int [(.int (0 : Int32)), (.int (0 : Int32)), (.int (0 : Int32))] := Vr87
      show Wq _ _ _ _ _ (T87.setTop (mkF m 132 #[.val (.int xlaw_1), .val (.int xlaw_2), .val (.int xlaw_3), .val (.int xlaw_4), .val (.int xlaw_5), .val (.int v4), .val (.int v12), .val (.int v20), .val (.int v28), .val (.int v36), .val (.ref o28), .val (.int v71), .val (.ref b85), .unset, .unset] []))
      refine Ow.aload X87 hx (pc' := 134) (hb hby at_132) rfl rfl ?_
      refine Ow.iconst X87 hx (pc' := 135) (hb hby at_134) (z := (2 : Int32)) rfl ?_
      refine Ow.iconst X87 hx (pc' := 136) (hb hby at_135) (z := (1 : Int32)) rfl ?_
      obtain ⟨T88, h88, X88, e88, W88, Vr88, st88⟩ := asI X87 hx hZ e87 V_b85_t87 (j := (2 : Int32)) (i := 2) (by decide) rfl (Nat.le_of_ble_eq_true rfl) (g := (mkF m 136 #[.val (.int xlaw_1), .val (.int xlaw_2), .val (.int xlaw_3), .val (.int xlaw_4), .val (.int xlaw_5), .val (.int v4), .val (.int v12), .val (.int v20), .val (.int v28), .val (.int v36), .val (.ref o28), .val (.int v71), .val (.ref b85), .unset, .unset] [(.int (1 : Int32)), (.int (2 : Int32)), (.ref b85)])) rfl rfl (hb hby at_136)
      refine Wq.step st88 ?_
      have N88 := Fr.snoc X88 N87 g_b85
      have K88 : Keep h0 h88 [] := K87.wr W88 (Or.inr sz_b85)
      have Z88 : n0 ≤ h88.size := Nat.le_trans Z87 (Keep.of_wr W88).1
      have A28_t88 := A28_t87.wr W88
      have P80_0_t88 := P80_0_t87.other W88 (Or.inl ne_o28_b85)
      have P80_1_t88 := P80_1_t87.other W88 (Or.inl ne_o28_b85)
      have P80_2_t88 := P80_2_t87.other W88 (Or.inl ne_o28_b85)
      have P80_3_t88 := P80_3_t87.other W88 ne_b2_c29_b85
      have P80_4_t88 := P80_4_t87.other W88 ne_b4_c29_b85
      have V_b85_t88 : Al Z h88 b85 .int [(.int (0 : Int32)), (.int (0 : Int32)), (.int (1 : Int32))] := Vr88
      show Wq _ _ _ _ _ (T88.setTop (mkF m 137 #[.val (.int xlaw_1), .val (.int xlaw_2), .val (.int xlaw_3), .val (.int xlaw_4), .val (.int xlaw_5), .val (.int v4), .val (.int v12), .val (.int v20), .val (.int v28), .val (.int v36), .val (.ref o28), .val (.int v71), .val (.ref b85), .unset, .unset] []))
      refine Ow.aload X88 hx (pc' := 139) (hb hby at_137) rfl rfl ?_
      obtain ⟨cq89, kq89, q89a, q89b, q89c⟩ := isOf hZ e88 A28_t88
      obtain ⟨_, _, ⟨T89, L89, k89, n89⟩, -, X89, ⟨Lc89, hQ89, l89, y89, z89⟩, st89⟩ := X88.virtualBack hx (y := mt4) (z := mt4) hown (mvT hZ (kw16 hw)) (mvT hZ (kw17 hw)) (notFace_of_selects (args := #[]) (mvT hZ (kw19 hw))) (mvT hZ (kw19 hw)) (mvT hZ (kw18 hw)) (by decide) (backOf (W := 0) (rm_nextC l Z a0 hw [] o28 b2_c29 b4_c29 q82 q83 q84 h88 n0 Z88 A28_t88 P80_0_t88 P80_1_t88 P80_2_t88 P80_3_t88 P80_4_t88 g_o28 g_b2_c29 g_b4_c29 ne_o28_b2_c29 ne_o28_b4_c29 ne_b2_c29_b4_c29 (own_en90 A_v12 hq82 hq83 hq84)) hZ (kw20 hw) (kw3 hw) (by decide) (by decide)) q89a q89c (g := (mkF m 139 #[.val (.int xlaw_1), .val (.int xlaw_2), .val (.int xlaw_3), .val (.int xlaw_4), .val (.int xlaw_5), .val (.int v4), .val (.int v12), .val (.int v20), .val (.int v28), .val (.int v36), .val (.ref o28), .val (.int v71), .val (.ref b85), .unset, .unset] [(.ref o28)])) rfl (by rw [hml]; rfl) (Steps.refl _) (argsL := []) (rest := []) (lenOf pd2 rfl) rfl (by show 2 * 0 + _ ≤ _; exact Nat.le_of_eq rfl) (hb hby at_139) (fun _ _ => ⟨rfl, e88, (by decide : 4 + 0 ≤ _), (by decide : 12 + 0 ≤ _)⟩)
      dsimp only [Pt.U, Pt.locs, Pt.cells, Pt.slots] at X89 l89 y89 z89 st89 hQ89
      subst l89 y89 z89
      obtain ⟨rfl, Nq89, Kq89, P89_0, P89_1, P89_2, P89_3, P89_4⟩ := hQ89
      have N89 := Fr.app N88 Nq89
      have K89 : Keep h0 T89.heap [] := K88.trans Kq89 (allS (P := fun x => x ∈ [] ∨ h0.size ≤ x) (Or.inr sz_o28) (allS (P := fun x => x ∈ [] ∨ h0.size ≤ x) (Or.inr sz_b4_c29) all0))
      have Z89 : n0 ≤ T89.heap.size := Nat.le_trans Z88 Kq89.1
      have A28_t89 := A28_t88.keep Kq89
      have P80_3_t89 := P80_3_t88.keep Kq89 (ninS (Ne.symm ne_o28_b2_c29) (ninS ne_b2_c29_b4_c29 nin0))
      have V_b85_t89 := V_b85_t88.keep Kq89 (ninS (Ne.symm ne_o28_b85) (ninS (Ne.symm ne_b4_c29_b85) nin0))
      have e89 : T89.heap = T89.heap := rfl
      obtain ⟨q91, hq91⟩ : ∃ z : Int32, z = (own_xC q82) := ⟨_, rfl⟩
      rw [← hq91] at P89_2
      obtain ⟨q92, hq92⟩ : ∃ z : List Value, z = (own_xB q83 q84 q82) := ⟨_, rfl⟩
      rw [← hq92] at P89_4
      refine Wq.steps st89 ?_
      show Wq _ _ _ _ _ (T89.setTop (mkF m 142 #[.val (.int xlaw_1), .val (.int xlaw_2), .val (.int xlaw_3), .val (.int xlaw_4), .val (.int xlaw_5), .val (.int v4), .val (.int v12), .val (.int v20), .val (.int v28), .val (.int v36), .val (.ref o28), .val (.int v71), .val (.ref b85), .unset, .unset] [(.int (own_xR q83 q82))]))
      generalize hv139 : (own_xR q83 q82) = v139
      show Wq _ _ _ _ _ (T89.setTop (mkF m 142 #[.val (.int xlaw_1), .val (.int xlaw_2), .val (.int xlaw_3), .val (.int xlaw_4), .val (.int xlaw_5), .val (.int v4), .val (.int v12), .val (.int v20), .val (.int v28), .val (.int v36), .val (.ref o28), .val (.int v71), .val (.ref b85), .unset, .unset] [(.int v139)]))
      refine Ow.aload X89 hx (pc' := 144) (hb hby at_142) rfl rfl ?_
      obtain ⟨_, _, ⟨T93, L93, k93, n93⟩, -, X93, ⟨Lc93, hQ93, l93, y93, z93⟩, st93⟩ := Jvm.LawKit.callS X89 hx (y := mt2) hown (mvT hZ (kw23 hw)) (mvT hZ (kw24 hw)) (mvT hZ (kw25 hw)) (mvT hZ (kw26 hw)) (by decide) (backOf (W := 0) (rm_take l Z a0 hw [] v139 b85 (0 : Int32) (0 : Int32) (1 : Int32) T89.heap n0 Z89 V_b85_t89 g_b85) hZ (kw26 hw) (kw25 hw) (by decide) (by decide)) (g := (mkF m 144 #[.val (.int xlaw_1), .val (.int xlaw_2), .val (.int xlaw_3), .val (.int xlaw_4), .val (.int xlaw_5), .val (.int v4), .val (.int v12), .val (.int v20), .val (.int v28), .val (.int v36), .val (.ref o28), .val (.int v71), .val (.ref b85), .unset, .unset] [(.ref b85), (.int v139)])) rfl (by rw [hml]; rfl) (argsL := [(.int v139), (.ref b85)]) (rest := []) (lenOf pd3 rfl) rfl (by show 2 * 0 + _ ≤ _; exact Nat.le_of_eq rfl) (hb hby at_144) (fun _ _ => ⟨rfl, e89, (by decide : 4 + 0 ≤ _), (by decide : 12 + 0 ≤ _)⟩)
      dsimp only [Pt.U, Pt.locs, Pt.cells, Pt.slots] at X93 l93 y93 z93 st93 hQ93
      subst l93 y93 z93
      obtain ⟨rfl, Nq93, Kq93, P93_0⟩ := hQ93
      have N93 := Fr.app N89 Nq93
      have K93 : Keep h0 T93.heap [] := K89.trans Kq93 (allS (P := fun x => x ∈ [] ∨ h0.size ≤ x) (Or.inr sz_b85) all0)
      have Z93 : n0 ≤ T93.heap.size := Nat.le_trans Z89 Kq93.1
      have A28_t93 := A28_t89.keep Kq93
      have P89_3_t93 := P89_3.keep Kq93 (ninS ne_b2_c29_b85 nin0)
      have P89_0_t93 := P89_0.keep Kq93 (ninS ne_o28_b85 nin0)
      have P89_1_t93 := P89_1.keep Kq93 (ninS ne_o28_b85 nin0)
      have P89_2_t93 := P89_2.keep Kq93 (ninS ne_o28_b85 nin0)
      have P89_4_t93 := P89_4.keep Kq93 (ninS ne_b4_c29_b85 nin0)
      have e93 : T93.heap = T93.heap := rfl
      obtain ⟨q94, hq94⟩ : ∃ z : Int32, z = (f_take_p0 v139 (0 : Int32) (0 : Int32) (1 : Int32)) := ⟨_, rfl⟩
      rw [← hq94] at P93_0
      obtain ⟨q95, hq95⟩ : ∃ z : Int32, z = (f_take_p1 v139 (0 : Int32) (0 : Int32) (1 : Int32)) := ⟨_, rfl⟩
      rw [← hq95] at P93_0
      obtain ⟨q96, hq96⟩ : ∃ z : Int32, z = (f_take_p2 v139 (0 : Int32) (0 : Int32) (1 : Int32)) := ⟨_, rfl⟩
      rw [← hq96] at P93_0
      refine Wq.step st93 ?_
      show Wq _ _ _ _ _ (T93.setTop (mkF m 147 #[.val (.int xlaw_1), .val (.int xlaw_2), .val (.int xlaw_3), .val (.int xlaw_4), .val (.int xlaw_5), .val (.int v4), .val (.int v12), .val (.int v20), .val (.int v28), .val (.int v36), .val (.ref o28), .val (.int v71), .val (.ref b85), .unset, .unset] []))
      refine Ow.aload X93 hx (pc' := 149) (hb hby at_147) rfl rfl ?_
      obtain ⟨cq97, kq97, q97a, q97b, q97c⟩ := isOf hZ e93 A28_t93
      obtain ⟨_, _, ⟨T97, L97, k97, n97⟩, -, X97, ⟨Lc97, hQ97, l97, y97, z97⟩, st97⟩ := X93.virtualBack hx (y := mt4) (z := mt4) hown (mvT hZ (kw16 hw)) (mvT hZ (kw17 hw)) (notFace_of_selects (args := #[]) (mvT hZ (kw19 hw))) (mvT hZ (kw19 hw)) (mvT hZ (kw18 hw)) (by decide) (backOf (W := 0) (rm_nextC l Z a0 hw [] o28 b2_c29 b4_c29 q91 q83 q92 T93.heap n0 Z93 A28_t93 P89_0_t93 P89_1_t93 P89_2_t93 P89_3_t93 P89_4_t93 g_o28 g_b2_c29 g_b4_c29 ne_o28_b2_c29 ne_o28_b4_c29 ne_b2_c29_b4_c29 (own_en98 A_v12 hq82 hq83 hq84 hq91 hq92)) hZ (kw20 hw) (kw3 hw) (by decide) (by decide)) q97a q97c (g := (mkF m 149 #[.val (.int xlaw_1), .val (.int xlaw_2), .val (.int xlaw_3), .val (.int xlaw_4), .val (.int xlaw_5), .val (.int v4), .val (.int v12), .val (.int v20), .val (.int v28), .val (.int v36), .val (.ref o28), .val (.int v71), .val (.ref b85), .unset, .unset] [(.ref o28)])) rfl (by rw [hml]; rfl) (Steps.refl _) (argsL := []) (rest := []) (lenOf pd2 rfl) rfl (by show 2 * 0 + _ ≤ _; exact Nat.le_of_eq rfl) (hb hby at_149) (fun _ _ => ⟨rfl, e93, (by decide : 4 + 0 ≤ _), (by decide : 12 + 0 ≤ _)⟩)
      dsimp only [Pt.U, Pt.locs, Pt.cells, Pt.slots] at X97 l97 y97 z97 st97 hQ97
      subst l97 y97 z97
      obtain ⟨rfl, Nq97, Kq97, P97_0, P97_1, P97_2, P97_3, P97_4⟩ := hQ97
      have N97 := Fr.app N93 Nq97
      have K97 : Keep h0 T97.heap [] := K93.trans Kq97 (allS (P := fun x => x ∈ [] ∨ h0.size ≤ x) (Or.inr sz_o28) (allS (P := fun x => x ∈ [] ∨ h0.size ≤ x) (Or.inr sz_b4_c29) all0))
      have Z97 : n0 ≤ T97.heap.size := Nat.le_trans Z93 Kq97.1
      have A28_t97 := A28_t93.keep Kq97
      have P89_3_t97 := P89_3_t93.keep Kq97 (ninS (Ne.symm ne_o28_b2_c29) (ninS ne_b2_c29_b4_c29 nin0))
      have P93_0_t97 := P93_0.keep Kq97 (ninS (Ne.symm ne_o28_b85) (ninS (Ne.symm ne_b4_c29_b85) nin0))
      have e97 : T97.heap = T97.heap := rfl
      obtain ⟨q99, hq99⟩ : ∃ z : Int32, z = (own_xC q91) := ⟨_, rfl⟩
      rw [← hq99] at P97_2
      obtain ⟨q100, hq100⟩ : ∃ z : List Value, z = (own_xB q83 q92 q91) := ⟨_, rfl⟩
      rw [← hq100] at P97_4
      refine Wq.steps st97 ?_
      show Wq _ _ _ _ _ (T97.setTop (mkF m 152 #[.val (.int xlaw_1), .val (.int xlaw_2), .val (.int xlaw_3), .val (.int xlaw_4), .val (.int xlaw_5), .val (.int v4), .val (.int v12), .val (.int v20), .val (.int v28), .val (.int v36), .val (.ref o28), .val (.int v71), .val (.ref b85), .unset, .unset] [(.int (own_xR q83 q91))]))
      generalize hv149 : (own_xR q83 q91) = v149
      show Wq _ _ _ _ _ (T97.setTop (mkF m 152 #[.val (.int xlaw_1), .val (.int xlaw_2), .val (.int xlaw_3), .val (.int xlaw_4), .val (.int xlaw_5), .val (.int v4), .val (.int v12), .val (.int v20), .val (.int v28), .val (.int v36), .val (.ref o28), .val (.int v71), .val (.ref b85), .unset, .unset] [(.int v149)]))
      refine Ow.aload X97 hx (pc' := 154) (hb hby at_152) rfl rfl ?_
      obtain ⟨_, _, ⟨T101, L101, k101, n101⟩, -, X101, ⟨Lc101, hQ101, l101, y101, z101⟩, st101⟩ := Jvm.LawKit.callS X97 hx (y := mt2) hown (mvT hZ (kw23 hw)) (mvT hZ (kw24 hw)) (mvT hZ (kw25 hw)) (mvT hZ (kw26 hw)) (by decide) (backOf (W := 0) (rm_take l Z a0 hw [] v149 b85 q94 q95 q96 T97.heap n0 Z97 P93_0_t97 g_b85) hZ (kw26 hw) (kw25 hw) (by decide) (by decide)) (g := (mkF m 154 #[.val (.int xlaw_1), .val (.int xlaw_2), .val (.int xlaw_3), .val (.int xlaw_4), .val (.int xlaw_5), .val (.int v4), .val (.int v12), .val (.int v20), .val (.int v28), .val (.int v36), .val (.ref o28), .val (.int v71), .val (.ref b85), .unset, .unset] [(.ref b85), (.int v149)])) rfl (by rw [hml]; rfl) (argsL := [(.int v149), (.ref b85)]) (rest := []) (lenOf pd3 rfl) rfl (by show 2 * 0 + _ ≤ _; exact Nat.le_of_eq rfl) (hb hby at_154) (fun _ _ => ⟨rfl, e97, (by decide : 4 + 0 ≤ _), (by decide : 12 + 0 ≤ _)⟩)
      dsimp only [Pt.U, Pt.locs, Pt.cells, Pt.slots] at X101 l101 y101 z101 st101 hQ101
      subst l101 y101 z101
      obtain ⟨rfl, Nq101, Kq101, P101_0⟩ := hQ101
      have N101 := Fr.app N97 Nq101
      have K101 : Keep h0 T101.heap [] := K97.trans Kq101 (allS (P := fun x => x ∈ [] ∨ h0.size ≤ x) (Or.inr sz_b85) all0)
      have Z101 : n0 ≤ T101.heap.size := Nat.le_trans Z97 Kq101.1
      have A28_t101 := A28_t97.keep Kq101
      have P97_3_t101 := P97_3.keep Kq101 (ninS ne_b2_c29_b85 nin0)
      have P97_0_t101 := P97_0.keep Kq101 (ninS ne_o28_b85 nin0)
      have P97_1_t101 := P97_1.keep Kq101 (ninS ne_o28_b85 nin0)
      have P97_2_t101 := P97_2.keep Kq101 (ninS ne_o28_b85 nin0)
      have P97_4_t101 := P97_4.keep Kq101 (ninS ne_b4_c29_b85 nin0)
      have e101 : T101.heap = T101.heap := rfl
      obtain ⟨q102, hq102⟩ : ∃ z : Int32, z = (f_take_p0 v149 q94 q95 q96) := ⟨_, rfl⟩
      rw [← hq102] at P101_0
      obtain ⟨q103, hq103⟩ : ∃ z : Int32, z = (f_take_p1 v149 q94 q95 q96) := ⟨_, rfl⟩
      rw [← hq103] at P101_0
      obtain ⟨q104, hq104⟩ : ∃ z : Int32, z = (f_take_p2 v149 q94 q95 q96) := ⟨_, rfl⟩
      rw [← hq104] at P101_0
      refine Wq.step st101 ?_
      show Wq _ _ _ _ _ (T101.setTop (mkF m 157 #[.val (.int xlaw_1), .val (.int xlaw_2), .val (.int xlaw_3), .val (.int xlaw_4), .val (.int xlaw_5), .val (.int v4), .val (.int v12), .val (.int v20), .val (.int v28), .val (.int v36), .val (.ref o28), .val (.int v71), .val (.ref b85), .unset, .unset] []))
      refine Ow.aload X101 hx (pc' := 159) (hb hby at_157) rfl rfl ?_
      obtain ⟨cq105, kq105, q105a, q105b, q105c⟩ := isOf hZ e101 A28_t101
      obtain ⟨_, _, ⟨T105, L105, k105, n105⟩, -, X105, ⟨Lc105, hQ105, l105, y105, z105⟩, st105⟩ := X101.virtualBack hx (y := mt4) (z := mt4) hown (mvT hZ (kw16 hw)) (mvT hZ (kw17 hw)) (notFace_of_selects (args := #[]) (mvT hZ (kw19 hw))) (mvT hZ (kw19 hw)) (mvT hZ (kw18 hw)) (by decide) (backOf (W := 0) (rm_nextC l Z a0 hw [] o28 b2_c29 b4_c29 q99 q83 q100 T101.heap n0 Z101 A28_t101 P97_0_t101 P97_1_t101 P97_2_t101 P97_3_t101 P97_4_t101 g_o28 g_b2_c29 g_b4_c29 ne_o28_b2_c29 ne_o28_b4_c29 ne_b2_c29_b4_c29 (own_en106 A_v12 hq82 hq83 hq84 hq91 hq92 hq99 hq100)) hZ (kw20 hw) (kw3 hw) (by decide) (by decide)) q105a q105c (g := (mkF m 159 #[.val (.int xlaw_1), .val (.int xlaw_2), .val (.int xlaw_3), .val (.int xlaw_4), .val (.int xlaw_5), .val (.int v4), .val (.int v12), .val (.int v20), .val (.int v28), .val (.int v36), .val (.ref o28), .val (.int v71), .val (.ref b85), .unset, .unset] [(.ref o28)])) rfl (by rw [hml]; rfl) (Steps.refl _) (argsL := []) (rest := []) (lenOf pd2 rfl) rfl (by show 2 * 0 + _ ≤ _; exact Nat.le_of_eq rfl) (hb hby at_159) (fun _ _ => ⟨rfl, e101, (by decide : 4 + 0 ≤ _), (by decide : 12 + 0 ≤ _)⟩)
      dsimp only [Pt.U, Pt.locs, Pt.cells, Pt.slots] at X105 l105 y105 z105 st105 hQ105
      subst l105 y105 z105
      obtain ⟨rfl, Nq105, Kq105, P105_0, P105_1, P105_2, P105_3, P105_4⟩ := hQ105
      have N105 := Fr.app N101 Nq105
      have K105 : Keep h0 T105.heap [] := K101.trans Kq105 (allS (P := fun x => x ∈ [] ∨ h0.size ≤ x) (Or.inr sz_o28) (allS (P := fun x => x ∈ [] ∨ h0.size ≤ x) (Or.inr sz_b4_c29) all0))
      have Z105 : n0 ≤ T105.heap.size := Nat.le_trans Z101 Kq105.1
      have A28_t105 := A28_t101.keep Kq105
      have P97_3_t105 := P97_3_t101.keep Kq105 (ninS (Ne.symm ne_o28_b2_c29) (ninS ne_b2_c29_b4_c29 nin0))
      have P101_0_t105 := P101_0.keep Kq105 (ninS (Ne.symm ne_o28_b85) (ninS (Ne.symm ne_b4_c29_b85) nin0))
      have e105 : T105.heap = T105.heap := rfl
      obtain ⟨q107, hq107⟩ : ∃ z : Int32, z = (own_xC q99) := ⟨_, rfl⟩
      rw [← hq107] at P105_2
      obtain ⟨q108, hq108⟩ : ∃ z : List Value, z = (own_xB q83 q100 q99) := ⟨_, rfl⟩
      rw [← hq108] at P105_4
      refine Wq.steps st105 ?_
      show Wq _ _ _ _ _ (T105.setTop (mkF m 162 #[.val (.int xlaw_1), .val (.int xlaw_2), .val (.int xlaw_3), .val (.int xlaw_4), .val (.int xlaw_5), .val (.int v4), .val (.int v12), .val (.int v20), .val (.int v28), .val (.int v36), .val (.ref o28), .val (.int v71), .val (.ref b85), .unset, .unset] [(.int (own_xR q83 q99))]))
      generalize hv159 : (own_xR q83 q99) = v159
      show Wq _ _ _ _ _ (T105.setTop (mkF m 162 #[.val (.int xlaw_1), .val (.int xlaw_2), .val (.int xlaw_3), .val (.int xlaw_4), .val (.int xlaw_5), .val (.int v4), .val (.int v12), .val (.int v20), .val (.int v28), .val (.int v36), .val (.ref o28), .val (.int v71), .val (.ref b85), .unset, .unset] [(.int v159)]))
      refine Ow.aload X105 hx (pc' := 164) (hb hby at_162) rfl rfl ?_
      obtain ⟨_, _, ⟨T109, L109, k109, n109⟩, -, X109, ⟨Lc109, hQ109, l109, y109, z109⟩, st109⟩ := Jvm.LawKit.callS X105 hx (y := mt2) hown (mvT hZ (kw23 hw)) (mvT hZ (kw24 hw)) (mvT hZ (kw25 hw)) (mvT hZ (kw26 hw)) (by decide) (backOf (W := 0) (rm_take l Z a0 hw [] v159 b85 q102 q103 q104 T105.heap n0 Z105 P101_0_t105 g_b85) hZ (kw26 hw) (kw25 hw) (by decide) (by decide)) (g := (mkF m 164 #[.val (.int xlaw_1), .val (.int xlaw_2), .val (.int xlaw_3), .val (.int xlaw_4), .val (.int xlaw_5), .val (.int v4), .val (.int v12), .val (.int v20), .val (.int v28), .val (.int v36), .val (.ref o28), .val (.int v71), .val (.ref b85), .unset, .unset] [(.ref b85), (.int v159)])) rfl (by rw [hml]; rfl) (argsL := [(.int v159), (.ref b85)]) (rest := []) (lenOf pd3 rfl) rfl (by show 2 * 0 + _ ≤ _; exact Nat.le_of_eq rfl) (hb hby at_164) (fun _ _ => ⟨rfl, e105, (by decide : 4 + 0 ≤ _), (by decide : 12 + 0 ≤ _)⟩)
      dsimp only [Pt.U, Pt.locs, Pt.cells, Pt.slots] at X109 l109 y109 z109 st109 hQ109
      subst l109 y109 z109
      obtain ⟨rfl, Nq109, Kq109, P109_0⟩ := hQ109
      have N109 := Fr.app N105 Nq109
      have K109 : Keep h0 T109.heap [] := K105.trans Kq109 (allS (P := fun x => x ∈ [] ∨ h0.size ≤ x) (Or.inr sz_b85) all0)
      have Z109 : n0 ≤ T109.heap.size := Nat.le_trans Z105 Kq109.1
      have A28_t109 := A28_t105.keep Kq109
      have P105_3_t109 := P105_3.keep Kq109 (ninS ne_b2_c29_b85 nin0)
      have P105_0_t109 := P105_0.keep Kq109 (ninS ne_o28_b85 nin0)
      have P105_1_t109 := P105_1.keep Kq109 (ninS ne_o28_b85 nin0)
      have P105_2_t109 := P105_2.keep Kq109 (ninS ne_o28_b85 nin0)
      have P105_4_t109 := P105_4.keep Kq109 (ninS ne_b4_c29_b85 nin0)
      have e109 : T109.heap = T109.heap := rfl
      obtain ⟨q110, hq110⟩ : ∃ z : Int32, z = (f_take_p0 v159 q102 q103 q104) := ⟨_, rfl⟩
      rw [← hq110] at P109_0
      obtain ⟨q111, hq111⟩ : ∃ z : Int32, z = (f_take_p1 v159 q102 q103 q104) := ⟨_, rfl⟩
      rw [← hq111] at P109_0
      obtain ⟨q112, hq112⟩ : ∃ z : Int32, z = (f_take_p2 v159 q102 q103 q104) := ⟨_, rfl⟩
      rw [← hq112] at P109_0
      refine Wq.step st109 ?_
      show Wq _ _ _ _ _ (T109.setTop (mkF m 167 #[.val (.int xlaw_1), .val (.int xlaw_2), .val (.int xlaw_3), .val (.int xlaw_4), .val (.int xlaw_5), .val (.int v4), .val (.int v12), .val (.int v20), .val (.int v28), .val (.int v36), .val (.ref o28), .val (.int v71), .val (.ref b85), .unset, .unset] []))
      refine Ow.aload X109 hx (pc' := 169) (hb hby at_167) rfl rfl ?_
      obtain ⟨cq113, kq113, q113a, q113b, q113c⟩ := isOf hZ e109 A28_t109
      obtain ⟨_, _, ⟨T113, L113, k113, n113⟩, -, X113, ⟨Lc113, hQ113, l113, y113, z113⟩, st113⟩ := X109.virtualBack hx (y := mt4) (z := mt4) hown (mvT hZ (kw16 hw)) (mvT hZ (kw17 hw)) (notFace_of_selects (args := #[]) (mvT hZ (kw19 hw))) (mvT hZ (kw19 hw)) (mvT hZ (kw18 hw)) (by decide) (backOf (W := 0) (rm_nextC l Z a0 hw [] o28 b2_c29 b4_c29 q107 q83 q108 T109.heap n0 Z109 A28_t109 P105_0_t109 P105_1_t109 P105_2_t109 P105_3_t109 P105_4_t109 g_o28 g_b2_c29 g_b4_c29 ne_o28_b2_c29 ne_o28_b4_c29 ne_b2_c29_b4_c29 (own_en114 A_v12 hq82 hq83 hq84 hq91 hq92 hq99 hq100 hq107 hq108)) hZ (kw20 hw) (kw3 hw) (by decide) (by decide)) q113a q113c (g := (mkF m 169 #[.val (.int xlaw_1), .val (.int xlaw_2), .val (.int xlaw_3), .val (.int xlaw_4), .val (.int xlaw_5), .val (.int v4), .val (.int v12), .val (.int v20), .val (.int v28), .val (.int v36), .val (.ref o28), .val (.int v71), .val (.ref b85), .unset, .unset] [(.ref o28)])) rfl (by rw [hml]; rfl) (Steps.refl _) (argsL := []) (rest := []) (lenOf pd2 rfl) rfl (by show 2 * 0 + _ ≤ _; exact Nat.le_of_eq rfl) (hb hby at_169) (fun _ _ => ⟨rfl, e109, (by decide : 4 + 0 ≤ _), (by decide : 12 + 0 ≤ _)⟩)
      dsimp only [Pt.U, Pt.locs, Pt.cells, Pt.slots] at X113 l113 y113 z113 st113 hQ113
      subst l113 y113 z113
      obtain ⟨rfl, Nq113, Kq113, P113_0, P113_1, P113_2, P113_3, P113_4⟩ := hQ113
      have N113 := Fr.app N109 Nq113
      have K113 : Keep h0 T113.heap [] := K109.trans Kq113 (allS (P := fun x => x ∈ [] ∨ h0.size ≤ x) (Or.inr sz_o28) (allS (P := fun x => x ∈ [] ∨ h0.size ≤ x) (Or.inr sz_b4_c29) all0))
      have Z113 : n0 ≤ T113.heap.size := Nat.le_trans Z109 Kq113.1
      have A28_t113 := A28_t109.keep Kq113
      have P105_3_t113 := P105_3_t109.keep Kq113 (ninS (Ne.symm ne_o28_b2_c29) (ninS ne_b2_c29_b4_c29 nin0))
      have P109_0_t113 := P109_0.keep Kq113 (ninS (Ne.symm ne_o28_b85) (ninS (Ne.symm ne_b4_c29_b85) nin0))
      have e113 : T113.heap = T113.heap := rfl
      obtain ⟨q115, hq115⟩ : ∃ z : Int32, z = (own_xC q107) := ⟨_, rfl⟩
      rw [← hq115] at P113_2
      obtain ⟨q116, hq116⟩ : ∃ z : List Value, z = (own_xB q83 q108 q107) := ⟨_, rfl⟩
      rw [← hq116] at P113_4
      refine Wq.steps st113 ?_
      show Wq _ _ _ _ _ (T113.setTop (mkF m 172 #[.val (.int xlaw_1), .val (.int xlaw_2), .val (.int xlaw_3), .val (.int xlaw_4), .val (.int xlaw_5), .val (.int v4), .val (.int v12), .val (.int v20), .val (.int v28), .val (.int v36), .val (.ref o28), .val (.int v71), .val (.ref b85), .unset, .unset] [(.int (own_xR q83 q107))]))
      generalize hv169 : (own_xR q83 q107) = v169
      show Wq _ _ _ _ _ (T113.setTop (mkF m 172 #[.val (.int xlaw_1), .val (.int xlaw_2), .val (.int xlaw_3), .val (.int xlaw_4), .val (.int xlaw_5), .val (.int v4), .val (.int v12), .val (.int v20), .val (.int v28), .val (.int v36), .val (.ref o28), .val (.int v71), .val (.ref b85), .unset, .unset] [(.int v169)]))
      refine Ow.aload X113 hx (pc' := 174) (hb hby at_172) rfl rfl ?_
      obtain ⟨_, _, ⟨T117, L117, k117, n117⟩, -, X117, ⟨Lc117, hQ117, l117, y117, z117⟩, st117⟩ := Jvm.LawKit.callS X113 hx (y := mt2) hown (mvT hZ (kw23 hw)) (mvT hZ (kw24 hw)) (mvT hZ (kw25 hw)) (mvT hZ (kw26 hw)) (by decide) (backOf (W := 0) (rm_take l Z a0 hw [] v169 b85 q110 q111 q112 T113.heap n0 Z113 P109_0_t113 g_b85) hZ (kw26 hw) (kw25 hw) (by decide) (by decide)) (g := (mkF m 174 #[.val (.int xlaw_1), .val (.int xlaw_2), .val (.int xlaw_3), .val (.int xlaw_4), .val (.int xlaw_5), .val (.int v4), .val (.int v12), .val (.int v20), .val (.int v28), .val (.int v36), .val (.ref o28), .val (.int v71), .val (.ref b85), .unset, .unset] [(.ref b85), (.int v169)])) rfl (by rw [hml]; rfl) (argsL := [(.int v169), (.ref b85)]) (rest := []) (lenOf pd3 rfl) rfl (by show 2 * 0 + _ ≤ _; exact Nat.le_of_eq rfl) (hb hby at_174) (fun _ _ => ⟨rfl, e113, (by decide : 4 + 0 ≤ _), (by decide : 12 + 0 ≤ _)⟩)
      dsimp only [Pt.U, Pt.locs, Pt.cells, Pt.slots] at X117 l117 y117 z117 st117 hQ117
      subst l117 y117 z117
      obtain ⟨rfl, Nq117, Kq117, P117_0⟩ := hQ117
      have N117 := Fr.app N113 Nq117
      have K117 : Keep h0 T117.heap [] := K113.trans Kq117 (allS (P := fun x => x ∈ [] ∨ h0.size ≤ x) (Or.inr sz_b85) all0)
      have Z117 : n0 ≤ T117.heap.size := Nat.le_trans Z113 Kq117.1
      have A28_t117 := A28_t113.keep Kq117
      have P113_3_t117 := P113_3.keep Kq117 (ninS ne_b2_c29_b85 nin0)
      have P113_0_t117 := P113_0.keep Kq117 (ninS ne_o28_b85 nin0)
      have P113_1_t117 := P113_1.keep Kq117 (ninS ne_o28_b85 nin0)
      have P113_2_t117 := P113_2.keep Kq117 (ninS ne_o28_b85 nin0)
      have P113_4_t117 := P113_4.keep Kq117 (ninS ne_b4_c29_b85 nin0)
      have e117 : T117.heap = T117.heap := rfl
      obtain ⟨q118, hq118⟩ : ∃ z : Int32, z = (f_take_p0 v169 q110 q111 q112) := ⟨_, rfl⟩
      rw [← hq118] at P117_0
      obtain ⟨q119, hq119⟩ : ∃ z : Int32, z = (f_take_p1 v169 q110 q111 q112) := ⟨_, rfl⟩
      rw [← hq119] at P117_0
      obtain ⟨q120, hq120⟩ : ∃ z : Int32, z = (f_take_p2 v169 q110 q111 q112) := ⟨_, rfl⟩
      rw [← hq120] at P117_0
      refine Wq.step st117 ?_
      show Wq _ _ _ _ _ (T117.setTop (mkF m 177 #[.val (.int xlaw_1), .val (.int xlaw_2), .val (.int xlaw_3), .val (.int xlaw_4), .val (.int xlaw_5), .val (.int v4), .val (.int v12), .val (.int v20), .val (.int v28), .val (.int v36), .val (.ref o28), .val (.int v71), .val (.ref b85), .unset, .unset] []))
      refine Ow.aload X117 hx (pc' := 179) (hb hby at_177) rfl rfl ?_
      refine Ow.iconst X117 hx (pc' := 180) (hb hby at_179) (z := (2 : Int32)) rfl ?_
      refine Ow.ldI X117 hx hZ e117 P117_0 (pc' := 181) (hb hby at_180) (j := (2 : Int32)) (i := 2) (v := (.int q120)) (by decide) rfl rfl ?_
      refine Ow.iconst X117 hx (pc' := 182) (hb hby at_181) (z := (1 : Int32)) rfl ?_
      refine Ow.icmpNo X117 hx (pc' := 185) (hb hby at_182) (teq (own_en121 A_v12 hq82 hq83 hq91 hv139 hq94 hq95 hq96 hq99 hv149 hq102 hq103 hq104 hq107 hv159 hq110 hq111 hq112 hv169 hq120 : q120 = (1 : Int32))).2 ?_
      refine Ow.aload X117 hx (pc' := 187) (hb hby at_185) rfl rfl ?_
      refine Ow.iconst X117 hx (pc' := 188) (hb hby at_187) (z := (1 : Int32)) rfl ?_
      refine Ow.ldI X117 hx hZ e117 P117_0 (pc' := 189) (hb hby at_188) (j := (1 : Int32)) (i := 1) (v := (.int q119)) (by decide) rfl rfl ?_
      refine Ow.iconst X117 hx (pc' := 190) (hb hby at_189) (z := (1 : Int32)) rfl ?_
      refine Ow.icmpNo X117 hx (pc' := 193) (hb hby at_190) (teq (own_en122 A_v12 hq82 hq83 hq91 hv139 hq94 hq95 hq96 hq99 hv149 hq102 hq103 hq104 hq107 hv159 hq110 hq111 hq112 hv169 hq119 : q119 = (1 : Int32))).2 ?_
      refine Ow.aload X117 hx (pc' := 195) (hb hby at_193) rfl rfl ?_
      refine Ow.iconst X117 hx (pc' := 196) (hb hby at_195) (z := (0 : Int32)) rfl ?_
      refine Ow.ldI X117 hx hZ e117 P117_0 (pc' := 197) (hb hby at_196) (j := (0 : Int32)) (i := 0) (v := (.int q118)) (by decide) rfl rfl ?_
      refine Ow.iload X117 hx (pc' := 199) (hb hby at_197) rfl ?_
      refine Ow.icmpNo X117 hx (pc' := 202) (hb hby at_199) (teq (own_en123 A_v12 hq82 hq83 hv71 hq91 hv139 hq94 hq95 hq96 hq99 hv149 hq102 hq103 hq104 hq107 hv159 hq110 hq111 hq112 hv169 hq118 : q118 = v71)).2 ?_
      refine Ow.iconst X117 hx (pc' := 203) (hb hby at_202) (z := (1 : Int32)) rfl ?_
      refine Ow.goto X117 hx (pc' := 207) (hb hby at_203) (by decide) (by decide) ?_
      refine Ow.istore X117 hx (pc' := 209) (hb hby at_207) (l' := #[.val (.int xlaw_1), .val (.int xlaw_2), .val (.int xlaw_3), .val (.int xlaw_4), .val (.int xlaw_5), .val (.int v4), .val (.int v12), .val (.int v20), .val (.int v28), .val (.int v36), .val (.ref o28), .val (.int v71), .val (.ref b85), .val (.int (1 : Int32)), .unset]) rfl ?_
      refine Ow.aload X117 hx (pc' := 211) (hb hby at_209) rfl rfl ?_
      refine Ow.iload X117 hx (pc' := 213) (hb hby at_211) rfl ?_
      obtain ⟨cq124, kq124, q124a, q124b, q124c⟩ := isOf hZ e117 A28_t117
      obtain ⟨_, _, ⟨T124, L124, k124, n124⟩, -, X124, ⟨Lc124, hQ124, l124, y124, z124⟩, st124⟩ := X117.virtualBack hx (y := mt3) (z := mt3) hown (mvT hZ (kw27 hw)) (mvT hZ (kw28 hw)) (notFace_of_selects (args := #[]) (mvT hZ (kw30 hw))) (mvT hZ (kw30 hw)) (mvT hZ (kw29 hw)) (by decide) (backOf (W := 0) (rm_noteC l Z a0 hw [] o28 v36 b2_c29 b4_c29 q115 q83 q116 T117.heap n0 Z117 A28_t117 P113_0_t117 P113_1_t117 P113_2_t117 P113_3_t117 P113_4_t117 g_o28 g_b2_c29 g_b4_c29 ne_o28_b2_c29 ne_o28_b4_c29 ne_b2_c29_b4_c29 (own_en125 A_v12 A_v36 hq82 hq83 hq84 hq91 hq92 hq99 hq100 hq107 hq108 hq115 hq116)) hZ (kw31 hw) (kw3 hw) (by decide) (by decide)) q124a q124c (g := (mkF m 213 #[.val (.int xlaw_1), .val (.int xlaw_2), .val (.int xlaw_3), .val (.int xlaw_4), .val (.int xlaw_5), .val (.int v4), .val (.int v12), .val (.int v20), .val (.int v28), .val (.int v36), .val (.ref o28), .val (.int v71), .val (.ref b85), .val (.int (1 : Int32)), .unset] [(.int v36), (.ref o28)])) rfl (by rw [hml]; rfl) (Steps.refl _) (argsL := [(.int v36)]) (rest := []) (lenOf pd1 rfl) rfl (by show 2 * 0 + _ ≤ _; exact Nat.le_of_eq rfl) (hb hby at_213) (fun _ _ => ⟨rfl, e117, (by decide : 4 + 0 ≤ _), (by decide : 12 + 0 ≤ _)⟩)
      dsimp only [Pt.U, Pt.locs, Pt.cells, Pt.slots] at X124 l124 y124 z124 st124 hQ124
      subst l124 y124 z124
      obtain ⟨rfl, Nq124, Kq124, P124_0, P124_1, P124_2, P124_3, P124_4⟩ := hQ124
      have N124 := Fr.app N117 Nq124
      have K124 : Keep h0 T124.heap [] := K117.trans Kq124 (allS (P := fun x => x ∈ [] ∨ h0.size ≤ x) (Or.inr sz_b4_c29) (allS (P := fun x => x ∈ [] ∨ h0.size ≤ x) (Or.inr sz_o28) (allS (P := fun x => x ∈ [] ∨ h0.size ≤ x) (Or.inr sz_b2_c29) all0)))
      have Z124 : n0 ≤ T124.heap.size := Nat.le_trans Z117 Kq124.1
      have A28_t124 := A28_t117.keep Kq124
      have P117_0_t124 := P117_0.keep Kq124 (ninS (Ne.symm ne_b4_c29_b85) (ninS (Ne.symm ne_o28_b85) (ninS (Ne.symm ne_b2_c29_b85) nin0)))
      have e124 : T124.heap = T124.heap := rfl
      obtain ⟨q126, hq126⟩ : ∃ z : Int32, z = (own_nC q116 q115 v36) := ⟨_, rfl⟩
      rw [← hq126] at P124_2
      obtain ⟨q127, hq127⟩ : ∃ z : List Value, z = (own_nV q83 q116 q115 v36) := ⟨_, rfl⟩
      rw [← hq127] at P124_3
      obtain ⟨q128, hq128⟩ : ∃ z : List Value, z = (own_nB q116 v36) := ⟨_, rfl⟩
      rw [← hq128] at P124_4
      refine Wq.steps st124 ?_
      show Wq _ _ _ _ _ (T124.setTop (mkF m 216 #[.val (.int xlaw_1), .val (.int xlaw_2), .val (.int xlaw_3), .val (.int xlaw_4), .val (.int xlaw_5), .val (.int v4), .val (.int v12), .val (.int v20), .val (.int v28), .val (.int v36), .val (.ref o28), .val (.int v71), .val (.ref b85), .val (.int (1 : Int32)), .unset] []))
      refine Ow.aload X124 hx (pc' := 218) (hb hby at_216) rfl rfl ?_
      obtain ⟨cq129, kq129, q129a, q129b, q129c⟩ := isOf hZ e124 A28_t124
      obtain ⟨_, _, ⟨T129, L129, k129, n129⟩, -, X129, ⟨Lc129, hQ129, l129, y129, z129⟩, st129⟩ := X124.virtualBack hx (y := mt4) (z := mt4) hown (mvT hZ (kw16 hw)) (mvT hZ (kw17 hw)) (notFace_of_selects (args := #[]) (mvT hZ (kw19 hw))) (mvT hZ (kw19 hw)) (mvT hZ (kw18 hw)) (by decide) (backOf (W := 0) (rm_nextC l Z a0 hw [] o28 b2_c29 b4_c29 q126 q127 q128 T124.heap n0 Z124 A28_t124 P124_0 P124_1 P124_2 P124_3 P124_4 g_o28 g_b2_c29 g_b4_c29 ne_o28_b2_c29 ne_o28_b4_c29 ne_b2_c29_b4_c29 (own_en130 A_v12 A_v36 hq82 hq83 hq84 hq91 hq92 hq99 hq100 hq107 hq108 hq115 hq116 hq126 hq127 hq128)) hZ (kw20 hw) (kw3 hw) (by decide) (by decide)) q129a q129c (g := (mkF m 218 #[.val (.int xlaw_1), .val (.int xlaw_2), .val (.int xlaw_3), .val (.int xlaw_4), .val (.int xlaw_5), .val (.int v4), .val (.int v12), .val (.int v20), .val (.int v28), .val (.int v36), .val (.ref o28), .val (.int v71), .val (.ref b85), .val (.int (1 : Int32)), .unset] [(.ref o28)])) rfl (by rw [hml]; rfl) (Steps.refl _) (argsL := []) (rest := []) (lenOf pd2 rfl) rfl (by show 2 * 0 + _ ≤ _; exact Nat.le_of_eq rfl) (hb hby at_218) (fun _ _ => ⟨rfl, e124, (by decide : 4 + 0 ≤ _), (by decide : 12 + 0 ≤ _)⟩)
      dsimp only [Pt.U, Pt.locs, Pt.cells, Pt.slots] at X129 l129 y129 z129 st129 hQ129
      subst l129 y129 z129
      obtain ⟨rfl, Nq129, Kq129, P129_0, P129_1, P129_2, P129_3, P129_4⟩ := hQ129
      have N129 := Fr.app N124 Nq129
      have K129 : Keep h0 T129.heap [] := K124.trans Kq129 (allS (P := fun x => x ∈ [] ∨ h0.size ≤ x) (Or.inr sz_o28) (allS (P := fun x => x ∈ [] ∨ h0.size ≤ x) (Or.inr sz_b4_c29) all0))
      have Z129 : n0 ≤ T129.heap.size := Nat.le_trans Z124 Kq129.1
      have A28_t129 := A28_t124.keep Kq129
      have P117_0_t129 := P117_0_t124.keep Kq129 (ninS (Ne.symm ne_o28_b85) (ninS (Ne.symm ne_b4_c29_b85) nin0))
      have P124_3_t129 := P124_3.keep Kq129 (ninS (Ne.symm ne_o28_b2_c29) (ninS ne_b2_c29_b4_c29 nin0))
      have e129 : T129.heap = T129.heap := rfl
      obtain ⟨q131, hq131⟩ : ∃ z : Int32, z = (own_xC q126) := ⟨_, rfl⟩
      rw [← hq131] at P129_2
      obtain ⟨q132, hq132⟩ : ∃ z : List Value, z = (own_xB q127 q128 q126) := ⟨_, rfl⟩
      rw [← hq132] at P129_4
      refine Wq.steps st129 ?_
      show Wq _ _ _ _ _ (T129.setTop (mkF m 221 #[.val (.int xlaw_1), .val (.int xlaw_2), .val (.int xlaw_3), .val (.int xlaw_4), .val (.int xlaw_5), .val (.int v4), .val (.int v12), .val (.int v20), .val (.int v28), .val (.int v36), .val (.ref o28), .val (.int v71), .val (.ref b85), .val (.int (1 : Int32)), .unset] [(.int (own_xR q127 q126))]))
      generalize hv218 : (own_xR q127 q126) = v218
      show Wq _ _ _ _ _ (T129.setTop (mkF m 221 #[.val (.int xlaw_1), .val (.int xlaw_2), .val (.int xlaw_3), .val (.int xlaw_4), .val (.int xlaw_5), .val (.int v4), .val (.int v12), .val (.int v20), .val (.int v28), .val (.int v36), .val (.ref o28), .val (.int v71), .val (.ref b85), .val (.int (1 : Int32)), .unset] [(.int v218)]))
      refine Ow.iload X129 hx (pc' := 223) (hb hby at_221) rfl ?_
      refine Ow.icmpNo X129 hx (pc' := 226) (hb hby at_223) (teq (own_en133 A_v12 A_v36 hq82 hq83 hq84 hq91 hq92 hq99 hq100 hq107 hq108 hq115 hq116 hq126 hq127 hv218 : v218 = v36)).2 ?_
      refine Ow.iconst X129 hx (pc' := 227) (hb hby at_226) (z := (1 : Int32)) rfl ?_
      refine Ow.goto X129 hx (pc' := 231) (hb hby at_227) (by decide) (by decide) ?_
      refine Ow.istore X129 hx (pc' := 233) (hb hby at_231) (l' := #[.val (.int xlaw_1), .val (.int xlaw_2), .val (.int xlaw_3), .val (.int xlaw_4), .val (.int xlaw_5), .val (.int v4), .val (.int v12), .val (.int v20), .val (.int v28), .val (.int v36), .val (.ref o28), .val (.int v71), .val (.ref b85), .val (.int (1 : Int32)), .val (.int (1 : Int32))]) rfl ?_
      refine Ow.iload X129 hx (pc' := 235) (hb hby at_233) rfl ?_
      refine Ow.ifNo X129 hx (pc' := 238) (hb hby at_235) ((if0 _ _).trans (feq (by decide : ¬ ((1 : Int32) = (0 : Int32)))).1) ?_
      refine Ow.iload X129 hx (pc' := 240) (hb hby at_238) rfl ?_
      refine Ow.ifNo X129 hx (pc' := 243) (hb hby at_240) ((if0 _ _).trans (feq (by decide : ¬ ((1 : Int32) = (0 : Int32)))).1) ?_
      refine Ow.iconst X129 hx (pc' := 244) (hb hby at_243) (z := (1 : Int32)) rfl ?_
      refine Ow.goto X129 hx (pc' := 248) (hb hby at_244) (by decide) (by decide) ?_
      exact Wq.ret X129 (BodyLoose.notSynchronized Bd) (rv := some (.int (1 : Int32))) (fun h => by rw [Bd.returns] at h; cases h) (fun _ hr => retN X129 hx (t := .boolean) Bd.returns (by simp) (hb hby at_248) hr) (by decide) (by decide) ⟨rfl, N129⟩
    · skip
      refine Ow.icmpNo X80 hx (pc' := 79) (hb hby at_76) (flt hc76).1 ?_
      refine Ow.aload X80 hx (pc' := 81) (hb hby at_79) rfl rfl ?_
      refine Ow.iload X80 hx (pc' := 83) (hb hby at_81) rfl ?_
      obtain ⟨cq134, kq134, q134a, q134b, q134c⟩ := isOf hZ e80 A28_t80
      obtain ⟨_, _, ⟨T134, L134, k134, n134⟩, -, X134, ⟨Lc134, hQ134, l134, y134, z134⟩, st134⟩ := X80.virtualBack hx (y := mt3) (z := mt3) hown (mvT hZ (kw27 hw)) (mvT hZ (kw28 hw)) (notFace_of_selects (args := #[]) (mvT hZ (kw30 hw))) (mvT hZ (kw30 hw)) (mvT hZ (kw29 hw)) (by decide) (backOf (W := 0) (rm_noteC l Z a0 hw [] o28 v20 b2_c29 b4_c29 q82 q83 q84 T80.heap n0 Z80 A28_t80 P80_0 P80_1 P80_2 P80_3 P80_4 g_o28 g_b2_c29 g_b4_c29 ne_o28_b2_c29 ne_o28_b4_c29 ne_b2_c29_b4_c29 (own_en135 A_v12 A_v20 hq82 hq83 hq84)) hZ (kw31 hw) (kw3 hw) (by decide) (by decide)) q134a q134c (g := (mkF m 83 #[.val (.int xlaw_1), .val (.int xlaw_2), .val (.int xlaw_3), .val (.int xlaw_4), .val (.int xlaw_5), .val (.int v4), .val (.int v12), .val (.int v20), .val (.int v28), .val (.int v36), .val (.ref o28), .val (.int v71), .unset, .unset, .unset] [(.int v20), (.ref o28)])) rfl (by rw [hml]; rfl) (Steps.refl _) (argsL := [(.int v20)]) (rest := []) (lenOf pd1 rfl) rfl (by show 2 * 0 + _ ≤ _; exact Nat.le_of_eq rfl) (hb hby at_83) (fun _ _ => ⟨rfl, e80, (by decide : 3 + 0 ≤ _), (by decide : 9 + 0 ≤ _)⟩)
      dsimp only [Pt.U, Pt.locs, Pt.cells, Pt.slots] at X134 l134 y134 z134 st134 hQ134
      subst l134 y134 z134
      obtain ⟨rfl, Nq134, Kq134, P134_0, P134_1, P134_2, P134_3, P134_4⟩ := hQ134
      have N134 := Fr.app N80 Nq134
      have K134 : Keep h0 T134.heap [] := K80.trans Kq134 (allS (P := fun x => x ∈ [] ∨ h0.size ≤ x) (Or.inr sz_b4_c29) (allS (P := fun x => x ∈ [] ∨ h0.size ≤ x) (Or.inr sz_o28) (allS (P := fun x => x ∈ [] ∨ h0.size ≤ x) (Or.inr sz_b2_c29) all0)))
      have Z134 : n0 ≤ T134.heap.size := Nat.le_trans Z80 Kq134.1
      have A28_t134 := A28_t80.keep Kq134
      have e134 : T134.heap = T134.heap := rfl
      obtain ⟨q136, hq136⟩ : ∃ z : Int32, z = (own_nC q84 q82 v20) := ⟨_, rfl⟩
      rw [← hq136] at P134_2
      obtain ⟨q137, hq137⟩ : ∃ z : List Value, z = (own_nV q83 q84 q82 v20) := ⟨_, rfl⟩
      rw [← hq137] at P134_3
      obtain ⟨q138, hq138⟩ : ∃ z : List Value, z = (own_nB q84 v20) := ⟨_, rfl⟩
      rw [← hq138] at P134_4
      refine Wq.steps st134 ?_
      show Wq _ _ _ _ _ (T134.setTop (mkF m 86 #[.val (.int xlaw_1), .val (.int xlaw_2), .val (.int xlaw_3), .val (.int xlaw_4), .val (.int xlaw_5), .val (.int v4), .val (.int v12), .val (.int v20), .val (.int v28), .val (.int v36), .val (.ref o28), .val (.int v71), .unset, .unset, .unset] []))
      refine Ow.iload X134 hx (pc' := 88) (hb hby at_86) rfl ?_
      refine Ow.iconst X134 hx (pc' := 89) (hb hby at_88) (z := (1 : Int32)) rfl ?_
      refine Ow.iload X134 hx (pc' := 91) (hb hby at_89) rfl ?_
      refine Ow.ishl X134 hx (pc' := 92) (hb hby at_91) (z := ((1 : Int32) <<< (v20 &&& 31))) rfl ?_
      refine Ow.ior X134 hx (pc' := 93) (hb hby at_92) (z := (v71 ||| ((1 : Int32) <<< (v20 &&& 31)))) rfl ?_
      refine Ow.istore X134 hx (pc' := 95) (hb hby at_93) (l' := #[.val (.int xlaw_1), .val (.int xlaw_2), .val (.int xlaw_3), .val (.int xlaw_4), .val (.int xlaw_5), .val (.int v4), .val (.int v12), .val (.int v20), .val (.int v28), .val (.int v36), .val (.ref o28), .val (.int (v71 ||| ((1 : Int32) <<< (v20 &&& 31)))), .unset, .unset, .unset]) rfl ?_
      generalize hv93 : (v71 ||| ((1 : Int32) <<< (v20 &&& 31))) = v93
      refine Ow.iload X134 hx (pc' := 97) (hb hby at_95) rfl ?_
      refine Ow.iconst X134 hx (pc' := 98) (hb hby at_97) (z := (3 : Int32)) rfl ?_
      by_cases hc98 : v4 < (3 : Int32)
      · skip
        refine Ow.icmpYes X134 hx (pc' := 117) (hb hby at_98) (tlt hc98).1 (by decide) (by decide) ?_
        refine Ow.iconst X134 hx (pc' := 118) (hb hby at_117) (z := (3 : Int32)) rfl ?_
        obtain ⟨T139, h139, k139, X139, e139, E139, A139, st139⟩ := newP X134 hx hZ (aty := .int) (kw10 hw) e134 (g := (mkF m 118 #[.val (.int xlaw_1), .val (.int xlaw_2), .val (.int xlaw_3), .val (.int xlaw_4), .val (.int xlaw_5), .val (.int v4), .val (.int v12), .val (.int v20), .val (.int v28), .val (.int v36), .val (.ref o28), .val (.int v93), .unset, .unset, .unset] [(.int (3 : Int32))])) rfl (hb hby at_118) rfl (by decide) (cap := 3) (by decide) (by decide) (by decide) (by decide)
        obtain ⟨b139, gz139⟩ : ∃ z, z = T134.heap.size := ⟨_, rfl⟩
        rw [← gz139] at A139 st139
        have g_b139 : n0 ≤ b139 := Nat.le_trans Z134 (Nat.le_of_eq gz139.symm)
        have sz_b139 : h0.size ≤ b139 := Nat.le_trans K134.1 (Nat.le_of_eq gz139.symm)
        have ne_o28_b139 : o28 ≠ b139 := Nat.ne_of_lt (Nat.lt_of_lt_of_le A28_t134.lt (Nat.le_of_eq gz139.symm))
        have ne_b2_c29_b139 : b2_c29 ≠ b139 := Nat.ne_of_lt (Nat.lt_of_lt_of_le P134_3.lt (Nat.le_of_eq gz139.symm))
        have ne_b4_c29_b139 : b4_c29 ≠ b139 := Nat.ne_of_lt (Nat.lt_of_lt_of_le P134_4.lt (Nat.le_of_eq gz139.symm))
        have K139 : Keep h0 h139 [] := K134.ext E139
        have Z139 : n0 ≤ h139.size := Nat.le_trans Z134 E139.1
        have A28_t139 := A28_t134.ext E139
        have P134_0_t139 := P134_0.ext E139
        have P134_1_t139 := P134_1.ext E139
        have P134_2_t139 := P134_2.ext E139
        have P134_3_t139 := P134_3.ext E139
        have P134_4_t139 := P134_4.ext E139
        have V_b139 : Al Z h139 b139 .int [(.int (0 : Int32)), (.int (0 : Int32)), (.int (0 : Int32))] := Al.new A139 (k := 3) (rfl) rfl
        refine Wq.step st139 ?_
        show Wq _ _ _ _ _ (T139.setTop (mkF m 120 #[.val (.int xlaw_1), .val (.int xlaw_2), .val (.int xlaw_3), .val (.int xlaw_4), .val (.int xlaw_5), .val (.int v4), .val (.int v12), .val (.int v20), .val (.int v28), .val (.int v36), .val (.ref o28), .val (.int v93), .unset, .unset, .unset] [(.ref b139)]))
        refine Ow.astore X139 hx (pc' := 122) (hb hby at_120) rfl (l' := #[.val (.int xlaw_1), .val (.int xlaw_2), .val (.int xlaw_3), .val (.int xlaw_4), .val (.int xlaw_5), .val (.int v4), .val (.int v12), .val (.int v20), .val (.int v28), .val (.int v36), .val (.ref o28), .val (.int v93), .val (.ref b139), .unset, .unset]) rfl ?_
        refine Ow.aload X139 hx (pc' := 124) (hb hby at_122) rfl rfl ?_
        refine Ow.iconst X139 hx (pc' := 125) (hb hby at_124) (z := (0 : Int32)) rfl ?_
        refine Ow.iconst X139 hx (pc' := 126) (hb hby at_125) (z := (0 : Int32)) rfl ?_
        obtain ⟨T140, h140, X140, e140, W140, Vr140, st140⟩ := asI X139 hx hZ e139 V_b139 (j := (0 : Int32)) (i := 0) (by decide) rfl (Nat.le_of_ble_eq_true rfl) (g := (mkF m 126 #[.val (.int xlaw_1), .val (.int xlaw_2), .val (.int xlaw_3), .val (.int xlaw_4), .val (.int xlaw_5), .val (.int v4), .val (.int v12), .val (.int v20), .val (.int v28), .val (.int v36), .val (.ref o28), .val (.int v93), .val (.ref b139), .unset, .unset] [(.int (0 : Int32)), (.int (0 : Int32)), (.ref b139)])) rfl rfl (hb hby at_126)
        refine Wq.step st140 ?_
        have N140 := Fr.snoc X140 N134 g_b139
        have K140 : Keep h0 h140 [] := K139.wr W140 (Or.inr sz_b139)
        have Z140 : n0 ≤ h140.size := Nat.le_trans Z139 (Keep.of_wr W140).1
        have A28_t140 := A28_t139.wr W140
        have P134_0_t140 := P134_0_t139.other W140 (Or.inl ne_o28_b139)
        have P134_1_t140 := P134_1_t139.other W140 (Or.inl ne_o28_b139)
        have P134_2_t140 := P134_2_t139.other W140 (Or.inl ne_o28_b139)
        have P134_3_t140 := P134_3_t139.other W140 ne_b2_c29_b139
        have P134_4_t140 := P134_4_t139.other W140 ne_b4_c29_b139
        have V_b139_t140 : Al Z h140 b139 .int [(.int (0 : Int32)), (.int (0 : Int32)), (.int (0 : Int32))] := Vr140
        show Wq _ _ _ _ _ (T140.setTop (mkF m 127 #[.val (.int xlaw_1), .val (.int xlaw_2), .val (.int xlaw_3), .val (.int xlaw_4), .val (.int xlaw_5), .val (.int v4), .val (.int v12), .val (.int v20), .val (.int v28), .val (.int v36), .val (.ref o28), .val (.int v93), .val (.ref b139), .unset, .unset] []))
        refine Ow.aload X140 hx (pc' := 129) (hb hby at_127) rfl rfl ?_
        refine Ow.iconst X140 hx (pc' := 130) (hb hby at_129) (z := (1 : Int32)) rfl ?_
        refine Ow.iconst X140 hx (pc' := 131) (hb hby at_130) (z := (0 : Int32)) rfl ?_
        obtain ⟨T141, h141, X141, e141, W141, Vr141, st141⟩ := asI X140 hx hZ e140 V_b139_t140 (j := (1 : Int32)) (i := 1) (by decide) rfl (Nat.le_of_ble_eq_true rfl) (g := (mkF m 131 #[.val (.int xlaw_1), .val (.int xlaw_2), .val (.int xlaw_3), .val (.int xlaw_4), .val (.int xlaw_5), .val (.int v4), .val (.int v12), .val (.int v20), .val (.int v28), .val (.int v36), .val (.ref o28), .val (.int v93), .val (.ref b139), .unset, .unset] [(.int (0 : Int32)), (.int (1 : Int32)), (.ref b139)])) rfl rfl (hb hby at_131)
        refine Wq.step st141 ?_
        have N141 := Fr.snoc X141 N140 g_b139
        have K141 : Keep h0 h141 [] := K140.wr W141 (Or.inr sz_b139)
        have Z141 : n0 ≤ h141.size := Nat.le_trans Z140 (Keep.of_wr W141).1
        have A28_t141 := A28_t140.wr W141
        have P134_0_t141 := P134_0_t140.other W141 (Or.inl ne_o28_b139)
        have P134_1_t141 := P134_1_t140.other W141 (Or.inl ne_o28_b139)
        have P134_2_t141 := P134_2_t140.other W141 (Or.inl ne_o28_b139)
        have P134_3_t141 := P134_3_t140.other W141 ne_b2_c29_b139
        have P134_4_t141 := P134_4_t140.other W141 ne_b4_c29_b139
        have V_b139_t141 : Al Z h141 b139 .int [(.int (0 : Int32)), (.int (0 : Int32)), (.int (0 : Int32))] := Vr141
        show Wq _ _ _ _ _ (T141.setTop (mkF m 132 #[.val (.int xlaw_1), .val (.int xlaw_2), .val (.int xlaw_3), .val (.int xlaw_4), .val (.int xlaw_5), .val (.int v4), .val (.int v12), .val (.int v20), .val (.int v28), .val (.int v36), .val (.ref o28), .val (.int v93), .val (.ref b139), .unset, .unset] []))
        refine Ow.aload X141 hx (pc' := 134) (hb hby at_132) rfl rfl ?_
        refine Ow.iconst X141 hx (pc' := 135) (hb hby at_134) (z := (2 : Int32)) rfl ?_
        refine Ow.iconst X141 hx (pc' := 136) (hb hby at_135) (z := (1 : Int32)) rfl ?_
        obtain ⟨T142, h142, X142, e142, W142, Vr142, st142⟩ := asI X141 hx hZ e141 V_b139_t141 (j := (2 : Int32)) (i := 2) (by decide) rfl (Nat.le_of_ble_eq_true rfl) (g := (mkF m 136 #[.val (.int xlaw_1), .val (.int xlaw_2), .val (.int xlaw_3), .val (.int xlaw_4), .val (.int xlaw_5), .val (.int v4), .val (.int v12), .val (.int v20), .val (.int v28), .val (.int v36), .val (.ref o28), .val (.int v93), .val (.ref b139), .unset, .unset] [(.int (1 : Int32)), (.int (2 : Int32)), (.ref b139)])) rfl rfl (hb hby at_136)
        refine Wq.step st142 ?_
        have N142 := Fr.snoc X142 N141 g_b139
        have K142 : Keep h0 h142 [] := K141.wr W142 (Or.inr sz_b139)
        have Z142 : n0 ≤ h142.size := Nat.le_trans Z141 (Keep.of_wr W142).1
        have A28_t142 := A28_t141.wr W142
        have P134_0_t142 := P134_0_t141.other W142 (Or.inl ne_o28_b139)
        have P134_1_t142 := P134_1_t141.other W142 (Or.inl ne_o28_b139)
        have P134_2_t142 := P134_2_t141.other W142 (Or.inl ne_o28_b139)
        have P134_3_t142 := P134_3_t141.other W142 ne_b2_c29_b139
        have P134_4_t142 := P134_4_t141.other W142 ne_b4_c29_b139
        have V_b139_t142 : Al Z h142 b139 .int [(.int (0 : Int32)), (.int (0 : Int32)), (.int (1 : Int32))] := Vr142
        show Wq _ _ _ _ _ (T142.setTop (mkF m 137 #[.val (.int xlaw_1), .val (.int xlaw_2), .val (.int xlaw_3), .val (.int xlaw_4), .val (.int xlaw_5), .val (.int v4), .val (.int v12), .val (.int v20), .val (.int v28), .val (.int v36), .val (.ref o28), .val (.int v93), .val (.ref b139), .unset, .unset] []))
        refine Ow.aload X142 hx (pc' := 139) (hb hby at_137) rfl rfl ?_
        obtain ⟨cq143, kq143, q143a, q143b, q143c⟩ := isOf hZ e142 A28_t142
        obtain ⟨_, _, ⟨T143, L143, k143, n143⟩, -, X143, ⟨Lc143, hQ143, l143, y143, z143⟩, st143⟩ := X142.virtualBack hx (y := mt4) (z := mt4) hown (mvT hZ (kw16 hw)) (mvT hZ (kw17 hw)) (notFace_of_selects (args := #[]) (mvT hZ (kw19 hw))) (mvT hZ (kw19 hw)) (mvT hZ (kw18 hw)) (by decide) (backOf (W := 0) (rm_nextC l Z a0 hw [] o28 b2_c29 b4_c29 q136 q137 q138 h142 n0 Z142 A28_t142 P134_0_t142 P134_1_t142 P134_2_t142 P134_3_t142 P134_4_t142 g_o28 g_b2_c29 g_b4_c29 ne_o28_b2_c29 ne_o28_b4_c29 ne_b2_c29_b4_c29 (own_en144 A_v12 A_v20 hq82 hq83 hq84 hq136 hq137 hq138)) hZ (kw20 hw) (kw3 hw) (by decide) (by decide)) q143a q143c (g := (mkF m 139 #[.val (.int xlaw_1), .val (.int xlaw_2), .val (.int xlaw_3), .val (.int xlaw_4), .val (.int xlaw_5), .val (.int v4), .val (.int v12), .val (.int v20), .val (.int v28), .val (.int v36), .val (.ref o28), .val (.int v93), .val (.ref b139), .unset, .unset] [(.ref o28)])) rfl (by rw [hml]; rfl) (Steps.refl _) (argsL := []) (rest := []) (lenOf pd2 rfl) rfl (by show 2 * 0 + _ ≤ _; exact Nat.le_of_eq rfl) (hb hby at_139) (fun _ _ => ⟨rfl, e142, (by decide : 4 + 0 ≤ _), (by decide : 12 + 0 ≤ _)⟩)
        dsimp only [Pt.U, Pt.locs, Pt.cells, Pt.slots] at X143 l143 y143 z143 st143 hQ143
        subst l143 y143 z143
        obtain ⟨rfl, Nq143, Kq143, P143_0, P143_1, P143_2, P143_3, P143_4⟩ := hQ143
        have N143 := Fr.app N142 Nq143
        have K143 : Keep h0 T143.heap [] := K142.trans Kq143 (allS (P := fun x => x ∈ [] ∨ h0.size ≤ x) (Or.inr sz_o28) (allS (P := fun x => x ∈ [] ∨ h0.size ≤ x) (Or.inr sz_b4_c29) all0))
        have Z143 : n0 ≤ T143.heap.size := Nat.le_trans Z142 Kq143.1
        have A28_t143 := A28_t142.keep Kq143
        have P134_3_t143 := P134_3_t142.keep Kq143 (ninS (Ne.symm ne_o28_b2_c29) (ninS ne_b2_c29_b4_c29 nin0))
        have V_b139_t143 := V_b139_t142.keep Kq143 (ninS (Ne.symm ne_o28_b139) (ninS (Ne.symm ne_b4_c29_b139) nin0))
        have e143 : T143.heap = T143.heap := rfl
        obtain ⟨q145, hq145⟩ : ∃ z : Int32, z = (own_xC q136) := ⟨_, rfl⟩
        rw [← hq145] at P143_2
        obtain ⟨q146, hq146⟩ : ∃ z : List Value, z = (own_xB q137 q138 q136) := ⟨_, rfl⟩
        rw [← hq146] at P143_4
        refine Wq.steps st143 ?_
        show Wq _ _ _ _ _ (T143.setTop (mkF m 142 #[.val (.int xlaw_1), .val (.int xlaw_2), .val (.int xlaw_3), .val (.int xlaw_4), .val (.int xlaw_5), .val (.int v4), .val (.int v12), .val (.int v20), .val (.int v28), .val (.int v36), .val (.ref o28), .val (.int v93), .val (.ref b139), .unset, .unset] [(.int (own_xR q137 q136))]))
        generalize hv139 : (own_xR q137 q136) = v139
        show Wq _ _ _ _ _ (T143.setTop (mkF m 142 #[.val (.int xlaw_1), .val (.int xlaw_2), .val (.int xlaw_3), .val (.int xlaw_4), .val (.int xlaw_5), .val (.int v4), .val (.int v12), .val (.int v20), .val (.int v28), .val (.int v36), .val (.ref o28), .val (.int v93), .val (.ref b139), .unset, .unset] [(.int v139)]))
        refine Ow.aload X143 hx (pc' := 144) (hb hby at_142) rfl rfl ?_
        obtain ⟨_, _, ⟨T147, L147, k147, n147⟩, -, X147, ⟨Lc147, hQ147, l147, y147, z147⟩, st147⟩ := Jvm.LawKit.callS X143 hx (y := mt2) hown (mvT hZ (kw23 hw)) (mvT hZ (kw24 hw)) (mvT hZ (kw25 hw)) (mvT hZ (kw26 hw)) (by decide) (backOf (W := 0) (rm_take l Z a0 hw [] v139 b139 (0 : Int32) (0 : Int32) (1 : Int32) T143.heap n0 Z143 V_b139_t143 g_b139) hZ (kw26 hw) (kw25 hw) (by decide) (by decide)) (g := (mkF m 144 #[.val (.int xlaw_1), .val (.int xlaw_2), .val (.int xlaw_3), .val (.int xlaw_4), .val (.int xlaw_5), .val (.int v4), .val (.int v12), .val (.int v20), .val (.int v28), .val (.int v36), .val (.ref o28), .val (.int v93), .val (.ref b139), .unset, .unset] [(.ref b139), (.int v139)])) rfl (by rw [hml]; rfl) (argsL := [(.int v139), (.ref b139)]) (rest := []) (lenOf pd3 rfl) rfl (by show 2 * 0 + _ ≤ _; exact Nat.le_of_eq rfl) (hb hby at_144) (fun _ _ => ⟨rfl, e143, (by decide : 4 + 0 ≤ _), (by decide : 12 + 0 ≤ _)⟩)
        dsimp only [Pt.U, Pt.locs, Pt.cells, Pt.slots] at X147 l147 y147 z147 st147 hQ147
        subst l147 y147 z147
        obtain ⟨rfl, Nq147, Kq147, P147_0⟩ := hQ147
        have N147 := Fr.app N143 Nq147
        have K147 : Keep h0 T147.heap [] := K143.trans Kq147 (allS (P := fun x => x ∈ [] ∨ h0.size ≤ x) (Or.inr sz_b139) all0)
        have Z147 : n0 ≤ T147.heap.size := Nat.le_trans Z143 Kq147.1
        have A28_t147 := A28_t143.keep Kq147
        have P143_3_t147 := P143_3.keep Kq147 (ninS ne_b2_c29_b139 nin0)
        have P143_0_t147 := P143_0.keep Kq147 (ninS ne_o28_b139 nin0)
        have P143_1_t147 := P143_1.keep Kq147 (ninS ne_o28_b139 nin0)
        have P143_2_t147 := P143_2.keep Kq147 (ninS ne_o28_b139 nin0)
        have P143_4_t147 := P143_4.keep Kq147 (ninS ne_b4_c29_b139 nin0)
        have e147 : T147.heap = T147.heap := rfl
        obtain ⟨q148, hq148⟩ : ∃ z : Int32, z = (f_take_p0 v139 (0 : Int32) (0 : Int32) (1 : Int32)) := ⟨_, rfl⟩
        rw [← hq148] at P147_0
        obtain ⟨q149, hq149⟩ : ∃ z : Int32, z = (f_take_p1 v139 (0 : Int32) (0 : Int32) (1 : Int32)) := ⟨_, rfl⟩
        rw [← hq149] at P147_0
        obtain ⟨q150, hq150⟩ : ∃ z : Int32, z = (f_take_p2 v139 (0 : Int32) (0 : Int32) (1 : Int32)) := ⟨_, rfl⟩
        rw [← hq150] at P147_0
        refine Wq.step st147 ?_
        show Wq _ _ _ _ _ (T147.setTop (mkF m 147 #[.val (.int xlaw_1), .val (.int xlaw_2), .val (.int xlaw_3), .val (.int xlaw_4), .val (.int xlaw_5), .val (.int v4), .val (.int v12), .val (.int v20), .val (.int v28), .val (.int v36), .val (.ref o28), .val (.int v93), .val (.ref b139), .unset, .unset] []))
        refine Ow.aload X147 hx (pc' := 149) (hb hby at_147) rfl rfl ?_
        obtain ⟨cq151, kq151, q151a, q151b, q151c⟩ := isOf hZ e147 A28_t147
        obtain ⟨_, _, ⟨T151, L151, k151, n151⟩, -, X151, ⟨Lc151, hQ151, l151, y151, z151⟩, st151⟩ := X147.virtualBack hx (y := mt4) (z := mt4) hown (mvT hZ (kw16 hw)) (mvT hZ (kw17 hw)) (notFace_of_selects (args := #[]) (mvT hZ (kw19 hw))) (mvT hZ (kw19 hw)) (mvT hZ (kw18 hw)) (by decide) (backOf (W := 0) (rm_nextC l Z a0 hw [] o28 b2_c29 b4_c29 q145 q137 q146 T147.heap n0 Z147 A28_t147 P143_0_t147 P143_1_t147 P143_2_t147 P143_3_t147 P143_4_t147 g_o28 g_b2_c29 g_b4_c29 ne_o28_b2_c29 ne_o28_b4_c29 ne_b2_c29_b4_c29 (own_en152 A_v12 A_v20 hq82 hq83 hq84 hq136 hq137 hq138 hq145 hq146)) hZ (kw20 hw) (kw3 hw) (by decide) (by decide)) q151a q151c (g := (mkF m 149 #[.val (.int xlaw_1), .val (.int xlaw_2), .val (.int xlaw_3), .val (.int xlaw_4), .val (.int xlaw_5), .val (.int v4), .val (.int v12), .val (.int v20), .val (.int v28), .val (.int v36), .val (.ref o28), .val (.int v93), .val (.ref b139), .unset, .unset] [(.ref o28)])) rfl (by rw [hml]; rfl) (Steps.refl _) (argsL := []) (rest := []) (lenOf pd2 rfl) rfl (by show 2 * 0 + _ ≤ _; exact Nat.le_of_eq rfl) (hb hby at_149) (fun _ _ => ⟨rfl, e147, (by decide : 4 + 0 ≤ _), (by decide : 12 + 0 ≤ _)⟩)
        dsimp only [Pt.U, Pt.locs, Pt.cells, Pt.slots] at X151 l151 y151 z151 st151 hQ151
        subst l151 y151 z151
        obtain ⟨rfl, Nq151, Kq151, P151_0, P151_1, P151_2, P151_3, P151_4⟩ := hQ151
        have N151 := Fr.app N147 Nq151
        have K151 : Keep h0 T151.heap [] := K147.trans Kq151 (allS (P := fun x => x ∈ [] ∨ h0.size ≤ x) (Or.inr sz_o28) (allS (P := fun x => x ∈ [] ∨ h0.size ≤ x) (Or.inr sz_b4_c29) all0))
        have Z151 : n0 ≤ T151.heap.size := Nat.le_trans Z147 Kq151.1
        have A28_t151 := A28_t147.keep Kq151
        have P143_3_t151 := P143_3_t147.keep Kq151 (ninS (Ne.symm ne_o28_b2_c29) (ninS ne_b2_c29_b4_c29 nin0))
        have P147_0_t151 := P147_0.keep Kq151 (ninS (Ne.symm ne_o28_b139) (ninS (Ne.symm ne_b4_c29_b139) nin0))
        have e151 : T151.heap = T151.heap := rfl
        obtain ⟨q153, hq153⟩ : ∃ z : Int32, z = (own_xC q145) := ⟨_, rfl⟩
        rw [← hq153] at P151_2
        obtain ⟨q154, hq154⟩ : ∃ z : List Value, z = (own_xB q137 q146 q145) := ⟨_, rfl⟩
        rw [← hq154] at P151_4
        refine Wq.steps st151 ?_
        show Wq _ _ _ _ _ (T151.setTop (mkF m 152 #[.val (.int xlaw_1), .val (.int xlaw_2), .val (.int xlaw_3), .val (.int xlaw_4), .val (.int xlaw_5), .val (.int v4), .val (.int v12), .val (.int v20), .val (.int v28), .val (.int v36), .val (.ref o28), .val (.int v93), .val (.ref b139), .unset, .unset] [(.int (own_xR q137 q145))]))
        generalize hv149 : (own_xR q137 q145) = v149
        show Wq _ _ _ _ _ (T151.setTop (mkF m 152 #[.val (.int xlaw_1), .val (.int xlaw_2), .val (.int xlaw_3), .val (.int xlaw_4), .val (.int xlaw_5), .val (.int v4), .val (.int v12), .val (.int v20), .val (.int v28), .val (.int v36), .val (.ref o28), .val (.int v93), .val (.ref b139), .unset, .unset] [(.int v149)]))
        refine Ow.aload X151 hx (pc' := 154) (hb hby at_152) rfl rfl ?_
        obtain ⟨_, _, ⟨T155, L155, k155, n155⟩, -, X155, ⟨Lc155, hQ155, l155, y155, z155⟩, st155⟩ := Jvm.LawKit.callS X151 hx (y := mt2) hown (mvT hZ (kw23 hw)) (mvT hZ (kw24 hw)) (mvT hZ (kw25 hw)) (mvT hZ (kw26 hw)) (by decide) (backOf (W := 0) (rm_take l Z a0 hw [] v149 b139 q148 q149 q150 T151.heap n0 Z151 P147_0_t151 g_b139) hZ (kw26 hw) (kw25 hw) (by decide) (by decide)) (g := (mkF m 154 #[.val (.int xlaw_1), .val (.int xlaw_2), .val (.int xlaw_3), .val (.int xlaw_4), .val (.int xlaw_5), .val (.int v4), .val (.int v12), .val (.int v20), .val (.int v28), .val (.int v36), .val (.ref o28), .val (.int v93), .val (.ref b139), .unset, .unset] [(.ref b139), (.int v149)])) rfl (by rw [hml]; rfl) (argsL := [(.int v149), (.ref b139)]) (rest := []) (lenOf pd3 rfl) rfl (by show 2 * 0 + _ ≤ _; exact Nat.le_of_eq rfl) (hb hby at_154) (fun _ _ => ⟨rfl, e151, (by decide : 4 + 0 ≤ _), (by decide : 12 + 0 ≤ _)⟩)
        dsimp only [Pt.U, Pt.locs, Pt.cells, Pt.slots] at X155 l155 y155 z155 st155 hQ155
        subst l155 y155 z155
        obtain ⟨rfl, Nq155, Kq155, P155_0⟩ := hQ155
        have N155 := Fr.app N151 Nq155
        have K155 : Keep h0 T155.heap [] := K151.trans Kq155 (allS (P := fun x => x ∈ [] ∨ h0.size ≤ x) (Or.inr sz_b139) all0)
        have Z155 : n0 ≤ T155.heap.size := Nat.le_trans Z151 Kq155.1
        have A28_t155 := A28_t151.keep Kq155
        have P151_3_t155 := P151_3.keep Kq155 (ninS ne_b2_c29_b139 nin0)
        have P151_0_t155 := P151_0.keep Kq155 (ninS ne_o28_b139 nin0)
        have P151_1_t155 := P151_1.keep Kq155 (ninS ne_o28_b139 nin0)
        have P151_2_t155 := P151_2.keep Kq155 (ninS ne_o28_b139 nin0)
        have P151_4_t155 := P151_4.keep Kq155 (ninS ne_b4_c29_b139 nin0)
        have e155 : T155.heap = T155.heap := rfl
        obtain ⟨q156, hq156⟩ : ∃ z : Int32, z = (f_take_p0 v149 q148 q149 q150) := ⟨_, rfl⟩
        rw [← hq156] at P155_0
        obtain ⟨q157, hq157⟩ : ∃ z : Int32, z = (f_take_p1 v149 q148 q149 q150) := ⟨_, rfl⟩
        rw [← hq157] at P155_0
        obtain ⟨q158, hq158⟩ : ∃ z : Int32, z = (f_take_p2 v149 q148 q149 q150) := ⟨_, rfl⟩
        rw [← hq158] at P155_0
        refine Wq.step st155 ?_
        show Wq _ _ _ _ _ (T155.setTop (mkF m 157 #[.val (.int xlaw_1), .val (.int xlaw_2), .val (.int xlaw_3), .val (.int xlaw_4), .val (.int xlaw_5), .val (.int v4), .val (.int v12), .val (.int v20), .val (.int v28), .val (.int v36), .val (.ref o28), .val (.int v93), .val (.ref b139), .unset, .unset] []))
        refine Ow.aload X155 hx (pc' := 159) (hb hby at_157) rfl rfl ?_
        obtain ⟨cq159, kq159, q159a, q159b, q159c⟩ := isOf hZ e155 A28_t155
        obtain ⟨_, _, ⟨T159, L159, k159, n159⟩, -, X159, ⟨Lc159, hQ159, l159, y159, z159⟩, st159⟩ := X155.virtualBack hx (y := mt4) (z := mt4) hown (mvT hZ (kw16 hw)) (mvT hZ (kw17 hw)) (notFace_of_selects (args := #[]) (mvT hZ (kw19 hw))) (mvT hZ (kw19 hw)) (mvT hZ (kw18 hw)) (by decide) (backOf (W := 0) (rm_nextC l Z a0 hw [] o28 b2_c29 b4_c29 q153 q137 q154 T155.heap n0 Z155 A28_t155 P151_0_t155 P151_1_t155 P151_2_t155 P151_3_t155 P151_4_t155 g_o28 g_b2_c29 g_b4_c29 ne_o28_b2_c29 ne_o28_b4_c29 ne_b2_c29_b4_c29 (own_en160 A_v12 A_v20 hq82 hq83 hq84 hq136 hq137 hq138 hq145 hq146 hq153 hq154)) hZ (kw20 hw) (kw3 hw) (by decide) (by decide)) q159a q159c (g := (mkF m 159 #[.val (.int xlaw_1), .val (.int xlaw_2), .val (.int xlaw_3), .val (.int xlaw_4), .val (.int xlaw_5), .val (.int v4), .val (.int v12), .val (.int v20), .val (.int v28), .val (.int v36), .val (.ref o28), .val (.int v93), .val (.ref b139), .unset, .unset] [(.ref o28)])) rfl (by rw [hml]; rfl) (Steps.refl _) (argsL := []) (rest := []) (lenOf pd2 rfl) rfl (by show 2 * 0 + _ ≤ _; exact Nat.le_of_eq rfl) (hb hby at_159) (fun _ _ => ⟨rfl, e155, (by decide : 4 + 0 ≤ _), (by decide : 12 + 0 ≤ _)⟩)
        dsimp only [Pt.U, Pt.locs, Pt.cells, Pt.slots] at X159 l159 y159 z159 st159 hQ159
        subst l159 y159 z159
        obtain ⟨rfl, Nq159, Kq159, P159_0, P159_1, P159_2, P159_3, P159_4⟩ := hQ159
        have N159 := Fr.app N155 Nq159
        have K159 : Keep h0 T159.heap [] := K155.trans Kq159 (allS (P := fun x => x ∈ [] ∨ h0.size ≤ x) (Or.inr sz_o28) (allS (P := fun x => x ∈ [] ∨ h0.size ≤ x) (Or.inr sz_b4_c29) all0))
        have Z159 : n0 ≤ T159.heap.size := Nat.le_trans Z155 Kq159.1
        have A28_t159 := A28_t155.keep Kq159
        have P151_3_t159 := P151_3_t155.keep Kq159 (ninS (Ne.symm ne_o28_b2_c29) (ninS ne_b2_c29_b4_c29 nin0))
        have P155_0_t159 := P155_0.keep Kq159 (ninS (Ne.symm ne_o28_b139) (ninS (Ne.symm ne_b4_c29_b139) nin0))
        have e159 : T159.heap = T159.heap := rfl
        obtain ⟨q161, hq161⟩ : ∃ z : Int32, z = (own_xC q153) := ⟨_, rfl⟩
        rw [← hq161] at P159_2
        obtain ⟨q162, hq162⟩ : ∃ z : List Value, z = (own_xB q137 q154 q153) := ⟨_, rfl⟩
        rw [← hq162] at P159_4
        refine Wq.steps st159 ?_
        show Wq _ _ _ _ _ (T159.setTop (mkF m 162 #[.val (.int xlaw_1), .val (.int xlaw_2), .val (.int xlaw_3), .val (.int xlaw_4), .val (.int xlaw_5), .val (.int v4), .val (.int v12), .val (.int v20), .val (.int v28), .val (.int v36), .val (.ref o28), .val (.int v93), .val (.ref b139), .unset, .unset] [(.int (own_xR q137 q153))]))
        generalize hv159 : (own_xR q137 q153) = v159
        show Wq _ _ _ _ _ (T159.setTop (mkF m 162 #[.val (.int xlaw_1), .val (.int xlaw_2), .val (.int xlaw_3), .val (.int xlaw_4), .val (.int xlaw_5), .val (.int v4), .val (.int v12), .val (.int v20), .val (.int v28), .val (.int v36), .val (.ref o28), .val (.int v93), .val (.ref b139), .unset, .unset] [(.int v159)]))
        refine Ow.aload X159 hx (pc' := 164) (hb hby at_162) rfl rfl ?_
        obtain ⟨_, _, ⟨T163, L163, k163, n163⟩, -, X163, ⟨Lc163, hQ163, l163, y163, z163⟩, st163⟩ := Jvm.LawKit.callS X159 hx (y := mt2) hown (mvT hZ (kw23 hw)) (mvT hZ (kw24 hw)) (mvT hZ (kw25 hw)) (mvT hZ (kw26 hw)) (by decide) (backOf (W := 0) (rm_take l Z a0 hw [] v159 b139 q156 q157 q158 T159.heap n0 Z159 P155_0_t159 g_b139) hZ (kw26 hw) (kw25 hw) (by decide) (by decide)) (g := (mkF m 164 #[.val (.int xlaw_1), .val (.int xlaw_2), .val (.int xlaw_3), .val (.int xlaw_4), .val (.int xlaw_5), .val (.int v4), .val (.int v12), .val (.int v20), .val (.int v28), .val (.int v36), .val (.ref o28), .val (.int v93), .val (.ref b139), .unset, .unset] [(.ref b139), (.int v159)])) rfl (by rw [hml]; rfl) (argsL := [(.int v159), (.ref b139)]) (rest := []) (lenOf pd3 rfl) rfl (by show 2 * 0 + _ ≤ _; exact Nat.le_of_eq rfl) (hb hby at_164) (fun _ _ => ⟨rfl, e159, (by decide : 4 + 0 ≤ _), (by decide : 12 + 0 ≤ _)⟩)
        dsimp only [Pt.U, Pt.locs, Pt.cells, Pt.slots] at X163 l163 y163 z163 st163 hQ163
        subst l163 y163 z163
        obtain ⟨rfl, Nq163, Kq163, P163_0⟩ := hQ163
        have N163 := Fr.app N159 Nq163
        have K163 : Keep h0 T163.heap [] := K159.trans Kq163 (allS (P := fun x => x ∈ [] ∨ h0.size ≤ x) (Or.inr sz_b139) all0)
        have Z163 : n0 ≤ T163.heap.size := Nat.le_trans Z159 Kq163.1
        have A28_t163 := A28_t159.keep Kq163
        have P159_3_t163 := P159_3.keep Kq163 (ninS ne_b2_c29_b139 nin0)
        have P159_0_t163 := P159_0.keep Kq163 (ninS ne_o28_b139 nin0)
        have P159_1_t163 := P159_1.keep Kq163 (ninS ne_o28_b139 nin0)
        have P159_2_t163 := P159_2.keep Kq163 (ninS ne_o28_b139 nin0)
        have P159_4_t163 := P159_4.keep Kq163 (ninS ne_b4_c29_b139 nin0)
        have e163 : T163.heap = T163.heap := rfl
        obtain ⟨q164, hq164⟩ : ∃ z : Int32, z = (f_take_p0 v159 q156 q157 q158) := ⟨_, rfl⟩
        rw [← hq164] at P163_0
        obtain ⟨q165, hq165⟩ : ∃ z : Int32, z = (f_take_p1 v159 q156 q157 q158) := ⟨_, rfl⟩
        rw [← hq165] at P163_0
        obtain ⟨q166, hq166⟩ : ∃ z : Int32, z = (f_take_p2 v159 q156 q157 q158) := ⟨_, rfl⟩
        rw [← hq166] at P163_0
        refine Wq.step st163 ?_
        show Wq _ _ _ _ _ (T163.setTop (mkF m 167 #[.val (.int xlaw_1), .val (.int xlaw_2), .val (.int xlaw_3), .val (.int xlaw_4), .val (.int xlaw_5), .val (.int v4), .val (.int v12), .val (.int v20), .val (.int v28), .val (.int v36), .val (.ref o28), .val (.int v93), .val (.ref b139), .unset, .unset] []))
        refine Ow.aload X163 hx (pc' := 169) (hb hby at_167) rfl rfl ?_
        obtain ⟨cq167, kq167, q167a, q167b, q167c⟩ := isOf hZ e163 A28_t163
        obtain ⟨_, _, ⟨T167, L167, k167, n167⟩, -, X167, ⟨Lc167, hQ167, l167, y167, z167⟩, st167⟩ := X163.virtualBack hx (y := mt4) (z := mt4) hown (mvT hZ (kw16 hw)) (mvT hZ (kw17 hw)) (notFace_of_selects (args := #[]) (mvT hZ (kw19 hw))) (mvT hZ (kw19 hw)) (mvT hZ (kw18 hw)) (by decide) (backOf (W := 0) (rm_nextC l Z a0 hw [] o28 b2_c29 b4_c29 q161 q137 q162 T163.heap n0 Z163 A28_t163 P159_0_t163 P159_1_t163 P159_2_t163 P159_3_t163 P159_4_t163 g_o28 g_b2_c29 g_b4_c29 ne_o28_b2_c29 ne_o28_b4_c29 ne_b2_c29_b4_c29 (own_en168 A_v12 A_v20 hq82 hq83 hq84 hq136 hq137 hq138 hq145 hq146 hq153 hq154 hq161 hq162)) hZ (kw20 hw) (kw3 hw) (by decide) (by decide)) q167a q167c (g := (mkF m 169 #[.val (.int xlaw_1), .val (.int xlaw_2), .val (.int xlaw_3), .val (.int xlaw_4), .val (.int xlaw_5), .val (.int v4), .val (.int v12), .val (.int v20), .val (.int v28), .val (.int v36), .val (.ref o28), .val (.int v93), .val (.ref b139), .unset, .unset] [(.ref o28)])) rfl (by rw [hml]; rfl) (Steps.refl _) (argsL := []) (rest := []) (lenOf pd2 rfl) rfl (by show 2 * 0 + _ ≤ _; exact Nat.le_of_eq rfl) (hb hby at_169) (fun _ _ => ⟨rfl, e163, (by decide : 4 + 0 ≤ _), (by decide : 12 + 0 ≤ _)⟩)
        dsimp only [Pt.U, Pt.locs, Pt.cells, Pt.slots] at X167 l167 y167 z167 st167 hQ167
        subst l167 y167 z167
        obtain ⟨rfl, Nq167, Kq167, P167_0, P167_1, P167_2, P167_3, P167_4⟩ := hQ167
        have N167 := Fr.app N163 Nq167
        have K167 : Keep h0 T167.heap [] := K163.trans Kq167 (allS (P := fun x => x ∈ [] ∨ h0.size ≤ x) (Or.inr sz_o28) (allS (P := fun x => x ∈ [] ∨ h0.size ≤ x) (Or.inr sz_b4_c29) all0))
        have Z167 : n0 ≤ T167.heap.size := Nat.le_trans Z163 Kq167.1
        have A28_t167 := A28_t163.keep Kq167
        have P159_3_t167 := P159_3_t163.keep Kq167 (ninS (Ne.symm ne_o28_b2_c29) (ninS ne_b2_c29_b4_c29 nin0))
        have P163_0_t167 := P163_0.keep Kq167 (ninS (Ne.symm ne_o28_b139) (ninS (Ne.symm ne_b4_c29_b139) nin0))
        have e167 : T167.heap = T167.heap := rfl
        obtain ⟨q169, hq169⟩ : ∃ z : Int32, z = (own_xC q161) := ⟨_, rfl⟩
        rw [← hq169] at P167_2
        obtain ⟨q170, hq170⟩ : ∃ z : List Value, z = (own_xB q137 q162 q161) := ⟨_, rfl⟩
        rw [← hq170] at P167_4
        refine Wq.steps st167 ?_
        show Wq _ _ _ _ _ (T167.setTop (mkF m 172 #[.val (.int xlaw_1), .val (.int xlaw_2), .val (.int xlaw_3), .val (.int xlaw_4), .val (.int xlaw_5), .val (.int v4), .val (.int v12), .val (.int v20), .val (.int v28), .val (.int v36), .val (.ref o28), .val (.int v93), .val (.ref b139), .unset, .unset] [(.int (own_xR q137 q161))]))
        generalize hv169 : (own_xR q137 q161) = v169
        show Wq _ _ _ _ _ (T167.setTop (mkF m 172 #[.val (.int xlaw_1), .val (.int xlaw_2), .val (.int xlaw_3), .val (.int xlaw_4), .val (.int xlaw_5), .val (.int v4), .val (.int v12), .val (.int v20), .val (.int v28), .val (.int v36), .val (.ref o28), .val (.int v93), .val (.ref b139), .unset, .unset] [(.int v169)]))
        refine Ow.aload X167 hx (pc' := 174) (hb hby at_172) rfl rfl ?_
        obtain ⟨_, _, ⟨T171, L171, k171, n171⟩, -, X171, ⟨Lc171, hQ171, l171, y171, z171⟩, st171⟩ := Jvm.LawKit.callS X167 hx (y := mt2) hown (mvT hZ (kw23 hw)) (mvT hZ (kw24 hw)) (mvT hZ (kw25 hw)) (mvT hZ (kw26 hw)) (by decide) (backOf (W := 0) (rm_take l Z a0 hw [] v169 b139 q164 q165 q166 T167.heap n0 Z167 P163_0_t167 g_b139) hZ (kw26 hw) (kw25 hw) (by decide) (by decide)) (g := (mkF m 174 #[.val (.int xlaw_1), .val (.int xlaw_2), .val (.int xlaw_3), .val (.int xlaw_4), .val (.int xlaw_5), .val (.int v4), .val (.int v12), .val (.int v20), .val (.int v28), .val (.int v36), .val (.ref o28), .val (.int v93), .val (.ref b139), .unset, .unset] [(.ref b139), (.int v169)])) rfl (by rw [hml]; rfl) (argsL := [(.int v169), (.ref b139)]) (rest := []) (lenOf pd3 rfl) rfl (by show 2 * 0 + _ ≤ _; exact Nat.le_of_eq rfl) (hb hby at_174) (fun _ _ => ⟨rfl, e167, (by decide : 4 + 0 ≤ _), (by decide : 12 + 0 ≤ _)⟩)
        dsimp only [Pt.U, Pt.locs, Pt.cells, Pt.slots] at X171 l171 y171 z171 st171 hQ171
        subst l171 y171 z171
        obtain ⟨rfl, Nq171, Kq171, P171_0⟩ := hQ171
        have N171 := Fr.app N167 Nq171
        have K171 : Keep h0 T171.heap [] := K167.trans Kq171 (allS (P := fun x => x ∈ [] ∨ h0.size ≤ x) (Or.inr sz_b139) all0)
        have Z171 : n0 ≤ T171.heap.size := Nat.le_trans Z167 Kq171.1
        have A28_t171 := A28_t167.keep Kq171
        have P167_3_t171 := P167_3.keep Kq171 (ninS ne_b2_c29_b139 nin0)
        have P167_0_t171 := P167_0.keep Kq171 (ninS ne_o28_b139 nin0)
        have P167_1_t171 := P167_1.keep Kq171 (ninS ne_o28_b139 nin0)
        have P167_2_t171 := P167_2.keep Kq171 (ninS ne_o28_b139 nin0)
        have P167_4_t171 := P167_4.keep Kq171 (ninS ne_b4_c29_b139 nin0)
        have e171 : T171.heap = T171.heap := rfl
        obtain ⟨q172, hq172⟩ : ∃ z : Int32, z = (f_take_p0 v169 q164 q165 q166) := ⟨_, rfl⟩
        rw [← hq172] at P171_0
        obtain ⟨q173, hq173⟩ : ∃ z : Int32, z = (f_take_p1 v169 q164 q165 q166) := ⟨_, rfl⟩
        rw [← hq173] at P171_0
        obtain ⟨q174, hq174⟩ : ∃ z : Int32, z = (f_take_p2 v169 q164 q165 q166) := ⟨_, rfl⟩
        rw [← hq174] at P171_0
        refine Wq.step st171 ?_
        show Wq _ _ _ _ _ (T171.setTop (mkF m 177 #[.val (.int xlaw_1), .val (.int xlaw_2), .val (.int xlaw_3), .val (.int xlaw_4), .val (.int xlaw_5), .val (.int v4), .val (.int v12), .val (.int v20), .val (.int v28), .val (.int v36), .val (.ref o28), .val (.int v93), .val (.ref b139), .unset, .unset] []))
        refine Ow.aload X171 hx (pc' := 179) (hb hby at_177) rfl rfl ?_
        refine Ow.iconst X171 hx (pc' := 180) (hb hby at_179) (z := (2 : Int32)) rfl ?_
        refine Ow.ldI X171 hx hZ e171 P171_0 (pc' := 181) (hb hby at_180) (j := (2 : Int32)) (i := 2) (v := (.int q174)) (by decide) rfl rfl ?_
        refine Ow.iconst X171 hx (pc' := 182) (hb hby at_181) (z := (1 : Int32)) rfl ?_
        refine Ow.icmpNo X171 hx (pc' := 185) (hb hby at_182) (teq (own_en175 A_v12 A_v20 hq82 hq83 hq84 hq136 hq137 hq145 hv139 hq148 hq149 hq150 hq153 hv149 hq156 hq157 hq158 hq161 hv159 hq164 hq165 hq166 hv169 hq174 : q174 = (1 : Int32))).2 ?_
        refine Ow.aload X171 hx (pc' := 187) (hb hby at_185) rfl rfl ?_
        refine Ow.iconst X171 hx (pc' := 188) (hb hby at_187) (z := (1 : Int32)) rfl ?_
        refine Ow.ldI X171 hx hZ e171 P171_0 (pc' := 189) (hb hby at_188) (j := (1 : Int32)) (i := 1) (v := (.int q173)) (by decide) rfl rfl ?_
        refine Ow.iconst X171 hx (pc' := 190) (hb hby at_189) (z := (1 : Int32)) rfl ?_
        refine Ow.icmpNo X171 hx (pc' := 193) (hb hby at_190) (teq (own_en176 A_v12 A_v20 hq82 hq83 hq84 hq136 hq137 hq145 hv139 hq148 hq149 hq150 hq153 hv149 hq156 hq157 hq158 hq161 hv159 hq164 hq165 hq166 hv169 hq173 : q173 = (1 : Int32))).2 ?_
        refine Ow.aload X171 hx (pc' := 195) (hb hby at_193) rfl rfl ?_
        refine Ow.iconst X171 hx (pc' := 196) (hb hby at_195) (z := (0 : Int32)) rfl ?_
        refine Ow.ldI X171 hx hZ e171 P171_0 (pc' := 197) (hb hby at_196) (j := (0 : Int32)) (i := 0) (v := (.int q172)) (by decide) rfl rfl ?_
        refine Ow.iload X171 hx (pc' := 199) (hb hby at_197) rfl ?_
        refine Ow.icmpNo X171 hx (pc' := 202) (hb hby at_199) (teq (own_en177 A_v12 A_v20 hq82 hq83 hq84 hv71 hq136 hq137 hv93 hq145 hv139 hq148 hq149 hq150 hq153 hv149 hq156 hq157 hq158 hq161 hv159 hq164 hq165 hq166 hv169 hq172 : q172 = v93)).2 ?_
        refine Ow.iconst X171 hx (pc' := 203) (hb hby at_202) (z := (1 : Int32)) rfl ?_
        refine Ow.goto X171 hx (pc' := 207) (hb hby at_203) (by decide) (by decide) ?_
        refine Ow.istore X171 hx (pc' := 209) (hb hby at_207) (l' := #[.val (.int xlaw_1), .val (.int xlaw_2), .val (.int xlaw_3), .val (.int xlaw_4), .val (.int xlaw_5), .val (.int v4), .val (.int v12), .val (.int v20), .val (.int v28), .val (.int v36), .val (.ref o28), .val (.int v93), .val (.ref b139), .val (.int (1 : Int32)), .unset]) rfl ?_
        refine Ow.aload X171 hx (pc' := 211) (hb hby at_209) rfl rfl ?_
        refine Ow.iload X171 hx (pc' := 213) (hb hby at_211) rfl ?_
        obtain ⟨cq178, kq178, q178a, q178b, q178c⟩ := isOf hZ e171 A28_t171
        obtain ⟨_, _, ⟨T178, L178, k178, n178⟩, -, X178, ⟨Lc178, hQ178, l178, y178, z178⟩, st178⟩ := X171.virtualBack hx (y := mt3) (z := mt3) hown (mvT hZ (kw27 hw)) (mvT hZ (kw28 hw)) (notFace_of_selects (args := #[]) (mvT hZ (kw30 hw))) (mvT hZ (kw30 hw)) (mvT hZ (kw29 hw)) (by decide) (backOf (W := 0) (rm_noteC l Z a0 hw [] o28 v36 b2_c29 b4_c29 q169 q137 q170 T171.heap n0 Z171 A28_t171 P167_0_t171 P167_1_t171 P167_2_t171 P167_3_t171 P167_4_t171 g_o28 g_b2_c29 g_b4_c29 ne_o28_b2_c29 ne_o28_b4_c29 ne_b2_c29_b4_c29 (own_en179 A_v12 A_v20 A_v36 hq82 hq83 hq84 hq136 hq137 hq138 hq145 hq146 hq153 hq154 hq161 hq162 hq169 hq170)) hZ (kw31 hw) (kw3 hw) (by decide) (by decide)) q178a q178c (g := (mkF m 213 #[.val (.int xlaw_1), .val (.int xlaw_2), .val (.int xlaw_3), .val (.int xlaw_4), .val (.int xlaw_5), .val (.int v4), .val (.int v12), .val (.int v20), .val (.int v28), .val (.int v36), .val (.ref o28), .val (.int v93), .val (.ref b139), .val (.int (1 : Int32)), .unset] [(.int v36), (.ref o28)])) rfl (by rw [hml]; rfl) (Steps.refl _) (argsL := [(.int v36)]) (rest := []) (lenOf pd1 rfl) rfl (by show 2 * 0 + _ ≤ _; exact Nat.le_of_eq rfl) (hb hby at_213) (fun _ _ => ⟨rfl, e171, (by decide : 4 + 0 ≤ _), (by decide : 12 + 0 ≤ _)⟩)
        dsimp only [Pt.U, Pt.locs, Pt.cells, Pt.slots] at X178 l178 y178 z178 st178 hQ178
        subst l178 y178 z178
        obtain ⟨rfl, Nq178, Kq178, P178_0, P178_1, P178_2, P178_3, P178_4⟩ := hQ178
        have N178 := Fr.app N171 Nq178
        have K178 : Keep h0 T178.heap [] := K171.trans Kq178 (allS (P := fun x => x ∈ [] ∨ h0.size ≤ x) (Or.inr sz_b4_c29) (allS (P := fun x => x ∈ [] ∨ h0.size ≤ x) (Or.inr sz_o28) (allS (P := fun x => x ∈ [] ∨ h0.size ≤ x) (Or.inr sz_b2_c29) all0)))
        have Z178 : n0 ≤ T178.heap.size := Nat.le_trans Z171 Kq178.1
        have A28_t178 := A28_t171.keep Kq178
        have P171_0_t178 := P171_0.keep Kq178 (ninS (Ne.symm ne_b4_c29_b139) (ninS (Ne.symm ne_o28_b139) (ninS (Ne.symm ne_b2_c29_b139) nin0)))
        have e178 : T178.heap = T178.heap := rfl
        obtain ⟨q180, hq180⟩ : ∃ z : Int32, z = (own_nC q170 q169 v36) := ⟨_, rfl⟩
        rw [← hq180] at P178_2
        obtain ⟨q181, hq181⟩ : ∃ z : List Value, z = (own_nV q137 q170 q169 v36) := ⟨_, rfl⟩
        rw [← hq181] at P178_3
        obtain ⟨q182, hq182⟩ : ∃ z : List Value, z = (own_nB q170 v36) := ⟨_, rfl⟩
        rw [← hq182] at P178_4
        refine Wq.steps st178 ?_
        show Wq _ _ _ _ _ (T178.setTop (mkF m 216 #[.val (.int xlaw_1), .val (.int xlaw_2), .val (.int xlaw_3), .val (.int xlaw_4), .val (.int xlaw_5), .val (.int v4), .val (.int v12), .val (.int v20), .val (.int v28), .val (.int v36), .val (.ref o28), .val (.int v93), .val (.ref b139), .val (.int (1 : Int32)), .unset] []))
        refine Ow.aload X178 hx (pc' := 218) (hb hby at_216) rfl rfl ?_
        obtain ⟨cq183, kq183, q183a, q183b, q183c⟩ := isOf hZ e178 A28_t178
        obtain ⟨_, _, ⟨T183, L183, k183, n183⟩, -, X183, ⟨Lc183, hQ183, l183, y183, z183⟩, st183⟩ := X178.virtualBack hx (y := mt4) (z := mt4) hown (mvT hZ (kw16 hw)) (mvT hZ (kw17 hw)) (notFace_of_selects (args := #[]) (mvT hZ (kw19 hw))) (mvT hZ (kw19 hw)) (mvT hZ (kw18 hw)) (by decide) (backOf (W := 0) (rm_nextC l Z a0 hw [] o28 b2_c29 b4_c29 q180 q181 q182 T178.heap n0 Z178 A28_t178 P178_0 P178_1 P178_2 P178_3 P178_4 g_o28 g_b2_c29 g_b4_c29 ne_o28_b2_c29 ne_o28_b4_c29 ne_b2_c29_b4_c29 (own_en184 A_v12 A_v20 A_v36 hq82 hq83 hq84 hq136 hq137 hq138 hq145 hq146 hq153 hq154 hq161 hq162 hq169 hq170 hq180 hq181 hq182)) hZ (kw20 hw) (kw3 hw) (by decide) (by decide)) q183a q183c (g := (mkF m 218 #[.val (.int xlaw_1), .val (.int xlaw_2), .val (.int xlaw_3), .val (.int xlaw_4), .val (.int xlaw_5), .val (.int v4), .val (.int v12), .val (.int v20), .val (.int v28), .val (.int v36), .val (.ref o28), .val (.int v93), .val (.ref b139), .val (.int (1 : Int32)), .unset] [(.ref o28)])) rfl (by rw [hml]; rfl) (Steps.refl _) (argsL := []) (rest := []) (lenOf pd2 rfl) rfl (by show 2 * 0 + _ ≤ _; exact Nat.le_of_eq rfl) (hb hby at_218) (fun _ _ => ⟨rfl, e178, (by decide : 4 + 0 ≤ _), (by decide : 12 + 0 ≤ _)⟩)
        dsimp only [Pt.U, Pt.locs, Pt.cells, Pt.slots] at X183 l183 y183 z183 st183 hQ183
        subst l183 y183 z183
        obtain ⟨rfl, Nq183, Kq183, P183_0, P183_1, P183_2, P183_3, P183_4⟩ := hQ183
        have N183 := Fr.app N178 Nq183
        have K183 : Keep h0 T183.heap [] := K178.trans Kq183 (allS (P := fun x => x ∈ [] ∨ h0.size ≤ x) (Or.inr sz_o28) (allS (P := fun x => x ∈ [] ∨ h0.size ≤ x) (Or.inr sz_b4_c29) all0))
        have Z183 : n0 ≤ T183.heap.size := Nat.le_trans Z178 Kq183.1
        have A28_t183 := A28_t178.keep Kq183
        have P171_0_t183 := P171_0_t178.keep Kq183 (ninS (Ne.symm ne_o28_b139) (ninS (Ne.symm ne_b4_c29_b139) nin0))
        have P178_3_t183 := P178_3.keep Kq183 (ninS (Ne.symm ne_o28_b2_c29) (ninS ne_b2_c29_b4_c29 nin0))
        have e183 : T183.heap = T183.heap := rfl
        obtain ⟨q185, hq185⟩ : ∃ z : Int32, z = (own_xC q180) := ⟨_, rfl⟩
        rw [← hq185] at P183_2
        obtain ⟨q186, hq186⟩ : ∃ z : List Value, z = (own_xB q181 q182 q180) := ⟨_, rfl⟩
        rw [← hq186] at P183_4
        refine Wq.steps st183 ?_
        show Wq _ _ _ _ _ (T183.setTop (mkF m 221 #[.val (.int xlaw_1), .val (.int xlaw_2), .val (.int xlaw_3), .val (.int xlaw_4), .val (.int xlaw_5), .val (.int v4), .val (.int v12), .val (.int v20), .val (.int v28), .val (.int v36), .val (.ref o28), .val (.int v93), .val (.ref b139), .val (.int (1 : Int32)), .unset] [(.int (own_xR q181 q180))]))
        generalize hv218 : (own_xR q181 q180) = v218
        show Wq _ _ _ _ _ (T183.setTop (mkF m 221 #[.val (.int xlaw_1), .val (.int xlaw_2), .val (.int xlaw_3), .val (.int xlaw_4), .val (.int xlaw_5), .val (.int v4), .val (.int v12), .val (.int v20), .val (.int v28), .val (.int v36), .val (.ref o28), .val (.int v93), .val (.ref b139), .val (.int (1 : Int32)), .unset] [(.int v218)]))
        refine Ow.iload X183 hx (pc' := 223) (hb hby at_221) rfl ?_
        refine Ow.icmpNo X183 hx (pc' := 226) (hb hby at_223) (teq (own_en187 A_v12 A_v20 A_v36 hq82 hq83 hq84 hq136 hq137 hq138 hq145 hq146 hq153 hq154 hq161 hq162 hq169 hq170 hq180 hq181 hv218 : v218 = v36)).2 ?_
        refine Ow.iconst X183 hx (pc' := 227) (hb hby at_226) (z := (1 : Int32)) rfl ?_
        refine Ow.goto X183 hx (pc' := 231) (hb hby at_227) (by decide) (by decide) ?_
        refine Ow.istore X183 hx (pc' := 233) (hb hby at_231) (l' := #[.val (.int xlaw_1), .val (.int xlaw_2), .val (.int xlaw_3), .val (.int xlaw_4), .val (.int xlaw_5), .val (.int v4), .val (.int v12), .val (.int v20), .val (.int v28), .val (.int v36), .val (.ref o28), .val (.int v93), .val (.ref b139), .val (.int (1 : Int32)), .val (.int (1 : Int32))]) rfl ?_
        refine Ow.iload X183 hx (pc' := 235) (hb hby at_233) rfl ?_
        refine Ow.ifNo X183 hx (pc' := 238) (hb hby at_235) ((if0 _ _).trans (feq (by decide : ¬ ((1 : Int32) = (0 : Int32)))).1) ?_
        refine Ow.iload X183 hx (pc' := 240) (hb hby at_238) rfl ?_
        refine Ow.ifNo X183 hx (pc' := 243) (hb hby at_240) ((if0 _ _).trans (feq (by decide : ¬ ((1 : Int32) = (0 : Int32)))).1) ?_
        refine Ow.iconst X183 hx (pc' := 244) (hb hby at_243) (z := (1 : Int32)) rfl ?_
        refine Ow.goto X183 hx (pc' := 248) (hb hby at_244) (by decide) (by decide) ?_
        exact Wq.ret X183 (BodyLoose.notSynchronized Bd) (rv := some (.int (1 : Int32))) (fun h => by rw [Bd.returns] at h; cases h) (fun _ hr => retN X183 hx (t := .boolean) Bd.returns (by simp) (hb hby at_248) hr) (by decide) (by decide) ⟨rfl, N183⟩
      · skip
        refine Ow.icmpNo X134 hx (pc' := 101) (hb hby at_98) (flt hc98).1 ?_
        refine Ow.aload X134 hx (pc' := 103) (hb hby at_101) rfl rfl ?_
        refine Ow.iload X134 hx (pc' := 105) (hb hby at_103) rfl ?_
        obtain ⟨cq188, kq188, q188a, q188b, q188c⟩ := isOf hZ e134 A28_t134
        obtain ⟨_, _, ⟨T188, L188, k188, n188⟩, -, X188, ⟨Lc188, hQ188, l188, y188, z188⟩, st188⟩ := X134.virtualBack hx (y := mt3) (z := mt3) hown (mvT hZ (kw27 hw)) (mvT hZ (kw28 hw)) (notFace_of_selects (args := #[]) (mvT hZ (kw30 hw))) (mvT hZ (kw30 hw)) (mvT hZ (kw29 hw)) (by decide) (backOf (W := 0) (rm_noteC l Z a0 hw [] o28 v28 b2_c29 b4_c29 q136 q137 q138 T134.heap n0 Z134 A28_t134 P134_0 P134_1 P134_2 P134_3 P134_4 g_o28 g_b2_c29 g_b4_c29 ne_o28_b2_c29 ne_o28_b4_c29 ne_b2_c29_b4_c29 (own_en189 A_v12 A_v20 A_v28 hq82 hq83 hq84 hq136 hq137 hq138)) hZ (kw31 hw) (kw3 hw) (by decide) (by decide)) q188a q188c (g := (mkF m 105 #[.val (.int xlaw_1), .val (.int xlaw_2), .val (.int xlaw_3), .val (.int xlaw_4), .val (.int xlaw_5), .val (.int v4), .val (.int v12), .val (.int v20), .val (.int v28), .val (.int v36), .val (.ref o28), .val (.int v93), .unset, .unset, .unset] [(.int v28), (.ref o28)])) rfl (by rw [hml]; rfl) (Steps.refl _) (argsL := [(.int v28)]) (rest := []) (lenOf pd1 rfl) rfl (by show 2 * 0 + _ ≤ _; exact Nat.le_of_eq rfl) (hb hby at_105) (fun _ _ => ⟨rfl, e134, (by decide : 3 + 0 ≤ _), (by decide : 9 + 0 ≤ _)⟩)
        dsimp only [Pt.U, Pt.locs, Pt.cells, Pt.slots] at X188 l188 y188 z188 st188 hQ188
        subst l188 y188 z188
        obtain ⟨rfl, Nq188, Kq188, P188_0, P188_1, P188_2, P188_3, P188_4⟩ := hQ188
        have N188 := Fr.app N134 Nq188
        have K188 : Keep h0 T188.heap [] := K134.trans Kq188 (allS (P := fun x => x ∈ [] ∨ h0.size ≤ x) (Or.inr sz_b4_c29) (allS (P := fun x => x ∈ [] ∨ h0.size ≤ x) (Or.inr sz_o28) (allS (P := fun x => x ∈ [] ∨ h0.size ≤ x) (Or.inr sz_b2_c29) all0)))
        have Z188 : n0 ≤ T188.heap.size := Nat.le_trans Z134 Kq188.1
        have A28_t188 := A28_t134.keep Kq188
        have e188 : T188.heap = T188.heap := rfl
        obtain ⟨q190, hq190⟩ : ∃ z : Int32, z = (own_nC q138 q136 v28) := ⟨_, rfl⟩
        rw [← hq190] at P188_2
        obtain ⟨q191, hq191⟩ : ∃ z : List Value, z = (own_nV q137 q138 q136 v28) := ⟨_, rfl⟩
        rw [← hq191] at P188_3
        obtain ⟨q192, hq192⟩ : ∃ z : List Value, z = (own_nB q138 v28) := ⟨_, rfl⟩
        rw [← hq192] at P188_4
        refine Wq.steps st188 ?_
        show Wq _ _ _ _ _ (T188.setTop (mkF m 108 #[.val (.int xlaw_1), .val (.int xlaw_2), .val (.int xlaw_3), .val (.int xlaw_4), .val (.int xlaw_5), .val (.int v4), .val (.int v12), .val (.int v20), .val (.int v28), .val (.int v36), .val (.ref o28), .val (.int v93), .unset, .unset, .unset] []))
        refine Ow.iload X188 hx (pc' := 110) (hb hby at_108) rfl ?_
        refine Ow.iconst X188 hx (pc' := 111) (hb hby at_110) (z := (1 : Int32)) rfl ?_
        refine Ow.iload X188 hx (pc' := 113) (hb hby at_111) rfl ?_
        refine Ow.ishl X188 hx (pc' := 114) (hb hby at_113) (z := ((1 : Int32) <<< (v28 &&& 31))) rfl ?_
        refine Ow.ior X188 hx (pc' := 115) (hb hby at_114) (z := (v93 ||| ((1 : Int32) <<< (v28 &&& 31)))) rfl ?_
        refine Ow.istore X188 hx (pc' := 117) (hb hby at_115) (l' := #[.val (.int xlaw_1), .val (.int xlaw_2), .val (.int xlaw_3), .val (.int xlaw_4), .val (.int xlaw_5), .val (.int v4), .val (.int v12), .val (.int v20), .val (.int v28), .val (.int v36), .val (.ref o28), .val (.int (v93 ||| ((1 : Int32) <<< (v28 &&& 31)))), .unset, .unset, .unset]) rfl ?_
        generalize hv115 : (v93 ||| ((1 : Int32) <<< (v28 &&& 31))) = v115
        refine Ow.iconst X188 hx (pc' := 118) (hb hby at_117) (z := (3 : Int32)) rfl ?_
        obtain ⟨T193, h193, k193, X193, e193, E193, A193, st193⟩ := newP X188 hx hZ (aty := .int) (kw10 hw) e188 (g := (mkF m 118 #[.val (.int xlaw_1), .val (.int xlaw_2), .val (.int xlaw_3), .val (.int xlaw_4), .val (.int xlaw_5), .val (.int v4), .val (.int v12), .val (.int v20), .val (.int v28), .val (.int v36), .val (.ref o28), .val (.int v115), .unset, .unset, .unset] [(.int (3 : Int32))])) rfl (hb hby at_118) rfl (by decide) (cap := 3) (by decide) (by decide) (by decide) (by decide)
        obtain ⟨b193, gz193⟩ : ∃ z, z = T188.heap.size := ⟨_, rfl⟩
        rw [← gz193] at A193 st193
        have g_b193 : n0 ≤ b193 := Nat.le_trans Z188 (Nat.le_of_eq gz193.symm)
        have sz_b193 : h0.size ≤ b193 := Nat.le_trans K188.1 (Nat.le_of_eq gz193.symm)
        have ne_o28_b193 : o28 ≠ b193 := Nat.ne_of_lt (Nat.lt_of_lt_of_le A28_t188.lt (Nat.le_of_eq gz193.symm))
        have ne_b2_c29_b193 : b2_c29 ≠ b193 := Nat.ne_of_lt (Nat.lt_of_lt_of_le P188_3.lt (Nat.le_of_eq gz193.symm))
        have ne_b4_c29_b193 : b4_c29 ≠ b193 := Nat.ne_of_lt (Nat.lt_of_lt_of_le P188_4.lt (Nat.le_of_eq gz193.symm))
        have K193 : Keep h0 h193 [] := K188.ext E193
        have Z193 : n0 ≤ h193.size := Nat.le_trans Z188 E193.1
        have A28_t193 := A28_t188.ext E193
        have P188_0_t193 := P188_0.ext E193
        have P188_1_t193 := P188_1.ext E193
        have P188_2_t193 := P188_2.ext E193
        have P188_3_t193 := P188_3.ext E193
        have P188_4_t193 := P188_4.ext E193
        have V_b193 : Al Z h193 b193 .int [(.int (0 : Int32)), (.int (0 : Int32)), (.int (0 : Int32))] := Al.new A193 (k := 3) (rfl) rfl
        refine Wq.step st193 ?_
        show Wq _ _ _ _ _ (T193.setTop (mkF m 120 #[.val (.int xlaw_1), .val (.int xlaw_2), .val (.int xlaw_3), .val (.int xlaw_4), .val (.int xlaw_5), .val (.int v4), .val (.int v12), .val (.int v20), .val (.int v28), .val (.int v36), .val (.ref o28), .val (.int v115), .unset, .unset, .unset] [(.ref b193)]))
        refine Ow.astore X193 hx (pc' := 122) (hb hby at_120) rfl (l' := #[.val (.int xlaw_1), .val (.int xlaw_2), .val (.int xlaw_3), .val (.int xlaw_4), .val (.int xlaw_5), .val (.int v4), .val (.int v12), .val (.int v20), .val (.int v28), .val (.int v36), .val (.ref o28), .val (.int v115), .val (.ref b193), .unset, .unset]) rfl ?_
        refine Ow.aload X193 hx (pc' := 124) (hb hby at_122) rfl rfl ?_
        refine Ow.iconst X193 hx (pc' := 125) (hb hby at_124) (z := (0 : Int32)) rfl ?_
        refine Ow.iconst X193 hx (pc' := 126) (hb hby at_125) (z := (0 : Int32)) rfl ?_
        obtain ⟨T194, h194, X194, e194, W194, Vr194, st194⟩ := asI X193 hx hZ e193 V_b193 (j := (0 : Int32)) (i := 0) (by decide) rfl (Nat.le_of_ble_eq_true rfl) (g := (mkF m 126 #[.val (.int xlaw_1), .val (.int xlaw_2), .val (.int xlaw_3), .val (.int xlaw_4), .val (.int xlaw_5), .val (.int v4), .val (.int v12), .val (.int v20), .val (.int v28), .val (.int v36), .val (.ref o28), .val (.int v115), .val (.ref b193), .unset, .unset] [(.int (0 : Int32)), (.int (0 : Int32)), (.ref b193)])) rfl rfl (hb hby at_126)
        refine Wq.step st194 ?_
        have N194 := Fr.snoc X194 N188 g_b193
        have K194 : Keep h0 h194 [] := K193.wr W194 (Or.inr sz_b193)
        have Z194 : n0 ≤ h194.size := Nat.le_trans Z193 (Keep.of_wr W194).1
        have A28_t194 := A28_t193.wr W194
        have P188_0_t194 := P188_0_t193.other W194 (Or.inl ne_o28_b193)
        have P188_1_t194 := P188_1_t193.other W194 (Or.inl ne_o28_b193)
        have P188_2_t194 := P188_2_t193.other W194 (Or.inl ne_o28_b193)
        have P188_3_t194 := P188_3_t193.other W194 ne_b2_c29_b193
        have P188_4_t194 := P188_4_t193.other W194 ne_b4_c29_b193
        have V_b193_t194 : Al Z h194 b193 .int [(.int (0 : Int32)), (.int (0 : Int32)), (.int (0 : Int32))] := Vr194
        show Wq _ _ _ _ _ (T194.setTop (mkF m 127 #[.val (.int xlaw_1), .val (.int xlaw_2), .val (.int xlaw_3), .val (.int xlaw_4), .val (.int xlaw_5), .val (.int v4), .val (.int v12), .val (.int v20), .val (.int v28), .val (.int v36), .val (.ref o28), .val (.int v115), .val (.ref b193), .unset, .unset] []))
        refine Ow.aload X194 hx (pc' := 129) (hb hby at_127) rfl rfl ?_
        refine Ow.iconst X194 hx (pc' := 130) (hb hby at_129) (z := (1 : Int32)) rfl ?_
        refine Ow.iconst X194 hx (pc' := 131) (hb hby at_130) (z := (0 : Int32)) rfl ?_
        obtain ⟨T195, h195, X195, e195, W195, Vr195, st195⟩ := asI X194 hx hZ e194 V_b193_t194 (j := (1 : Int32)) (i := 1) (by decide) rfl (Nat.le_of_ble_eq_true rfl) (g := (mkF m 131 #[.val (.int xlaw_1), .val (.int xlaw_2), .val (.int xlaw_3), .val (.int xlaw_4), .val (.int xlaw_5), .val (.int v4), .val (.int v12), .val (.int v20), .val (.int v28), .val (.int v36), .val (.ref o28), .val (.int v115), .val (.ref b193), .unset, .unset] [(.int (0 : Int32)), (.int (1 : Int32)), (.ref b193)])) rfl rfl (hb hby at_131)
        refine Wq.step st195 ?_
        have N195 := Fr.snoc X195 N194 g_b193
        have K195 : Keep h0 h195 [] := K194.wr W195 (Or.inr sz_b193)
        have Z195 : n0 ≤ h195.size := Nat.le_trans Z194 (Keep.of_wr W195).1
        have A28_t195 := A28_t194.wr W195
        have P188_0_t195 := P188_0_t194.other W195 (Or.inl ne_o28_b193)
        have P188_1_t195 := P188_1_t194.other W195 (Or.inl ne_o28_b193)
        have P188_2_t195 := P188_2_t194.other W195 (Or.inl ne_o28_b193)
        have P188_3_t195 := P188_3_t194.other W195 ne_b2_c29_b193
        have P188_4_t195 := P188_4_t194.other W195 ne_b4_c29_b193
        have V_b193_t195 : Al Z h195 b193 .int [(.int (0 : Int32)), (.int (0 : Int32)), (.int (0 : Int32))] := Vr195
        show Wq _ _ _ _ _ (T195.setTop (mkF m 132 #[.val (.int xlaw_1), .val (.int xlaw_2), .val (.int xlaw_3), .val (.int xlaw_4), .val (.int xlaw_5), .val (.int v4), .val (.int v12), .val (.int v20), .val (.int v28), .val (.int v36), .val (.ref o28), .val (.int v115), .val (.ref b193), .unset, .unset] []))
        refine Ow.aload X195 hx (pc' := 134) (hb hby at_132) rfl rfl ?_
        refine Ow.iconst X195 hx (pc' := 135) (hb hby at_134) (z := (2 : Int32)) rfl ?_
        refine Ow.iconst X195 hx (pc' := 136) (hb hby at_135) (z := (1 : Int32)) rfl ?_
        obtain ⟨T196, h196, X196, e196, W196, Vr196, st196⟩ := asI X195 hx hZ e195 V_b193_t195 (j := (2 : Int32)) (i := 2) (by decide) rfl (Nat.le_of_ble_eq_true rfl) (g := (mkF m 136 #[.val (.int xlaw_1), .val (.int xlaw_2), .val (.int xlaw_3), .val (.int xlaw_4), .val (.int xlaw_5), .val (.int v4), .val (.int v12), .val (.int v20), .val (.int v28), .val (.int v36), .val (.ref o28), .val (.int v115), .val (.ref b193), .unset, .unset] [(.int (1 : Int32)), (.int (2 : Int32)), (.ref b193)])) rfl rfl (hb hby at_136)
        refine Wq.step st196 ?_
        have N196 := Fr.snoc X196 N195 g_b193
        have K196 : Keep h0 h196 [] := K195.wr W196 (Or.inr sz_b193)
        have Z196 : n0 ≤ h196.size := Nat.le_trans Z195 (Keep.of_wr W196).1
        have A28_t196 := A28_t195.wr W196
        have P188_0_t196 := P188_0_t195.other W196 (Or.inl ne_o28_b193)
        have P188_1_t196 := P188_1_t195.other W196 (Or.inl ne_o28_b193)
        have P188_2_t196 := P188_2_t195.other W196 (Or.inl ne_o28_b193)
        have P188_3_t196 := P188_3_t195.other W196 ne_b2_c29_b193
        have P188_4_t196 := P188_4_t195.other W196 ne_b4_c29_b193
        have V_b193_t196 : Al Z h196 b193 .int [(.int (0 : Int32)), (.int (0 : Int32)), (.int (1 : Int32))] := Vr196
        show Wq _ _ _ _ _ (T196.setTop (mkF m 137 #[.val (.int xlaw_1), .val (.int xlaw_2), .val (.int xlaw_3), .val (.int xlaw_4), .val (.int xlaw_5), .val (.int v4), .val (.int v12), .val (.int v20), .val (.int v28), .val (.int v36), .val (.ref o28), .val (.int v115), .val (.ref b193), .unset, .unset] []))
        refine Ow.aload X196 hx (pc' := 139) (hb hby at_137) rfl rfl ?_
        obtain ⟨cq197, kq197, q197a, q197b, q197c⟩ := isOf hZ e196 A28_t196
        obtain ⟨_, _, ⟨T197, L197, k197, n197⟩, -, X197, ⟨Lc197, hQ197, l197, y197, z197⟩, st197⟩ := X196.virtualBack hx (y := mt4) (z := mt4) hown (mvT hZ (kw16 hw)) (mvT hZ (kw17 hw)) (notFace_of_selects (args := #[]) (mvT hZ (kw19 hw))) (mvT hZ (kw19 hw)) (mvT hZ (kw18 hw)) (by decide) (backOf (W := 0) (rm_nextC l Z a0 hw [] o28 b2_c29 b4_c29 q190 q191 q192 h196 n0 Z196 A28_t196 P188_0_t196 P188_1_t196 P188_2_t196 P188_3_t196 P188_4_t196 g_o28 g_b2_c29 g_b4_c29 ne_o28_b2_c29 ne_o28_b4_c29 ne_b2_c29_b4_c29 (own_en198 A_v12 A_v20 A_v28 hq82 hq83 hq84 hq136 hq137 hq138 hq190 hq191 hq192)) hZ (kw20 hw) (kw3 hw) (by decide) (by decide)) q197a q197c (g := (mkF m 139 #[.val (.int xlaw_1), .val (.int xlaw_2), .val (.int xlaw_3), .val (.int xlaw_4), .val (.int xlaw_5), .val (.int v4), .val (.int v12), .val (.int v20), .val (.int v28), .val (.int v36), .val (.ref o28), .val (.int v115), .val (.ref b193), .unset, .unset] [(.ref o28)])) rfl (by rw [hml]; rfl) (Steps.refl _) (argsL := []) (rest := []) (lenOf pd2 rfl) rfl (by show 2 * 0 + _ ≤ _; exact Nat.le_of_eq rfl) (hb hby at_139) (fun _ _ => ⟨rfl, e196, (by decide : 4 + 0 ≤ _), (by decide : 12 + 0 ≤ _)⟩)
        dsimp only [Pt.U, Pt.locs, Pt.cells, Pt.slots] at X197 l197 y197 z197 st197 hQ197
        subst l197 y197 z197
        obtain ⟨rfl, Nq197, Kq197, P197_0, P197_1, P197_2, P197_3, P197_4⟩ := hQ197
        have N197 := Fr.app N196 Nq197
        have K197 : Keep h0 T197.heap [] := K196.trans Kq197 (allS (P := fun x => x ∈ [] ∨ h0.size ≤ x) (Or.inr sz_o28) (allS (P := fun x => x ∈ [] ∨ h0.size ≤ x) (Or.inr sz_b4_c29) all0))
        have Z197 : n0 ≤ T197.heap.size := Nat.le_trans Z196 Kq197.1
        have A28_t197 := A28_t196.keep Kq197
        have P188_3_t197 := P188_3_t196.keep Kq197 (ninS (Ne.symm ne_o28_b2_c29) (ninS ne_b2_c29_b4_c29 nin0))
        have V_b193_t197 := V_b193_t196.keep Kq197 (ninS (Ne.symm ne_o28_b193) (ninS (Ne.symm ne_b4_c29_b193) nin0))
        have e197 : T197.heap = T197.heap := rfl
        obtain ⟨q199, hq199⟩ : ∃ z : Int32, z = (own_xC q190) := ⟨_, rfl⟩
        rw [← hq199] at P197_2
        obtain ⟨q200, hq200⟩ : ∃ z : List Value, z = (own_xB q191 q192 q190) := ⟨_, rfl⟩
        rw [← hq200] at P197_4
        refine Wq.steps st197 ?_
        show Wq _ _ _ _ _ (T197.setTop (mkF m 142 #[.val (.int xlaw_1), .val (.int xlaw_2), .val (.int xlaw_3), .val (.int xlaw_4), .val (.int xlaw_5), .val (.int v4), .val (.int v12), .val (.int v20), .val (.int v28), .val (.int v36), .val (.ref o28), .val (.int v115), .val (.ref b193), .unset, .unset] [(.int (own_xR q191 q190))]))
        generalize hv139 : (own_xR q191 q190) = v139
        show Wq _ _ _ _ _ (T197.setTop (mkF m 142 #[.val (.int xlaw_1), .val (.int xlaw_2), .val (.int xlaw_3), .val (.int xlaw_4), .val (.int xlaw_5), .val (.int v4), .val (.int v12), .val (.int v20), .val (.int v28), .val (.int v36), .val (.ref o28), .val (.int v115), .val (.ref b193), .unset, .unset] [(.int v139)]))
        refine Ow.aload X197 hx (pc' := 144) (hb hby at_142) rfl rfl ?_
        obtain ⟨_, _, ⟨T201, L201, k201, n201⟩, -, X201, ⟨Lc201, hQ201, l201, y201, z201⟩, st201⟩ := Jvm.LawKit.callS X197 hx (y := mt2) hown (mvT hZ (kw23 hw)) (mvT hZ (kw24 hw)) (mvT hZ (kw25 hw)) (mvT hZ (kw26 hw)) (by decide) (backOf (W := 0) (rm_take l Z a0 hw [] v139 b193 (0 : Int32) (0 : Int32) (1 : Int32) T197.heap n0 Z197 V_b193_t197 g_b193) hZ (kw26 hw) (kw25 hw) (by decide) (by decide)) (g := (mkF m 144 #[.val (.int xlaw_1), .val (.int xlaw_2), .val (.int xlaw_3), .val (.int xlaw_4), .val (.int xlaw_5), .val (.int v4), .val (.int v12), .val (.int v20), .val (.int v28), .val (.int v36), .val (.ref o28), .val (.int v115), .val (.ref b193), .unset, .unset] [(.ref b193), (.int v139)])) rfl (by rw [hml]; rfl) (argsL := [(.int v139), (.ref b193)]) (rest := []) (lenOf pd3 rfl) rfl (by show 2 * 0 + _ ≤ _; exact Nat.le_of_eq rfl) (hb hby at_144) (fun _ _ => ⟨rfl, e197, (by decide : 4 + 0 ≤ _), (by decide : 12 + 0 ≤ _)⟩)
        dsimp only [Pt.U, Pt.locs, Pt.cells, Pt.slots] at X201 l201 y201 z201 st201 hQ201
        subst l201 y201 z201
        obtain ⟨rfl, Nq201, Kq201, P201_0⟩ := hQ201
        have N201 := Fr.app N197 Nq201
        have K201 : Keep h0 T201.heap [] := K197.trans Kq201 (allS (P := fun x => x ∈ [] ∨ h0.size ≤ x) (Or.inr sz_b193) all0)
        have Z201 : n0 ≤ T201.heap.size := Nat.le_trans Z197 Kq201.1
        have A28_t201 := A28_t197.keep Kq201
        have P197_3_t201 := P197_3.keep Kq201 (ninS ne_b2_c29_b193 nin0)
        have P197_0_t201 := P197_0.keep Kq201 (ninS ne_o28_b193 nin0)
        have P197_1_t201 := P197_1.keep Kq201 (ninS ne_o28_b193 nin0)
        have P197_2_t201 := P197_2.keep Kq201 (ninS ne_o28_b193 nin0)
        have P197_4_t201 := P197_4.keep Kq201 (ninS ne_b4_c29_b193 nin0)
        have e201 : T201.heap = T201.heap := rfl
        obtain ⟨q202, hq202⟩ : ∃ z : Int32, z = (f_take_p0 v139 (0 : Int32) (0 : Int32) (1 : Int32)) := ⟨_, rfl⟩
        rw [← hq202] at P201_0
        obtain ⟨q203, hq203⟩ : ∃ z : Int32, z = (f_take_p1 v139 (0 : Int32) (0 : Int32) (1 : Int32)) := ⟨_, rfl⟩
        rw [← hq203] at P201_0
        obtain ⟨q204, hq204⟩ : ∃ z : Int32, z = (f_take_p2 v139 (0 : Int32) (0 : Int32) (1 : Int32)) := ⟨_, rfl⟩
        rw [← hq204] at P201_0
        refine Wq.step st201 ?_
        show Wq _ _ _ _ _ (T201.setTop (mkF m 147 #[.val (.int xlaw_1), .val (.int xlaw_2), .val (.int xlaw_3), .val (.int xlaw_4), .val (.int xlaw_5), .val (.int v4), .val (.int v12), .val (.int v20), .val (.int v28), .val (.int v36), .val (.ref o28), .val (.int v115), .val (.ref b193), .unset, .unset] []))
        refine Ow.aload X201 hx (pc' := 149) (hb hby at_147) rfl rfl ?_
        obtain ⟨cq205, kq205, q205a, q205b, q205c⟩ := isOf hZ e201 A28_t201
        obtain ⟨_, _, ⟨T205, L205, k205, n205⟩, -, X205, ⟨Lc205, hQ205, l205, y205, z205⟩, st205⟩ := X201.virtualBack hx (y := mt4) (z := mt4) hown (mvT hZ (kw16 hw)) (mvT hZ (kw17 hw)) (notFace_of_selects (args := #[]) (mvT hZ (kw19 hw))) (mvT hZ (kw19 hw)) (mvT hZ (kw18 hw)) (by decide) (backOf (W := 0) (rm_nextC l Z a0 hw [] o28 b2_c29 b4_c29 q199 q191 q200 T201.heap n0 Z201 A28_t201 P197_0_t201 P197_1_t201 P197_2_t201 P197_3_t201 P197_4_t201 g_o28 g_b2_c29 g_b4_c29 ne_o28_b2_c29 ne_o28_b4_c29 ne_b2_c29_b4_c29 (own_en206 A_v12 A_v20 A_v28 hq82 hq83 hq84 hq136 hq137 hq138 hq190 hq191 hq192 hq199 hq200)) hZ (kw20 hw) (kw3 hw) (by decide) (by decide)) q205a q205c (g := (mkF m 149 #[.val (.int xlaw_1), .val (.int xlaw_2), .val (.int xlaw_3), .val (.int xlaw_4), .val (.int xlaw_5), .val (.int v4), .val (.int v12), .val (.int v20), .val (.int v28), .val (.int v36), .val (.ref o28), .val (.int v115), .val (.ref b193), .unset, .unset] [(.ref o28)])) rfl (by rw [hml]; rfl) (Steps.refl _) (argsL := []) (rest := []) (lenOf pd2 rfl) rfl (by show 2 * 0 + _ ≤ _; exact Nat.le_of_eq rfl) (hb hby at_149) (fun _ _ => ⟨rfl, e201, (by decide : 4 + 0 ≤ _), (by decide : 12 + 0 ≤ _)⟩)
        dsimp only [Pt.U, Pt.locs, Pt.cells, Pt.slots] at X205 l205 y205 z205 st205 hQ205
        subst l205 y205 z205
        obtain ⟨rfl, Nq205, Kq205, P205_0, P205_1, P205_2, P205_3, P205_4⟩ := hQ205
        have N205 := Fr.app N201 Nq205
        have K205 : Keep h0 T205.heap [] := K201.trans Kq205 (allS (P := fun x => x ∈ [] ∨ h0.size ≤ x) (Or.inr sz_o28) (allS (P := fun x => x ∈ [] ∨ h0.size ≤ x) (Or.inr sz_b4_c29) all0))
        have Z205 : n0 ≤ T205.heap.size := Nat.le_trans Z201 Kq205.1
        have A28_t205 := A28_t201.keep Kq205
        have P197_3_t205 := P197_3_t201.keep Kq205 (ninS (Ne.symm ne_o28_b2_c29) (ninS ne_b2_c29_b4_c29 nin0))
        have P201_0_t205 := P201_0.keep Kq205 (ninS (Ne.symm ne_o28_b193) (ninS (Ne.symm ne_b4_c29_b193) nin0))
        have e205 : T205.heap = T205.heap := rfl
        obtain ⟨q207, hq207⟩ : ∃ z : Int32, z = (own_xC q199) := ⟨_, rfl⟩
        rw [← hq207] at P205_2
        obtain ⟨q208, hq208⟩ : ∃ z : List Value, z = (own_xB q191 q200 q199) := ⟨_, rfl⟩
        rw [← hq208] at P205_4
        refine Wq.steps st205 ?_
        show Wq _ _ _ _ _ (T205.setTop (mkF m 152 #[.val (.int xlaw_1), .val (.int xlaw_2), .val (.int xlaw_3), .val (.int xlaw_4), .val (.int xlaw_5), .val (.int v4), .val (.int v12), .val (.int v20), .val (.int v28), .val (.int v36), .val (.ref o28), .val (.int v115), .val (.ref b193), .unset, .unset] [(.int (own_xR q191 q199))]))
        generalize hv149 : (own_xR q191 q199) = v149
        show Wq _ _ _ _ _ (T205.setTop (mkF m 152 #[.val (.int xlaw_1), .val (.int xlaw_2), .val (.int xlaw_3), .val (.int xlaw_4), .val (.int xlaw_5), .val (.int v4), .val (.int v12), .val (.int v20), .val (.int v28), .val (.int v36), .val (.ref o28), .val (.int v115), .val (.ref b193), .unset, .unset] [(.int v149)]))
        refine Ow.aload X205 hx (pc' := 154) (hb hby at_152) rfl rfl ?_
        obtain ⟨_, _, ⟨T209, L209, k209, n209⟩, -, X209, ⟨Lc209, hQ209, l209, y209, z209⟩, st209⟩ := Jvm.LawKit.callS X205 hx (y := mt2) hown (mvT hZ (kw23 hw)) (mvT hZ (kw24 hw)) (mvT hZ (kw25 hw)) (mvT hZ (kw26 hw)) (by decide) (backOf (W := 0) (rm_take l Z a0 hw [] v149 b193 q202 q203 q204 T205.heap n0 Z205 P201_0_t205 g_b193) hZ (kw26 hw) (kw25 hw) (by decide) (by decide)) (g := (mkF m 154 #[.val (.int xlaw_1), .val (.int xlaw_2), .val (.int xlaw_3), .val (.int xlaw_4), .val (.int xlaw_5), .val (.int v4), .val (.int v12), .val (.int v20), .val (.int v28), .val (.int v36), .val (.ref o28), .val (.int v115), .val (.ref b193), .unset, .unset] [(.ref b193), (.int v149)])) rfl (by rw [hml]; rfl) (argsL := [(.int v149), (.ref b193)]) (rest := []) (lenOf pd3 rfl) rfl (by show 2 * 0 + _ ≤ _; exact Nat.le_of_eq rfl) (hb hby at_154) (fun _ _ => ⟨rfl, e205, (by decide : 4 + 0 ≤ _), (by decide : 12 + 0 ≤ _)⟩)
        dsimp only [Pt.U, Pt.locs, Pt.cells, Pt.slots] at X209 l209 y209 z209 st209 hQ209
        subst l209 y209 z209
        obtain ⟨rfl, Nq209, Kq209, P209_0⟩ := hQ209
        have N209 := Fr.app N205 Nq209
        have K209 : Keep h0 T209.heap [] := K205.trans Kq209 (allS (P := fun x => x ∈ [] ∨ h0.size ≤ x) (Or.inr sz_b193) all0)
        have Z209 : n0 ≤ T209.heap.size := Nat.le_trans Z205 Kq209.1
        have A28_t209 := A28_t205.keep Kq209
        have P205_3_t209 := P205_3.keep Kq209 (ninS ne_b2_c29_b193 nin0)
        have P205_0_t209 := P205_0.keep Kq209 (ninS ne_o28_b193 nin0)
        have P205_1_t209 := P205_1.keep Kq209 (ninS ne_o28_b193 nin0)
        have P205_2_t209 := P205_2.keep Kq209 (ninS ne_o28_b193 nin0)
        have P205_4_t209 := P205_4.keep Kq209 (ninS ne_b4_c29_b193 nin0)
        have e209 : T209.heap = T209.heap := rfl
        obtain ⟨q210, hq210⟩ : ∃ z : Int32, z = (f_take_p0 v149 q202 q203 q204) := ⟨_, rfl⟩
        rw [← hq210] at P209_0
        obtain ⟨q211, hq211⟩ : ∃ z : Int32, z = (f_take_p1 v149 q202 q203 q204) := ⟨_, rfl⟩
        rw [← hq211] at P209_0
        obtain ⟨q212, hq212⟩ : ∃ z : Int32, z = (f_take_p2 v149 q202 q203 q204) := ⟨_, rfl⟩
        rw [← hq212] at P209_0
        refine Wq.step st209 ?_
        show Wq _ _ _ _ _ (T209.setTop (mkF m 157 #[.val (.int xlaw_1), .val (.int xlaw_2), .val (.int xlaw_3), .val (.int xlaw_4), .val (.int xlaw_5), .val (.int v4), .val (.int v12), .val (.int v20), .val (.int v28), .val (.int v36), .val (.ref o28), .val (.int v115), .val (.ref b193), .unset, .unset] []))
        refine Ow.aload X209 hx (pc' := 159) (hb hby at_157) rfl rfl ?_
        obtain ⟨cq213, kq213, q213a, q213b, q213c⟩ := isOf hZ e209 A28_t209
        obtain ⟨_, _, ⟨T213, L213, k213, n213⟩, -, X213, ⟨Lc213, hQ213, l213, y213, z213⟩, st213⟩ := X209.virtualBack hx (y := mt4) (z := mt4) hown (mvT hZ (kw16 hw)) (mvT hZ (kw17 hw)) (notFace_of_selects (args := #[]) (mvT hZ (kw19 hw))) (mvT hZ (kw19 hw)) (mvT hZ (kw18 hw)) (by decide) (backOf (W := 0) (rm_nextC l Z a0 hw [] o28 b2_c29 b4_c29 q207 q191 q208 T209.heap n0 Z209 A28_t209 P205_0_t209 P205_1_t209 P205_2_t209 P205_3_t209 P205_4_t209 g_o28 g_b2_c29 g_b4_c29 ne_o28_b2_c29 ne_o28_b4_c29 ne_b2_c29_b4_c29 (own_en214 A_v12 A_v20 A_v28 hq82 hq83 hq84 hq136 hq137 hq138 hq190 hq191 hq192 hq199 hq200 hq207 hq208)) hZ (kw20 hw) (kw3 hw) (by decide) (by decide)) q213a q213c (g := (mkF m 159 #[.val (.int xlaw_1), .val (.int xlaw_2), .val (.int xlaw_3), .val (.int xlaw_4), .val (.int xlaw_5), .val (.int v4), .val (.int v12), .val (.int v20), .val (.int v28), .val (.int v36), .val (.ref o28), .val (.int v115), .val (.ref b193), .unset, .unset] [(.ref o28)])) rfl (by rw [hml]; rfl) (Steps.refl _) (argsL := []) (rest := []) (lenOf pd2 rfl) rfl (by show 2 * 0 + _ ≤ _; exact Nat.le_of_eq rfl) (hb hby at_159) (fun _ _ => ⟨rfl, e209, (by decide : 4 + 0 ≤ _), (by decide : 12 + 0 ≤ _)⟩)
        dsimp only [Pt.U, Pt.locs, Pt.cells, Pt.slots] at X213 l213 y213 z213 st213 hQ213
        subst l213 y213 z213
        obtain ⟨rfl, Nq213, Kq213, P213_0, P213_1, P213_2, P213_3, P213_4⟩ := hQ213
        have N213 := Fr.app N209 Nq213
        have K213 : Keep h0 T213.heap [] := K209.trans Kq213 (allS (P := fun x => x ∈ [] ∨ h0.size ≤ x) (Or.inr sz_o28) (allS (P := fun x => x ∈ [] ∨ h0.size ≤ x) (Or.inr sz_b4_c29) all0))
        have Z213 : n0 ≤ T213.heap.size := Nat.le_trans Z209 Kq213.1
        have A28_t213 := A28_t209.keep Kq213
        have P205_3_t213 := P205_3_t209.keep Kq213 (ninS (Ne.symm ne_o28_b2_c29) (ninS ne_b2_c29_b4_c29 nin0))
        have P209_0_t213 := P209_0.keep Kq213 (ninS (Ne.symm ne_o28_b193) (ninS (Ne.symm ne_b4_c29_b193) nin0))
        have e213 : T213.heap = T213.heap := rfl
        obtain ⟨q215, hq215⟩ : ∃ z : Int32, z = (own_xC q207) := ⟨_, rfl⟩
        rw [← hq215] at P213_2
        obtain ⟨q216, hq216⟩ : ∃ z : List Value, z = (own_xB q191 q208 q207) := ⟨_, rfl⟩
        rw [← hq216] at P213_4
        refine Wq.steps st213 ?_
        show Wq _ _ _ _ _ (T213.setTop (mkF m 162 #[.val (.int xlaw_1), .val (.int xlaw_2), .val (.int xlaw_3), .val (.int xlaw_4), .val (.int xlaw_5), .val (.int v4), .val (.int v12), .val (.int v20), .val (.int v28), .val (.int v36), .val (.ref o28), .val (.int v115), .val (.ref b193), .unset, .unset] [(.int (own_xR q191 q207))]))
        generalize hv159 : (own_xR q191 q207) = v159
        show Wq _ _ _ _ _ (T213.setTop (mkF m 162 #[.val (.int xlaw_1), .val (.int xlaw_2), .val (.int xlaw_3), .val (.int xlaw_4), .val (.int xlaw_5), .val (.int v4), .val (.int v12), .val (.int v20), .val (.int v28), .val (.int v36), .val (.ref o28), .val (.int v115), .val (.ref b193), .unset, .unset] [(.int v159)]))
        refine Ow.aload X213 hx (pc' := 164) (hb hby at_162) rfl rfl ?_
        obtain ⟨_, _, ⟨T217, L217, k217, n217⟩, -, X217, ⟨Lc217, hQ217, l217, y217, z217⟩, st217⟩ := Jvm.LawKit.callS X213 hx (y := mt2) hown (mvT hZ (kw23 hw)) (mvT hZ (kw24 hw)) (mvT hZ (kw25 hw)) (mvT hZ (kw26 hw)) (by decide) (backOf (W := 0) (rm_take l Z a0 hw [] v159 b193 q210 q211 q212 T213.heap n0 Z213 P209_0_t213 g_b193) hZ (kw26 hw) (kw25 hw) (by decide) (by decide)) (g := (mkF m 164 #[.val (.int xlaw_1), .val (.int xlaw_2), .val (.int xlaw_3), .val (.int xlaw_4), .val (.int xlaw_5), .val (.int v4), .val (.int v12), .val (.int v20), .val (.int v28), .val (.int v36), .val (.ref o28), .val (.int v115), .val (.ref b193), .unset, .unset] [(.ref b193), (.int v159)])) rfl (by rw [hml]; rfl) (argsL := [(.int v159), (.ref b193)]) (rest := []) (lenOf pd3 rfl) rfl (by show 2 * 0 + _ ≤ _; exact Nat.le_of_eq rfl) (hb hby at_164) (fun _ _ => ⟨rfl, e213, (by decide : 4 + 0 ≤ _), (by decide : 12 + 0 ≤ _)⟩)
        dsimp only [Pt.U, Pt.locs, Pt.cells, Pt.slots] at X217 l217 y217 z217 st217 hQ217
        subst l217 y217 z217
        obtain ⟨rfl, Nq217, Kq217, P217_0⟩ := hQ217
        have N217 := Fr.app N213 Nq217
        have K217 : Keep h0 T217.heap [] := K213.trans Kq217 (allS (P := fun x => x ∈ [] ∨ h0.size ≤ x) (Or.inr sz_b193) all0)
        have Z217 : n0 ≤ T217.heap.size := Nat.le_trans Z213 Kq217.1
        have A28_t217 := A28_t213.keep Kq217
        have P213_3_t217 := P213_3.keep Kq217 (ninS ne_b2_c29_b193 nin0)
        have P213_0_t217 := P213_0.keep Kq217 (ninS ne_o28_b193 nin0)
        have P213_1_t217 := P213_1.keep Kq217 (ninS ne_o28_b193 nin0)
        have P213_2_t217 := P213_2.keep Kq217 (ninS ne_o28_b193 nin0)
        have P213_4_t217 := P213_4.keep Kq217 (ninS ne_b4_c29_b193 nin0)
        have e217 : T217.heap = T217.heap := rfl
        obtain ⟨q218, hq218⟩ : ∃ z : Int32, z = (f_take_p0 v159 q210 q211 q212) := ⟨_, rfl⟩
        rw [← hq218] at P217_0
        obtain ⟨q219, hq219⟩ : ∃ z : Int32, z = (f_take_p1 v159 q210 q211 q212) := ⟨_, rfl⟩
        rw [← hq219] at P217_0
        obtain ⟨q220, hq220⟩ : ∃ z : Int32, z = (f_take_p2 v159 q210 q211 q212) := ⟨_, rfl⟩
        rw [← hq220] at P217_0
        refine Wq.step st217 ?_
        show Wq _ _ _ _ _ (T217.setTop (mkF m 167 #[.val (.int xlaw_1), .val (.int xlaw_2), .val (.int xlaw_3), .val (.int xlaw_4), .val (.int xlaw_5), .val (.int v4), .val (.int v12), .val (.int v20), .val (.int v28), .val (.int v36), .val (.ref o28), .val (.int v115), .val (.ref b193), .unset, .unset] []))
        refine Ow.aload X217 hx (pc' := 169) (hb hby at_167) rfl rfl ?_
        obtain ⟨cq221, kq221, q221a, q221b, q221c⟩ := isOf hZ e217 A28_t217
        obtain ⟨_, _, ⟨T221, L221, k221, n221⟩, -, X221, ⟨Lc221, hQ221, l221, y221, z221⟩, st221⟩ := X217.virtualBack hx (y := mt4) (z := mt4) hown (mvT hZ (kw16 hw)) (mvT hZ (kw17 hw)) (notFace_of_selects (args := #[]) (mvT hZ (kw19 hw))) (mvT hZ (kw19 hw)) (mvT hZ (kw18 hw)) (by decide) (backOf (W := 0) (rm_nextC l Z a0 hw [] o28 b2_c29 b4_c29 q215 q191 q216 T217.heap n0 Z217 A28_t217 P213_0_t217 P213_1_t217 P213_2_t217 P213_3_t217 P213_4_t217 g_o28 g_b2_c29 g_b4_c29 ne_o28_b2_c29 ne_o28_b4_c29 ne_b2_c29_b4_c29 (own_en222 A_v12 A_v20 A_v28 hq82 hq83 hq84 hq136 hq137 hq138 hq190 hq191 hq192 hq199 hq200 hq207 hq208 hq215 hq216)) hZ (kw20 hw) (kw3 hw) (by decide) (by decide)) q221a q221c (g := (mkF m 169 #[.val (.int xlaw_1), .val (.int xlaw_2), .val (.int xlaw_3), .val (.int xlaw_4), .val (.int xlaw_5), .val (.int v4), .val (.int v12), .val (.int v20), .val (.int v28), .val (.int v36), .val (.ref o28), .val (.int v115), .val (.ref b193), .unset, .unset] [(.ref o28)])) rfl (by rw [hml]; rfl) (Steps.refl _) (argsL := []) (rest := []) (lenOf pd2 rfl) rfl (by show 2 * 0 + _ ≤ _; exact Nat.le_of_eq rfl) (hb hby at_169) (fun _ _ => ⟨rfl, e217, (by decide : 4 + 0 ≤ _), (by decide : 12 + 0 ≤ _)⟩)
        dsimp only [Pt.U, Pt.locs, Pt.cells, Pt.slots] at X221 l221 y221 z221 st221 hQ221
        subst l221 y221 z221
        obtain ⟨rfl, Nq221, Kq221, P221_0, P221_1, P221_2, P221_3, P221_4⟩ := hQ221
        have N221 := Fr.app N217 Nq221
        have K221 : Keep h0 T221.heap [] := K217.trans Kq221 (allS (P := fun x => x ∈ [] ∨ h0.size ≤ x) (Or.inr sz_o28) (allS (P := fun x => x ∈ [] ∨ h0.size ≤ x) (Or.inr sz_b4_c29) all0))
        have Z221 : n0 ≤ T221.heap.size := Nat.le_trans Z217 Kq221.1
        have A28_t221 := A28_t217.keep Kq221
        have P213_3_t221 := P213_3_t217.keep Kq221 (ninS (Ne.symm ne_o28_b2_c29) (ninS ne_b2_c29_b4_c29 nin0))
        have P217_0_t221 := P217_0.keep Kq221 (ninS (Ne.symm ne_o28_b193) (ninS (Ne.symm ne_b4_c29_b193) nin0))
        have e221 : T221.heap = T221.heap := rfl
        obtain ⟨q223, hq223⟩ : ∃ z : Int32, z = (own_xC q215) := ⟨_, rfl⟩
        rw [← hq223] at P221_2
        obtain ⟨q224, hq224⟩ : ∃ z : List Value, z = (own_xB q191 q216 q215) := ⟨_, rfl⟩
        rw [← hq224] at P221_4
        refine Wq.steps st221 ?_
        show Wq _ _ _ _ _ (T221.setTop (mkF m 172 #[.val (.int xlaw_1), .val (.int xlaw_2), .val (.int xlaw_3), .val (.int xlaw_4), .val (.int xlaw_5), .val (.int v4), .val (.int v12), .val (.int v20), .val (.int v28), .val (.int v36), .val (.ref o28), .val (.int v115), .val (.ref b193), .unset, .unset] [(.int (own_xR q191 q215))]))
        generalize hv169 : (own_xR q191 q215) = v169
        show Wq _ _ _ _ _ (T221.setTop (mkF m 172 #[.val (.int xlaw_1), .val (.int xlaw_2), .val (.int xlaw_3), .val (.int xlaw_4), .val (.int xlaw_5), .val (.int v4), .val (.int v12), .val (.int v20), .val (.int v28), .val (.int v36), .val (.ref o28), .val (.int v115), .val (.ref b193), .unset, .unset] [(.int v169)]))
        refine Ow.aload X221 hx (pc' := 174) (hb hby at_172) rfl rfl ?_
        obtain ⟨_, _, ⟨T225, L225, k225, n225⟩, -, X225, ⟨Lc225, hQ225, l225, y225, z225⟩, st225⟩ := Jvm.LawKit.callS X221 hx (y := mt2) hown (mvT hZ (kw23 hw)) (mvT hZ (kw24 hw)) (mvT hZ (kw25 hw)) (mvT hZ (kw26 hw)) (by decide) (backOf (W := 0) (rm_take l Z a0 hw [] v169 b193 q218 q219 q220 T221.heap n0 Z221 P217_0_t221 g_b193) hZ (kw26 hw) (kw25 hw) (by decide) (by decide)) (g := (mkF m 174 #[.val (.int xlaw_1), .val (.int xlaw_2), .val (.int xlaw_3), .val (.int xlaw_4), .val (.int xlaw_5), .val (.int v4), .val (.int v12), .val (.int v20), .val (.int v28), .val (.int v36), .val (.ref o28), .val (.int v115), .val (.ref b193), .unset, .unset] [(.ref b193), (.int v169)])) rfl (by rw [hml]; rfl) (argsL := [(.int v169), (.ref b193)]) (rest := []) (lenOf pd3 rfl) rfl (by show 2 * 0 + _ ≤ _; exact Nat.le_of_eq rfl) (hb hby at_174) (fun _ _ => ⟨rfl, e221, (by decide : 4 + 0 ≤ _), (by decide : 12 + 0 ≤ _)⟩)
        dsimp only [Pt.U, Pt.locs, Pt.cells, Pt.slots] at X225 l225 y225 z225 st225 hQ225
        subst l225 y225 z225
        obtain ⟨rfl, Nq225, Kq225, P225_0⟩ := hQ225
        have N225 := Fr.app N221 Nq225
        have K225 : Keep h0 T225.heap [] := K221.trans Kq225 (allS (P := fun x => x ∈ [] ∨ h0.size ≤ x) (Or.inr sz_b193) all0)
        have Z225 : n0 ≤ T225.heap.size := Nat.le_trans Z221 Kq225.1
        have A28_t225 := A28_t221.keep Kq225
        have P221_3_t225 := P221_3.keep Kq225 (ninS ne_b2_c29_b193 nin0)
        have P221_0_t225 := P221_0.keep Kq225 (ninS ne_o28_b193 nin0)
        have P221_1_t225 := P221_1.keep Kq225 (ninS ne_o28_b193 nin0)
        have P221_2_t225 := P221_2.keep Kq225 (ninS ne_o28_b193 nin0)
        have P221_4_t225 := P221_4.keep Kq225 (ninS ne_b4_c29_b193 nin0)
        have e225 : T225.heap = T225.heap := rfl
        obtain ⟨q226, hq226⟩ : ∃ z : Int32, z = (f_take_p0 v169 q218 q219 q220) := ⟨_, rfl⟩
        rw [← hq226] at P225_0
        obtain ⟨q227, hq227⟩ : ∃ z : Int32, z = (f_take_p1 v169 q218 q219 q220) := ⟨_, rfl⟩
        rw [← hq227] at P225_0
        obtain ⟨q228, hq228⟩ : ∃ z : Int32, z = (f_take_p2 v169 q218 q219 q220) := ⟨_, rfl⟩
        rw [← hq228] at P225_0
        refine Wq.step st225 ?_
        show Wq _ _ _ _ _ (T225.setTop (mkF m 177 #[.val (.int xlaw_1), .val (.int xlaw_2), .val (.int xlaw_3), .val (.int xlaw_4), .val (.int xlaw_5), .val (.int v4), .val (.int v12), .val (.int v20), .val (.int v28), .val (.int v36), .val (.ref o28), .val (.int v115), .val (.ref b193), .unset, .unset] []))
        refine Ow.aload X225 hx (pc' := 179) (hb hby at_177) rfl rfl ?_
        refine Ow.iconst X225 hx (pc' := 180) (hb hby at_179) (z := (2 : Int32)) rfl ?_
        refine Ow.ldI X225 hx hZ e225 P225_0 (pc' := 181) (hb hby at_180) (j := (2 : Int32)) (i := 2) (v := (.int q228)) (by decide) rfl rfl ?_
        refine Ow.iconst X225 hx (pc' := 182) (hb hby at_181) (z := (1 : Int32)) rfl ?_
        refine Ow.icmpNo X225 hx (pc' := 185) (hb hby at_182) (teq (own_en229 A_v12 A_v20 A_v28 hq82 hq83 hq84 hq136 hq137 hq138 hq190 hq191 hq199 hv139 hq202 hq203 hq204 hq207 hv149 hq210 hq211 hq212 hq215 hv159 hq218 hq219 hq220 hv169 hq228 : q228 = (1 : Int32))).2 ?_
        refine Ow.aload X225 hx (pc' := 187) (hb hby at_185) rfl rfl ?_
        refine Ow.iconst X225 hx (pc' := 188) (hb hby at_187) (z := (1 : Int32)) rfl ?_
        refine Ow.ldI X225 hx hZ e225 P225_0 (pc' := 189) (hb hby at_188) (j := (1 : Int32)) (i := 1) (v := (.int q227)) (by decide) rfl rfl ?_
        refine Ow.iconst X225 hx (pc' := 190) (hb hby at_189) (z := (1 : Int32)) rfl ?_
        refine Ow.icmpNo X225 hx (pc' := 193) (hb hby at_190) (teq (own_en230 A_v12 A_v20 A_v28 hq82 hq83 hq84 hq136 hq137 hq138 hq190 hq191 hq199 hv139 hq202 hq203 hq204 hq207 hv149 hq210 hq211 hq212 hq215 hv159 hq218 hq219 hq220 hv169 hq227 : q227 = (1 : Int32))).2 ?_
        refine Ow.aload X225 hx (pc' := 195) (hb hby at_193) rfl rfl ?_
        refine Ow.iconst X225 hx (pc' := 196) (hb hby at_195) (z := (0 : Int32)) rfl ?_
        refine Ow.ldI X225 hx hZ e225 P225_0 (pc' := 197) (hb hby at_196) (j := (0 : Int32)) (i := 0) (v := (.int q226)) (by decide) rfl rfl ?_
        refine Ow.iload X225 hx (pc' := 199) (hb hby at_197) rfl ?_
        refine Ow.icmpNo X225 hx (pc' := 202) (hb hby at_199) (teq (own_en231 A_v12 A_v20 A_v28 hq82 hq83 hq84 hv71 hq136 hq137 hq138 hv93 hq190 hq191 hv115 hq199 hv139 hq202 hq203 hq204 hq207 hv149 hq210 hq211 hq212 hq215 hv159 hq218 hq219 hq220 hv169 hq226 : q226 = v115)).2 ?_
        refine Ow.iconst X225 hx (pc' := 203) (hb hby at_202) (z := (1 : Int32)) rfl ?_
        refine Ow.goto X225 hx (pc' := 207) (hb hby at_203) (by decide) (by decide) ?_
        refine Ow.istore X225 hx (pc' := 209) (hb hby at_207) (l' := #[.val (.int xlaw_1), .val (.int xlaw_2), .val (.int xlaw_3), .val (.int xlaw_4), .val (.int xlaw_5), .val (.int v4), .val (.int v12), .val (.int v20), .val (.int v28), .val (.int v36), .val (.ref o28), .val (.int v115), .val (.ref b193), .val (.int (1 : Int32)), .unset]) rfl ?_
        refine Ow.aload X225 hx (pc' := 211) (hb hby at_209) rfl rfl ?_
        refine Ow.iload X225 hx (pc' := 213) (hb hby at_211) rfl ?_
        obtain ⟨cq232, kq232, q232a, q232b, q232c⟩ := isOf hZ e225 A28_t225
        obtain ⟨_, _, ⟨T232, L232, k232, n232⟩, -, X232, ⟨Lc232, hQ232, l232, y232, z232⟩, st232⟩ := X225.virtualBack hx (y := mt3) (z := mt3) hown (mvT hZ (kw27 hw)) (mvT hZ (kw28 hw)) (notFace_of_selects (args := #[]) (mvT hZ (kw30 hw))) (mvT hZ (kw30 hw)) (mvT hZ (kw29 hw)) (by decide) (backOf (W := 0) (rm_noteC l Z a0 hw [] o28 v36 b2_c29 b4_c29 q223 q191 q224 T225.heap n0 Z225 A28_t225 P221_0_t225 P221_1_t225 P221_2_t225 P221_3_t225 P221_4_t225 g_o28 g_b2_c29 g_b4_c29 ne_o28_b2_c29 ne_o28_b4_c29 ne_b2_c29_b4_c29 (own_en233 A_v12 A_v20 A_v28 A_v36 hq82 hq83 hq84 hq136 hq137 hq138 hq190 hq191 hq192 hq199 hq200 hq207 hq208 hq215 hq216 hq223 hq224)) hZ (kw31 hw) (kw3 hw) (by decide) (by decide)) q232a q232c (g := (mkF m 213 #[.val (.int xlaw_1), .val (.int xlaw_2), .val (.int xlaw_3), .val (.int xlaw_4), .val (.int xlaw_5), .val (.int v4), .val (.int v12), .val (.int v20), .val (.int v28), .val (.int v36), .val (.ref o28), .val (.int v115), .val (.ref b193), .val (.int (1 : Int32)), .unset] [(.int v36), (.ref o28)])) rfl (by rw [hml]; rfl) (Steps.refl _) (argsL := [(.int v36)]) (rest := []) (lenOf pd1 rfl) rfl (by show 2 * 0 + _ ≤ _; exact Nat.le_of_eq rfl) (hb hby at_213) (fun _ _ => ⟨rfl, e225, (by decide : 4 + 0 ≤ _), (by decide : 12 + 0 ≤ _)⟩)
        dsimp only [Pt.U, Pt.locs, Pt.cells, Pt.slots] at X232 l232 y232 z232 st232 hQ232
        subst l232 y232 z232
        obtain ⟨rfl, Nq232, Kq232, P232_0, P232_1, P232_2, P232_3, P232_4⟩ := hQ232
        have N232 := Fr.app N225 Nq232
        have K232 : Keep h0 T232.heap [] := K225.trans Kq232 (allS (P := fun x => x ∈ [] ∨ h0.size ≤ x) (Or.inr sz_b4_c29) (allS (P := fun x => x ∈ [] ∨ h0.size ≤ x) (Or.inr sz_o28) (allS (P := fun x => x ∈ [] ∨ h0.size ≤ x) (Or.inr sz_b2_c29) all0)))
        have Z232 : n0 ≤ T232.heap.size := Nat.le_trans Z225 Kq232.1
        have A28_t232 := A28_t225.keep Kq232
        have P225_0_t232 := P225_0.keep Kq232 (ninS (Ne.symm ne_b4_c29_b193) (ninS (Ne.symm ne_o28_b193) (ninS (Ne.symm ne_b2_c29_b193) nin0)))
        have e232 : T232.heap = T232.heap := rfl
        obtain ⟨q234, hq234⟩ : ∃ z : Int32, z = (own_nC q224 q223 v36) := ⟨_, rfl⟩
        rw [← hq234] at P232_2
        obtain ⟨q235, hq235⟩ : ∃ z : List Value, z = (own_nV q191 q224 q223 v36) := ⟨_, rfl⟩
        rw [← hq235] at P232_3
        obtain ⟨q236, hq236⟩ : ∃ z : List Value, z = (own_nB q224 v36) := ⟨_, rfl⟩
        rw [← hq236] at P232_4
        refine Wq.steps st232 ?_
        show Wq _ _ _ _ _ (T232.setTop (mkF m 216 #[.val (.int xlaw_1), .val (.int xlaw_2), .val (.int xlaw_3), .val (.int xlaw_4), .val (.int xlaw_5), .val (.int v4), .val (.int v12), .val (.int v20), .val (.int v28), .val (.int v36), .val (.ref o28), .val (.int v115), .val (.ref b193), .val (.int (1 : Int32)), .unset] []))
        refine Ow.aload X232 hx (pc' := 218) (hb hby at_216) rfl rfl ?_
        obtain ⟨cq237, kq237, q237a, q237b, q237c⟩ := isOf hZ e232 A28_t232
        obtain ⟨_, _, ⟨T237, L237, k237, n237⟩, -, X237, ⟨Lc237, hQ237, l237, y237, z237⟩, st237⟩ := X232.virtualBack hx (y := mt4) (z := mt4) hown (mvT hZ (kw16 hw)) (mvT hZ (kw17 hw)) (notFace_of_selects (args := #[]) (mvT hZ (kw19 hw))) (mvT hZ (kw19 hw)) (mvT hZ (kw18 hw)) (by decide) (backOf (W := 0) (rm_nextC l Z a0 hw [] o28 b2_c29 b4_c29 q234 q235 q236 T232.heap n0 Z232 A28_t232 P232_0 P232_1 P232_2 P232_3 P232_4 g_o28 g_b2_c29 g_b4_c29 ne_o28_b2_c29 ne_o28_b4_c29 ne_b2_c29_b4_c29 (own_en238 A_v12 A_v20 A_v28 A_v36 hq82 hq83 hq84 hq136 hq137 hq138 hq190 hq191 hq192 hq199 hq200 hq207 hq208 hq215 hq216 hq223 hq224 hq234 hq235 hq236)) hZ (kw20 hw) (kw3 hw) (by decide) (by decide)) q237a q237c (g := (mkF m 218 #[.val (.int xlaw_1), .val (.int xlaw_2), .val (.int xlaw_3), .val (.int xlaw_4), .val (.int xlaw_5), .val (.int v4), .val (.int v12), .val (.int v20), .val (.int v28), .val (.int v36), .val (.ref o28), .val (.int v115), .val (.ref b193), .val (.int (1 : Int32)), .unset] [(.ref o28)])) rfl (by rw [hml]; rfl) (Steps.refl _) (argsL := []) (rest := []) (lenOf pd2 rfl) rfl (by show 2 * 0 + _ ≤ _; exact Nat.le_of_eq rfl) (hb hby at_218) (fun _ _ => ⟨rfl, e232, (by decide : 4 + 0 ≤ _), (by decide : 12 + 0 ≤ _)⟩)
        dsimp only [Pt.U, Pt.locs, Pt.cells, Pt.slots] at X237 l237 y237 z237 st237 hQ237
        subst l237 y237 z237
        obtain ⟨rfl, Nq237, Kq237, P237_0, P237_1, P237_2, P237_3, P237_4⟩ := hQ237
        have N237 := Fr.app N232 Nq237
        have K237 : Keep h0 T237.heap [] := K232.trans Kq237 (allS (P := fun x => x ∈ [] ∨ h0.size ≤ x) (Or.inr sz_o28) (allS (P := fun x => x ∈ [] ∨ h0.size ≤ x) (Or.inr sz_b4_c29) all0))
        have Z237 : n0 ≤ T237.heap.size := Nat.le_trans Z232 Kq237.1
        have A28_t237 := A28_t232.keep Kq237
        have P225_0_t237 := P225_0_t232.keep Kq237 (ninS (Ne.symm ne_o28_b193) (ninS (Ne.symm ne_b4_c29_b193) nin0))
        have P232_3_t237 := P232_3.keep Kq237 (ninS (Ne.symm ne_o28_b2_c29) (ninS ne_b2_c29_b4_c29 nin0))
        have e237 : T237.heap = T237.heap := rfl
        obtain ⟨q239, hq239⟩ : ∃ z : Int32, z = (own_xC q234) := ⟨_, rfl⟩
        rw [← hq239] at P237_2
        obtain ⟨q240, hq240⟩ : ∃ z : List Value, z = (own_xB q235 q236 q234) := ⟨_, rfl⟩
        rw [← hq240] at P237_4
        refine Wq.steps st237 ?_
        show Wq _ _ _ _ _ (T237.setTop (mkF m 221 #[.val (.int xlaw_1), .val (.int xlaw_2), .val (.int xlaw_3), .val (.int xlaw_4), .val (.int xlaw_5), .val (.int v4), .val (.int v12), .val (.int v20), .val (.int v28), .val (.int v36), .val (.ref o28), .val (.int v115), .val (.ref b193), .val (.int (1 : Int32)), .unset] [(.int (own_xR q235 q234))]))
        generalize hv218 : (own_xR q235 q234) = v218
        show Wq _ _ _ _ _ (T237.setTop (mkF m 221 #[.val (.int xlaw_1), .val (.int xlaw_2), .val (.int xlaw_3), .val (.int xlaw_4), .val (.int xlaw_5), .val (.int v4), .val (.int v12), .val (.int v20), .val (.int v28), .val (.int v36), .val (.ref o28), .val (.int v115), .val (.ref b193), .val (.int (1 : Int32)), .unset] [(.int v218)]))
        refine Ow.iload X237 hx (pc' := 223) (hb hby at_221) rfl ?_
        refine Ow.icmpNo X237 hx (pc' := 226) (hb hby at_223) (teq (own_en241 A_v12 A_v20 A_v28 A_v36 hq82 hq83 hq84 hq136 hq137 hq138 hq190 hq191 hq192 hq199 hq200 hq207 hq208 hq215 hq216 hq223 hq224 hq234 hq235 hv218 : v218 = v36)).2 ?_
        refine Ow.iconst X237 hx (pc' := 227) (hb hby at_226) (z := (1 : Int32)) rfl ?_
        refine Ow.goto X237 hx (pc' := 231) (hb hby at_227) (by decide) (by decide) ?_
        refine Ow.istore X237 hx (pc' := 233) (hb hby at_231) (l' := #[.val (.int xlaw_1), .val (.int xlaw_2), .val (.int xlaw_3), .val (.int xlaw_4), .val (.int xlaw_5), .val (.int v4), .val (.int v12), .val (.int v20), .val (.int v28), .val (.int v36), .val (.ref o28), .val (.int v115), .val (.ref b193), .val (.int (1 : Int32)), .val (.int (1 : Int32))]) rfl ?_
        refine Ow.iload X237 hx (pc' := 235) (hb hby at_233) rfl ?_
        refine Ow.ifNo X237 hx (pc' := 238) (hb hby at_235) ((if0 _ _).trans (feq (by decide : ¬ ((1 : Int32) = (0 : Int32)))).1) ?_
        refine Ow.iload X237 hx (pc' := 240) (hb hby at_238) rfl ?_
        refine Ow.ifNo X237 hx (pc' := 243) (hb hby at_240) ((if0 _ _).trans (feq (by decide : ¬ ((1 : Int32) = (0 : Int32)))).1) ?_
        refine Ow.iconst X237 hx (pc' := 244) (hb hby at_243) (z := (1 : Int32)) rfl ?_
        refine Ow.goto X237 hx (pc' := 248) (hb hby at_244) (by decide) (by decide) ?_
        exact Wq.ret X237 (BodyLoose.notSynchronized Bd) (rv := some (.int (1 : Int32))) (fun h => by rw [Bd.returns] at h; cases h) (fun _ hr => retN X237 hx (t := .boolean) Bd.returns (by simp) (hb hby at_248) hr) (by decide) (by decide) ⟨rfl, N237⟩
set_option maxRecDepth 65536 in
set_option maxHeartbeats 40000000 in
theorem comes_1 {Post : Tables → Env → Array Value → State → Outcome → State → Prop} (hpost : ∀ tb e args s v u, (limb_1_1.after args s (.returned v) u = true ∧ limb_1_2.after args s (.returned v) u = true ∧ True) → FrameEnd s (.returned v) u (Jvm.fieldLocs frame_1_writes args s ++ Jvm.arrayLocs frame_1_arrays args s ++ Jvm.staticLocs frame_1_statics s) 16 128 → Post tb e args s (.returned v) u) :
    ArmFor flags0 classFile x code maxLocals ret World_1 tables_1 room_1 Calls_1 rest_1 Pre_1 Post := by
  intro l hfl _ _ p e ha hc hk s m args below hf hA hF happ hP
  obtain ⟨hcalls, hrest, hpre⟩ := hP
  obtain ⟨-, -, -, hnamed, -, -, -, hat⟩ := (Spec.applies_iff hf).mp happ
  obtain ⟨hg, hn⟩ := and_e (Cond.before_iff.mp (show (Jvm.Cond.and given_1 narrow_1).before args s = true from hpre))
  obtain ⟨hg1, hg2⟩ := and_e hg
  obtain ⟨ha0, hb0⟩ := and_e hg2
  obtain ⟨ha1, hb1⟩ := and_e hb0
  obtain ⟨ha2, hb2⟩ := and_e hb1
  obtain ⟨ha3, hb3⟩ := and_e hb2
  obtain ⟨w0, w1, w2, w3, w4, rfl⟩ : ∃ w0 w1 w2 w3 w4 : Value, args = #[w0, w1, w2, w3, w4] := by
    have hs : args.size = 5 := by simpa [Cond.value, given_1] using hg1
    obtain ⟨L⟩ := args
    match L, hs with
    | [w0, w1, w2, w3, w4], _ => exact ⟨w0, w1, w2, w3, w4, rfl⟩
  have hw := fun d (hd : d ∈ tables_1) => atoms_spec (ws := Jvm.Cond.code x code maxLocals ret :: tables_1) hat d (List.mem_cons_of_mem _ hd)
  have hfit : Fit s := fun {y c} hc i hi => by
    obtain ⟨ha, rfl⟩ := Array.getElem?_eq_some_iff.mp hc
    have q := List.all_eq_true.mp ((Array.all_eq_true_iff_forall_mem.mp hF) _ (Array.getElem_mem ha)) i (List.mem_range.mpr hi)
    simpa [Array.getElem?_eq_getElem hi] using q
  obtain ⟨i0, ei0⟩ := is_v ha0
  obtain rfl : w0 = (.int i0) := Option.some.inj ei0
  obtain ⟨i1, ei1⟩ := is_v ha1
  obtain rfl : w1 = (.int i1) := Option.some.inj ei1
  obtain ⟨i2, ei2⟩ := is_v ha2
  obtain rfl : w2 = (.int i2) := Option.some.inj ei2
  obtain ⟨i3, ei3⟩ := is_v ha3
  obtain rfl : w3 = (.int i3) := Option.some.inj ei3
  obtain ⟨i4, ei4⟩ := is_v hb3
  obtain rfl : w4 = (.int i4) := Option.some.inj ei4
  obtain ⟨n, o, h1, h2, h3, _, L, rfl, ⟨rfl, N⟩, hq⟩ := rm_law l s _ hw tables_1 i0 i1 i2 i3 i4 s.heap s.heap.size (Nat.le_refl _)  p e ha hc hk s m _ below hf ((Spec.applies_iff_loose hf).mp happ).1 ⟨rfl, State.Warmed39.refl s, rfl⟩ trivial
  refine ⟨n, _, h1, h2, h3, hpost _ _ _ _ _ _ ⟨Cond.after_iff.mpr rfl, Cond.after_iff.mpr (eq_i res_at (Term.int_eval (1)) rfl), trivial⟩ ⟨hq.1, hq.2.1, (hq.2.2.sift fun y hy => Or.inr (N y hy)).mono (by decide) (by decide)⟩⟩
theorem main_1_1 : Claimed_1_1 := comes_1 fun _ _ _ _ _ _ h hF => ⟨h.1, hF⟩
theorem main_1_2 : Claimed_1_2 := comes_1 fun _ _ _ _ _ _ h hF => ⟨h.2.1, hF⟩
end Jvm.Pilot.@@N@@
namespace Jvm.Pilot.@@N@@
open Jvm Jvm.ClassFile Sem Op Lib Jvm.Free Jvm.Stand Jvm.Pilot.@@N@@.Jvm.D
/-! MADE BY PROGRAM (witnessworld.py) out of the Statement's table words and the real class files: 11 classes; the members and pool entries that the words name. The judged class is class 1, her method 2. -/
namespace start1
open Jvm.ClassFile
def u (s : String) : CpInfo := .utf8 (stringToUtf16 s)
/-- a pool by its gaps: so many unusable entries, then the entry; so many at the end -/
def gap : Nat → List CpInfo → List CpInfo
  | 0, r => r
  | n + 1, r => .unusable :: gap n r
def poolList (es : List (Nat × CpInfo)) (last : Nat) : List CpInfo := es.foldr (fun e r => gap e.1 (e.2 :: r)) (gap last [])
def pool (es : List (Nat × CpInfo)) (last : Nat) : Array CpInfo := ⟨poolList es last⟩
def fileOf (pool : Array CpInfo) (this : Nat) (attrs : Array Attribute := #[]) (ms : Array MethodInfo := #[]) (fl : Nat := 33) (sup : Nat := 0) (ifs : Array Nat := #[]) (fds : Array FieldInfo := #[]) : ClassFile where
  minorVersion := 0
  majorVersion := 65
  constantPool := pool
  accessFlags := fl
  thisClass := this
  superClass := sup
  interfaces := ifs
  fields := fds
  methods := ms
  attributes := attrs
def plain (name : String) (sup : Option ClassId) : Class where
  name := name
  kind := .ordinary
  loader := none
  accessFlags := 33
  super := sup
  interfaces := #[]
  cf := none
  fields := #[]
  methods := #[]
  instanceTypes := #[]
  staticTypes := #[]
  resolved := #[]
  callSites := []
  init := .initialized
  statics := none
  mirror := none

def pool0 : Array CpInfo := pool [(5, u "<init>"), (0, u "()V"), (1, .class_ 10), (1, u "java/lang/Object")] 113

def k0c0 : Code := { maxStack := 0, maxLocals := 1, code := object_method_1_code, exceptionTable := #[], attributes := #[] }
def k0m0 : Method := { name := "<init>", desc := "()V", sig := { parameters := [], returnType := none }, accessFlags := 1, code := some k0c0 }
/-- java/lang/Object -/
def k0 : Class := { plain "java/lang/Object" none with
  accessFlags := 33
  interfaces := #[]
  cf := some (fileOf pool0 8 #[] #[{ accessFlags := 1, nameIndex := 5, descriptorIndex := 6, attributes := #[] }] 33 0 #[] #[])
  fields := #[]
  methods := #[k0m0]
  instanceTypes := #[]
  staticTypes := #[]
  resolved := Array.replicate 124 none
  statics := none }

def pool1 : Array CpInfo := pool [(2, .class_ 4), (1, u "java/lang/Object"), (0, u "<init>"), (0, u "()V"), (0, .integer 2147483647), (0, .class_ 9), (0, u "com/example/tauten/tauten/ChangeList"), (0, .methodref 8 11), (0, .nameAndType 5 12), (0, u "(I)V"), (0, .methodref 8 14), (0, .nameAndType 15 12), (0, u "note"), (0, .methodref 8 17), (0, .nameAndType 18 19), (0, u "next"), (0, u "()I"), (0, .methodref 21 22), (0, .class_ 23), (0, .nameAndType 24 25), (0, u "com/example/tauten/tauten/ChangeListNextPinLaw"), (0, u "take"), (0, u "(I[I)V"), (3, u "law"), (0, u "(IIIII)Z")] 4

def k1m0 : Method := { name := "<init>", desc := "()V", sig := { parameters := [], returnType := none }, accessFlags := 1, code := none }
def k1c1 : Code := { maxStack := 5, maxLocals := 2, code := method_2_code, exceptionTable := #[], attributes := #[] }
def k1m1 : Method := { name := "take", desc := "(I[I)V", sig := { parameters := [.int, (.array .int)], returnType := none }, accessFlags := 10, code := some k1c1 }
def k1c2 : Code := { maxStack := 3, maxLocals := 15, code := code, exceptionTable := #[], attributes := #[] }
def k1m2 : Method := { name := "law", desc := "(IIIII)Z", sig := { parameters := [.int, .int, .int, .int, .int], returnType := some .boolean }, accessFlags := 9, code := some k1c2 }
/-- com/example/tauten/tauten/ChangeListNextPinLaw -/
def k1 : Class := { plain "com/example/tauten/tauten/ChangeListNextPinLaw" (some 0) with
  accessFlags := 49
  interfaces := #[]
  cf := some (fileOf pool1 21 #[] #[{ accessFlags := 1, nameIndex := 5, descriptorIndex := 6, attributes := #[] }, { accessFlags := 10, nameIndex := 24, descriptorIndex := 25, attributes := #[] }, { accessFlags := 9, nameIndex := 29, descriptorIndex := 30, attributes := #[] }] 49 2 #[] #[])
  fields := #[]
  methods := #[k1m0, k1m1, k1m2]
  instanceTypes := #[]
  staticTypes := #[]
  resolved := Array.replicate 35 none
  statics := none }

def pool2 : Array CpInfo := pool [(1, .methodref 2 3), (0, .class_ 4), (0, .nameAndType 5 6), (0, u "java/lang/Object"), (0, u "<init>"), (0, u "()V"), (0, .fieldref 8 9), (0, .class_ 10), (0, .nameAndType 11 12), (0, u "com/example/tauten/tauten/ChangeList"), (0, u "noted"), (0, u "[I"), (0, .fieldref 8 14), (0, .nameAndType 15 16), (0, u "isNoted"), (0, u "[Z"), (0, .fieldref 8 18), (0, .nameAndType 19 20), (0, u "count"), (0, u "I"), (0, u "(I)V"), (2, u "note"), (1, u "next"), (0, u "()I")] 3

def k2c0 : Code := { maxStack := 2, maxLocals := 2, code := prog_3_method_1_code, exceptionTable := #[], attributes := #[] }
def k2m0 : Method := { name := "<init>", desc := "(I)V", sig := { parameters := [.int], returnType := none }, accessFlags := 0, code := some k2c0 }
def k2c1 : Code := { maxStack := 5, maxLocals := 2, code := prog_3_method_2_code, exceptionTable := #[], attributes := #[] }
def k2m1 : Method := { name := "note", desc := "(I)V", sig := { parameters := [.int], returnType := none }, accessFlags := 0, code := some k2c1 }
def k2c2 : Code := { maxStack := 4, maxLocals := 2, code := prog_3_method_3_code, exceptionTable := #[], attributes := #[] }
def k2m2 : Method := { name := "next", desc := "()I", sig := { parameters := [], returnType := some .int }, accessFlags := 0, code := some k2c2 }
/-- com/example/tauten/tauten/ChangeList -/
def k2 : Class := { plain "com/example/tauten/tauten/ChangeList" (some 0) with
  accessFlags := 48
  interfaces := #[]
  cf := some (fileOf pool2 8 #[] #[{ accessFlags := 0, nameIndex := 5, descriptorIndex := 21, attributes := #[] }, { accessFlags := 0, nameIndex := 24, descriptorIndex := 21, attributes := #[] }, { accessFlags := 0, nameIndex := 26, descriptorIndex := 27, attributes := #[] }] 48 2 #[] #[{ accessFlags := 18, nameIndex := 11, descriptorIndex := 12, attributes := #[] }, { accessFlags := 18, nameIndex := 15, descriptorIndex := 16, attributes := #[] }, { accessFlags := 2, nameIndex := 19, descriptorIndex := 20, attributes := #[] }])
  fields := #[{ name := "noted", type := (.array .int), accessFlags := 18, slot := 0, constantValue := 0 }, { name := "isNoted", type := (.array .boolean), accessFlags := 18, slot := 1, constantValue := 0 }, { name := "count", type := .int, accessFlags := 2, slot := 2, constantValue := 0 }]
  methods := #[k2m0, k2m1, k2m2]
  instanceTypes := #[(.array .int), (.array .boolean), .int]
  staticTypes := #[]
  resolved := Array.replicate 31 none
  statics := none }

def pool3 : Array CpInfo := pool [(1, u "java/lang/Cloneable"), (0, .class_ 1), (0, u "java/lang/Object"), (0, .class_ 3)] 3

/-- java/lang/Cloneable -/
def k3 : Class := { plain "java/lang/Cloneable" (some 0) with
  accessFlags := 1537
  interfaces := #[]
  cf := some (fileOf pool3 2 #[] #[] 1537 4 #[] #[])
  fields := #[]
  methods := #[]
  instanceTypes := #[]
  staticTypes := #[]
  resolved := Array.replicate 8 none
  statics := none }

def pool4 : Array CpInfo := pool [(1, u "java/io/Serializable"), (0, .class_ 1), (0, u "java/lang/Object"), (0, .class_ 3)] 3

/-- java/io/Serializable -/
def k4 : Class := { plain "java/io/Serializable" (some 0) with
  accessFlags := 1537
  interfaces := #[]
  cf := some (fileOf pool4 2 #[] #[] 1537 4 #[] #[])
  fields := #[]
  methods := #[]
  instanceTypes := #[]
  staticTypes := #[]
  resolved := Array.replicate 8 none
  statics := none }

/-- the primitive boolean -/
def k5 : Class := { plain "boolean" none with kind := .primitive 'Z', accessFlags := 0x411 }
/-- [Z -/
def k6 : Class := { plain "[Z" (some 0) with kind := .array 5 .boolean, interfaces := #[3, 4], accessFlags := 1041 }

/-- the primitive byte -/
def k7 : Class := { plain "byte" none with kind := .primitive 'B', accessFlags := 0x411 }
/-- [B -/
def k8 : Class := { plain "[B" (some 0) with kind := .array 7 .byte, interfaces := #[3, 4], accessFlags := 1041 }

/-- the primitive int -/
def k9 : Class := { plain "int" none with kind := .primitive 'I', accessFlags := 0x411 }
/-- [I -/
def k10 : Class := { plain "[I" (some 0) with kind := .array 9 .int, interfaces := #[3, 4], accessFlags := 1041 }

def heap : Heap := #[]
def classes : Array Class := #[k0, k1, k2, k3, k4, k5, k6, k7, k8, k9, k10]
def interned : List (Array UInt16 × Addr) := []
def slotsUsed : Nat := 0
def theMethod : MethodId := ⟨1, 2⟩
def args0 : Array Value := #[.int 5, .int 7, .int 9, .int 11, .int 3]
def aboutOver (below : List Frame) : State where
  vm := { classes := classes, interned := interned.toArray }
  heap := heap
  slotsUsed := slotsUsed
  threads := #[{ frames := .invoking theMethod args0 :: below }]
def below0 : List Frame := [.native { method := ⟨0, 0⟩, args := #[] }]
def about1 : State := aboutOver below0
def p0 : Program := .bare "" "" ""
def e0 : Env := launch0.env 0 0 0
theorem w_frames : about1.frames = Frame.invoking theMethod args0 :: below0 := rfl
set_option maxRecDepth 65536 in
theorem w_args : argsFit about1.vm theMethod args0 = true := by decide +kernel
set_option maxRecDepth 65536 in
theorem w_heap : heapFits about1 = true := by decide +kernel
set_option maxRecDepth 65536 in
theorem w_runnable : about1.curStatus? = some .runnable := by decide +kernel
set_option maxRecDepth 65536 in
theorem w_alone : about1.alone = true := by decide +kernel
set_option maxRecDepth 65536 in
theorem w_named : about1.methodNamed? x = some theMethod := by decide +kernel
set_option maxRecDepth 65536 in
theorem w_hears : about1.hears theMethod below0 = true := by decide +kernel
set_option maxRecDepth 65536 in
theorem w_ripe : about1.ripe theMethod args0 below0 = true := by decide +kernel
theorem w_running : about1.status = .running := rfl
set_option maxRecDepth 65536 in
theorem w_room : about1.hasRoom e0.platform room_1 = true :=
  launch0.hasRoom_least _ room_1 (by decide +kernel) (by decide +kernel) (by decide +kernel) (by decide +kernel) (by decide +kernel) (by decide +kernel)
theorem allAtoms_all (ts : List Jvm.Cond) (a : Array Jvm.Value) (st : Jvm.State) : (allAtoms ts).before a st = ts.all (fun c => c.before a st) := by
  induction ts with
  | nil => rfl
  | cons c t ih =>
    show (Jvm.Cond.and c (allAtoms t)).before a st = _
    rw [Jvm.Cond.before_and, ih, List.all_cons]
def words1 : List Jvm.Cond := Jvm.Cond.code x code maxLocals ret :: tables_1
/-- a 'code' word, met by the world's own term for the bytes: nothing is compared byte by byte -/
theorem code_word {y : MethodName} {bytes : ByteArray} {mx : Nat} {rt : Option FieldType} {a : Array Value} {s : State} {m : MethodId} {meth : Method} {c : Code} (h1 : s.methodNamed? y = some m) (h2 : s.vm.method? m = some meth) (h3 : meth.code = some c) (h4 : c.code = bytes)
    (h5 : (c.maxLocals == mx && c.exceptionTable.isEmpty && decide (c.maxStack ≤ mostOperands) && decide (meth.sig.returnType = rt) && !meth.locks && decide (parseMethodDescriptor y.desc = some meth.sig)) = true) : (Jvm.Cond.code y bytes mx rt).before a s = true := by
  simp only [Bool.and_eq_true, beq_iff_eq, Bool.not_eq_true', decide_eq_true_eq] at h5
  obtain ⟨⟨⟨⟨⟨g1, g2⟩, g3⟩, g4⟩, g5⟩, g6⟩ := h5
  simp [Cond.before, Cond.holds, Cond.value, h1, h2, h3, h4, g1, g2, g3, g4, g5, g6]
def isCode : Jvm.Cond → Bool
  | .code _ _ _ _ => true
  | _ => false
theorem all_split {L : List Jvm.Cond} {P : Jvm.Cond → Bool} (h1 : L.all (fun c => isCode c || P c) = true) (h2 : ∀ c ∈ L.filter isCode, P c = true) : L.all P = true := by
  refine List.all_eq_true.mpr fun c hc => ?_
  have h := List.all_eq_true.mp h1 c hc
  rcases Bool.eq_false_or_eq_true (isCode c) with hi | hi
  · exact h2 c (List.mem_filter.mpr ⟨hc, hi⟩)
  · simpa [hi] using h
set_option maxRecDepth 65536 in
theorem w_c0 : (Jvm.Cond.code x code maxLocals ret).before args0 about1 = true := code_word (m := ⟨1, 2⟩) (meth := k1m2) (c := k1c2) (by decide +kernel) rfl rfl rfl (by decide +kernel)
set_option maxRecDepth 65536 in
theorem w_c1 : (Jvm.Cond.code ({ cls := "com/example/tauten/tauten/ChangeList", name := "<init>", desc := "(I)V" } : Jvm.MethodName) prog_3_method_1_code (2 : Nat) (Option.none : Option Jvm.ClassFile.FieldType)).before args0 about1 = true := code_word (m := ⟨2, 0⟩) (meth := k2m0) (c := k2c0) (by decide +kernel) rfl rfl rfl (by decide +kernel)
set_option maxRecDepth 65536 in
theorem w_c2 : (Jvm.Cond.code ({ cls := "java/lang/Object", name := "<init>", desc := "()V" } : Jvm.MethodName) object_method_1_code (1 : Nat) (Option.none : Option Jvm.ClassFile.FieldType)).before args0 about1 = true := code_word (m := ⟨0, 0⟩) (meth := k0m0) (c := k0c0) (by decide +kernel) rfl rfl rfl (by decide +kernel)
set_option maxRecDepth 65536 in
theorem w_c3 : (Jvm.Cond.code ({ cls := "com/example/tauten/tauten/ChangeList", name := "next", desc := "()I" } : Jvm.MethodName) prog_3_method_3_code (2 : Nat) (Option.some Jvm.ClassFile.FieldType.int)).before args0 about1 = true := code_word (m := ⟨2, 2⟩) (meth := k2m2) (c := k2c2) (by decide +kernel) rfl rfl rfl (by decide +kernel)
set_option maxRecDepth 65536 in
theorem w_c4 : (Jvm.Cond.code ({ cls := "com/example/tauten/tauten/ChangeListNextPinLaw", name := "take", desc := "(I[I)V" } : Jvm.MethodName) method_2_code (2 : Nat) (Option.none : Option Jvm.ClassFile.FieldType)).before args0 about1 = true := code_word (m := ⟨1, 1⟩) (meth := k1m1) (c := k1c1) (by decide +kernel) rfl rfl rfl (by decide +kernel)
set_option maxRecDepth 65536 in
theorem w_c5 : (Jvm.Cond.code ({ cls := "com/example/tauten/tauten/ChangeList", name := "note", desc := "(I)V" } : Jvm.MethodName) prog_3_method_2_code (2 : Nat) (Option.none : Option Jvm.ClassFile.FieldType)).before args0 about1 = true := code_word (m := ⟨2, 1⟩) (meth := k2m1) (c := k2c1) (by decide +kernel) rfl rfl rfl (by decide +kernel)
def codes1 : List Jvm.Cond := [Jvm.Cond.code x code maxLocals ret, Jvm.Cond.code ({ cls := "com/example/tauten/tauten/ChangeList", name := "<init>", desc := "(I)V" } : Jvm.MethodName) prog_3_method_1_code (2 : Nat) (Option.none : Option Jvm.ClassFile.FieldType), Jvm.Cond.code ({ cls := "java/lang/Object", name := "<init>", desc := "()V" } : Jvm.MethodName) object_method_1_code (1 : Nat) (Option.none : Option Jvm.ClassFile.FieldType), Jvm.Cond.code ({ cls := "com/example/tauten/tauten/ChangeList", name := "next", desc := "()I" } : Jvm.MethodName) prog_3_method_3_code (2 : Nat) (Option.some Jvm.ClassFile.FieldType.int), Jvm.Cond.code ({ cls := "com/example/tauten/tauten/ChangeListNextPinLaw", name := "take", desc := "(I[I)V" } : Jvm.MethodName) method_2_code (2 : Nat) (Option.none : Option Jvm.ClassFile.FieldType), Jvm.Cond.code ({ cls := "com/example/tauten/tauten/ChangeList", name := "note", desc := "(I)V" } : Jvm.MethodName) prog_3_method_2_code (2 : Nat) (Option.none : Option Jvm.ClassFile.FieldType)]
set_option maxRecDepth 65536 in
theorem codes_eq : words1.filter isCode = codes1 := rfl
theorem w_codes : ∀ c ∈ words1.filter isCode, c.before args0 about1 = true := by
  rw [codes_eq]
  intro c hc
  simp only [codes1, List.mem_cons, List.not_mem_nil, or_false] at hc
  rcases hc with rfl | rfl | rfl | rfl | rfl | rfl
  · exact w_c0
  · exact w_c1
  · exact w_c2
  · exact w_c3
  · exact w_c4
  · exact w_c5
set_option maxRecDepth 65536 in
theorem w_t1 : (words1.take 24).all (fun c => isCode c || c.before args0 about1) = true := by decide +kernel
set_option maxRecDepth 65536 in
theorem w_t2 : (words1.drop 24).all (fun c => isCode c || c.before args0 about1) = true := by decide +kernel
theorem w_tables : (allAtoms (Jvm.Cond.code x code maxLocals ret :: tables_1)).before args0 about1 = true := by
  rw [allAtoms_all]
  show words1.all (fun c => c.before args0 about1) = true
  refine all_split ?_ w_codes
  rw [← List.take_append_drop 24 words1, List.all_append, w_t1, w_t2]
  rfl
set_option maxRecDepth 65536 in
theorem w_case : (Jvm.Cond.and given_1 narrow_1).before args0 about1 = true := by decide +kernel
theorem w_applies : (headSpec (Jvm.Cond.code x code maxLocals ret :: tables_1) room_1).applies x e0.platform about1 = true :=
  (Spec.applies_iff w_frames).mpr ⟨w_running, w_runnable, w_alone, w_named, w_hears, w_ripe, w_room, w_tables⟩
theorem atStart : AtStart classFile x code maxLocals ret World_1 tables_1 room_1 Calls_1 rest_1 Pre_1 launch0 p0 e0 about1 theMethod args0 below0 :=
  ⟨lists_1, trivial, launch0.admits_env _ _ _, launch0.least_env, fairChoices_fair.cas, fairChoices_fair.clock, w_frames, w_args, w_heap, w_applies, trivial, trivial, w_case⟩
end start1
theorem witness_1 : WitnessClaimed_1 := ⟨start1.p0, start1.e0, start1.about1, start1.theMethod, start1.args0, start1.below0, start1.atStart⟩
end Jvm.Pilot.@@N@@
