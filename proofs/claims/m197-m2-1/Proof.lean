import JvmDerived
import JvmDerived.Pilot.@@N@@Statement
import JvmDerived.Pilot.@@N@@Code
set_option linter.unusedVariables false
set_option linter.unusedSimpArgs false
namespace Jvm.OwnW
open Sem ClassFile Op Lib Jvm.Stand Jvm.Free Jvm.LawKit Jvm.RoadKit
section Base
variable {p : Program} {l : Launch} {e : Env} {R : Room} {s : State} {m : MethodId} {args : Array Value} {below : List Frame} {meth : Method} {c : Code} {T : State} {locs : List Loc} {cells slots : Nat} {Z : State} {h h' : Heap} {a b : Addr} {ty : FieldType} {vs : List Value} {v : Value} {sl : Nat} {ws : List Addr}
variable {Q : Option Value → Heap → List Loc → Prop} {En : Outcome → State → List Loc → Prop} {kc ks : Nat} {U U' : State}
/-- from U the body comes to its end; what it leaves is Q, its frame En -/
def Wq (p : Program) (e : Env) (below : List Frame) (En : Outcome → State → List Loc → Prop) (Q : Option Value → Heap → List Loc → Prop) (U : State) : Prop :=
  ∃ s₂ o, Steps p.tables e below U s₂ ∧ s₂.status = .running ∧ Ended s₂ below o ∧ ∃ v L, o = .returned v ∧ Q v s₂.heap L ∧ En o s₂ L
theorem Wq.step (h1 : ∀ t, Steps p.tables e below U' t → Steps p.tables e below U t) (k : Wq p e below En Q U') : Wq p e below En Q U := by
  obtain ⟨s₂, o, q, r⟩ := k; exact ⟨s₂, o, h1 _ q, r⟩
theorem Wq.steps (h1 : Steps p.tables e below U U') (k : Wq p e below En Q U') : Wq p e below En Q U := by
  obtain ⟨s₂, o, q, r⟩ := k; exact ⟨s₂, o, h1.trans q, r⟩
theorem Wq.by (k1 : Wq p e below En Q U' → Wq p e below En Q U) (k : Wq p e below En Q U') : Wq p e below En Q U := k1 k
theorem Wq.ret {rv : Option Value} {g : JFrame} (X : Stand p l e R s m args below meth c T locs cells slots) (hlk : meth.locks = false) (hv : meth.sig.returnType = none → rv = none)
    (st : ∀ fs, (∀ (f : JFrame) (acts : List Action), f.method = m → f.locked = none → f.entered = [] → (doReturn e (T.setTop f) acts rv).1 = T.setFrames fs) → Steps p.tables e below (T.setTop g) (T.setFrames fs))
    (hc : cells ≤ kc) (hs : slots ≤ ks) (hQ : Q rv T.heap locs) : Wq p e below (fun o t L => FrameEnd s o t L kc ks) Q (T.setTop g) := by
  obtain ⟨fs, hr, hrun, hended, hW, hsame⟩ := X.leave (v := rv) hv hlk
  exact ⟨_, _, st fs hr, hrun, hended, rv, locs, rfl, hQ, ⟨rv, rfl⟩, hW, hsame.mono hc hs⟩
/-- the same for a body that may load a String constant for the first time -/
theorem Wq.retW {rv : Option Value} {g : JFrame} {vm₁ : Vm} {n : Nat} (X : Stand p l e R (s.setVm vm₁) m args below meth c T locs cells slots) (hS : s.Since vm₁ n) (hn : n ≤ T.heap.size) (hlk : meth.locks = false) (hv : meth.sig.returnType = none → rv = none)
    (st : ∀ fs, (∀ (f : JFrame) (acts : List Action), f.method = m → f.locked = none → f.entered = [] → (doReturn e (T.setTop f) acts rv).1 = T.setFrames fs) → Steps p.tables e below (T.setTop g) (T.setFrames fs))
    (hc : cells ≤ kc) (hs : slots ≤ ks) (hQ : Q rv T.heap locs) : Wq p e below (fun o t L => ReturnedEndW s o t L kc ks) Q (T.setTop g) := by
  obtain ⟨fs, hr, hrun, hended, w1, w2, w3, w4⟩ := X.leaveW hS hn (v := rv) hv hlk
  exact ⟨_, _, st fs hr, hrun, hended, rv, locs, rfl, hQ, ⟨rv, rfl⟩, w2, w3, w4.mono hc hs⟩
/-- an array and the whole list of what it holds -/
def Al (Z : State) (h : Heap) (a : Addr) (ty : FieldType) (vs : List Value) : Prop := ∃ cl : Cell, Arr Z h a cl ty ∧ cl.slots.toList = vs
theorem Al.lt (V : Al Z h a ty vs) : a < h.size := by obtain ⟨cl, A, -⟩ := V; exact A.lt
theorem Al.ext (V : Al Z h a ty vs) (E : Ext h h') : Al Z h' a ty vs := by obtain ⟨cl, A, r⟩ := V; exact ⟨cl, A.ext E, r⟩
theorem Al.other (V : Al Z h b ty vs) (W : Wr h h' a sl v) (q : b ≠ a) : Al Z h' b ty vs := by obtain ⟨cl, A, r⟩ := V; exact ⟨cl, A.other W q, r⟩
theorem Al.keep (V : Al Z h a ty vs) (K : Keep h h' ws) (q : a ∉ ws) : Al Z h' a ty vs := by obtain ⟨cl, A, r⟩ := V; exact ⟨cl, ⟨K.2.1 a cl A.1 q, A.2⟩, r⟩
theorem Al.new {cA : ClassId} {n : Int32} {k : Nat} {dv : Value} (A : Arr Z h a (newA cA ty n) ty) (hk : n.toNatClampNeg = k) (hd : defaultValue ty = dv) : Al Z h a ty (List.replicate k dv) := ⟨_, A, by subst hk hd; simp [newA]⟩
theorem Al.set (V : Al Z h a ty vs) (W : Wr h h' a sl v) : Al Z h' a ty (vs.set sl v) := by
  obtain ⟨cl, A, rfl⟩ := V
  exact ⟨_, A.same W, by simp [Cell.setSlot]⟩
theorem Sta.keepN {C n d : String} {v : Value} (F : Sta Z h C n d v) (K : Keep h h' ws) (q : ∀ w ∈ ws, ∀ cell : Cell, h[w]? = some cell → cell.vm.isStatics = false) : Sta Z h' C n d v := by
  obtain ⟨cf, i, k, f, st, cell, h1, h2, h3, h4, h5, h6, h7⟩ := F
  exact ⟨cf, i, k, f, st, cell, h1, h2, h3, h4, K.2.1 _ _ h5 (fun hm => by rw [q st hm cell h5] at h6; cases h6), h6, h7⟩
theorem fldI {t : Term} {C n d : String} {k : Int32} (hx : (Cond.eq (.field t C n d) (.int k)).value args s none s [] = some true) (ev : t.eval args s none [] s = some (.ref a)) : Fld s s.heap a C n d (.int k) := by
  refine Fld.start ?_
  have e1 := fld_at (C := C) (n := n) (dd := d) ev
  obtain ⟨x, y, h1, h2, k1, k2⟩ := cmp_v (Or.inl hx)
  rw [Term.int_eval] at h2
  cases h2
  rw [e1] at h1
  cases x <;> simp only [Kin] at k2 <;> first | (obtain ⟨z, hz⟩ := k2; cases hz) | skip
  have q := gotT (Cond.eq_ints (e1.trans h1) (Term.int_eval k)) hx
  rw [h1, q]
theorem fldJ {t : Term} {C n d : String} {k : Int64} (hx : (Cond.eq (.field t C n d) (.long k)).value args s none s [] = some true) (ev : t.eval args s none [] s = some (.ref a)) : Fld s s.heap a C n d (.long k) := by
  refine Fld.start ?_
  have e1 := fld_at (C := C) (n := n) (dd := d) ev
  obtain ⟨x, y, h1, h2, k1, k2⟩ := cmp_v (Or.inl hx)
  rw [long_at] at h2
  cases h2
  rw [e1] at h1
  cases x <;> simp only [Kin] at k2 <;> first | (obtain ⟨z, hz⟩ := k2; cases hz) | skip
  have q := gotT (eq_L (e1.trans h1) (long_at k)) hx
  rw [h1, q]
theorem Exa.ns {C : String} (F : Exa Z h a C) : ∀ cell : Cell, h[a]? = some cell → cell.vm.isStatics = false := by
  obtain ⟨c1, k, h1, h2, h3, h4, h5⟩ := F
  intro cell hc; cases h1.symm.trans hc; exact h4
theorem Al.ns (V : Al Z h a ty vs) : ∀ cell : Cell, h[a]? = some cell → cell.vm.isStatics = false := by
  obtain ⟨cl, A, -⟩ := V
  intro cell hc; cases A.1.symm.trans hc; exact A.plain
theorem clA (X : Stand p l e R s m args below meth c T locs cells slots) (hx : p.tables.exec = Jvm.exec) (hZ : Z.Warmed39 s.vm) {a0 : Array Value} {own ad : String} {index : Nat} (hown : s.vm.findClass own = some m.cls)
    (w1 : (Cond.methodLink own index ⟨ad, "clone", "()Ljava/lang/Object;"⟩).before a0 Z = true) (w2 : (Cond.sameMethod ad "java/lang/Object" "clone" "()Ljava/lang/Object;").before a0 Z = true) (w3 : (Cond.native ⟨"java/lang/Object", "clone", "()Ljava/lang/Object;"⟩).before a0 Z = true)
    (w4 : (Cond.instanceMethod ⟨"java/lang/Object", "clone", "()Ljava/lang/Object;"⟩).before a0 Z = true) (w5 : (Cond.selects ad ⟨ad, "clone", "()Ljava/lang/Object;"⟩ ⟨"java/lang/Object", "clone", "()Ljava/lang/Object;"⟩).before a0 Z = true) (w6 : (Cond.castable ad "java/lang/Cloneable").before a0 Z = true)
    (eT : T.heap = h) (V : Al Z h a ty vs) (E : Exa Z h a ad) (F : ∀ v ∈ vs, fits ty v = true) {g : JFrame} (hg : g.method = m) (hsize : g.locals.size = c.maxLocals) {rest : List Value} (hst : g.stack = .ref a :: rest) (hd : decode c.code g.pc = .ok (.invokevirtual index, 3))
    (hf : 1 ≤ R.frames) {W cap : Nat} (hW : 2 * g.monitorRoom + (rest.map fun v => v.category).sum ≤ W) (hl : W + 14 ≤ R.locals) (hcap : vs.length ≤ cap) (hc : cells + 1 ≤ R.cells) (hsl : slots + cap ≤ R.slots) :
    ∃ T' h', Stand p l e R s m args below meth c T' locs (cells + 1) (slots + cap) ∧ T'.heap = h' ∧ Ext h h' ∧ Al Z h' h.size ty vs ∧ Exa Z h' h.size ad ∧
      ∀ target, Steps p.tables e below (T'.setTop { g with pc := g.pc + 3, stack := .ref h.size :: rest }) target → Steps p.tables e below (T.setTop g) target := by
  obtain ⟨cl, A, r⟩ := V
  have FC : FitC Z cl := fitC_of A fun i hi v hv => F v (by rw [← r]; exact Array.mem_toList_iff.mpr (Array.mem_of_getElem? hv))
  obtain ⟨T', h', X', e', ex, A', E', st⟩ := cloneA X hx hZ hown w1 w2 w3 w4 w5 w6 eT A E FC hg hsize hst hd hf hW hl (by rw [← Array.length_toList, r]; exact hcap) hc hsl
  exact ⟨T', h', X', e', ex, ⟨_, A', r⟩, E', st⟩
theorem selPriv {a0 : Array Value} {y : MethodName} {k : Nat} (hZ : Z.Warmed39 s.vm) (wi : (Cond.instantiable y.cls k).before a0 Z = true) (wp : (Cond.privateMethod y).before a0 Z = true) (wm : (Cond.instanceMethod y).before a0 Z = true) (hy : y.cls ≠ "java/lang/invoke/MethodHandle" ∧ y.cls ≠ "java/lang/invoke/VarHandle") : (Cond.selects y.cls y y).before args s = true := by
  obtain ⟨c, k, h1, h2, -, h4, -⟩ := Cond.instantiable_spec (mv (args := args) hZ wi)
  simp only [Bool.or_eq_false_iff] at h4
  exact Jvm.Stand.selects_self_of_private h1 h2 h4.1 (Cond.privateMethod_at (mvP hZ wp (args := args))) (mv hZ wm) hy
theorem al_in {cl : Cell} {j : Int32} {i : Nat} (hvs : cl.slots.toList = vs) (hj : ¬ j < 0) (hi : j.toNatClampNeg = i) (hl : i < vs.length) : ¬ (j < 0 ∨ cl.slots.size ≤ j.toNatClampNeg) := by
  subst hvs hi
  rintro (q | q)
  · exact hj q
  · simp only [Array.length_toList] at hl; omega
theorem al_at {cl : Cell} {j : Int32} {i : Nat} (hvs : cl.slots.toList = vs) (hi : j.toNatClampNeg = i) (hv : vs[i]? = some v) : cl.slots[j.toNatClampNeg]? = some v := by
  subst hvs hi; simpa using hv
theorem al_lt {i : Nat} (hv : vs[i]? = some v) : i < vs.length := (List.getElem?_eq_some_iff.mp hv).1
theorem ldI (X : Stand p l e R s m args below meth c T locs cells slots) (hx : p.tables.exec = Jvm.exec) (hZ : Z.Warmed39 s.vm) (eT : T.heap = h) (V : Al Z h a .int vs) {j : Int32} {i : Nat} (hj : ¬ j < 0) (hi : j.toNatClampNeg = i) (hv : vs[i]? = some v) {g : JFrame} (hg : g.method = m) {rest : List Value} (hs : g.stack = .int j :: .ref a :: rest) (hd : decode c.code g.pc = .ok (.iaload, 1)) {target : State}
    (k : Steps p.tables e below (T.setTop { g with pc := g.pc + 1, stack := v :: rest }) target) : Steps p.tables e below (T.setTop g) target := by
  obtain ⟨cl, A, r⟩ := V
  exact X.iaload hx (by rw [eT]; exact A.1) (State.isArrayOf_alike hZ.alike A.2.1) A.2.2 (al_in r hj hi (al_lt hv)) (al_at r hi hv) hg hs hd _ k
theorem ldJ (X : Stand p l e R s m args below meth c T locs cells slots) (hx : p.tables.exec = Jvm.exec) (hZ : Z.Warmed39 s.vm) (eT : T.heap = h) (V : Al Z h a .long vs) {j : Int32} {i : Nat} (hj : ¬ j < 0) (hi : j.toNatClampNeg = i) (hv : vs[i]? = some v) {g : JFrame} (hg : g.method = m) {rest : List Value} (hs : g.stack = .int j :: .ref a :: rest) (hd : decode c.code g.pc = .ok (.laload, 1)) {target : State}
    (k : Steps p.tables e below (T.setTop { g with pc := g.pc + 1, stack := v :: rest }) target) : Steps p.tables e below (T.setTop g) target := by
  obtain ⟨cl, A, r⟩ := V
  exact X.laload hx (by rw [eT]; exact A.1) (State.isArrayOf_alike hZ.alike A.2.1) A.2.2 (al_in r hj hi (al_lt hv)) (al_at r hi hv) hg hs hd _ k
theorem ldC (X : Stand p l e R s m args below meth c T locs cells slots) (hx : p.tables.exec = Jvm.exec) (hZ : Z.Warmed39 s.vm) (eT : T.heap = h) (V : Al Z h a .char vs) {j : Int32} {i : Nat} (hj : ¬ j < 0) (hi : j.toNatClampNeg = i) (hv : vs[i]? = some v) {g : JFrame} (hg : g.method = m) {rest : List Value} (hs : g.stack = .int j :: .ref a :: rest) (hd : decode c.code g.pc = .ok (.caload, 1)) {target : State}
    (k : Steps p.tables e below (T.setTop { g with pc := g.pc + 1, stack := v :: rest }) target) : Steps p.tables e below (T.setTop g) target := by
  obtain ⟨cl, A, r⟩ := V
  exact X.caload hx (by rw [eT]; exact A.1) (State.isArrayOf_alike hZ.alike A.2.1) A.2.2 (al_in r hj hi (al_lt hv)) (al_at r hi hv) hg hs hd _ k
theorem ldB (X : Stand p l e R s m args below meth c T locs cells slots) (hx : p.tables.exec = Jvm.exec) (hZ : Z.Warmed39 s.vm) (eT : T.heap = h) (V : Al Z h a .byte vs) {j : Int32} {i : Nat} (hj : ¬ j < 0) (hi : j.toNatClampNeg = i) (hv : vs[i]? = some v) {g : JFrame} (hg : g.method = m) {rest : List Value} (hs : g.stack = .int j :: .ref a :: rest) (hd : decode c.code g.pc = .ok (.baload, 1)) {target : State}
    (k : Steps p.tables e below (T.setTop { g with pc := g.pc + 1, stack := v :: rest }) target) : Steps p.tables e below (T.setTop g) target := by
  obtain ⟨cl, A, r⟩ := V
  exact X.baloadBytes hx (by rw [eT]; exact A.1) (State.isArrayOf_alike hZ.alike A.2.1) A.2.2 (al_in r hj hi (al_lt hv)) (al_at r hi hv) hg hs hd _ k
theorem ldZ (X : Stand p l e R s m args below meth c T locs cells slots) (hx : p.tables.exec = Jvm.exec) (hZ : Z.Warmed39 s.vm) (eT : T.heap = h) (V : Al Z h a .boolean vs) {j : Int32} {i : Nat} (hj : ¬ j < 0) (hi : j.toNatClampNeg = i) (hv : vs[i]? = some v) {g : JFrame} (hg : g.method = m) {rest : List Value} (hs : g.stack = .int j :: .ref a :: rest) (hd : decode c.code g.pc = .ok (.baload, 1)) {target : State}
    (k : Steps p.tables e below (T.setTop { g with pc := g.pc + 1, stack := v :: rest }) target) : Steps p.tables e below (T.setTop g) target := by
  obtain ⟨cl, A, r⟩ := V
  exact X.baloadBooleans hx (by rw [eT]; exact A.1) (State.isArrayOf_alike hZ.alike A.2.1) A.2.2 (al_in r hj hi (al_lt hv)) (al_at r hi hv) hg hs hd _ k
theorem lenA (X : Stand p l e R s m args below meth c T locs cells slots) (hx : p.tables.exec = Jvm.exec) (hZ : Z.Warmed39 s.vm) (eT : T.heap = h) (V : Al Z h a ty vs) {n : Int32} (hn : vs.length.toInt32 = n) {g : JFrame} (hg : g.method = m) {rest : List Value} (hs : g.stack = .ref a :: rest) (hd : decode c.code g.pc = .ok (.arraylength, 1)) {target : State}
    (k : Steps p.tables e below (T.setTop { g with pc := g.pc + 1, stack := .int n :: rest }) target) : Steps p.tables e below (T.setTop g) target := by
  obtain ⟨cl, A, r⟩ := V
  refine X.arraylength hx (by rw [eT]; exact A.1) (State.isArrayOf_alike hZ.alike A.2.1) hg hs hd _ ?_
  rw [show cl.slots.size.toInt32 = n from by rw [← hn, ← r, Array.length_toList]]
  exact k
theorem asI (X : Stand p l e R s m args below meth c T locs cells slots) (hx : p.tables.exec = Jvm.exec) (hZ : Z.Warmed39 s.vm) (eT : T.heap = h) (V : Al Z h a .int vs) {j : Int32} {i : Nat} {x : Int32} (hj : ¬ j < 0) (hi : j.toNatClampNeg = i) (hl : i < vs.length) {g : JFrame} (hg : g.method = m) {rest : List Value} (hs : g.stack = .int x :: .int j :: .ref a :: rest) (hd : decode c.code g.pc = .ok (.iastore, 1)) :
    ∃ T' h', Stand p l e R s m args below meth c T' (locs ++ [⟨a, i⟩]) cells slots ∧ T'.heap = h' ∧ Wr h h' a i (.int x) ∧ Al Z h' a .int (vs.set i (.int x)) ∧ ∀ target, Steps p.tables e below (T'.setTop { g with pc := g.pc + 1, stack := rest }) target → Steps p.tables e below (T.setTop g) target := by
  have V0 := V
  obtain ⟨cl, A, r⟩ := V
  obtain ⟨T', h', X', e', W, st⟩ := stI X hx hZ eT A (al_in r hj hi hl) hg hs hd
  subst hi
  exact ⟨T', h', X', e', W, V0.set W, st⟩
theorem asJ (X : Stand p l e R s m args below meth c T locs cells slots) (hx : p.tables.exec = Jvm.exec) (hZ : Z.Warmed39 s.vm) (eT : T.heap = h) (V : Al Z h a .long vs) {j : Int32} {i : Nat} {x : Int64} (hj : ¬ j < 0) (hi : j.toNatClampNeg = i) (hl : i < vs.length) {g : JFrame} (hg : g.method = m) {rest : List Value} (hs : g.stack = .long x :: .int j :: .ref a :: rest) (hd : decode c.code g.pc = .ok (.lastore, 1)) :
    ∃ T' h', Stand p l e R s m args below meth c T' (locs ++ [⟨a, i⟩]) cells slots ∧ T'.heap = h' ∧ Wr h h' a i (.long x) ∧ Al Z h' a .long (vs.set i (.long x)) ∧ ∀ target, Steps p.tables e below (T'.setTop { g with pc := g.pc + 1, stack := rest }) target → Steps p.tables e below (T.setTop g) target := by
  have V0 := V
  obtain ⟨cl, A, r⟩ := V
  obtain ⟨T', h', X', e', W, st⟩ := stJ X hx hZ eT A (al_in r hj hi hl) hg hs hd
  subst hi
  exact ⟨T', h', X', e', W, V0.set W, st⟩
theorem asC (X : Stand p l e R s m args below meth c T locs cells slots) (hx : p.tables.exec = Jvm.exec) (hZ : Z.Warmed39 s.vm) (eT : T.heap = h) (V : Al Z h a .char vs) {j : Int32} {i : Nat} {x y : Int32} (hj : ¬ j < 0) (hi : j.toNatClampNeg = i) (hl : i < vs.length) (hy : nar .char x = y) {g : JFrame} (hg : g.method = m) {rest : List Value} (hs : g.stack = .int x :: .int j :: .ref a :: rest) (hd : decode c.code g.pc = .ok (.castore, 1)) :
    ∃ T' h', Stand p l e R s m args below meth c T' (locs ++ [⟨a, i⟩]) cells slots ∧ T'.heap = h' ∧ Wr h h' a i (.int y) ∧ Al Z h' a .char (vs.set i (.int y)) ∧ ∀ target, Steps p.tables e below (T'.setTop { g with pc := g.pc + 1, stack := rest }) target → Steps p.tables e below (T.setTop g) target := by
  have V0 := V
  obtain ⟨cl, A, r⟩ := V
  obtain ⟨T', h', X', e', W, st⟩ := stC X hx hZ eT A (al_in r hj hi hl) hg hs hd
  subst hi hy
  exact ⟨T', h', X', e', W, V0.set W, st⟩
theorem asB (X : Stand p l e R s m args below meth c T locs cells slots) (hx : p.tables.exec = Jvm.exec) (hZ : Z.Warmed39 s.vm) (eT : T.heap = h) (V : Al Z h a .byte vs) {j : Int32} {i : Nat} {x y : Int32} (hj : ¬ j < 0) (hi : j.toNatClampNeg = i) (hl : i < vs.length) (hy : nar .byte x = y) {g : JFrame} (hg : g.method = m) {rest : List Value} (hs : g.stack = .int x :: .int j :: .ref a :: rest) (hd : decode c.code g.pc = .ok (.bastore, 1)) :
    ∃ T' h', Stand p l e R s m args below meth c T' (locs ++ [⟨a, i⟩]) cells slots ∧ T'.heap = h' ∧ Wr h h' a i (.int y) ∧ Al Z h' a .byte (vs.set i (.int y)) ∧ ∀ target, Steps p.tables e below (T'.setTop { g with pc := g.pc + 1, stack := rest }) target → Steps p.tables e below (T.setTop g) target := by
  have V0 := V
  obtain ⟨cl, A, r⟩ := V
  obtain ⟨T', h', X', e', W, st⟩ := stB X hx hZ eT A (al_in r hj hi hl) hg hs hd
  subst hi hy
  exact ⟨T', h', X', e', W, V0.set W, st⟩
theorem asZ (X : Stand p l e R s m args below meth c T locs cells slots) (hx : p.tables.exec = Jvm.exec) (hZ : Z.Warmed39 s.vm) (eT : T.heap = h) (V : Al Z h a .boolean vs) {j : Int32} {i : Nat} {x y : Int32} (hj : ¬ j < 0) (hi : j.toNatClampNeg = i) (hl : i < vs.length) (hy : nar .boolean x = y) {g : JFrame} (hg : g.method = m) {rest : List Value} (hs : g.stack = .int x :: .int j :: .ref a :: rest) (hd : decode c.code g.pc = .ok (.bastore, 1)) :
    ∃ T' h', Stand p l e R s m args below meth c T' (locs ++ [⟨a, i⟩]) cells slots ∧ T'.heap = h' ∧ Wr h h' a i (.int y) ∧ Al Z h' a .boolean (vs.set i (.int y)) ∧ ∀ target, Steps p.tables e below (T'.setTop { g with pc := g.pc + 1, stack := rest }) target → Steps p.tables e below (T.setTop g) target := by
  have V0 := V
  obtain ⟨cl, A, r⟩ := V
  obtain ⟨T', h', X', e', W, st⟩ := stZ X hx hZ eT A (al_in r hj hi hl) hg hs hd
  subst hi hy
  exact ⟨T', h', X', e', W, V0.set W, st⟩
theorem Ow.iloadN (X : Stand p l e R s m args below meth c T locs cells slots) (hx : p.tables.exec = Jvm.exec) {pc : Nat} {ls : Array Slot} {st : List Value} {pc' : Nat} {k : Fin 4} {v : Int32} (hd : decode c.code pc = .ok (.iload_n k, 1)) (hl : ls[k.val]? = some (.val (.int v))) (k : Wq p e below En Q (T.setTop (mkF m pc' ls (.int v :: st)))) (hpc : pc + 1 = pc' := by rfl) : Wq p e below En Q (T.setTop (mkF m pc ls st)) := by subst hpc; exact Wq.step (fun _ q => XS.iloadN X.here hx rfl hd hl q) k
theorem Ow.istoreN (X : Stand p l e R s m args below meth c T locs cells slots) (hx : p.tables.exec = Jvm.exec) {pc : Nat} {ls : Array Slot} {st : List Value} {pc' : Nat} {k : Fin 4} {x : Int32} {l' : Array Slot} (hd : decode c.code pc = .ok (.istore_n k, 1)) (hl : storeLocals ls k.val (.int x) = some l') (k : Wq p e below En Q (T.setTop (mkF m pc' l' st))) (hpc : pc + 1 = pc' := by rfl) : Wq p e below En Q (T.setTop (mkF m pc ls (.int x :: st))) := by subst hpc; exact Wq.step (fun _ q => XS.istoreN X.here hx rfl hd rfl hl q) k
theorem Ow.lloadN (X : Stand p l e R s m args below meth c T locs cells slots) (hx : p.tables.exec = Jvm.exec) {pc : Nat} {ls : Array Slot} {st : List Value} {pc' : Nat} {k : Fin 4} {v : Int64} (hd : decode c.code pc = .ok (.lload_n k, 1)) (hl : ls[k.val]? = some (.val (.long v))) (k : Wq p e below En Q (T.setTop (mkF m pc' ls (.long v :: st)))) (hpc : pc + 1 = pc' := by rfl) : Wq p e below En Q (T.setTop (mkF m pc ls st)) := by subst hpc; exact Wq.step (fun _ q => XS.lloadN X.here hx rfl hd hl q) k
theorem Ow.lstoreN (X : Stand p l e R s m args below meth c T locs cells slots) (hx : p.tables.exec = Jvm.exec) {pc : Nat} {ls : Array Slot} {st : List Value} {pc' : Nat} {k : Fin 4} {x : Int64} {l' : Array Slot} (hd : decode c.code pc = .ok (.lstore_n k, 1)) (hl : storeLocals ls k.val (.long x) = some l') (k : Wq p e below En Q (T.setTop (mkF m pc' l' st))) (hpc : pc + 1 = pc' := by rfl) : Wq p e below En Q (T.setTop (mkF m pc ls (.long x :: st))) := by subst hpc; exact Wq.step (fun _ q => XS.lstoreN X.here hx rfl hd rfl hl q) k
theorem Ow.aloadN (X : Stand p l e R s m args below meth c T locs cells slots) (hx : p.tables.exec = Jvm.exec) {pc : Nat} {ls : Array Slot} {st : List Value} {pc' : Nat} {k : Fin 4} {v : Value} (hd : decode c.code pc = .ok (.aload_n k, 1)) (hl : ls[k.val]? = some (.val v)) (hv : v.isRef = true) (k : Wq p e below En Q (T.setTop (mkF m pc' ls (v :: st)))) (hpc : pc + 1 = pc' := by rfl) : Wq p e below En Q (T.setTop (mkF m pc ls st)) := by subst hpc; exact Wq.step (fun _ q => XS.aloadN X.here hx rfl hd hl hv q) k
theorem Ow.astoreN (X : Stand p l e R s m args below meth c T locs cells slots) (hx : p.tables.exec = Jvm.exec) {pc : Nat} {ls : Array Slot} {st : List Value} {pc' : Nat} {k : Fin 4} {x : Value} {l' : Array Slot} (hd : decode c.code pc = .ok (.astore_n k, 1)) (hv : x.isRef = true) (hl : storeLocals ls k.val x = some l') (k : Wq p e below En Q (T.setTop (mkF m pc' l' st))) (hpc : pc + 1 = pc' := by rfl) : Wq p e below En Q (T.setTop (mkF m pc ls (x :: st))) := by subst hpc; exact Wq.step (fun _ q => XS.astoreN X.here hx rfl hd rfl hv hl q) k
theorem Ow.iload (X : Stand p l e R s m args below meth c T locs cells slots) (hx : p.tables.exec = Jvm.exec) {pc : Nat} {ls : Array Slot} {st : List Value} {pc' : Nat} {k : Nat} {v : Int32} (hd : decode c.code pc = .ok (.iload k, 2)) (hl : ls[k]? = some (.val (.int v))) (k : Wq p e below En Q (T.setTop (mkF m pc' ls (.int v :: st)))) (hpc : pc + 2 = pc' := by rfl) : Wq p e below En Q (T.setTop (mkF m pc ls st)) := by subst hpc; exact Wq.step (fun _ q => XS.iload X.here hx rfl hd hl q) k
theorem Ow.istore (X : Stand p l e R s m args below meth c T locs cells slots) (hx : p.tables.exec = Jvm.exec) {pc : Nat} {ls : Array Slot} {st : List Value} {pc' : Nat} {k : Nat} {x : Int32} {l' : Array Slot} (hd : decode c.code pc = .ok (.istore k, 2)) (hl : storeLocals ls k (.int x) = some l') (k : Wq p e below En Q (T.setTop (mkF m pc' l' st))) (hpc : pc + 2 = pc' := by rfl) : Wq p e below En Q (T.setTop (mkF m pc ls (.int x :: st))) := by subst hpc; exact Wq.step (fun _ q => XS.istore X.here hx rfl hd rfl hl q) k
theorem Ow.lload (X : Stand p l e R s m args below meth c T locs cells slots) (hx : p.tables.exec = Jvm.exec) {pc : Nat} {ls : Array Slot} {st : List Value} {pc' : Nat} {k : Nat} {v : Int64} (hd : decode c.code pc = .ok (.lload k, 2)) (hl : ls[k]? = some (.val (.long v))) (k : Wq p e below En Q (T.setTop (mkF m pc' ls (.long v :: st)))) (hpc : pc + 2 = pc' := by rfl) : Wq p e below En Q (T.setTop (mkF m pc ls st)) := by subst hpc; exact Wq.step (fun _ q => XS.lload X.here hx rfl hd hl q) k
theorem Ow.lstore (X : Stand p l e R s m args below meth c T locs cells slots) (hx : p.tables.exec = Jvm.exec) {pc : Nat} {ls : Array Slot} {st : List Value} {pc' : Nat} {k : Nat} {x : Int64} {l' : Array Slot} (hd : decode c.code pc = .ok (.lstore k, 2)) (hl : storeLocals ls k (.long x) = some l') (k : Wq p e below En Q (T.setTop (mkF m pc' l' st))) (hpc : pc + 2 = pc' := by rfl) : Wq p e below En Q (T.setTop (mkF m pc ls (.long x :: st))) := by subst hpc; exact Wq.step (fun _ q => XS.lstore X.here hx rfl hd rfl hl q) k
theorem Ow.aload (X : Stand p l e R s m args below meth c T locs cells slots) (hx : p.tables.exec = Jvm.exec) {pc : Nat} {ls : Array Slot} {st : List Value} {pc' : Nat} {k : Nat} {v : Value} (hd : decode c.code pc = .ok (.aload k, 2)) (hl : ls[k]? = some (.val v)) (hv : v.isRef = true) (k : Wq p e below En Q (T.setTop (mkF m pc' ls (v :: st)))) (hpc : pc + 2 = pc' := by rfl) : Wq p e below En Q (T.setTop (mkF m pc ls st)) := by subst hpc; exact Wq.step (fun _ q => XS.aload X.here hx rfl hd hl hv q) k
theorem Ow.astore (X : Stand p l e R s m args below meth c T locs cells slots) (hx : p.tables.exec = Jvm.exec) {pc : Nat} {ls : Array Slot} {st : List Value} {pc' : Nat} {k : Nat} {x : Value} {l' : Array Slot} (hd : decode c.code pc = .ok (.astore k, 2)) (hv : x.isRef = true) (hl : storeLocals ls k x = some l') (k : Wq p e below En Q (T.setTop (mkF m pc' l' st))) (hpc : pc + 2 = pc' := by rfl) : Wq p e below En Q (T.setTop (mkF m pc ls (x :: st))) := by subst hpc; exact Wq.step (fun _ q => XS.astore X.here hx rfl hd rfl hv hl q) k
theorem Ow.istoreNS (X : Stand p l e R s m args below meth c T locs cells slots) (hx : p.tables.exec = Jvm.exec) {pc pc' : Nat} {ls : Array Slot} {st : List Value} {k : Fin 4} {x : Int32} {o : Slot} {l' : Array Slot} (hd : decode c.code pc = .ok (.istore_n k, 1)) (hold : ls[k.val]? = some o) (ho : o = .unset ∨ ∃ w, o = .val w ∧ w.category = 1) (hl : ls.setIfInBounds k.val (.val (.int x)) = l') (q : Wq p e below En Q (T.setTop (mkF m pc' l' st))) (hpc : pc + 1 = pc' := by rfl) : Wq p e below En Q (T.setTop (mkF m pc ls (.int x :: st))) := by
  subst hpc hl
  exact Wq.step (fun _ z => XS.istoreN X.here hx rfl hd rfl (XS.store1 hold ho rfl) z) q
theorem Ow.istoreS (X : Stand p l e R s m args below meth c T locs cells slots) (hx : p.tables.exec = Jvm.exec) {pc pc' : Nat} {ls : Array Slot} {st : List Value} {k : Nat} {x : Int32} {o : Slot} {l' : Array Slot} (hd : decode c.code pc = .ok (.istore k, 2)) (hold : ls[k]? = some o) (ho : o = .unset ∨ ∃ w, o = .val w ∧ w.category = 1) (hl : ls.setIfInBounds k (.val (.int x)) = l') (q : Wq p e below En Q (T.setTop (mkF m pc' l' st))) (hpc : pc + 2 = pc' := by rfl) : Wq p e below En Q (T.setTop (mkF m pc ls (.int x :: st))) := by
  subst hpc hl
  exact Wq.step (fun _ z => XS.istore X.here hx rfl hd rfl (XS.store1 hold ho rfl) z) q
theorem Ow.iconst (X : Stand p l e R s m args below meth c T locs cells slots) (hx : p.tables.exec = Jvm.exec) {pc : Nat} {ls : Array Slot} {st : List Value} {pc' : Nat} {i : Int} {z : Int32} (hd : decode c.code pc = .ok (.iconst i, 1)) (hz : Int32.ofInt i = z) (k : Wq p e below En Q (T.setTop (mkF m pc' ls (.int z :: st)))) (hpc : pc + 1 = pc' := by rfl) : Wq p e below En Q (T.setTop (mkF m pc ls st)) := by subst hz hpc; exact Wq.step (fun _ q => XS.iconst X.here hx rfl hd  q) k
theorem Ow.bipush (X : Stand p l e R s m args below meth c T locs cells slots) (hx : p.tables.exec = Jvm.exec) {pc : Nat} {ls : Array Slot} {st : List Value} {pc' : Nat} {i : Int} {z : Int32} (hd : decode c.code pc = .ok (.bipush i, 2)) (hz : (Int8.ofInt i).toInt32 = z) (k : Wq p e below En Q (T.setTop (mkF m pc' ls (.int z :: st)))) (hpc : pc + 2 = pc' := by rfl) : Wq p e below En Q (T.setTop (mkF m pc ls st)) := by subst hz hpc; exact Wq.step (fun _ q => XS.bipush X.here hx rfl hd  q) k
theorem Ow.sipush (X : Stand p l e R s m args below meth c T locs cells slots) (hx : p.tables.exec = Jvm.exec) {pc : Nat} {ls : Array Slot} {st : List Value} {pc' : Nat} {i : Int} {z : Int32} (hd : decode c.code pc = .ok (.sipush i, 3)) (hz : (Int16.ofInt i).toInt32 = z) (k : Wq p e below En Q (T.setTop (mkF m pc' ls (.int z :: st)))) (hpc : pc + 3 = pc' := by rfl) : Wq p e below En Q (T.setTop (mkF m pc ls st)) := by subst hz hpc; exact Wq.step (fun _ q => XS.sipush X.here hx rfl hd  q) k
theorem Ow.lconst (X : Stand p l e R s m args below meth c T locs cells slots) (hx : p.tables.exec = Jvm.exec) {pc : Nat} {ls : Array Slot} {st : List Value} {pc' : Nat} {i : Fin 2} {z : Int64} (hd : decode c.code pc = .ok (.lconst i, 1)) (hz : Int64.ofNat i = z) (k : Wq p e below En Q (T.setTop (mkF m pc' ls (.long z :: st)))) (hpc : pc + 1 = pc' := by rfl) : Wq p e below En Q (T.setTop (mkF m pc ls st)) := by subst hz hpc; exact Wq.step (fun _ q => XS.lconst X.here hx rfl hd  q) k
theorem Ow.aconstNull (X : Stand p l e R s m args below meth c T locs cells slots) (hx : p.tables.exec = Jvm.exec) {pc : Nat} {ls : Array Slot} {st : List Value} {pc' : Nat}  (hd : decode c.code pc = .ok (.aconst_null, 1))  (k : Wq p e below En Q (T.setTop (mkF m pc' ls (.null :: st)))) (hpc : pc + 1 = pc' := by rfl) : Wq p e below En Q (T.setTop (mkF m pc ls st)) := by subst hpc; exact Wq.step (fun _ q => XS.aconstNull X.here hx rfl hd  q) k
theorem Ow.iadd (X : Stand p l e R s m args below meth c T locs cells slots) (hx : p.tables.exec = Jvm.exec) {pc : Nat} {ls : Array Slot} {st : List Value} {pc' : Nat} {x y z : Int32} (hd : decode c.code pc = .ok (.iadd, 1)) (hz : x + y = z) (k : Wq p e below En Q (T.setTop (mkF m pc' ls (.int z :: st)))) (hpc : pc + 1 = pc' := by rfl) : Wq p e below En Q (T.setTop (mkF m pc ls (.int y :: .int x :: st))) := by subst hz hpc; exact Wq.step (fun _ q => XS.iadd X.here hx rfl hd rfl q) k
theorem Ow.ladd (X : Stand p l e R s m args below meth c T locs cells slots) (hx : p.tables.exec = Jvm.exec) {pc : Nat} {ls : Array Slot} {st : List Value} {pc' : Nat} {x y z : Int64} (hd : decode c.code pc = .ok (.ladd, 1)) (hz : x + y = z) (k : Wq p e below En Q (T.setTop (mkF m pc' ls (.long z :: st)))) (hpc : pc + 1 = pc' := by rfl) : Wq p e below En Q (T.setTop (mkF m pc ls (.long y :: .long x :: st))) := by subst hz hpc; exact Wq.step (fun _ q => XS.ladd X.here hx rfl hd rfl q) k
theorem Ow.isub (X : Stand p l e R s m args below meth c T locs cells slots) (hx : p.tables.exec = Jvm.exec) {pc : Nat} {ls : Array Slot} {st : List Value} {pc' : Nat} {x y z : Int32} (hd : decode c.code pc = .ok (.isub, 1)) (hz : x - y = z) (k : Wq p e below En Q (T.setTop (mkF m pc' ls (.int z :: st)))) (hpc : pc + 1 = pc' := by rfl) : Wq p e below En Q (T.setTop (mkF m pc ls (.int y :: .int x :: st))) := by subst hz hpc; exact Wq.step (fun _ q => XS.isub X.here hx rfl hd rfl q) k
theorem Ow.lsub (X : Stand p l e R s m args below meth c T locs cells slots) (hx : p.tables.exec = Jvm.exec) {pc : Nat} {ls : Array Slot} {st : List Value} {pc' : Nat} {x y z : Int64} (hd : decode c.code pc = .ok (.lsub, 1)) (hz : x - y = z) (k : Wq p e below En Q (T.setTop (mkF m pc' ls (.long z :: st)))) (hpc : pc + 1 = pc' := by rfl) : Wq p e below En Q (T.setTop (mkF m pc ls (.long y :: .long x :: st))) := by subst hz hpc; exact Wq.step (fun _ q => XS.lsub X.here hx rfl hd rfl q) k
theorem Ow.imul (X : Stand p l e R s m args below meth c T locs cells slots) (hx : p.tables.exec = Jvm.exec) {pc : Nat} {ls : Array Slot} {st : List Value} {pc' : Nat} {x y z : Int32} (hd : decode c.code pc = .ok (.imul, 1)) (hz : x * y = z) (k : Wq p e below En Q (T.setTop (mkF m pc' ls (.int z :: st)))) (hpc : pc + 1 = pc' := by rfl) : Wq p e below En Q (T.setTop (mkF m pc ls (.int y :: .int x :: st))) := by subst hz hpc; exact Wq.step (fun _ q => XS.imul X.here hx rfl hd rfl q) k
theorem Ow.lmul (X : Stand p l e R s m args below meth c T locs cells slots) (hx : p.tables.exec = Jvm.exec) {pc : Nat} {ls : Array Slot} {st : List Value} {pc' : Nat} {x y z : Int64} (hd : decode c.code pc = .ok (.lmul, 1)) (hz : x * y = z) (k : Wq p e below En Q (T.setTop (mkF m pc' ls (.long z :: st)))) (hpc : pc + 1 = pc' := by rfl) : Wq p e below En Q (T.setTop (mkF m pc ls (.long y :: .long x :: st))) := by subst hz hpc; exact Wq.step (fun _ q => XS.lmul X.here hx rfl hd rfl q) k
theorem Ow.iand (X : Stand p l e R s m args below meth c T locs cells slots) (hx : p.tables.exec = Jvm.exec) {pc : Nat} {ls : Array Slot} {st : List Value} {pc' : Nat} {x y z : Int32} (hd : decode c.code pc = .ok (.iand, 1)) (hz : x &&& y = z) (k : Wq p e below En Q (T.setTop (mkF m pc' ls (.int z :: st)))) (hpc : pc + 1 = pc' := by rfl) : Wq p e below En Q (T.setTop (mkF m pc ls (.int y :: .int x :: st))) := by subst hz hpc; exact Wq.step (fun _ q => XS.iand X.here hx rfl hd rfl q) k
theorem Ow.land (X : Stand p l e R s m args below meth c T locs cells slots) (hx : p.tables.exec = Jvm.exec) {pc : Nat} {ls : Array Slot} {st : List Value} {pc' : Nat} {x y z : Int64} (hd : decode c.code pc = .ok (.land, 1)) (hz : x &&& y = z) (k : Wq p e below En Q (T.setTop (mkF m pc' ls (.long z :: st)))) (hpc : pc + 1 = pc' := by rfl) : Wq p e below En Q (T.setTop (mkF m pc ls (.long y :: .long x :: st))) := by subst hz hpc; exact Wq.step (fun _ q => XS.land X.here hx rfl hd rfl q) k
theorem Ow.ior (X : Stand p l e R s m args below meth c T locs cells slots) (hx : p.tables.exec = Jvm.exec) {pc : Nat} {ls : Array Slot} {st : List Value} {pc' : Nat} {x y z : Int32} (hd : decode c.code pc = .ok (.ior, 1)) (hz : x ||| y = z) (k : Wq p e below En Q (T.setTop (mkF m pc' ls (.int z :: st)))) (hpc : pc + 1 = pc' := by rfl) : Wq p e below En Q (T.setTop (mkF m pc ls (.int y :: .int x :: st))) := by subst hz hpc; exact Wq.step (fun _ q => XS.ior X.here hx rfl hd rfl q) k
theorem Ow.lor (X : Stand p l e R s m args below meth c T locs cells slots) (hx : p.tables.exec = Jvm.exec) {pc : Nat} {ls : Array Slot} {st : List Value} {pc' : Nat} {x y z : Int64} (hd : decode c.code pc = .ok (.lor, 1)) (hz : x ||| y = z) (k : Wq p e below En Q (T.setTop (mkF m pc' ls (.long z :: st)))) (hpc : pc + 1 = pc' := by rfl) : Wq p e below En Q (T.setTop (mkF m pc ls (.long y :: .long x :: st))) := by subst hz hpc; exact Wq.step (fun _ q => XS.lor X.here hx rfl hd rfl q) k
theorem Ow.ixor (X : Stand p l e R s m args below meth c T locs cells slots) (hx : p.tables.exec = Jvm.exec) {pc : Nat} {ls : Array Slot} {st : List Value} {pc' : Nat} {x y z : Int32} (hd : decode c.code pc = .ok (.ixor, 1)) (hz : x ^^^ y = z) (k : Wq p e below En Q (T.setTop (mkF m pc' ls (.int z :: st)))) (hpc : pc + 1 = pc' := by rfl) : Wq p e below En Q (T.setTop (mkF m pc ls (.int y :: .int x :: st))) := by subst hz hpc; exact Wq.step (fun _ q => XS.ixor X.here hx rfl hd rfl q) k
theorem Ow.lxor (X : Stand p l e R s m args below meth c T locs cells slots) (hx : p.tables.exec = Jvm.exec) {pc : Nat} {ls : Array Slot} {st : List Value} {pc' : Nat} {x y z : Int64} (hd : decode c.code pc = .ok (.lxor, 1)) (hz : x ^^^ y = z) (k : Wq p e below En Q (T.setTop (mkF m pc' ls (.long z :: st)))) (hpc : pc + 1 = pc' := by rfl) : Wq p e below En Q (T.setTop (mkF m pc ls (.long y :: .long x :: st))) := by subst hz hpc; exact Wq.step (fun _ q => XS.lxor X.here hx rfl hd rfl q) k
theorem Ow.ineg (X : Stand p l e R s m args below meth c T locs cells slots) (hx : p.tables.exec = Jvm.exec) {pc : Nat} {ls : Array Slot} {st : List Value} {pc' : Nat} {x : Int32} {z : Int32} (hd : decode c.code pc = .ok (.ineg, 1)) (hz : -x = z) (k : Wq p e below En Q (T.setTop (mkF m pc' ls (.int z :: st)))) (hpc : pc + 1 = pc' := by rfl) : Wq p e below En Q (T.setTop (mkF m pc ls (.int x :: st))) := by subst hz hpc; exact Wq.step (fun _ q => XS.ineg X.here hx rfl hd rfl q) k
theorem Ow.lneg (X : Stand p l e R s m args below meth c T locs cells slots) (hx : p.tables.exec = Jvm.exec) {pc : Nat} {ls : Array Slot} {st : List Value} {pc' : Nat} {x : Int64} {z : Int64} (hd : decode c.code pc = .ok (.lneg, 1)) (hz : -x = z) (k : Wq p e below En Q (T.setTop (mkF m pc' ls (.long z :: st)))) (hpc : pc + 1 = pc' := by rfl) : Wq p e below En Q (T.setTop (mkF m pc ls (.long x :: st))) := by subst hz hpc; exact Wq.step (fun _ q => XS.lneg X.here hx rfl hd rfl q) k
theorem Ow.i2l (X : Stand p l e R s m args below meth c T locs cells slots) (hx : p.tables.exec = Jvm.exec) {pc : Nat} {ls : Array Slot} {st : List Value} {pc' : Nat} {x : Int32} {z : Int64} (hd : decode c.code pc = .ok (.i2l, 1)) (hz : x.toInt64 = z) (k : Wq p e below En Q (T.setTop (mkF m pc' ls (.long z :: st)))) (hpc : pc + 1 = pc' := by rfl) : Wq p e below En Q (T.setTop (mkF m pc ls (.int x :: st))) := by subst hz hpc; exact Wq.step (fun _ q => XS.i2l X.here hx rfl hd rfl q) k
theorem Ow.l2i (X : Stand p l e R s m args below meth c T locs cells slots) (hx : p.tables.exec = Jvm.exec) {pc : Nat} {ls : Array Slot} {st : List Value} {pc' : Nat} {x : Int64} {z : Int32} (hd : decode c.code pc = .ok (.l2i, 1)) (hz : x.toInt32 = z) (k : Wq p e below En Q (T.setTop (mkF m pc' ls (.int z :: st)))) (hpc : pc + 1 = pc' := by rfl) : Wq p e below En Q (T.setTop (mkF m pc ls (.long x :: st))) := by subst hz hpc; exact Wq.step (fun _ q => XS.l2i X.here hx rfl hd rfl q) k
theorem Ow.i2b (X : Stand p l e R s m args below meth c T locs cells slots) (hx : p.tables.exec = Jvm.exec) {pc : Nat} {ls : Array Slot} {st : List Value} {pc' : Nat} {x : Int32} {z : Int32} (hd : decode c.code pc = .ok (.i2b, 1)) (hz : x.toInt8.toInt32 = z) (k : Wq p e below En Q (T.setTop (mkF m pc' ls (.int z :: st)))) (hpc : pc + 1 = pc' := by rfl) : Wq p e below En Q (T.setTop (mkF m pc ls (.int x :: st))) := by subst hz hpc; exact Wq.step (fun _ q => XS.i2b X.here hx rfl hd rfl q) k
theorem Ow.i2s (X : Stand p l e R s m args below meth c T locs cells slots) (hx : p.tables.exec = Jvm.exec) {pc : Nat} {ls : Array Slot} {st : List Value} {pc' : Nat} {x : Int32} {z : Int32} (hd : decode c.code pc = .ok (.i2s, 1)) (hz : x.toInt16.toInt32 = z) (k : Wq p e below En Q (T.setTop (mkF m pc' ls (.int z :: st)))) (hpc : pc + 1 = pc' := by rfl) : Wq p e below En Q (T.setTop (mkF m pc ls (.int x :: st))) := by subst hz hpc; exact Wq.step (fun _ q => XS.i2s X.here hx rfl hd rfl q) k
theorem Ow.i2c (X : Stand p l e R s m args below meth c T locs cells slots) (hx : p.tables.exec = Jvm.exec) {pc : Nat} {ls : Array Slot} {st : List Value} {pc' : Nat} {x : Int32} {z : Int32} (hd : decode c.code pc = .ok (.i2c, 1)) (hz : x.toUInt32.toUInt16.toUInt32.toInt32 = z) (k : Wq p e below En Q (T.setTop (mkF m pc' ls (.int z :: st)))) (hpc : pc + 1 = pc' := by rfl) : Wq p e below En Q (T.setTop (mkF m pc ls (.int x :: st))) := by subst hz hpc; exact Wq.step (fun _ q => XS.i2c X.here hx rfl hd rfl q) k
theorem Ow.ishl (X : Stand p l e R s m args below meth c T locs cells slots) (hx : p.tables.exec = Jvm.exec) {pc : Nat} {ls : Array Slot} {st : List Value} {pc' : Nat} {x : Int32} {y : Int32} {z : Int32} (hd : decode c.code pc = .ok (.ishl, 1)) (hz : x <<< (y &&& 31) = z) (k : Wq p e below En Q (T.setTop (mkF m pc' ls (.int z :: st)))) (hpc : pc + 1 = pc' := by rfl) : Wq p e below En Q (T.setTop (mkF m pc ls (.int y :: .int x :: st))) := by subst hz hpc; exact Wq.step (fun _ q => XS.ishl X.here hx rfl hd rfl q) k
theorem Ow.ishr (X : Stand p l e R s m args below meth c T locs cells slots) (hx : p.tables.exec = Jvm.exec) {pc : Nat} {ls : Array Slot} {st : List Value} {pc' : Nat} {x : Int32} {y : Int32} {z : Int32} (hd : decode c.code pc = .ok (.ishr, 1)) (hz : x >>> (y &&& 31) = z) (k : Wq p e below En Q (T.setTop (mkF m pc' ls (.int z :: st)))) (hpc : pc + 1 = pc' := by rfl) : Wq p e below En Q (T.setTop (mkF m pc ls (.int y :: .int x :: st))) := by subst hz hpc; exact Wq.step (fun _ q => XS.ishr X.here hx rfl hd rfl q) k
theorem Ow.iushr (X : Stand p l e R s m args below meth c T locs cells slots) (hx : p.tables.exec = Jvm.exec) {pc : Nat} {ls : Array Slot} {st : List Value} {pc' : Nat} {x : Int32} {y : Int32} {z : Int32} (hd : decode c.code pc = .ok (.iushr, 1)) (hz : (x.toUInt32 >>> (y &&& 31).toUInt32).toInt32 = z) (k : Wq p e below En Q (T.setTop (mkF m pc' ls (.int z :: st)))) (hpc : pc + 1 = pc' := by rfl) : Wq p e below En Q (T.setTop (mkF m pc ls (.int y :: .int x :: st))) := by subst hz hpc; exact Wq.step (fun _ q => XS.iushr X.here hx rfl hd rfl q) k
theorem Ow.lshl (X : Stand p l e R s m args below meth c T locs cells slots) (hx : p.tables.exec = Jvm.exec) {pc : Nat} {ls : Array Slot} {st : List Value} {pc' : Nat} {x : Int64} {y : Int32} {z : Int64} (hd : decode c.code pc = .ok (.lshl, 1)) (hz : x <<< (y &&& 0x3f).toInt64 = z) (k : Wq p e below En Q (T.setTop (mkF m pc' ls (.long z :: st)))) (hpc : pc + 1 = pc' := by rfl) : Wq p e below En Q (T.setTop (mkF m pc ls (.int y :: .long x :: st))) := by subst hz hpc; exact Wq.step (fun _ q => XS.lshl X.here hx rfl hd rfl q) k
theorem Ow.lshr (X : Stand p l e R s m args below meth c T locs cells slots) (hx : p.tables.exec = Jvm.exec) {pc : Nat} {ls : Array Slot} {st : List Value} {pc' : Nat} {x : Int64} {y : Int32} {z : Int64} (hd : decode c.code pc = .ok (.lshr, 1)) (hz : x >>> (y &&& 0x3f).toInt64 = z) (k : Wq p e below En Q (T.setTop (mkF m pc' ls (.long z :: st)))) (hpc : pc + 1 = pc' := by rfl) : Wq p e below En Q (T.setTop (mkF m pc ls (.int y :: .long x :: st))) := by subst hz hpc; exact Wq.step (fun _ q => XS.lshr X.here hx rfl hd rfl q) k
theorem Ow.lushr (X : Stand p l e R s m args below meth c T locs cells slots) (hx : p.tables.exec = Jvm.exec) {pc : Nat} {ls : Array Slot} {st : List Value} {pc' : Nat} {x : Int64} {y : Int32} {z : Int64} (hd : decode c.code pc = .ok (.lushr, 1)) (hz : (x.toUInt64 >>> (y &&& 0x3f).toInt64.toUInt64).toInt64 = z) (k : Wq p e below En Q (T.setTop (mkF m pc' ls (.long z :: st)))) (hpc : pc + 1 = pc' := by rfl) : Wq p e below En Q (T.setTop (mkF m pc ls (.int y :: .long x :: st))) := by subst hz hpc; exact Wq.step (fun _ q => XS.lushr X.here hx rfl hd rfl q) k
theorem Ow.lcmp (X : Stand p l e R s m args below meth c T locs cells slots) (hx : p.tables.exec = Jvm.exec) {pc : Nat} {ls : Array Slot} {st : List Value} {pc' : Nat} {x y : Int64} (hd : decode c.code pc = .ok (.lcmp, 1))  (k : Wq p e below En Q (T.setTop (mkF m pc' ls (.int (lcmpW x y) :: st)))) (hpc : pc + 1 = pc' := by rfl) : Wq p e below En Q (T.setTop (mkF m pc ls (.long y :: .long x :: st))) := by subst hpc; exact Wq.step (fun _ q => XS.lcmp X.here hx rfl hd rfl q) k
theorem Ow.idiv (X : Stand p l e R s m args below meth c T locs cells slots) (hx : p.tables.exec = Jvm.exec) {pc : Nat} {ls : Array Slot} {st : List Value} {pc' : Nat} {x y z : Int32} (hd : decode c.code pc = .ok (.idiv, 1)) (hy : y ≠ 0) (hz : x / y = z) (k : Wq p e below En Q (T.setTop (mkF m pc' ls (.int z :: st)))) (hpc : pc + 1 = pc' := by rfl) : Wq p e below En Q (T.setTop (mkF m pc ls (.int y :: .int x :: st))) := by subst hz hpc; exact Wq.step (fun _ q => XS.idiv X.here hx rfl hd rfl hy q) k
theorem Ow.ldiv (X : Stand p l e R s m args below meth c T locs cells slots) (hx : p.tables.exec = Jvm.exec) {pc : Nat} {ls : Array Slot} {st : List Value} {pc' : Nat} {x y z : Int64} (hd : decode c.code pc = .ok (.ldiv, 1)) (hy : y ≠ 0) (hz : x / y = z) (k : Wq p e below En Q (T.setTop (mkF m pc' ls (.long z :: st)))) (hpc : pc + 1 = pc' := by rfl) : Wq p e below En Q (T.setTop (mkF m pc ls (.long y :: .long x :: st))) := by subst hz hpc; exact Wq.step (fun _ q => XS.ldiv X.here hx rfl hd rfl hy q) k
theorem Ow.irem (X : Stand p l e R s m args below meth c T locs cells slots) (hx : p.tables.exec = Jvm.exec) {pc : Nat} {ls : Array Slot} {st : List Value} {pc' : Nat} {x y z : Int32} (hd : decode c.code pc = .ok (.irem, 1)) (hy : y ≠ 0) (hz : x % y = z) (k : Wq p e below En Q (T.setTop (mkF m pc' ls (.int z :: st)))) (hpc : pc + 1 = pc' := by rfl) : Wq p e below En Q (T.setTop (mkF m pc ls (.int y :: .int x :: st))) := by subst hz hpc; exact Wq.step (fun _ q => iremM X hx rfl hd rfl hy q) k
theorem Ow.lrem (X : Stand p l e R s m args below meth c T locs cells slots) (hx : p.tables.exec = Jvm.exec) {pc : Nat} {ls : Array Slot} {st : List Value} {pc' : Nat} {x y z : Int64} (hd : decode c.code pc = .ok (.lrem, 1)) (hy : y ≠ 0) (hz : x % y = z) (k : Wq p e below En Q (T.setTop (mkF m pc' ls (.long z :: st)))) (hpc : pc + 1 = pc' := by rfl) : Wq p e below En Q (T.setTop (mkF m pc ls (.long y :: .long x :: st))) := by
  rw [← lrem_mod] at hz
  subst hz hpc
  exact Wq.step (fun _ q => XS.lrem X.here hx rfl hd rfl hy q) k
theorem Ow.iinc (X : Stand p l e R s m args below meth c T locs cells slots) (hx : p.tables.exec = Jvm.exec) {pc : Nat} {ls : Array Slot} {st : List Value} {pc' : Nat} {i : Nat} {cst : Int} {x : Int32} {l' : Array Slot} (hd : decode c.code pc = .ok (.iinc i cst, 3)) (hl : ls[i]? = some (.val (.int x))) (hl' : storeLocals ls i (.int (x + Int32.ofInt cst)) = some l') (k : Wq p e below En Q (T.setTop (mkF m pc' l' st))) (hpc : pc + 3 = pc' := by rfl) : Wq p e below En Q (T.setTop (mkF m pc ls st)) := by subst hpc; exact Wq.step (fun _ q => XS.iinc X.here hx rfl hd hl hl' q) k
theorem Ow.dup (X : Stand p l e R s m args below meth c T locs cells slots) (hx : p.tables.exec = Jvm.exec) {pc : Nat} {ls : Array Slot} {st : List Value} {pc' : Nat} {x : Value} (hd : decode c.code pc = .ok (.dup, 1)) (hc : x.category = 1) (k : Wq p e below En Q (T.setTop (mkF m pc' ls (x :: x :: st)))) (hpc : pc + 1 = pc' := by rfl) : Wq p e below En Q (T.setTop (mkF m pc ls (x :: st))) := by subst hpc; exact Wq.step (fun _ q => XS.dup X.here hx rfl hd rfl hc q) k
theorem Ow.pop (X : Stand p l e R s m args below meth c T locs cells slots) (hx : p.tables.exec = Jvm.exec) {pc : Nat} {ls : Array Slot} {st : List Value} {pc' : Nat} {x : Value} (hd : decode c.code pc = .ok (.pop, 1)) (hc : x.category = 1) (k : Wq p e below En Q (T.setTop (mkF m pc' ls st))) (hpc : pc + 1 = pc' := by rfl) : Wq p e below En Q (T.setTop (mkF m pc ls (x :: st))) := by subst hpc; exact Wq.step (fun _ q => XS.pop X.here hx rfl hd rfl hc q) k
theorem Ow.dupX1 (X : Stand p l e R s m args below meth c T locs cells slots) (hx : p.tables.exec = Jvm.exec) {pc : Nat} {ls : Array Slot} {st : List Value} {pc' : Nat} {x y : Value} (hd : decode c.code pc = .ok (.dup_x1, 1)) (hc : x.category = 1) (hc' : y.category = 1) (k : Wq p e below En Q (T.setTop (mkF m pc' ls (x :: y :: x :: st)))) (hpc : pc + 1 = pc' := by rfl) : Wq p e below En Q (T.setTop (mkF m pc ls (x :: y :: st))) := by subst hpc; exact Wq.step (fun _ q => XS.dupX1 X.here hx rfl hd rfl hc hc' q) k
theorem Ow.swap (X : Stand p l e R s m args below meth c T locs cells slots) (hx : p.tables.exec = Jvm.exec) {pc : Nat} {ls : Array Slot} {st : List Value} {pc' : Nat} {x y : Value} (hd : decode c.code pc = .ok (.swap, 1)) (hc : x.category = 1) (hc' : y.category = 1) (k : Wq p e below En Q (T.setTop (mkF m pc' ls (y :: x :: st)))) (hpc : pc + 1 = pc' := by rfl) : Wq p e below En Q (T.setTop (mkF m pc ls (x :: y :: st))) := by subst hpc; exact Wq.step (fun _ q => XS.swap X.here hx rfl hd rfl hc hc' q) k
theorem Ow.dup2 (X : Stand p l e R s m args below meth c T locs cells slots) (hx : p.tables.exec = Jvm.exec) {pc : Nat} {ls : Array Slot} {st : List Value} {pc' : Nat} {x y : Value} (hd : decode c.code pc = .ok (.dup2, 1)) (hc : x.category = 1) (hc' : y.category = 1) (k : Wq p e below En Q (T.setTop (mkF m pc' ls (x :: y :: x :: y :: st)))) (hpc : pc + 1 = pc' := by rfl) : Wq p e below En Q (T.setTop (mkF m pc ls (x :: y :: st))) := by subst hpc; exact Wq.step (fun _ q => Jvm.Free.XT.dup2 X.here hx rfl hd rfl hc hc' q) k
theorem Ow.dup2L (X : Stand p l e R s m args below meth c T locs cells slots) (hx : p.tables.exec = Jvm.exec) {pc : Nat} {ls : Array Slot} {st : List Value} {pc' : Nat} {x : Int64} (hd : decode c.code pc = .ok (.dup2, 1))  (k : Wq p e below En Q (T.setTop (mkF m pc' ls (.long x :: .long x :: st)))) (hpc : pc + 1 = pc' := by rfl) : Wq p e below En Q (T.setTop (mkF m pc ls (.long x :: st))) := by subst hpc; exact Wq.step (fun _ q => Jvm.Free.XT.dup2L X.here hx rfl hd rfl q) k
theorem Ow.goto (X : Stand p l e R s m args below meth c T locs cells slots) (hx : p.tables.exec = Jvm.exec) {pc : Nat} {ls : Array Slot} {st : List Value} {o : Int} {pc' : Nat} (hd : decode c.code pc = .ok (.goto o, 3)) (ho : 0 ≤ (pc : Int) + o) (hp : ((pc : Int) + o).toNat = pc') (k : Wq p e below En Q (T.setTop (mkF m pc' ls st))) : Wq p e below En Q (T.setTop (mkF m pc ls st)) := Wq.step (fun _ q => XS.goto X.here hx rfl rfl hd ho hp q) k
theorem Ow.ifYes (X : Stand p l e R s m args below meth c T locs cells slots) (hx : p.tables.exec = Jvm.exec) {pc : Nat} {ls : Array Slot} {st : List Value} {cd : ClassFile.Cond} {x : Int32} {o : Int} {pc' : Nat} (hd : decode c.code pc = .ok (.ifCond cd o, 3)) (hc : ifCond.holds cd x = true) (ho : 0 ≤ (pc : Int) + o) (hp : ((pc : Int) + o).toNat = pc') (k : Wq p e below En Q (T.setTop (mkF m pc' ls st))) : Wq p e below En Q (T.setTop (mkF m pc ls (.int x :: st))) := Wq.step (fun _ q => XS.ifYes X.here hx rfl rfl hd rfl hc ho hp q) k
theorem Ow.ifNo (X : Stand p l e R s m args below meth c T locs cells slots) (hx : p.tables.exec = Jvm.exec) {pc : Nat} {ls : Array Slot} {st : List Value} {pc' : Nat} {cd : ClassFile.Cond} {x : Int32} {o : Int} (hd : decode c.code pc = .ok (.ifCond cd o, 3)) (hc : ifCond.holds cd x = false) (k : Wq p e below En Q (T.setTop (mkF m pc' ls st))) (hpc : pc + 3 = pc' := by rfl) : Wq p e below En Q (T.setTop (mkF m pc ls (.int x :: st))) := by subst hpc; exact Wq.step (fun _ q => XS.ifNo X.here hx rfl hd rfl hc q) k
theorem Ow.icmpYes (X : Stand p l e R s m args below meth c T locs cells slots) (hx : p.tables.exec = Jvm.exec) {pc : Nat} {ls : Array Slot} {st : List Value} {cd : ClassFile.Cond} {x y : Int32} {o : Int} {pc' : Nat} (hd : decode c.code pc = .ok (.if_icmp cd o, 3)) (hc : if_icmp.holds cd x y = true) (ho : 0 ≤ (pc : Int) + o) (hp : ((pc : Int) + o).toNat = pc') (k : Wq p e below En Q (T.setTop (mkF m pc' ls st))) : Wq p e below En Q (T.setTop (mkF m pc ls (.int y :: .int x :: st))) := Wq.step (fun _ q => XS.icmpYes X.here hx rfl rfl hd rfl hc ho hp q) k
theorem Ow.icmpNo (X : Stand p l e R s m args below meth c T locs cells slots) (hx : p.tables.exec = Jvm.exec) {pc : Nat} {ls : Array Slot} {st : List Value} {pc' : Nat} {cd : ClassFile.Cond} {x y : Int32} {o : Int} (hd : decode c.code pc = .ok (.if_icmp cd o, 3)) (hc : if_icmp.holds cd x y = false) (k : Wq p e below En Q (T.setTop (mkF m pc' ls st))) (hpc : pc + 3 = pc' := by rfl) : Wq p e below En Q (T.setTop (mkF m pc ls (.int y :: .int x :: st))) := by subst hpc; exact Wq.step (fun _ q => XS.icmpNo X.here hx rfl hd rfl hc q) k
theorem Ow.ifnullYes (X : Stand p l e R s m args below meth c T locs cells slots) (hx : p.tables.exec = Jvm.exec) {pc : Nat} {ls : Array Slot} {st : List Value} {o : Int} {pc' : Nat} (hd : decode c.code pc = .ok (.ifnull o, 3)) (ho : 0 ≤ (pc : Int) + o) (hp : ((pc : Int) + o).toNat = pc') (k : Wq p e below En Q (T.setTop (mkF m pc' ls st))) : Wq p e below En Q (T.setTop (mkF m pc ls (.null :: st))) := Wq.step (fun _ q => XS.ifnullYes X.here hx rfl rfl hd rfl ho hp q) k
theorem Ow.ifnullNo (X : Stand p l e R s m args below meth c T locs cells slots) (hx : p.tables.exec = Jvm.exec) {pc : Nat} {ls : Array Slot} {st : List Value} {pc' : Nat} {o : Int} {b : Addr} (hd : decode c.code pc = .ok (.ifnull o, 3))  (k : Wq p e below En Q (T.setTop (mkF m pc' ls st))) (hpc : pc + 3 = pc' := by rfl) : Wq p e below En Q (T.setTop (mkF m pc ls (.ref b :: st))) := by subst hpc; exact Wq.step (fun _ q => XS.ifnullNo X.here hx rfl hd rfl q) k
theorem Ow.ifnonnullYes (X : Stand p l e R s m args below meth c T locs cells slots) (hx : p.tables.exec = Jvm.exec) {pc : Nat} {ls : Array Slot} {st : List Value} {o : Int} {b : Addr} {pc' : Nat} (hd : decode c.code pc = .ok (.ifnonnull o, 3)) (ho : 0 ≤ (pc : Int) + o) (hp : ((pc : Int) + o).toNat = pc') (k : Wq p e below En Q (T.setTop (mkF m pc' ls st))) : Wq p e below En Q (T.setTop (mkF m pc ls (.ref b :: st))) := Wq.step (fun _ q => XS.ifnonnullYes X.here hx rfl rfl hd rfl ho hp q) k
theorem Ow.ifnonnullNo (X : Stand p l e R s m args below meth c T locs cells slots) (hx : p.tables.exec = Jvm.exec) {pc : Nat} {ls : Array Slot} {st : List Value} {pc' : Nat} {o : Int} (hd : decode c.code pc = .ok (.ifnonnull o, 3))  (k : Wq p e below En Q (T.setTop (mkF m pc' ls st))) (hpc : pc + 3 = pc' := by rfl) : Wq p e below En Q (T.setTop (mkF m pc ls (.null :: st))) := by subst hpc; exact Wq.step (fun _ q => XS.ifnonnullNo X.here hx rfl hd rfl q) k
theorem Ow.acmp (X : Stand p l e R s m args below meth c T locs cells slots) (hx : p.tables.exec = Jvm.exec) {pc : Nat} {ls : Array Slot} {st : List Value} {cd : ACond} {x y : Value} {o : Int} {pc' : Nat} {same : Bool} (hd : decode c.code pc = .ok (.if_acmp cd o, 3)) (h1 : x.isRef = true) (h2 : y.isRef = true) (hq : decide (x = y) = same) (ho : 0 ≤ (pc : Int) + o) (hp : pc' = if acV cd same = true then ((pc : Int) + o).toNat else pc + 3) (k : Wq p e below En Q (T.setTop (mkF m pc' ls st))) : Wq p e below En Q (T.setTop (mkF m pc ls (y :: x :: st))) := Wq.step (fun _ q => Jvm.RoadKit.acmp (g := mkF m pc ls (y :: x :: st)) X hx rfl h1 h2 rfl hd rfl hq ho hp q) k
theorem Ow.ldcInt (X : Stand p l e R s m args below meth c T locs cells slots) (hx : p.tables.exec = Jvm.exec) (hZ : Z.Warmed39 s.vm) {a0 : Array Value} {own : String} {index : Nat} {v : Int32} {pc pc' : Nat} {ls : Array Slot} {st : List Value} (hown : s.vm.findClass own = some m.cls) (w : (Cond.constant own index v).before a0 Z = true) (hd : decode c.code pc = .ok (.ldc index, 2)) (k : Wq p e below En Q (T.setTop (mkF m pc' ls (.int v :: st)))) (hpc : pc + 2 = pc' := by rfl) : Wq p e below En Q (T.setTop (mkF m pc ls st)) := by subst hpc; exact Wq.step (fun _ q => X.ldcInt hx hown (mvT hZ w) (g := mkF m pc ls st) rfl hd _ q) k
theorem Ow.ldcwInt (X : Stand p l e R s m args below meth c T locs cells slots) (hx : p.tables.exec = Jvm.exec) (hZ : Z.Warmed39 s.vm) {a0 : Array Value} {own : String} {index : Nat} {v : Int32} {pc pc' : Nat} {ls : Array Slot} {st : List Value} (hown : s.vm.findClass own = some m.cls) (w : (Cond.constant own index v).before a0 Z = true) (hd : decode c.code pc = .ok (.ldc_w index, 3)) (k : Wq p e below En Q (T.setTop (mkF m pc' ls (.int v :: st)))) (hpc : pc + 3 = pc' := by rfl) : Wq p e below En Q (T.setTop (mkF m pc ls st)) := by subst hpc; exact Wq.step (fun _ q => X.ldcwInt hx hown (mvT hZ w) (g := mkF m pc ls st) rfl hd _ q) k
theorem Ow.ldc2Long (X : Stand p l e R s m args below meth c T locs cells slots) (hx : p.tables.exec = Jvm.exec) (hZ : Z.Warmed39 s.vm) {a0 : Array Value} {own : String} {index : Nat} {v : Int64} {pc pc' : Nat} {ls : Array Slot} {st : List Value} (hown : s.vm.findClass own = some m.cls) (w : (Cond.constantLong own index v).before a0 Z = true) (hd : decode c.code pc = .ok (.ldc2_w index, 3)) (k : Wq p e below En Q (T.setTop (mkF m pc' ls (.long v :: st)))) (hpc : pc + 3 = pc' := by rfl) : Wq p e below En Q (T.setTop (mkF m pc ls st)) := by subst hpc; exact Wq.step (fun _ q => X.ldc2Long hx hown (mvT hZ w) (g := mkF m pc ls st) rfl hd _ q) k
theorem Ow.ldI (X : Stand p l e R s m args below meth c T locs cells slots) (hx : p.tables.exec = Jvm.exec) (hZ : Z.Warmed39 s.vm) (eT : T.heap = h) (V : Al Z h a .int vs) {pc pc' : Nat} {ls : Array Slot} {st : List Value} {j : Int32} {i : Nat} (hd : decode c.code pc = .ok (.iaload, 1)) (hj : ¬ j < 0) (hi : j.toNatClampNeg = i) (hv : vs[i]? = some v) (k : Wq p e below En Q (T.setTop (mkF m pc' ls (v :: st)))) (hpc : pc + 1 = pc' := by rfl) : Wq p e below En Q (T.setTop (mkF m pc ls (.int j :: .ref a :: st))) := by subst hpc; exact Wq.step (fun _ q => Jvm.OwnW.ldI X hx hZ eT V hj hi hv (g := mkF m pc ls (.int j :: .ref a :: st)) rfl rfl hd q) k
theorem Ow.ldJ (X : Stand p l e R s m args below meth c T locs cells slots) (hx : p.tables.exec = Jvm.exec) (hZ : Z.Warmed39 s.vm) (eT : T.heap = h) (V : Al Z h a .long vs) {pc pc' : Nat} {ls : Array Slot} {st : List Value} {j : Int32} {i : Nat} (hd : decode c.code pc = .ok (.laload, 1)) (hj : ¬ j < 0) (hi : j.toNatClampNeg = i) (hv : vs[i]? = some v) (k : Wq p e below En Q (T.setTop (mkF m pc' ls (v :: st)))) (hpc : pc + 1 = pc' := by rfl) : Wq p e below En Q (T.setTop (mkF m pc ls (.int j :: .ref a :: st))) := by subst hpc; exact Wq.step (fun _ q => Jvm.OwnW.ldJ X hx hZ eT V hj hi hv (g := mkF m pc ls (.int j :: .ref a :: st)) rfl rfl hd q) k
theorem Ow.ldC (X : Stand p l e R s m args below meth c T locs cells slots) (hx : p.tables.exec = Jvm.exec) (hZ : Z.Warmed39 s.vm) (eT : T.heap = h) (V : Al Z h a .char vs) {pc pc' : Nat} {ls : Array Slot} {st : List Value} {j : Int32} {i : Nat} (hd : decode c.code pc = .ok (.caload, 1)) (hj : ¬ j < 0) (hi : j.toNatClampNeg = i) (hv : vs[i]? = some v) (k : Wq p e below En Q (T.setTop (mkF m pc' ls (v :: st)))) (hpc : pc + 1 = pc' := by rfl) : Wq p e below En Q (T.setTop (mkF m pc ls (.int j :: .ref a :: st))) := by subst hpc; exact Wq.step (fun _ q => Jvm.OwnW.ldC X hx hZ eT V hj hi hv (g := mkF m pc ls (.int j :: .ref a :: st)) rfl rfl hd q) k
theorem Ow.ldB (X : Stand p l e R s m args below meth c T locs cells slots) (hx : p.tables.exec = Jvm.exec) (hZ : Z.Warmed39 s.vm) (eT : T.heap = h) (V : Al Z h a .byte vs) {pc pc' : Nat} {ls : Array Slot} {st : List Value} {j : Int32} {i : Nat} (hd : decode c.code pc = .ok (.baload, 1)) (hj : ¬ j < 0) (hi : j.toNatClampNeg = i) (hv : vs[i]? = some v) (k : Wq p e below En Q (T.setTop (mkF m pc' ls (v :: st)))) (hpc : pc + 1 = pc' := by rfl) : Wq p e below En Q (T.setTop (mkF m pc ls (.int j :: .ref a :: st))) := by subst hpc; exact Wq.step (fun _ q => Jvm.OwnW.ldB X hx hZ eT V hj hi hv (g := mkF m pc ls (.int j :: .ref a :: st)) rfl rfl hd q) k
theorem Ow.ldZ (X : Stand p l e R s m args below meth c T locs cells slots) (hx : p.tables.exec = Jvm.exec) (hZ : Z.Warmed39 s.vm) (eT : T.heap = h) (V : Al Z h a .boolean vs) {pc pc' : Nat} {ls : Array Slot} {st : List Value} {j : Int32} {i : Nat} (hd : decode c.code pc = .ok (.baload, 1)) (hj : ¬ j < 0) (hi : j.toNatClampNeg = i) (hv : vs[i]? = some v) (k : Wq p e below En Q (T.setTop (mkF m pc' ls (v :: st)))) (hpc : pc + 1 = pc' := by rfl) : Wq p e below En Q (T.setTop (mkF m pc ls (.int j :: .ref a :: st))) := by subst hpc; exact Wq.step (fun _ q => Jvm.OwnW.ldZ X hx hZ eT V hj hi hv (g := mkF m pc ls (.int j :: .ref a :: st)) rfl rfl hd q) k
theorem Ow.ldR (X : Stand p l e R s m args below meth c T locs cells slots) (hx : p.tables.exec = Jvm.exec) (hZ : Z.Warmed39 s.vm) (eT : T.heap = h) (V : Al Z h a ty vs) (hty : ty.isReference = true) {pc pc' : Nat} {ls : Array Slot} {st : List Value} {j : Int32} {i : Nat} (hd : decode c.code pc = .ok (.aaload, 1)) (hj : ¬ j < 0) (hi : j.toNatClampNeg = i) (hv : vs[i]? = some v) (k : Wq p e below En Q (T.setTop (mkF m pc' ls (v :: st)))) (hpc : pc + 1 = pc' := by rfl) : Wq p e below En Q (T.setTop (mkF m pc ls (.int j :: .ref a :: st))) := by
  subst hpc
  obtain ⟨cl, A, r⟩ := V
  exact Wq.step (fun _ q => X.aaload hx (by rw [eT]; exact A.1) (State.isArrayOf_alike hZ.alike A.2.1) hty A.2.2 (al_in r hj hi (al_lt hv)) (al_at r hi hv) (g := mkF m pc ls (.int j :: .ref a :: st)) rfl rfl hd _ q) k
theorem Ow.lenA (X : Stand p l e R s m args below meth c T locs cells slots) (hx : p.tables.exec = Jvm.exec) (hZ : Z.Warmed39 s.vm) (eT : T.heap = h) (V : Al Z h a ty vs) {pc pc' : Nat} {ls : Array Slot} {st : List Value} {n : Int32} (hd : decode c.code pc = .ok (.arraylength, 1)) (hn : vs.length.toInt32 = n) (k : Wq p e below En Q (T.setTop (mkF m pc' ls (.int n :: st)))) (hpc : pc + 1 = pc' := by rfl) : Wq p e below En Q (T.setTop (mkF m pc ls (.ref a :: st))) := by subst hpc; exact Wq.step (fun _ q => Jvm.OwnW.lenA X hx hZ eT V hn (g := mkF m pc ls (.ref a :: st)) rfl rfl hd q) k
end Base
end Jvm.OwnW
namespace Jvm.Pilot.@@N@@
open Jvm Jvm.ClassFile Sem Op Lib Jvm.Free Jvm.Stand Jvm.LawKit Jvm.RoadKit Jvm.OwnW Bundle Jvm.Pilot.@@N@@.Jvm.D
theorem d_prog_4_method_3_0 : decode prog_4_method_3_code 0 = .ok (.iload_n 0, 1) := by decide +kernel
theorem d_prog_4_method_3_1 : decode prog_4_method_3_code 1 = .ok (.sipush 255, 3) := by decide +kernel
theorem d_prog_4_method_3_4 : decode prog_4_method_3_code 4 = .ok (.iand, 1) := by decide +kernel
theorem d_prog_4_method_3_5 : decode prog_4_method_3_code 5 = .ok (.istore_n 1, 1) := by decide +kernel
theorem d_prog_4_method_3_6 : decode prog_4_method_3_code 6 = .ok (.iload_n 1, 1) := by decide +kernel
theorem d_prog_4_method_3_7 : decode prog_4_method_3_code 7 = .ok (.sipush 128, 3) := by decide +kernel
theorem d_prog_4_method_3_10 : decode prog_4_method_3_code 10 = .ok (.if_icmp .gt 7, 3) := by decide +kernel
theorem d_prog_4_method_3_13 : decode prog_4_method_3_code 13 = .ok (.iconst 1, 1) := by decide +kernel
theorem d_prog_4_method_3_14 : decode prog_4_method_3_code 14 = .ok (.goto 10, 3) := by decide +kernel
theorem d_prog_4_method_3_17 : decode prog_4_method_3_code 17 = .ok (.iconst 1, 1) := by decide +kernel
theorem d_prog_4_method_3_18 : decode prog_4_method_3_code 18 = .ok (.iload_n 1, 1) := by decide +kernel
theorem d_prog_4_method_3_19 : decode prog_4_method_3_code 19 = .ok (.iadd, 1) := by decide +kernel
theorem d_prog_4_method_3_20 : decode prog_4_method_3_code 20 = .ok (.sipush 128, 3) := by decide +kernel
theorem d_prog_4_method_3_23 : decode prog_4_method_3_code 23 = .ok (.isub, 1) := by decide +kernel
theorem pn1 : plainName "com/example/opwire/opwire/codec/ber/BerLength" = true := by first | (simp [plainName, overriddenIn]; done) | decide +kernel
theorem ef_ds (m : MethodId) (xds_1 : Int32) : entryFrame m #[(.int xds_1)] 2 = mkF m 0 #[.val (.int xds_1), .unset] [] := by first | (simp [entryFrame, mkF, argsToLocals, Value.category]; done) | rfl
def f_ds (xds_1 : Int32) : Int32 := (if (128 : Int32) < (xds_1 &&& (255 : Int32)) then (((1 : Int32) + (xds_1 &&& (255 : Int32))) - (128 : Int32)) else (1 : Int32))
def Q_ds (Z : State) (xds_1 : Int32) (h0 : Heap) (n0 : Nat) (v : Option Value) (h : Heap) (L : List Loc) : Prop := v = some (.int (f_ds xds_1)) ∧ Fr n0 L ∧ h = h0
theorem d_prog_4_method_3_24 : decode prog_4_method_3_code 24 = .ok (.ireturn, 1) := by decide +kernel
abbrev mt1 : MethodName := ⟨"com/example/opwire/opwire/codec/ber/BerLength", "decodedSize", "(B)I"⟩
set_option maxRecDepth 65536 in
set_option maxHeartbeats 40000000 in
theorem rm_ds (l : Launch) (Z : State) (a0 : Array Value) (hw : ∀ d ∈ tables_1, d.before a0 Z = true) (ws : List Jvm.Cond) (xds_1 : Int32) (h0 : Heap) (n0 : Nat) (Z0 : n0 ≤ h0.size)  :
    MetFree l mt1 (head1 (Jvm.Cond.code mt1 prog_4_method_3_code 2 (some .int) :: ws) ({ frames := 0, cells := 0, slots := 0, locals := 0 } : Room)) (fun a U => a = #[(.int xds_1)] ∧ Z.Warmed39 U.vm ∧ U.heap = h0) (fun _ _ _ _ _ => True) (fun _ U o U' => ∃ v L, o = .returned v ∧ (Q_ds Z xds_1 h0 n0) v U'.heap L ∧ FrameEnd U o U' L ({ frames := 0, cells := 0, slots := 0, locals := 0 } : Room).cells ({ frames := 0, cells := 0, slots := 0, locals := 0 } : Room).slots) := by
  refine MetFree.of_bodySF (plainFor_of_name pn1) hisR ?_
  intro p e s m args below meth c s₁ Bd hml0 hP hK
  obtain ⟨rfl, hZ, hh⟩ := hP
  have hx := Bd.exec
  have hby := Bd.bytes
  have hml : c.maxLocals = 2 := hml0
  have hown : s.vm.findClass "com/example/opwire/opwire/codec/ber/BerLength" = some m.cls := findClass_of_methodNamed Bd.named
  have hnm := (name_of_methodNamed Bd.named Bd.method).1
  have X0 : Stand p l e ({ frames := 0, cells := 0, slots := 0, locals := 0 } : Room) s m #[(.int xds_1)] below meth c s₁ [] 0 0 := Stand.of_body Bd
  have e0 : s₁.heap = h0 := by rw [← hh, Bd.state]; rfl
  have N0 := Fr.nil n0
  refine Wq.step (p := p) (e := e) (below := below) (En := (fun o t L => FrameEnd s o t L ({ frames := 0, cells := 0, slots := 0, locals := 0 } : Room).cells ({ frames := 0, cells := 0, slots := 0, locals := 0 } : Room).slots)) (Q := (Q_ds Z xds_1 h0 n0)) (fun t k => castTop (ef_ds m xds_1) k) ?_
  show Wq _ _ _ _ _ (s₁.setTop (mkF m 0 #[.val (.int xds_1), .unset] []))
  refine Ow.iloadN X0 hx (pc' := 1) (hb hby d_prog_4_method_3_0) rfl ?_
  refine Ow.sipush X0 hx (pc' := 4) (hb hby d_prog_4_method_3_1) (z := (255 : Int32)) rfl ?_
  refine Ow.iand X0 hx (pc' := 5) (hb hby d_prog_4_method_3_4) (z := (xds_1 &&& (255 : Int32))) rfl ?_
  refine Ow.istoreN X0 hx (pc' := 6) (hb hby d_prog_4_method_3_5) (l' := #[.val (.int xds_1), .val (.int (xds_1 &&& (255 : Int32)))]) rfl ?_
  refine Ow.iloadN X0 hx (pc' := 7) (hb hby d_prog_4_method_3_6) rfl ?_
  refine Ow.sipush X0 hx (pc' := 10) (hb hby d_prog_4_method_3_7) (z := (128 : Int32)) rfl ?_
  refine Wq.by (U' := s₁.setTop (mkF m 24 #[.val (.int xds_1), .val (.int (xds_1 &&& (255 : Int32)))] [(.int (if (128 : Int32) < (xds_1 &&& (255 : Int32)) then (((1 : Int32) + (xds_1 &&& (255 : Int32))) - (128 : Int32)) else (1 : Int32)))])) (fun k => ?_) ?_
  · skip
    by_cases hm10 : (128 : Int32) < (xds_1 &&& (255 : Int32))
    · skip
      refine Ow.icmpYes X0 hx (pc' := 17) (hb hby d_prog_4_method_3_10) (tlt hm10).2.2.1 (by decide) (by decide) ?_
      refine Ow.iconst X0 hx (pc' := 18) (hb hby d_prog_4_method_3_17) (z := (1 : Int32)) rfl ?_
      refine Ow.iloadN X0 hx (pc' := 19) (hb hby d_prog_4_method_3_18) rfl ?_
      refine Ow.iadd X0 hx (pc' := 20) (hb hby d_prog_4_method_3_19) (z := ((1 : Int32) + (xds_1 &&& (255 : Int32)))) rfl ?_
      refine Ow.sipush X0 hx (pc' := 23) (hb hby d_prog_4_method_3_20) (z := (128 : Int32)) rfl ?_
      refine Ow.isub X0 hx (pc' := 24) (hb hby d_prog_4_method_3_23) (z := (((1 : Int32) + (xds_1 &&& (255 : Int32))) - (128 : Int32))) rfl ?_
      simp only [if_pos hm10] at k
      exact k
    · skip
      refine Ow.icmpNo X0 hx (pc' := 13) (hb hby d_prog_4_method_3_10) (flt hm10).2.2.1 ?_
      refine Ow.iconst X0 hx (pc' := 14) (hb hby d_prog_4_method_3_13) (z := (1 : Int32)) rfl ?_
      refine Ow.goto X0 hx (pc' := 24) (hb hby d_prog_4_method_3_14) (by decide) (by decide) ?_
      simp only [if_neg hm10] at k
      exact k
  exact Wq.ret X0 (BodyLoose.notSynchronized Bd) (rv := some (.int (if (128 : Int32) < (xds_1 &&& (255 : Int32)) then (((1 : Int32) + (xds_1 &&& (255 : Int32))) - (128 : Int32)) else (1 : Int32)))) (fun h => by rw [Bd.returns] at h; cases h) (fun _ hr => retOut X0 hx Bd.returns rfl (Or.inl ⟨rfl, Or.inl rfl, _, rfl⟩) (hb hby d_prog_4_method_3_24) hr) (by decide) (by decide) ⟨rfl, N0, e0⟩
theorem kw24 {Z : State} {a0 : Array Value} (hw : ∀ d ∈ tables_1, d.before a0 Z = true) : (Jvm.Cond.constant "java/lang/Integer" (264 : Nat) (65536 : Int32)).before a0 Z = true := hw _ (List.mem_of_getElem? (i := 24) rfl)
theorem d_jdk_33_method_47_0 : decode jdk_33_method_47_code 0 = .ok (.iload_n 0, 1) := by decide +kernel
theorem d_jdk_33_method_47_1 : decode jdk_33_method_47_code 1 = .ok (.ifCond .gt 14, 3) := by decide +kernel
theorem d_jdk_33_method_47_15 : decode jdk_33_method_47_code 15 = .ok (.bipush 31, 2) := by decide +kernel
theorem d_jdk_33_method_47_17 : decode jdk_33_method_47_code 17 = .ok (.istore_n 1, 1) := by decide +kernel
theorem d_jdk_33_method_47_18 : decode jdk_33_method_47_code 18 = .ok (.iload_n 0, 1) := by decide +kernel
theorem d_jdk_33_method_47_19 : decode jdk_33_method_47_code 19 = .ok (.ldc_w 264, 3) := by decide +kernel
theorem d_jdk_33_method_47_22 : decode jdk_33_method_47_code 22 = .ok (.if_icmp .lt 11, 3) := by decide +kernel
theorem d_jdk_33_method_47_25 : decode jdk_33_method_47_code 25 = .ok (.iinc 1 (-16), 3) := by decide +kernel
theorem d_jdk_33_method_47_28 : decode jdk_33_method_47_code 28 = .ok (.iload_n 0, 1) := by decide +kernel
theorem d_jdk_33_method_47_29 : decode jdk_33_method_47_code 29 = .ok (.bipush 16, 2) := by decide +kernel
theorem d_jdk_33_method_47_31 : decode jdk_33_method_47_code 31 = .ok (.iushr, 1) := by decide +kernel
theorem d_jdk_33_method_47_32 : decode jdk_33_method_47_code 32 = .ok (.istore_n 0, 1) := by decide +kernel
theorem d_jdk_33_method_47_33 : decode jdk_33_method_47_code 33 = .ok (.iload_n 0, 1) := by decide +kernel
theorem d_jdk_33_method_47_34 : decode jdk_33_method_47_code 34 = .ok (.sipush 256, 3) := by decide +kernel
theorem d_jdk_33_method_47_37 : decode jdk_33_method_47_code 37 = .ok (.if_icmp .lt 11, 3) := by decide +kernel
theorem d_jdk_33_method_47_40 : decode jdk_33_method_47_code 40 = .ok (.iinc 1 (-8), 3) := by decide +kernel
theorem d_jdk_33_method_47_43 : decode jdk_33_method_47_code 43 = .ok (.iload_n 0, 1) := by decide +kernel
theorem d_jdk_33_method_47_44 : decode jdk_33_method_47_code 44 = .ok (.bipush 8, 2) := by decide +kernel
theorem d_jdk_33_method_47_46 : decode jdk_33_method_47_code 46 = .ok (.iushr, 1) := by decide +kernel
theorem d_jdk_33_method_47_47 : decode jdk_33_method_47_code 47 = .ok (.istore_n 0, 1) := by decide +kernel
theorem d_jdk_33_method_47_48 : decode jdk_33_method_47_code 48 = .ok (.iload_n 0, 1) := by decide +kernel
theorem d_jdk_33_method_47_49 : decode jdk_33_method_47_code 49 = .ok (.bipush 16, 2) := by decide +kernel
theorem d_jdk_33_method_47_51 : decode jdk_33_method_47_code 51 = .ok (.if_icmp .lt 10, 3) := by decide +kernel
theorem d_jdk_33_method_47_54 : decode jdk_33_method_47_code 54 = .ok (.iinc 1 (-4), 3) := by decide +kernel
theorem d_jdk_33_method_47_57 : decode jdk_33_method_47_code 57 = .ok (.iload_n 0, 1) := by decide +kernel
theorem d_jdk_33_method_47_58 : decode jdk_33_method_47_code 58 = .ok (.iconst 4, 1) := by decide +kernel
theorem d_jdk_33_method_47_59 : decode jdk_33_method_47_code 59 = .ok (.iushr, 1) := by decide +kernel
theorem d_jdk_33_method_47_60 : decode jdk_33_method_47_code 60 = .ok (.istore_n 0, 1) := by decide +kernel
theorem d_jdk_33_method_47_61 : decode jdk_33_method_47_code 61 = .ok (.iload_n 0, 1) := by decide +kernel
theorem d_jdk_33_method_47_62 : decode jdk_33_method_47_code 62 = .ok (.iconst 4, 1) := by decide +kernel
theorem d_jdk_33_method_47_63 : decode jdk_33_method_47_code 63 = .ok (.if_icmp .lt 10, 3) := by decide +kernel
theorem d_jdk_33_method_47_66 : decode jdk_33_method_47_code 66 = .ok (.iinc 1 (-2), 3) := by decide +kernel
theorem d_jdk_33_method_47_69 : decode jdk_33_method_47_code 69 = .ok (.iload_n 0, 1) := by decide +kernel
theorem d_jdk_33_method_47_70 : decode jdk_33_method_47_code 70 = .ok (.iconst 2, 1) := by decide +kernel
theorem d_jdk_33_method_47_71 : decode jdk_33_method_47_code 71 = .ok (.iushr, 1) := by decide +kernel
theorem d_jdk_33_method_47_72 : decode jdk_33_method_47_code 72 = .ok (.istore_n 0, 1) := by decide +kernel
theorem d_jdk_33_method_47_73 : decode jdk_33_method_47_code 73 = .ok (.iload_n 1, 1) := by decide +kernel
theorem d_jdk_33_method_47_74 : decode jdk_33_method_47_code 74 = .ok (.iload_n 0, 1) := by decide +kernel
theorem d_jdk_33_method_47_75 : decode jdk_33_method_47_code 75 = .ok (.iconst 1, 1) := by decide +kernel
theorem d_jdk_33_method_47_76 : decode jdk_33_method_47_code 76 = .ok (.iushr, 1) := by decide +kernel
theorem d_jdk_33_method_47_77 : decode jdk_33_method_47_code 77 = .ok (.isub, 1) := by decide +kernel
theorem pn2 : plainName "java/lang/Integer" = true := by first | (simp [plainName, overriddenIn]; done) | decide +kernel
theorem ef_nlz (m : MethodId) (xnlz_1 : Int32) : entryFrame m #[(.int xnlz_1)] 2 = mkF m 0 #[.val (.int xnlz_1), .unset] [] := by first | (simp [entryFrame, mkF, argsToLocals, Value.category]; done) | rfl
def f_nlz (xnlz_1 : Int32) : Int32 := (if xnlz_1 < (65536 : Int32) then (if xnlz_1 < (256 : Int32) then (if xnlz_1 < (16 : Int32) then (if xnlz_1 < (4 : Int32) then ((31 : Int32) - ((xnlz_1.toUInt32 >>> ((1 : Int32) &&& 31).toUInt32).toInt32)) else ((29 : Int32) - ((((xnlz_1.toUInt32 >>> ((2 : Int32) &&& 31).toUInt32).toInt32).toUInt32 >>> ((1 : Int32) &&& 31).toUInt32).toInt32))) else (if ((xnlz_1.toUInt32 >>> ((4 : Int32) &&& 31).toUInt32).toInt32) < (4 : Int32) then ((27 : Int32) - ((((xnlz_1.toUInt32 >>> ((4 : Int32) &&& 31).toUInt32).toInt32).toUInt32 >>> ((1 : Int32) &&& 31).toUInt32).toInt32)) else ((25 : Int32) - ((((((xnlz_1.toUInt32 >>> ((4 : Int32) &&& 31).toUInt32).toInt32).toUInt32 >>> ((2 : Int32) &&& 31).toUInt32).toInt32).toUInt32 >>> ((1 : Int32) &&& 31).toUInt32).toInt32)))) else (if ((xnlz_1.toUInt32 >>> ((8 : Int32) &&& 31).toUInt32).toInt32) < (16 : Int32) then (if ((xnlz_1.toUInt32 >>> ((8 : Int32) &&& 31).toUInt32).toInt32) < (4 : Int32) then ((23 : Int32) - ((((xnlz_1.toUInt32 >>> ((8 : Int32) &&& 31).toUInt32).toInt32).toUInt32 >>> ((1 : Int32) &&& 31).toUInt32).toInt32)) else ((21 : Int32) - ((((((xnlz_1.toUInt32 >>> ((8 : Int32) &&& 31).toUInt32).toInt32).toUInt32 >>> ((2 : Int32) &&& 31).toUInt32).toInt32).toUInt32 >>> ((1 : Int32) &&& 31).toUInt32).toInt32))) else (if ((((xnlz_1.toUInt32 >>> ((8 : Int32) &&& 31).toUInt32).toInt32).toUInt32 >>> ((4 : Int32) &&& 31).toUInt32).toInt32) < (4 : Int32) then ((19 : Int32) - ((((((xnlz_1.toUInt32 >>> ((8 : Int32) &&& 31).toUInt32).toInt32).toUInt32 >>> ((4 : Int32) &&& 31).toUInt32).toInt32).toUInt32 >>> ((1 : Int32) &&& 31).toUInt32).toInt32)) else ((17 : Int32) - ((((((((xnlz_1.toUInt32 >>> ((8 : Int32) &&& 31).toUInt32).toInt32).toUInt32 >>> ((4 : Int32) &&& 31).toUInt32).toInt32).toUInt32 >>> ((2 : Int32) &&& 31).toUInt32).toInt32).toUInt32 >>> ((1 : Int32) &&& 31).toUInt32).toInt32))))) else (if ((xnlz_1.toUInt32 >>> ((16 : Int32) &&& 31).toUInt32).toInt32) < (256 : Int32) then (if ((xnlz_1.toUInt32 >>> ((16 : Int32) &&& 31).toUInt32).toInt32) < (16 : Int32) then (if ((xnlz_1.toUInt32 >>> ((16 : Int32) &&& 31).toUInt32).toInt32) < (4 : Int32) then ((15 : Int32) - ((((xnlz_1.toUInt32 >>> ((16 : Int32) &&& 31).toUInt32).toInt32).toUInt32 >>> ((1 : Int32) &&& 31).toUInt32).toInt32)) else ((13 : Int32) - ((((((xnlz_1.toUInt32 >>> ((16 : Int32) &&& 31).toUInt32).toInt32).toUInt32 >>> ((2 : Int32) &&& 31).toUInt32).toInt32).toUInt32 >>> ((1 : Int32) &&& 31).toUInt32).toInt32))) else (if ((((xnlz_1.toUInt32 >>> ((16 : Int32) &&& 31).toUInt32).toInt32).toUInt32 >>> ((4 : Int32) &&& 31).toUInt32).toInt32) < (4 : Int32) then ((11 : Int32) - ((((((xnlz_1.toUInt32 >>> ((16 : Int32) &&& 31).toUInt32).toInt32).toUInt32 >>> ((4 : Int32) &&& 31).toUInt32).toInt32).toUInt32 >>> ((1 : Int32) &&& 31).toUInt32).toInt32)) else ((9 : Int32) - ((((((((xnlz_1.toUInt32 >>> ((16 : Int32) &&& 31).toUInt32).toInt32).toUInt32 >>> ((4 : Int32) &&& 31).toUInt32).toInt32).toUInt32 >>> ((2 : Int32) &&& 31).toUInt32).toInt32).toUInt32 >>> ((1 : Int32) &&& 31).toUInt32).toInt32)))) else (if ((((xnlz_1.toUInt32 >>> ((16 : Int32) &&& 31).toUInt32).toInt32).toUInt32 >>> ((8 : Int32) &&& 31).toUInt32).toInt32) < (16 : Int32) then (if ((((xnlz_1.toUInt32 >>> ((16 : Int32) &&& 31).toUInt32).toInt32).toUInt32 >>> ((8 : Int32) &&& 31).toUInt32).toInt32) < (4 : Int32) then ((7 : Int32) - ((((((xnlz_1.toUInt32 >>> ((16 : Int32) &&& 31).toUInt32).toInt32).toUInt32 >>> ((8 : Int32) &&& 31).toUInt32).toInt32).toUInt32 >>> ((1 : Int32) &&& 31).toUInt32).toInt32)) else ((5 : Int32) - ((((((((xnlz_1.toUInt32 >>> ((16 : Int32) &&& 31).toUInt32).toInt32).toUInt32 >>> ((8 : Int32) &&& 31).toUInt32).toInt32).toUInt32 >>> ((2 : Int32) &&& 31).toUInt32).toInt32).toUInt32 >>> ((1 : Int32) &&& 31).toUInt32).toInt32))) else (if ((((((xnlz_1.toUInt32 >>> ((16 : Int32) &&& 31).toUInt32).toInt32).toUInt32 >>> ((8 : Int32) &&& 31).toUInt32).toInt32).toUInt32 >>> ((4 : Int32) &&& 31).toUInt32).toInt32) < (4 : Int32) then ((3 : Int32) - ((((((((xnlz_1.toUInt32 >>> ((16 : Int32) &&& 31).toUInt32).toInt32).toUInt32 >>> ((8 : Int32) &&& 31).toUInt32).toInt32).toUInt32 >>> ((4 : Int32) &&& 31).toUInt32).toInt32).toUInt32 >>> ((1 : Int32) &&& 31).toUInt32).toInt32)) else ((1 : Int32) - ((((((((((xnlz_1.toUInt32 >>> ((16 : Int32) &&& 31).toUInt32).toInt32).toUInt32 >>> ((8 : Int32) &&& 31).toUInt32).toInt32).toUInt32 >>> ((4 : Int32) &&& 31).toUInt32).toInt32).toUInt32 >>> ((2 : Int32) &&& 31).toUInt32).toInt32).toUInt32 >>> ((1 : Int32) &&& 31).toUInt32).toInt32))))))
def Q_nlz (Z : State) (xnlz_1 : Int32) (h0 : Heap) (n0 : Nat) (v : Option Value) (h : Heap) (L : List Loc) : Prop := v = some (.int (f_nlz xnlz_1)) ∧ Fr n0 L ∧ h = h0
theorem d_jdk_33_method_47_78 : decode jdk_33_method_47_code 78 = .ok (.ireturn, 1) := by decide +kernel
abbrev mt2 : MethodName := ⟨"java/lang/Integer", "numberOfLeadingZeros", "(I)I"⟩
set_option maxRecDepth 65536 in
set_option maxHeartbeats 40000000 in
theorem rm_nlz (l : Launch) (Z : State) (a0 : Array Value) (hw : ∀ d ∈ tables_1, d.before a0 Z = true) (ws : List Jvm.Cond) (xnlz_1 : Int32) (h0 : Heap) (n0 : Nat) (Z0 : n0 ≤ h0.size) (hc1 : (0 : Int32) < xnlz_1) :
    MetFree l mt2 (head1 (Jvm.Cond.code mt2 jdk_33_method_47_code 2 (some .int) :: ws) ({ frames := 0, cells := 0, slots := 0, locals := 0 } : Room)) (fun a U => a = #[(.int xnlz_1)] ∧ Z.Warmed39 U.vm ∧ U.heap = h0) (fun _ _ _ _ _ => True) (fun _ U o U' => ∃ v L, o = .returned v ∧ (Q_nlz Z xnlz_1 h0 n0) v U'.heap L ∧ FrameEnd U o U' L ({ frames := 0, cells := 0, slots := 0, locals := 0 } : Room).cells ({ frames := 0, cells := 0, slots := 0, locals := 0 } : Room).slots) := by
  refine MetFree.of_bodySF (plainFor_of_name pn2) hisR ?_
  intro p e s m args below meth c s₁ Bd hml0 hP hK
  obtain ⟨rfl, hZ, hh⟩ := hP
  have hx := Bd.exec
  have hby := Bd.bytes
  have hml : c.maxLocals = 2 := hml0
  have hown : s.vm.findClass "java/lang/Integer" = some m.cls := findClass_of_methodNamed Bd.named
  have hnm := (name_of_methodNamed Bd.named Bd.method).1
  have X0 : Stand p l e ({ frames := 0, cells := 0, slots := 0, locals := 0 } : Room) s m #[(.int xnlz_1)] below meth c s₁ [] 0 0 := Stand.of_body Bd
  have e0 : s₁.heap = h0 := by rw [← hh, Bd.state]; rfl
  have N0 := Fr.nil n0
  refine Wq.step (p := p) (e := e) (below := below) (En := (fun o t L => FrameEnd s o t L ({ frames := 0, cells := 0, slots := 0, locals := 0 } : Room).cells ({ frames := 0, cells := 0, slots := 0, locals := 0 } : Room).slots)) (Q := (Q_nlz Z xnlz_1 h0 n0)) (fun t k => castTop (ef_nlz m xnlz_1) k) ?_
  show Wq _ _ _ _ _ (s₁.setTop (mkF m 0 #[.val (.int xnlz_1), .unset] []))
  refine Ow.iloadN X0 hx (pc' := 1) (hb hby d_jdk_33_method_47_0) rfl ?_
  refine Ow.ifYes X0 hx (pc' := 15) (hb hby d_jdk_33_method_47_1) ((if0 _ _).trans (tlt hc1).2.2.1) (by decide) (by decide) ?_
  refine Ow.bipush X0 hx (pc' := 17) (hb hby d_jdk_33_method_47_15) (z := (31 : Int32)) rfl ?_
  refine Ow.istoreN X0 hx (pc' := 18) (hb hby d_jdk_33_method_47_17) (l' := #[.val (.int xnlz_1), .val (.int (31 : Int32))]) rfl ?_
  refine Ow.iloadN X0 hx (pc' := 19) (hb hby d_jdk_33_method_47_18) rfl ?_
  refine Ow.ldcwInt X0 hx hZ (pc' := 22) hown (kw24 hw) (hb hby d_jdk_33_method_47_19) ?_
  by_cases hc22 : xnlz_1 < (65536 : Int32)
  · skip
    refine Ow.icmpYes X0 hx (pc' := 33) (hb hby d_jdk_33_method_47_22) (tlt hc22).1 (by decide) (by decide) ?_
    refine Ow.iloadN X0 hx (pc' := 34) (hb hby d_jdk_33_method_47_33) rfl ?_
    refine Ow.sipush X0 hx (pc' := 37) (hb hby d_jdk_33_method_47_34) (z := (256 : Int32)) rfl ?_
    by_cases hc37 : xnlz_1 < (256 : Int32)
    · skip
      refine Ow.icmpYes X0 hx (pc' := 48) (hb hby d_jdk_33_method_47_37) (tlt hc37).1 (by decide) (by decide) ?_
      refine Ow.iloadN X0 hx (pc' := 49) (hb hby d_jdk_33_method_47_48) rfl ?_
      refine Ow.bipush X0 hx (pc' := 51) (hb hby d_jdk_33_method_47_49) (z := (16 : Int32)) rfl ?_
      by_cases hc51 : xnlz_1 < (16 : Int32)
      · skip
        refine Ow.icmpYes X0 hx (pc' := 61) (hb hby d_jdk_33_method_47_51) (tlt hc51).1 (by decide) (by decide) ?_
        refine Ow.iloadN X0 hx (pc' := 62) (hb hby d_jdk_33_method_47_61) rfl ?_
        refine Ow.iconst X0 hx (pc' := 63) (hb hby d_jdk_33_method_47_62) (z := (4 : Int32)) rfl ?_
        by_cases hc63 : xnlz_1 < (4 : Int32)
        · skip
          refine Ow.icmpYes X0 hx (pc' := 73) (hb hby d_jdk_33_method_47_63) (tlt hc63).1 (by decide) (by decide) ?_
          refine Ow.iloadN X0 hx (pc' := 74) (hb hby d_jdk_33_method_47_73) rfl ?_
          refine Ow.iloadN X0 hx (pc' := 75) (hb hby d_jdk_33_method_47_74) rfl ?_
          refine Ow.iconst X0 hx (pc' := 76) (hb hby d_jdk_33_method_47_75) (z := (1 : Int32)) rfl ?_
          refine Ow.iushr X0 hx (pc' := 77) (hb hby d_jdk_33_method_47_76) (z := ((xnlz_1.toUInt32 >>> ((1 : Int32) &&& 31).toUInt32).toInt32)) rfl ?_
          refine Ow.isub X0 hx (pc' := 78) (hb hby d_jdk_33_method_47_77) (z := ((31 : Int32) - ((xnlz_1.toUInt32 >>> ((1 : Int32) &&& 31).toUInt32).toInt32))) rfl ?_
          exact Wq.ret X0 (BodyLoose.notSynchronized Bd) (rv := some (.int ((31 : Int32) - ((xnlz_1.toUInt32 >>> ((1 : Int32) &&& 31).toUInt32).toInt32)))) (fun h => by rw [Bd.returns] at h; cases h) (fun _ hr => retOut X0 hx Bd.returns rfl (Or.inl ⟨rfl, Or.inl rfl, _, rfl⟩) (hb hby d_jdk_33_method_47_78) hr) (by decide) (by decide) ⟨by simp only [f_nlz, if_pos hc22, if_pos hc37, if_pos hc51, if_pos hc63], N0, e0⟩
        · skip
          refine Ow.icmpNo X0 hx (pc' := 66) (hb hby d_jdk_33_method_47_63) (flt hc63).1 ?_
          refine Ow.iinc X0 hx (pc' := 69) (hb hby d_jdk_33_method_47_66) rfl (l' := #[.val (.int xnlz_1), .val (.int (29 : Int32))]) rfl ?_
          show Wq _ _ _ _ _ (s₁.setTop (mkF m 69 #[.val (.int xnlz_1), .val (.int (29 : Int32))] []))
          refine Ow.iloadN X0 hx (pc' := 70) (hb hby d_jdk_33_method_47_69) rfl ?_
          refine Ow.iconst X0 hx (pc' := 71) (hb hby d_jdk_33_method_47_70) (z := (2 : Int32)) rfl ?_
          refine Ow.iushr X0 hx (pc' := 72) (hb hby d_jdk_33_method_47_71) (z := ((xnlz_1.toUInt32 >>> ((2 : Int32) &&& 31).toUInt32).toInt32)) rfl ?_
          refine Ow.istoreN X0 hx (pc' := 73) (hb hby d_jdk_33_method_47_72) (l' := #[.val (.int ((xnlz_1.toUInt32 >>> ((2 : Int32) &&& 31).toUInt32).toInt32)), .val (.int (29 : Int32))]) rfl ?_
          refine Ow.iloadN X0 hx (pc' := 74) (hb hby d_jdk_33_method_47_73) rfl ?_
          refine Ow.iloadN X0 hx (pc' := 75) (hb hby d_jdk_33_method_47_74) rfl ?_
          refine Ow.iconst X0 hx (pc' := 76) (hb hby d_jdk_33_method_47_75) (z := (1 : Int32)) rfl ?_
          refine Ow.iushr X0 hx (pc' := 77) (hb hby d_jdk_33_method_47_76) (z := ((((xnlz_1.toUInt32 >>> ((2 : Int32) &&& 31).toUInt32).toInt32).toUInt32 >>> ((1 : Int32) &&& 31).toUInt32).toInt32)) rfl ?_
          refine Ow.isub X0 hx (pc' := 78) (hb hby d_jdk_33_method_47_77) (z := ((29 : Int32) - ((((xnlz_1.toUInt32 >>> ((2 : Int32) &&& 31).toUInt32).toInt32).toUInt32 >>> ((1 : Int32) &&& 31).toUInt32).toInt32))) rfl ?_
          exact Wq.ret X0 (BodyLoose.notSynchronized Bd) (rv := some (.int ((29 : Int32) - ((((xnlz_1.toUInt32 >>> ((2 : Int32) &&& 31).toUInt32).toInt32).toUInt32 >>> ((1 : Int32) &&& 31).toUInt32).toInt32)))) (fun h => by rw [Bd.returns] at h; cases h) (fun _ hr => retOut X0 hx Bd.returns rfl (Or.inl ⟨rfl, Or.inl rfl, _, rfl⟩) (hb hby d_jdk_33_method_47_78) hr) (by decide) (by decide) ⟨by simp only [f_nlz, if_pos hc22, if_pos hc37, if_pos hc51, if_neg hc63], N0, e0⟩
      · skip
        refine Ow.icmpNo X0 hx (pc' := 54) (hb hby d_jdk_33_method_47_51) (flt hc51).1 ?_
        refine Ow.iinc X0 hx (pc' := 57) (hb hby d_jdk_33_method_47_54) rfl (l' := #[.val (.int xnlz_1), .val (.int (27 : Int32))]) rfl ?_
        show Wq _ _ _ _ _ (s₁.setTop (mkF m 57 #[.val (.int xnlz_1), .val (.int (27 : Int32))] []))
        refine Ow.iloadN X0 hx (pc' := 58) (hb hby d_jdk_33_method_47_57) rfl ?_
        refine Ow.iconst X0 hx (pc' := 59) (hb hby d_jdk_33_method_47_58) (z := (4 : Int32)) rfl ?_
        refine Ow.iushr X0 hx (pc' := 60) (hb hby d_jdk_33_method_47_59) (z := ((xnlz_1.toUInt32 >>> ((4 : Int32) &&& 31).toUInt32).toInt32)) rfl ?_
        refine Ow.istoreN X0 hx (pc' := 61) (hb hby d_jdk_33_method_47_60) (l' := #[.val (.int ((xnlz_1.toUInt32 >>> ((4 : Int32) &&& 31).toUInt32).toInt32)), .val (.int (27 : Int32))]) rfl ?_
        refine Ow.iloadN X0 hx (pc' := 62) (hb hby d_jdk_33_method_47_61) rfl ?_
        refine Ow.iconst X0 hx (pc' := 63) (hb hby d_jdk_33_method_47_62) (z := (4 : Int32)) rfl ?_
        by_cases hc63 : ((xnlz_1.toUInt32 >>> ((4 : Int32) &&& 31).toUInt32).toInt32) < (4 : Int32)
        · skip
          refine Ow.icmpYes X0 hx (pc' := 73) (hb hby d_jdk_33_method_47_63) (tlt hc63).1 (by decide) (by decide) ?_
          refine Ow.iloadN X0 hx (pc' := 74) (hb hby d_jdk_33_method_47_73) rfl ?_
          refine Ow.iloadN X0 hx (pc' := 75) (hb hby d_jdk_33_method_47_74) rfl ?_
          refine Ow.iconst X0 hx (pc' := 76) (hb hby d_jdk_33_method_47_75) (z := (1 : Int32)) rfl ?_
          refine Ow.iushr X0 hx (pc' := 77) (hb hby d_jdk_33_method_47_76) (z := ((((xnlz_1.toUInt32 >>> ((4 : Int32) &&& 31).toUInt32).toInt32).toUInt32 >>> ((1 : Int32) &&& 31).toUInt32).toInt32)) rfl ?_
          refine Ow.isub X0 hx (pc' := 78) (hb hby d_jdk_33_method_47_77) (z := ((27 : Int32) - ((((xnlz_1.toUInt32 >>> ((4 : Int32) &&& 31).toUInt32).toInt32).toUInt32 >>> ((1 : Int32) &&& 31).toUInt32).toInt32))) rfl ?_
          exact Wq.ret X0 (BodyLoose.notSynchronized Bd) (rv := some (.int ((27 : Int32) - ((((xnlz_1.toUInt32 >>> ((4 : Int32) &&& 31).toUInt32).toInt32).toUInt32 >>> ((1 : Int32) &&& 31).toUInt32).toInt32)))) (fun h => by rw [Bd.returns] at h; cases h) (fun _ hr => retOut X0 hx Bd.returns rfl (Or.inl ⟨rfl, Or.inl rfl, _, rfl⟩) (hb hby d_jdk_33_method_47_78) hr) (by decide) (by decide) ⟨by simp only [f_nlz, if_pos hc22, if_pos hc37, if_neg hc51, if_pos hc63], N0, e0⟩
        · skip
          refine Ow.icmpNo X0 hx (pc' := 66) (hb hby d_jdk_33_method_47_63) (flt hc63).1 ?_
          refine Ow.iinc X0 hx (pc' := 69) (hb hby d_jdk_33_method_47_66) rfl (l' := #[.val (.int ((xnlz_1.toUInt32 >>> ((4 : Int32) &&& 31).toUInt32).toInt32)), .val (.int (25 : Int32))]) rfl ?_
          show Wq _ _ _ _ _ (s₁.setTop (mkF m 69 #[.val (.int ((xnlz_1.toUInt32 >>> ((4 : Int32) &&& 31).toUInt32).toInt32)), .val (.int (25 : Int32))] []))
          refine Ow.iloadN X0 hx (pc' := 70) (hb hby d_jdk_33_method_47_69) rfl ?_
          refine Ow.iconst X0 hx (pc' := 71) (hb hby d_jdk_33_method_47_70) (z := (2 : Int32)) rfl ?_
          refine Ow.iushr X0 hx (pc' := 72) (hb hby d_jdk_33_method_47_71) (z := ((((xnlz_1.toUInt32 >>> ((4 : Int32) &&& 31).toUInt32).toInt32).toUInt32 >>> ((2 : Int32) &&& 31).toUInt32).toInt32)) rfl ?_
          refine Ow.istoreN X0 hx (pc' := 73) (hb hby d_jdk_33_method_47_72) (l' := #[.val (.int ((((xnlz_1.toUInt32 >>> ((4 : Int32) &&& 31).toUInt32).toInt32).toUInt32 >>> ((2 : Int32) &&& 31).toUInt32).toInt32)), .val (.int (25 : Int32))]) rfl ?_
          refine Ow.iloadN X0 hx (pc' := 74) (hb hby d_jdk_33_method_47_73) rfl ?_
          refine Ow.iloadN X0 hx (pc' := 75) (hb hby d_jdk_33_method_47_74) rfl ?_
          refine Ow.iconst X0 hx (pc' := 76) (hb hby d_jdk_33_method_47_75) (z := (1 : Int32)) rfl ?_
          refine Ow.iushr X0 hx (pc' := 77) (hb hby d_jdk_33_method_47_76) (z := ((((((xnlz_1.toUInt32 >>> ((4 : Int32) &&& 31).toUInt32).toInt32).toUInt32 >>> ((2 : Int32) &&& 31).toUInt32).toInt32).toUInt32 >>> ((1 : Int32) &&& 31).toUInt32).toInt32)) rfl ?_
          refine Ow.isub X0 hx (pc' := 78) (hb hby d_jdk_33_method_47_77) (z := ((25 : Int32) - ((((((xnlz_1.toUInt32 >>> ((4 : Int32) &&& 31).toUInt32).toInt32).toUInt32 >>> ((2 : Int32) &&& 31).toUInt32).toInt32).toUInt32 >>> ((1 : Int32) &&& 31).toUInt32).toInt32))) rfl ?_
          exact Wq.ret X0 (BodyLoose.notSynchronized Bd) (rv := some (.int ((25 : Int32) - ((((((xnlz_1.toUInt32 >>> ((4 : Int32) &&& 31).toUInt32).toInt32).toUInt32 >>> ((2 : Int32) &&& 31).toUInt32).toInt32).toUInt32 >>> ((1 : Int32) &&& 31).toUInt32).toInt32)))) (fun h => by rw [Bd.returns] at h; cases h) (fun _ hr => retOut X0 hx Bd.returns rfl (Or.inl ⟨rfl, Or.inl rfl, _, rfl⟩) (hb hby d_jdk_33_method_47_78) hr) (by decide) (by decide) ⟨by simp only [f_nlz, if_pos hc22, if_pos hc37, if_neg hc51, if_neg hc63], N0, e0⟩
    · skip
      refine Ow.icmpNo X0 hx (pc' := 40) (hb hby d_jdk_33_method_47_37) (flt hc37).1 ?_
      refine Ow.iinc X0 hx (pc' := 43) (hb hby d_jdk_33_method_47_40) rfl (l' := #[.val (.int xnlz_1), .val (.int (23 : Int32))]) rfl ?_
      show Wq _ _ _ _ _ (s₁.setTop (mkF m 43 #[.val (.int xnlz_1), .val (.int (23 : Int32))] []))
      refine Ow.iloadN X0 hx (pc' := 44) (hb hby d_jdk_33_method_47_43) rfl ?_
      refine Ow.bipush X0 hx (pc' := 46) (hb hby d_jdk_33_method_47_44) (z := (8 : Int32)) rfl ?_
      refine Ow.iushr X0 hx (pc' := 47) (hb hby d_jdk_33_method_47_46) (z := ((xnlz_1.toUInt32 >>> ((8 : Int32) &&& 31).toUInt32).toInt32)) rfl ?_
      refine Ow.istoreN X0 hx (pc' := 48) (hb hby d_jdk_33_method_47_47) (l' := #[.val (.int ((xnlz_1.toUInt32 >>> ((8 : Int32) &&& 31).toUInt32).toInt32)), .val (.int (23 : Int32))]) rfl ?_
      refine Ow.iloadN X0 hx (pc' := 49) (hb hby d_jdk_33_method_47_48) rfl ?_
      refine Ow.bipush X0 hx (pc' := 51) (hb hby d_jdk_33_method_47_49) (z := (16 : Int32)) rfl ?_
      by_cases hc51 : ((xnlz_1.toUInt32 >>> ((8 : Int32) &&& 31).toUInt32).toInt32) < (16 : Int32)
      · skip
        refine Ow.icmpYes X0 hx (pc' := 61) (hb hby d_jdk_33_method_47_51) (tlt hc51).1 (by decide) (by decide) ?_
        refine Ow.iloadN X0 hx (pc' := 62) (hb hby d_jdk_33_method_47_61) rfl ?_
        refine Ow.iconst X0 hx (pc' := 63) (hb hby d_jdk_33_method_47_62) (z := (4 : Int32)) rfl ?_
        by_cases hc63 : ((xnlz_1.toUInt32 >>> ((8 : Int32) &&& 31).toUInt32).toInt32) < (4 : Int32)
        · skip
          refine Ow.icmpYes X0 hx (pc' := 73) (hb hby d_jdk_33_method_47_63) (tlt hc63).1 (by decide) (by decide) ?_
          refine Ow.iloadN X0 hx (pc' := 74) (hb hby d_jdk_33_method_47_73) rfl ?_
          refine Ow.iloadN X0 hx (pc' := 75) (hb hby d_jdk_33_method_47_74) rfl ?_
          refine Ow.iconst X0 hx (pc' := 76) (hb hby d_jdk_33_method_47_75) (z := (1 : Int32)) rfl ?_
          refine Ow.iushr X0 hx (pc' := 77) (hb hby d_jdk_33_method_47_76) (z := ((((xnlz_1.toUInt32 >>> ((8 : Int32) &&& 31).toUInt32).toInt32).toUInt32 >>> ((1 : Int32) &&& 31).toUInt32).toInt32)) rfl ?_
          refine Ow.isub X0 hx (pc' := 78) (hb hby d_jdk_33_method_47_77) (z := ((23 : Int32) - ((((xnlz_1.toUInt32 >>> ((8 : Int32) &&& 31).toUInt32).toInt32).toUInt32 >>> ((1 : Int32) &&& 31).toUInt32).toInt32))) rfl ?_
          exact Wq.ret X0 (BodyLoose.notSynchronized Bd) (rv := some (.int ((23 : Int32) - ((((xnlz_1.toUInt32 >>> ((8 : Int32) &&& 31).toUInt32).toInt32).toUInt32 >>> ((1 : Int32) &&& 31).toUInt32).toInt32)))) (fun h => by rw [Bd.returns] at h; cases h) (fun _ hr => retOut X0 hx Bd.returns rfl (Or.inl ⟨rfl, Or.inl rfl, _, rfl⟩) (hb hby d_jdk_33_method_47_78) hr) (by decide) (by decide) ⟨by simp only [f_nlz, if_pos hc22, if_neg hc37, if_pos hc51, if_pos hc63], N0, e0⟩
        · skip
          refine Ow.icmpNo X0 hx (pc' := 66) (hb hby d_jdk_33_method_47_63) (flt hc63).1 ?_
          refine Ow.iinc X0 hx (pc' := 69) (hb hby d_jdk_33_method_47_66) rfl (l' := #[.val (.int ((xnlz_1.toUInt32 >>> ((8 : Int32) &&& 31).toUInt32).toInt32)), .val (.int (21 : Int32))]) rfl ?_
          show Wq _ _ _ _ _ (s₁.setTop (mkF m 69 #[.val (.int ((xnlz_1.toUInt32 >>> ((8 : Int32) &&& 31).toUInt32).toInt32)), .val (.int (21 : Int32))] []))
          refine Ow.iloadN X0 hx (pc' := 70) (hb hby d_jdk_33_method_47_69) rfl ?_
          refine Ow.iconst X0 hx (pc' := 71) (hb hby d_jdk_33_method_47_70) (z := (2 : Int32)) rfl ?_
          refine Ow.iushr X0 hx (pc' := 72) (hb hby d_jdk_33_method_47_71) (z := ((((xnlz_1.toUInt32 >>> ((8 : Int32) &&& 31).toUInt32).toInt32).toUInt32 >>> ((2 : Int32) &&& 31).toUInt32).toInt32)) rfl ?_
          refine Ow.istoreN X0 hx (pc' := 73) (hb hby d_jdk_33_method_47_72) (l' := #[.val (.int ((((xnlz_1.toUInt32 >>> ((8 : Int32) &&& 31).toUInt32).toInt32).toUInt32 >>> ((2 : Int32) &&& 31).toUInt32).toInt32)), .val (.int (21 : Int32))]) rfl ?_
          refine Ow.iloadN X0 hx (pc' := 74) (hb hby d_jdk_33_method_47_73) rfl ?_
          refine Ow.iloadN X0 hx (pc' := 75) (hb hby d_jdk_33_method_47_74) rfl ?_
          refine Ow.iconst X0 hx (pc' := 76) (hb hby d_jdk_33_method_47_75) (z := (1 : Int32)) rfl ?_
          refine Ow.iushr X0 hx (pc' := 77) (hb hby d_jdk_33_method_47_76) (z := ((((((xnlz_1.toUInt32 >>> ((8 : Int32) &&& 31).toUInt32).toInt32).toUInt32 >>> ((2 : Int32) &&& 31).toUInt32).toInt32).toUInt32 >>> ((1 : Int32) &&& 31).toUInt32).toInt32)) rfl ?_
          refine Ow.isub X0 hx (pc' := 78) (hb hby d_jdk_33_method_47_77) (z := ((21 : Int32) - ((((((xnlz_1.toUInt32 >>> ((8 : Int32) &&& 31).toUInt32).toInt32).toUInt32 >>> ((2 : Int32) &&& 31).toUInt32).toInt32).toUInt32 >>> ((1 : Int32) &&& 31).toUInt32).toInt32))) rfl ?_
          exact Wq.ret X0 (BodyLoose.notSynchronized Bd) (rv := some (.int ((21 : Int32) - ((((((xnlz_1.toUInt32 >>> ((8 : Int32) &&& 31).toUInt32).toInt32).toUInt32 >>> ((2 : Int32) &&& 31).toUInt32).toInt32).toUInt32 >>> ((1 : Int32) &&& 31).toUInt32).toInt32)))) (fun h => by rw [Bd.returns] at h; cases h) (fun _ hr => retOut X0 hx Bd.returns rfl (Or.inl ⟨rfl, Or.inl rfl, _, rfl⟩) (hb hby d_jdk_33_method_47_78) hr) (by decide) (by decide) ⟨by simp only [f_nlz, if_pos hc22, if_neg hc37, if_pos hc51, if_neg hc63], N0, e0⟩
      · skip
        refine Ow.icmpNo X0 hx (pc' := 54) (hb hby d_jdk_33_method_47_51) (flt hc51).1 ?_
        refine Ow.iinc X0 hx (pc' := 57) (hb hby d_jdk_33_method_47_54) rfl (l' := #[.val (.int ((xnlz_1.toUInt32 >>> ((8 : Int32) &&& 31).toUInt32).toInt32)), .val (.int (19 : Int32))]) rfl ?_
        show Wq _ _ _ _ _ (s₁.setTop (mkF m 57 #[.val (.int ((xnlz_1.toUInt32 >>> ((8 : Int32) &&& 31).toUInt32).toInt32)), .val (.int (19 : Int32))] []))
        refine Ow.iloadN X0 hx (pc' := 58) (hb hby d_jdk_33_method_47_57) rfl ?_
        refine Ow.iconst X0 hx (pc' := 59) (hb hby d_jdk_33_method_47_58) (z := (4 : Int32)) rfl ?_
        refine Ow.iushr X0 hx (pc' := 60) (hb hby d_jdk_33_method_47_59) (z := ((((xnlz_1.toUInt32 >>> ((8 : Int32) &&& 31).toUInt32).toInt32).toUInt32 >>> ((4 : Int32) &&& 31).toUInt32).toInt32)) rfl ?_
        refine Ow.istoreN X0 hx (pc' := 61) (hb hby d_jdk_33_method_47_60) (l' := #[.val (.int ((((xnlz_1.toUInt32 >>> ((8 : Int32) &&& 31).toUInt32).toInt32).toUInt32 >>> ((4 : Int32) &&& 31).toUInt32).toInt32)), .val (.int (19 : Int32))]) rfl ?_
        refine Ow.iloadN X0 hx (pc' := 62) (hb hby d_jdk_33_method_47_61) rfl ?_
        refine Ow.iconst X0 hx (pc' := 63) (hb hby d_jdk_33_method_47_62) (z := (4 : Int32)) rfl ?_
        by_cases hc63 : ((((xnlz_1.toUInt32 >>> ((8 : Int32) &&& 31).toUInt32).toInt32).toUInt32 >>> ((4 : Int32) &&& 31).toUInt32).toInt32) < (4 : Int32)
        · skip
          refine Ow.icmpYes X0 hx (pc' := 73) (hb hby d_jdk_33_method_47_63) (tlt hc63).1 (by decide) (by decide) ?_
          refine Ow.iloadN X0 hx (pc' := 74) (hb hby d_jdk_33_method_47_73) rfl ?_
          refine Ow.iloadN X0 hx (pc' := 75) (hb hby d_jdk_33_method_47_74) rfl ?_
          refine Ow.iconst X0 hx (pc' := 76) (hb hby d_jdk_33_method_47_75) (z := (1 : Int32)) rfl ?_
          refine Ow.iushr X0 hx (pc' := 77) (hb hby d_jdk_33_method_47_76) (z := ((((((xnlz_1.toUInt32 >>> ((8 : Int32) &&& 31).toUInt32).toInt32).toUInt32 >>> ((4 : Int32) &&& 31).toUInt32).toInt32).toUInt32 >>> ((1 : Int32) &&& 31).toUInt32).toInt32)) rfl ?_
          refine Ow.isub X0 hx (pc' := 78) (hb hby d_jdk_33_method_47_77) (z := ((19 : Int32) - ((((((xnlz_1.toUInt32 >>> ((8 : Int32) &&& 31).toUInt32).toInt32).toUInt32 >>> ((4 : Int32) &&& 31).toUInt32).toInt32).toUInt32 >>> ((1 : Int32) &&& 31).toUInt32).toInt32))) rfl ?_
          exact Wq.ret X0 (BodyLoose.notSynchronized Bd) (rv := some (.int ((19 : Int32) - ((((((xnlz_1.toUInt32 >>> ((8 : Int32) &&& 31).toUInt32).toInt32).toUInt32 >>> ((4 : Int32) &&& 31).toUInt32).toInt32).toUInt32 >>> ((1 : Int32) &&& 31).toUInt32).toInt32)))) (fun h => by rw [Bd.returns] at h; cases h) (fun _ hr => retOut X0 hx Bd.returns rfl (Or.inl ⟨rfl, Or.inl rfl, _, rfl⟩) (hb hby d_jdk_33_method_47_78) hr) (by decide) (by decide) ⟨by simp only [f_nlz, if_pos hc22, if_neg hc37, if_neg hc51, if_pos hc63], N0, e0⟩
        · skip
          refine Ow.icmpNo X0 hx (pc' := 66) (hb hby d_jdk_33_method_47_63) (flt hc63).1 ?_
          refine Ow.iinc X0 hx (pc' := 69) (hb hby d_jdk_33_method_47_66) rfl (l' := #[.val (.int ((((xnlz_1.toUInt32 >>> ((8 : Int32) &&& 31).toUInt32).toInt32).toUInt32 >>> ((4 : Int32) &&& 31).toUInt32).toInt32)), .val (.int (17 : Int32))]) rfl ?_
          show Wq _ _ _ _ _ (s₁.setTop (mkF m 69 #[.val (.int ((((xnlz_1.toUInt32 >>> ((8 : Int32) &&& 31).toUInt32).toInt32).toUInt32 >>> ((4 : Int32) &&& 31).toUInt32).toInt32)), .val (.int (17 : Int32))] []))
          refine Ow.iloadN X0 hx (pc' := 70) (hb hby d_jdk_33_method_47_69) rfl ?_
          refine Ow.iconst X0 hx (pc' := 71) (hb hby d_jdk_33_method_47_70) (z := (2 : Int32)) rfl ?_
          refine Ow.iushr X0 hx (pc' := 72) (hb hby d_jdk_33_method_47_71) (z := ((((((xnlz_1.toUInt32 >>> ((8 : Int32) &&& 31).toUInt32).toInt32).toUInt32 >>> ((4 : Int32) &&& 31).toUInt32).toInt32).toUInt32 >>> ((2 : Int32) &&& 31).toUInt32).toInt32)) rfl ?_
          refine Ow.istoreN X0 hx (pc' := 73) (hb hby d_jdk_33_method_47_72) (l' := #[.val (.int ((((((xnlz_1.toUInt32 >>> ((8 : Int32) &&& 31).toUInt32).toInt32).toUInt32 >>> ((4 : Int32) &&& 31).toUInt32).toInt32).toUInt32 >>> ((2 : Int32) &&& 31).toUInt32).toInt32)), .val (.int (17 : Int32))]) rfl ?_
          refine Ow.iloadN X0 hx (pc' := 74) (hb hby d_jdk_33_method_47_73) rfl ?_
          refine Ow.iloadN X0 hx (pc' := 75) (hb hby d_jdk_33_method_47_74) rfl ?_
          refine Ow.iconst X0 hx (pc' := 76) (hb hby d_jdk_33_method_47_75) (z := (1 : Int32)) rfl ?_
          refine Ow.iushr X0 hx (pc' := 77) (hb hby d_jdk_33_method_47_76) (z := ((((((((xnlz_1.toUInt32 >>> ((8 : Int32) &&& 31).toUInt32).toInt32).toUInt32 >>> ((4 : Int32) &&& 31).toUInt32).toInt32).toUInt32 >>> ((2 : Int32) &&& 31).toUInt32).toInt32).toUInt32 >>> ((1 : Int32) &&& 31).toUInt32).toInt32)) rfl ?_
          refine Ow.isub X0 hx (pc' := 78) (hb hby d_jdk_33_method_47_77) (z := ((17 : Int32) - ((((((((xnlz_1.toUInt32 >>> ((8 : Int32) &&& 31).toUInt32).toInt32).toUInt32 >>> ((4 : Int32) &&& 31).toUInt32).toInt32).toUInt32 >>> ((2 : Int32) &&& 31).toUInt32).toInt32).toUInt32 >>> ((1 : Int32) &&& 31).toUInt32).toInt32))) rfl ?_
          exact Wq.ret X0 (BodyLoose.notSynchronized Bd) (rv := some (.int ((17 : Int32) - ((((((((xnlz_1.toUInt32 >>> ((8 : Int32) &&& 31).toUInt32).toInt32).toUInt32 >>> ((4 : Int32) &&& 31).toUInt32).toInt32).toUInt32 >>> ((2 : Int32) &&& 31).toUInt32).toInt32).toUInt32 >>> ((1 : Int32) &&& 31).toUInt32).toInt32)))) (fun h => by rw [Bd.returns] at h; cases h) (fun _ hr => retOut X0 hx Bd.returns rfl (Or.inl ⟨rfl, Or.inl rfl, _, rfl⟩) (hb hby d_jdk_33_method_47_78) hr) (by decide) (by decide) ⟨by simp only [f_nlz, if_pos hc22, if_neg hc37, if_neg hc51, if_neg hc63], N0, e0⟩
  · skip
    refine Ow.icmpNo X0 hx (pc' := 25) (hb hby d_jdk_33_method_47_22) (flt hc22).1 ?_
    refine Ow.iinc X0 hx (pc' := 28) (hb hby d_jdk_33_method_47_25) rfl (l' := #[.val (.int xnlz_1), .val (.int (15 : Int32))]) rfl ?_
    show Wq _ _ _ _ _ (s₁.setTop (mkF m 28 #[.val (.int xnlz_1), .val (.int (15 : Int32))] []))
    refine Ow.iloadN X0 hx (pc' := 29) (hb hby d_jdk_33_method_47_28) rfl ?_
    refine Ow.bipush X0 hx (pc' := 31) (hb hby d_jdk_33_method_47_29) (z := (16 : Int32)) rfl ?_
    refine Ow.iushr X0 hx (pc' := 32) (hb hby d_jdk_33_method_47_31) (z := ((xnlz_1.toUInt32 >>> ((16 : Int32) &&& 31).toUInt32).toInt32)) rfl ?_
    refine Ow.istoreN X0 hx (pc' := 33) (hb hby d_jdk_33_method_47_32) (l' := #[.val (.int ((xnlz_1.toUInt32 >>> ((16 : Int32) &&& 31).toUInt32).toInt32)), .val (.int (15 : Int32))]) rfl ?_
    refine Ow.iloadN X0 hx (pc' := 34) (hb hby d_jdk_33_method_47_33) rfl ?_
    refine Ow.sipush X0 hx (pc' := 37) (hb hby d_jdk_33_method_47_34) (z := (256 : Int32)) rfl ?_
    by_cases hc37 : ((xnlz_1.toUInt32 >>> ((16 : Int32) &&& 31).toUInt32).toInt32) < (256 : Int32)
    · skip
      refine Ow.icmpYes X0 hx (pc' := 48) (hb hby d_jdk_33_method_47_37) (tlt hc37).1 (by decide) (by decide) ?_
      refine Ow.iloadN X0 hx (pc' := 49) (hb hby d_jdk_33_method_47_48) rfl ?_
      refine Ow.bipush X0 hx (pc' := 51) (hb hby d_jdk_33_method_47_49) (z := (16 : Int32)) rfl ?_
      by_cases hc51 : ((xnlz_1.toUInt32 >>> ((16 : Int32) &&& 31).toUInt32).toInt32) < (16 : Int32)
      · skip
        refine Ow.icmpYes X0 hx (pc' := 61) (hb hby d_jdk_33_method_47_51) (tlt hc51).1 (by decide) (by decide) ?_
        refine Ow.iloadN X0 hx (pc' := 62) (hb hby d_jdk_33_method_47_61) rfl ?_
        refine Ow.iconst X0 hx (pc' := 63) (hb hby d_jdk_33_method_47_62) (z := (4 : Int32)) rfl ?_
        by_cases hc63 : ((xnlz_1.toUInt32 >>> ((16 : Int32) &&& 31).toUInt32).toInt32) < (4 : Int32)
        · skip
          refine Ow.icmpYes X0 hx (pc' := 73) (hb hby d_jdk_33_method_47_63) (tlt hc63).1 (by decide) (by decide) ?_
          refine Ow.iloadN X0 hx (pc' := 74) (hb hby d_jdk_33_method_47_73) rfl ?_
          refine Ow.iloadN X0 hx (pc' := 75) (hb hby d_jdk_33_method_47_74) rfl ?_
          refine Ow.iconst X0 hx (pc' := 76) (hb hby d_jdk_33_method_47_75) (z := (1 : Int32)) rfl ?_
          refine Ow.iushr X0 hx (pc' := 77) (hb hby d_jdk_33_method_47_76) (z := ((((xnlz_1.toUInt32 >>> ((16 : Int32) &&& 31).toUInt32).toInt32).toUInt32 >>> ((1 : Int32) &&& 31).toUInt32).toInt32)) rfl ?_
          refine Ow.isub X0 hx (pc' := 78) (hb hby d_jdk_33_method_47_77) (z := ((15 : Int32) - ((((xnlz_1.toUInt32 >>> ((16 : Int32) &&& 31).toUInt32).toInt32).toUInt32 >>> ((1 : Int32) &&& 31).toUInt32).toInt32))) rfl ?_
          exact Wq.ret X0 (BodyLoose.notSynchronized Bd) (rv := some (.int ((15 : Int32) - ((((xnlz_1.toUInt32 >>> ((16 : Int32) &&& 31).toUInt32).toInt32).toUInt32 >>> ((1 : Int32) &&& 31).toUInt32).toInt32)))) (fun h => by rw [Bd.returns] at h; cases h) (fun _ hr => retOut X0 hx Bd.returns rfl (Or.inl ⟨rfl, Or.inl rfl, _, rfl⟩) (hb hby d_jdk_33_method_47_78) hr) (by decide) (by decide) ⟨by simp only [f_nlz, if_neg hc22, if_pos hc37, if_pos hc51, if_pos hc63], N0, e0⟩
        · skip
          refine Ow.icmpNo X0 hx (pc' := 66) (hb hby d_jdk_33_method_47_63) (flt hc63).1 ?_
          refine Ow.iinc X0 hx (pc' := 69) (hb hby d_jdk_33_method_47_66) rfl (l' := #[.val (.int ((xnlz_1.toUInt32 >>> ((16 : Int32) &&& 31).toUInt32).toInt32)), .val (.int (13 : Int32))]) rfl ?_
          show Wq _ _ _ _ _ (s₁.setTop (mkF m 69 #[.val (.int ((xnlz_1.toUInt32 >>> ((16 : Int32) &&& 31).toUInt32).toInt32)), .val (.int (13 : Int32))] []))
          refine Ow.iloadN X0 hx (pc' := 70) (hb hby d_jdk_33_method_47_69) rfl ?_
          refine Ow.iconst X0 hx (pc' := 71) (hb hby d_jdk_33_method_47_70) (z := (2 : Int32)) rfl ?_
          refine Ow.iushr X0 hx (pc' := 72) (hb hby d_jdk_33_method_47_71) (z := ((((xnlz_1.toUInt32 >>> ((16 : Int32) &&& 31).toUInt32).toInt32).toUInt32 >>> ((2 : Int32) &&& 31).toUInt32).toInt32)) rfl ?_
          refine Ow.istoreN X0 hx (pc' := 73) (hb hby d_jdk_33_method_47_72) (l' := #[.val (.int ((((xnlz_1.toUInt32 >>> ((16 : Int32) &&& 31).toUInt32).toInt32).toUInt32 >>> ((2 : Int32) &&& 31).toUInt32).toInt32)), .val (.int (13 : Int32))]) rfl ?_
          refine Ow.iloadN X0 hx (pc' := 74) (hb hby d_jdk_33_method_47_73) rfl ?_
          refine Ow.iloadN X0 hx (pc' := 75) (hb hby d_jdk_33_method_47_74) rfl ?_
          refine Ow.iconst X0 hx (pc' := 76) (hb hby d_jdk_33_method_47_75) (z := (1 : Int32)) rfl ?_
          refine Ow.iushr X0 hx (pc' := 77) (hb hby d_jdk_33_method_47_76) (z := ((((((xnlz_1.toUInt32 >>> ((16 : Int32) &&& 31).toUInt32).toInt32).toUInt32 >>> ((2 : Int32) &&& 31).toUInt32).toInt32).toUInt32 >>> ((1 : Int32) &&& 31).toUInt32).toInt32)) rfl ?_
          refine Ow.isub X0 hx (pc' := 78) (hb hby d_jdk_33_method_47_77) (z := ((13 : Int32) - ((((((xnlz_1.toUInt32 >>> ((16 : Int32) &&& 31).toUInt32).toInt32).toUInt32 >>> ((2 : Int32) &&& 31).toUInt32).toInt32).toUInt32 >>> ((1 : Int32) &&& 31).toUInt32).toInt32))) rfl ?_
          exact Wq.ret X0 (BodyLoose.notSynchronized Bd) (rv := some (.int ((13 : Int32) - ((((((xnlz_1.toUInt32 >>> ((16 : Int32) &&& 31).toUInt32).toInt32).toUInt32 >>> ((2 : Int32) &&& 31).toUInt32).toInt32).toUInt32 >>> ((1 : Int32) &&& 31).toUInt32).toInt32)))) (fun h => by rw [Bd.returns] at h; cases h) (fun _ hr => retOut X0 hx Bd.returns rfl (Or.inl ⟨rfl, Or.inl rfl, _, rfl⟩) (hb hby d_jdk_33_method_47_78) hr) (by decide) (by decide) ⟨by simp only [f_nlz, if_neg hc22, if_pos hc37, if_pos hc51, if_neg hc63], N0, e0⟩
      · skip
        refine Ow.icmpNo X0 hx (pc' := 54) (hb hby d_jdk_33_method_47_51) (flt hc51).1 ?_
        refine Ow.iinc X0 hx (pc' := 57) (hb hby d_jdk_33_method_47_54) rfl (l' := #[.val (.int ((xnlz_1.toUInt32 >>> ((16 : Int32) &&& 31).toUInt32).toInt32)), .val (.int (11 : Int32))]) rfl ?_
        show Wq _ _ _ _ _ (s₁.setTop (mkF m 57 #[.val (.int ((xnlz_1.toUInt32 >>> ((16 : Int32) &&& 31).toUInt32).toInt32)), .val (.int (11 : Int32))] []))
        refine Ow.iloadN X0 hx (pc' := 58) (hb hby d_jdk_33_method_47_57) rfl ?_
        refine Ow.iconst X0 hx (pc' := 59) (hb hby d_jdk_33_method_47_58) (z := (4 : Int32)) rfl ?_
        refine Ow.iushr X0 hx (pc' := 60) (hb hby d_jdk_33_method_47_59) (z := ((((xnlz_1.toUInt32 >>> ((16 : Int32) &&& 31).toUInt32).toInt32).toUInt32 >>> ((4 : Int32) &&& 31).toUInt32).toInt32)) rfl ?_
        refine Ow.istoreN X0 hx (pc' := 61) (hb hby d_jdk_33_method_47_60) (l' := #[.val (.int ((((xnlz_1.toUInt32 >>> ((16 : Int32) &&& 31).toUInt32).toInt32).toUInt32 >>> ((4 : Int32) &&& 31).toUInt32).toInt32)), .val (.int (11 : Int32))]) rfl ?_
        refine Ow.iloadN X0 hx (pc' := 62) (hb hby d_jdk_33_method_47_61) rfl ?_
        refine Ow.iconst X0 hx (pc' := 63) (hb hby d_jdk_33_method_47_62) (z := (4 : Int32)) rfl ?_
        by_cases hc63 : ((((xnlz_1.toUInt32 >>> ((16 : Int32) &&& 31).toUInt32).toInt32).toUInt32 >>> ((4 : Int32) &&& 31).toUInt32).toInt32) < (4 : Int32)
        · skip
          refine Ow.icmpYes X0 hx (pc' := 73) (hb hby d_jdk_33_method_47_63) (tlt hc63).1 (by decide) (by decide) ?_
          refine Ow.iloadN X0 hx (pc' := 74) (hb hby d_jdk_33_method_47_73) rfl ?_
          refine Ow.iloadN X0 hx (pc' := 75) (hb hby d_jdk_33_method_47_74) rfl ?_
          refine Ow.iconst X0 hx (pc' := 76) (hb hby d_jdk_33_method_47_75) (z := (1 : Int32)) rfl ?_
          refine Ow.iushr X0 hx (pc' := 77) (hb hby d_jdk_33_method_47_76) (z := ((((((xnlz_1.toUInt32 >>> ((16 : Int32) &&& 31).toUInt32).toInt32).toUInt32 >>> ((4 : Int32) &&& 31).toUInt32).toInt32).toUInt32 >>> ((1 : Int32) &&& 31).toUInt32).toInt32)) rfl ?_
          refine Ow.isub X0 hx (pc' := 78) (hb hby d_jdk_33_method_47_77) (z := ((11 : Int32) - ((((((xnlz_1.toUInt32 >>> ((16 : Int32) &&& 31).toUInt32).toInt32).toUInt32 >>> ((4 : Int32) &&& 31).toUInt32).toInt32).toUInt32 >>> ((1 : Int32) &&& 31).toUInt32).toInt32))) rfl ?_
          exact Wq.ret X0 (BodyLoose.notSynchronized Bd) (rv := some (.int ((11 : Int32) - ((((((xnlz_1.toUInt32 >>> ((16 : Int32) &&& 31).toUInt32).toInt32).toUInt32 >>> ((4 : Int32) &&& 31).toUInt32).toInt32).toUInt32 >>> ((1 : Int32) &&& 31).toUInt32).toInt32)))) (fun h => by rw [Bd.returns] at h; cases h) (fun _ hr => retOut X0 hx Bd.returns rfl (Or.inl ⟨rfl, Or.inl rfl, _, rfl⟩) (hb hby d_jdk_33_method_47_78) hr) (by decide) (by decide) ⟨by simp only [f_nlz, if_neg hc22, if_pos hc37, if_neg hc51, if_pos hc63], N0, e0⟩
        · skip
          refine Ow.icmpNo X0 hx (pc' := 66) (hb hby d_jdk_33_method_47_63) (flt hc63).1 ?_
          refine Ow.iinc X0 hx (pc' := 69) (hb hby d_jdk_33_method_47_66) rfl (l' := #[.val (.int ((((xnlz_1.toUInt32 >>> ((16 : Int32) &&& 31).toUInt32).toInt32).toUInt32 >>> ((4 : Int32) &&& 31).toUInt32).toInt32)), .val (.int (9 : Int32))]) rfl ?_
          show Wq _ _ _ _ _ (s₁.setTop (mkF m 69 #[.val (.int ((((xnlz_1.toUInt32 >>> ((16 : Int32) &&& 31).toUInt32).toInt32).toUInt32 >>> ((4 : Int32) &&& 31).toUInt32).toInt32)), .val (.int (9 : Int32))] []))
          refine Ow.iloadN X0 hx (pc' := 70) (hb hby d_jdk_33_method_47_69) rfl ?_
          refine Ow.iconst X0 hx (pc' := 71) (hb hby d_jdk_33_method_47_70) (z := (2 : Int32)) rfl ?_
          refine Ow.iushr X0 hx (pc' := 72) (hb hby d_jdk_33_method_47_71) (z := ((((((xnlz_1.toUInt32 >>> ((16 : Int32) &&& 31).toUInt32).toInt32).toUInt32 >>> ((4 : Int32) &&& 31).toUInt32).toInt32).toUInt32 >>> ((2 : Int32) &&& 31).toUInt32).toInt32)) rfl ?_
          refine Ow.istoreN X0 hx (pc' := 73) (hb hby d_jdk_33_method_47_72) (l' := #[.val (.int ((((((xnlz_1.toUInt32 >>> ((16 : Int32) &&& 31).toUInt32).toInt32).toUInt32 >>> ((4 : Int32) &&& 31).toUInt32).toInt32).toUInt32 >>> ((2 : Int32) &&& 31).toUInt32).toInt32)), .val (.int (9 : Int32))]) rfl ?_
          refine Ow.iloadN X0 hx (pc' := 74) (hb hby d_jdk_33_method_47_73) rfl ?_
          refine Ow.iloadN X0 hx (pc' := 75) (hb hby d_jdk_33_method_47_74) rfl ?_
          refine Ow.iconst X0 hx (pc' := 76) (hb hby d_jdk_33_method_47_75) (z := (1 : Int32)) rfl ?_
          refine Ow.iushr X0 hx (pc' := 77) (hb hby d_jdk_33_method_47_76) (z := ((((((((xnlz_1.toUInt32 >>> ((16 : Int32) &&& 31).toUInt32).toInt32).toUInt32 >>> ((4 : Int32) &&& 31).toUInt32).toInt32).toUInt32 >>> ((2 : Int32) &&& 31).toUInt32).toInt32).toUInt32 >>> ((1 : Int32) &&& 31).toUInt32).toInt32)) rfl ?_
          refine Ow.isub X0 hx (pc' := 78) (hb hby d_jdk_33_method_47_77) (z := ((9 : Int32) - ((((((((xnlz_1.toUInt32 >>> ((16 : Int32) &&& 31).toUInt32).toInt32).toUInt32 >>> ((4 : Int32) &&& 31).toUInt32).toInt32).toUInt32 >>> ((2 : Int32) &&& 31).toUInt32).toInt32).toUInt32 >>> ((1 : Int32) &&& 31).toUInt32).toInt32))) rfl ?_
          exact Wq.ret X0 (BodyLoose.notSynchronized Bd) (rv := some (.int ((9 : Int32) - ((((((((xnlz_1.toUInt32 >>> ((16 : Int32) &&& 31).toUInt32).toInt32).toUInt32 >>> ((4 : Int32) &&& 31).toUInt32).toInt32).toUInt32 >>> ((2 : Int32) &&& 31).toUInt32).toInt32).toUInt32 >>> ((1 : Int32) &&& 31).toUInt32).toInt32)))) (fun h => by rw [Bd.returns] at h; cases h) (fun _ hr => retOut X0 hx Bd.returns rfl (Or.inl ⟨rfl, Or.inl rfl, _, rfl⟩) (hb hby d_jdk_33_method_47_78) hr) (by decide) (by decide) ⟨by simp only [f_nlz, if_neg hc22, if_pos hc37, if_neg hc51, if_neg hc63], N0, e0⟩
    · skip
      refine Ow.icmpNo X0 hx (pc' := 40) (hb hby d_jdk_33_method_47_37) (flt hc37).1 ?_
      refine Ow.iinc X0 hx (pc' := 43) (hb hby d_jdk_33_method_47_40) rfl (l' := #[.val (.int ((xnlz_1.toUInt32 >>> ((16 : Int32) &&& 31).toUInt32).toInt32)), .val (.int (7 : Int32))]) rfl ?_
      show Wq _ _ _ _ _ (s₁.setTop (mkF m 43 #[.val (.int ((xnlz_1.toUInt32 >>> ((16 : Int32) &&& 31).toUInt32).toInt32)), .val (.int (7 : Int32))] []))
      refine Ow.iloadN X0 hx (pc' := 44) (hb hby d_jdk_33_method_47_43) rfl ?_
      refine Ow.bipush X0 hx (pc' := 46) (hb hby d_jdk_33_method_47_44) (z := (8 : Int32)) rfl ?_
      refine Ow.iushr X0 hx (pc' := 47) (hb hby d_jdk_33_method_47_46) (z := ((((xnlz_1.toUInt32 >>> ((16 : Int32) &&& 31).toUInt32).toInt32).toUInt32 >>> ((8 : Int32) &&& 31).toUInt32).toInt32)) rfl ?_
      refine Ow.istoreN X0 hx (pc' := 48) (hb hby d_jdk_33_method_47_47) (l' := #[.val (.int ((((xnlz_1.toUInt32 >>> ((16 : Int32) &&& 31).toUInt32).toInt32).toUInt32 >>> ((8 : Int32) &&& 31).toUInt32).toInt32)), .val (.int (7 : Int32))]) rfl ?_
      refine Ow.iloadN X0 hx (pc' := 49) (hb hby d_jdk_33_method_47_48) rfl ?_
      refine Ow.bipush X0 hx (pc' := 51) (hb hby d_jdk_33_method_47_49) (z := (16 : Int32)) rfl ?_
      by_cases hc51 : ((((xnlz_1.toUInt32 >>> ((16 : Int32) &&& 31).toUInt32).toInt32).toUInt32 >>> ((8 : Int32) &&& 31).toUInt32).toInt32) < (16 : Int32)
      · skip
        refine Ow.icmpYes X0 hx (pc' := 61) (hb hby d_jdk_33_method_47_51) (tlt hc51).1 (by decide) (by decide) ?_
        refine Ow.iloadN X0 hx (pc' := 62) (hb hby d_jdk_33_method_47_61) rfl ?_
        refine Ow.iconst X0 hx (pc' := 63) (hb hby d_jdk_33_method_47_62) (z := (4 : Int32)) rfl ?_
        by_cases hc63 : ((((xnlz_1.toUInt32 >>> ((16 : Int32) &&& 31).toUInt32).toInt32).toUInt32 >>> ((8 : Int32) &&& 31).toUInt32).toInt32) < (4 : Int32)
        · skip
          refine Ow.icmpYes X0 hx (pc' := 73) (hb hby d_jdk_33_method_47_63) (tlt hc63).1 (by decide) (by decide) ?_
          refine Ow.iloadN X0 hx (pc' := 74) (hb hby d_jdk_33_method_47_73) rfl ?_
          refine Ow.iloadN X0 hx (pc' := 75) (hb hby d_jdk_33_method_47_74) rfl ?_
          refine Ow.iconst X0 hx (pc' := 76) (hb hby d_jdk_33_method_47_75) (z := (1 : Int32)) rfl ?_
          refine Ow.iushr X0 hx (pc' := 77) (hb hby d_jdk_33_method_47_76) (z := ((((((xnlz_1.toUInt32 >>> ((16 : Int32) &&& 31).toUInt32).toInt32).toUInt32 >>> ((8 : Int32) &&& 31).toUInt32).toInt32).toUInt32 >>> ((1 : Int32) &&& 31).toUInt32).toInt32)) rfl ?_
          refine Ow.isub X0 hx (pc' := 78) (hb hby d_jdk_33_method_47_77) (z := ((7 : Int32) - ((((((xnlz_1.toUInt32 >>> ((16 : Int32) &&& 31).toUInt32).toInt32).toUInt32 >>> ((8 : Int32) &&& 31).toUInt32).toInt32).toUInt32 >>> ((1 : Int32) &&& 31).toUInt32).toInt32))) rfl ?_
          exact Wq.ret X0 (BodyLoose.notSynchronized Bd) (rv := some (.int ((7 : Int32) - ((((((xnlz_1.toUInt32 >>> ((16 : Int32) &&& 31).toUInt32).toInt32).toUInt32 >>> ((8 : Int32) &&& 31).toUInt32).toInt32).toUInt32 >>> ((1 : Int32) &&& 31).toUInt32).toInt32)))) (fun h => by rw [Bd.returns] at h; cases h) (fun _ hr => retOut X0 hx Bd.returns rfl (Or.inl ⟨rfl, Or.inl rfl, _, rfl⟩) (hb hby d_jdk_33_method_47_78) hr) (by decide) (by decide) ⟨by simp only [f_nlz, if_neg hc22, if_neg hc37, if_pos hc51, if_pos hc63], N0, e0⟩
        · skip
          refine Ow.icmpNo X0 hx (pc' := 66) (hb hby d_jdk_33_method_47_63) (flt hc63).1 ?_
          refine Ow.iinc X0 hx (pc' := 69) (hb hby d_jdk_33_method_47_66) rfl (l' := #[.val (.int ((((xnlz_1.toUInt32 >>> ((16 : Int32) &&& 31).toUInt32).toInt32).toUInt32 >>> ((8 : Int32) &&& 31).toUInt32).toInt32)), .val (.int (5 : Int32))]) rfl ?_
          show Wq _ _ _ _ _ (s₁.setTop (mkF m 69 #[.val (.int ((((xnlz_1.toUInt32 >>> ((16 : Int32) &&& 31).toUInt32).toInt32).toUInt32 >>> ((8 : Int32) &&& 31).toUInt32).toInt32)), .val (.int (5 : Int32))] []))
          refine Ow.iloadN X0 hx (pc' := 70) (hb hby d_jdk_33_method_47_69) rfl ?_
          refine Ow.iconst X0 hx (pc' := 71) (hb hby d_jdk_33_method_47_70) (z := (2 : Int32)) rfl ?_
          refine Ow.iushr X0 hx (pc' := 72) (hb hby d_jdk_33_method_47_71) (z := ((((((xnlz_1.toUInt32 >>> ((16 : Int32) &&& 31).toUInt32).toInt32).toUInt32 >>> ((8 : Int32) &&& 31).toUInt32).toInt32).toUInt32 >>> ((2 : Int32) &&& 31).toUInt32).toInt32)) rfl ?_
          refine Ow.istoreN X0 hx (pc' := 73) (hb hby d_jdk_33_method_47_72) (l' := #[.val (.int ((((((xnlz_1.toUInt32 >>> ((16 : Int32) &&& 31).toUInt32).toInt32).toUInt32 >>> ((8 : Int32) &&& 31).toUInt32).toInt32).toUInt32 >>> ((2 : Int32) &&& 31).toUInt32).toInt32)), .val (.int (5 : Int32))]) rfl ?_
          refine Ow.iloadN X0 hx (pc' := 74) (hb hby d_jdk_33_method_47_73) rfl ?_
          refine Ow.iloadN X0 hx (pc' := 75) (hb hby d_jdk_33_method_47_74) rfl ?_
          refine Ow.iconst X0 hx (pc' := 76) (hb hby d_jdk_33_method_47_75) (z := (1 : Int32)) rfl ?_
          refine Ow.iushr X0 hx (pc' := 77) (hb hby d_jdk_33_method_47_76) (z := ((((((((xnlz_1.toUInt32 >>> ((16 : Int32) &&& 31).toUInt32).toInt32).toUInt32 >>> ((8 : Int32) &&& 31).toUInt32).toInt32).toUInt32 >>> ((2 : Int32) &&& 31).toUInt32).toInt32).toUInt32 >>> ((1 : Int32) &&& 31).toUInt32).toInt32)) rfl ?_
          refine Ow.isub X0 hx (pc' := 78) (hb hby d_jdk_33_method_47_77) (z := ((5 : Int32) - ((((((((xnlz_1.toUInt32 >>> ((16 : Int32) &&& 31).toUInt32).toInt32).toUInt32 >>> ((8 : Int32) &&& 31).toUInt32).toInt32).toUInt32 >>> ((2 : Int32) &&& 31).toUInt32).toInt32).toUInt32 >>> ((1 : Int32) &&& 31).toUInt32).toInt32))) rfl ?_
          exact Wq.ret X0 (BodyLoose.notSynchronized Bd) (rv := some (.int ((5 : Int32) - ((((((((xnlz_1.toUInt32 >>> ((16 : Int32) &&& 31).toUInt32).toInt32).toUInt32 >>> ((8 : Int32) &&& 31).toUInt32).toInt32).toUInt32 >>> ((2 : Int32) &&& 31).toUInt32).toInt32).toUInt32 >>> ((1 : Int32) &&& 31).toUInt32).toInt32)))) (fun h => by rw [Bd.returns] at h; cases h) (fun _ hr => retOut X0 hx Bd.returns rfl (Or.inl ⟨rfl, Or.inl rfl, _, rfl⟩) (hb hby d_jdk_33_method_47_78) hr) (by decide) (by decide) ⟨by simp only [f_nlz, if_neg hc22, if_neg hc37, if_pos hc51, if_neg hc63], N0, e0⟩
      · skip
        refine Ow.icmpNo X0 hx (pc' := 54) (hb hby d_jdk_33_method_47_51) (flt hc51).1 ?_
        refine Ow.iinc X0 hx (pc' := 57) (hb hby d_jdk_33_method_47_54) rfl (l' := #[.val (.int ((((xnlz_1.toUInt32 >>> ((16 : Int32) &&& 31).toUInt32).toInt32).toUInt32 >>> ((8 : Int32) &&& 31).toUInt32).toInt32)), .val (.int (3 : Int32))]) rfl ?_
        show Wq _ _ _ _ _ (s₁.setTop (mkF m 57 #[.val (.int ((((xnlz_1.toUInt32 >>> ((16 : Int32) &&& 31).toUInt32).toInt32).toUInt32 >>> ((8 : Int32) &&& 31).toUInt32).toInt32)), .val (.int (3 : Int32))] []))
        refine Ow.iloadN X0 hx (pc' := 58) (hb hby d_jdk_33_method_47_57) rfl ?_
        refine Ow.iconst X0 hx (pc' := 59) (hb hby d_jdk_33_method_47_58) (z := (4 : Int32)) rfl ?_
        refine Ow.iushr X0 hx (pc' := 60) (hb hby d_jdk_33_method_47_59) (z := ((((((xnlz_1.toUInt32 >>> ((16 : Int32) &&& 31).toUInt32).toInt32).toUInt32 >>> ((8 : Int32) &&& 31).toUInt32).toInt32).toUInt32 >>> ((4 : Int32) &&& 31).toUInt32).toInt32)) rfl ?_
        refine Ow.istoreN X0 hx (pc' := 61) (hb hby d_jdk_33_method_47_60) (l' := #[.val (.int ((((((xnlz_1.toUInt32 >>> ((16 : Int32) &&& 31).toUInt32).toInt32).toUInt32 >>> ((8 : Int32) &&& 31).toUInt32).toInt32).toUInt32 >>> ((4 : Int32) &&& 31).toUInt32).toInt32)), .val (.int (3 : Int32))]) rfl ?_
        refine Ow.iloadN X0 hx (pc' := 62) (hb hby d_jdk_33_method_47_61) rfl ?_
        refine Ow.iconst X0 hx (pc' := 63) (hb hby d_jdk_33_method_47_62) (z := (4 : Int32)) rfl ?_
        by_cases hc63 : ((((((xnlz_1.toUInt32 >>> ((16 : Int32) &&& 31).toUInt32).toInt32).toUInt32 >>> ((8 : Int32) &&& 31).toUInt32).toInt32).toUInt32 >>> ((4 : Int32) &&& 31).toUInt32).toInt32) < (4 : Int32)
        · skip
          refine Ow.icmpYes X0 hx (pc' := 73) (hb hby d_jdk_33_method_47_63) (tlt hc63).1 (by decide) (by decide) ?_
          refine Ow.iloadN X0 hx (pc' := 74) (hb hby d_jdk_33_method_47_73) rfl ?_
          refine Ow.iloadN X0 hx (pc' := 75) (hb hby d_jdk_33_method_47_74) rfl ?_
          refine Ow.iconst X0 hx (pc' := 76) (hb hby d_jdk_33_method_47_75) (z := (1 : Int32)) rfl ?_
          refine Ow.iushr X0 hx (pc' := 77) (hb hby d_jdk_33_method_47_76) (z := ((((((((xnlz_1.toUInt32 >>> ((16 : Int32) &&& 31).toUInt32).toInt32).toUInt32 >>> ((8 : Int32) &&& 31).toUInt32).toInt32).toUInt32 >>> ((4 : Int32) &&& 31).toUInt32).toInt32).toUInt32 >>> ((1 : Int32) &&& 31).toUInt32).toInt32)) rfl ?_
          refine Ow.isub X0 hx (pc' := 78) (hb hby d_jdk_33_method_47_77) (z := ((3 : Int32) - ((((((((xnlz_1.toUInt32 >>> ((16 : Int32) &&& 31).toUInt32).toInt32).toUInt32 >>> ((8 : Int32) &&& 31).toUInt32).toInt32).toUInt32 >>> ((4 : Int32) &&& 31).toUInt32).toInt32).toUInt32 >>> ((1 : Int32) &&& 31).toUInt32).toInt32))) rfl ?_
          exact Wq.ret X0 (BodyLoose.notSynchronized Bd) (rv := some (.int ((3 : Int32) - ((((((((xnlz_1.toUInt32 >>> ((16 : Int32) &&& 31).toUInt32).toInt32).toUInt32 >>> ((8 : Int32) &&& 31).toUInt32).toInt32).toUInt32 >>> ((4 : Int32) &&& 31).toUInt32).toInt32).toUInt32 >>> ((1 : Int32) &&& 31).toUInt32).toInt32)))) (fun h => by rw [Bd.returns] at h; cases h) (fun _ hr => retOut X0 hx Bd.returns rfl (Or.inl ⟨rfl, Or.inl rfl, _, rfl⟩) (hb hby d_jdk_33_method_47_78) hr) (by decide) (by decide) ⟨by simp only [f_nlz, if_neg hc22, if_neg hc37, if_neg hc51, if_pos hc63], N0, e0⟩
        · skip
          refine Ow.icmpNo X0 hx (pc' := 66) (hb hby d_jdk_33_method_47_63) (flt hc63).1 ?_
          refine Ow.iinc X0 hx (pc' := 69) (hb hby d_jdk_33_method_47_66) rfl (l' := #[.val (.int ((((((xnlz_1.toUInt32 >>> ((16 : Int32) &&& 31).toUInt32).toInt32).toUInt32 >>> ((8 : Int32) &&& 31).toUInt32).toInt32).toUInt32 >>> ((4 : Int32) &&& 31).toUInt32).toInt32)), .val (.int (1 : Int32))]) rfl ?_
          show Wq _ _ _ _ _ (s₁.setTop (mkF m 69 #[.val (.int ((((((xnlz_1.toUInt32 >>> ((16 : Int32) &&& 31).toUInt32).toInt32).toUInt32 >>> ((8 : Int32) &&& 31).toUInt32).toInt32).toUInt32 >>> ((4 : Int32) &&& 31).toUInt32).toInt32)), .val (.int (1 : Int32))] []))
          refine Ow.iloadN X0 hx (pc' := 70) (hb hby d_jdk_33_method_47_69) rfl ?_
          refine Ow.iconst X0 hx (pc' := 71) (hb hby d_jdk_33_method_47_70) (z := (2 : Int32)) rfl ?_
          refine Ow.iushr X0 hx (pc' := 72) (hb hby d_jdk_33_method_47_71) (z := ((((((((xnlz_1.toUInt32 >>> ((16 : Int32) &&& 31).toUInt32).toInt32).toUInt32 >>> ((8 : Int32) &&& 31).toUInt32).toInt32).toUInt32 >>> ((4 : Int32) &&& 31).toUInt32).toInt32).toUInt32 >>> ((2 : Int32) &&& 31).toUInt32).toInt32)) rfl ?_
          refine Ow.istoreN X0 hx (pc' := 73) (hb hby d_jdk_33_method_47_72) (l' := #[.val (.int ((((((((xnlz_1.toUInt32 >>> ((16 : Int32) &&& 31).toUInt32).toInt32).toUInt32 >>> ((8 : Int32) &&& 31).toUInt32).toInt32).toUInt32 >>> ((4 : Int32) &&& 31).toUInt32).toInt32).toUInt32 >>> ((2 : Int32) &&& 31).toUInt32).toInt32)), .val (.int (1 : Int32))]) rfl ?_
          refine Ow.iloadN X0 hx (pc' := 74) (hb hby d_jdk_33_method_47_73) rfl ?_
          refine Ow.iloadN X0 hx (pc' := 75) (hb hby d_jdk_33_method_47_74) rfl ?_
          refine Ow.iconst X0 hx (pc' := 76) (hb hby d_jdk_33_method_47_75) (z := (1 : Int32)) rfl ?_
          refine Ow.iushr X0 hx (pc' := 77) (hb hby d_jdk_33_method_47_76) (z := ((((((((((xnlz_1.toUInt32 >>> ((16 : Int32) &&& 31).toUInt32).toInt32).toUInt32 >>> ((8 : Int32) &&& 31).toUInt32).toInt32).toUInt32 >>> ((4 : Int32) &&& 31).toUInt32).toInt32).toUInt32 >>> ((2 : Int32) &&& 31).toUInt32).toInt32).toUInt32 >>> ((1 : Int32) &&& 31).toUInt32).toInt32)) rfl ?_
          refine Ow.isub X0 hx (pc' := 78) (hb hby d_jdk_33_method_47_77) (z := ((1 : Int32) - ((((((((((xnlz_1.toUInt32 >>> ((16 : Int32) &&& 31).toUInt32).toInt32).toUInt32 >>> ((8 : Int32) &&& 31).toUInt32).toInt32).toUInt32 >>> ((4 : Int32) &&& 31).toUInt32).toInt32).toUInt32 >>> ((2 : Int32) &&& 31).toUInt32).toInt32).toUInt32 >>> ((1 : Int32) &&& 31).toUInt32).toInt32))) rfl ?_
          exact Wq.ret X0 (BodyLoose.notSynchronized Bd) (rv := some (.int ((1 : Int32) - ((((((((((xnlz_1.toUInt32 >>> ((16 : Int32) &&& 31).toUInt32).toInt32).toUInt32 >>> ((8 : Int32) &&& 31).toUInt32).toInt32).toUInt32 >>> ((4 : Int32) &&& 31).toUInt32).toInt32).toUInt32 >>> ((2 : Int32) &&& 31).toUInt32).toInt32).toUInt32 >>> ((1 : Int32) &&& 31).toUInt32).toInt32)))) (fun h => by rw [Bd.returns] at h; cases h) (fun _ hr => retOut X0 hx Bd.returns rfl (Or.inl ⟨rfl, Or.inl rfl, _, rfl⟩) (hb hby d_jdk_33_method_47_78) hr) (by decide) (by decide) ⟨by simp only [f_nlz, if_neg hc22, if_neg hc37, if_neg hc51, if_neg hc63], N0, e0⟩
theorem own_pos {x : Int32} (h : ¬ (x < (128 : Int32))) : (0 : Int32) < x := by
  rw [Int32.lt_iff_toInt_lt] at h ⊢
  have e0 : (0 : Int32).toInt = 0 := by decide
  have e1 : (128 : Int32).toInt = 128 := by decide
  omega
theorem kw23 {Z : State} {a0 : Array Value} (hw : ∀ d ∈ tables_1, d.before a0 Z = true) : (Jvm.Cond.code ({ cls := "java/lang/Integer", name := "numberOfLeadingZeros", desc := "(I)I" } : Jvm.MethodName) jdk_33_method_47_code (2 : Nat) (Option.some Jvm.ClassFile.FieldType.int)).before a0 Z = true := hw _ (List.mem_of_getElem? (i := 23) rfl)
theorem kw22 {Z : State} {a0 : Array Value} (hw : ∀ d ∈ tables_1, d.before a0 Z = true) : (Jvm.Cond.initialized "java/lang/Integer").before a0 Z = true := hw _ (List.mem_of_getElem? (i := 22) rfl)
theorem pd1 : parseMethodDescriptor "(I)I" = some ⟨[.int], some .int⟩ := by decide +kernel
theorem kw20 {Z : State} {a0 : Array Value} (hw : ∀ d ∈ tables_1, d.before a0 Z = true) : (Jvm.Cond.methodLink "com/example/opwire/opwire/codec/ber/BerLength" (40 : Nat) ({ cls := "java/lang/Integer", name := "numberOfLeadingZeros", desc := "(I)I" } : Jvm.MethodName)).before a0 Z = true := hw _ (List.mem_of_getElem? (i := 20) rfl)
theorem kw21 {Z : State} {a0 : Array Value} (hw : ∀ d ∈ tables_1, d.before a0 Z = true) : (Jvm.Cond.static ({ cls := "java/lang/Integer", name := "numberOfLeadingZeros", desc := "(I)I" } : Jvm.MethodName)).before a0 Z = true := hw _ (List.mem_of_getElem? (i := 21) rfl)
theorem d_prog_4_method_4_0 : decode prog_4_method_4_code 0 = .ok (.iload_n 0, 1) := by decide +kernel
theorem d_prog_4_method_4_1 : decode prog_4_method_4_code 1 = .ok (.ifCond .ge 17, 3) := by decide +kernel
theorem d_prog_4_method_4_18 : decode prog_4_method_4_code 18 = .ok (.iload_n 0, 1) := by decide +kernel
theorem d_prog_4_method_4_19 : decode prog_4_method_4_code 19 = .ok (.sipush 128, 3) := by decide +kernel
theorem d_prog_4_method_4_22 : decode prog_4_method_4_code 22 = .ok (.if_icmp .ge 5, 3) := by decide +kernel
theorem d_prog_4_method_4_25 : decode prog_4_method_4_code 25 = .ok (.iconst 1, 1) := by decide +kernel
theorem d_prog_4_method_4_27 : decode prog_4_method_4_code 27 = .ok (.bipush 32, 2) := by decide +kernel
theorem d_prog_4_method_4_29 : decode prog_4_method_4_code 29 = .ok (.iload_n 0, 1) := by decide +kernel
theorem d_prog_4_method_4_30 : decode prog_4_method_4_code 30 = .ok (.invokestatic 40, 3) := by decide +kernel
theorem d_prog_4_method_4_33 : decode prog_4_method_4_code 33 = .ok (.isub, 1) := by decide +kernel
theorem d_prog_4_method_4_34 : decode prog_4_method_4_code 34 = .ok (.istore_n 1, 1) := by decide +kernel
theorem d_prog_4_method_4_35 : decode prog_4_method_4_code 35 = .ok (.iconst 1, 1) := by decide +kernel
theorem d_prog_4_method_4_36 : decode prog_4_method_4_code 36 = .ok (.iload_n 1, 1) := by decide +kernel
theorem d_prog_4_method_4_37 : decode prog_4_method_4_code 37 = .ok (.bipush 8, 2) := by decide +kernel
theorem d_prog_4_method_4_39 : decode prog_4_method_4_code 39 = .ok (.iadd, 1) := by decide +kernel
theorem d_prog_4_method_4_40 : decode prog_4_method_4_code 40 = .ok (.iconst 1, 1) := by decide +kernel
theorem d_prog_4_method_4_41 : decode prog_4_method_4_code 41 = .ok (.isub, 1) := by decide +kernel
theorem d_prog_4_method_4_42 : decode prog_4_method_4_code 42 = .ok (.bipush 8, 2) := by decide +kernel
theorem d_prog_4_method_4_44 : decode prog_4_method_4_code 44 = .ok (.idiv, 1) := by decide +kernel
theorem d_prog_4_method_4_45 : decode prog_4_method_4_code 45 = .ok (.iadd, 1) := by decide +kernel
theorem ef_es (m : MethodId) (xes_1 : Int32) : entryFrame m #[(.int xes_1)] 2 = mkF m 0 #[.val (.int xes_1), .unset] [] := by first | (simp [entryFrame, mkF, argsToLocals, Value.category]; done) | rfl
def f_es (xes_1 : Int32) : Int32 := (if xes_1 < (128 : Int32) then (1 : Int32) else ((1 : Int32) + (((((32 : Int32) - (f_nlz xes_1)) + (8 : Int32)) - (1 : Int32)) / (8 : Int32))))
def Q_es (Z : State) (xes_1 : Int32) (h0 : Heap) (n0 : Nat) (v : Option Value) (h : Heap) (L : List Loc) : Prop := v = some (.int (f_es xes_1)) ∧ Fr n0 L ∧ h = h0
theorem d_prog_4_method_4_26 : decode prog_4_method_4_code 26 = .ok (.ireturn, 1) := by decide +kernel
theorem d_prog_4_method_4_46 : decode prog_4_method_4_code 46 = .ok (.ireturn, 1) := by decide +kernel
abbrev mt3 : MethodName := ⟨"com/example/opwire/opwire/codec/ber/BerLength", "encodedSize", "(I)I"⟩
set_option maxRecDepth 65536 in
set_option maxHeartbeats 40000000 in
theorem rm_es (l : Launch) (Z : State) (a0 : Array Value) (hw : ∀ d ∈ tables_1, d.before a0 Z = true) (ws : List Jvm.Cond) (xes_1 : Int32) (h0 : Heap) (n0 : Nat) (Z0 : n0 ≤ h0.size) (hc1 : ¬ (xes_1 < (0 : Int32))) :
    MetFree l mt3 (head1 (Jvm.Cond.code mt3 prog_4_method_4_code 2 (some .int) :: ws) ({ frames := 1, cells := 0, slots := 0, locals := 14 } : Room)) (fun a U => a = #[(.int xes_1)] ∧ Z.Warmed39 U.vm ∧ U.heap = h0) (fun _ _ _ _ _ => True) (fun _ U o U' => ∃ v L, o = .returned v ∧ (Q_es Z xes_1 h0 n0) v U'.heap L ∧ FrameEnd U o U' L ({ frames := 1, cells := 0, slots := 0, locals := 14 } : Room).cells ({ frames := 1, cells := 0, slots := 0, locals := 14 } : Room).slots) := by
  refine MetFree.of_bodySF (plainFor_of_name pn1) hisR ?_
  intro p e s m args below meth c s₁ Bd hml0 hP hK
  obtain ⟨rfl, hZ, hh⟩ := hP
  have hx := Bd.exec
  have hby := Bd.bytes
  have hml : c.maxLocals = 2 := hml0
  have hown : s.vm.findClass "com/example/opwire/opwire/codec/ber/BerLength" = some m.cls := findClass_of_methodNamed Bd.named
  have hnm := (name_of_methodNamed Bd.named Bd.method).1
  have X0 : Stand p l e ({ frames := 1, cells := 0, slots := 0, locals := 14 } : Room) s m #[(.int xes_1)] below meth c s₁ [] 0 0 := Stand.of_body Bd
  have e0 : s₁.heap = h0 := by rw [← hh, Bd.state]; rfl
  have N0 := Fr.nil n0
  refine Wq.step (p := p) (e := e) (below := below) (En := (fun o t L => FrameEnd s o t L ({ frames := 1, cells := 0, slots := 0, locals := 14 } : Room).cells ({ frames := 1, cells := 0, slots := 0, locals := 14 } : Room).slots)) (Q := (Q_es Z xes_1 h0 n0)) (fun t k => castTop (ef_es m xes_1) k) ?_
  show Wq _ _ _ _ _ (s₁.setTop (mkF m 0 #[.val (.int xes_1), .unset] []))
  refine Ow.iloadN X0 hx (pc' := 1) (hb hby d_prog_4_method_4_0) rfl ?_
  refine Ow.ifYes X0 hx (pc' := 18) (hb hby d_prog_4_method_4_1) ((if0 _ _).trans (flt hc1).2.1) (by decide) (by decide) ?_
  refine Ow.iloadN X0 hx (pc' := 19) (hb hby d_prog_4_method_4_18) rfl ?_
  refine Ow.sipush X0 hx (pc' := 22) (hb hby d_prog_4_method_4_19) (z := (128 : Int32)) rfl ?_
  by_cases hc22 : xes_1 < (128 : Int32)
  · skip
    refine Ow.icmpNo X0 hx (pc' := 25) (hb hby d_prog_4_method_4_22) (tlt hc22).2.1 ?_
    refine Ow.iconst X0 hx (pc' := 26) (hb hby d_prog_4_method_4_25) (z := (1 : Int32)) rfl ?_
    exact Wq.ret X0 (BodyLoose.notSynchronized Bd) (rv := some (.int (1 : Int32))) (fun h => by rw [Bd.returns] at h; cases h) (fun _ hr => retOut X0 hx Bd.returns rfl (Or.inl ⟨rfl, Or.inl rfl, _, rfl⟩) (hb hby d_prog_4_method_4_26) hr) (by decide) (by decide) ⟨by simp only [f_es, if_pos hc22], N0, e0⟩
  · skip
    refine Ow.icmpYes X0 hx (pc' := 27) (hb hby d_prog_4_method_4_22) (flt hc22).2.1 (by decide) (by decide) ?_
    refine Ow.bipush X0 hx (pc' := 29) (hb hby d_prog_4_method_4_27) (z := (32 : Int32)) rfl ?_
    refine Ow.iloadN X0 hx (pc' := 30) (hb hby d_prog_4_method_4_29) rfl ?_
    obtain ⟨_, _, ⟨T1, L1, k1, n1⟩, -, X1, ⟨Lc1, hQ1, l1, y1, z1⟩, st1⟩ := Jvm.LawKit.callS X0 hx (y := mt2) hown (mvT hZ (kw20 hw)) (mvT hZ (kw21 hw)) (mvT hZ (kw22 hw)) (mvT hZ (kw23 hw)) (by decide) (backOf (W := 1) (rm_nlz l Z a0 hw [] xes_1 h0 n0 Z0 (own_pos hc22)) hZ (kw23 hw) (kw22 hw) (by decide) (by decide)) (g := (mkF m 30 #[.val (.int xes_1), .unset] [(.int xes_1), (.int (32 : Int32))])) rfl (by rw [hml]; rfl) (argsL := [(.int xes_1)]) (rest := [(.int (32 : Int32))]) (lenOf pd1 rfl) rfl (by show 2 * 0 + _ ≤ _; exact Nat.le_of_eq rfl) (hb hby d_prog_4_method_4_30) (fun _ _ => ⟨rfl, e0, (by decide : 0 + 0 ≤ _), (by decide : 0 + 0 ≤ _)⟩)
    dsimp only [Pt.U, Pt.locs, Pt.cells, Pt.slots] at X1 l1 y1 z1 st1 hQ1
    subst l1 y1 z1
    obtain ⟨rfl, Nq1, e1⟩ := hQ1
    have N1 := Fr.app N0 Nq1
    refine Wq.step st1 ?_
    show Wq _ _ _ _ _ (T1.setTop (mkF m 33 #[.val (.int xes_1), .unset] [(.int (f_nlz xes_1)), (.int (32 : Int32))]))
    refine Ow.isub X1 hx (pc' := 34) (hb hby d_prog_4_method_4_33) (z := ((32 : Int32) - (f_nlz xes_1))) rfl ?_
    refine Ow.istoreN X1 hx (pc' := 35) (hb hby d_prog_4_method_4_34) (l' := #[.val (.int xes_1), .val (.int ((32 : Int32) - (f_nlz xes_1)))]) rfl ?_
    refine Ow.iconst X1 hx (pc' := 36) (hb hby d_prog_4_method_4_35) (z := (1 : Int32)) rfl ?_
    refine Ow.iloadN X1 hx (pc' := 37) (hb hby d_prog_4_method_4_36) rfl ?_
    refine Ow.bipush X1 hx (pc' := 39) (hb hby d_prog_4_method_4_37) (z := (8 : Int32)) rfl ?_
    refine Ow.iadd X1 hx (pc' := 40) (hb hby d_prog_4_method_4_39) (z := (((32 : Int32) - (f_nlz xes_1)) + (8 : Int32))) rfl ?_
    refine Ow.iconst X1 hx (pc' := 41) (hb hby d_prog_4_method_4_40) (z := (1 : Int32)) rfl ?_
    refine Ow.isub X1 hx (pc' := 42) (hb hby d_prog_4_method_4_41) (z := ((((32 : Int32) - (f_nlz xes_1)) + (8 : Int32)) - (1 : Int32))) rfl ?_
    refine Ow.bipush X1 hx (pc' := 44) (hb hby d_prog_4_method_4_42) (z := (8 : Int32)) rfl ?_
    refine Ow.idiv X1 hx (pc' := 45) (hb hby d_prog_4_method_4_44) (by decide : (8 : Int32) ≠ (0 : Int32)) (z := (((((32 : Int32) - (f_nlz xes_1)) + (8 : Int32)) - (1 : Int32)) / (8 : Int32))) rfl ?_
    refine Ow.iadd X1 hx (pc' := 46) (hb hby d_prog_4_method_4_45) (z := ((1 : Int32) + (((((32 : Int32) - (f_nlz xes_1)) + (8 : Int32)) - (1 : Int32)) / (8 : Int32)))) rfl ?_
    exact Wq.ret X1 (BodyLoose.notSynchronized Bd) (rv := some (.int ((1 : Int32) + (((((32 : Int32) - (f_nlz xes_1)) + (8 : Int32)) - (1 : Int32)) / (8 : Int32))))) (fun h => by rw [Bd.returns] at h; cases h) (fun _ hr => retOut X1 hx Bd.returns rfl (Or.inl ⟨rfl, Or.inl rfl, _, rfl⟩) (hb hby d_prog_4_method_4_46) hr) (by decide) (by decide) ⟨by simp only [f_es, if_neg hc22], N1, e1⟩
def Q_esk (Z : State) (x k : Int32) (h0 : Heap) (n0 : Nat) (v : Option Value) (h : Heap) (L : List Loc) : Prop := v = some (.int k) ∧ Fr n0 L ∧ h = h0
theorem rm_esk (l : Launch) (Z : State) (a0 : Array Value) (hw : ∀ d ∈ tables_1, d.before a0 Z = true) (ws : List Jvm.Cond) (x k : Int32) (h0 : Heap) (n0 : Nat) (Z0 : n0 ≤ h0.size) (hc1 : ¬ (x < (0 : Int32))) (hk : f_es x = k) :
    MetFree l mt3 (head1 (Jvm.Cond.code mt3 prog_4_method_4_code 2 (some .int) :: ws) ({ frames := 1, cells := 0, slots := 0, locals := 14 } : Room)) (fun a U => a = #[(.int x)] ∧ Z.Warmed39 U.vm ∧ U.heap = h0) (fun _ _ _ _ _ => True) (fun _ U o U' => ∃ v L, o = .returned v ∧ Q_esk Z x k h0 n0 v U'.heap L ∧ FrameEnd U o U' L ({ frames := 1, cells := 0, slots := 0, locals := 14 } : Room).cells ({ frames := 1, cells := 0, slots := 0, locals := 14 } : Room).slots) := by
  subst hk
  exact rm_es l Z a0 hw ws x h0 n0 Z0 hc1
theorem d_jdk_41_method_13_0 : decode jdk_41_method_13_code 0 = .ok (.iload_n 2, 1) := by decide +kernel
theorem d_jdk_41_method_13_1 : decode jdk_41_method_13_code 1 = .ok (.iload_n 0, 1) := by decide +kernel
theorem d_jdk_41_method_13_2 : decode jdk_41_method_13_code 2 = .ok (.ior, 1) := by decide +kernel
theorem d_jdk_41_method_13_3 : decode jdk_41_method_13_code 3 = .ok (.iload_n 1, 1) := by decide +kernel
theorem d_jdk_41_method_13_4 : decode jdk_41_method_13_code 4 = .ok (.ior, 1) := by decide +kernel
theorem d_jdk_41_method_13_5 : decode jdk_41_method_13_code 5 = .ok (.ifCond .lt 10, 3) := by decide +kernel
theorem d_jdk_41_method_13_8 : decode jdk_41_method_13_code 8 = .ok (.iload_n 1, 1) := by decide +kernel
theorem d_jdk_41_method_13_9 : decode jdk_41_method_13_code 9 = .ok (.iload_n 2, 1) := by decide +kernel
theorem d_jdk_41_method_13_10 : decode jdk_41_method_13_code 10 = .ok (.iload_n 0, 1) := by decide +kernel
theorem d_jdk_41_method_13_11 : decode jdk_41_method_13_code 11 = .ok (.isub, 1) := by decide +kernel
theorem d_jdk_41_method_13_12 : decode jdk_41_method_13_code 12 = .ok (.if_icmp .le 11, 3) := by decide +kernel
theorem d_jdk_41_method_13_23 : decode jdk_41_method_13_code 23 = .ok (.iload_n 0, 1) := by decide +kernel
theorem pn3 : plainName "jdk/internal/util/Preconditions" = true := by first | (simp [plainName, overriddenIn]; done) | decide +kernel
theorem ef_pc1 (m : MethodId) : entryFrame m #[(.int (0 : Int32)), (.int (1 : Int32)), (.int (5 : Int32)), .null] 4 = mkF m 0 #[.val (.int (0 : Int32)), .val (.int (1 : Int32)), .val (.int (5 : Int32)), .val .null] [] := by first | (simp [entryFrame, mkF, argsToLocals, Value.category]; done) | rfl
def Q_pc1 (Z : State)  (h0 : Heap) (n0 : Nat) (v : Option Value) (h : Heap) (L : List Loc) : Prop := v = some (.int (0 : Int32)) ∧ Fr n0 L ∧ h = h0
theorem d_jdk_41_method_13_24 : decode jdk_41_method_13_code 24 = .ok (.ireturn, 1) := by decide +kernel
abbrev mt4 : MethodName := ⟨"jdk/internal/util/Preconditions", "checkFromIndexSize", "(IIILjava/util/function/BiFunction;)I"⟩
set_option maxRecDepth 65536 in
set_option maxHeartbeats 40000000 in
theorem rm_pc1 (l : Launch) (Z : State) (a0 : Array Value) (hw : ∀ d ∈ tables_1, d.before a0 Z = true) (ws : List Jvm.Cond)  (h0 : Heap) (n0 : Nat) (Z0 : n0 ≤ h0.size)  :
    MetFree l mt4 (head1 (Jvm.Cond.code mt4 jdk_41_method_13_code 4 (some .int) :: ws) ({ frames := 0, cells := 0, slots := 0, locals := 0 } : Room)) (fun a U => a = #[(.int (0 : Int32)), (.int (1 : Int32)), (.int (5 : Int32)), .null] ∧ Z.Warmed39 U.vm ∧ U.heap = h0) (fun _ _ _ _ _ => True) (fun _ U o U' => ∃ v L, o = .returned v ∧ (Q_pc1 Z  h0 n0) v U'.heap L ∧ FrameEnd U o U' L ({ frames := 0, cells := 0, slots := 0, locals := 0 } : Room).cells ({ frames := 0, cells := 0, slots := 0, locals := 0 } : Room).slots) := by
  refine MetFree.of_bodySF (plainFor_of_name pn3) hisR ?_
  intro p e s m args below meth c s₁ Bd hml0 hP hK
  obtain ⟨rfl, hZ, hh⟩ := hP
  have hx := Bd.exec
  have hby := Bd.bytes
  have hml : c.maxLocals = 4 := hml0
  have hown : s.vm.findClass "jdk/internal/util/Preconditions" = some m.cls := findClass_of_methodNamed Bd.named
  have hnm := (name_of_methodNamed Bd.named Bd.method).1
  have X0 : Stand p l e ({ frames := 0, cells := 0, slots := 0, locals := 0 } : Room) s m #[(.int (0 : Int32)), (.int (1 : Int32)), (.int (5 : Int32)), .null] below meth c s₁ [] 0 0 := Stand.of_body Bd
  have e0 : s₁.heap = h0 := by rw [← hh, Bd.state]; rfl
  have N0 := Fr.nil n0
  refine Wq.step (p := p) (e := e) (below := below) (En := (fun o t L => FrameEnd s o t L ({ frames := 0, cells := 0, slots := 0, locals := 0 } : Room).cells ({ frames := 0, cells := 0, slots := 0, locals := 0 } : Room).slots)) (Q := (Q_pc1 Z  h0 n0)) (fun t k => castTop (ef_pc1 m ) k) ?_
  show Wq _ _ _ _ _ (s₁.setTop (mkF m 0 #[.val (.int (0 : Int32)), .val (.int (1 : Int32)), .val (.int (5 : Int32)), .val .null] []))
  refine Ow.iloadN X0 hx (pc' := 1) (hb hby d_jdk_41_method_13_0) rfl ?_
  refine Ow.iloadN X0 hx (pc' := 2) (hb hby d_jdk_41_method_13_1) rfl ?_
  refine Ow.ior X0 hx (pc' := 3) (hb hby d_jdk_41_method_13_2) (z := (5 : Int32)) rfl ?_
  refine Ow.iloadN X0 hx (pc' := 4) (hb hby d_jdk_41_method_13_3) rfl ?_
  refine Ow.ior X0 hx (pc' := 5) (hb hby d_jdk_41_method_13_4) (z := (5 : Int32)) rfl ?_
  refine Ow.ifNo X0 hx (pc' := 8) (hb hby d_jdk_41_method_13_5) ((if0 _ _).trans (flt (by decide : ¬ ((5 : Int32) < (0 : Int32)))).1) ?_
  refine Ow.iloadN X0 hx (pc' := 9) (hb hby d_jdk_41_method_13_8) rfl ?_
  refine Ow.iloadN X0 hx (pc' := 10) (hb hby d_jdk_41_method_13_9) rfl ?_
  refine Ow.iloadN X0 hx (pc' := 11) (hb hby d_jdk_41_method_13_10) rfl ?_
  refine Ow.isub X0 hx (pc' := 12) (hb hby d_jdk_41_method_13_11) (z := (5 : Int32)) rfl ?_
  refine Ow.icmpYes X0 hx (pc' := 23) (hb hby d_jdk_41_method_13_12) (flt (by decide : ¬ ((5 : Int32) < (1 : Int32)))).2.2.2 (by decide) (by decide) ?_
  refine Ow.iloadN X0 hx (pc' := 24) (hb hby d_jdk_41_method_13_23) rfl ?_
  exact Wq.ret X0 (BodyLoose.notSynchronized Bd) (rv := some (.int (0 : Int32))) (fun h => by rw [Bd.returns] at h; cases h) (fun _ hr => retOut X0 hx Bd.returns rfl (Or.inl ⟨rfl, Or.inl rfl, _, rfl⟩) (hb hby d_jdk_41_method_13_24) hr) (by decide) (by decide) ⟨rfl, N0, e0⟩
theorem kw19 {Z : State} {a0 : Array Value} (hw : ∀ d ∈ tables_1, d.before a0 Z = true) : (Jvm.Cond.code ({ cls := "jdk/internal/util/Preconditions", name := "checkFromIndexSize", desc := "(IIILjava/util/function/BiFunction;)I" } : Jvm.MethodName) jdk_41_method_13_code (4 : Nat) (Option.some Jvm.ClassFile.FieldType.int)).before a0 Z = true := hw _ (List.mem_of_getElem? (i := 19) rfl)
theorem kw18 {Z : State} {a0 : Array Value} (hw : ∀ d ∈ tables_1, d.before a0 Z = true) : (Jvm.Cond.initialized "jdk/internal/util/Preconditions").before a0 Z = true := hw _ (List.mem_of_getElem? (i := 18) rfl)
theorem pd2 : parseMethodDescriptor "(IIILjava/util/function/BiFunction;)I" = some ⟨[.int, .int, .int, (.object "java/util/function/BiFunction")], some .int⟩ := by decide +kernel
theorem kw16 {Z : State} {a0 : Array Value} (hw : ∀ d ∈ tables_1, d.before a0 Z = true) : (Jvm.Cond.methodLink "java/util/Objects" (115 : Nat) ({ cls := "jdk/internal/util/Preconditions", name := "checkFromIndexSize", desc := "(IIILjava/util/function/BiFunction;)I" } : Jvm.MethodName)).before a0 Z = true := hw _ (List.mem_of_getElem? (i := 16) rfl)
theorem kw17 {Z : State} {a0 : Array Value} (hw : ∀ d ∈ tables_1, d.before a0 Z = true) : (Jvm.Cond.static ({ cls := "jdk/internal/util/Preconditions", name := "checkFromIndexSize", desc := "(IIILjava/util/function/BiFunction;)I" } : Jvm.MethodName)).before a0 Z = true := hw _ (List.mem_of_getElem? (i := 17) rfl)
theorem d_jdk_31_method_19_0 : decode jdk_31_method_19_code 0 = .ok (.iload_n 0, 1) := by decide +kernel
theorem d_jdk_31_method_19_1 : decode jdk_31_method_19_code 1 = .ok (.iload_n 1, 1) := by decide +kernel
theorem d_jdk_31_method_19_2 : decode jdk_31_method_19_code 2 = .ok (.iload_n 2, 1) := by decide +kernel
theorem d_jdk_31_method_19_3 : decode jdk_31_method_19_code 3 = .ok (.aconst_null, 1) := by decide +kernel
theorem d_jdk_31_method_19_4 : decode jdk_31_method_19_code 4 = .ok (.invokestatic 115, 3) := by decide +kernel
theorem pn4 : plainName "java/util/Objects" = true := by first | (simp [plainName, overriddenIn]; done) | decide +kernel
theorem ef_ci1 (m : MethodId) : entryFrame m #[(.int (0 : Int32)), (.int (1 : Int32)), (.int (5 : Int32))] 3 = mkF m 0 #[.val (.int (0 : Int32)), .val (.int (1 : Int32)), .val (.int (5 : Int32))] [] := by first | (simp [entryFrame, mkF, argsToLocals, Value.category]; done) | rfl
def Q_ci1 (Z : State)  (h0 : Heap) (n0 : Nat) (v : Option Value) (h : Heap) (L : List Loc) : Prop := v = some (.int (0 : Int32)) ∧ Fr n0 L ∧ h = h0
theorem d_jdk_31_method_19_7 : decode jdk_31_method_19_code 7 = .ok (.ireturn, 1) := by decide +kernel
abbrev mt5 : MethodName := ⟨"java/util/Objects", "checkFromIndexSize", "(III)I"⟩
set_option maxRecDepth 65536 in
set_option maxHeartbeats 40000000 in
theorem rm_ci1 (l : Launch) (Z : State) (a0 : Array Value) (hw : ∀ d ∈ tables_1, d.before a0 Z = true) (ws : List Jvm.Cond)  (h0 : Heap) (n0 : Nat) (Z0 : n0 ≤ h0.size)  :
    MetFree l mt5 (head1 (Jvm.Cond.code mt5 jdk_31_method_19_code 3 (some .int) :: ws) ({ frames := 1, cells := 0, slots := 0, locals := 15 } : Room)) (fun a U => a = #[(.int (0 : Int32)), (.int (1 : Int32)), (.int (5 : Int32))] ∧ Z.Warmed39 U.vm ∧ U.heap = h0) (fun _ _ _ _ _ => True) (fun _ U o U' => ∃ v L, o = .returned v ∧ (Q_ci1 Z  h0 n0) v U'.heap L ∧ FrameEnd U o U' L ({ frames := 1, cells := 0, slots := 0, locals := 15 } : Room).cells ({ frames := 1, cells := 0, slots := 0, locals := 15 } : Room).slots) := by
  refine MetFree.of_bodySF (plainFor_of_name pn4) hisR ?_
  intro p e s m args below meth c s₁ Bd hml0 hP hK
  obtain ⟨rfl, hZ, hh⟩ := hP
  have hx := Bd.exec
  have hby := Bd.bytes
  have hml : c.maxLocals = 3 := hml0
  have hown : s.vm.findClass "java/util/Objects" = some m.cls := findClass_of_methodNamed Bd.named
  have hnm := (name_of_methodNamed Bd.named Bd.method).1
  have X0 : Stand p l e ({ frames := 1, cells := 0, slots := 0, locals := 15 } : Room) s m #[(.int (0 : Int32)), (.int (1 : Int32)), (.int (5 : Int32))] below meth c s₁ [] 0 0 := Stand.of_body Bd
  have e0 : s₁.heap = h0 := by rw [← hh, Bd.state]; rfl
  have N0 := Fr.nil n0
  refine Wq.step (p := p) (e := e) (below := below) (En := (fun o t L => FrameEnd s o t L ({ frames := 1, cells := 0, slots := 0, locals := 15 } : Room).cells ({ frames := 1, cells := 0, slots := 0, locals := 15 } : Room).slots)) (Q := (Q_ci1 Z  h0 n0)) (fun t k => castTop (ef_ci1 m ) k) ?_
  show Wq _ _ _ _ _ (s₁.setTop (mkF m 0 #[.val (.int (0 : Int32)), .val (.int (1 : Int32)), .val (.int (5 : Int32))] []))
  refine Ow.iloadN X0 hx (pc' := 1) (hb hby d_jdk_31_method_19_0) rfl ?_
  refine Ow.iloadN X0 hx (pc' := 2) (hb hby d_jdk_31_method_19_1) rfl ?_
  refine Ow.iloadN X0 hx (pc' := 3) (hb hby d_jdk_31_method_19_2) rfl ?_
  refine Ow.aconstNull X0 hx (pc' := 4) (hb hby d_jdk_31_method_19_3)  ?_
  obtain ⟨_, _, ⟨T2, L2, k2, n2⟩, -, X2, ⟨Lc2, hQ2, l2, y2, z2⟩, st2⟩ := Jvm.LawKit.callS X0 hx (y := mt4) hown (mvT hZ (kw16 hw)) (mvT hZ (kw17 hw)) (mvT hZ (kw18 hw)) (mvT hZ (kw19 hw)) (by decide) (backOf (W := 0) (rm_pc1 l Z a0 hw []  h0 n0 Z0 ) hZ (kw19 hw) (kw18 hw) (by decide) (by decide)) (g := (mkF m 4 #[.val (.int (0 : Int32)), .val (.int (1 : Int32)), .val (.int (5 : Int32))] [.null, (.int (5 : Int32)), (.int (1 : Int32)), (.int (0 : Int32))])) rfl (by rw [hml]; rfl) (argsL := [(.int (0 : Int32)), (.int (1 : Int32)), (.int (5 : Int32)), .null]) (rest := []) (lenOf pd2 rfl) rfl (by show 2 * 0 + _ ≤ _; exact Nat.le_of_eq rfl) (hb hby d_jdk_31_method_19_4) (fun _ _ => ⟨rfl, e0, (by decide : 0 + 0 ≤ _), (by decide : 0 + 0 ≤ _)⟩)
  dsimp only [Pt.U, Pt.locs, Pt.cells, Pt.slots] at X2 l2 y2 z2 st2 hQ2
  subst l2 y2 z2
  obtain ⟨rfl, Nq2, e2⟩ := hQ2
  have N2 := Fr.app N0 Nq2
  refine Wq.step st2 ?_
  show Wq _ _ _ _ _ (T2.setTop (mkF m 7 #[.val (.int (0 : Int32)), .val (.int (1 : Int32)), .val (.int (5 : Int32))] [(.int (0 : Int32))]))
  exact Wq.ret X2 (BodyLoose.notSynchronized Bd) (rv := some (.int (0 : Int32))) (fun h => by rw [Bd.returns] at h; cases h) (fun _ hr => retOut X2 hx Bd.returns rfl (Or.inl ⟨rfl, Or.inl rfl, _, rfl⟩) (hb hby d_jdk_31_method_19_7) hr) (by decide) (by decide) ⟨rfl, N2, e2⟩
theorem kw11 {Z : State} {a0 : Array Value} (hw : ∀ d ∈ tables_1, d.before a0 Z = true) : (Jvm.Cond.code ({ cls := "com/example/opwire/opwire/codec/ber/BerLength", name := "encodedSize", desc := "(I)I" } : Jvm.MethodName) prog_4_method_4_code (2 : Nat) (Option.some Jvm.ClassFile.FieldType.int)).before a0 Z = true := hw _ (List.mem_of_getElem? (i := 11) rfl)
theorem kw2 {Z : State} {a0 : Array Value} (hw : ∀ d ∈ tables_1, d.before a0 Z = true) : (Jvm.Cond.initialized "com/example/opwire/opwire/codec/ber/BerLength").before a0 Z = true := hw _ (List.mem_of_getElem? (i := 2) rfl)
theorem kw9 {Z : State} {a0 : Array Value} (hw : ∀ d ∈ tables_1, d.before a0 Z = true) : (Jvm.Cond.methodLink "com/example/opwire/opwire/codec/ber/BerLength" (44 : Nat) ({ cls := "com/example/opwire/opwire/codec/ber/BerLength", name := "encodedSize", desc := "(I)I" } : Jvm.MethodName)).before a0 Z = true := hw _ (List.mem_of_getElem? (i := 9) rfl)
theorem kw10 {Z : State} {a0 : Array Value} (hw : ∀ d ∈ tables_1, d.before a0 Z = true) : (Jvm.Cond.static ({ cls := "com/example/opwire/opwire/codec/ber/BerLength", name := "encodedSize", desc := "(I)I" } : Jvm.MethodName)).before a0 Z = true := hw _ (List.mem_of_getElem? (i := 10) rfl)
theorem kw15 {Z : State} {a0 : Array Value} (hw : ∀ d ∈ tables_1, d.before a0 Z = true) : (Jvm.Cond.code ({ cls := "java/util/Objects", name := "checkFromIndexSize", desc := "(III)I" } : Jvm.MethodName) jdk_31_method_19_code (3 : Nat) (Option.some Jvm.ClassFile.FieldType.int)).before a0 Z = true := hw _ (List.mem_of_getElem? (i := 15) rfl)
theorem kw14 {Z : State} {a0 : Array Value} (hw : ∀ d ∈ tables_1, d.before a0 Z = true) : (Jvm.Cond.initialized "java/util/Objects").before a0 Z = true := hw _ (List.mem_of_getElem? (i := 14) rfl)
theorem pd3 : parseMethodDescriptor "(III)I" = some ⟨[.int, .int, .int], some .int⟩ := by decide +kernel
theorem kw12 {Z : State} {a0 : Array Value} (hw : ∀ d ∈ tables_1, d.before a0 Z = true) : (Jvm.Cond.methodLink "com/example/opwire/opwire/codec/ber/BerLength" (47 : Nat) ({ cls := "java/util/Objects", name := "checkFromIndexSize", desc := "(III)I" } : Jvm.MethodName)).before a0 Z = true := hw _ (List.mem_of_getElem? (i := 12) rfl)
theorem kw13 {Z : State} {a0 : Array Value} (hw : ∀ d ∈ tables_1, d.before a0 Z = true) : (Jvm.Cond.static ({ cls := "java/util/Objects", name := "checkFromIndexSize", desc := "(III)I" } : Jvm.MethodName)).before a0 Z = true := hw _ (List.mem_of_getElem? (i := 13) rfl)
theorem d_prog_4_method_5_0 : decode prog_4_method_5_code 0 = .ok (.iload_n 0, 1) := by decide +kernel
theorem d_prog_4_method_5_1 : decode prog_4_method_5_code 1 = .ok (.invokestatic 44, 3) := by decide +kernel
theorem d_prog_4_method_5_4 : decode prog_4_method_5_code 4 = .ok (.istore_n 3, 1) := by decide +kernel
theorem d_prog_4_method_5_5 : decode prog_4_method_5_code 5 = .ok (.iload_n 2, 1) := by decide +kernel
theorem d_prog_4_method_5_6 : decode prog_4_method_5_code 6 = .ok (.iload_n 3, 1) := by decide +kernel
theorem d_prog_4_method_5_7 : decode prog_4_method_5_code 7 = .ok (.aload_n 1, 1) := by decide +kernel
theorem d_prog_4_method_5_8 : decode prog_4_method_5_code 8 = .ok (.arraylength, 1) := by decide +kernel
theorem d_prog_4_method_5_9 : decode prog_4_method_5_code 9 = .ok (.invokestatic 47, 3) := by decide +kernel
theorem d_prog_4_method_5_12 : decode prog_4_method_5_code 12 = .ok (.pop, 1) := by decide +kernel
theorem d_prog_4_method_5_13 : decode prog_4_method_5_code 13 = .ok (.iload_n 3, 1) := by decide +kernel
theorem d_prog_4_method_5_14 : decode prog_4_method_5_code 14 = .ok (.iconst 1, 1) := by decide +kernel
theorem d_prog_4_method_5_15 : decode prog_4_method_5_code 15 = .ok (.if_icmp .ne 12, 3) := by decide +kernel
theorem d_prog_4_method_5_18 : decode prog_4_method_5_code 18 = .ok (.aload_n 1, 1) := by decide +kernel
theorem d_prog_4_method_5_19 : decode prog_4_method_5_code 19 = .ok (.iload_n 2, 1) := by decide +kernel
theorem d_prog_4_method_5_20 : decode prog_4_method_5_code 20 = .ok (.iload_n 0, 1) := by decide +kernel
theorem d_prog_4_method_5_21 : decode prog_4_method_5_code 21 = .ok (.i2b, 1) := by decide +kernel
theorem d_prog_4_method_5_22 : decode prog_4_method_5_code 22 = .ok (.bastore, 1) := by decide +kernel
theorem d_prog_4_method_5_23 : decode prog_4_method_5_code 23 = .ok (.iload_n 2, 1) := by decide +kernel
theorem d_prog_4_method_5_24 : decode prog_4_method_5_code 24 = .ok (.iconst 1, 1) := by decide +kernel
theorem d_prog_4_method_5_25 : decode prog_4_method_5_code 25 = .ok (.iadd, 1) := by decide +kernel
theorem ef_enc1 (m : MethodId) (xenc1_1 : Int32) (aenc1_2 : Addr) : entryFrame m #[(.int xenc1_1), (.ref aenc1_2), (.int (0 : Int32))] 6 = mkF m 0 #[.val (.int xenc1_1), .val (.ref aenc1_2), .val (.int (0 : Int32)), .unset, .unset, .unset] [] := by first | (simp [entryFrame, mkF, argsToLocals, Value.category]; done) | rfl
def Q_enc1 (Z : State) (xenc1_1 : Int32) (aenc1_2 : Addr) (h0 : Heap) (n0 : Nat) (v : Option Value) (h : Heap) (L : List Loc) : Prop := v = some (.int (1 : Int32)) ∧ Fr n0 L ∧ Keep h0 h [aenc1_2] ∧ Al Z h aenc1_2 .byte [(.int ((xenc1_1.toInt8.toInt32).toInt8.toInt32)), (.int (0 : Int32)), (.int (0 : Int32)), (.int (0 : Int32)), (.int (0 : Int32))]
theorem d_prog_4_method_5_26 : decode prog_4_method_5_code 26 = .ok (.ireturn, 1) := by decide +kernel
abbrev mt6 : MethodName := ⟨"com/example/opwire/opwire/codec/ber/BerLength", "encode", "(I[BI)I"⟩
set_option maxRecDepth 65536 in
set_option maxHeartbeats 40000000 in
theorem rm_enc1 (l : Launch) (Z : State) (a0 : Array Value) (hw : ∀ d ∈ tables_1, d.before a0 Z = true) (ws : List Jvm.Cond) (xenc1_1 : Int32) (aenc1_2 : Addr) (h0 : Heap) (n0 : Nat) (Z0 : n0 ≤ h0.size) (V_aenc1_2 : Al Z h0 aenc1_2 .byte [(.int (0 : Int32)), (.int (0 : Int32)), (.int (0 : Int32)), (.int (0 : Int32)), (.int (0 : Int32))]) (g_aenc1_2 : n0 ≤ aenc1_2) (hge : ¬ (xenc1_1 < (0 : Int32))) (hk : f_es xenc1_1 = (1 : Int32)) :
    MetFree l mt6 (head1 (Jvm.Cond.code mt6 prog_4_method_5_code 6 (some .int) :: ws) ({ frames := 2, cells := 0, slots := 0, locals := 29 } : Room)) (fun a U => a = #[(.int xenc1_1), (.ref aenc1_2), (.int (0 : Int32))] ∧ Z.Warmed39 U.vm ∧ U.heap = h0) (fun _ _ _ _ _ => True) (fun _ U o U' => ∃ v L, o = .returned v ∧ (Q_enc1 Z xenc1_1 aenc1_2 h0 n0) v U'.heap L ∧ FrameEnd U o U' L ({ frames := 2, cells := 0, slots := 0, locals := 29 } : Room).cells ({ frames := 2, cells := 0, slots := 0, locals := 29 } : Room).slots) := by
  refine MetFree.of_bodySF (plainFor_of_name pn1) hisR ?_
  intro p e s m args below meth c s₁ Bd hml0 hP hK
  obtain ⟨rfl, hZ, hh⟩ := hP
  have hx := Bd.exec
  have hby := Bd.bytes
  have hml : c.maxLocals = 6 := hml0
  have hown : s.vm.findClass "com/example/opwire/opwire/codec/ber/BerLength" = some m.cls := findClass_of_methodNamed Bd.named
  have hnm := (name_of_methodNamed Bd.named Bd.method).1
  have X0 : Stand p l e ({ frames := 2, cells := 0, slots := 0, locals := 29 } : Room) s m #[(.int xenc1_1), (.ref aenc1_2), (.int (0 : Int32))] below meth c s₁ [] 0 0 := Stand.of_body Bd
  have e0 : s₁.heap = h0 := by rw [← hh, Bd.state]; rfl
  have N0 := Fr.nil n0
  refine Wq.step (p := p) (e := e) (below := below) (En := (fun o t L => FrameEnd s o t L ({ frames := 2, cells := 0, slots := 0, locals := 29 } : Room).cells ({ frames := 2, cells := 0, slots := 0, locals := 29 } : Room).slots)) (Q := (Q_enc1 Z xenc1_1 aenc1_2 h0 n0)) (fun t k => castTop (ef_enc1 m xenc1_1 aenc1_2) k) ?_
  show Wq _ _ _ _ _ (s₁.setTop (mkF m 0 #[.val (.int xenc1_1), .val (.ref aenc1_2), .val (.int (0 : Int32)), .unset, .unset, .unset] []))
  refine Ow.iloadN X0 hx (pc' := 1) (hb hby d_prog_4_method_5_0) rfl ?_
  obtain ⟨_, _, ⟨T3, L3, k3, n3⟩, -, X3, ⟨Lc3, hQ3, l3, y3, z3⟩, st3⟩ := Jvm.LawKit.callS X0 hx (y := mt3) hown (mvT hZ (kw9 hw)) (mvT hZ (kw10 hw)) (mvT hZ (kw2 hw)) (mvT hZ (kw11 hw)) (by decide) (backOf (W := 0) (rm_esk l Z a0 hw [] xenc1_1 (1 : Int32) h0 n0 Z0 (hge) (hk)) hZ (kw11 hw) (kw2 hw) (by decide) (by decide)) (g := (mkF m 1 #[.val (.int xenc1_1), .val (.ref aenc1_2), .val (.int (0 : Int32)), .unset, .unset, .unset] [(.int xenc1_1)])) rfl (by rw [hml]; rfl) (argsL := [(.int xenc1_1)]) (rest := []) (lenOf pd1 rfl) rfl (by show 2 * 0 + _ ≤ _; exact Nat.le_of_eq rfl) (hb hby d_prog_4_method_5_1) (fun _ _ => ⟨rfl, e0, (by decide : 0 + 0 ≤ _), (by decide : 0 + 0 ≤ _)⟩)
  dsimp only [Pt.U, Pt.locs, Pt.cells, Pt.slots] at X3 l3 y3 z3 st3 hQ3
  subst l3 y3 z3
  obtain ⟨rfl, Nq3, e3⟩ := hQ3
  have N3 := Fr.app N0 Nq3
  refine Wq.step st3 ?_
  show Wq _ _ _ _ _ (T3.setTop (mkF m 4 #[.val (.int xenc1_1), .val (.ref aenc1_2), .val (.int (0 : Int32)), .unset, .unset, .unset] [(.int (1 : Int32))]))
  refine Ow.istoreN X3 hx (pc' := 5) (hb hby d_prog_4_method_5_4) (l' := #[.val (.int xenc1_1), .val (.ref aenc1_2), .val (.int (0 : Int32)), .val (.int (1 : Int32)), .unset, .unset]) rfl ?_
  refine Ow.iloadN X3 hx (pc' := 6) (hb hby d_prog_4_method_5_5) rfl ?_
  refine Ow.iloadN X3 hx (pc' := 7) (hb hby d_prog_4_method_5_6) rfl ?_
  refine Ow.aloadN X3 hx (pc' := 8) (hb hby d_prog_4_method_5_7) rfl rfl ?_
  refine Ow.lenA X3 hx hZ e3 V_aenc1_2 (pc' := 9) (hb hby d_prog_4_method_5_8) (n := (5 : Int32)) (rfl) ?_
  obtain ⟨_, _, ⟨T4, L4, k4, n4⟩, -, X4, ⟨Lc4, hQ4, l4, y4, z4⟩, st4⟩ := Jvm.LawKit.callS X3 hx (y := mt5) hown (mvT hZ (kw12 hw)) (mvT hZ (kw13 hw)) (mvT hZ (kw14 hw)) (mvT hZ (kw15 hw)) (by decide) (backOf (W := 0) (rm_ci1 l Z a0 hw []  h0 n0 Z0 ) hZ (kw15 hw) (kw14 hw) (by decide) (by decide)) (g := (mkF m 9 #[.val (.int xenc1_1), .val (.ref aenc1_2), .val (.int (0 : Int32)), .val (.int (1 : Int32)), .unset, .unset] [(.int (5 : Int32)), (.int (1 : Int32)), (.int (0 : Int32))])) rfl (by rw [hml]; rfl) (argsL := [(.int (0 : Int32)), (.int (1 : Int32)), (.int (5 : Int32))]) (rest := []) (lenOf pd3 rfl) rfl (by show 2 * 0 + _ ≤ _; exact Nat.le_of_eq rfl) (hb hby d_prog_4_method_5_9) (fun _ _ => ⟨rfl, e3, (by decide : 0 + 0 ≤ _), (by decide : 0 + 0 ≤ _)⟩)
  dsimp only [Pt.U, Pt.locs, Pt.cells, Pt.slots] at X4 l4 y4 z4 st4 hQ4
  subst l4 y4 z4
  obtain ⟨rfl, Nq4, e4⟩ := hQ4
  have N4 := Fr.app N3 Nq4
  refine Wq.step st4 ?_
  show Wq _ _ _ _ _ (T4.setTop (mkF m 12 #[.val (.int xenc1_1), .val (.ref aenc1_2), .val (.int (0 : Int32)), .val (.int (1 : Int32)), .unset, .unset] [(.int (0 : Int32))]))
  refine Ow.pop X4 hx (pc' := 13) (hb hby d_prog_4_method_5_12) rfl ?_
  refine Ow.iloadN X4 hx (pc' := 14) (hb hby d_prog_4_method_5_13) rfl ?_
  refine Ow.iconst X4 hx (pc' := 15) (hb hby d_prog_4_method_5_14) (z := (1 : Int32)) rfl ?_
  refine Ow.icmpNo X4 hx (pc' := 18) (hb hby d_prog_4_method_5_15) (teq (by decide : (1 : Int32) = (1 : Int32))).2 ?_
  refine Ow.aloadN X4 hx (pc' := 19) (hb hby d_prog_4_method_5_18) rfl rfl ?_
  refine Ow.iloadN X4 hx (pc' := 20) (hb hby d_prog_4_method_5_19) rfl ?_
  refine Ow.iloadN X4 hx (pc' := 21) (hb hby d_prog_4_method_5_20) rfl ?_
  refine Ow.i2b X4 hx (pc' := 22) (hb hby d_prog_4_method_5_21) (z := (xenc1_1.toInt8.toInt32)) rfl ?_
  obtain ⟨T5, h5, X5, e5, W5, Vr5, st5⟩ := asB X4 hx hZ e4 V_aenc1_2 (j := (0 : Int32)) (i := 0) (by decide) rfl (Nat.le_of_ble_eq_true rfl) (y := ((xenc1_1.toInt8.toInt32).toInt8.toInt32)) rfl (g := (mkF m 22 #[.val (.int xenc1_1), .val (.ref aenc1_2), .val (.int (0 : Int32)), .val (.int (1 : Int32)), .unset, .unset] [(.int (xenc1_1.toInt8.toInt32)), (.int (0 : Int32)), (.ref aenc1_2)])) rfl rfl (hb hby d_prog_4_method_5_22)
  refine Wq.step st5 ?_
  have N5 := Fr.snoc X5 N4 g_aenc1_2
  have K5 : Keep h0 h5 [aenc1_2] := (Keep.refl h0 [aenc1_2]).wr W5 (Or.inl (List.mem_of_getElem? (i := 0) rfl))
  have Z5 : n0 ≤ h5.size := Nat.le_trans Z0 (Keep.of_wr W5).1
  have V_aenc1_2_t5 : Al Z h5 aenc1_2 .byte [(.int ((xenc1_1.toInt8.toInt32).toInt8.toInt32)), (.int (0 : Int32)), (.int (0 : Int32)), (.int (0 : Int32)), (.int (0 : Int32))] := Vr5
  show Wq _ _ _ _ _ (T5.setTop (mkF m 23 #[.val (.int xenc1_1), .val (.ref aenc1_2), .val (.int (0 : Int32)), .val (.int (1 : Int32)), .unset, .unset] []))
  refine Ow.iloadN X5 hx (pc' := 24) (hb hby d_prog_4_method_5_23) rfl ?_
  refine Ow.iconst X5 hx (pc' := 25) (hb hby d_prog_4_method_5_24) (z := (1 : Int32)) rfl ?_
  refine Ow.iadd X5 hx (pc' := 26) (hb hby d_prog_4_method_5_25) (z := (1 : Int32)) rfl ?_
  exact Wq.ret X5 (BodyLoose.notSynchronized Bd) (rv := some (.int (1 : Int32))) (fun h => by rw [Bd.returns] at h; cases h) (fun _ hr => retOut X5 hx Bd.returns rfl (Or.inl ⟨rfl, Or.inl rfl, _, rfl⟩) (hb hby d_prog_4_method_5_26) hr) (by decide) (by decide) (by rw [e5]; exact ⟨rfl, N5, K5, V_aenc1_2_t5⟩)
theorem ef_pc2 (m : MethodId) : entryFrame m #[(.int (0 : Int32)), (.int (2 : Int32)), (.int (5 : Int32)), .null] 4 = mkF m 0 #[.val (.int (0 : Int32)), .val (.int (2 : Int32)), .val (.int (5 : Int32)), .val .null] [] := by first | (simp [entryFrame, mkF, argsToLocals, Value.category]; done) | rfl
def Q_pc2 (Z : State)  (h0 : Heap) (n0 : Nat) (v : Option Value) (h : Heap) (L : List Loc) : Prop := v = some (.int (0 : Int32)) ∧ Fr n0 L ∧ h = h0
set_option maxRecDepth 65536 in
set_option maxHeartbeats 40000000 in
theorem rm_pc2 (l : Launch) (Z : State) (a0 : Array Value) (hw : ∀ d ∈ tables_1, d.before a0 Z = true) (ws : List Jvm.Cond)  (h0 : Heap) (n0 : Nat) (Z0 : n0 ≤ h0.size)  :
    MetFree l mt4 (head1 (Jvm.Cond.code mt4 jdk_41_method_13_code 4 (some .int) :: ws) ({ frames := 0, cells := 0, slots := 0, locals := 0 } : Room)) (fun a U => a = #[(.int (0 : Int32)), (.int (2 : Int32)), (.int (5 : Int32)), .null] ∧ Z.Warmed39 U.vm ∧ U.heap = h0) (fun _ _ _ _ _ => True) (fun _ U o U' => ∃ v L, o = .returned v ∧ (Q_pc2 Z  h0 n0) v U'.heap L ∧ FrameEnd U o U' L ({ frames := 0, cells := 0, slots := 0, locals := 0 } : Room).cells ({ frames := 0, cells := 0, slots := 0, locals := 0 } : Room).slots) := by
  refine MetFree.of_bodySF (plainFor_of_name pn3) hisR ?_
  intro p e s m args below meth c s₁ Bd hml0 hP hK
  obtain ⟨rfl, hZ, hh⟩ := hP
  have hx := Bd.exec
  have hby := Bd.bytes
  have hml : c.maxLocals = 4 := hml0
  have hown : s.vm.findClass "jdk/internal/util/Preconditions" = some m.cls := findClass_of_methodNamed Bd.named
  have hnm := (name_of_methodNamed Bd.named Bd.method).1
  have X0 : Stand p l e ({ frames := 0, cells := 0, slots := 0, locals := 0 } : Room) s m #[(.int (0 : Int32)), (.int (2 : Int32)), (.int (5 : Int32)), .null] below meth c s₁ [] 0 0 := Stand.of_body Bd
  have e0 : s₁.heap = h0 := by rw [← hh, Bd.state]; rfl
  have N0 := Fr.nil n0
  refine Wq.step (p := p) (e := e) (below := below) (En := (fun o t L => FrameEnd s o t L ({ frames := 0, cells := 0, slots := 0, locals := 0 } : Room).cells ({ frames := 0, cells := 0, slots := 0, locals := 0 } : Room).slots)) (Q := (Q_pc2 Z  h0 n0)) (fun t k => castTop (ef_pc2 m ) k) ?_
  show Wq _ _ _ _ _ (s₁.setTop (mkF m 0 #[.val (.int (0 : Int32)), .val (.int (2 : Int32)), .val (.int (5 : Int32)), .val .null] []))
  refine Ow.iloadN X0 hx (pc' := 1) (hb hby d_jdk_41_method_13_0) rfl ?_
  refine Ow.iloadN X0 hx (pc' := 2) (hb hby d_jdk_41_method_13_1) rfl ?_
  refine Ow.ior X0 hx (pc' := 3) (hb hby d_jdk_41_method_13_2) (z := (5 : Int32)) rfl ?_
  refine Ow.iloadN X0 hx (pc' := 4) (hb hby d_jdk_41_method_13_3) rfl ?_
  refine Ow.ior X0 hx (pc' := 5) (hb hby d_jdk_41_method_13_4) (z := (7 : Int32)) rfl ?_
  refine Ow.ifNo X0 hx (pc' := 8) (hb hby d_jdk_41_method_13_5) ((if0 _ _).trans (flt (by decide : ¬ ((7 : Int32) < (0 : Int32)))).1) ?_
  refine Ow.iloadN X0 hx (pc' := 9) (hb hby d_jdk_41_method_13_8) rfl ?_
  refine Ow.iloadN X0 hx (pc' := 10) (hb hby d_jdk_41_method_13_9) rfl ?_
  refine Ow.iloadN X0 hx (pc' := 11) (hb hby d_jdk_41_method_13_10) rfl ?_
  refine Ow.isub X0 hx (pc' := 12) (hb hby d_jdk_41_method_13_11) (z := (5 : Int32)) rfl ?_
  refine Ow.icmpYes X0 hx (pc' := 23) (hb hby d_jdk_41_method_13_12) (flt (by decide : ¬ ((5 : Int32) < (2 : Int32)))).2.2.2 (by decide) (by decide) ?_
  refine Ow.iloadN X0 hx (pc' := 24) (hb hby d_jdk_41_method_13_23) rfl ?_
  exact Wq.ret X0 (BodyLoose.notSynchronized Bd) (rv := some (.int (0 : Int32))) (fun h => by rw [Bd.returns] at h; cases h) (fun _ hr => retOut X0 hx Bd.returns rfl (Or.inl ⟨rfl, Or.inl rfl, _, rfl⟩) (hb hby d_jdk_41_method_13_24) hr) (by decide) (by decide) ⟨rfl, N0, e0⟩
theorem ef_ci2 (m : MethodId) : entryFrame m #[(.int (0 : Int32)), (.int (2 : Int32)), (.int (5 : Int32))] 3 = mkF m 0 #[.val (.int (0 : Int32)), .val (.int (2 : Int32)), .val (.int (5 : Int32))] [] := by first | (simp [entryFrame, mkF, argsToLocals, Value.category]; done) | rfl
def Q_ci2 (Z : State)  (h0 : Heap) (n0 : Nat) (v : Option Value) (h : Heap) (L : List Loc) : Prop := v = some (.int (0 : Int32)) ∧ Fr n0 L ∧ h = h0
set_option maxRecDepth 65536 in
set_option maxHeartbeats 40000000 in
theorem rm_ci2 (l : Launch) (Z : State) (a0 : Array Value) (hw : ∀ d ∈ tables_1, d.before a0 Z = true) (ws : List Jvm.Cond)  (h0 : Heap) (n0 : Nat) (Z0 : n0 ≤ h0.size)  :
    MetFree l mt5 (head1 (Jvm.Cond.code mt5 jdk_31_method_19_code 3 (some .int) :: ws) ({ frames := 1, cells := 0, slots := 0, locals := 15 } : Room)) (fun a U => a = #[(.int (0 : Int32)), (.int (2 : Int32)), (.int (5 : Int32))] ∧ Z.Warmed39 U.vm ∧ U.heap = h0) (fun _ _ _ _ _ => True) (fun _ U o U' => ∃ v L, o = .returned v ∧ (Q_ci2 Z  h0 n0) v U'.heap L ∧ FrameEnd U o U' L ({ frames := 1, cells := 0, slots := 0, locals := 15 } : Room).cells ({ frames := 1, cells := 0, slots := 0, locals := 15 } : Room).slots) := by
  refine MetFree.of_bodySF (plainFor_of_name pn4) hisR ?_
  intro p e s m args below meth c s₁ Bd hml0 hP hK
  obtain ⟨rfl, hZ, hh⟩ := hP
  have hx := Bd.exec
  have hby := Bd.bytes
  have hml : c.maxLocals = 3 := hml0
  have hown : s.vm.findClass "java/util/Objects" = some m.cls := findClass_of_methodNamed Bd.named
  have hnm := (name_of_methodNamed Bd.named Bd.method).1
  have X0 : Stand p l e ({ frames := 1, cells := 0, slots := 0, locals := 15 } : Room) s m #[(.int (0 : Int32)), (.int (2 : Int32)), (.int (5 : Int32))] below meth c s₁ [] 0 0 := Stand.of_body Bd
  have e0 : s₁.heap = h0 := by rw [← hh, Bd.state]; rfl
  have N0 := Fr.nil n0
  refine Wq.step (p := p) (e := e) (below := below) (En := (fun o t L => FrameEnd s o t L ({ frames := 1, cells := 0, slots := 0, locals := 15 } : Room).cells ({ frames := 1, cells := 0, slots := 0, locals := 15 } : Room).slots)) (Q := (Q_ci2 Z  h0 n0)) (fun t k => castTop (ef_ci2 m ) k) ?_
  show Wq _ _ _ _ _ (s₁.setTop (mkF m 0 #[.val (.int (0 : Int32)), .val (.int (2 : Int32)), .val (.int (5 : Int32))] []))
  refine Ow.iloadN X0 hx (pc' := 1) (hb hby d_jdk_31_method_19_0) rfl ?_
  refine Ow.iloadN X0 hx (pc' := 2) (hb hby d_jdk_31_method_19_1) rfl ?_
  refine Ow.iloadN X0 hx (pc' := 3) (hb hby d_jdk_31_method_19_2) rfl ?_
  refine Ow.aconstNull X0 hx (pc' := 4) (hb hby d_jdk_31_method_19_3)  ?_
  obtain ⟨_, _, ⟨T6, L6, k6, n6⟩, -, X6, ⟨Lc6, hQ6, l6, y6, z6⟩, st6⟩ := Jvm.LawKit.callS X0 hx (y := mt4) hown (mvT hZ (kw16 hw)) (mvT hZ (kw17 hw)) (mvT hZ (kw18 hw)) (mvT hZ (kw19 hw)) (by decide) (backOf (W := 0) (rm_pc2 l Z a0 hw []  h0 n0 Z0 ) hZ (kw19 hw) (kw18 hw) (by decide) (by decide)) (g := (mkF m 4 #[.val (.int (0 : Int32)), .val (.int (2 : Int32)), .val (.int (5 : Int32))] [.null, (.int (5 : Int32)), (.int (2 : Int32)), (.int (0 : Int32))])) rfl (by rw [hml]; rfl) (argsL := [(.int (0 : Int32)), (.int (2 : Int32)), (.int (5 : Int32)), .null]) (rest := []) (lenOf pd2 rfl) rfl (by show 2 * 0 + _ ≤ _; exact Nat.le_of_eq rfl) (hb hby d_jdk_31_method_19_4) (fun _ _ => ⟨rfl, e0, (by decide : 0 + 0 ≤ _), (by decide : 0 + 0 ≤ _)⟩)
  dsimp only [Pt.U, Pt.locs, Pt.cells, Pt.slots] at X6 l6 y6 z6 st6 hQ6
  subst l6 y6 z6
  obtain ⟨rfl, Nq6, e6⟩ := hQ6
  have N6 := Fr.app N0 Nq6
  refine Wq.step st6 ?_
  show Wq _ _ _ _ _ (T6.setTop (mkF m 7 #[.val (.int (0 : Int32)), .val (.int (2 : Int32)), .val (.int (5 : Int32))] [(.int (0 : Int32))]))
  exact Wq.ret X6 (BodyLoose.notSynchronized Bd) (rv := some (.int (0 : Int32))) (fun h => by rw [Bd.returns] at h; cases h) (fun _ hr => retOut X6 hx Bd.returns rfl (Or.inl ⟨rfl, Or.inl rfl, _, rfl⟩) (hb hby d_jdk_31_method_19_7) hr) (by decide) (by decide) ⟨rfl, N6, e6⟩
theorem d_prog_4_method_5_27 : decode prog_4_method_5_code 27 = .ok (.aload_n 1, 1) := by decide +kernel
theorem d_prog_4_method_5_28 : decode prog_4_method_5_code 28 = .ok (.iload_n 2, 1) := by decide +kernel
theorem d_prog_4_method_5_29 : decode prog_4_method_5_code 29 = .ok (.sipush 128, 3) := by decide +kernel
theorem d_prog_4_method_5_32 : decode prog_4_method_5_code 32 = .ok (.iload_n 3, 1) := by decide +kernel
theorem d_prog_4_method_5_33 : decode prog_4_method_5_code 33 = .ok (.iconst 1, 1) := by decide +kernel
theorem d_prog_4_method_5_34 : decode prog_4_method_5_code 34 = .ok (.isub, 1) := by decide +kernel
theorem d_prog_4_method_5_35 : decode prog_4_method_5_code 35 = .ok (.ior, 1) := by decide +kernel
theorem d_prog_4_method_5_36 : decode prog_4_method_5_code 36 = .ok (.i2b, 1) := by decide +kernel
theorem d_prog_4_method_5_37 : decode prog_4_method_5_code 37 = .ok (.bastore, 1) := by decide +kernel
theorem d_prog_4_method_5_38 : decode prog_4_method_5_code 38 = .ok (.iload_n 0, 1) := by decide +kernel
theorem d_prog_4_method_5_39 : decode prog_4_method_5_code 39 = .ok (.istore 4, 2) := by decide +kernel
theorem d_prog_4_method_5_41 : decode prog_4_method_5_code 41 = .ok (.iload_n 2, 1) := by decide +kernel
theorem d_prog_4_method_5_42 : decode prog_4_method_5_code 42 = .ok (.iload_n 3, 1) := by decide +kernel
theorem d_prog_4_method_5_43 : decode prog_4_method_5_code 43 = .ok (.iadd, 1) := by decide +kernel
theorem d_prog_4_method_5_44 : decode prog_4_method_5_code 44 = .ok (.iconst 1, 1) := by decide +kernel
theorem d_prog_4_method_5_45 : decode prog_4_method_5_code 45 = .ok (.isub, 1) := by decide +kernel
theorem d_prog_4_method_5_46 : decode prog_4_method_5_code 46 = .ok (.istore 5, 2) := by decide +kernel
theorem d_prog_4_method_5_48 : decode prog_4_method_5_code 48 = .ok (.iload 5, 2) := by decide +kernel
theorem d_prog_4_method_5_50 : decode prog_4_method_5_code 50 = .ok (.iload_n 2, 1) := by decide +kernel
theorem d_prog_4_method_5_51 : decode prog_4_method_5_code 51 = .ok (.if_icmp .le 23, 3) := by decide +kernel
theorem d_prog_4_method_5_54 : decode prog_4_method_5_code 54 = .ok (.aload_n 1, 1) := by decide +kernel
theorem d_prog_4_method_5_55 : decode prog_4_method_5_code 55 = .ok (.iload 5, 2) := by decide +kernel
theorem d_prog_4_method_5_57 : decode prog_4_method_5_code 57 = .ok (.iload 4, 2) := by decide +kernel
theorem d_prog_4_method_5_59 : decode prog_4_method_5_code 59 = .ok (.i2b, 1) := by decide +kernel
theorem d_prog_4_method_5_60 : decode prog_4_method_5_code 60 = .ok (.bastore, 1) := by decide +kernel
theorem d_prog_4_method_5_61 : decode prog_4_method_5_code 61 = .ok (.iload 4, 2) := by decide +kernel
theorem d_prog_4_method_5_63 : decode prog_4_method_5_code 63 = .ok (.bipush 8, 2) := by decide +kernel
theorem d_prog_4_method_5_65 : decode prog_4_method_5_code 65 = .ok (.iushr, 1) := by decide +kernel
theorem d_prog_4_method_5_66 : decode prog_4_method_5_code 66 = .ok (.istore 4, 2) := by decide +kernel
theorem d_prog_4_method_5_68 : decode prog_4_method_5_code 68 = .ok (.iinc 5 (-1), 3) := by decide +kernel
theorem d_prog_4_method_5_71 : decode prog_4_method_5_code 71 = .ok (.goto (-23), 3) := by decide +kernel
theorem d_prog_4_method_5_74 : decode prog_4_method_5_code 74 = .ok (.iload_n 2, 1) := by decide +kernel
theorem d_prog_4_method_5_75 : decode prog_4_method_5_code 75 = .ok (.iload_n 3, 1) := by decide +kernel
theorem d_prog_4_method_5_76 : decode prog_4_method_5_code 76 = .ok (.iadd, 1) := by decide +kernel
theorem ef_enc2 (m : MethodId) (xenc2_1 : Int32) (aenc2_2 : Addr) : entryFrame m #[(.int xenc2_1), (.ref aenc2_2), (.int (0 : Int32))] 6 = mkF m 0 #[.val (.int xenc2_1), .val (.ref aenc2_2), .val (.int (0 : Int32)), .unset, .unset, .unset] [] := by first | (simp [entryFrame, mkF, argsToLocals, Value.category]; done) | rfl
def Q_enc2 (Z : State) (xenc2_1 : Int32) (aenc2_2 : Addr) (h0 : Heap) (n0 : Nat) (v : Option Value) (h : Heap) (L : List Loc) : Prop := v = some (.int (2 : Int32)) ∧ Fr n0 L ∧ Keep h0 h [aenc2_2] ∧ Al Z h aenc2_2 .byte [(.int (-127 : Int32)), (.int ((xenc2_1.toInt8.toInt32).toInt8.toInt32)), (.int (0 : Int32)), (.int (0 : Int32)), (.int (0 : Int32))]
theorem d_prog_4_method_5_77 : decode prog_4_method_5_code 77 = .ok (.ireturn, 1) := by decide +kernel
set_option maxRecDepth 65536 in
set_option maxHeartbeats 40000000 in
theorem rm_enc2 (l : Launch) (Z : State) (a0 : Array Value) (hw : ∀ d ∈ tables_1, d.before a0 Z = true) (ws : List Jvm.Cond) (xenc2_1 : Int32) (aenc2_2 : Addr) (h0 : Heap) (n0 : Nat) (Z0 : n0 ≤ h0.size) (V_aenc2_2 : Al Z h0 aenc2_2 .byte [(.int (0 : Int32)), (.int (0 : Int32)), (.int (0 : Int32)), (.int (0 : Int32)), (.int (0 : Int32))]) (g_aenc2_2 : n0 ≤ aenc2_2) (hge : ¬ (xenc2_1 < (0 : Int32))) (hk : f_es xenc2_1 = (2 : Int32)) :
    MetFree l mt6 (head1 (Jvm.Cond.code mt6 prog_4_method_5_code 6 (some .int) :: ws) ({ frames := 2, cells := 0, slots := 0, locals := 29 } : Room)) (fun a U => a = #[(.int xenc2_1), (.ref aenc2_2), (.int (0 : Int32))] ∧ Z.Warmed39 U.vm ∧ U.heap = h0) (fun _ _ _ _ _ => True) (fun _ U o U' => ∃ v L, o = .returned v ∧ (Q_enc2 Z xenc2_1 aenc2_2 h0 n0) v U'.heap L ∧ FrameEnd U o U' L ({ frames := 2, cells := 0, slots := 0, locals := 29 } : Room).cells ({ frames := 2, cells := 0, slots := 0, locals := 29 } : Room).slots) := by
  refine MetFree.of_bodySF (plainFor_of_name pn1) hisR ?_
  intro p e s m args below meth c s₁ Bd hml0 hP hK
  obtain ⟨rfl, hZ, hh⟩ := hP
  have hx := Bd.exec
  have hby := Bd.bytes
  have hml : c.maxLocals = 6 := hml0
  have hown : s.vm.findClass "com/example/opwire/opwire/codec/ber/BerLength" = some m.cls := findClass_of_methodNamed Bd.named
  have hnm := (name_of_methodNamed Bd.named Bd.method).1
  have X0 : Stand p l e ({ frames := 2, cells := 0, slots := 0, locals := 29 } : Room) s m #[(.int xenc2_1), (.ref aenc2_2), (.int (0 : Int32))] below meth c s₁ [] 0 0 := Stand.of_body Bd
  have e0 : s₁.heap = h0 := by rw [← hh, Bd.state]; rfl
  have N0 := Fr.nil n0
  refine Wq.step (p := p) (e := e) (below := below) (En := (fun o t L => FrameEnd s o t L ({ frames := 2, cells := 0, slots := 0, locals := 29 } : Room).cells ({ frames := 2, cells := 0, slots := 0, locals := 29 } : Room).slots)) (Q := (Q_enc2 Z xenc2_1 aenc2_2 h0 n0)) (fun t k => castTop (ef_enc2 m xenc2_1 aenc2_2) k) ?_
  show Wq _ _ _ _ _ (s₁.setTop (mkF m 0 #[.val (.int xenc2_1), .val (.ref aenc2_2), .val (.int (0 : Int32)), .unset, .unset, .unset] []))
  refine Ow.iloadN X0 hx (pc' := 1) (hb hby d_prog_4_method_5_0) rfl ?_
  obtain ⟨_, _, ⟨T7, L7, k7, n7⟩, -, X7, ⟨Lc7, hQ7, l7, y7, z7⟩, st7⟩ := Jvm.LawKit.callS X0 hx (y := mt3) hown (mvT hZ (kw9 hw)) (mvT hZ (kw10 hw)) (mvT hZ (kw2 hw)) (mvT hZ (kw11 hw)) (by decide) (backOf (W := 0) (rm_esk l Z a0 hw [] xenc2_1 (2 : Int32) h0 n0 Z0 (hge) (hk)) hZ (kw11 hw) (kw2 hw) (by decide) (by decide)) (g := (mkF m 1 #[.val (.int xenc2_1), .val (.ref aenc2_2), .val (.int (0 : Int32)), .unset, .unset, .unset] [(.int xenc2_1)])) rfl (by rw [hml]; rfl) (argsL := [(.int xenc2_1)]) (rest := []) (lenOf pd1 rfl) rfl (by show 2 * 0 + _ ≤ _; exact Nat.le_of_eq rfl) (hb hby d_prog_4_method_5_1) (fun _ _ => ⟨rfl, e0, (by decide : 0 + 0 ≤ _), (by decide : 0 + 0 ≤ _)⟩)
  dsimp only [Pt.U, Pt.locs, Pt.cells, Pt.slots] at X7 l7 y7 z7 st7 hQ7
  subst l7 y7 z7
  obtain ⟨rfl, Nq7, e7⟩ := hQ7
  have N7 := Fr.app N0 Nq7
  refine Wq.step st7 ?_
  show Wq _ _ _ _ _ (T7.setTop (mkF m 4 #[.val (.int xenc2_1), .val (.ref aenc2_2), .val (.int (0 : Int32)), .unset, .unset, .unset] [(.int (2 : Int32))]))
  refine Ow.istoreN X7 hx (pc' := 5) (hb hby d_prog_4_method_5_4) (l' := #[.val (.int xenc2_1), .val (.ref aenc2_2), .val (.int (0 : Int32)), .val (.int (2 : Int32)), .unset, .unset]) rfl ?_
  refine Ow.iloadN X7 hx (pc' := 6) (hb hby d_prog_4_method_5_5) rfl ?_
  refine Ow.iloadN X7 hx (pc' := 7) (hb hby d_prog_4_method_5_6) rfl ?_
  refine Ow.aloadN X7 hx (pc' := 8) (hb hby d_prog_4_method_5_7) rfl rfl ?_
  refine Ow.lenA X7 hx hZ e7 V_aenc2_2 (pc' := 9) (hb hby d_prog_4_method_5_8) (n := (5 : Int32)) (rfl) ?_
  obtain ⟨_, _, ⟨T8, L8, k8, n8⟩, -, X8, ⟨Lc8, hQ8, l8, y8, z8⟩, st8⟩ := Jvm.LawKit.callS X7 hx (y := mt5) hown (mvT hZ (kw12 hw)) (mvT hZ (kw13 hw)) (mvT hZ (kw14 hw)) (mvT hZ (kw15 hw)) (by decide) (backOf (W := 0) (rm_ci2 l Z a0 hw []  h0 n0 Z0 ) hZ (kw15 hw) (kw14 hw) (by decide) (by decide)) (g := (mkF m 9 #[.val (.int xenc2_1), .val (.ref aenc2_2), .val (.int (0 : Int32)), .val (.int (2 : Int32)), .unset, .unset] [(.int (5 : Int32)), (.int (2 : Int32)), (.int (0 : Int32))])) rfl (by rw [hml]; rfl) (argsL := [(.int (0 : Int32)), (.int (2 : Int32)), (.int (5 : Int32))]) (rest := []) (lenOf pd3 rfl) rfl (by show 2 * 0 + _ ≤ _; exact Nat.le_of_eq rfl) (hb hby d_prog_4_method_5_9) (fun _ _ => ⟨rfl, e7, (by decide : 0 + 0 ≤ _), (by decide : 0 + 0 ≤ _)⟩)
  dsimp only [Pt.U, Pt.locs, Pt.cells, Pt.slots] at X8 l8 y8 z8 st8 hQ8
  subst l8 y8 z8
  obtain ⟨rfl, Nq8, e8⟩ := hQ8
  have N8 := Fr.app N7 Nq8
  refine Wq.step st8 ?_
  show Wq _ _ _ _ _ (T8.setTop (mkF m 12 #[.val (.int xenc2_1), .val (.ref aenc2_2), .val (.int (0 : Int32)), .val (.int (2 : Int32)), .unset, .unset] [(.int (0 : Int32))]))
  refine Ow.pop X8 hx (pc' := 13) (hb hby d_prog_4_method_5_12) rfl ?_
  refine Ow.iloadN X8 hx (pc' := 14) (hb hby d_prog_4_method_5_13) rfl ?_
  refine Ow.iconst X8 hx (pc' := 15) (hb hby d_prog_4_method_5_14) (z := (1 : Int32)) rfl ?_
  refine Ow.icmpYes X8 hx (pc' := 27) (hb hby d_prog_4_method_5_15) (feq (by decide : ¬ ((2 : Int32) = (1 : Int32)))).2 (by decide) (by decide) ?_
  refine Ow.aloadN X8 hx (pc' := 28) (hb hby d_prog_4_method_5_27) rfl rfl ?_
  refine Ow.iloadN X8 hx (pc' := 29) (hb hby d_prog_4_method_5_28) rfl ?_
  refine Ow.sipush X8 hx (pc' := 32) (hb hby d_prog_4_method_5_29) (z := (128 : Int32)) rfl ?_
  refine Ow.iloadN X8 hx (pc' := 33) (hb hby d_prog_4_method_5_32) rfl ?_
  refine Ow.iconst X8 hx (pc' := 34) (hb hby d_prog_4_method_5_33) (z := (1 : Int32)) rfl ?_
  refine Ow.isub X8 hx (pc' := 35) (hb hby d_prog_4_method_5_34) (z := (1 : Int32)) rfl ?_
  refine Ow.ior X8 hx (pc' := 36) (hb hby d_prog_4_method_5_35) (z := (129 : Int32)) rfl ?_
  refine Ow.i2b X8 hx (pc' := 37) (hb hby d_prog_4_method_5_36) (z := (-127 : Int32)) rfl ?_
  obtain ⟨T9, h9, X9, e9, W9, Vr9, st9⟩ := asB X8 hx hZ e8 V_aenc2_2 (j := (0 : Int32)) (i := 0) (by decide) rfl (Nat.le_of_ble_eq_true rfl) (y := (-127 : Int32)) rfl (g := (mkF m 37 #[.val (.int xenc2_1), .val (.ref aenc2_2), .val (.int (0 : Int32)), .val (.int (2 : Int32)), .unset, .unset] [(.int (-127 : Int32)), (.int (0 : Int32)), (.ref aenc2_2)])) rfl rfl (hb hby d_prog_4_method_5_37)
  refine Wq.step st9 ?_
  have N9 := Fr.snoc X9 N8 g_aenc2_2
  have K9 : Keep h0 h9 [aenc2_2] := (Keep.refl h0 [aenc2_2]).wr W9 (Or.inl (List.mem_of_getElem? (i := 0) rfl))
  have Z9 : n0 ≤ h9.size := Nat.le_trans Z0 (Keep.of_wr W9).1
  have V_aenc2_2_t9 : Al Z h9 aenc2_2 .byte [(.int (-127 : Int32)), (.int (0 : Int32)), (.int (0 : Int32)), (.int (0 : Int32)), (.int (0 : Int32))] := Vr9
  show Wq _ _ _ _ _ (T9.setTop (mkF m 38 #[.val (.int xenc2_1), .val (.ref aenc2_2), .val (.int (0 : Int32)), .val (.int (2 : Int32)), .unset, .unset] []))
  refine Ow.iloadN X9 hx (pc' := 39) (hb hby d_prog_4_method_5_38) rfl ?_
  refine Ow.istore X9 hx (pc' := 41) (hb hby d_prog_4_method_5_39) (l' := #[.val (.int xenc2_1), .val (.ref aenc2_2), .val (.int (0 : Int32)), .val (.int (2 : Int32)), .val (.int xenc2_1), .unset]) rfl ?_
  refine Ow.iloadN X9 hx (pc' := 42) (hb hby d_prog_4_method_5_41) rfl ?_
  refine Ow.iloadN X9 hx (pc' := 43) (hb hby d_prog_4_method_5_42) rfl ?_
  refine Ow.iadd X9 hx (pc' := 44) (hb hby d_prog_4_method_5_43) (z := (2 : Int32)) rfl ?_
  refine Ow.iconst X9 hx (pc' := 45) (hb hby d_prog_4_method_5_44) (z := (1 : Int32)) rfl ?_
  refine Ow.isub X9 hx (pc' := 46) (hb hby d_prog_4_method_5_45) (z := (1 : Int32)) rfl ?_
  refine Ow.istore X9 hx (pc' := 48) (hb hby d_prog_4_method_5_46) (l' := #[.val (.int xenc2_1), .val (.ref aenc2_2), .val (.int (0 : Int32)), .val (.int (2 : Int32)), .val (.int xenc2_1), .val (.int (1 : Int32))]) rfl ?_
  refine Ow.iload X9 hx (pc' := 50) (hb hby d_prog_4_method_5_48) rfl ?_
  refine Ow.iloadN X9 hx (pc' := 51) (hb hby d_prog_4_method_5_50) rfl ?_
  refine Ow.icmpNo X9 hx (pc' := 54) (hb hby d_prog_4_method_5_51) (tlt (by decide : (0 : Int32) < (1 : Int32))).2.2.2 ?_
  refine Ow.aloadN X9 hx (pc' := 55) (hb hby d_prog_4_method_5_54) rfl rfl ?_
  refine Ow.iload X9 hx (pc' := 57) (hb hby d_prog_4_method_5_55) rfl ?_
  refine Ow.iload X9 hx (pc' := 59) (hb hby d_prog_4_method_5_57) rfl ?_
  refine Ow.i2b X9 hx (pc' := 60) (hb hby d_prog_4_method_5_59) (z := (xenc2_1.toInt8.toInt32)) rfl ?_
  obtain ⟨T10, h10, X10, e10, W10, Vr10, st10⟩ := asB X9 hx hZ e9 V_aenc2_2_t9 (j := (1 : Int32)) (i := 1) (by decide) rfl (Nat.le_of_ble_eq_true rfl) (y := ((xenc2_1.toInt8.toInt32).toInt8.toInt32)) rfl (g := (mkF m 60 #[.val (.int xenc2_1), .val (.ref aenc2_2), .val (.int (0 : Int32)), .val (.int (2 : Int32)), .val (.int xenc2_1), .val (.int (1 : Int32))] [(.int (xenc2_1.toInt8.toInt32)), (.int (1 : Int32)), (.ref aenc2_2)])) rfl rfl (hb hby d_prog_4_method_5_60)
  refine Wq.step st10 ?_
  have N10 := Fr.snoc X10 N9 g_aenc2_2
  have K10 : Keep h0 h10 [aenc2_2] := K9.wr W10 (Or.inl (List.mem_of_getElem? (i := 0) rfl))
  have Z10 : n0 ≤ h10.size := Nat.le_trans Z9 (Keep.of_wr W10).1
  have V_aenc2_2_t10 : Al Z h10 aenc2_2 .byte [(.int (-127 : Int32)), (.int ((xenc2_1.toInt8.toInt32).toInt8.toInt32)), (.int (0 : Int32)), (.int (0 : Int32)), (.int (0 : Int32))] := Vr10
  show Wq _ _ _ _ _ (T10.setTop (mkF m 61 #[.val (.int xenc2_1), .val (.ref aenc2_2), .val (.int (0 : Int32)), .val (.int (2 : Int32)), .val (.int xenc2_1), .val (.int (1 : Int32))] []))
  refine Ow.iload X10 hx (pc' := 63) (hb hby d_prog_4_method_5_61) rfl ?_
  refine Ow.bipush X10 hx (pc' := 65) (hb hby d_prog_4_method_5_63) (z := (8 : Int32)) rfl ?_
  refine Ow.iushr X10 hx (pc' := 66) (hb hby d_prog_4_method_5_65) (z := ((xenc2_1.toUInt32 >>> ((8 : Int32) &&& 31).toUInt32).toInt32)) rfl ?_
  refine Ow.istore X10 hx (pc' := 68) (hb hby d_prog_4_method_5_66) (l' := #[.val (.int xenc2_1), .val (.ref aenc2_2), .val (.int (0 : Int32)), .val (.int (2 : Int32)), .val (.int ((xenc2_1.toUInt32 >>> ((8 : Int32) &&& 31).toUInt32).toInt32)), .val (.int (1 : Int32))]) rfl ?_
  refine Ow.iinc X10 hx (pc' := 71) (hb hby d_prog_4_method_5_68) rfl (l' := #[.val (.int xenc2_1), .val (.ref aenc2_2), .val (.int (0 : Int32)), .val (.int (2 : Int32)), .val (.int ((xenc2_1.toUInt32 >>> ((8 : Int32) &&& 31).toUInt32).toInt32)), .val (.int (0 : Int32))]) rfl ?_
  show Wq _ _ _ _ _ (T10.setTop (mkF m 71 #[.val (.int xenc2_1), .val (.ref aenc2_2), .val (.int (0 : Int32)), .val (.int (2 : Int32)), .val (.int ((xenc2_1.toUInt32 >>> ((8 : Int32) &&& 31).toUInt32).toInt32)), .val (.int (0 : Int32))] []))
  refine Ow.goto X10 hx (pc' := 48) (hb hby d_prog_4_method_5_71) (by decide) (by decide) ?_
  refine Ow.iload X10 hx (pc' := 50) (hb hby d_prog_4_method_5_48) rfl ?_
  refine Ow.iloadN X10 hx (pc' := 51) (hb hby d_prog_4_method_5_50) rfl ?_
  refine Ow.icmpYes X10 hx (pc' := 74) (hb hby d_prog_4_method_5_51) (flt (by decide : ¬ ((0 : Int32) < (0 : Int32)))).2.2.2 (by decide) (by decide) ?_
  refine Ow.iloadN X10 hx (pc' := 75) (hb hby d_prog_4_method_5_74) rfl ?_
  refine Ow.iloadN X10 hx (pc' := 76) (hb hby d_prog_4_method_5_75) rfl ?_
  refine Ow.iadd X10 hx (pc' := 77) (hb hby d_prog_4_method_5_76) (z := (2 : Int32)) rfl ?_
  exact Wq.ret X10 (BodyLoose.notSynchronized Bd) (rv := some (.int (2 : Int32))) (fun h => by rw [Bd.returns] at h; cases h) (fun _ hr => retOut X10 hx Bd.returns rfl (Or.inl ⟨rfl, Or.inl rfl, _, rfl⟩) (hb hby d_prog_4_method_5_77) hr) (by decide) (by decide) (by rw [e10]; exact ⟨rfl, N10, K10, V_aenc2_2_t10⟩)
theorem ef_pc3 (m : MethodId) : entryFrame m #[(.int (0 : Int32)), (.int (3 : Int32)), (.int (5 : Int32)), .null] 4 = mkF m 0 #[.val (.int (0 : Int32)), .val (.int (3 : Int32)), .val (.int (5 : Int32)), .val .null] [] := by first | (simp [entryFrame, mkF, argsToLocals, Value.category]; done) | rfl
def Q_pc3 (Z : State)  (h0 : Heap) (n0 : Nat) (v : Option Value) (h : Heap) (L : List Loc) : Prop := v = some (.int (0 : Int32)) ∧ Fr n0 L ∧ h = h0
set_option maxRecDepth 65536 in
set_option maxHeartbeats 40000000 in
theorem rm_pc3 (l : Launch) (Z : State) (a0 : Array Value) (hw : ∀ d ∈ tables_1, d.before a0 Z = true) (ws : List Jvm.Cond)  (h0 : Heap) (n0 : Nat) (Z0 : n0 ≤ h0.size)  :
    MetFree l mt4 (head1 (Jvm.Cond.code mt4 jdk_41_method_13_code 4 (some .int) :: ws) ({ frames := 0, cells := 0, slots := 0, locals := 0 } : Room)) (fun a U => a = #[(.int (0 : Int32)), (.int (3 : Int32)), (.int (5 : Int32)), .null] ∧ Z.Warmed39 U.vm ∧ U.heap = h0) (fun _ _ _ _ _ => True) (fun _ U o U' => ∃ v L, o = .returned v ∧ (Q_pc3 Z  h0 n0) v U'.heap L ∧ FrameEnd U o U' L ({ frames := 0, cells := 0, slots := 0, locals := 0 } : Room).cells ({ frames := 0, cells := 0, slots := 0, locals := 0 } : Room).slots) := by
  refine MetFree.of_bodySF (plainFor_of_name pn3) hisR ?_
  intro p e s m args below meth c s₁ Bd hml0 hP hK
  obtain ⟨rfl, hZ, hh⟩ := hP
  have hx := Bd.exec
  have hby := Bd.bytes
  have hml : c.maxLocals = 4 := hml0
  have hown : s.vm.findClass "jdk/internal/util/Preconditions" = some m.cls := findClass_of_methodNamed Bd.named
  have hnm := (name_of_methodNamed Bd.named Bd.method).1
  have X0 : Stand p l e ({ frames := 0, cells := 0, slots := 0, locals := 0 } : Room) s m #[(.int (0 : Int32)), (.int (3 : Int32)), (.int (5 : Int32)), .null] below meth c s₁ [] 0 0 := Stand.of_body Bd
  have e0 : s₁.heap = h0 := by rw [← hh, Bd.state]; rfl
  have N0 := Fr.nil n0
  refine Wq.step (p := p) (e := e) (below := below) (En := (fun o t L => FrameEnd s o t L ({ frames := 0, cells := 0, slots := 0, locals := 0 } : Room).cells ({ frames := 0, cells := 0, slots := 0, locals := 0 } : Room).slots)) (Q := (Q_pc3 Z  h0 n0)) (fun t k => castTop (ef_pc3 m ) k) ?_
  show Wq _ _ _ _ _ (s₁.setTop (mkF m 0 #[.val (.int (0 : Int32)), .val (.int (3 : Int32)), .val (.int (5 : Int32)), .val .null] []))
  refine Ow.iloadN X0 hx (pc' := 1) (hb hby d_jdk_41_method_13_0) rfl ?_
  refine Ow.iloadN X0 hx (pc' := 2) (hb hby d_jdk_41_method_13_1) rfl ?_
  refine Ow.ior X0 hx (pc' := 3) (hb hby d_jdk_41_method_13_2) (z := (5 : Int32)) rfl ?_
  refine Ow.iloadN X0 hx (pc' := 4) (hb hby d_jdk_41_method_13_3) rfl ?_
  refine Ow.ior X0 hx (pc' := 5) (hb hby d_jdk_41_method_13_4) (z := (7 : Int32)) rfl ?_
  refine Ow.ifNo X0 hx (pc' := 8) (hb hby d_jdk_41_method_13_5) ((if0 _ _).trans (flt (by decide : ¬ ((7 : Int32) < (0 : Int32)))).1) ?_
  refine Ow.iloadN X0 hx (pc' := 9) (hb hby d_jdk_41_method_13_8) rfl ?_
  refine Ow.iloadN X0 hx (pc' := 10) (hb hby d_jdk_41_method_13_9) rfl ?_
  refine Ow.iloadN X0 hx (pc' := 11) (hb hby d_jdk_41_method_13_10) rfl ?_
  refine Ow.isub X0 hx (pc' := 12) (hb hby d_jdk_41_method_13_11) (z := (5 : Int32)) rfl ?_
  refine Ow.icmpYes X0 hx (pc' := 23) (hb hby d_jdk_41_method_13_12) (flt (by decide : ¬ ((5 : Int32) < (3 : Int32)))).2.2.2 (by decide) (by decide) ?_
  refine Ow.iloadN X0 hx (pc' := 24) (hb hby d_jdk_41_method_13_23) rfl ?_
  exact Wq.ret X0 (BodyLoose.notSynchronized Bd) (rv := some (.int (0 : Int32))) (fun h => by rw [Bd.returns] at h; cases h) (fun _ hr => retOut X0 hx Bd.returns rfl (Or.inl ⟨rfl, Or.inl rfl, _, rfl⟩) (hb hby d_jdk_41_method_13_24) hr) (by decide) (by decide) ⟨rfl, N0, e0⟩
theorem ef_ci3 (m : MethodId) : entryFrame m #[(.int (0 : Int32)), (.int (3 : Int32)), (.int (5 : Int32))] 3 = mkF m 0 #[.val (.int (0 : Int32)), .val (.int (3 : Int32)), .val (.int (5 : Int32))] [] := by first | (simp [entryFrame, mkF, argsToLocals, Value.category]; done) | rfl
def Q_ci3 (Z : State)  (h0 : Heap) (n0 : Nat) (v : Option Value) (h : Heap) (L : List Loc) : Prop := v = some (.int (0 : Int32)) ∧ Fr n0 L ∧ h = h0
set_option maxRecDepth 65536 in
set_option maxHeartbeats 40000000 in
theorem rm_ci3 (l : Launch) (Z : State) (a0 : Array Value) (hw : ∀ d ∈ tables_1, d.before a0 Z = true) (ws : List Jvm.Cond)  (h0 : Heap) (n0 : Nat) (Z0 : n0 ≤ h0.size)  :
    MetFree l mt5 (head1 (Jvm.Cond.code mt5 jdk_31_method_19_code 3 (some .int) :: ws) ({ frames := 1, cells := 0, slots := 0, locals := 15 } : Room)) (fun a U => a = #[(.int (0 : Int32)), (.int (3 : Int32)), (.int (5 : Int32))] ∧ Z.Warmed39 U.vm ∧ U.heap = h0) (fun _ _ _ _ _ => True) (fun _ U o U' => ∃ v L, o = .returned v ∧ (Q_ci3 Z  h0 n0) v U'.heap L ∧ FrameEnd U o U' L ({ frames := 1, cells := 0, slots := 0, locals := 15 } : Room).cells ({ frames := 1, cells := 0, slots := 0, locals := 15 } : Room).slots) := by
  refine MetFree.of_bodySF (plainFor_of_name pn4) hisR ?_
  intro p e s m args below meth c s₁ Bd hml0 hP hK
  obtain ⟨rfl, hZ, hh⟩ := hP
  have hx := Bd.exec
  have hby := Bd.bytes
  have hml : c.maxLocals = 3 := hml0
  have hown : s.vm.findClass "java/util/Objects" = some m.cls := findClass_of_methodNamed Bd.named
  have hnm := (name_of_methodNamed Bd.named Bd.method).1
  have X0 : Stand p l e ({ frames := 1, cells := 0, slots := 0, locals := 15 } : Room) s m #[(.int (0 : Int32)), (.int (3 : Int32)), (.int (5 : Int32))] below meth c s₁ [] 0 0 := Stand.of_body Bd
  have e0 : s₁.heap = h0 := by rw [← hh, Bd.state]; rfl
  have N0 := Fr.nil n0
  refine Wq.step (p := p) (e := e) (below := below) (En := (fun o t L => FrameEnd s o t L ({ frames := 1, cells := 0, slots := 0, locals := 15 } : Room).cells ({ frames := 1, cells := 0, slots := 0, locals := 15 } : Room).slots)) (Q := (Q_ci3 Z  h0 n0)) (fun t k => castTop (ef_ci3 m ) k) ?_
  show Wq _ _ _ _ _ (s₁.setTop (mkF m 0 #[.val (.int (0 : Int32)), .val (.int (3 : Int32)), .val (.int (5 : Int32))] []))
  refine Ow.iloadN X0 hx (pc' := 1) (hb hby d_jdk_31_method_19_0) rfl ?_
  refine Ow.iloadN X0 hx (pc' := 2) (hb hby d_jdk_31_method_19_1) rfl ?_
  refine Ow.iloadN X0 hx (pc' := 3) (hb hby d_jdk_31_method_19_2) rfl ?_
  refine Ow.aconstNull X0 hx (pc' := 4) (hb hby d_jdk_31_method_19_3)  ?_
  obtain ⟨_, _, ⟨T11, L11, k11, n11⟩, -, X11, ⟨Lc11, hQ11, l11, y11, z11⟩, st11⟩ := Jvm.LawKit.callS X0 hx (y := mt4) hown (mvT hZ (kw16 hw)) (mvT hZ (kw17 hw)) (mvT hZ (kw18 hw)) (mvT hZ (kw19 hw)) (by decide) (backOf (W := 0) (rm_pc3 l Z a0 hw []  h0 n0 Z0 ) hZ (kw19 hw) (kw18 hw) (by decide) (by decide)) (g := (mkF m 4 #[.val (.int (0 : Int32)), .val (.int (3 : Int32)), .val (.int (5 : Int32))] [.null, (.int (5 : Int32)), (.int (3 : Int32)), (.int (0 : Int32))])) rfl (by rw [hml]; rfl) (argsL := [(.int (0 : Int32)), (.int (3 : Int32)), (.int (5 : Int32)), .null]) (rest := []) (lenOf pd2 rfl) rfl (by show 2 * 0 + _ ≤ _; exact Nat.le_of_eq rfl) (hb hby d_jdk_31_method_19_4) (fun _ _ => ⟨rfl, e0, (by decide : 0 + 0 ≤ _), (by decide : 0 + 0 ≤ _)⟩)
  dsimp only [Pt.U, Pt.locs, Pt.cells, Pt.slots] at X11 l11 y11 z11 st11 hQ11
  subst l11 y11 z11
  obtain ⟨rfl, Nq11, e11⟩ := hQ11
  have N11 := Fr.app N0 Nq11
  refine Wq.step st11 ?_
  show Wq _ _ _ _ _ (T11.setTop (mkF m 7 #[.val (.int (0 : Int32)), .val (.int (3 : Int32)), .val (.int (5 : Int32))] [(.int (0 : Int32))]))
  exact Wq.ret X11 (BodyLoose.notSynchronized Bd) (rv := some (.int (0 : Int32))) (fun h => by rw [Bd.returns] at h; cases h) (fun _ hr => retOut X11 hx Bd.returns rfl (Or.inl ⟨rfl, Or.inl rfl, _, rfl⟩) (hb hby d_jdk_31_method_19_7) hr) (by decide) (by decide) ⟨rfl, N11, e11⟩
theorem ef_enc3 (m : MethodId) (xenc3_1 : Int32) (aenc3_2 : Addr) : entryFrame m #[(.int xenc3_1), (.ref aenc3_2), (.int (0 : Int32))] 6 = mkF m 0 #[.val (.int xenc3_1), .val (.ref aenc3_2), .val (.int (0 : Int32)), .unset, .unset, .unset] [] := by first | (simp [entryFrame, mkF, argsToLocals, Value.category]; done) | rfl
def Q_enc3 (Z : State) (xenc3_1 : Int32) (aenc3_2 : Addr) (h0 : Heap) (n0 : Nat) (v : Option Value) (h : Heap) (L : List Loc) : Prop := v = some (.int (3 : Int32)) ∧ Fr n0 L ∧ Keep h0 h [aenc3_2] ∧ Al Z h aenc3_2 .byte [(.int (-126 : Int32)), (.int ((((xenc3_1.toUInt32 >>> ((8 : Int32) &&& 31).toUInt32).toInt32).toInt8.toInt32).toInt8.toInt32)), (.int ((xenc3_1.toInt8.toInt32).toInt8.toInt32)), (.int (0 : Int32)), (.int (0 : Int32))]
set_option maxRecDepth 65536 in
set_option maxHeartbeats 40000000 in
theorem rm_enc3 (l : Launch) (Z : State) (a0 : Array Value) (hw : ∀ d ∈ tables_1, d.before a0 Z = true) (ws : List Jvm.Cond) (xenc3_1 : Int32) (aenc3_2 : Addr) (h0 : Heap) (n0 : Nat) (Z0 : n0 ≤ h0.size) (V_aenc3_2 : Al Z h0 aenc3_2 .byte [(.int (0 : Int32)), (.int (0 : Int32)), (.int (0 : Int32)), (.int (0 : Int32)), (.int (0 : Int32))]) (g_aenc3_2 : n0 ≤ aenc3_2) (hge : ¬ (xenc3_1 < (0 : Int32))) (hk : f_es xenc3_1 = (3 : Int32)) :
    MetFree l mt6 (head1 (Jvm.Cond.code mt6 prog_4_method_5_code 6 (some .int) :: ws) ({ frames := 2, cells := 0, slots := 0, locals := 29 } : Room)) (fun a U => a = #[(.int xenc3_1), (.ref aenc3_2), (.int (0 : Int32))] ∧ Z.Warmed39 U.vm ∧ U.heap = h0) (fun _ _ _ _ _ => True) (fun _ U o U' => ∃ v L, o = .returned v ∧ (Q_enc3 Z xenc3_1 aenc3_2 h0 n0) v U'.heap L ∧ FrameEnd U o U' L ({ frames := 2, cells := 0, slots := 0, locals := 29 } : Room).cells ({ frames := 2, cells := 0, slots := 0, locals := 29 } : Room).slots) := by
  refine MetFree.of_bodySF (plainFor_of_name pn1) hisR ?_
  intro p e s m args below meth c s₁ Bd hml0 hP hK
  obtain ⟨rfl, hZ, hh⟩ := hP
  have hx := Bd.exec
  have hby := Bd.bytes
  have hml : c.maxLocals = 6 := hml0
  have hown : s.vm.findClass "com/example/opwire/opwire/codec/ber/BerLength" = some m.cls := findClass_of_methodNamed Bd.named
  have hnm := (name_of_methodNamed Bd.named Bd.method).1
  have X0 : Stand p l e ({ frames := 2, cells := 0, slots := 0, locals := 29 } : Room) s m #[(.int xenc3_1), (.ref aenc3_2), (.int (0 : Int32))] below meth c s₁ [] 0 0 := Stand.of_body Bd
  have e0 : s₁.heap = h0 := by rw [← hh, Bd.state]; rfl
  have N0 := Fr.nil n0
  refine Wq.step (p := p) (e := e) (below := below) (En := (fun o t L => FrameEnd s o t L ({ frames := 2, cells := 0, slots := 0, locals := 29 } : Room).cells ({ frames := 2, cells := 0, slots := 0, locals := 29 } : Room).slots)) (Q := (Q_enc3 Z xenc3_1 aenc3_2 h0 n0)) (fun t k => castTop (ef_enc3 m xenc3_1 aenc3_2) k) ?_
  show Wq _ _ _ _ _ (s₁.setTop (mkF m 0 #[.val (.int xenc3_1), .val (.ref aenc3_2), .val (.int (0 : Int32)), .unset, .unset, .unset] []))
  refine Ow.iloadN X0 hx (pc' := 1) (hb hby d_prog_4_method_5_0) rfl ?_
  obtain ⟨_, _, ⟨T12, L12, k12, n12⟩, -, X12, ⟨Lc12, hQ12, l12, y12, z12⟩, st12⟩ := Jvm.LawKit.callS X0 hx (y := mt3) hown (mvT hZ (kw9 hw)) (mvT hZ (kw10 hw)) (mvT hZ (kw2 hw)) (mvT hZ (kw11 hw)) (by decide) (backOf (W := 0) (rm_esk l Z a0 hw [] xenc3_1 (3 : Int32) h0 n0 Z0 (hge) (hk)) hZ (kw11 hw) (kw2 hw) (by decide) (by decide)) (g := (mkF m 1 #[.val (.int xenc3_1), .val (.ref aenc3_2), .val (.int (0 : Int32)), .unset, .unset, .unset] [(.int xenc3_1)])) rfl (by rw [hml]; rfl) (argsL := [(.int xenc3_1)]) (rest := []) (lenOf pd1 rfl) rfl (by show 2 * 0 + _ ≤ _; exact Nat.le_of_eq rfl) (hb hby d_prog_4_method_5_1) (fun _ _ => ⟨rfl, e0, (by decide : 0 + 0 ≤ _), (by decide : 0 + 0 ≤ _)⟩)
  dsimp only [Pt.U, Pt.locs, Pt.cells, Pt.slots] at X12 l12 y12 z12 st12 hQ12
  subst l12 y12 z12
  obtain ⟨rfl, Nq12, e12⟩ := hQ12
  have N12 := Fr.app N0 Nq12
  refine Wq.step st12 ?_
  show Wq _ _ _ _ _ (T12.setTop (mkF m 4 #[.val (.int xenc3_1), .val (.ref aenc3_2), .val (.int (0 : Int32)), .unset, .unset, .unset] [(.int (3 : Int32))]))
  refine Ow.istoreN X12 hx (pc' := 5) (hb hby d_prog_4_method_5_4) (l' := #[.val (.int xenc3_1), .val (.ref aenc3_2), .val (.int (0 : Int32)), .val (.int (3 : Int32)), .unset, .unset]) rfl ?_
  refine Ow.iloadN X12 hx (pc' := 6) (hb hby d_prog_4_method_5_5) rfl ?_
  refine Ow.iloadN X12 hx (pc' := 7) (hb hby d_prog_4_method_5_6) rfl ?_
  refine Ow.aloadN X12 hx (pc' := 8) (hb hby d_prog_4_method_5_7) rfl rfl ?_
  refine Ow.lenA X12 hx hZ e12 V_aenc3_2 (pc' := 9) (hb hby d_prog_4_method_5_8) (n := (5 : Int32)) (rfl) ?_
  obtain ⟨_, _, ⟨T13, L13, k13, n13⟩, -, X13, ⟨Lc13, hQ13, l13, y13, z13⟩, st13⟩ := Jvm.LawKit.callS X12 hx (y := mt5) hown (mvT hZ (kw12 hw)) (mvT hZ (kw13 hw)) (mvT hZ (kw14 hw)) (mvT hZ (kw15 hw)) (by decide) (backOf (W := 0) (rm_ci3 l Z a0 hw []  h0 n0 Z0 ) hZ (kw15 hw) (kw14 hw) (by decide) (by decide)) (g := (mkF m 9 #[.val (.int xenc3_1), .val (.ref aenc3_2), .val (.int (0 : Int32)), .val (.int (3 : Int32)), .unset, .unset] [(.int (5 : Int32)), (.int (3 : Int32)), (.int (0 : Int32))])) rfl (by rw [hml]; rfl) (argsL := [(.int (0 : Int32)), (.int (3 : Int32)), (.int (5 : Int32))]) (rest := []) (lenOf pd3 rfl) rfl (by show 2 * 0 + _ ≤ _; exact Nat.le_of_eq rfl) (hb hby d_prog_4_method_5_9) (fun _ _ => ⟨rfl, e12, (by decide : 0 + 0 ≤ _), (by decide : 0 + 0 ≤ _)⟩)
  dsimp only [Pt.U, Pt.locs, Pt.cells, Pt.slots] at X13 l13 y13 z13 st13 hQ13
  subst l13 y13 z13
  obtain ⟨rfl, Nq13, e13⟩ := hQ13
  have N13 := Fr.app N12 Nq13
  refine Wq.step st13 ?_
  show Wq _ _ _ _ _ (T13.setTop (mkF m 12 #[.val (.int xenc3_1), .val (.ref aenc3_2), .val (.int (0 : Int32)), .val (.int (3 : Int32)), .unset, .unset] [(.int (0 : Int32))]))
  refine Ow.pop X13 hx (pc' := 13) (hb hby d_prog_4_method_5_12) rfl ?_
  refine Ow.iloadN X13 hx (pc' := 14) (hb hby d_prog_4_method_5_13) rfl ?_
  refine Ow.iconst X13 hx (pc' := 15) (hb hby d_prog_4_method_5_14) (z := (1 : Int32)) rfl ?_
  refine Ow.icmpYes X13 hx (pc' := 27) (hb hby d_prog_4_method_5_15) (feq (by decide : ¬ ((3 : Int32) = (1 : Int32)))).2 (by decide) (by decide) ?_
  refine Ow.aloadN X13 hx (pc' := 28) (hb hby d_prog_4_method_5_27) rfl rfl ?_
  refine Ow.iloadN X13 hx (pc' := 29) (hb hby d_prog_4_method_5_28) rfl ?_
  refine Ow.sipush X13 hx (pc' := 32) (hb hby d_prog_4_method_5_29) (z := (128 : Int32)) rfl ?_
  refine Ow.iloadN X13 hx (pc' := 33) (hb hby d_prog_4_method_5_32) rfl ?_
  refine Ow.iconst X13 hx (pc' := 34) (hb hby d_prog_4_method_5_33) (z := (1 : Int32)) rfl ?_
  refine Ow.isub X13 hx (pc' := 35) (hb hby d_prog_4_method_5_34) (z := (2 : Int32)) rfl ?_
  refine Ow.ior X13 hx (pc' := 36) (hb hby d_prog_4_method_5_35) (z := (130 : Int32)) rfl ?_
  refine Ow.i2b X13 hx (pc' := 37) (hb hby d_prog_4_method_5_36) (z := (-126 : Int32)) rfl ?_
  obtain ⟨T14, h14, X14, e14, W14, Vr14, st14⟩ := asB X13 hx hZ e13 V_aenc3_2 (j := (0 : Int32)) (i := 0) (by decide) rfl (Nat.le_of_ble_eq_true rfl) (y := (-126 : Int32)) rfl (g := (mkF m 37 #[.val (.int xenc3_1), .val (.ref aenc3_2), .val (.int (0 : Int32)), .val (.int (3 : Int32)), .unset, .unset] [(.int (-126 : Int32)), (.int (0 : Int32)), (.ref aenc3_2)])) rfl rfl (hb hby d_prog_4_method_5_37)
  refine Wq.step st14 ?_
  have N14 := Fr.snoc X14 N13 g_aenc3_2
  have K14 : Keep h0 h14 [aenc3_2] := (Keep.refl h0 [aenc3_2]).wr W14 (Or.inl (List.mem_of_getElem? (i := 0) rfl))
  have Z14 : n0 ≤ h14.size := Nat.le_trans Z0 (Keep.of_wr W14).1
  have V_aenc3_2_t14 : Al Z h14 aenc3_2 .byte [(.int (-126 : Int32)), (.int (0 : Int32)), (.int (0 : Int32)), (.int (0 : Int32)), (.int (0 : Int32))] := Vr14
  show Wq _ _ _ _ _ (T14.setTop (mkF m 38 #[.val (.int xenc3_1), .val (.ref aenc3_2), .val (.int (0 : Int32)), .val (.int (3 : Int32)), .unset, .unset] []))
  refine Ow.iloadN X14 hx (pc' := 39) (hb hby d_prog_4_method_5_38) rfl ?_
  refine Ow.istore X14 hx (pc' := 41) (hb hby d_prog_4_method_5_39) (l' := #[.val (.int xenc3_1), .val (.ref aenc3_2), .val (.int (0 : Int32)), .val (.int (3 : Int32)), .val (.int xenc3_1), .unset]) rfl ?_
  refine Ow.iloadN X14 hx (pc' := 42) (hb hby d_prog_4_method_5_41) rfl ?_
  refine Ow.iloadN X14 hx (pc' := 43) (hb hby d_prog_4_method_5_42) rfl ?_
  refine Ow.iadd X14 hx (pc' := 44) (hb hby d_prog_4_method_5_43) (z := (3 : Int32)) rfl ?_
  refine Ow.iconst X14 hx (pc' := 45) (hb hby d_prog_4_method_5_44) (z := (1 : Int32)) rfl ?_
  refine Ow.isub X14 hx (pc' := 46) (hb hby d_prog_4_method_5_45) (z := (2 : Int32)) rfl ?_
  refine Ow.istore X14 hx (pc' := 48) (hb hby d_prog_4_method_5_46) (l' := #[.val (.int xenc3_1), .val (.ref aenc3_2), .val (.int (0 : Int32)), .val (.int (3 : Int32)), .val (.int xenc3_1), .val (.int (2 : Int32))]) rfl ?_
  refine Ow.iload X14 hx (pc' := 50) (hb hby d_prog_4_method_5_48) rfl ?_
  refine Ow.iloadN X14 hx (pc' := 51) (hb hby d_prog_4_method_5_50) rfl ?_
  refine Ow.icmpNo X14 hx (pc' := 54) (hb hby d_prog_4_method_5_51) (tlt (by decide : (0 : Int32) < (2 : Int32))).2.2.2 ?_
  refine Ow.aloadN X14 hx (pc' := 55) (hb hby d_prog_4_method_5_54) rfl rfl ?_
  refine Ow.iload X14 hx (pc' := 57) (hb hby d_prog_4_method_5_55) rfl ?_
  refine Ow.iload X14 hx (pc' := 59) (hb hby d_prog_4_method_5_57) rfl ?_
  refine Ow.i2b X14 hx (pc' := 60) (hb hby d_prog_4_method_5_59) (z := (xenc3_1.toInt8.toInt32)) rfl ?_
  obtain ⟨T15, h15, X15, e15, W15, Vr15, st15⟩ := asB X14 hx hZ e14 V_aenc3_2_t14 (j := (2 : Int32)) (i := 2) (by decide) rfl (Nat.le_of_ble_eq_true rfl) (y := ((xenc3_1.toInt8.toInt32).toInt8.toInt32)) rfl (g := (mkF m 60 #[.val (.int xenc3_1), .val (.ref aenc3_2), .val (.int (0 : Int32)), .val (.int (3 : Int32)), .val (.int xenc3_1), .val (.int (2 : Int32))] [(.int (xenc3_1.toInt8.toInt32)), (.int (2 : Int32)), (.ref aenc3_2)])) rfl rfl (hb hby d_prog_4_method_5_60)
  refine Wq.step st15 ?_
  have N15 := Fr.snoc X15 N14 g_aenc3_2
  have K15 : Keep h0 h15 [aenc3_2] := K14.wr W15 (Or.inl (List.mem_of_getElem? (i := 0) rfl))
  have Z15 : n0 ≤ h15.size := Nat.le_trans Z14 (Keep.of_wr W15).1
  have V_aenc3_2_t15 : Al Z h15 aenc3_2 .byte [(.int (-126 : Int32)), (.int (0 : Int32)), (.int ((xenc3_1.toInt8.toInt32).toInt8.toInt32)), (.int (0 : Int32)), (.int (0 : Int32))] := Vr15
  show Wq _ _ _ _ _ (T15.setTop (mkF m 61 #[.val (.int xenc3_1), .val (.ref aenc3_2), .val (.int (0 : Int32)), .val (.int (3 : Int32)), .val (.int xenc3_1), .val (.int (2 : Int32))] []))
  refine Ow.iload X15 hx (pc' := 63) (hb hby d_prog_4_method_5_61) rfl ?_
  refine Ow.bipush X15 hx (pc' := 65) (hb hby d_prog_4_method_5_63) (z := (8 : Int32)) rfl ?_
  refine Ow.iushr X15 hx (pc' := 66) (hb hby d_prog_4_method_5_65) (z := ((xenc3_1.toUInt32 >>> ((8 : Int32) &&& 31).toUInt32).toInt32)) rfl ?_
  refine Ow.istore X15 hx (pc' := 68) (hb hby d_prog_4_method_5_66) (l' := #[.val (.int xenc3_1), .val (.ref aenc3_2), .val (.int (0 : Int32)), .val (.int (3 : Int32)), .val (.int ((xenc3_1.toUInt32 >>> ((8 : Int32) &&& 31).toUInt32).toInt32)), .val (.int (2 : Int32))]) rfl ?_
  refine Ow.iinc X15 hx (pc' := 71) (hb hby d_prog_4_method_5_68) rfl (l' := #[.val (.int xenc3_1), .val (.ref aenc3_2), .val (.int (0 : Int32)), .val (.int (3 : Int32)), .val (.int ((xenc3_1.toUInt32 >>> ((8 : Int32) &&& 31).toUInt32).toInt32)), .val (.int (1 : Int32))]) rfl ?_
  show Wq _ _ _ _ _ (T15.setTop (mkF m 71 #[.val (.int xenc3_1), .val (.ref aenc3_2), .val (.int (0 : Int32)), .val (.int (3 : Int32)), .val (.int ((xenc3_1.toUInt32 >>> ((8 : Int32) &&& 31).toUInt32).toInt32)), .val (.int (1 : Int32))] []))
  refine Ow.goto X15 hx (pc' := 48) (hb hby d_prog_4_method_5_71) (by decide) (by decide) ?_
  refine Ow.iload X15 hx (pc' := 50) (hb hby d_prog_4_method_5_48) rfl ?_
  refine Ow.iloadN X15 hx (pc' := 51) (hb hby d_prog_4_method_5_50) rfl ?_
  refine Ow.icmpNo X15 hx (pc' := 54) (hb hby d_prog_4_method_5_51) (tlt (by decide : (0 : Int32) < (1 : Int32))).2.2.2 ?_
  refine Ow.aloadN X15 hx (pc' := 55) (hb hby d_prog_4_method_5_54) rfl rfl ?_
  refine Ow.iload X15 hx (pc' := 57) (hb hby d_prog_4_method_5_55) rfl ?_
  refine Ow.iload X15 hx (pc' := 59) (hb hby d_prog_4_method_5_57) rfl ?_
  refine Ow.i2b X15 hx (pc' := 60) (hb hby d_prog_4_method_5_59) (z := (((xenc3_1.toUInt32 >>> ((8 : Int32) &&& 31).toUInt32).toInt32).toInt8.toInt32)) rfl ?_
  obtain ⟨T16, h16, X16, e16, W16, Vr16, st16⟩ := asB X15 hx hZ e15 V_aenc3_2_t15 (j := (1 : Int32)) (i := 1) (by decide) rfl (Nat.le_of_ble_eq_true rfl) (y := ((((xenc3_1.toUInt32 >>> ((8 : Int32) &&& 31).toUInt32).toInt32).toInt8.toInt32).toInt8.toInt32)) rfl (g := (mkF m 60 #[.val (.int xenc3_1), .val (.ref aenc3_2), .val (.int (0 : Int32)), .val (.int (3 : Int32)), .val (.int ((xenc3_1.toUInt32 >>> ((8 : Int32) &&& 31).toUInt32).toInt32)), .val (.int (1 : Int32))] [(.int (((xenc3_1.toUInt32 >>> ((8 : Int32) &&& 31).toUInt32).toInt32).toInt8.toInt32)), (.int (1 : Int32)), (.ref aenc3_2)])) rfl rfl (hb hby d_prog_4_method_5_60)
  refine Wq.step st16 ?_
  have N16 := Fr.snoc X16 N15 g_aenc3_2
  have K16 : Keep h0 h16 [aenc3_2] := K15.wr W16 (Or.inl (List.mem_of_getElem? (i := 0) rfl))
  have Z16 : n0 ≤ h16.size := Nat.le_trans Z15 (Keep.of_wr W16).1
  have V_aenc3_2_t16 : Al Z h16 aenc3_2 .byte [(.int (-126 : Int32)), (.int ((((xenc3_1.toUInt32 >>> ((8 : Int32) &&& 31).toUInt32).toInt32).toInt8.toInt32).toInt8.toInt32)), (.int ((xenc3_1.toInt8.toInt32).toInt8.toInt32)), (.int (0 : Int32)), (.int (0 : Int32))] := Vr16
  show Wq _ _ _ _ _ (T16.setTop (mkF m 61 #[.val (.int xenc3_1), .val (.ref aenc3_2), .val (.int (0 : Int32)), .val (.int (3 : Int32)), .val (.int ((xenc3_1.toUInt32 >>> ((8 : Int32) &&& 31).toUInt32).toInt32)), .val (.int (1 : Int32))] []))
  refine Ow.iload X16 hx (pc' := 63) (hb hby d_prog_4_method_5_61) rfl ?_
  refine Ow.bipush X16 hx (pc' := 65) (hb hby d_prog_4_method_5_63) (z := (8 : Int32)) rfl ?_
  refine Ow.iushr X16 hx (pc' := 66) (hb hby d_prog_4_method_5_65) (z := ((((xenc3_1.toUInt32 >>> ((8 : Int32) &&& 31).toUInt32).toInt32).toUInt32 >>> ((8 : Int32) &&& 31).toUInt32).toInt32)) rfl ?_
  refine Ow.istore X16 hx (pc' := 68) (hb hby d_prog_4_method_5_66) (l' := #[.val (.int xenc3_1), .val (.ref aenc3_2), .val (.int (0 : Int32)), .val (.int (3 : Int32)), .val (.int ((((xenc3_1.toUInt32 >>> ((8 : Int32) &&& 31).toUInt32).toInt32).toUInt32 >>> ((8 : Int32) &&& 31).toUInt32).toInt32)), .val (.int (1 : Int32))]) rfl ?_
  refine Ow.iinc X16 hx (pc' := 71) (hb hby d_prog_4_method_5_68) rfl (l' := #[.val (.int xenc3_1), .val (.ref aenc3_2), .val (.int (0 : Int32)), .val (.int (3 : Int32)), .val (.int ((((xenc3_1.toUInt32 >>> ((8 : Int32) &&& 31).toUInt32).toInt32).toUInt32 >>> ((8 : Int32) &&& 31).toUInt32).toInt32)), .val (.int (0 : Int32))]) rfl ?_
  show Wq _ _ _ _ _ (T16.setTop (mkF m 71 #[.val (.int xenc3_1), .val (.ref aenc3_2), .val (.int (0 : Int32)), .val (.int (3 : Int32)), .val (.int ((((xenc3_1.toUInt32 >>> ((8 : Int32) &&& 31).toUInt32).toInt32).toUInt32 >>> ((8 : Int32) &&& 31).toUInt32).toInt32)), .val (.int (0 : Int32))] []))
  refine Ow.goto X16 hx (pc' := 48) (hb hby d_prog_4_method_5_71) (by decide) (by decide) ?_
  refine Ow.iload X16 hx (pc' := 50) (hb hby d_prog_4_method_5_48) rfl ?_
  refine Ow.iloadN X16 hx (pc' := 51) (hb hby d_prog_4_method_5_50) rfl ?_
  refine Ow.icmpYes X16 hx (pc' := 74) (hb hby d_prog_4_method_5_51) (flt (by decide : ¬ ((0 : Int32) < (0 : Int32)))).2.2.2 (by decide) (by decide) ?_
  refine Ow.iloadN X16 hx (pc' := 75) (hb hby d_prog_4_method_5_74) rfl ?_
  refine Ow.iloadN X16 hx (pc' := 76) (hb hby d_prog_4_method_5_75) rfl ?_
  refine Ow.iadd X16 hx (pc' := 77) (hb hby d_prog_4_method_5_76) (z := (3 : Int32)) rfl ?_
  exact Wq.ret X16 (BodyLoose.notSynchronized Bd) (rv := some (.int (3 : Int32))) (fun h => by rw [Bd.returns] at h; cases h) (fun _ hr => retOut X16 hx Bd.returns rfl (Or.inl ⟨rfl, Or.inl rfl, _, rfl⟩) (hb hby d_prog_4_method_5_77) hr) (by decide) (by decide) (by rw [e16]; exact ⟨rfl, N16, K16, V_aenc3_2_t16⟩)
theorem ef_pc4 (m : MethodId) : entryFrame m #[(.int (0 : Int32)), (.int (4 : Int32)), (.int (5 : Int32)), .null] 4 = mkF m 0 #[.val (.int (0 : Int32)), .val (.int (4 : Int32)), .val (.int (5 : Int32)), .val .null] [] := by first | (simp [entryFrame, mkF, argsToLocals, Value.category]; done) | rfl
def Q_pc4 (Z : State)  (h0 : Heap) (n0 : Nat) (v : Option Value) (h : Heap) (L : List Loc) : Prop := v = some (.int (0 : Int32)) ∧ Fr n0 L ∧ h = h0
set_option maxRecDepth 65536 in
set_option maxHeartbeats 40000000 in
theorem rm_pc4 (l : Launch) (Z : State) (a0 : Array Value) (hw : ∀ d ∈ tables_1, d.before a0 Z = true) (ws : List Jvm.Cond)  (h0 : Heap) (n0 : Nat) (Z0 : n0 ≤ h0.size)  :
    MetFree l mt4 (head1 (Jvm.Cond.code mt4 jdk_41_method_13_code 4 (some .int) :: ws) ({ frames := 0, cells := 0, slots := 0, locals := 0 } : Room)) (fun a U => a = #[(.int (0 : Int32)), (.int (4 : Int32)), (.int (5 : Int32)), .null] ∧ Z.Warmed39 U.vm ∧ U.heap = h0) (fun _ _ _ _ _ => True) (fun _ U o U' => ∃ v L, o = .returned v ∧ (Q_pc4 Z  h0 n0) v U'.heap L ∧ FrameEnd U o U' L ({ frames := 0, cells := 0, slots := 0, locals := 0 } : Room).cells ({ frames := 0, cells := 0, slots := 0, locals := 0 } : Room).slots) := by
  refine MetFree.of_bodySF (plainFor_of_name pn3) hisR ?_
  intro p e s m args below meth c s₁ Bd hml0 hP hK
  obtain ⟨rfl, hZ, hh⟩ := hP
  have hx := Bd.exec
  have hby := Bd.bytes
  have hml : c.maxLocals = 4 := hml0
  have hown : s.vm.findClass "jdk/internal/util/Preconditions" = some m.cls := findClass_of_methodNamed Bd.named
  have hnm := (name_of_methodNamed Bd.named Bd.method).1
  have X0 : Stand p l e ({ frames := 0, cells := 0, slots := 0, locals := 0 } : Room) s m #[(.int (0 : Int32)), (.int (4 : Int32)), (.int (5 : Int32)), .null] below meth c s₁ [] 0 0 := Stand.of_body Bd
  have e0 : s₁.heap = h0 := by rw [← hh, Bd.state]; rfl
  have N0 := Fr.nil n0
  refine Wq.step (p := p) (e := e) (below := below) (En := (fun o t L => FrameEnd s o t L ({ frames := 0, cells := 0, slots := 0, locals := 0 } : Room).cells ({ frames := 0, cells := 0, slots := 0, locals := 0 } : Room).slots)) (Q := (Q_pc4 Z  h0 n0)) (fun t k => castTop (ef_pc4 m ) k) ?_
  show Wq _ _ _ _ _ (s₁.setTop (mkF m 0 #[.val (.int (0 : Int32)), .val (.int (4 : Int32)), .val (.int (5 : Int32)), .val .null] []))
  refine Ow.iloadN X0 hx (pc' := 1) (hb hby d_jdk_41_method_13_0) rfl ?_
  refine Ow.iloadN X0 hx (pc' := 2) (hb hby d_jdk_41_method_13_1) rfl ?_
  refine Ow.ior X0 hx (pc' := 3) (hb hby d_jdk_41_method_13_2) (z := (5 : Int32)) rfl ?_
  refine Ow.iloadN X0 hx (pc' := 4) (hb hby d_jdk_41_method_13_3) rfl ?_
  refine Ow.ior X0 hx (pc' := 5) (hb hby d_jdk_41_method_13_4) (z := (5 : Int32)) rfl ?_
  refine Ow.ifNo X0 hx (pc' := 8) (hb hby d_jdk_41_method_13_5) ((if0 _ _).trans (flt (by decide : ¬ ((5 : Int32) < (0 : Int32)))).1) ?_
  refine Ow.iloadN X0 hx (pc' := 9) (hb hby d_jdk_41_method_13_8) rfl ?_
  refine Ow.iloadN X0 hx (pc' := 10) (hb hby d_jdk_41_method_13_9) rfl ?_
  refine Ow.iloadN X0 hx (pc' := 11) (hb hby d_jdk_41_method_13_10) rfl ?_
  refine Ow.isub X0 hx (pc' := 12) (hb hby d_jdk_41_method_13_11) (z := (5 : Int32)) rfl ?_
  refine Ow.icmpYes X0 hx (pc' := 23) (hb hby d_jdk_41_method_13_12) (flt (by decide : ¬ ((5 : Int32) < (4 : Int32)))).2.2.2 (by decide) (by decide) ?_
  refine Ow.iloadN X0 hx (pc' := 24) (hb hby d_jdk_41_method_13_23) rfl ?_
  exact Wq.ret X0 (BodyLoose.notSynchronized Bd) (rv := some (.int (0 : Int32))) (fun h => by rw [Bd.returns] at h; cases h) (fun _ hr => retOut X0 hx Bd.returns rfl (Or.inl ⟨rfl, Or.inl rfl, _, rfl⟩) (hb hby d_jdk_41_method_13_24) hr) (by decide) (by decide) ⟨rfl, N0, e0⟩
theorem ef_ci4 (m : MethodId) : entryFrame m #[(.int (0 : Int32)), (.int (4 : Int32)), (.int (5 : Int32))] 3 = mkF m 0 #[.val (.int (0 : Int32)), .val (.int (4 : Int32)), .val (.int (5 : Int32))] [] := by first | (simp [entryFrame, mkF, argsToLocals, Value.category]; done) | rfl
def Q_ci4 (Z : State)  (h0 : Heap) (n0 : Nat) (v : Option Value) (h : Heap) (L : List Loc) : Prop := v = some (.int (0 : Int32)) ∧ Fr n0 L ∧ h = h0
set_option maxRecDepth 65536 in
set_option maxHeartbeats 40000000 in
theorem rm_ci4 (l : Launch) (Z : State) (a0 : Array Value) (hw : ∀ d ∈ tables_1, d.before a0 Z = true) (ws : List Jvm.Cond)  (h0 : Heap) (n0 : Nat) (Z0 : n0 ≤ h0.size)  :
    MetFree l mt5 (head1 (Jvm.Cond.code mt5 jdk_31_method_19_code 3 (some .int) :: ws) ({ frames := 1, cells := 0, slots := 0, locals := 15 } : Room)) (fun a U => a = #[(.int (0 : Int32)), (.int (4 : Int32)), (.int (5 : Int32))] ∧ Z.Warmed39 U.vm ∧ U.heap = h0) (fun _ _ _ _ _ => True) (fun _ U o U' => ∃ v L, o = .returned v ∧ (Q_ci4 Z  h0 n0) v U'.heap L ∧ FrameEnd U o U' L ({ frames := 1, cells := 0, slots := 0, locals := 15 } : Room).cells ({ frames := 1, cells := 0, slots := 0, locals := 15 } : Room).slots) := by
  refine MetFree.of_bodySF (plainFor_of_name pn4) hisR ?_
  intro p e s m args below meth c s₁ Bd hml0 hP hK
  obtain ⟨rfl, hZ, hh⟩ := hP
  have hx := Bd.exec
  have hby := Bd.bytes
  have hml : c.maxLocals = 3 := hml0
  have hown : s.vm.findClass "java/util/Objects" = some m.cls := findClass_of_methodNamed Bd.named
  have hnm := (name_of_methodNamed Bd.named Bd.method).1
  have X0 : Stand p l e ({ frames := 1, cells := 0, slots := 0, locals := 15 } : Room) s m #[(.int (0 : Int32)), (.int (4 : Int32)), (.int (5 : Int32))] below meth c s₁ [] 0 0 := Stand.of_body Bd
  have e0 : s₁.heap = h0 := by rw [← hh, Bd.state]; rfl
  have N0 := Fr.nil n0
  refine Wq.step (p := p) (e := e) (below := below) (En := (fun o t L => FrameEnd s o t L ({ frames := 1, cells := 0, slots := 0, locals := 15 } : Room).cells ({ frames := 1, cells := 0, slots := 0, locals := 15 } : Room).slots)) (Q := (Q_ci4 Z  h0 n0)) (fun t k => castTop (ef_ci4 m ) k) ?_
  show Wq _ _ _ _ _ (s₁.setTop (mkF m 0 #[.val (.int (0 : Int32)), .val (.int (4 : Int32)), .val (.int (5 : Int32))] []))
  refine Ow.iloadN X0 hx (pc' := 1) (hb hby d_jdk_31_method_19_0) rfl ?_
  refine Ow.iloadN X0 hx (pc' := 2) (hb hby d_jdk_31_method_19_1) rfl ?_
  refine Ow.iloadN X0 hx (pc' := 3) (hb hby d_jdk_31_method_19_2) rfl ?_
  refine Ow.aconstNull X0 hx (pc' := 4) (hb hby d_jdk_31_method_19_3)  ?_
  obtain ⟨_, _, ⟨T17, L17, k17, n17⟩, -, X17, ⟨Lc17, hQ17, l17, y17, z17⟩, st17⟩ := Jvm.LawKit.callS X0 hx (y := mt4) hown (mvT hZ (kw16 hw)) (mvT hZ (kw17 hw)) (mvT hZ (kw18 hw)) (mvT hZ (kw19 hw)) (by decide) (backOf (W := 0) (rm_pc4 l Z a0 hw []  h0 n0 Z0 ) hZ (kw19 hw) (kw18 hw) (by decide) (by decide)) (g := (mkF m 4 #[.val (.int (0 : Int32)), .val (.int (4 : Int32)), .val (.int (5 : Int32))] [.null, (.int (5 : Int32)), (.int (4 : Int32)), (.int (0 : Int32))])) rfl (by rw [hml]; rfl) (argsL := [(.int (0 : Int32)), (.int (4 : Int32)), (.int (5 : Int32)), .null]) (rest := []) (lenOf pd2 rfl) rfl (by show 2 * 0 + _ ≤ _; exact Nat.le_of_eq rfl) (hb hby d_jdk_31_method_19_4) (fun _ _ => ⟨rfl, e0, (by decide : 0 + 0 ≤ _), (by decide : 0 + 0 ≤ _)⟩)
  dsimp only [Pt.U, Pt.locs, Pt.cells, Pt.slots] at X17 l17 y17 z17 st17 hQ17
  subst l17 y17 z17
  obtain ⟨rfl, Nq17, e17⟩ := hQ17
  have N17 := Fr.app N0 Nq17
  refine Wq.step st17 ?_
  show Wq _ _ _ _ _ (T17.setTop (mkF m 7 #[.val (.int (0 : Int32)), .val (.int (4 : Int32)), .val (.int (5 : Int32))] [(.int (0 : Int32))]))
  exact Wq.ret X17 (BodyLoose.notSynchronized Bd) (rv := some (.int (0 : Int32))) (fun h => by rw [Bd.returns] at h; cases h) (fun _ hr => retOut X17 hx Bd.returns rfl (Or.inl ⟨rfl, Or.inl rfl, _, rfl⟩) (hb hby d_jdk_31_method_19_7) hr) (by decide) (by decide) ⟨rfl, N17, e17⟩
theorem ef_enc4 (m : MethodId) (xenc4_1 : Int32) (aenc4_2 : Addr) : entryFrame m #[(.int xenc4_1), (.ref aenc4_2), (.int (0 : Int32))] 6 = mkF m 0 #[.val (.int xenc4_1), .val (.ref aenc4_2), .val (.int (0 : Int32)), .unset, .unset, .unset] [] := by first | (simp [entryFrame, mkF, argsToLocals, Value.category]; done) | rfl
def Q_enc4 (Z : State) (xenc4_1 : Int32) (aenc4_2 : Addr) (h0 : Heap) (n0 : Nat) (v : Option Value) (h : Heap) (L : List Loc) : Prop := v = some (.int (4 : Int32)) ∧ Fr n0 L ∧ Keep h0 h [aenc4_2] ∧ Al Z h aenc4_2 .byte [(.int (-125 : Int32)), (.int ((((((xenc4_1.toUInt32 >>> ((8 : Int32) &&& 31).toUInt32).toInt32).toUInt32 >>> ((8 : Int32) &&& 31).toUInt32).toInt32).toInt8.toInt32).toInt8.toInt32)), (.int ((((xenc4_1.toUInt32 >>> ((8 : Int32) &&& 31).toUInt32).toInt32).toInt8.toInt32).toInt8.toInt32)), (.int ((xenc4_1.toInt8.toInt32).toInt8.toInt32)), (.int (0 : Int32))]
set_option maxRecDepth 65536 in
set_option maxHeartbeats 40000000 in
theorem rm_enc4 (l : Launch) (Z : State) (a0 : Array Value) (hw : ∀ d ∈ tables_1, d.before a0 Z = true) (ws : List Jvm.Cond) (xenc4_1 : Int32) (aenc4_2 : Addr) (h0 : Heap) (n0 : Nat) (Z0 : n0 ≤ h0.size) (V_aenc4_2 : Al Z h0 aenc4_2 .byte [(.int (0 : Int32)), (.int (0 : Int32)), (.int (0 : Int32)), (.int (0 : Int32)), (.int (0 : Int32))]) (g_aenc4_2 : n0 ≤ aenc4_2) (hge : ¬ (xenc4_1 < (0 : Int32))) (hk : f_es xenc4_1 = (4 : Int32)) :
    MetFree l mt6 (head1 (Jvm.Cond.code mt6 prog_4_method_5_code 6 (some .int) :: ws) ({ frames := 2, cells := 0, slots := 0, locals := 29 } : Room)) (fun a U => a = #[(.int xenc4_1), (.ref aenc4_2), (.int (0 : Int32))] ∧ Z.Warmed39 U.vm ∧ U.heap = h0) (fun _ _ _ _ _ => True) (fun _ U o U' => ∃ v L, o = .returned v ∧ (Q_enc4 Z xenc4_1 aenc4_2 h0 n0) v U'.heap L ∧ FrameEnd U o U' L ({ frames := 2, cells := 0, slots := 0, locals := 29 } : Room).cells ({ frames := 2, cells := 0, slots := 0, locals := 29 } : Room).slots) := by
  refine MetFree.of_bodySF (plainFor_of_name pn1) hisR ?_
  intro p e s m args below meth c s₁ Bd hml0 hP hK
  obtain ⟨rfl, hZ, hh⟩ := hP
  have hx := Bd.exec
  have hby := Bd.bytes
  have hml : c.maxLocals = 6 := hml0
  have hown : s.vm.findClass "com/example/opwire/opwire/codec/ber/BerLength" = some m.cls := findClass_of_methodNamed Bd.named
  have hnm := (name_of_methodNamed Bd.named Bd.method).1
  have X0 : Stand p l e ({ frames := 2, cells := 0, slots := 0, locals := 29 } : Room) s m #[(.int xenc4_1), (.ref aenc4_2), (.int (0 : Int32))] below meth c s₁ [] 0 0 := Stand.of_body Bd
  have e0 : s₁.heap = h0 := by rw [← hh, Bd.state]; rfl
  have N0 := Fr.nil n0
  refine Wq.step (p := p) (e := e) (below := below) (En := (fun o t L => FrameEnd s o t L ({ frames := 2, cells := 0, slots := 0, locals := 29 } : Room).cells ({ frames := 2, cells := 0, slots := 0, locals := 29 } : Room).slots)) (Q := (Q_enc4 Z xenc4_1 aenc4_2 h0 n0)) (fun t k => castTop (ef_enc4 m xenc4_1 aenc4_2) k) ?_
  show Wq _ _ _ _ _ (s₁.setTop (mkF m 0 #[.val (.int xenc4_1), .val (.ref aenc4_2), .val (.int (0 : Int32)), .unset, .unset, .unset] []))
  refine Ow.iloadN X0 hx (pc' := 1) (hb hby d_prog_4_method_5_0) rfl ?_
  obtain ⟨_, _, ⟨T18, L18, k18, n18⟩, -, X18, ⟨Lc18, hQ18, l18, y18, z18⟩, st18⟩ := Jvm.LawKit.callS X0 hx (y := mt3) hown (mvT hZ (kw9 hw)) (mvT hZ (kw10 hw)) (mvT hZ (kw2 hw)) (mvT hZ (kw11 hw)) (by decide) (backOf (W := 0) (rm_esk l Z a0 hw [] xenc4_1 (4 : Int32) h0 n0 Z0 (hge) (hk)) hZ (kw11 hw) (kw2 hw) (by decide) (by decide)) (g := (mkF m 1 #[.val (.int xenc4_1), .val (.ref aenc4_2), .val (.int (0 : Int32)), .unset, .unset, .unset] [(.int xenc4_1)])) rfl (by rw [hml]; rfl) (argsL := [(.int xenc4_1)]) (rest := []) (lenOf pd1 rfl) rfl (by show 2 * 0 + _ ≤ _; exact Nat.le_of_eq rfl) (hb hby d_prog_4_method_5_1) (fun _ _ => ⟨rfl, e0, (by decide : 0 + 0 ≤ _), (by decide : 0 + 0 ≤ _)⟩)
  dsimp only [Pt.U, Pt.locs, Pt.cells, Pt.slots] at X18 l18 y18 z18 st18 hQ18
  subst l18 y18 z18
  obtain ⟨rfl, Nq18, e18⟩ := hQ18
  have N18 := Fr.app N0 Nq18
  refine Wq.step st18 ?_
  show Wq _ _ _ _ _ (T18.setTop (mkF m 4 #[.val (.int xenc4_1), .val (.ref aenc4_2), .val (.int (0 : Int32)), .unset, .unset, .unset] [(.int (4 : Int32))]))
  refine Ow.istoreN X18 hx (pc' := 5) (hb hby d_prog_4_method_5_4) (l' := #[.val (.int xenc4_1), .val (.ref aenc4_2), .val (.int (0 : Int32)), .val (.int (4 : Int32)), .unset, .unset]) rfl ?_
  refine Ow.iloadN X18 hx (pc' := 6) (hb hby d_prog_4_method_5_5) rfl ?_
  refine Ow.iloadN X18 hx (pc' := 7) (hb hby d_prog_4_method_5_6) rfl ?_
  refine Ow.aloadN X18 hx (pc' := 8) (hb hby d_prog_4_method_5_7) rfl rfl ?_
  refine Ow.lenA X18 hx hZ e18 V_aenc4_2 (pc' := 9) (hb hby d_prog_4_method_5_8) (n := (5 : Int32)) (rfl) ?_
  obtain ⟨_, _, ⟨T19, L19, k19, n19⟩, -, X19, ⟨Lc19, hQ19, l19, y19, z19⟩, st19⟩ := Jvm.LawKit.callS X18 hx (y := mt5) hown (mvT hZ (kw12 hw)) (mvT hZ (kw13 hw)) (mvT hZ (kw14 hw)) (mvT hZ (kw15 hw)) (by decide) (backOf (W := 0) (rm_ci4 l Z a0 hw []  h0 n0 Z0 ) hZ (kw15 hw) (kw14 hw) (by decide) (by decide)) (g := (mkF m 9 #[.val (.int xenc4_1), .val (.ref aenc4_2), .val (.int (0 : Int32)), .val (.int (4 : Int32)), .unset, .unset] [(.int (5 : Int32)), (.int (4 : Int32)), (.int (0 : Int32))])) rfl (by rw [hml]; rfl) (argsL := [(.int (0 : Int32)), (.int (4 : Int32)), (.int (5 : Int32))]) (rest := []) (lenOf pd3 rfl) rfl (by show 2 * 0 + _ ≤ _; exact Nat.le_of_eq rfl) (hb hby d_prog_4_method_5_9) (fun _ _ => ⟨rfl, e18, (by decide : 0 + 0 ≤ _), (by decide : 0 + 0 ≤ _)⟩)
  dsimp only [Pt.U, Pt.locs, Pt.cells, Pt.slots] at X19 l19 y19 z19 st19 hQ19
  subst l19 y19 z19
  obtain ⟨rfl, Nq19, e19⟩ := hQ19
  have N19 := Fr.app N18 Nq19
  refine Wq.step st19 ?_
  show Wq _ _ _ _ _ (T19.setTop (mkF m 12 #[.val (.int xenc4_1), .val (.ref aenc4_2), .val (.int (0 : Int32)), .val (.int (4 : Int32)), .unset, .unset] [(.int (0 : Int32))]))
  refine Ow.pop X19 hx (pc' := 13) (hb hby d_prog_4_method_5_12) rfl ?_
  refine Ow.iloadN X19 hx (pc' := 14) (hb hby d_prog_4_method_5_13) rfl ?_
  refine Ow.iconst X19 hx (pc' := 15) (hb hby d_prog_4_method_5_14) (z := (1 : Int32)) rfl ?_
  refine Ow.icmpYes X19 hx (pc' := 27) (hb hby d_prog_4_method_5_15) (feq (by decide : ¬ ((4 : Int32) = (1 : Int32)))).2 (by decide) (by decide) ?_
  refine Ow.aloadN X19 hx (pc' := 28) (hb hby d_prog_4_method_5_27) rfl rfl ?_
  refine Ow.iloadN X19 hx (pc' := 29) (hb hby d_prog_4_method_5_28) rfl ?_
  refine Ow.sipush X19 hx (pc' := 32) (hb hby d_prog_4_method_5_29) (z := (128 : Int32)) rfl ?_
  refine Ow.iloadN X19 hx (pc' := 33) (hb hby d_prog_4_method_5_32) rfl ?_
  refine Ow.iconst X19 hx (pc' := 34) (hb hby d_prog_4_method_5_33) (z := (1 : Int32)) rfl ?_
  refine Ow.isub X19 hx (pc' := 35) (hb hby d_prog_4_method_5_34) (z := (3 : Int32)) rfl ?_
  refine Ow.ior X19 hx (pc' := 36) (hb hby d_prog_4_method_5_35) (z := (131 : Int32)) rfl ?_
  refine Ow.i2b X19 hx (pc' := 37) (hb hby d_prog_4_method_5_36) (z := (-125 : Int32)) rfl ?_
  obtain ⟨T20, h20, X20, e20, W20, Vr20, st20⟩ := asB X19 hx hZ e19 V_aenc4_2 (j := (0 : Int32)) (i := 0) (by decide) rfl (Nat.le_of_ble_eq_true rfl) (y := (-125 : Int32)) rfl (g := (mkF m 37 #[.val (.int xenc4_1), .val (.ref aenc4_2), .val (.int (0 : Int32)), .val (.int (4 : Int32)), .unset, .unset] [(.int (-125 : Int32)), (.int (0 : Int32)), (.ref aenc4_2)])) rfl rfl (hb hby d_prog_4_method_5_37)
  refine Wq.step st20 ?_
  have N20 := Fr.snoc X20 N19 g_aenc4_2
  have K20 : Keep h0 h20 [aenc4_2] := (Keep.refl h0 [aenc4_2]).wr W20 (Or.inl (List.mem_of_getElem? (i := 0) rfl))
  have Z20 : n0 ≤ h20.size := Nat.le_trans Z0 (Keep.of_wr W20).1
  have V_aenc4_2_t20 : Al Z h20 aenc4_2 .byte [(.int (-125 : Int32)), (.int (0 : Int32)), (.int (0 : Int32)), (.int (0 : Int32)), (.int (0 : Int32))] := Vr20
  show Wq _ _ _ _ _ (T20.setTop (mkF m 38 #[.val (.int xenc4_1), .val (.ref aenc4_2), .val (.int (0 : Int32)), .val (.int (4 : Int32)), .unset, .unset] []))
  refine Ow.iloadN X20 hx (pc' := 39) (hb hby d_prog_4_method_5_38) rfl ?_
  refine Ow.istore X20 hx (pc' := 41) (hb hby d_prog_4_method_5_39) (l' := #[.val (.int xenc4_1), .val (.ref aenc4_2), .val (.int (0 : Int32)), .val (.int (4 : Int32)), .val (.int xenc4_1), .unset]) rfl ?_
  refine Ow.iloadN X20 hx (pc' := 42) (hb hby d_prog_4_method_5_41) rfl ?_
  refine Ow.iloadN X20 hx (pc' := 43) (hb hby d_prog_4_method_5_42) rfl ?_
  refine Ow.iadd X20 hx (pc' := 44) (hb hby d_prog_4_method_5_43) (z := (4 : Int32)) rfl ?_
  refine Ow.iconst X20 hx (pc' := 45) (hb hby d_prog_4_method_5_44) (z := (1 : Int32)) rfl ?_
  refine Ow.isub X20 hx (pc' := 46) (hb hby d_prog_4_method_5_45) (z := (3 : Int32)) rfl ?_
  refine Ow.istore X20 hx (pc' := 48) (hb hby d_prog_4_method_5_46) (l' := #[.val (.int xenc4_1), .val (.ref aenc4_2), .val (.int (0 : Int32)), .val (.int (4 : Int32)), .val (.int xenc4_1), .val (.int (3 : Int32))]) rfl ?_
  refine Ow.iload X20 hx (pc' := 50) (hb hby d_prog_4_method_5_48) rfl ?_
  refine Ow.iloadN X20 hx (pc' := 51) (hb hby d_prog_4_method_5_50) rfl ?_
  refine Ow.icmpNo X20 hx (pc' := 54) (hb hby d_prog_4_method_5_51) (tlt (by decide : (0 : Int32) < (3 : Int32))).2.2.2 ?_
  refine Ow.aloadN X20 hx (pc' := 55) (hb hby d_prog_4_method_5_54) rfl rfl ?_
  refine Ow.iload X20 hx (pc' := 57) (hb hby d_prog_4_method_5_55) rfl ?_
  refine Ow.iload X20 hx (pc' := 59) (hb hby d_prog_4_method_5_57) rfl ?_
  refine Ow.i2b X20 hx (pc' := 60) (hb hby d_prog_4_method_5_59) (z := (xenc4_1.toInt8.toInt32)) rfl ?_
  obtain ⟨T21, h21, X21, e21, W21, Vr21, st21⟩ := asB X20 hx hZ e20 V_aenc4_2_t20 (j := (3 : Int32)) (i := 3) (by decide) rfl (Nat.le_of_ble_eq_true rfl) (y := ((xenc4_1.toInt8.toInt32).toInt8.toInt32)) rfl (g := (mkF m 60 #[.val (.int xenc4_1), .val (.ref aenc4_2), .val (.int (0 : Int32)), .val (.int (4 : Int32)), .val (.int xenc4_1), .val (.int (3 : Int32))] [(.int (xenc4_1.toInt8.toInt32)), (.int (3 : Int32)), (.ref aenc4_2)])) rfl rfl (hb hby d_prog_4_method_5_60)
  refine Wq.step st21 ?_
  have N21 := Fr.snoc X21 N20 g_aenc4_2
  have K21 : Keep h0 h21 [aenc4_2] := K20.wr W21 (Or.inl (List.mem_of_getElem? (i := 0) rfl))
  have Z21 : n0 ≤ h21.size := Nat.le_trans Z20 (Keep.of_wr W21).1
  have V_aenc4_2_t21 : Al Z h21 aenc4_2 .byte [(.int (-125 : Int32)), (.int (0 : Int32)), (.int (0 : Int32)), (.int ((xenc4_1.toInt8.toInt32).toInt8.toInt32)), (.int (0 : Int32))] := Vr21
  show Wq _ _ _ _ _ (T21.setTop (mkF m 61 #[.val (.int xenc4_1), .val (.ref aenc4_2), .val (.int (0 : Int32)), .val (.int (4 : Int32)), .val (.int xenc4_1), .val (.int (3 : Int32))] []))
  refine Ow.iload X21 hx (pc' := 63) (hb hby d_prog_4_method_5_61) rfl ?_
  refine Ow.bipush X21 hx (pc' := 65) (hb hby d_prog_4_method_5_63) (z := (8 : Int32)) rfl ?_
  refine Ow.iushr X21 hx (pc' := 66) (hb hby d_prog_4_method_5_65) (z := ((xenc4_1.toUInt32 >>> ((8 : Int32) &&& 31).toUInt32).toInt32)) rfl ?_
  refine Ow.istore X21 hx (pc' := 68) (hb hby d_prog_4_method_5_66) (l' := #[.val (.int xenc4_1), .val (.ref aenc4_2), .val (.int (0 : Int32)), .val (.int (4 : Int32)), .val (.int ((xenc4_1.toUInt32 >>> ((8 : Int32) &&& 31).toUInt32).toInt32)), .val (.int (3 : Int32))]) rfl ?_
  refine Ow.iinc X21 hx (pc' := 71) (hb hby d_prog_4_method_5_68) rfl (l' := #[.val (.int xenc4_1), .val (.ref aenc4_2), .val (.int (0 : Int32)), .val (.int (4 : Int32)), .val (.int ((xenc4_1.toUInt32 >>> ((8 : Int32) &&& 31).toUInt32).toInt32)), .val (.int (2 : Int32))]) rfl ?_
  show Wq _ _ _ _ _ (T21.setTop (mkF m 71 #[.val (.int xenc4_1), .val (.ref aenc4_2), .val (.int (0 : Int32)), .val (.int (4 : Int32)), .val (.int ((xenc4_1.toUInt32 >>> ((8 : Int32) &&& 31).toUInt32).toInt32)), .val (.int (2 : Int32))] []))
  refine Ow.goto X21 hx (pc' := 48) (hb hby d_prog_4_method_5_71) (by decide) (by decide) ?_
  refine Ow.iload X21 hx (pc' := 50) (hb hby d_prog_4_method_5_48) rfl ?_
  refine Ow.iloadN X21 hx (pc' := 51) (hb hby d_prog_4_method_5_50) rfl ?_
  refine Ow.icmpNo X21 hx (pc' := 54) (hb hby d_prog_4_method_5_51) (tlt (by decide : (0 : Int32) < (2 : Int32))).2.2.2 ?_
  refine Ow.aloadN X21 hx (pc' := 55) (hb hby d_prog_4_method_5_54) rfl rfl ?_
  refine Ow.iload X21 hx (pc' := 57) (hb hby d_prog_4_method_5_55) rfl ?_
  refine Ow.iload X21 hx (pc' := 59) (hb hby d_prog_4_method_5_57) rfl ?_
  refine Ow.i2b X21 hx (pc' := 60) (hb hby d_prog_4_method_5_59) (z := (((xenc4_1.toUInt32 >>> ((8 : Int32) &&& 31).toUInt32).toInt32).toInt8.toInt32)) rfl ?_
  obtain ⟨T22, h22, X22, e22, W22, Vr22, st22⟩ := asB X21 hx hZ e21 V_aenc4_2_t21 (j := (2 : Int32)) (i := 2) (by decide) rfl (Nat.le_of_ble_eq_true rfl) (y := ((((xenc4_1.toUInt32 >>> ((8 : Int32) &&& 31).toUInt32).toInt32).toInt8.toInt32).toInt8.toInt32)) rfl (g := (mkF m 60 #[.val (.int xenc4_1), .val (.ref aenc4_2), .val (.int (0 : Int32)), .val (.int (4 : Int32)), .val (.int ((xenc4_1.toUInt32 >>> ((8 : Int32) &&& 31).toUInt32).toInt32)), .val (.int (2 : Int32))] [(.int (((xenc4_1.toUInt32 >>> ((8 : Int32) &&& 31).toUInt32).toInt32).toInt8.toInt32)), (.int (2 : Int32)), (.ref aenc4_2)])) rfl rfl (hb hby d_prog_4_method_5_60)
  refine Wq.step st22 ?_
  have N22 := Fr.snoc X22 N21 g_aenc4_2
  have K22 : Keep h0 h22 [aenc4_2] := K21.wr W22 (Or.inl (List.mem_of_getElem? (i := 0) rfl))
  have Z22 : n0 ≤ h22.size := Nat.le_trans Z21 (Keep.of_wr W22).1
  have V_aenc4_2_t22 : Al Z h22 aenc4_2 .byte [(.int (-125 : Int32)), (.int (0 : Int32)), (.int ((((xenc4_1.toUInt32 >>> ((8 : Int32) &&& 31).toUInt32).toInt32).toInt8.toInt32).toInt8.toInt32)), (.int ((xenc4_1.toInt8.toInt32).toInt8.toInt32)), (.int (0 : Int32))] := Vr22
  show Wq _ _ _ _ _ (T22.setTop (mkF m 61 #[.val (.int xenc4_1), .val (.ref aenc4_2), .val (.int (0 : Int32)), .val (.int (4 : Int32)), .val (.int ((xenc4_1.toUInt32 >>> ((8 : Int32) &&& 31).toUInt32).toInt32)), .val (.int (2 : Int32))] []))
  refine Ow.iload X22 hx (pc' := 63) (hb hby d_prog_4_method_5_61) rfl ?_
  refine Ow.bipush X22 hx (pc' := 65) (hb hby d_prog_4_method_5_63) (z := (8 : Int32)) rfl ?_
  refine Ow.iushr X22 hx (pc' := 66) (hb hby d_prog_4_method_5_65) (z := ((((xenc4_1.toUInt32 >>> ((8 : Int32) &&& 31).toUInt32).toInt32).toUInt32 >>> ((8 : Int32) &&& 31).toUInt32).toInt32)) rfl ?_
  refine Ow.istore X22 hx (pc' := 68) (hb hby d_prog_4_method_5_66) (l' := #[.val (.int xenc4_1), .val (.ref aenc4_2), .val (.int (0 : Int32)), .val (.int (4 : Int32)), .val (.int ((((xenc4_1.toUInt32 >>> ((8 : Int32) &&& 31).toUInt32).toInt32).toUInt32 >>> ((8 : Int32) &&& 31).toUInt32).toInt32)), .val (.int (2 : Int32))]) rfl ?_
  refine Ow.iinc X22 hx (pc' := 71) (hb hby d_prog_4_method_5_68) rfl (l' := #[.val (.int xenc4_1), .val (.ref aenc4_2), .val (.int (0 : Int32)), .val (.int (4 : Int32)), .val (.int ((((xenc4_1.toUInt32 >>> ((8 : Int32) &&& 31).toUInt32).toInt32).toUInt32 >>> ((8 : Int32) &&& 31).toUInt32).toInt32)), .val (.int (1 : Int32))]) rfl ?_
  show Wq _ _ _ _ _ (T22.setTop (mkF m 71 #[.val (.int xenc4_1), .val (.ref aenc4_2), .val (.int (0 : Int32)), .val (.int (4 : Int32)), .val (.int ((((xenc4_1.toUInt32 >>> ((8 : Int32) &&& 31).toUInt32).toInt32).toUInt32 >>> ((8 : Int32) &&& 31).toUInt32).toInt32)), .val (.int (1 : Int32))] []))
  refine Ow.goto X22 hx (pc' := 48) (hb hby d_prog_4_method_5_71) (by decide) (by decide) ?_
  refine Ow.iload X22 hx (pc' := 50) (hb hby d_prog_4_method_5_48) rfl ?_
  refine Ow.iloadN X22 hx (pc' := 51) (hb hby d_prog_4_method_5_50) rfl ?_
  refine Ow.icmpNo X22 hx (pc' := 54) (hb hby d_prog_4_method_5_51) (tlt (by decide : (0 : Int32) < (1 : Int32))).2.2.2 ?_
  refine Ow.aloadN X22 hx (pc' := 55) (hb hby d_prog_4_method_5_54) rfl rfl ?_
  refine Ow.iload X22 hx (pc' := 57) (hb hby d_prog_4_method_5_55) rfl ?_
  refine Ow.iload X22 hx (pc' := 59) (hb hby d_prog_4_method_5_57) rfl ?_
  refine Ow.i2b X22 hx (pc' := 60) (hb hby d_prog_4_method_5_59) (z := (((((xenc4_1.toUInt32 >>> ((8 : Int32) &&& 31).toUInt32).toInt32).toUInt32 >>> ((8 : Int32) &&& 31).toUInt32).toInt32).toInt8.toInt32)) rfl ?_
  obtain ⟨T23, h23, X23, e23, W23, Vr23, st23⟩ := asB X22 hx hZ e22 V_aenc4_2_t22 (j := (1 : Int32)) (i := 1) (by decide) rfl (Nat.le_of_ble_eq_true rfl) (y := ((((((xenc4_1.toUInt32 >>> ((8 : Int32) &&& 31).toUInt32).toInt32).toUInt32 >>> ((8 : Int32) &&& 31).toUInt32).toInt32).toInt8.toInt32).toInt8.toInt32)) rfl (g := (mkF m 60 #[.val (.int xenc4_1), .val (.ref aenc4_2), .val (.int (0 : Int32)), .val (.int (4 : Int32)), .val (.int ((((xenc4_1.toUInt32 >>> ((8 : Int32) &&& 31).toUInt32).toInt32).toUInt32 >>> ((8 : Int32) &&& 31).toUInt32).toInt32)), .val (.int (1 : Int32))] [(.int (((((xenc4_1.toUInt32 >>> ((8 : Int32) &&& 31).toUInt32).toInt32).toUInt32 >>> ((8 : Int32) &&& 31).toUInt32).toInt32).toInt8.toInt32)), (.int (1 : Int32)), (.ref aenc4_2)])) rfl rfl (hb hby d_prog_4_method_5_60)
  refine Wq.step st23 ?_
  have N23 := Fr.snoc X23 N22 g_aenc4_2
  have K23 : Keep h0 h23 [aenc4_2] := K22.wr W23 (Or.inl (List.mem_of_getElem? (i := 0) rfl))
  have Z23 : n0 ≤ h23.size := Nat.le_trans Z22 (Keep.of_wr W23).1
  have V_aenc4_2_t23 : Al Z h23 aenc4_2 .byte [(.int (-125 : Int32)), (.int ((((((xenc4_1.toUInt32 >>> ((8 : Int32) &&& 31).toUInt32).toInt32).toUInt32 >>> ((8 : Int32) &&& 31).toUInt32).toInt32).toInt8.toInt32).toInt8.toInt32)), (.int ((((xenc4_1.toUInt32 >>> ((8 : Int32) &&& 31).toUInt32).toInt32).toInt8.toInt32).toInt8.toInt32)), (.int ((xenc4_1.toInt8.toInt32).toInt8.toInt32)), (.int (0 : Int32))] := Vr23
  show Wq _ _ _ _ _ (T23.setTop (mkF m 61 #[.val (.int xenc4_1), .val (.ref aenc4_2), .val (.int (0 : Int32)), .val (.int (4 : Int32)), .val (.int ((((xenc4_1.toUInt32 >>> ((8 : Int32) &&& 31).toUInt32).toInt32).toUInt32 >>> ((8 : Int32) &&& 31).toUInt32).toInt32)), .val (.int (1 : Int32))] []))
  refine Ow.iload X23 hx (pc' := 63) (hb hby d_prog_4_method_5_61) rfl ?_
  refine Ow.bipush X23 hx (pc' := 65) (hb hby d_prog_4_method_5_63) (z := (8 : Int32)) rfl ?_
  refine Ow.iushr X23 hx (pc' := 66) (hb hby d_prog_4_method_5_65) (z := ((((((xenc4_1.toUInt32 >>> ((8 : Int32) &&& 31).toUInt32).toInt32).toUInt32 >>> ((8 : Int32) &&& 31).toUInt32).toInt32).toUInt32 >>> ((8 : Int32) &&& 31).toUInt32).toInt32)) rfl ?_
  refine Ow.istore X23 hx (pc' := 68) (hb hby d_prog_4_method_5_66) (l' := #[.val (.int xenc4_1), .val (.ref aenc4_2), .val (.int (0 : Int32)), .val (.int (4 : Int32)), .val (.int ((((((xenc4_1.toUInt32 >>> ((8 : Int32) &&& 31).toUInt32).toInt32).toUInt32 >>> ((8 : Int32) &&& 31).toUInt32).toInt32).toUInt32 >>> ((8 : Int32) &&& 31).toUInt32).toInt32)), .val (.int (1 : Int32))]) rfl ?_
  refine Ow.iinc X23 hx (pc' := 71) (hb hby d_prog_4_method_5_68) rfl (l' := #[.val (.int xenc4_1), .val (.ref aenc4_2), .val (.int (0 : Int32)), .val (.int (4 : Int32)), .val (.int ((((((xenc4_1.toUInt32 >>> ((8 : Int32) &&& 31).toUInt32).toInt32).toUInt32 >>> ((8 : Int32) &&& 31).toUInt32).toInt32).toUInt32 >>> ((8 : Int32) &&& 31).toUInt32).toInt32)), .val (.int (0 : Int32))]) rfl ?_
  show Wq _ _ _ _ _ (T23.setTop (mkF m 71 #[.val (.int xenc4_1), .val (.ref aenc4_2), .val (.int (0 : Int32)), .val (.int (4 : Int32)), .val (.int ((((((xenc4_1.toUInt32 >>> ((8 : Int32) &&& 31).toUInt32).toInt32).toUInt32 >>> ((8 : Int32) &&& 31).toUInt32).toInt32).toUInt32 >>> ((8 : Int32) &&& 31).toUInt32).toInt32)), .val (.int (0 : Int32))] []))
  refine Ow.goto X23 hx (pc' := 48) (hb hby d_prog_4_method_5_71) (by decide) (by decide) ?_
  refine Ow.iload X23 hx (pc' := 50) (hb hby d_prog_4_method_5_48) rfl ?_
  refine Ow.iloadN X23 hx (pc' := 51) (hb hby d_prog_4_method_5_50) rfl ?_
  refine Ow.icmpYes X23 hx (pc' := 74) (hb hby d_prog_4_method_5_51) (flt (by decide : ¬ ((0 : Int32) < (0 : Int32)))).2.2.2 (by decide) (by decide) ?_
  refine Ow.iloadN X23 hx (pc' := 75) (hb hby d_prog_4_method_5_74) rfl ?_
  refine Ow.iloadN X23 hx (pc' := 76) (hb hby d_prog_4_method_5_75) rfl ?_
  refine Ow.iadd X23 hx (pc' := 77) (hb hby d_prog_4_method_5_76) (z := (4 : Int32)) rfl ?_
  exact Wq.ret X23 (BodyLoose.notSynchronized Bd) (rv := some (.int (4 : Int32))) (fun h => by rw [Bd.returns] at h; cases h) (fun _ hr => retOut X23 hx Bd.returns rfl (Or.inl ⟨rfl, Or.inl rfl, _, rfl⟩) (hb hby d_prog_4_method_5_77) hr) (by decide) (by decide) (by rw [e23]; exact ⟨rfl, N23, K23, V_aenc4_2_t23⟩)
theorem ef_pc5 (m : MethodId) : entryFrame m #[(.int (0 : Int32)), (.int (5 : Int32)), (.int (5 : Int32)), .null] 4 = mkF m 0 #[.val (.int (0 : Int32)), .val (.int (5 : Int32)), .val (.int (5 : Int32)), .val .null] [] := by first | (simp [entryFrame, mkF, argsToLocals, Value.category]; done) | rfl
def Q_pc5 (Z : State)  (h0 : Heap) (n0 : Nat) (v : Option Value) (h : Heap) (L : List Loc) : Prop := v = some (.int (0 : Int32)) ∧ Fr n0 L ∧ h = h0
set_option maxRecDepth 65536 in
set_option maxHeartbeats 40000000 in
theorem rm_pc5 (l : Launch) (Z : State) (a0 : Array Value) (hw : ∀ d ∈ tables_1, d.before a0 Z = true) (ws : List Jvm.Cond)  (h0 : Heap) (n0 : Nat) (Z0 : n0 ≤ h0.size)  :
    MetFree l mt4 (head1 (Jvm.Cond.code mt4 jdk_41_method_13_code 4 (some .int) :: ws) ({ frames := 0, cells := 0, slots := 0, locals := 0 } : Room)) (fun a U => a = #[(.int (0 : Int32)), (.int (5 : Int32)), (.int (5 : Int32)), .null] ∧ Z.Warmed39 U.vm ∧ U.heap = h0) (fun _ _ _ _ _ => True) (fun _ U o U' => ∃ v L, o = .returned v ∧ (Q_pc5 Z  h0 n0) v U'.heap L ∧ FrameEnd U o U' L ({ frames := 0, cells := 0, slots := 0, locals := 0 } : Room).cells ({ frames := 0, cells := 0, slots := 0, locals := 0 } : Room).slots) := by
  refine MetFree.of_bodySF (plainFor_of_name pn3) hisR ?_
  intro p e s m args below meth c s₁ Bd hml0 hP hK
  obtain ⟨rfl, hZ, hh⟩ := hP
  have hx := Bd.exec
  have hby := Bd.bytes
  have hml : c.maxLocals = 4 := hml0
  have hown : s.vm.findClass "jdk/internal/util/Preconditions" = some m.cls := findClass_of_methodNamed Bd.named
  have hnm := (name_of_methodNamed Bd.named Bd.method).1
  have X0 : Stand p l e ({ frames := 0, cells := 0, slots := 0, locals := 0 } : Room) s m #[(.int (0 : Int32)), (.int (5 : Int32)), (.int (5 : Int32)), .null] below meth c s₁ [] 0 0 := Stand.of_body Bd
  have e0 : s₁.heap = h0 := by rw [← hh, Bd.state]; rfl
  have N0 := Fr.nil n0
  refine Wq.step (p := p) (e := e) (below := below) (En := (fun o t L => FrameEnd s o t L ({ frames := 0, cells := 0, slots := 0, locals := 0 } : Room).cells ({ frames := 0, cells := 0, slots := 0, locals := 0 } : Room).slots)) (Q := (Q_pc5 Z  h0 n0)) (fun t k => castTop (ef_pc5 m ) k) ?_
  show Wq _ _ _ _ _ (s₁.setTop (mkF m 0 #[.val (.int (0 : Int32)), .val (.int (5 : Int32)), .val (.int (5 : Int32)), .val .null] []))
  refine Ow.iloadN X0 hx (pc' := 1) (hb hby d_jdk_41_method_13_0) rfl ?_
  refine Ow.iloadN X0 hx (pc' := 2) (hb hby d_jdk_41_method_13_1) rfl ?_
  refine Ow.ior X0 hx (pc' := 3) (hb hby d_jdk_41_method_13_2) (z := (5 : Int32)) rfl ?_
  refine Ow.iloadN X0 hx (pc' := 4) (hb hby d_jdk_41_method_13_3) rfl ?_
  refine Ow.ior X0 hx (pc' := 5) (hb hby d_jdk_41_method_13_4) (z := (5 : Int32)) rfl ?_
  refine Ow.ifNo X0 hx (pc' := 8) (hb hby d_jdk_41_method_13_5) ((if0 _ _).trans (flt (by decide : ¬ ((5 : Int32) < (0 : Int32)))).1) ?_
  refine Ow.iloadN X0 hx (pc' := 9) (hb hby d_jdk_41_method_13_8) rfl ?_
  refine Ow.iloadN X0 hx (pc' := 10) (hb hby d_jdk_41_method_13_9) rfl ?_
  refine Ow.iloadN X0 hx (pc' := 11) (hb hby d_jdk_41_method_13_10) rfl ?_
  refine Ow.isub X0 hx (pc' := 12) (hb hby d_jdk_41_method_13_11) (z := (5 : Int32)) rfl ?_
  refine Ow.icmpYes X0 hx (pc' := 23) (hb hby d_jdk_41_method_13_12) (flt (by decide : ¬ ((5 : Int32) < (5 : Int32)))).2.2.2 (by decide) (by decide) ?_
  refine Ow.iloadN X0 hx (pc' := 24) (hb hby d_jdk_41_method_13_23) rfl ?_
  exact Wq.ret X0 (BodyLoose.notSynchronized Bd) (rv := some (.int (0 : Int32))) (fun h => by rw [Bd.returns] at h; cases h) (fun _ hr => retOut X0 hx Bd.returns rfl (Or.inl ⟨rfl, Or.inl rfl, _, rfl⟩) (hb hby d_jdk_41_method_13_24) hr) (by decide) (by decide) ⟨rfl, N0, e0⟩
theorem ef_ci5 (m : MethodId) : entryFrame m #[(.int (0 : Int32)), (.int (5 : Int32)), (.int (5 : Int32))] 3 = mkF m 0 #[.val (.int (0 : Int32)), .val (.int (5 : Int32)), .val (.int (5 : Int32))] [] := by first | (simp [entryFrame, mkF, argsToLocals, Value.category]; done) | rfl
def Q_ci5 (Z : State)  (h0 : Heap) (n0 : Nat) (v : Option Value) (h : Heap) (L : List Loc) : Prop := v = some (.int (0 : Int32)) ∧ Fr n0 L ∧ h = h0
set_option maxRecDepth 65536 in
set_option maxHeartbeats 40000000 in
theorem rm_ci5 (l : Launch) (Z : State) (a0 : Array Value) (hw : ∀ d ∈ tables_1, d.before a0 Z = true) (ws : List Jvm.Cond)  (h0 : Heap) (n0 : Nat) (Z0 : n0 ≤ h0.size)  :
    MetFree l mt5 (head1 (Jvm.Cond.code mt5 jdk_31_method_19_code 3 (some .int) :: ws) ({ frames := 1, cells := 0, slots := 0, locals := 15 } : Room)) (fun a U => a = #[(.int (0 : Int32)), (.int (5 : Int32)), (.int (5 : Int32))] ∧ Z.Warmed39 U.vm ∧ U.heap = h0) (fun _ _ _ _ _ => True) (fun _ U o U' => ∃ v L, o = .returned v ∧ (Q_ci5 Z  h0 n0) v U'.heap L ∧ FrameEnd U o U' L ({ frames := 1, cells := 0, slots := 0, locals := 15 } : Room).cells ({ frames := 1, cells := 0, slots := 0, locals := 15 } : Room).slots) := by
  refine MetFree.of_bodySF (plainFor_of_name pn4) hisR ?_
  intro p e s m args below meth c s₁ Bd hml0 hP hK
  obtain ⟨rfl, hZ, hh⟩ := hP
  have hx := Bd.exec
  have hby := Bd.bytes
  have hml : c.maxLocals = 3 := hml0
  have hown : s.vm.findClass "java/util/Objects" = some m.cls := findClass_of_methodNamed Bd.named
  have hnm := (name_of_methodNamed Bd.named Bd.method).1
  have X0 : Stand p l e ({ frames := 1, cells := 0, slots := 0, locals := 15 } : Room) s m #[(.int (0 : Int32)), (.int (5 : Int32)), (.int (5 : Int32))] below meth c s₁ [] 0 0 := Stand.of_body Bd
  have e0 : s₁.heap = h0 := by rw [← hh, Bd.state]; rfl
  have N0 := Fr.nil n0
  refine Wq.step (p := p) (e := e) (below := below) (En := (fun o t L => FrameEnd s o t L ({ frames := 1, cells := 0, slots := 0, locals := 15 } : Room).cells ({ frames := 1, cells := 0, slots := 0, locals := 15 } : Room).slots)) (Q := (Q_ci5 Z  h0 n0)) (fun t k => castTop (ef_ci5 m ) k) ?_
  show Wq _ _ _ _ _ (s₁.setTop (mkF m 0 #[.val (.int (0 : Int32)), .val (.int (5 : Int32)), .val (.int (5 : Int32))] []))
  refine Ow.iloadN X0 hx (pc' := 1) (hb hby d_jdk_31_method_19_0) rfl ?_
  refine Ow.iloadN X0 hx (pc' := 2) (hb hby d_jdk_31_method_19_1) rfl ?_
  refine Ow.iloadN X0 hx (pc' := 3) (hb hby d_jdk_31_method_19_2) rfl ?_
  refine Ow.aconstNull X0 hx (pc' := 4) (hb hby d_jdk_31_method_19_3)  ?_
  obtain ⟨_, _, ⟨T24, L24, k24, n24⟩, -, X24, ⟨Lc24, hQ24, l24, y24, z24⟩, st24⟩ := Jvm.LawKit.callS X0 hx (y := mt4) hown (mvT hZ (kw16 hw)) (mvT hZ (kw17 hw)) (mvT hZ (kw18 hw)) (mvT hZ (kw19 hw)) (by decide) (backOf (W := 0) (rm_pc5 l Z a0 hw []  h0 n0 Z0 ) hZ (kw19 hw) (kw18 hw) (by decide) (by decide)) (g := (mkF m 4 #[.val (.int (0 : Int32)), .val (.int (5 : Int32)), .val (.int (5 : Int32))] [.null, (.int (5 : Int32)), (.int (5 : Int32)), (.int (0 : Int32))])) rfl (by rw [hml]; rfl) (argsL := [(.int (0 : Int32)), (.int (5 : Int32)), (.int (5 : Int32)), .null]) (rest := []) (lenOf pd2 rfl) rfl (by show 2 * 0 + _ ≤ _; exact Nat.le_of_eq rfl) (hb hby d_jdk_31_method_19_4) (fun _ _ => ⟨rfl, e0, (by decide : 0 + 0 ≤ _), (by decide : 0 + 0 ≤ _)⟩)
  dsimp only [Pt.U, Pt.locs, Pt.cells, Pt.slots] at X24 l24 y24 z24 st24 hQ24
  subst l24 y24 z24
  obtain ⟨rfl, Nq24, e24⟩ := hQ24
  have N24 := Fr.app N0 Nq24
  refine Wq.step st24 ?_
  show Wq _ _ _ _ _ (T24.setTop (mkF m 7 #[.val (.int (0 : Int32)), .val (.int (5 : Int32)), .val (.int (5 : Int32))] [(.int (0 : Int32))]))
  exact Wq.ret X24 (BodyLoose.notSynchronized Bd) (rv := some (.int (0 : Int32))) (fun h => by rw [Bd.returns] at h; cases h) (fun _ hr => retOut X24 hx Bd.returns rfl (Or.inl ⟨rfl, Or.inl rfl, _, rfl⟩) (hb hby d_jdk_31_method_19_7) hr) (by decide) (by decide) ⟨rfl, N24, e24⟩
theorem ef_enc5 (m : MethodId) (xenc5_1 : Int32) (aenc5_2 : Addr) : entryFrame m #[(.int xenc5_1), (.ref aenc5_2), (.int (0 : Int32))] 6 = mkF m 0 #[.val (.int xenc5_1), .val (.ref aenc5_2), .val (.int (0 : Int32)), .unset, .unset, .unset] [] := by first | (simp [entryFrame, mkF, argsToLocals, Value.category]; done) | rfl
def Q_enc5 (Z : State) (xenc5_1 : Int32) (aenc5_2 : Addr) (h0 : Heap) (n0 : Nat) (v : Option Value) (h : Heap) (L : List Loc) : Prop := v = some (.int (5 : Int32)) ∧ Fr n0 L ∧ Keep h0 h [aenc5_2] ∧ Al Z h aenc5_2 .byte [(.int (-124 : Int32)), (.int ((((((((xenc5_1.toUInt32 >>> ((8 : Int32) &&& 31).toUInt32).toInt32).toUInt32 >>> ((8 : Int32) &&& 31).toUInt32).toInt32).toUInt32 >>> ((8 : Int32) &&& 31).toUInt32).toInt32).toInt8.toInt32).toInt8.toInt32)), (.int ((((((xenc5_1.toUInt32 >>> ((8 : Int32) &&& 31).toUInt32).toInt32).toUInt32 >>> ((8 : Int32) &&& 31).toUInt32).toInt32).toInt8.toInt32).toInt8.toInt32)), (.int ((((xenc5_1.toUInt32 >>> ((8 : Int32) &&& 31).toUInt32).toInt32).toInt8.toInt32).toInt8.toInt32)), (.int ((xenc5_1.toInt8.toInt32).toInt8.toInt32))]
set_option maxRecDepth 65536 in
set_option maxHeartbeats 40000000 in
theorem rm_enc5 (l : Launch) (Z : State) (a0 : Array Value) (hw : ∀ d ∈ tables_1, d.before a0 Z = true) (ws : List Jvm.Cond) (xenc5_1 : Int32) (aenc5_2 : Addr) (h0 : Heap) (n0 : Nat) (Z0 : n0 ≤ h0.size) (V_aenc5_2 : Al Z h0 aenc5_2 .byte [(.int (0 : Int32)), (.int (0 : Int32)), (.int (0 : Int32)), (.int (0 : Int32)), (.int (0 : Int32))]) (g_aenc5_2 : n0 ≤ aenc5_2) (hge : ¬ (xenc5_1 < (0 : Int32))) (hk : f_es xenc5_1 = (5 : Int32)) :
    MetFree l mt6 (head1 (Jvm.Cond.code mt6 prog_4_method_5_code 6 (some .int) :: ws) ({ frames := 2, cells := 0, slots := 0, locals := 29 } : Room)) (fun a U => a = #[(.int xenc5_1), (.ref aenc5_2), (.int (0 : Int32))] ∧ Z.Warmed39 U.vm ∧ U.heap = h0) (fun _ _ _ _ _ => True) (fun _ U o U' => ∃ v L, o = .returned v ∧ (Q_enc5 Z xenc5_1 aenc5_2 h0 n0) v U'.heap L ∧ FrameEnd U o U' L ({ frames := 2, cells := 0, slots := 0, locals := 29 } : Room).cells ({ frames := 2, cells := 0, slots := 0, locals := 29 } : Room).slots) := by
  refine MetFree.of_bodySF (plainFor_of_name pn1) hisR ?_
  intro p e s m args below meth c s₁ Bd hml0 hP hK
  obtain ⟨rfl, hZ, hh⟩ := hP
  have hx := Bd.exec
  have hby := Bd.bytes
  have hml : c.maxLocals = 6 := hml0
  have hown : s.vm.findClass "com/example/opwire/opwire/codec/ber/BerLength" = some m.cls := findClass_of_methodNamed Bd.named
  have hnm := (name_of_methodNamed Bd.named Bd.method).1
  have X0 : Stand p l e ({ frames := 2, cells := 0, slots := 0, locals := 29 } : Room) s m #[(.int xenc5_1), (.ref aenc5_2), (.int (0 : Int32))] below meth c s₁ [] 0 0 := Stand.of_body Bd
  have e0 : s₁.heap = h0 := by rw [← hh, Bd.state]; rfl
  have N0 := Fr.nil n0
  refine Wq.step (p := p) (e := e) (below := below) (En := (fun o t L => FrameEnd s o t L ({ frames := 2, cells := 0, slots := 0, locals := 29 } : Room).cells ({ frames := 2, cells := 0, slots := 0, locals := 29 } : Room).slots)) (Q := (Q_enc5 Z xenc5_1 aenc5_2 h0 n0)) (fun t k => castTop (ef_enc5 m xenc5_1 aenc5_2) k) ?_
  show Wq _ _ _ _ _ (s₁.setTop (mkF m 0 #[.val (.int xenc5_1), .val (.ref aenc5_2), .val (.int (0 : Int32)), .unset, .unset, .unset] []))
  refine Ow.iloadN X0 hx (pc' := 1) (hb hby d_prog_4_method_5_0) rfl ?_
  obtain ⟨_, _, ⟨T25, L25, k25, n25⟩, -, X25, ⟨Lc25, hQ25, l25, y25, z25⟩, st25⟩ := Jvm.LawKit.callS X0 hx (y := mt3) hown (mvT hZ (kw9 hw)) (mvT hZ (kw10 hw)) (mvT hZ (kw2 hw)) (mvT hZ (kw11 hw)) (by decide) (backOf (W := 0) (rm_esk l Z a0 hw [] xenc5_1 (5 : Int32) h0 n0 Z0 (hge) (hk)) hZ (kw11 hw) (kw2 hw) (by decide) (by decide)) (g := (mkF m 1 #[.val (.int xenc5_1), .val (.ref aenc5_2), .val (.int (0 : Int32)), .unset, .unset, .unset] [(.int xenc5_1)])) rfl (by rw [hml]; rfl) (argsL := [(.int xenc5_1)]) (rest := []) (lenOf pd1 rfl) rfl (by show 2 * 0 + _ ≤ _; exact Nat.le_of_eq rfl) (hb hby d_prog_4_method_5_1) (fun _ _ => ⟨rfl, e0, (by decide : 0 + 0 ≤ _), (by decide : 0 + 0 ≤ _)⟩)
  dsimp only [Pt.U, Pt.locs, Pt.cells, Pt.slots] at X25 l25 y25 z25 st25 hQ25
  subst l25 y25 z25
  obtain ⟨rfl, Nq25, e25⟩ := hQ25
  have N25 := Fr.app N0 Nq25
  refine Wq.step st25 ?_
  show Wq _ _ _ _ _ (T25.setTop (mkF m 4 #[.val (.int xenc5_1), .val (.ref aenc5_2), .val (.int (0 : Int32)), .unset, .unset, .unset] [(.int (5 : Int32))]))
  refine Ow.istoreN X25 hx (pc' := 5) (hb hby d_prog_4_method_5_4) (l' := #[.val (.int xenc5_1), .val (.ref aenc5_2), .val (.int (0 : Int32)), .val (.int (5 : Int32)), .unset, .unset]) rfl ?_
  refine Ow.iloadN X25 hx (pc' := 6) (hb hby d_prog_4_method_5_5) rfl ?_
  refine Ow.iloadN X25 hx (pc' := 7) (hb hby d_prog_4_method_5_6) rfl ?_
  refine Ow.aloadN X25 hx (pc' := 8) (hb hby d_prog_4_method_5_7) rfl rfl ?_
  refine Ow.lenA X25 hx hZ e25 V_aenc5_2 (pc' := 9) (hb hby d_prog_4_method_5_8) (n := (5 : Int32)) (rfl) ?_
  obtain ⟨_, _, ⟨T26, L26, k26, n26⟩, -, X26, ⟨Lc26, hQ26, l26, y26, z26⟩, st26⟩ := Jvm.LawKit.callS X25 hx (y := mt5) hown (mvT hZ (kw12 hw)) (mvT hZ (kw13 hw)) (mvT hZ (kw14 hw)) (mvT hZ (kw15 hw)) (by decide) (backOf (W := 0) (rm_ci5 l Z a0 hw []  h0 n0 Z0 ) hZ (kw15 hw) (kw14 hw) (by decide) (by decide)) (g := (mkF m 9 #[.val (.int xenc5_1), .val (.ref aenc5_2), .val (.int (0 : Int32)), .val (.int (5 : Int32)), .unset, .unset] [(.int (5 : Int32)), (.int (5 : Int32)), (.int (0 : Int32))])) rfl (by rw [hml]; rfl) (argsL := [(.int (0 : Int32)), (.int (5 : Int32)), (.int (5 : Int32))]) (rest := []) (lenOf pd3 rfl) rfl (by show 2 * 0 + _ ≤ _; exact Nat.le_of_eq rfl) (hb hby d_prog_4_method_5_9) (fun _ _ => ⟨rfl, e25, (by decide : 0 + 0 ≤ _), (by decide : 0 + 0 ≤ _)⟩)
  dsimp only [Pt.U, Pt.locs, Pt.cells, Pt.slots] at X26 l26 y26 z26 st26 hQ26
  subst l26 y26 z26
  obtain ⟨rfl, Nq26, e26⟩ := hQ26
  have N26 := Fr.app N25 Nq26
  refine Wq.step st26 ?_
  show Wq _ _ _ _ _ (T26.setTop (mkF m 12 #[.val (.int xenc5_1), .val (.ref aenc5_2), .val (.int (0 : Int32)), .val (.int (5 : Int32)), .unset, .unset] [(.int (0 : Int32))]))
  refine Ow.pop X26 hx (pc' := 13) (hb hby d_prog_4_method_5_12) rfl ?_
  refine Ow.iloadN X26 hx (pc' := 14) (hb hby d_prog_4_method_5_13) rfl ?_
  refine Ow.iconst X26 hx (pc' := 15) (hb hby d_prog_4_method_5_14) (z := (1 : Int32)) rfl ?_
  refine Ow.icmpYes X26 hx (pc' := 27) (hb hby d_prog_4_method_5_15) (feq (by decide : ¬ ((5 : Int32) = (1 : Int32)))).2 (by decide) (by decide) ?_
  refine Ow.aloadN X26 hx (pc' := 28) (hb hby d_prog_4_method_5_27) rfl rfl ?_
  refine Ow.iloadN X26 hx (pc' := 29) (hb hby d_prog_4_method_5_28) rfl ?_
  refine Ow.sipush X26 hx (pc' := 32) (hb hby d_prog_4_method_5_29) (z := (128 : Int32)) rfl ?_
  refine Ow.iloadN X26 hx (pc' := 33) (hb hby d_prog_4_method_5_32) rfl ?_
  refine Ow.iconst X26 hx (pc' := 34) (hb hby d_prog_4_method_5_33) (z := (1 : Int32)) rfl ?_
  refine Ow.isub X26 hx (pc' := 35) (hb hby d_prog_4_method_5_34) (z := (4 : Int32)) rfl ?_
  refine Ow.ior X26 hx (pc' := 36) (hb hby d_prog_4_method_5_35) (z := (132 : Int32)) rfl ?_
  refine Ow.i2b X26 hx (pc' := 37) (hb hby d_prog_4_method_5_36) (z := (-124 : Int32)) rfl ?_
  obtain ⟨T27, h27, X27, e27, W27, Vr27, st27⟩ := asB X26 hx hZ e26 V_aenc5_2 (j := (0 : Int32)) (i := 0) (by decide) rfl (Nat.le_of_ble_eq_true rfl) (y := (-124 : Int32)) rfl (g := (mkF m 37 #[.val (.int xenc5_1), .val (.ref aenc5_2), .val (.int (0 : Int32)), .val (.int (5 : Int32)), .unset, .unset] [(.int (-124 : Int32)), (.int (0 : Int32)), (.ref aenc5_2)])) rfl rfl (hb hby d_prog_4_method_5_37)
  refine Wq.step st27 ?_
  have N27 := Fr.snoc X27 N26 g_aenc5_2
  have K27 : Keep h0 h27 [aenc5_2] := (Keep.refl h0 [aenc5_2]).wr W27 (Or.inl (List.mem_of_getElem? (i := 0) rfl))
  have Z27 : n0 ≤ h27.size := Nat.le_trans Z0 (Keep.of_wr W27).1
  have V_aenc5_2_t27 : Al Z h27 aenc5_2 .byte [(.int (-124 : Int32)), (.int (0 : Int32)), (.int (0 : Int32)), (.int (0 : Int32)), (.int (0 : Int32))] := Vr27
  show Wq _ _ _ _ _ (T27.setTop (mkF m 38 #[.val (.int xenc5_1), .val (.ref aenc5_2), .val (.int (0 : Int32)), .val (.int (5 : Int32)), .unset, .unset] []))
  refine Ow.iloadN X27 hx (pc' := 39) (hb hby d_prog_4_method_5_38) rfl ?_
  refine Ow.istore X27 hx (pc' := 41) (hb hby d_prog_4_method_5_39) (l' := #[.val (.int xenc5_1), .val (.ref aenc5_2), .val (.int (0 : Int32)), .val (.int (5 : Int32)), .val (.int xenc5_1), .unset]) rfl ?_
  refine Ow.iloadN X27 hx (pc' := 42) (hb hby d_prog_4_method_5_41) rfl ?_
  refine Ow.iloadN X27 hx (pc' := 43) (hb hby d_prog_4_method_5_42) rfl ?_
  refine Ow.iadd X27 hx (pc' := 44) (hb hby d_prog_4_method_5_43) (z := (5 : Int32)) rfl ?_
  refine Ow.iconst X27 hx (pc' := 45) (hb hby d_prog_4_method_5_44) (z := (1 : Int32)) rfl ?_
  refine Ow.isub X27 hx (pc' := 46) (hb hby d_prog_4_method_5_45) (z := (4 : Int32)) rfl ?_
  refine Ow.istore X27 hx (pc' := 48) (hb hby d_prog_4_method_5_46) (l' := #[.val (.int xenc5_1), .val (.ref aenc5_2), .val (.int (0 : Int32)), .val (.int (5 : Int32)), .val (.int xenc5_1), .val (.int (4 : Int32))]) rfl ?_
  refine Ow.iload X27 hx (pc' := 50) (hb hby d_prog_4_method_5_48) rfl ?_
  refine Ow.iloadN X27 hx (pc' := 51) (hb hby d_prog_4_method_5_50) rfl ?_
  refine Ow.icmpNo X27 hx (pc' := 54) (hb hby d_prog_4_method_5_51) (tlt (by decide : (0 : Int32) < (4 : Int32))).2.2.2 ?_
  refine Ow.aloadN X27 hx (pc' := 55) (hb hby d_prog_4_method_5_54) rfl rfl ?_
  refine Ow.iload X27 hx (pc' := 57) (hb hby d_prog_4_method_5_55) rfl ?_
  refine Ow.iload X27 hx (pc' := 59) (hb hby d_prog_4_method_5_57) rfl ?_
  refine Ow.i2b X27 hx (pc' := 60) (hb hby d_prog_4_method_5_59) (z := (xenc5_1.toInt8.toInt32)) rfl ?_
  obtain ⟨T28, h28, X28, e28, W28, Vr28, st28⟩ := asB X27 hx hZ e27 V_aenc5_2_t27 (j := (4 : Int32)) (i := 4) (by decide) rfl (Nat.le_of_ble_eq_true rfl) (y := ((xenc5_1.toInt8.toInt32).toInt8.toInt32)) rfl (g := (mkF m 60 #[.val (.int xenc5_1), .val (.ref aenc5_2), .val (.int (0 : Int32)), .val (.int (5 : Int32)), .val (.int xenc5_1), .val (.int (4 : Int32))] [(.int (xenc5_1.toInt8.toInt32)), (.int (4 : Int32)), (.ref aenc5_2)])) rfl rfl (hb hby d_prog_4_method_5_60)
  refine Wq.step st28 ?_
  have N28 := Fr.snoc X28 N27 g_aenc5_2
  have K28 : Keep h0 h28 [aenc5_2] := K27.wr W28 (Or.inl (List.mem_of_getElem? (i := 0) rfl))
  have Z28 : n0 ≤ h28.size := Nat.le_trans Z27 (Keep.of_wr W28).1
  have V_aenc5_2_t28 : Al Z h28 aenc5_2 .byte [(.int (-124 : Int32)), (.int (0 : Int32)), (.int (0 : Int32)), (.int (0 : Int32)), (.int ((xenc5_1.toInt8.toInt32).toInt8.toInt32))] := Vr28
  show Wq _ _ _ _ _ (T28.setTop (mkF m 61 #[.val (.int xenc5_1), .val (.ref aenc5_2), .val (.int (0 : Int32)), .val (.int (5 : Int32)), .val (.int xenc5_1), .val (.int (4 : Int32))] []))
  refine Ow.iload X28 hx (pc' := 63) (hb hby d_prog_4_method_5_61) rfl ?_
  refine Ow.bipush X28 hx (pc' := 65) (hb hby d_prog_4_method_5_63) (z := (8 : Int32)) rfl ?_
  refine Ow.iushr X28 hx (pc' := 66) (hb hby d_prog_4_method_5_65) (z := ((xenc5_1.toUInt32 >>> ((8 : Int32) &&& 31).toUInt32).toInt32)) rfl ?_
  refine Ow.istore X28 hx (pc' := 68) (hb hby d_prog_4_method_5_66) (l' := #[.val (.int xenc5_1), .val (.ref aenc5_2), .val (.int (0 : Int32)), .val (.int (5 : Int32)), .val (.int ((xenc5_1.toUInt32 >>> ((8 : Int32) &&& 31).toUInt32).toInt32)), .val (.int (4 : Int32))]) rfl ?_
  refine Ow.iinc X28 hx (pc' := 71) (hb hby d_prog_4_method_5_68) rfl (l' := #[.val (.int xenc5_1), .val (.ref aenc5_2), .val (.int (0 : Int32)), .val (.int (5 : Int32)), .val (.int ((xenc5_1.toUInt32 >>> ((8 : Int32) &&& 31).toUInt32).toInt32)), .val (.int (3 : Int32))]) rfl ?_
  show Wq _ _ _ _ _ (T28.setTop (mkF m 71 #[.val (.int xenc5_1), .val (.ref aenc5_2), .val (.int (0 : Int32)), .val (.int (5 : Int32)), .val (.int ((xenc5_1.toUInt32 >>> ((8 : Int32) &&& 31).toUInt32).toInt32)), .val (.int (3 : Int32))] []))
  refine Ow.goto X28 hx (pc' := 48) (hb hby d_prog_4_method_5_71) (by decide) (by decide) ?_
  refine Ow.iload X28 hx (pc' := 50) (hb hby d_prog_4_method_5_48) rfl ?_
  refine Ow.iloadN X28 hx (pc' := 51) (hb hby d_prog_4_method_5_50) rfl ?_
  refine Ow.icmpNo X28 hx (pc' := 54) (hb hby d_prog_4_method_5_51) (tlt (by decide : (0 : Int32) < (3 : Int32))).2.2.2 ?_
  refine Ow.aloadN X28 hx (pc' := 55) (hb hby d_prog_4_method_5_54) rfl rfl ?_
  refine Ow.iload X28 hx (pc' := 57) (hb hby d_prog_4_method_5_55) rfl ?_
  refine Ow.iload X28 hx (pc' := 59) (hb hby d_prog_4_method_5_57) rfl ?_
  refine Ow.i2b X28 hx (pc' := 60) (hb hby d_prog_4_method_5_59) (z := (((xenc5_1.toUInt32 >>> ((8 : Int32) &&& 31).toUInt32).toInt32).toInt8.toInt32)) rfl ?_
  obtain ⟨T29, h29, X29, e29, W29, Vr29, st29⟩ := asB X28 hx hZ e28 V_aenc5_2_t28 (j := (3 : Int32)) (i := 3) (by decide) rfl (Nat.le_of_ble_eq_true rfl) (y := ((((xenc5_1.toUInt32 >>> ((8 : Int32) &&& 31).toUInt32).toInt32).toInt8.toInt32).toInt8.toInt32)) rfl (g := (mkF m 60 #[.val (.int xenc5_1), .val (.ref aenc5_2), .val (.int (0 : Int32)), .val (.int (5 : Int32)), .val (.int ((xenc5_1.toUInt32 >>> ((8 : Int32) &&& 31).toUInt32).toInt32)), .val (.int (3 : Int32))] [(.int (((xenc5_1.toUInt32 >>> ((8 : Int32) &&& 31).toUInt32).toInt32).toInt8.toInt32)), (.int (3 : Int32)), (.ref aenc5_2)])) rfl rfl (hb hby d_prog_4_method_5_60)
  refine Wq.step st29 ?_
  have N29 := Fr.snoc X29 N28 g_aenc5_2
  have K29 : Keep h0 h29 [aenc5_2] := K28.wr W29 (Or.inl (List.mem_of_getElem? (i := 0) rfl))
  have Z29 : n0 ≤ h29.size := Nat.le_trans Z28 (Keep.of_wr W29).1
  have V_aenc5_2_t29 : Al Z h29 aenc5_2 .byte [(.int (-124 : Int32)), (.int (0 : Int32)), (.int (0 : Int32)), (.int ((((xenc5_1.toUInt32 >>> ((8 : Int32) &&& 31).toUInt32).toInt32).toInt8.toInt32).toInt8.toInt32)), (.int ((xenc5_1.toInt8.toInt32).toInt8.toInt32))] := Vr29
  show Wq _ _ _ _ _ (T29.setTop (mkF m 61 #[.val (.int xenc5_1), .val (.ref aenc5_2), .val (.int (0 : Int32)), .val (.int (5 : Int32)), .val (.int ((xenc5_1.toUInt32 >>> ((8 : Int32) &&& 31).toUInt32).toInt32)), .val (.int (3 : Int32))] []))
  refine Ow.iload X29 hx (pc' := 63) (hb hby d_prog_4_method_5_61) rfl ?_
  refine Ow.bipush X29 hx (pc' := 65) (hb hby d_prog_4_method_5_63) (z := (8 : Int32)) rfl ?_
  refine Ow.iushr X29 hx (pc' := 66) (hb hby d_prog_4_method_5_65) (z := ((((xenc5_1.toUInt32 >>> ((8 : Int32) &&& 31).toUInt32).toInt32).toUInt32 >>> ((8 : Int32) &&& 31).toUInt32).toInt32)) rfl ?_
  refine Ow.istore X29 hx (pc' := 68) (hb hby d_prog_4_method_5_66) (l' := #[.val (.int xenc5_1), .val (.ref aenc5_2), .val (.int (0 : Int32)), .val (.int (5 : Int32)), .val (.int ((((xenc5_1.toUInt32 >>> ((8 : Int32) &&& 31).toUInt32).toInt32).toUInt32 >>> ((8 : Int32) &&& 31).toUInt32).toInt32)), .val (.int (3 : Int32))]) rfl ?_
  refine Ow.iinc X29 hx (pc' := 71) (hb hby d_prog_4_method_5_68) rfl (l' := #[.val (.int xenc5_1), .val (.ref aenc5_2), .val (.int (0 : Int32)), .val (.int (5 : Int32)), .val (.int ((((xenc5_1.toUInt32 >>> ((8 : Int32) &&& 31).toUInt32).toInt32).toUInt32 >>> ((8 : Int32) &&& 31).toUInt32).toInt32)), .val (.int (2 : Int32))]) rfl ?_
  show Wq _ _ _ _ _ (T29.setTop (mkF m 71 #[.val (.int xenc5_1), .val (.ref aenc5_2), .val (.int (0 : Int32)), .val (.int (5 : Int32)), .val (.int ((((xenc5_1.toUInt32 >>> ((8 : Int32) &&& 31).toUInt32).toInt32).toUInt32 >>> ((8 : Int32) &&& 31).toUInt32).toInt32)), .val (.int (2 : Int32))] []))
  refine Ow.goto X29 hx (pc' := 48) (hb hby d_prog_4_method_5_71) (by decide) (by decide) ?_
  refine Ow.iload X29 hx (pc' := 50) (hb hby d_prog_4_method_5_48) rfl ?_
  refine Ow.iloadN X29 hx (pc' := 51) (hb hby d_prog_4_method_5_50) rfl ?_
  refine Ow.icmpNo X29 hx (pc' := 54) (hb hby d_prog_4_method_5_51) (tlt (by decide : (0 : Int32) < (2 : Int32))).2.2.2 ?_
  refine Ow.aloadN X29 hx (pc' := 55) (hb hby d_prog_4_method_5_54) rfl rfl ?_
  refine Ow.iload X29 hx (pc' := 57) (hb hby d_prog_4_method_5_55) rfl ?_
  refine Ow.iload X29 hx (pc' := 59) (hb hby d_prog_4_method_5_57) rfl ?_
  refine Ow.i2b X29 hx (pc' := 60) (hb hby d_prog_4_method_5_59) (z := (((((xenc5_1.toUInt32 >>> ((8 : Int32) &&& 31).toUInt32).toInt32).toUInt32 >>> ((8 : Int32) &&& 31).toUInt32).toInt32).toInt8.toInt32)) rfl ?_
  obtain ⟨T30, h30, X30, e30, W30, Vr30, st30⟩ := asB X29 hx hZ e29 V_aenc5_2_t29 (j := (2 : Int32)) (i := 2) (by decide) rfl (Nat.le_of_ble_eq_true rfl) (y := ((((((xenc5_1.toUInt32 >>> ((8 : Int32) &&& 31).toUInt32).toInt32).toUInt32 >>> ((8 : Int32) &&& 31).toUInt32).toInt32).toInt8.toInt32).toInt8.toInt32)) rfl (g := (mkF m 60 #[.val (.int xenc5_1), .val (.ref aenc5_2), .val (.int (0 : Int32)), .val (.int (5 : Int32)), .val (.int ((((xenc5_1.toUInt32 >>> ((8 : Int32) &&& 31).toUInt32).toInt32).toUInt32 >>> ((8 : Int32) &&& 31).toUInt32).toInt32)), .val (.int (2 : Int32))] [(.int (((((xenc5_1.toUInt32 >>> ((8 : Int32) &&& 31).toUInt32).toInt32).toUInt32 >>> ((8 : Int32) &&& 31).toUInt32).toInt32).toInt8.toInt32)), (.int (2 : Int32)), (.ref aenc5_2)])) rfl rfl (hb hby d_prog_4_method_5_60)
  refine Wq.step st30 ?_
  have N30 := Fr.snoc X30 N29 g_aenc5_2
  have K30 : Keep h0 h30 [aenc5_2] := K29.wr W30 (Or.inl (List.mem_of_getElem? (i := 0) rfl))
  have Z30 : n0 ≤ h30.size := Nat.le_trans Z29 (Keep.of_wr W30).1
  have V_aenc5_2_t30 : Al Z h30 aenc5_2 .byte [(.int (-124 : Int32)), (.int (0 : Int32)), (.int ((((((xenc5_1.toUInt32 >>> ((8 : Int32) &&& 31).toUInt32).toInt32).toUInt32 >>> ((8 : Int32) &&& 31).toUInt32).toInt32).toInt8.toInt32).toInt8.toInt32)), (.int ((((xenc5_1.toUInt32 >>> ((8 : Int32) &&& 31).toUInt32).toInt32).toInt8.toInt32).toInt8.toInt32)), (.int ((xenc5_1.toInt8.toInt32).toInt8.toInt32))] := Vr30
  show Wq _ _ _ _ _ (T30.setTop (mkF m 61 #[.val (.int xenc5_1), .val (.ref aenc5_2), .val (.int (0 : Int32)), .val (.int (5 : Int32)), .val (.int ((((xenc5_1.toUInt32 >>> ((8 : Int32) &&& 31).toUInt32).toInt32).toUInt32 >>> ((8 : Int32) &&& 31).toUInt32).toInt32)), .val (.int (2 : Int32))] []))
  refine Ow.iload X30 hx (pc' := 63) (hb hby d_prog_4_method_5_61) rfl ?_
  refine Ow.bipush X30 hx (pc' := 65) (hb hby d_prog_4_method_5_63) (z := (8 : Int32)) rfl ?_
  refine Ow.iushr X30 hx (pc' := 66) (hb hby d_prog_4_method_5_65) (z := ((((((xenc5_1.toUInt32 >>> ((8 : Int32) &&& 31).toUInt32).toInt32).toUInt32 >>> ((8 : Int32) &&& 31).toUInt32).toInt32).toUInt32 >>> ((8 : Int32) &&& 31).toUInt32).toInt32)) rfl ?_
  refine Ow.istore X30 hx (pc' := 68) (hb hby d_prog_4_method_5_66) (l' := #[.val (.int xenc5_1), .val (.ref aenc5_2), .val (.int (0 : Int32)), .val (.int (5 : Int32)), .val (.int ((((((xenc5_1.toUInt32 >>> ((8 : Int32) &&& 31).toUInt32).toInt32).toUInt32 >>> ((8 : Int32) &&& 31).toUInt32).toInt32).toUInt32 >>> ((8 : Int32) &&& 31).toUInt32).toInt32)), .val (.int (2 : Int32))]) rfl ?_
  refine Ow.iinc X30 hx (pc' := 71) (hb hby d_prog_4_method_5_68) rfl (l' := #[.val (.int xenc5_1), .val (.ref aenc5_2), .val (.int (0 : Int32)), .val (.int (5 : Int32)), .val (.int ((((((xenc5_1.toUInt32 >>> ((8 : Int32) &&& 31).toUInt32).toInt32).toUInt32 >>> ((8 : Int32) &&& 31).toUInt32).toInt32).toUInt32 >>> ((8 : Int32) &&& 31).toUInt32).toInt32)), .val (.int (1 : Int32))]) rfl ?_
  show Wq _ _ _ _ _ (T30.setTop (mkF m 71 #[.val (.int xenc5_1), .val (.ref aenc5_2), .val (.int (0 : Int32)), .val (.int (5 : Int32)), .val (.int ((((((xenc5_1.toUInt32 >>> ((8 : Int32) &&& 31).toUInt32).toInt32).toUInt32 >>> ((8 : Int32) &&& 31).toUInt32).toInt32).toUInt32 >>> ((8 : Int32) &&& 31).toUInt32).toInt32)), .val (.int (1 : Int32))] []))
  refine Ow.goto X30 hx (pc' := 48) (hb hby d_prog_4_method_5_71) (by decide) (by decide) ?_
  refine Ow.iload X30 hx (pc' := 50) (hb hby d_prog_4_method_5_48) rfl ?_
  refine Ow.iloadN X30 hx (pc' := 51) (hb hby d_prog_4_method_5_50) rfl ?_
  refine Ow.icmpNo X30 hx (pc' := 54) (hb hby d_prog_4_method_5_51) (tlt (by decide : (0 : Int32) < (1 : Int32))).2.2.2 ?_
  refine Ow.aloadN X30 hx (pc' := 55) (hb hby d_prog_4_method_5_54) rfl rfl ?_
  refine Ow.iload X30 hx (pc' := 57) (hb hby d_prog_4_method_5_55) rfl ?_
  refine Ow.iload X30 hx (pc' := 59) (hb hby d_prog_4_method_5_57) rfl ?_
  refine Ow.i2b X30 hx (pc' := 60) (hb hby d_prog_4_method_5_59) (z := (((((((xenc5_1.toUInt32 >>> ((8 : Int32) &&& 31).toUInt32).toInt32).toUInt32 >>> ((8 : Int32) &&& 31).toUInt32).toInt32).toUInt32 >>> ((8 : Int32) &&& 31).toUInt32).toInt32).toInt8.toInt32)) rfl ?_
  obtain ⟨T31, h31, X31, e31, W31, Vr31, st31⟩ := asB X30 hx hZ e30 V_aenc5_2_t30 (j := (1 : Int32)) (i := 1) (by decide) rfl (Nat.le_of_ble_eq_true rfl) (y := ((((((((xenc5_1.toUInt32 >>> ((8 : Int32) &&& 31).toUInt32).toInt32).toUInt32 >>> ((8 : Int32) &&& 31).toUInt32).toInt32).toUInt32 >>> ((8 : Int32) &&& 31).toUInt32).toInt32).toInt8.toInt32).toInt8.toInt32)) rfl (g := (mkF m 60 #[.val (.int xenc5_1), .val (.ref aenc5_2), .val (.int (0 : Int32)), .val (.int (5 : Int32)), .val (.int ((((((xenc5_1.toUInt32 >>> ((8 : Int32) &&& 31).toUInt32).toInt32).toUInt32 >>> ((8 : Int32) &&& 31).toUInt32).toInt32).toUInt32 >>> ((8 : Int32) &&& 31).toUInt32).toInt32)), .val (.int (1 : Int32))] [(.int (((((((xenc5_1.toUInt32 >>> ((8 : Int32) &&& 31).toUInt32).toInt32).toUInt32 >>> ((8 : Int32) &&& 31).toUInt32).toInt32).toUInt32 >>> ((8 : Int32) &&& 31).toUInt32).toInt32).toInt8.toInt32)), (.int (1 : Int32)), (.ref aenc5_2)])) rfl rfl (hb hby d_prog_4_method_5_60)
  refine Wq.step st31 ?_
  have N31 := Fr.snoc X31 N30 g_aenc5_2
  have K31 : Keep h0 h31 [aenc5_2] := K30.wr W31 (Or.inl (List.mem_of_getElem? (i := 0) rfl))
  have Z31 : n0 ≤ h31.size := Nat.le_trans Z30 (Keep.of_wr W31).1
  have V_aenc5_2_t31 : Al Z h31 aenc5_2 .byte [(.int (-124 : Int32)), (.int ((((((((xenc5_1.toUInt32 >>> ((8 : Int32) &&& 31).toUInt32).toInt32).toUInt32 >>> ((8 : Int32) &&& 31).toUInt32).toInt32).toUInt32 >>> ((8 : Int32) &&& 31).toUInt32).toInt32).toInt8.toInt32).toInt8.toInt32)), (.int ((((((xenc5_1.toUInt32 >>> ((8 : Int32) &&& 31).toUInt32).toInt32).toUInt32 >>> ((8 : Int32) &&& 31).toUInt32).toInt32).toInt8.toInt32).toInt8.toInt32)), (.int ((((xenc5_1.toUInt32 >>> ((8 : Int32) &&& 31).toUInt32).toInt32).toInt8.toInt32).toInt8.toInt32)), (.int ((xenc5_1.toInt8.toInt32).toInt8.toInt32))] := Vr31
  show Wq _ _ _ _ _ (T31.setTop (mkF m 61 #[.val (.int xenc5_1), .val (.ref aenc5_2), .val (.int (0 : Int32)), .val (.int (5 : Int32)), .val (.int ((((((xenc5_1.toUInt32 >>> ((8 : Int32) &&& 31).toUInt32).toInt32).toUInt32 >>> ((8 : Int32) &&& 31).toUInt32).toInt32).toUInt32 >>> ((8 : Int32) &&& 31).toUInt32).toInt32)), .val (.int (1 : Int32))] []))
  refine Ow.iload X31 hx (pc' := 63) (hb hby d_prog_4_method_5_61) rfl ?_
  refine Ow.bipush X31 hx (pc' := 65) (hb hby d_prog_4_method_5_63) (z := (8 : Int32)) rfl ?_
  refine Ow.iushr X31 hx (pc' := 66) (hb hby d_prog_4_method_5_65) (z := ((((((((xenc5_1.toUInt32 >>> ((8 : Int32) &&& 31).toUInt32).toInt32).toUInt32 >>> ((8 : Int32) &&& 31).toUInt32).toInt32).toUInt32 >>> ((8 : Int32) &&& 31).toUInt32).toInt32).toUInt32 >>> ((8 : Int32) &&& 31).toUInt32).toInt32)) rfl ?_
  refine Ow.istore X31 hx (pc' := 68) (hb hby d_prog_4_method_5_66) (l' := #[.val (.int xenc5_1), .val (.ref aenc5_2), .val (.int (0 : Int32)), .val (.int (5 : Int32)), .val (.int ((((((((xenc5_1.toUInt32 >>> ((8 : Int32) &&& 31).toUInt32).toInt32).toUInt32 >>> ((8 : Int32) &&& 31).toUInt32).toInt32).toUInt32 >>> ((8 : Int32) &&& 31).toUInt32).toInt32).toUInt32 >>> ((8 : Int32) &&& 31).toUInt32).toInt32)), .val (.int (1 : Int32))]) rfl ?_
  refine Ow.iinc X31 hx (pc' := 71) (hb hby d_prog_4_method_5_68) rfl (l' := #[.val (.int xenc5_1), .val (.ref aenc5_2), .val (.int (0 : Int32)), .val (.int (5 : Int32)), .val (.int ((((((((xenc5_1.toUInt32 >>> ((8 : Int32) &&& 31).toUInt32).toInt32).toUInt32 >>> ((8 : Int32) &&& 31).toUInt32).toInt32).toUInt32 >>> ((8 : Int32) &&& 31).toUInt32).toInt32).toUInt32 >>> ((8 : Int32) &&& 31).toUInt32).toInt32)), .val (.int (0 : Int32))]) rfl ?_
  show Wq _ _ _ _ _ (T31.setTop (mkF m 71 #[.val (.int xenc5_1), .val (.ref aenc5_2), .val (.int (0 : Int32)), .val (.int (5 : Int32)), .val (.int ((((((((xenc5_1.toUInt32 >>> ((8 : Int32) &&& 31).toUInt32).toInt32).toUInt32 >>> ((8 : Int32) &&& 31).toUInt32).toInt32).toUInt32 >>> ((8 : Int32) &&& 31).toUInt32).toInt32).toUInt32 >>> ((8 : Int32) &&& 31).toUInt32).toInt32)), .val (.int (0 : Int32))] []))
  refine Ow.goto X31 hx (pc' := 48) (hb hby d_prog_4_method_5_71) (by decide) (by decide) ?_
  refine Ow.iload X31 hx (pc' := 50) (hb hby d_prog_4_method_5_48) rfl ?_
  refine Ow.iloadN X31 hx (pc' := 51) (hb hby d_prog_4_method_5_50) rfl ?_
  refine Ow.icmpYes X31 hx (pc' := 74) (hb hby d_prog_4_method_5_51) (flt (by decide : ¬ ((0 : Int32) < (0 : Int32)))).2.2.2 (by decide) (by decide) ?_
  refine Ow.iloadN X31 hx (pc' := 75) (hb hby d_prog_4_method_5_74) rfl ?_
  refine Ow.iloadN X31 hx (pc' := 76) (hb hby d_prog_4_method_5_75) rfl ?_
  refine Ow.iadd X31 hx (pc' := 77) (hb hby d_prog_4_method_5_76) (z := (5 : Int32)) rfl ?_
  exact Wq.ret X31 (BodyLoose.notSynchronized Bd) (rv := some (.int (5 : Int32))) (fun h => by rw [Bd.returns] at h; cases h) (fun _ hr => retOut X31 hx Bd.returns rfl (Or.inl ⟨rfl, Or.inl rfl, _, rfl⟩) (hb hby d_prog_4_method_5_77) hr) (by decide) (by decide) (by rw [e31]; exact ⟨rfl, N31, K31, V_aenc5_2_t31⟩)
theorem own_nlz (x : Int32) (h : ¬ (x < (128 : Int32))) : 1 ≤ (f_nlz x).toInt ∧ (f_nlz x).toInt ≤ 24 := by
  rw [Int32.lt_iff_toInt_lt] at h
  have e1 : (128 : Int32).toInt = 128 := by decide
  rw [e1] at h
  have hx := rng32 x
  have s16 : ∀ y : Int32, 0 ≤ y.toInt → ((y.toUInt32 >>> ((16 : Int32) &&& 31).toUInt32).toInt32).toInt = y.toInt / 65536 := fun y hy => by
    have q := c_iushr y 16 16 (by decide) (by decide)
    have r := rng32 y
    rw [show ((2 ^ 16 : Nat) : Int) = 65536 from by decide] at q
    omega
  have l65536 : (65536 : Int32).toInt = 65536 := by decide
  have s8 : ∀ y : Int32, 0 ≤ y.toInt → ((y.toUInt32 >>> ((8 : Int32) &&& 31).toUInt32).toInt32).toInt = y.toInt / 256 := fun y hy => by
    have q := c_iushr y 8 8 (by decide) (by decide)
    have r := rng32 y
    rw [show ((2 ^ 8 : Nat) : Int) = 256 from by decide] at q
    omega
  have l256 : (256 : Int32).toInt = 256 := by decide
  have s4 : ∀ y : Int32, 0 ≤ y.toInt → ((y.toUInt32 >>> ((4 : Int32) &&& 31).toUInt32).toInt32).toInt = y.toInt / 16 := fun y hy => by
    have q := c_iushr y 4 4 (by decide) (by decide)
    have r := rng32 y
    rw [show ((2 ^ 4 : Nat) : Int) = 16 from by decide] at q
    omega
  have l16 : (16 : Int32).toInt = 16 := by decide
  have s2 : ∀ y : Int32, 0 ≤ y.toInt → ((y.toUInt32 >>> ((2 : Int32) &&& 31).toUInt32).toInt32).toInt = y.toInt / 4 := fun y hy => by
    have q := c_iushr y 2 2 (by decide) (by decide)
    have r := rng32 y
    rw [show ((2 ^ 2 : Nat) : Int) = 4 from by decide] at q
    omega
  have l4 : (4 : Int32).toInt = 4 := by decide
  have s1 : ∀ y : Int32, 0 ≤ y.toInt → ((y.toUInt32 >>> ((1 : Int32) &&& 31).toUInt32).toInt32).toInt = y.toInt / 2 := fun y hy => by
    have q := c_iushr y 1 1 (by decide) (by decide)
    have r := rng32 y
    rw [show ((2 ^ 1 : Nat) : Int) = 2 from by decide] at q
    omega
  have l2 : (2 : Int32).toInt = 2 := by decide
  unfold f_nlz
  by_cases h0 : x < (65536 : Int32)
  · rw [if_pos h0]
    rw [Int32.lt_iff_toInt_lt, l65536] at h0
    by_cases h1 : x < (256 : Int32)
    · rw [if_pos h1]
      rw [Int32.lt_iff_toInt_lt, l256] at h1
      by_cases h2 : x < (16 : Int32)
      · rw [if_pos h2]
        rw [Int32.lt_iff_toInt_lt, l16] at h2
        by_cases h3 : x < (4 : Int32)
        · rw [if_pos h3]
          rw [Int32.lt_iff_toInt_lt, l4] at h3
          have q := s1 x (by omega)
          have c := c_isub (31 : Int32) ((x.toUInt32 >>> ((1 : Int32) &&& 31).toUInt32).toInt32)
          have r := rng32 ((31 : Int32) - ((x.toUInt32 >>> ((1 : Int32) &&& 31).toUInt32).toInt32))
          have e : (31 : Int32).toInt = 31 := by decide
          clear s1 s2 s4 s8 s16
          omega
        · rw [if_neg h3]
          rw [Int32.lt_iff_toInt_lt, l4] at h3
          have t3 := s2 x (by omega)
          have q := s1 ((x.toUInt32 >>> ((2 : Int32) &&& 31).toUInt32).toInt32) (by omega)
          have c := c_isub (29 : Int32) ((((x.toUInt32 >>> ((2 : Int32) &&& 31).toUInt32).toInt32).toUInt32 >>> ((1 : Int32) &&& 31).toUInt32).toInt32)
          have r := rng32 ((29 : Int32) - ((((x.toUInt32 >>> ((2 : Int32) &&& 31).toUInt32).toInt32).toUInt32 >>> ((1 : Int32) &&& 31).toUInt32).toInt32))
          have e : (29 : Int32).toInt = 29 := by decide
          clear s1 s2 s4 s8 s16
          omega
      · rw [if_neg h2]
        rw [Int32.lt_iff_toInt_lt, l16] at h2
        have t2 := s4 x (by omega)
        by_cases h3 : ((x.toUInt32 >>> ((4 : Int32) &&& 31).toUInt32).toInt32) < (4 : Int32)
        · rw [if_pos h3]
          rw [Int32.lt_iff_toInt_lt, l4] at h3
          have q := s1 ((x.toUInt32 >>> ((4 : Int32) &&& 31).toUInt32).toInt32) (by omega)
          have c := c_isub (27 : Int32) ((((x.toUInt32 >>> ((4 : Int32) &&& 31).toUInt32).toInt32).toUInt32 >>> ((1 : Int32) &&& 31).toUInt32).toInt32)
          have r := rng32 ((27 : Int32) - ((((x.toUInt32 >>> ((4 : Int32) &&& 31).toUInt32).toInt32).toUInt32 >>> ((1 : Int32) &&& 31).toUInt32).toInt32))
          have e : (27 : Int32).toInt = 27 := by decide
          clear s1 s2 s4 s8 s16
          omega
        · rw [if_neg h3]
          rw [Int32.lt_iff_toInt_lt, l4] at h3
          have t3 := s2 ((x.toUInt32 >>> ((4 : Int32) &&& 31).toUInt32).toInt32) (by omega)
          have q := s1 ((((x.toUInt32 >>> ((4 : Int32) &&& 31).toUInt32).toInt32).toUInt32 >>> ((2 : Int32) &&& 31).toUInt32).toInt32) (by omega)
          have c := c_isub (25 : Int32) ((((((x.toUInt32 >>> ((4 : Int32) &&& 31).toUInt32).toInt32).toUInt32 >>> ((2 : Int32) &&& 31).toUInt32).toInt32).toUInt32 >>> ((1 : Int32) &&& 31).toUInt32).toInt32)
          have r := rng32 ((25 : Int32) - ((((((x.toUInt32 >>> ((4 : Int32) &&& 31).toUInt32).toInt32).toUInt32 >>> ((2 : Int32) &&& 31).toUInt32).toInt32).toUInt32 >>> ((1 : Int32) &&& 31).toUInt32).toInt32))
          have e : (25 : Int32).toInt = 25 := by decide
          clear s1 s2 s4 s8 s16
          omega
    · rw [if_neg h1]
      rw [Int32.lt_iff_toInt_lt, l256] at h1
      have t1 := s8 x (by omega)
      by_cases h2 : ((x.toUInt32 >>> ((8 : Int32) &&& 31).toUInt32).toInt32) < (16 : Int32)
      · rw [if_pos h2]
        rw [Int32.lt_iff_toInt_lt, l16] at h2
        by_cases h3 : ((x.toUInt32 >>> ((8 : Int32) &&& 31).toUInt32).toInt32) < (4 : Int32)
        · rw [if_pos h3]
          rw [Int32.lt_iff_toInt_lt, l4] at h3
          have q := s1 ((x.toUInt32 >>> ((8 : Int32) &&& 31).toUInt32).toInt32) (by omega)
          have c := c_isub (23 : Int32) ((((x.toUInt32 >>> ((8 : Int32) &&& 31).toUInt32).toInt32).toUInt32 >>> ((1 : Int32) &&& 31).toUInt32).toInt32)
          have r := rng32 ((23 : Int32) - ((((x.toUInt32 >>> ((8 : Int32) &&& 31).toUInt32).toInt32).toUInt32 >>> ((1 : Int32) &&& 31).toUInt32).toInt32))
          have e : (23 : Int32).toInt = 23 := by decide
          clear s1 s2 s4 s8 s16
          omega
        · rw [if_neg h3]
          rw [Int32.lt_iff_toInt_lt, l4] at h3
          have t3 := s2 ((x.toUInt32 >>> ((8 : Int32) &&& 31).toUInt32).toInt32) (by omega)
          have q := s1 ((((x.toUInt32 >>> ((8 : Int32) &&& 31).toUInt32).toInt32).toUInt32 >>> ((2 : Int32) &&& 31).toUInt32).toInt32) (by omega)
          have c := c_isub (21 : Int32) ((((((x.toUInt32 >>> ((8 : Int32) &&& 31).toUInt32).toInt32).toUInt32 >>> ((2 : Int32) &&& 31).toUInt32).toInt32).toUInt32 >>> ((1 : Int32) &&& 31).toUInt32).toInt32)
          have r := rng32 ((21 : Int32) - ((((((x.toUInt32 >>> ((8 : Int32) &&& 31).toUInt32).toInt32).toUInt32 >>> ((2 : Int32) &&& 31).toUInt32).toInt32).toUInt32 >>> ((1 : Int32) &&& 31).toUInt32).toInt32))
          have e : (21 : Int32).toInt = 21 := by decide
          clear s1 s2 s4 s8 s16
          omega
      · rw [if_neg h2]
        rw [Int32.lt_iff_toInt_lt, l16] at h2
        have t2 := s4 ((x.toUInt32 >>> ((8 : Int32) &&& 31).toUInt32).toInt32) (by omega)
        by_cases h3 : ((((x.toUInt32 >>> ((8 : Int32) &&& 31).toUInt32).toInt32).toUInt32 >>> ((4 : Int32) &&& 31).toUInt32).toInt32) < (4 : Int32)
        · rw [if_pos h3]
          rw [Int32.lt_iff_toInt_lt, l4] at h3
          have q := s1 ((((x.toUInt32 >>> ((8 : Int32) &&& 31).toUInt32).toInt32).toUInt32 >>> ((4 : Int32) &&& 31).toUInt32).toInt32) (by omega)
          have c := c_isub (19 : Int32) ((((((x.toUInt32 >>> ((8 : Int32) &&& 31).toUInt32).toInt32).toUInt32 >>> ((4 : Int32) &&& 31).toUInt32).toInt32).toUInt32 >>> ((1 : Int32) &&& 31).toUInt32).toInt32)
          have r := rng32 ((19 : Int32) - ((((((x.toUInt32 >>> ((8 : Int32) &&& 31).toUInt32).toInt32).toUInt32 >>> ((4 : Int32) &&& 31).toUInt32).toInt32).toUInt32 >>> ((1 : Int32) &&& 31).toUInt32).toInt32))
          have e : (19 : Int32).toInt = 19 := by decide
          clear s1 s2 s4 s8 s16
          omega
        · rw [if_neg h3]
          rw [Int32.lt_iff_toInt_lt, l4] at h3
          have t3 := s2 ((((x.toUInt32 >>> ((8 : Int32) &&& 31).toUInt32).toInt32).toUInt32 >>> ((4 : Int32) &&& 31).toUInt32).toInt32) (by omega)
          have q := s1 ((((((x.toUInt32 >>> ((8 : Int32) &&& 31).toUInt32).toInt32).toUInt32 >>> ((4 : Int32) &&& 31).toUInt32).toInt32).toUInt32 >>> ((2 : Int32) &&& 31).toUInt32).toInt32) (by omega)
          have c := c_isub (17 : Int32) ((((((((x.toUInt32 >>> ((8 : Int32) &&& 31).toUInt32).toInt32).toUInt32 >>> ((4 : Int32) &&& 31).toUInt32).toInt32).toUInt32 >>> ((2 : Int32) &&& 31).toUInt32).toInt32).toUInt32 >>> ((1 : Int32) &&& 31).toUInt32).toInt32)
          have r := rng32 ((17 : Int32) - ((((((((x.toUInt32 >>> ((8 : Int32) &&& 31).toUInt32).toInt32).toUInt32 >>> ((4 : Int32) &&& 31).toUInt32).toInt32).toUInt32 >>> ((2 : Int32) &&& 31).toUInt32).toInt32).toUInt32 >>> ((1 : Int32) &&& 31).toUInt32).toInt32))
          have e : (17 : Int32).toInt = 17 := by decide
          clear s1 s2 s4 s8 s16
          omega
  · rw [if_neg h0]
    rw [Int32.lt_iff_toInt_lt, l65536] at h0
    have t0 := s16 x (by omega)
    by_cases h1 : ((x.toUInt32 >>> ((16 : Int32) &&& 31).toUInt32).toInt32) < (256 : Int32)
    · rw [if_pos h1]
      rw [Int32.lt_iff_toInt_lt, l256] at h1
      by_cases h2 : ((x.toUInt32 >>> ((16 : Int32) &&& 31).toUInt32).toInt32) < (16 : Int32)
      · rw [if_pos h2]
        rw [Int32.lt_iff_toInt_lt, l16] at h2
        by_cases h3 : ((x.toUInt32 >>> ((16 : Int32) &&& 31).toUInt32).toInt32) < (4 : Int32)
        · rw [if_pos h3]
          rw [Int32.lt_iff_toInt_lt, l4] at h3
          have q := s1 ((x.toUInt32 >>> ((16 : Int32) &&& 31).toUInt32).toInt32) (by omega)
          have c := c_isub (15 : Int32) ((((x.toUInt32 >>> ((16 : Int32) &&& 31).toUInt32).toInt32).toUInt32 >>> ((1 : Int32) &&& 31).toUInt32).toInt32)
          have r := rng32 ((15 : Int32) - ((((x.toUInt32 >>> ((16 : Int32) &&& 31).toUInt32).toInt32).toUInt32 >>> ((1 : Int32) &&& 31).toUInt32).toInt32))
          have e : (15 : Int32).toInt = 15 := by decide
          clear s1 s2 s4 s8 s16
          omega
        · rw [if_neg h3]
          rw [Int32.lt_iff_toInt_lt, l4] at h3
          have t3 := s2 ((x.toUInt32 >>> ((16 : Int32) &&& 31).toUInt32).toInt32) (by omega)
          have q := s1 ((((x.toUInt32 >>> ((16 : Int32) &&& 31).toUInt32).toInt32).toUInt32 >>> ((2 : Int32) &&& 31).toUInt32).toInt32) (by omega)
          have c := c_isub (13 : Int32) ((((((x.toUInt32 >>> ((16 : Int32) &&& 31).toUInt32).toInt32).toUInt32 >>> ((2 : Int32) &&& 31).toUInt32).toInt32).toUInt32 >>> ((1 : Int32) &&& 31).toUInt32).toInt32)
          have r := rng32 ((13 : Int32) - ((((((x.toUInt32 >>> ((16 : Int32) &&& 31).toUInt32).toInt32).toUInt32 >>> ((2 : Int32) &&& 31).toUInt32).toInt32).toUInt32 >>> ((1 : Int32) &&& 31).toUInt32).toInt32))
          have e : (13 : Int32).toInt = 13 := by decide
          clear s1 s2 s4 s8 s16
          omega
      · rw [if_neg h2]
        rw [Int32.lt_iff_toInt_lt, l16] at h2
        have t2 := s4 ((x.toUInt32 >>> ((16 : Int32) &&& 31).toUInt32).toInt32) (by omega)
        by_cases h3 : ((((x.toUInt32 >>> ((16 : Int32) &&& 31).toUInt32).toInt32).toUInt32 >>> ((4 : Int32) &&& 31).toUInt32).toInt32) < (4 : Int32)
        · rw [if_pos h3]
          rw [Int32.lt_iff_toInt_lt, l4] at h3
          have q := s1 ((((x.toUInt32 >>> ((16 : Int32) &&& 31).toUInt32).toInt32).toUInt32 >>> ((4 : Int32) &&& 31).toUInt32).toInt32) (by omega)
          have c := c_isub (11 : Int32) ((((((x.toUInt32 >>> ((16 : Int32) &&& 31).toUInt32).toInt32).toUInt32 >>> ((4 : Int32) &&& 31).toUInt32).toInt32).toUInt32 >>> ((1 : Int32) &&& 31).toUInt32).toInt32)
          have r := rng32 ((11 : Int32) - ((((((x.toUInt32 >>> ((16 : Int32) &&& 31).toUInt32).toInt32).toUInt32 >>> ((4 : Int32) &&& 31).toUInt32).toInt32).toUInt32 >>> ((1 : Int32) &&& 31).toUInt32).toInt32))
          have e : (11 : Int32).toInt = 11 := by decide
          clear s1 s2 s4 s8 s16
          omega
        · rw [if_neg h3]
          rw [Int32.lt_iff_toInt_lt, l4] at h3
          have t3 := s2 ((((x.toUInt32 >>> ((16 : Int32) &&& 31).toUInt32).toInt32).toUInt32 >>> ((4 : Int32) &&& 31).toUInt32).toInt32) (by omega)
          have q := s1 ((((((x.toUInt32 >>> ((16 : Int32) &&& 31).toUInt32).toInt32).toUInt32 >>> ((4 : Int32) &&& 31).toUInt32).toInt32).toUInt32 >>> ((2 : Int32) &&& 31).toUInt32).toInt32) (by omega)
          have c := c_isub (9 : Int32) ((((((((x.toUInt32 >>> ((16 : Int32) &&& 31).toUInt32).toInt32).toUInt32 >>> ((4 : Int32) &&& 31).toUInt32).toInt32).toUInt32 >>> ((2 : Int32) &&& 31).toUInt32).toInt32).toUInt32 >>> ((1 : Int32) &&& 31).toUInt32).toInt32)
          have r := rng32 ((9 : Int32) - ((((((((x.toUInt32 >>> ((16 : Int32) &&& 31).toUInt32).toInt32).toUInt32 >>> ((4 : Int32) &&& 31).toUInt32).toInt32).toUInt32 >>> ((2 : Int32) &&& 31).toUInt32).toInt32).toUInt32 >>> ((1 : Int32) &&& 31).toUInt32).toInt32))
          have e : (9 : Int32).toInt = 9 := by decide
          clear s1 s2 s4 s8 s16
          omega
    · rw [if_neg h1]
      rw [Int32.lt_iff_toInt_lt, l256] at h1
      have t1 := s8 ((x.toUInt32 >>> ((16 : Int32) &&& 31).toUInt32).toInt32) (by omega)
      by_cases h2 : ((((x.toUInt32 >>> ((16 : Int32) &&& 31).toUInt32).toInt32).toUInt32 >>> ((8 : Int32) &&& 31).toUInt32).toInt32) < (16 : Int32)
      · rw [if_pos h2]
        rw [Int32.lt_iff_toInt_lt, l16] at h2
        by_cases h3 : ((((x.toUInt32 >>> ((16 : Int32) &&& 31).toUInt32).toInt32).toUInt32 >>> ((8 : Int32) &&& 31).toUInt32).toInt32) < (4 : Int32)
        · rw [if_pos h3]
          rw [Int32.lt_iff_toInt_lt, l4] at h3
          have q := s1 ((((x.toUInt32 >>> ((16 : Int32) &&& 31).toUInt32).toInt32).toUInt32 >>> ((8 : Int32) &&& 31).toUInt32).toInt32) (by omega)
          have c := c_isub (7 : Int32) ((((((x.toUInt32 >>> ((16 : Int32) &&& 31).toUInt32).toInt32).toUInt32 >>> ((8 : Int32) &&& 31).toUInt32).toInt32).toUInt32 >>> ((1 : Int32) &&& 31).toUInt32).toInt32)
          have r := rng32 ((7 : Int32) - ((((((x.toUInt32 >>> ((16 : Int32) &&& 31).toUInt32).toInt32).toUInt32 >>> ((8 : Int32) &&& 31).toUInt32).toInt32).toUInt32 >>> ((1 : Int32) &&& 31).toUInt32).toInt32))
          have e : (7 : Int32).toInt = 7 := by decide
          clear s1 s2 s4 s8 s16
          omega
        · rw [if_neg h3]
          rw [Int32.lt_iff_toInt_lt, l4] at h3
          have t3 := s2 ((((x.toUInt32 >>> ((16 : Int32) &&& 31).toUInt32).toInt32).toUInt32 >>> ((8 : Int32) &&& 31).toUInt32).toInt32) (by omega)
          have q := s1 ((((((x.toUInt32 >>> ((16 : Int32) &&& 31).toUInt32).toInt32).toUInt32 >>> ((8 : Int32) &&& 31).toUInt32).toInt32).toUInt32 >>> ((2 : Int32) &&& 31).toUInt32).toInt32) (by omega)
          have c := c_isub (5 : Int32) ((((((((x.toUInt32 >>> ((16 : Int32) &&& 31).toUInt32).toInt32).toUInt32 >>> ((8 : Int32) &&& 31).toUInt32).toInt32).toUInt32 >>> ((2 : Int32) &&& 31).toUInt32).toInt32).toUInt32 >>> ((1 : Int32) &&& 31).toUInt32).toInt32)
          have r := rng32 ((5 : Int32) - ((((((((x.toUInt32 >>> ((16 : Int32) &&& 31).toUInt32).toInt32).toUInt32 >>> ((8 : Int32) &&& 31).toUInt32).toInt32).toUInt32 >>> ((2 : Int32) &&& 31).toUInt32).toInt32).toUInt32 >>> ((1 : Int32) &&& 31).toUInt32).toInt32))
          have e : (5 : Int32).toInt = 5 := by decide
          clear s1 s2 s4 s8 s16
          omega
      · rw [if_neg h2]
        rw [Int32.lt_iff_toInt_lt, l16] at h2
        have t2 := s4 ((((x.toUInt32 >>> ((16 : Int32) &&& 31).toUInt32).toInt32).toUInt32 >>> ((8 : Int32) &&& 31).toUInt32).toInt32) (by omega)
        by_cases h3 : ((((((x.toUInt32 >>> ((16 : Int32) &&& 31).toUInt32).toInt32).toUInt32 >>> ((8 : Int32) &&& 31).toUInt32).toInt32).toUInt32 >>> ((4 : Int32) &&& 31).toUInt32).toInt32) < (4 : Int32)
        · rw [if_pos h3]
          rw [Int32.lt_iff_toInt_lt, l4] at h3
          have q := s1 ((((((x.toUInt32 >>> ((16 : Int32) &&& 31).toUInt32).toInt32).toUInt32 >>> ((8 : Int32) &&& 31).toUInt32).toInt32).toUInt32 >>> ((4 : Int32) &&& 31).toUInt32).toInt32) (by omega)
          have c := c_isub (3 : Int32) ((((((((x.toUInt32 >>> ((16 : Int32) &&& 31).toUInt32).toInt32).toUInt32 >>> ((8 : Int32) &&& 31).toUInt32).toInt32).toUInt32 >>> ((4 : Int32) &&& 31).toUInt32).toInt32).toUInt32 >>> ((1 : Int32) &&& 31).toUInt32).toInt32)
          have r := rng32 ((3 : Int32) - ((((((((x.toUInt32 >>> ((16 : Int32) &&& 31).toUInt32).toInt32).toUInt32 >>> ((8 : Int32) &&& 31).toUInt32).toInt32).toUInt32 >>> ((4 : Int32) &&& 31).toUInt32).toInt32).toUInt32 >>> ((1 : Int32) &&& 31).toUInt32).toInt32))
          have e : (3 : Int32).toInt = 3 := by decide
          clear s1 s2 s4 s8 s16
          omega
        · rw [if_neg h3]
          rw [Int32.lt_iff_toInt_lt, l4] at h3
          have t3 := s2 ((((((x.toUInt32 >>> ((16 : Int32) &&& 31).toUInt32).toInt32).toUInt32 >>> ((8 : Int32) &&& 31).toUInt32).toInt32).toUInt32 >>> ((4 : Int32) &&& 31).toUInt32).toInt32) (by omega)
          have q := s1 ((((((((x.toUInt32 >>> ((16 : Int32) &&& 31).toUInt32).toInt32).toUInt32 >>> ((8 : Int32) &&& 31).toUInt32).toInt32).toUInt32 >>> ((4 : Int32) &&& 31).toUInt32).toInt32).toUInt32 >>> ((2 : Int32) &&& 31).toUInt32).toInt32) (by omega)
          have c := c_isub (1 : Int32) ((((((((((x.toUInt32 >>> ((16 : Int32) &&& 31).toUInt32).toInt32).toUInt32 >>> ((8 : Int32) &&& 31).toUInt32).toInt32).toUInt32 >>> ((4 : Int32) &&& 31).toUInt32).toInt32).toUInt32 >>> ((2 : Int32) &&& 31).toUInt32).toInt32).toUInt32 >>> ((1 : Int32) &&& 31).toUInt32).toInt32)
          have r := rng32 ((1 : Int32) - ((((((((((x.toUInt32 >>> ((16 : Int32) &&& 31).toUInt32).toInt32).toUInt32 >>> ((8 : Int32) &&& 31).toUInt32).toInt32).toUInt32 >>> ((4 : Int32) &&& 31).toUInt32).toInt32).toUInt32 >>> ((2 : Int32) &&& 31).toUInt32).toInt32).toUInt32 >>> ((1 : Int32) &&& 31).toUInt32).toInt32))
          have e : (1 : Int32).toInt = 1 := by decide
          clear s1 s2 s4 s8 s16
          omega
theorem own_rng (y : Int32) : (f_es (y &&& (2147483647 : Int32)) = (1 : Int32) ∧ (y &&& (2147483647 : Int32)) < (128 : Int32)) ∨ f_es (y &&& (2147483647 : Int32)) = (2 : Int32) ∨ f_es (y &&& (2147483647 : Int32)) = (3 : Int32) ∨ f_es (y &&& (2147483647 : Int32)) = (4 : Int32) ∨ f_es (y &&& (2147483647 : Int32)) = (5 : Int32) := by
  generalize (y &&& (2147483647 : Int32)) = x
  by_cases h : x < (128 : Int32)
  · refine Or.inl ⟨?_, h⟩
    unfold f_es; rw [if_pos h]
  · refine Or.inr ?_
    have b := own_nlz x h
    unfold f_es; rw [if_neg h]
    generalize f_nlz x = r at *
    have e1 : (1 : Int32).toInt = 1 := by decide
    have e2 : (2 : Int32).toInt = 2 := by decide
    have e3 : (3 : Int32).toInt = 3 := by decide
    have e4 : (4 : Int32).toInt = 4 := by decide
    have e5 : (5 : Int32).toInt = 5 := by decide
    have e8 : (8 : Int32).toInt = 8 := by decide
    have e32 : (32 : Int32).toInt = 32 := by decide
    have c1 := c_isub (32 : Int32) r
    have r1 := rng32 ((32 : Int32) - r)
    have c2 := c_iadd ((32 : Int32) - r) (8 : Int32)
    have r2 := rng32 (((32 : Int32) - r) + (8 : Int32))
    have c3 := c_isub (((32 : Int32) - r) + (8 : Int32)) (1 : Int32)
    have r3 := rng32 ((((32 : Int32) - r) + (8 : Int32)) - (1 : Int32))
    have v3 : ((((32 : Int32) - r) + (8 : Int32)) - (1 : Int32)).toInt = 39 - r.toInt := by omega
    have c4 := (c_idiv ((((32 : Int32) - r) + (8 : Int32)) - (1 : Int32)) (8 : Int32) 8 (by decide) (by decide)).1 (by omega)
    rw [v3] at c4
    have c5 := c_iadd (1 : Int32) (((((32 : Int32) - r) + (8 : Int32)) - (1 : Int32)) / (8 : Int32))
    have r5 := rng32 ((1 : Int32) + (((((32 : Int32) - r) + (8 : Int32)) - (1 : Int32)) / (8 : Int32)))
    rw [c4] at c5
    simp only [← Int32.toInt_inj, e2, e3, e4, e5]
    clear c1 c2 c3 r1 r2 r3 v3 c4
    omega
theorem own_nn (y : Int32) : ¬ ((y &&& (2147483647 : Int32)) < (0 : Int32)) := by
  have h := c_mask y 2147483647 31 (by decide) (by decide)
  have e0 : (0 : Int32).toInt = 0 := by decide
  rw [Int32.lt_iff_toInt_lt]
  omega
theorem own_ds1 (y : Int32) (h : (y &&& (2147483647 : Int32)) < (128 : Int32)) : f_ds (((y &&& (2147483647 : Int32)).toInt8.toInt32).toInt8.toInt32) = (1 : Int32) := by
  have hm := c_mask y 2147483647 31 (by decide) (by decide)
  generalize (y &&& (2147483647 : Int32)) = x at *
  have e1 : (128 : Int32).toInt = 128 := by decide
  rw [Int32.lt_iff_toInt_lt, e1] at h
  have b1 := c_i2b x
  have b2 := c_i2b (x.toInt8.toInt32)
  generalize x.toInt8.toInt32.toInt8.toInt32 = z at *
  have hz := c_mask z 255 8 (by decide) (by decide)
  unfold f_ds
  rw [if_neg]
  rw [Int32.lt_iff_toInt_lt, e1, hz]
  omega
theorem own_dsb (x e : Int32) (h : (if (x.toInt8.toInt32) < (0 : Int32) then (if (x.toInt8.toInt32) = (-128 : Int32) then (1 : Int32) else ((x.toInt8.toInt32) + (129 : Int32))) else (1 : Int32)) = e) : f_ds (x.toInt8.toInt32) = e := by
  subst h
  have b1 := c_i2b x
  generalize x.toInt8.toInt32 = z at *
  have hz := c_mask z 255 8 (by decide) (by decide)
  have e1 : (128 : Int32).toInt = 128 := by decide
  have e2 : (-128 : Int32).toInt = -128 := by decide
  have e3 : (129 : Int32).toInt = 129 := by decide
  have e0 : (0 : Int32).toInt = 0 := by decide
  have e4 : (1 : Int32).toInt = 1 := by decide
  have c1 := c_iadd (1 : Int32) (z &&& (255 : Int32))
  have r1 := rng32 ((1 : Int32) + (z &&& (255 : Int32)))
  have c2 := c_isub ((1 : Int32) + (z &&& (255 : Int32))) (128 : Int32)
  have r2 := rng32 (((1 : Int32) + (z &&& (255 : Int32))) - (128 : Int32))
  have c3 := c_iadd z (129 : Int32)
  have r3 := rng32 (z + (129 : Int32))
  unfold f_ds
  simp only [Int32.lt_iff_toInt_lt, ← Int32.toInt_inj, e0, e1, e2]
  repeat' split
  all_goals omega
theorem kw3 {Z : State} {a0 : Array Value} (hw : ∀ d ∈ tables_1, d.before a0 Z = true) : (Jvm.Cond.code ({ cls := "com/example/opwire/opwire/codec/ber/BerLength", name := "decodedSize", desc := "(B)I" } : Jvm.MethodName) prog_4_method_3_code (2 : Nat) (Option.some Jvm.ClassFile.FieldType.int)).before a0 Z = true := hw _ (List.mem_of_getElem? (i := 3) rfl)
theorem pd4 : parseMethodDescriptor "(B)I" = some ⟨[.byte], some .int⟩ := by decide +kernel
theorem kw0 {Z : State} {a0 : Array Value} (hw : ∀ d ∈ tables_1, d.before a0 Z = true) : (Jvm.Cond.methodLink "com/example/opwire/opwire/codec/ber/BerLengthDecodedSizePinLaw" (7 : Nat) ({ cls := "com/example/opwire/opwire/codec/ber/BerLength", name := "decodedSize", desc := "(B)I" } : Jvm.MethodName)).before a0 Z = true := hw _ (List.mem_of_getElem? (i := 0) rfl)
theorem kw1 {Z : State} {a0 : Array Value} (hw : ∀ d ∈ tables_1, d.before a0 Z = true) : (Jvm.Cond.static ({ cls := "com/example/opwire/opwire/codec/ber/BerLength", name := "decodedSize", desc := "(B)I" } : Jvm.MethodName)).before a0 Z = true := hw _ (List.mem_of_getElem? (i := 1) rfl)
theorem kw4 {Z : State} {a0 : Array Value} (hw : ∀ d ∈ tables_1, d.before a0 Z = true) : (Jvm.Cond.constant "com/example/opwire/opwire/codec/ber/BerLengthDecodedSizePinLaw" (13 : Nat) (2147483647 : Int32)).before a0 Z = true := hw _ (List.mem_of_getElem? (i := 4) rfl)
theorem kw5 {Z : State} {a0 : Array Value} (hw : ∀ d ∈ tables_1, d.before a0 Z = true) : (Jvm.Cond.arrayClass Jvm.ClassFile.FieldType.byte).before a0 Z = true := hw _ (List.mem_of_getElem? (i := 5) rfl)
theorem kw8 {Z : State} {a0 : Array Value} (hw : ∀ d ∈ tables_1, d.before a0 Z = true) : (Jvm.Cond.code ({ cls := "com/example/opwire/opwire/codec/ber/BerLength", name := "encode", desc := "(I[BI)I" } : Jvm.MethodName) prog_4_method_5_code (6 : Nat) (Option.some Jvm.ClassFile.FieldType.int)).before a0 Z = true := hw _ (List.mem_of_getElem? (i := 8) rfl)
theorem pd5 : parseMethodDescriptor "(I[BI)I" = some ⟨[.int, (.array .byte), .int], some .int⟩ := by decide +kernel
theorem kw6 {Z : State} {a0 : Array Value} (hw : ∀ d ∈ tables_1, d.before a0 Z = true) : (Jvm.Cond.methodLink "com/example/opwire/opwire/codec/ber/BerLengthDecodedSizePinLaw" (14 : Nat) ({ cls := "com/example/opwire/opwire/codec/ber/BerLength", name := "encode", desc := "(I[BI)I" } : Jvm.MethodName)).before a0 Z = true := hw _ (List.mem_of_getElem? (i := 6) rfl)
theorem kw7 {Z : State} {a0 : Array Value} (hw : ∀ d ∈ tables_1, d.before a0 Z = true) : (Jvm.Cond.static ({ cls := "com/example/opwire/opwire/codec/ber/BerLength", name := "encode", desc := "(I[BI)I" } : Jvm.MethodName)).before a0 Z = true := hw _ (List.mem_of_getElem? (i := 7) rfl)
theorem pn5 : plainName "com/example/opwire/opwire/codec/ber/BerLengthDecodedSizePinLaw" = true := by first | (simp [plainName, overriddenIn]; done) | decide +kernel
theorem ef_law (m : MethodId) (xlaw_1 : Int32) (xlaw_2 : Int32) : entryFrame m #[(.int xlaw_1), (.int xlaw_2)] maxLocals = mkF m 0 #[.val (.int xlaw_1), .val (.int xlaw_2), .unset, .unset, .unset, .unset, .unset] [] := by first | (simp [entryFrame, mkF, argsToLocals, Value.category, maxLocals]; done) | rfl
def Q_law (n0 : Nat) (v : Option Value) (h : Heap) (L : List Loc) : Prop := v = some (.int 1) ∧ Fr n0 L
set_option maxRecDepth 65536 in
set_option maxHeartbeats 40000000 in
theorem rm_law (l : Launch) (Z : State) (a0 : Array Value) (hw : ∀ d ∈ tables_1, d.before a0 Z = true) (ws : List Jvm.Cond) (xlaw_1 : Int32) (xlaw_2 : Int32) (h0 : Heap) (n0 : Nat) (Z0 : n0 ≤ h0.size)  :
    MetFree l x (head1 (Jvm.Cond.code x code maxLocals ret :: ws) room_1) (fun a U => a = #[(.int xlaw_1), (.int xlaw_2)] ∧ Z.Warmed39 U.vm ∧ U.heap = h0) (fun _ _ _ _ _ => True) (fun _ U o U' => ∃ v L, o = .returned v ∧ (Q_law n0) v U'.heap L ∧ FrameEnd U o U' L 16 128) := by
  refine MetFree.of_bodySF (plainFor_of_name pn5) hisR ?_
  intro p e s m args below meth c s₁ Bd hml0 hP hK
  obtain ⟨rfl, hZ, hh⟩ := hP
  have hx := Bd.exec
  have hby := Bd.bytes
  have hml : c.maxLocals = 7 := hml0
  have hown : s.vm.findClass "com/example/opwire/opwire/codec/ber/BerLengthDecodedSizePinLaw" = some m.cls := findClass_of_methodNamed Bd.named
  have hnm := (name_of_methodNamed Bd.named Bd.method).1
  have X0 : Stand p l e room_1 s m #[(.int xlaw_1), (.int xlaw_2)] below meth c s₁ [] 0 0 := Stand.of_body Bd
  have e0 : s₁.heap = h0 := by rw [← hh, Bd.state]; rfl
  have N0 := Fr.nil n0
  refine Wq.step (p := p) (e := e) (below := below) (En := (fun o t L => FrameEnd s o t L 16 128)) (Q := (Q_law n0)) (fun t k => castTop (ef_law m xlaw_1 xlaw_2) k) ?_
  show Wq _ _ _ _ _ (s₁.setTop (mkF m 0 #[.val (.int xlaw_1), .val (.int xlaw_2), .unset, .unset, .unset, .unset, .unset] []))
  refine Ow.iloadN X0 hx (pc' := 1) (hb hby at_0) rfl ?_
  refine Ow.i2b X0 hx (pc' := 2) (hb hby at_1) (z := (xlaw_1.toInt8.toInt32)) rfl ?_
  refine Ow.istoreN X0 hx (pc' := 3) (hb hby at_2) (l' := #[.val (.int xlaw_1), .val (.int xlaw_2), .val (.int (xlaw_1.toInt8.toInt32)), .unset, .unset, .unset, .unset]) rfl ?_
  generalize hv2 : (xlaw_1.toInt8.toInt32) = v2
  refine Ow.iloadN X0 hx (pc' := 4) (hb hby at_3) rfl ?_
  refine Wq.by (U' := s₁.setTop (mkF m 29 #[.val (.int xlaw_1), .val (.int xlaw_2), .val (.int v2), .val (.int (if v2 < (0 : Int32) then (if v2 = (-128 : Int32) then (1 : Int32) else (v2 + (129 : Int32))) else (1 : Int32))), .unset, .unset, .unset] [])) (fun k => ?_) ?_
  · skip
    by_cases hm4 : v2 < (0 : Int32)
    · skip
      refine Ow.ifYes X0 hx (pc' := 12) (hb hby at_4) ((if0 _ _).trans (tlt hm4).1) (by decide) (by decide) ?_
      refine Ow.iloadN X0 hx (pc' := 13) (hb hby at_12) rfl ?_
      refine Ow.bipush X0 hx (pc' := 15) (hb hby at_13) (z := (-128 : Int32)) rfl ?_
      by_cases hm15 : v2 = (-128 : Int32)
      · skip
        refine Ow.icmpNo X0 hx (pc' := 18) (hb hby at_15) (teq hm15).2 ?_
        refine Ow.iconst X0 hx (pc' := 19) (hb hby at_18) (z := (1 : Int32)) rfl ?_
        refine Ow.istoreN X0 hx (pc' := 20) (hb hby at_19) (l' := #[.val (.int xlaw_1), .val (.int xlaw_2), .val (.int v2), .val (.int (1 : Int32)), .unset, .unset, .unset]) rfl ?_
        refine Ow.goto X0 hx (pc' := 29) (hb hby at_20) (by decide) (by decide) ?_
        simp only [if_pos hm4, if_pos hm15] at k
        exact k
      · skip
        refine Ow.icmpYes X0 hx (pc' := 23) (hb hby at_15) (feq hm15).2 (by decide) (by decide) ?_
        refine Ow.iloadN X0 hx (pc' := 24) (hb hby at_23) rfl ?_
        refine Ow.sipush X0 hx (pc' := 27) (hb hby at_24) (z := (129 : Int32)) rfl ?_
        refine Ow.iadd X0 hx (pc' := 28) (hb hby at_27) (z := (v2 + (129 : Int32))) rfl ?_
        refine Ow.istoreN X0 hx (pc' := 29) (hb hby at_28) (l' := #[.val (.int xlaw_1), .val (.int xlaw_2), .val (.int v2), .val (.int (v2 + (129 : Int32))), .unset, .unset, .unset]) rfl ?_
        simp only [if_pos hm4, if_neg hm15] at k
        exact k
    · skip
      refine Ow.ifNo X0 hx (pc' := 7) (hb hby at_4) ((if0 _ _).trans (flt hm4).1) ?_
      refine Ow.iconst X0 hx (pc' := 8) (hb hby at_7) (z := (1 : Int32)) rfl ?_
      refine Ow.istoreN X0 hx (pc' := 9) (hb hby at_8) (l' := #[.val (.int xlaw_1), .val (.int xlaw_2), .val (.int v2), .val (.int (1 : Int32)), .unset, .unset, .unset]) rfl ?_
      refine Ow.goto X0 hx (pc' := 29) (hb hby at_9) (by decide) (by decide) ?_
      simp only [if_neg hm4] at k
      exact k
  show Wq _ _ _ _ _ (s₁.setTop (mkF m 29 #[.val (.int xlaw_1), .val (.int xlaw_2), .val (.int v2), .val (.int (if v2 < (0 : Int32) then (if v2 = (-128 : Int32) then (1 : Int32) else (v2 + (129 : Int32))) else (1 : Int32))), .unset, .unset, .unset] []))
  generalize hm29_3 : (if v2 < (0 : Int32) then (if v2 = (-128 : Int32) then (1 : Int32) else (v2 + (129 : Int32))) else (1 : Int32)) = m29_3
  refine Ow.iloadN X0 hx (pc' := 30) (hb hby at_29) rfl ?_
  obtain ⟨_, _, ⟨T32, L32, k32, n32⟩, -, X32, ⟨Lc32, hQ32, l32, y32, z32⟩, st32⟩ := Jvm.LawKit.callS X0 hx (y := mt1) hown (mvT hZ (kw0 hw)) (mvT hZ (kw1 hw)) (mvT hZ (kw2 hw)) (mvT hZ (kw3 hw)) (by decide) (backOf (W := 0) (rm_ds l Z a0 hw [] v2 h0 n0 Z0 ) hZ (kw3 hw) (kw2 hw) (by decide) (by decide)) (g := (mkF m 30 #[.val (.int xlaw_1), .val (.int xlaw_2), .val (.int v2), .val (.int m29_3), .unset, .unset, .unset] [(.int v2)])) rfl (by rw [hml]; rfl) (argsL := [(.int v2)]) (rest := []) (lenOf pd4 rfl) rfl (by show 2 * 0 + _ ≤ _; exact Nat.le_of_eq rfl) (hb hby at_30) (fun _ _ => ⟨rfl, e0, (by decide : 0 + 0 ≤ _), (by decide : 0 + 0 ≤ _)⟩)
  dsimp only [Pt.U, Pt.locs, Pt.cells, Pt.slots] at X32 l32 y32 z32 st32 hQ32
  subst l32 y32 z32
  obtain ⟨rfl, Nq32, e32⟩ := hQ32
  have N32 := Fr.app N0 Nq32
  refine Wq.step st32 ?_
  show Wq _ _ _ _ _ (T32.setTop (mkF m 33 #[.val (.int xlaw_1), .val (.int xlaw_2), .val (.int v2), .val (.int m29_3), .unset, .unset, .unset] [(.int (f_ds v2))]))
  generalize hv30 : (f_ds v2) = v30
  show Wq _ _ _ _ _ (T32.setTop (mkF m 33 #[.val (.int xlaw_1), .val (.int xlaw_2), .val (.int v2), .val (.int m29_3), .unset, .unset, .unset] [(.int v30)]))
  refine Ow.iloadN X32 hx (pc' := 34) (hb hby at_33) rfl ?_
  refine Ow.icmpYes X32 hx (pc' := 39) (hb hby at_34) (teq (by subst_vars; exact own_dsb _ _ rfl : v30 = m29_3)).1 (by decide) (by decide) ?_
  refine Ow.iloadN X32 hx (pc' := 40) (hb hby at_39) rfl ?_
  refine Ow.ldcInt X32 hx hZ (pc' := 42) hown (kw4 hw) (hb hby at_40) ?_
  refine Ow.iand X32 hx (pc' := 43) (hb hby at_42) (z := (xlaw_2 &&& (2147483647 : Int32))) rfl ?_
  refine Ow.istore X32 hx (pc' := 45) (hb hby at_43) (l' := #[.val (.int xlaw_1), .val (.int xlaw_2), .val (.int v2), .val (.int m29_3), .val (.int (xlaw_2 &&& (2147483647 : Int32))), .unset, .unset]) rfl ?_
  generalize hv43 : (xlaw_2 &&& (2147483647 : Int32)) = v43
  refine Ow.iconst X32 hx (pc' := 46) (hb hby at_45) (z := (5 : Int32)) rfl ?_
  obtain ⟨T33, h33, k33, X33, e33, E33, A33, st33⟩ := newP X32 hx hZ (aty := .byte) (kw5 hw) e32 (g := (mkF m 46 #[.val (.int xlaw_1), .val (.int xlaw_2), .val (.int v2), .val (.int m29_3), .val (.int v43), .unset, .unset] [(.int (5 : Int32))])) rfl (hb hby at_46) rfl (by decide) (cap := 5) (by decide) (by decide) (by decide) (by decide)
  obtain ⟨b33, gz33⟩ : ∃ z, z = h0.size := ⟨_, rfl⟩
  rw [← gz33] at A33 st33
  have g_b33 : n0 ≤ b33 := Nat.le_trans Z0 (Nat.le_of_eq gz33.symm)
  have sz_b33 : h0.size ≤ b33 := Nat.le_of_eq gz33.symm
  have K33 : Keep h0 h33 [] := (Keep.refl h0 []).ext E33
  have Z33 : n0 ≤ h33.size := Nat.le_trans Z0 E33.1
  have V_b33 : Al Z h33 b33 .byte [(.int (0 : Int32)), (.int (0 : Int32)), (.int (0 : Int32)), (.int (0 : Int32)), (.int (0 : Int32))] := Al.new A33 (k := 5) (rfl) rfl
  refine Wq.step st33 ?_
  show Wq _ _ _ _ _ (T33.setTop (mkF m 48 #[.val (.int xlaw_1), .val (.int xlaw_2), .val (.int v2), .val (.int m29_3), .val (.int v43), .unset, .unset] [(.ref b33)]))
  refine Ow.astore X33 hx (pc' := 50) (hb hby at_48) rfl (l' := #[.val (.int xlaw_1), .val (.int xlaw_2), .val (.int v2), .val (.int m29_3), .val (.int v43), .val (.ref b33), .unset]) rfl ?_
  rcases own_rng xlaw_2 with hcs | hcs | hcs | hcs | hcs
  · skip
    show Wq _ _ _ _ _ (T33.setTop (mkF m 50 #[.val (.int xlaw_1), .val (.int xlaw_2), .val (.int v2), .val (.int m29_3), .val (.int v43), .val (.ref b33), .unset] []))
    refine Ow.iload X33 hx (pc' := 52) (hb hby at_50) rfl ?_
    refine Ow.aload X33 hx (pc' := 54) (hb hby at_52) rfl rfl ?_
    refine Ow.iconst X33 hx (pc' := 55) (hb hby at_54) (z := (0 : Int32)) rfl ?_
    obtain ⟨_, _, ⟨T34, L34, k34, n34⟩, -, X34, ⟨Lc34, hQ34, l34, y34, z34⟩, st34⟩ := Jvm.LawKit.callS X33 hx (y := mt6) hown (mvT hZ (kw6 hw)) (mvT hZ (kw7 hw)) (mvT hZ (kw2 hw)) (mvT hZ (kw8 hw)) (by decide) (backOf (W := 0) (rm_enc1 l Z a0 hw [] v43 b33 h33 n0 Z33 V_b33 g_b33 (by subst hv43; exact own_nn _) (by subst hv43; exact hcs.1)) hZ (kw8 hw) (kw2 hw) (by decide) (by decide)) (g := (mkF m 55 #[.val (.int xlaw_1), .val (.int xlaw_2), .val (.int v2), .val (.int m29_3), .val (.int v43), .val (.ref b33), .unset] [(.int (0 : Int32)), (.ref b33), (.int v43)])) rfl (by rw [hml]; rfl) (argsL := [(.int v43), (.ref b33), (.int (0 : Int32))]) (rest := []) (lenOf pd5 rfl) rfl (by show 2 * 0 + _ ≤ _; exact Nat.le_of_eq rfl) (hb hby at_55) (fun _ _ => ⟨rfl, e33, (by decide : 1 + 0 ≤ _), (by decide : 5 + 0 ≤ _)⟩)
    dsimp only [Pt.U, Pt.locs, Pt.cells, Pt.slots] at X34 l34 y34 z34 st34 hQ34
    subst l34 y34 z34
    obtain ⟨rfl, Nq34, Kq34, P34_0⟩ := hQ34
    have N34 := Fr.app N32 Nq34
    have K34 : Keep h0 T34.heap [] := K33.trans Kq34 (allS (P := fun x => x ∈ [] ∨ h0.size ≤ x) (Or.inr sz_b33) all0)
    have Z34 : n0 ≤ T34.heap.size := Nat.le_trans Z33 Kq34.1
    have e34 : T34.heap = T34.heap := rfl
    obtain ⟨q35, hq35⟩ : ∃ z, z = ((v43.toInt8.toInt32).toInt8.toInt32) := ⟨_, rfl⟩
    rw [← hq35] at P34_0
    refine Wq.step st34 ?_
    show Wq _ _ _ _ _ (T34.setTop (mkF m 58 #[.val (.int xlaw_1), .val (.int xlaw_2), .val (.int v2), .val (.int m29_3), .val (.int v43), .val (.ref b33), .unset] [(.int (1 : Int32))]))
    show Wq _ _ _ _ _ (T34.setTop (mkF m 58 #[.val (.int xlaw_1), .val (.int xlaw_2), .val (.int v2), .val (.int m29_3), .val (.int v43), .val (.ref b33), .unset] [(.int (1 : Int32))]))
    refine Ow.istore X34 hx (pc' := 60) (hb hby at_58) (l' := #[.val (.int xlaw_1), .val (.int xlaw_2), .val (.int v2), .val (.int m29_3), .val (.int v43), .val (.ref b33), .val (.int (1 : Int32))]) rfl ?_
    refine Ow.aload X34 hx (pc' := 62) (hb hby at_60) rfl rfl ?_
    refine Ow.iconst X34 hx (pc' := 63) (hb hby at_62) (z := (0 : Int32)) rfl ?_
    refine Ow.ldB X34 hx hZ e34 P34_0 (pc' := 64) (hb hby at_63) (j := (0 : Int32)) (i := 0) (v := (.int q35)) (by decide) rfl rfl ?_
    obtain ⟨_, _, ⟨T36, L36, k36, n36⟩, -, X36, ⟨Lc36, hQ36, l36, y36, z36⟩, st36⟩ := Jvm.LawKit.callS X34 hx (y := mt1) hown (mvT hZ (kw0 hw)) (mvT hZ (kw1 hw)) (mvT hZ (kw2 hw)) (mvT hZ (kw3 hw)) (by decide) (backOf (W := 0) (rm_ds l Z a0 hw [] q35 T34.heap n0 Z34 ) hZ (kw3 hw) (kw2 hw) (by decide) (by decide)) (g := (mkF m 64 #[.val (.int xlaw_1), .val (.int xlaw_2), .val (.int v2), .val (.int m29_3), .val (.int v43), .val (.ref b33), .val (.int (1 : Int32))] [(.int q35)])) rfl (by rw [hml]; rfl) (argsL := [(.int q35)]) (rest := []) (lenOf pd4 rfl) rfl (by show 2 * 0 + _ ≤ _; exact Nat.le_of_eq rfl) (hb hby at_64) (fun _ _ => ⟨rfl, e34, (by decide : 1 + 0 ≤ _), (by decide : 5 + 0 ≤ _)⟩)
    dsimp only [Pt.U, Pt.locs, Pt.cells, Pt.slots] at X36 l36 y36 z36 st36 hQ36
    subst l36 y36 z36
    obtain ⟨rfl, Nq36, e36⟩ := hQ36
    have N36 := Fr.app N34 Nq36
    refine Wq.step st36 ?_
    show Wq _ _ _ _ _ (T36.setTop (mkF m 67 #[.val (.int xlaw_1), .val (.int xlaw_2), .val (.int v2), .val (.int m29_3), .val (.int v43), .val (.ref b33), .val (.int (1 : Int32))] [(.int (f_ds q35))]))
    generalize hv64 : (f_ds q35) = v64
    show Wq _ _ _ _ _ (T36.setTop (mkF m 67 #[.val (.int xlaw_1), .val (.int xlaw_2), .val (.int v2), .val (.int m29_3), .val (.int v43), .val (.ref b33), .val (.int (1 : Int32))] [(.int v64)]))
    refine Ow.iload X36 hx (pc' := 69) (hb hby at_67) rfl ?_
    refine Ow.icmpNo X36 hx (pc' := 72) (hb hby at_69) (teq (by subst_vars; exact own_ds1 _ hcs.2 : v64 = (1 : Int32))).2 ?_
    refine Ow.iconst X36 hx (pc' := 73) (hb hby at_72) (z := (1 : Int32)) rfl ?_
    refine Ow.goto X36 hx (pc' := 77) (hb hby at_73) (by decide) (by decide) ?_
    exact Wq.ret X36 (BodyLoose.notSynchronized Bd) (rv := some (.int (1 : Int32))) (fun h => by rw [Bd.returns] at h; cases h) (fun _ hr => retN X36 hx (t := .boolean) Bd.returns (by simp) (hb hby at_77) hr) (by decide) (by decide) ⟨rfl, N36⟩
  · skip
    show Wq _ _ _ _ _ (T33.setTop (mkF m 50 #[.val (.int xlaw_1), .val (.int xlaw_2), .val (.int v2), .val (.int m29_3), .val (.int v43), .val (.ref b33), .unset] []))
    refine Ow.iload X33 hx (pc' := 52) (hb hby at_50) rfl ?_
    refine Ow.aload X33 hx (pc' := 54) (hb hby at_52) rfl rfl ?_
    refine Ow.iconst X33 hx (pc' := 55) (hb hby at_54) (z := (0 : Int32)) rfl ?_
    obtain ⟨_, _, ⟨T37, L37, k37, n37⟩, -, X37, ⟨Lc37, hQ37, l37, y37, z37⟩, st37⟩ := Jvm.LawKit.callS X33 hx (y := mt6) hown (mvT hZ (kw6 hw)) (mvT hZ (kw7 hw)) (mvT hZ (kw2 hw)) (mvT hZ (kw8 hw)) (by decide) (backOf (W := 0) (rm_enc2 l Z a0 hw [] v43 b33 h33 n0 Z33 V_b33 g_b33 (by subst hv43; exact own_nn _) (by subst hv43; exact hcs)) hZ (kw8 hw) (kw2 hw) (by decide) (by decide)) (g := (mkF m 55 #[.val (.int xlaw_1), .val (.int xlaw_2), .val (.int v2), .val (.int m29_3), .val (.int v43), .val (.ref b33), .unset] [(.int (0 : Int32)), (.ref b33), (.int v43)])) rfl (by rw [hml]; rfl) (argsL := [(.int v43), (.ref b33), (.int (0 : Int32))]) (rest := []) (lenOf pd5 rfl) rfl (by show 2 * 0 + _ ≤ _; exact Nat.le_of_eq rfl) (hb hby at_55) (fun _ _ => ⟨rfl, e33, (by decide : 1 + 0 ≤ _), (by decide : 5 + 0 ≤ _)⟩)
    dsimp only [Pt.U, Pt.locs, Pt.cells, Pt.slots] at X37 l37 y37 z37 st37 hQ37
    subst l37 y37 z37
    obtain ⟨rfl, Nq37, Kq37, P37_0⟩ := hQ37
    have N37 := Fr.app N32 Nq37
    have K37 : Keep h0 T37.heap [] := K33.trans Kq37 (allS (P := fun x => x ∈ [] ∨ h0.size ≤ x) (Or.inr sz_b33) all0)
    have Z37 : n0 ≤ T37.heap.size := Nat.le_trans Z33 Kq37.1
    have e37 : T37.heap = T37.heap := rfl
    obtain ⟨q38, hq38⟩ : ∃ z, z = ((v43.toInt8.toInt32).toInt8.toInt32) := ⟨_, rfl⟩
    rw [← hq38] at P37_0
    refine Wq.step st37 ?_
    show Wq _ _ _ _ _ (T37.setTop (mkF m 58 #[.val (.int xlaw_1), .val (.int xlaw_2), .val (.int v2), .val (.int m29_3), .val (.int v43), .val (.ref b33), .unset] [(.int (2 : Int32))]))
    show Wq _ _ _ _ _ (T37.setTop (mkF m 58 #[.val (.int xlaw_1), .val (.int xlaw_2), .val (.int v2), .val (.int m29_3), .val (.int v43), .val (.ref b33), .unset] [(.int (2 : Int32))]))
    refine Ow.istore X37 hx (pc' := 60) (hb hby at_58) (l' := #[.val (.int xlaw_1), .val (.int xlaw_2), .val (.int v2), .val (.int m29_3), .val (.int v43), .val (.ref b33), .val (.int (2 : Int32))]) rfl ?_
    refine Ow.aload X37 hx (pc' := 62) (hb hby at_60) rfl rfl ?_
    refine Ow.iconst X37 hx (pc' := 63) (hb hby at_62) (z := (0 : Int32)) rfl ?_
    refine Ow.ldB X37 hx hZ e37 P37_0 (pc' := 64) (hb hby at_63) (j := (0 : Int32)) (i := 0) (v := (.int (-127 : Int32))) (by decide) rfl rfl ?_
    obtain ⟨_, _, ⟨T39, L39, k39, n39⟩, -, X39, ⟨Lc39, hQ39, l39, y39, z39⟩, st39⟩ := Jvm.LawKit.callS X37 hx (y := mt1) hown (mvT hZ (kw0 hw)) (mvT hZ (kw1 hw)) (mvT hZ (kw2 hw)) (mvT hZ (kw3 hw)) (by decide) (backOf (W := 0) (rm_ds l Z a0 hw [] (-127 : Int32) T37.heap n0 Z37 ) hZ (kw3 hw) (kw2 hw) (by decide) (by decide)) (g := (mkF m 64 #[.val (.int xlaw_1), .val (.int xlaw_2), .val (.int v2), .val (.int m29_3), .val (.int v43), .val (.ref b33), .val (.int (2 : Int32))] [(.int (-127 : Int32))])) rfl (by rw [hml]; rfl) (argsL := [(.int (-127 : Int32))]) (rest := []) (lenOf pd4 rfl) rfl (by show 2 * 0 + _ ≤ _; exact Nat.le_of_eq rfl) (hb hby at_64) (fun _ _ => ⟨rfl, e37, (by decide : 1 + 0 ≤ _), (by decide : 5 + 0 ≤ _)⟩)
    dsimp only [Pt.U, Pt.locs, Pt.cells, Pt.slots] at X39 l39 y39 z39 st39 hQ39
    subst l39 y39 z39
    obtain ⟨rfl, Nq39, e39⟩ := hQ39
    have N39 := Fr.app N37 Nq39
    refine Wq.step st39 ?_
    show Wq _ _ _ _ _ (T39.setTop (mkF m 67 #[.val (.int xlaw_1), .val (.int xlaw_2), .val (.int v2), .val (.int m29_3), .val (.int v43), .val (.ref b33), .val (.int (2 : Int32))] [(.int (f_ds (-127 : Int32)))]))
    generalize hv64 : (f_ds (-127 : Int32)) = v64
    show Wq _ _ _ _ _ (T39.setTop (mkF m 67 #[.val (.int xlaw_1), .val (.int xlaw_2), .val (.int v2), .val (.int m29_3), .val (.int v43), .val (.ref b33), .val (.int (2 : Int32))] [(.int v64)]))
    refine Ow.iload X39 hx (pc' := 69) (hb hby at_67) rfl ?_
    refine Ow.icmpNo X39 hx (pc' := 72) (hb hby at_69) (teq (by subst_vars; decide : v64 = (2 : Int32))).2 ?_
    refine Ow.iconst X39 hx (pc' := 73) (hb hby at_72) (z := (1 : Int32)) rfl ?_
    refine Ow.goto X39 hx (pc' := 77) (hb hby at_73) (by decide) (by decide) ?_
    exact Wq.ret X39 (BodyLoose.notSynchronized Bd) (rv := some (.int (1 : Int32))) (fun h => by rw [Bd.returns] at h; cases h) (fun _ hr => retN X39 hx (t := .boolean) Bd.returns (by simp) (hb hby at_77) hr) (by decide) (by decide) ⟨rfl, N39⟩
  · skip
    show Wq _ _ _ _ _ (T33.setTop (mkF m 50 #[.val (.int xlaw_1), .val (.int xlaw_2), .val (.int v2), .val (.int m29_3), .val (.int v43), .val (.ref b33), .unset] []))
    refine Ow.iload X33 hx (pc' := 52) (hb hby at_50) rfl ?_
    refine Ow.aload X33 hx (pc' := 54) (hb hby at_52) rfl rfl ?_
    refine Ow.iconst X33 hx (pc' := 55) (hb hby at_54) (z := (0 : Int32)) rfl ?_
    obtain ⟨_, _, ⟨T40, L40, k40, n40⟩, -, X40, ⟨Lc40, hQ40, l40, y40, z40⟩, st40⟩ := Jvm.LawKit.callS X33 hx (y := mt6) hown (mvT hZ (kw6 hw)) (mvT hZ (kw7 hw)) (mvT hZ (kw2 hw)) (mvT hZ (kw8 hw)) (by decide) (backOf (W := 0) (rm_enc3 l Z a0 hw [] v43 b33 h33 n0 Z33 V_b33 g_b33 (by subst hv43; exact own_nn _) (by subst hv43; exact hcs)) hZ (kw8 hw) (kw2 hw) (by decide) (by decide)) (g := (mkF m 55 #[.val (.int xlaw_1), .val (.int xlaw_2), .val (.int v2), .val (.int m29_3), .val (.int v43), .val (.ref b33), .unset] [(.int (0 : Int32)), (.ref b33), (.int v43)])) rfl (by rw [hml]; rfl) (argsL := [(.int v43), (.ref b33), (.int (0 : Int32))]) (rest := []) (lenOf pd5 rfl) rfl (by show 2 * 0 + _ ≤ _; exact Nat.le_of_eq rfl) (hb hby at_55) (fun _ _ => ⟨rfl, e33, (by decide : 1 + 0 ≤ _), (by decide : 5 + 0 ≤ _)⟩)
    dsimp only [Pt.U, Pt.locs, Pt.cells, Pt.slots] at X40 l40 y40 z40 st40 hQ40
    subst l40 y40 z40
    obtain ⟨rfl, Nq40, Kq40, P40_0⟩ := hQ40
    have N40 := Fr.app N32 Nq40
    have K40 : Keep h0 T40.heap [] := K33.trans Kq40 (allS (P := fun x => x ∈ [] ∨ h0.size ≤ x) (Or.inr sz_b33) all0)
    have Z40 : n0 ≤ T40.heap.size := Nat.le_trans Z33 Kq40.1
    have e40 : T40.heap = T40.heap := rfl
    obtain ⟨q41, hq41⟩ : ∃ z, z = ((((v43.toUInt32 >>> ((8 : Int32) &&& 31).toUInt32).toInt32).toInt8.toInt32).toInt8.toInt32) := ⟨_, rfl⟩
    rw [← hq41] at P40_0
    obtain ⟨q42, hq42⟩ : ∃ z, z = ((v43.toInt8.toInt32).toInt8.toInt32) := ⟨_, rfl⟩
    rw [← hq42] at P40_0
    refine Wq.step st40 ?_
    show Wq _ _ _ _ _ (T40.setTop (mkF m 58 #[.val (.int xlaw_1), .val (.int xlaw_2), .val (.int v2), .val (.int m29_3), .val (.int v43), .val (.ref b33), .unset] [(.int (3 : Int32))]))
    show Wq _ _ _ _ _ (T40.setTop (mkF m 58 #[.val (.int xlaw_1), .val (.int xlaw_2), .val (.int v2), .val (.int m29_3), .val (.int v43), .val (.ref b33), .unset] [(.int (3 : Int32))]))
    refine Ow.istore X40 hx (pc' := 60) (hb hby at_58) (l' := #[.val (.int xlaw_1), .val (.int xlaw_2), .val (.int v2), .val (.int m29_3), .val (.int v43), .val (.ref b33), .val (.int (3 : Int32))]) rfl ?_
    refine Ow.aload X40 hx (pc' := 62) (hb hby at_60) rfl rfl ?_
    refine Ow.iconst X40 hx (pc' := 63) (hb hby at_62) (z := (0 : Int32)) rfl ?_
    refine Ow.ldB X40 hx hZ e40 P40_0 (pc' := 64) (hb hby at_63) (j := (0 : Int32)) (i := 0) (v := (.int (-126 : Int32))) (by decide) rfl rfl ?_
    obtain ⟨_, _, ⟨T43, L43, k43, n43⟩, -, X43, ⟨Lc43, hQ43, l43, y43, z43⟩, st43⟩ := Jvm.LawKit.callS X40 hx (y := mt1) hown (mvT hZ (kw0 hw)) (mvT hZ (kw1 hw)) (mvT hZ (kw2 hw)) (mvT hZ (kw3 hw)) (by decide) (backOf (W := 0) (rm_ds l Z a0 hw [] (-126 : Int32) T40.heap n0 Z40 ) hZ (kw3 hw) (kw2 hw) (by decide) (by decide)) (g := (mkF m 64 #[.val (.int xlaw_1), .val (.int xlaw_2), .val (.int v2), .val (.int m29_3), .val (.int v43), .val (.ref b33), .val (.int (3 : Int32))] [(.int (-126 : Int32))])) rfl (by rw [hml]; rfl) (argsL := [(.int (-126 : Int32))]) (rest := []) (lenOf pd4 rfl) rfl (by show 2 * 0 + _ ≤ _; exact Nat.le_of_eq rfl) (hb hby at_64) (fun _ _ => ⟨rfl, e40, (by decide : 1 + 0 ≤ _), (by decide : 5 + 0 ≤ _)⟩)
    dsimp only [Pt.U, Pt.locs, Pt.cells, Pt.slots] at X43 l43 y43 z43 st43 hQ43
    subst l43 y43 z43
    obtain ⟨rfl, Nq43, e43⟩ := hQ43
    have N43 := Fr.app N40 Nq43
    refine Wq.step st43 ?_
    show Wq _ _ _ _ _ (T43.setTop (mkF m 67 #[.val (.int xlaw_1), .val (.int xlaw_2), .val (.int v2), .val (.int m29_3), .val (.int v43), .val (.ref b33), .val (.int (3 : Int32))] [(.int (f_ds (-126 : Int32)))]))
    generalize hv64 : (f_ds (-126 : Int32)) = v64
    show Wq _ _ _ _ _ (T43.setTop (mkF m 67 #[.val (.int xlaw_1), .val (.int xlaw_2), .val (.int v2), .val (.int m29_3), .val (.int v43), .val (.ref b33), .val (.int (3 : Int32))] [(.int v64)]))
    refine Ow.iload X43 hx (pc' := 69) (hb hby at_67) rfl ?_
    refine Ow.icmpNo X43 hx (pc' := 72) (hb hby at_69) (teq (by subst_vars; decide : v64 = (3 : Int32))).2 ?_
    refine Ow.iconst X43 hx (pc' := 73) (hb hby at_72) (z := (1 : Int32)) rfl ?_
    refine Ow.goto X43 hx (pc' := 77) (hb hby at_73) (by decide) (by decide) ?_
    exact Wq.ret X43 (BodyLoose.notSynchronized Bd) (rv := some (.int (1 : Int32))) (fun h => by rw [Bd.returns] at h; cases h) (fun _ hr => retN X43 hx (t := .boolean) Bd.returns (by simp) (hb hby at_77) hr) (by decide) (by decide) ⟨rfl, N43⟩
  · skip
    show Wq _ _ _ _ _ (T33.setTop (mkF m 50 #[.val (.int xlaw_1), .val (.int xlaw_2), .val (.int v2), .val (.int m29_3), .val (.int v43), .val (.ref b33), .unset] []))
    refine Ow.iload X33 hx (pc' := 52) (hb hby at_50) rfl ?_
    refine Ow.aload X33 hx (pc' := 54) (hb hby at_52) rfl rfl ?_
    refine Ow.iconst X33 hx (pc' := 55) (hb hby at_54) (z := (0 : Int32)) rfl ?_
    obtain ⟨_, _, ⟨T44, L44, k44, n44⟩, -, X44, ⟨Lc44, hQ44, l44, y44, z44⟩, st44⟩ := Jvm.LawKit.callS X33 hx (y := mt6) hown (mvT hZ (kw6 hw)) (mvT hZ (kw7 hw)) (mvT hZ (kw2 hw)) (mvT hZ (kw8 hw)) (by decide) (backOf (W := 0) (rm_enc4 l Z a0 hw [] v43 b33 h33 n0 Z33 V_b33 g_b33 (by subst hv43; exact own_nn _) (by subst hv43; exact hcs)) hZ (kw8 hw) (kw2 hw) (by decide) (by decide)) (g := (mkF m 55 #[.val (.int xlaw_1), .val (.int xlaw_2), .val (.int v2), .val (.int m29_3), .val (.int v43), .val (.ref b33), .unset] [(.int (0 : Int32)), (.ref b33), (.int v43)])) rfl (by rw [hml]; rfl) (argsL := [(.int v43), (.ref b33), (.int (0 : Int32))]) (rest := []) (lenOf pd5 rfl) rfl (by show 2 * 0 + _ ≤ _; exact Nat.le_of_eq rfl) (hb hby at_55) (fun _ _ => ⟨rfl, e33, (by decide : 1 + 0 ≤ _), (by decide : 5 + 0 ≤ _)⟩)
    dsimp only [Pt.U, Pt.locs, Pt.cells, Pt.slots] at X44 l44 y44 z44 st44 hQ44
    subst l44 y44 z44
    obtain ⟨rfl, Nq44, Kq44, P44_0⟩ := hQ44
    have N44 := Fr.app N32 Nq44
    have K44 : Keep h0 T44.heap [] := K33.trans Kq44 (allS (P := fun x => x ∈ [] ∨ h0.size ≤ x) (Or.inr sz_b33) all0)
    have Z44 : n0 ≤ T44.heap.size := Nat.le_trans Z33 Kq44.1
    have e44 : T44.heap = T44.heap := rfl
    obtain ⟨q45, hq45⟩ : ∃ z, z = ((((((v43.toUInt32 >>> ((8 : Int32) &&& 31).toUInt32).toInt32).toUInt32 >>> ((8 : Int32) &&& 31).toUInt32).toInt32).toInt8.toInt32).toInt8.toInt32) := ⟨_, rfl⟩
    rw [← hq45] at P44_0
    obtain ⟨q46, hq46⟩ : ∃ z, z = ((((v43.toUInt32 >>> ((8 : Int32) &&& 31).toUInt32).toInt32).toInt8.toInt32).toInt8.toInt32) := ⟨_, rfl⟩
    rw [← hq46] at P44_0
    obtain ⟨q47, hq47⟩ : ∃ z, z = ((v43.toInt8.toInt32).toInt8.toInt32) := ⟨_, rfl⟩
    rw [← hq47] at P44_0
    refine Wq.step st44 ?_
    show Wq _ _ _ _ _ (T44.setTop (mkF m 58 #[.val (.int xlaw_1), .val (.int xlaw_2), .val (.int v2), .val (.int m29_3), .val (.int v43), .val (.ref b33), .unset] [(.int (4 : Int32))]))
    show Wq _ _ _ _ _ (T44.setTop (mkF m 58 #[.val (.int xlaw_1), .val (.int xlaw_2), .val (.int v2), .val (.int m29_3), .val (.int v43), .val (.ref b33), .unset] [(.int (4 : Int32))]))
    refine Ow.istore X44 hx (pc' := 60) (hb hby at_58) (l' := #[.val (.int xlaw_1), .val (.int xlaw_2), .val (.int v2), .val (.int m29_3), .val (.int v43), .val (.ref b33), .val (.int (4 : Int32))]) rfl ?_
    refine Ow.aload X44 hx (pc' := 62) (hb hby at_60) rfl rfl ?_
    refine Ow.iconst X44 hx (pc' := 63) (hb hby at_62) (z := (0 : Int32)) rfl ?_
    refine Ow.ldB X44 hx hZ e44 P44_0 (pc' := 64) (hb hby at_63) (j := (0 : Int32)) (i := 0) (v := (.int (-125 : Int32))) (by decide) rfl rfl ?_
    obtain ⟨_, _, ⟨T48, L48, k48, n48⟩, -, X48, ⟨Lc48, hQ48, l48, y48, z48⟩, st48⟩ := Jvm.LawKit.callS X44 hx (y := mt1) hown (mvT hZ (kw0 hw)) (mvT hZ (kw1 hw)) (mvT hZ (kw2 hw)) (mvT hZ (kw3 hw)) (by decide) (backOf (W := 0) (rm_ds l Z a0 hw [] (-125 : Int32) T44.heap n0 Z44 ) hZ (kw3 hw) (kw2 hw) (by decide) (by decide)) (g := (mkF m 64 #[.val (.int xlaw_1), .val (.int xlaw_2), .val (.int v2), .val (.int m29_3), .val (.int v43), .val (.ref b33), .val (.int (4 : Int32))] [(.int (-125 : Int32))])) rfl (by rw [hml]; rfl) (argsL := [(.int (-125 : Int32))]) (rest := []) (lenOf pd4 rfl) rfl (by show 2 * 0 + _ ≤ _; exact Nat.le_of_eq rfl) (hb hby at_64) (fun _ _ => ⟨rfl, e44, (by decide : 1 + 0 ≤ _), (by decide : 5 + 0 ≤ _)⟩)
    dsimp only [Pt.U, Pt.locs, Pt.cells, Pt.slots] at X48 l48 y48 z48 st48 hQ48
    subst l48 y48 z48
    obtain ⟨rfl, Nq48, e48⟩ := hQ48
    have N48 := Fr.app N44 Nq48
    refine Wq.step st48 ?_
    show Wq _ _ _ _ _ (T48.setTop (mkF m 67 #[.val (.int xlaw_1), .val (.int xlaw_2), .val (.int v2), .val (.int m29_3), .val (.int v43), .val (.ref b33), .val (.int (4 : Int32))] [(.int (f_ds (-125 : Int32)))]))
    generalize hv64 : (f_ds (-125 : Int32)) = v64
    show Wq _ _ _ _ _ (T48.setTop (mkF m 67 #[.val (.int xlaw_1), .val (.int xlaw_2), .val (.int v2), .val (.int m29_3), .val (.int v43), .val (.ref b33), .val (.int (4 : Int32))] [(.int v64)]))
    refine Ow.iload X48 hx (pc' := 69) (hb hby at_67) rfl ?_
    refine Ow.icmpNo X48 hx (pc' := 72) (hb hby at_69) (teq (by subst_vars; decide : v64 = (4 : Int32))).2 ?_
    refine Ow.iconst X48 hx (pc' := 73) (hb hby at_72) (z := (1 : Int32)) rfl ?_
    refine Ow.goto X48 hx (pc' := 77) (hb hby at_73) (by decide) (by decide) ?_
    exact Wq.ret X48 (BodyLoose.notSynchronized Bd) (rv := some (.int (1 : Int32))) (fun h => by rw [Bd.returns] at h; cases h) (fun _ hr => retN X48 hx (t := .boolean) Bd.returns (by simp) (hb hby at_77) hr) (by decide) (by decide) ⟨rfl, N48⟩
  · skip
    show Wq _ _ _ _ _ (T33.setTop (mkF m 50 #[.val (.int xlaw_1), .val (.int xlaw_2), .val (.int v2), .val (.int m29_3), .val (.int v43), .val (.ref b33), .unset] []))
    refine Ow.iload X33 hx (pc' := 52) (hb hby at_50) rfl ?_
    refine Ow.aload X33 hx (pc' := 54) (hb hby at_52) rfl rfl ?_
    refine Ow.iconst X33 hx (pc' := 55) (hb hby at_54) (z := (0 : Int32)) rfl ?_
    obtain ⟨_, _, ⟨T49, L49, k49, n49⟩, -, X49, ⟨Lc49, hQ49, l49, y49, z49⟩, st49⟩ := Jvm.LawKit.callS X33 hx (y := mt6) hown (mvT hZ (kw6 hw)) (mvT hZ (kw7 hw)) (mvT hZ (kw2 hw)) (mvT hZ (kw8 hw)) (by decide) (backOf (W := 0) (rm_enc5 l Z a0 hw [] v43 b33 h33 n0 Z33 V_b33 g_b33 (by subst hv43; exact own_nn _) (by subst hv43; exact hcs)) hZ (kw8 hw) (kw2 hw) (by decide) (by decide)) (g := (mkF m 55 #[.val (.int xlaw_1), .val (.int xlaw_2), .val (.int v2), .val (.int m29_3), .val (.int v43), .val (.ref b33), .unset] [(.int (0 : Int32)), (.ref b33), (.int v43)])) rfl (by rw [hml]; rfl) (argsL := [(.int v43), (.ref b33), (.int (0 : Int32))]) (rest := []) (lenOf pd5 rfl) rfl (by show 2 * 0 + _ ≤ _; exact Nat.le_of_eq rfl) (hb hby at_55) (fun _ _ => ⟨rfl, e33, (by decide : 1 + 0 ≤ _), (by decide : 5 + 0 ≤ _)⟩)
    dsimp only [Pt.U, Pt.locs, Pt.cells, Pt.slots] at X49 l49 y49 z49 st49 hQ49
    subst l49 y49 z49
    obtain ⟨rfl, Nq49, Kq49, P49_0⟩ := hQ49
    have N49 := Fr.app N32 Nq49
    have K49 : Keep h0 T49.heap [] := K33.trans Kq49 (allS (P := fun x => x ∈ [] ∨ h0.size ≤ x) (Or.inr sz_b33) all0)
    have Z49 : n0 ≤ T49.heap.size := Nat.le_trans Z33 Kq49.1
    have e49 : T49.heap = T49.heap := rfl
    obtain ⟨q50, hq50⟩ : ∃ z, z = ((((((((v43.toUInt32 >>> ((8 : Int32) &&& 31).toUInt32).toInt32).toUInt32 >>> ((8 : Int32) &&& 31).toUInt32).toInt32).toUInt32 >>> ((8 : Int32) &&& 31).toUInt32).toInt32).toInt8.toInt32).toInt8.toInt32) := ⟨_, rfl⟩
    rw [← hq50] at P49_0
    obtain ⟨q51, hq51⟩ : ∃ z, z = ((((((v43.toUInt32 >>> ((8 : Int32) &&& 31).toUInt32).toInt32).toUInt32 >>> ((8 : Int32) &&& 31).toUInt32).toInt32).toInt8.toInt32).toInt8.toInt32) := ⟨_, rfl⟩
    rw [← hq51] at P49_0
    obtain ⟨q52, hq52⟩ : ∃ z, z = ((((v43.toUInt32 >>> ((8 : Int32) &&& 31).toUInt32).toInt32).toInt8.toInt32).toInt8.toInt32) := ⟨_, rfl⟩
    rw [← hq52] at P49_0
    obtain ⟨q53, hq53⟩ : ∃ z, z = ((v43.toInt8.toInt32).toInt8.toInt32) := ⟨_, rfl⟩
    rw [← hq53] at P49_0
    refine Wq.step st49 ?_
    show Wq _ _ _ _ _ (T49.setTop (mkF m 58 #[.val (.int xlaw_1), .val (.int xlaw_2), .val (.int v2), .val (.int m29_3), .val (.int v43), .val (.ref b33), .unset] [(.int (5 : Int32))]))
    show Wq _ _ _ _ _ (T49.setTop (mkF m 58 #[.val (.int xlaw_1), .val (.int xlaw_2), .val (.int v2), .val (.int m29_3), .val (.int v43), .val (.ref b33), .unset] [(.int (5 : Int32))]))
    refine Ow.istore X49 hx (pc' := 60) (hb hby at_58) (l' := #[.val (.int xlaw_1), .val (.int xlaw_2), .val (.int v2), .val (.int m29_3), .val (.int v43), .val (.ref b33), .val (.int (5 : Int32))]) rfl ?_
    refine Ow.aload X49 hx (pc' := 62) (hb hby at_60) rfl rfl ?_
    refine Ow.iconst X49 hx (pc' := 63) (hb hby at_62) (z := (0 : Int32)) rfl ?_
    refine Ow.ldB X49 hx hZ e49 P49_0 (pc' := 64) (hb hby at_63) (j := (0 : Int32)) (i := 0) (v := (.int (-124 : Int32))) (by decide) rfl rfl ?_
    obtain ⟨_, _, ⟨T54, L54, k54, n54⟩, -, X54, ⟨Lc54, hQ54, l54, y54, z54⟩, st54⟩ := Jvm.LawKit.callS X49 hx (y := mt1) hown (mvT hZ (kw0 hw)) (mvT hZ (kw1 hw)) (mvT hZ (kw2 hw)) (mvT hZ (kw3 hw)) (by decide) (backOf (W := 0) (rm_ds l Z a0 hw [] (-124 : Int32) T49.heap n0 Z49 ) hZ (kw3 hw) (kw2 hw) (by decide) (by decide)) (g := (mkF m 64 #[.val (.int xlaw_1), .val (.int xlaw_2), .val (.int v2), .val (.int m29_3), .val (.int v43), .val (.ref b33), .val (.int (5 : Int32))] [(.int (-124 : Int32))])) rfl (by rw [hml]; rfl) (argsL := [(.int (-124 : Int32))]) (rest := []) (lenOf pd4 rfl) rfl (by show 2 * 0 + _ ≤ _; exact Nat.le_of_eq rfl) (hb hby at_64) (fun _ _ => ⟨rfl, e49, (by decide : 1 + 0 ≤ _), (by decide : 5 + 0 ≤ _)⟩)
    dsimp only [Pt.U, Pt.locs, Pt.cells, Pt.slots] at X54 l54 y54 z54 st54 hQ54
    subst l54 y54 z54
    obtain ⟨rfl, Nq54, e54⟩ := hQ54
    have N54 := Fr.app N49 Nq54
    refine Wq.step st54 ?_
    show Wq _ _ _ _ _ (T54.setTop (mkF m 67 #[.val (.int xlaw_1), .val (.int xlaw_2), .val (.int v2), .val (.int m29_3), .val (.int v43), .val (.ref b33), .val (.int (5 : Int32))] [(.int (f_ds (-124 : Int32)))]))
    generalize hv64 : (f_ds (-124 : Int32)) = v64
    show Wq _ _ _ _ _ (T54.setTop (mkF m 67 #[.val (.int xlaw_1), .val (.int xlaw_2), .val (.int v2), .val (.int m29_3), .val (.int v43), .val (.ref b33), .val (.int (5 : Int32))] [(.int v64)]))
    refine Ow.iload X54 hx (pc' := 69) (hb hby at_67) rfl ?_
    refine Ow.icmpNo X54 hx (pc' := 72) (hb hby at_69) (teq (by subst_vars; decide : v64 = (5 : Int32))).2 ?_
    refine Ow.iconst X54 hx (pc' := 73) (hb hby at_72) (z := (1 : Int32)) rfl ?_
    refine Ow.goto X54 hx (pc' := 77) (hb hby at_73) (by decide) (by decide) ?_
    exact Wq.ret X54 (BodyLoose.notSynchronized Bd) (rv := some (.int (1 : Int32))) (fun h => by rw [Bd.returns] at h; cases h) (fun _ hr => retN X54 hx (t := .boolean) Bd.returns (by simp) (hb hby at_77) hr) (by decide) (by decide) ⟨rfl, N54⟩
set_option maxRecDepth 65536 in
set_option maxHeartbeats 40000000 in
theorem comes_1 {Post : Tables → Env → Array Value → State → Outcome → State → Prop} (hpost : ∀ tb e args s v u, (limb_1_1.after args s (.returned v) u = true ∧ limb_1_2.after args s (.returned v) u = true ∧ True) → FrameEnd s (.returned v) u (Jvm.fieldLocs frame_1_writes args s ++ Jvm.arrayLocs frame_1_arrays args s ++ Jvm.staticLocs frame_1_statics s) 16 128 → Post tb e args s (.returned v) u) :
    ArmFor flags0 classFile x code maxLocals ret World_1 tables_1 room_1 Calls_1 rest_1 Pre_1 Post := by
  intro l hfl _ _ p e ha hc hk s m args below hf hA hF happ hP
  obtain ⟨hcalls, hrest, hpre⟩ := hP
  obtain ⟨-, -, -, hnamed, -, -, -, hat⟩ := (Spec.applies_iff hf).mp happ
  obtain ⟨hg, hn⟩ := and_e (Cond.before_iff.mp (show (Jvm.Cond.and given_1 narrow_1).before args s = true from hpre))
  obtain ⟨hg1, hg2⟩ := and_e hg
  obtain ⟨ha0, hb0⟩ := and_e hg2
  obtain ⟨w0, w1, rfl⟩ : ∃ w0 w1 : Value, args = #[w0, w1] := by
    have hs : args.size = 2 := by simpa [Cond.value, given_1] using hg1
    obtain ⟨L⟩ := args
    match L, hs with
    | [w0, w1], _ => exact ⟨w0, w1, rfl⟩
  have hw := fun d (hd : d ∈ tables_1) => atoms_spec (ws := Jvm.Cond.code x code maxLocals ret :: tables_1) hat d (List.mem_cons_of_mem _ hd)
  have hfit : Fit s := fun {y c} hc i hi => by
    obtain ⟨ha, rfl⟩ := Array.getElem?_eq_some_iff.mp hc
    have q := List.all_eq_true.mp ((Array.all_eq_true_iff_forall_mem.mp hF) _ (Array.getElem_mem ha)) i (List.mem_range.mpr hi)
    simpa [Array.getElem?_eq_getElem hi] using q
  obtain ⟨i0, ei0⟩ := is_v ha0
  obtain rfl : w0 = (.int i0) := Option.some.inj ei0
  obtain ⟨i1, ei1⟩ := is_v hb0
  obtain rfl : w1 = (.int i1) := Option.some.inj ei1
  obtain ⟨n, o, h1, h2, h3, _, L, rfl, ⟨rfl, N⟩, hq⟩ := rm_law l s _ hw tables_1 i0 i1 s.heap s.heap.size (Nat.le_refl _)  p e ha hc hk s m _ below hf ((Spec.applies_iff_loose hf).mp happ).1 ⟨rfl, State.Warmed39.refl s, rfl⟩ trivial
  refine ⟨n, _, h1, h2, h3, hpost _ _ _ _ _ _ ⟨Cond.after_iff.mpr rfl, Cond.after_iff.mpr (eq_i res_at (Term.int_eval (1)) rfl), trivial⟩ ⟨hq.1, hq.2.1, (hq.2.2.sift fun y hy => Or.inr (N y hy)).mono (by decide) (by decide)⟩⟩
theorem main_1_1 : Claimed_1_1 := comes_1 fun _ _ _ _ _ _ h hF => ⟨h.1, hF⟩
theorem main_1_2 : Claimed_1_2 := comes_1 fun _ _ _ _ _ _ h hF => ⟨h.2.1, hF⟩
end Jvm.Pilot.@@N@@
namespace Jvm.Pilot.@@N@@
open Jvm Jvm.ClassFile Sem Op Lib Jvm.Free Jvm.Stand Jvm.Pilot.@@N@@.Jvm.D
/-! MADE BY PROGRAM (witnessworld.py) out of the Statement's table words and the real class files: 16 classes; the members and pool entries that the words name. The judged class is class 1, her method 1. -/
namespace start1
open Jvm.ClassFile
def u (s : String) : CpInfo := .utf8 (stringToUtf16 s)
/-- a pool by its gaps: so many unusable entries, then the entry; so many at the end -/
def gap : Nat → List CpInfo → List CpInfo
  | 0, r => r
  | n + 1, r => .unusable :: gap n r
def poolList (es : List (Nat × CpInfo)) (last : Nat) : List CpInfo := es.foldr (fun e r => gap e.1 (e.2 :: r)) (gap last [])
def pool (es : List (Nat × CpInfo)) (last : Nat) : Array CpInfo := ⟨poolList es last⟩
def fileOf (pool : Array CpInfo) (this : Nat) (attrs : Array Attribute := #[]) (ms : Array MethodInfo := #[]) (fl : Nat := 33) (sup : Nat := 0) (ifs : Array Nat := #[]) (fds : Array FieldInfo := #[]) : ClassFile where
  minorVersion := 0
  majorVersion := 65
  constantPool := pool
  accessFlags := fl
  thisClass := this
  superClass := sup
  interfaces := ifs
  fields := fds
  methods := ms
  attributes := attrs
def plain (name : String) (sup : Option ClassId) : Class where
  name := name
  kind := .ordinary
  loader := none
  accessFlags := 33
  super := sup
  interfaces := #[]
  cf := none
  fields := #[]
  methods := #[]
  instanceTypes := #[]
  staticTypes := #[]
  resolved := #[]
  callSites := []
  init := .initialized
  statics := none
  mirror := none

def pool0 : Array CpInfo := pool [(5, u "<init>"), (0, u "()V"), (1, .class_ 10), (1, u "java/lang/Object")] 113

def k0m0 : Method := { name := "<init>", desc := "()V", sig := { parameters := [], returnType := none }, accessFlags := 1, code := none }
/-- java/lang/Object -/
def k0 : Class := { plain "java/lang/Object" none with
  accessFlags := 33
  interfaces := #[]
  cf := some (fileOf pool0 8 #[] #[{ accessFlags := 1, nameIndex := 5, descriptorIndex := 6, attributes := #[] }] 33 0 #[] #[])
  fields := #[]
  methods := #[k0m0]
  instanceTypes := #[]
  staticTypes := #[]
  resolved := Array.replicate 124 none
  statics := none }

def pool1 : Array CpInfo := pool [(2, .class_ 4), (1, u "java/lang/Object"), (0, u "<init>"), (0, u "()V"), (0, .methodref 8 9), (0, .class_ 10), (0, .nameAndType 11 12), (0, u "com/example/opwire/opwire/codec/ber/BerLength"), (0, u "decodedSize"), (0, u "(B)I"), (0, .integer 2147483647), (0, .methodref 8 15), (0, .nameAndType 16 17), (0, u "encode"), (0, u "(I[BI)I"), (0, .class_ 19), (0, u "com/example/opwire/opwire/codec/ber/BerLengthDecodedSizePinLaw"), (2, u "law"), (0, u "(II)Z")] 5

def k1m0 : Method := { name := "<init>", desc := "()V", sig := { parameters := [], returnType := none }, accessFlags := 1, code := none }
def k1c1 : Code := { maxStack := 3, maxLocals := 7, code := code, exceptionTable := #[], attributes := #[] }
def k1m1 : Method := { name := "law", desc := "(II)Z", sig := { parameters := [.int, .int], returnType := some .boolean }, accessFlags := 9, code := some k1c1 }
/-- com/example/opwire/opwire/codec/ber/BerLengthDecodedSizePinLaw -/
def k1 : Class := { plain "com/example/opwire/opwire/codec/ber/BerLengthDecodedSizePinLaw" (some 0) with
  accessFlags := 49
  interfaces := #[]
  cf := some (fileOf pool1 18 #[] #[{ accessFlags := 1, nameIndex := 5, descriptorIndex := 6, attributes := #[] }, { accessFlags := 9, nameIndex := 22, descriptorIndex := 23, attributes := #[] }] 49 2 #[] #[])
  fields := #[]
  methods := #[k1m0, k1m1]
  instanceTypes := #[]
  staticTypes := #[]
  resolved := Array.replicate 29 none
  statics := none }

def pool2 : Array CpInfo := pool [(2, .class_ 4), (1, u "java/lang/Object"), (0, u "<init>"), (0, u "()V"), (1, .class_ 10), (1, u "java/util/Objects"), (1, u "(III)I"), (9, .class_ 23), (0, u "com/example/opwire/opwire/codec/ber/BerLength"), (14, .class_ 39), (0, u "java/lang/Integer"), (0, .methodref 38 41), (0, .nameAndType 42 43), (0, u "numberOfLeadingZeros"), (0, u "(I)I"), (0, .methodref 22 45), (0, .nameAndType 46 43), (0, u "encodedSize"), (0, .methodref 8 48), (0, .nameAndType 49 12), (0, u "checkFromIndexSize"), (0, u "INDEFINITE"), (0, u "I"), (2, u "LONG_FORM"), (1, u "MAX_SUBSEQUENT_OCTETS"), (7, u "decodedSize"), (0, u "(B)I"), (0, u "encode"), (0, u "(I[BI)I")] 27

def k2m0 : Method := { name := "<init>", desc := "()V", sig := { parameters := [], returnType := none }, accessFlags := 2, code := none }
def k2c1 : Code := { maxStack := 2, maxLocals := 2, code := prog_4_method_3_code, exceptionTable := #[], attributes := #[] }
def k2m1 : Method := { name := "decodedSize", desc := "(B)I", sig := { parameters := [.byte], returnType := some .int }, accessFlags := 9, code := some k2c1 }
def k2c2 : Code := { maxStack := 3, maxLocals := 2, code := prog_4_method_4_code, exceptionTable := #[], attributes := #[] }
def k2m2 : Method := { name := "encodedSize", desc := "(I)I", sig := { parameters := [.int], returnType := some .int }, accessFlags := 9, code := some k2c2 }
def k2c3 : Code := { maxStack := 5, maxLocals := 6, code := prog_4_method_5_code, exceptionTable := #[], attributes := #[] }
def k2m3 : Method := { name := "encode", desc := "(I[BI)I", sig := { parameters := [.int, (.array .byte), .int], returnType := some .int }, accessFlags := 9, code := some k2c3 }
/-- com/example/opwire/opwire/codec/ber/BerLength -/
def k2 : Class := { plain "com/example/opwire/opwire/codec/ber/BerLength" (some 0) with
  accessFlags := 49
  interfaces := #[]
  cf := some (fileOf pool2 22 #[] #[{ accessFlags := 2, nameIndex := 5, descriptorIndex := 6, attributes := #[] }, { accessFlags := 9, nameIndex := 64, descriptorIndex := 65, attributes := #[] }, { accessFlags := 9, nameIndex := 46, descriptorIndex := 43, attributes := #[] }, { accessFlags := 9, nameIndex := 66, descriptorIndex := 67, attributes := #[] }] 49 2 #[] #[{ accessFlags := 25, nameIndex := 50, descriptorIndex := 51, attributes := #[] }, { accessFlags := 26, nameIndex := 54, descriptorIndex := 51, attributes := #[] }, { accessFlags := 26, nameIndex := 56, descriptorIndex := 51, attributes := #[] }])
  fields := #[{ name := "INDEFINITE", type := .int, accessFlags := 25, slot := 0, constantValue := 0 }, { name := "LONG_FORM", type := .int, accessFlags := 26, slot := 1, constantValue := 0 }, { name := "MAX_SUBSEQUENT_OCTETS", type := .int, accessFlags := 26, slot := 2, constantValue := 0 }]
  methods := #[k2m0, k2m1, k2m2, k2m3]
  instanceTypes := #[]
  staticTypes := #[.int, .int, .int]
  resolved := Array.replicate 95 none
  statics := none }

def pool3 : Array CpInfo := pool [(2, .class_ 4), (1, u "java/lang/Object"), (0, u "<init>"), (0, u "()V"), (35, .class_ 44), (1, u "java/util/Objects"), (61, .class_ 108), (1, u "jdk/internal/util/Preconditions"), (5, u "(IIILjava/util/function/BiFunction;)I"), (0, .methodref 106 116), (0, .nameAndType 117 114), (0, u "checkFromIndexSize"), (57, u "(III)I")] 8

def k3m0 : Method := { name := "<init>", desc := "()V", sig := { parameters := [], returnType := none }, accessFlags := 2, code := none }
def k3c1 : Code := { maxStack := 4, maxLocals := 3, code := jdk_31_method_19_code, exceptionTable := #[], attributes := #[] }
def k3m1 : Method := { name := "checkFromIndexSize", desc := "(III)I", sig := { parameters := [.int, .int, .int], returnType := some .int }, accessFlags := 9, code := some k3c1 }
/-- java/util/Objects -/
def k3 : Class := { plain "java/util/Objects" (some 0) with
  accessFlags := 49
  interfaces := #[]
  cf := some (fileOf pool3 42 #[] #[{ accessFlags := 2, nameIndex := 5, descriptorIndex := 6, attributes := #[] }, { accessFlags := 9, nameIndex := 117, descriptorIndex := 175, attributes := #[] }] 49 2 #[] #[])
  fields := #[]
  methods := #[k3m0, k3m1]
  instanceTypes := #[]
  staticTypes := #[]
  resolved := Array.replicate 184 none
  statics := none }

def pool4 : Array CpInfo := pool [(2, .class_ 4), (1, u "java/lang/Object"), (0, u "<init>"), (0, u "()V"), (17, .class_ 26), (1, u "jdk/internal/util/Preconditions"), (22, u "checkFromIndexSize"), (5, .class_ 56), (0, u "jdk/internal/util/Preconditions$4"), (57, .class_ 115), (0, u "jdk/internal/util/Preconditions$1"), (7, u "SIOOBE_FORMATTER"), (0, u "Ljava/util/function/BiFunction;"), (0, .class_ 126), (0, u "jdk/internal/util/Preconditions$2"), (3, u "AIOOBE_FORMATTER"), (0, .class_ 132), (0, u "jdk/internal/util/Preconditions$3"), (3, u "IOOBE_FORMATTER"), (46, u "(IIILjava/util/function/BiFunction;)I")] 10

def k4m0 : Method := { name := "<init>", desc := "()V", sig := { parameters := [], returnType := none }, accessFlags := 1, code := none }
def k4c1 : Code := { maxStack := 4, maxLocals := 4, code := jdk_41_method_13_code, exceptionTable := #[], attributes := #[] }
def k4m1 : Method := { name := "checkFromIndexSize", desc := "(IIILjava/util/function/BiFunction;)I", sig := { parameters := [.int, .int, .int, (.object "java/util/function/BiFunction")], returnType := some .int }, accessFlags := 9, code := some k4c1 }
/-- jdk/internal/util/Preconditions -/
def k4 : Class := { plain "jdk/internal/util/Preconditions" (some 0) with
  accessFlags := 33
  interfaces := #[]
  cf := some (fileOf pool4 24 #[.nestMembers #[55, 131, 125, 114]] #[{ accessFlags := 1, nameIndex := 5, descriptorIndex := 6, attributes := #[] }, { accessFlags := 9, nameIndex := 49, descriptorIndex := 183, attributes := #[] }] 33 2 #[] #[{ accessFlags := 25, nameIndex := 123, descriptorIndex := 124, attributes := #[] }, { accessFlags := 25, nameIndex := 130, descriptorIndex := 124, attributes := #[] }, { accessFlags := 25, nameIndex := 136, descriptorIndex := 124, attributes := #[] }])
  fields := #[{ name := "SIOOBE_FORMATTER", type := (.object "java/util/function/BiFunction"), accessFlags := 25, slot := 0, constantValue := 0 }, { name := "AIOOBE_FORMATTER", type := (.object "java/util/function/BiFunction"), accessFlags := 25, slot := 1, constantValue := 0 }, { name := "IOOBE_FORMATTER", type := (.object "java/util/function/BiFunction"), accessFlags := 25, slot := 2, constantValue := 0 }]
  methods := #[k4m0, k4m1]
  instanceTypes := #[]
  staticTypes := #[(.object "java/util/function/BiFunction"), (.object "java/util/function/BiFunction"), (.object "java/util/function/BiFunction")]
  resolved := Array.replicate 194 none
  statics := none }

def pool5 : Array CpInfo := pool [(1, .class_ 2), (0, u "java/io/Serializable"), (0, .class_ 4), (0, u "java/lang/Object")] 2

/-- java/io/Serializable -/
def k5 : Class := { plain "java/io/Serializable" (some 0) with
  accessFlags := 1537
  interfaces := #[]
  cf := some (fileOf pool5 1 #[] #[] 1537 3 #[] #[])
  fields := #[]
  methods := #[]
  instanceTypes := #[]
  staticTypes := #[]
  resolved := Array.replicate 7 none
  statics := none }

def pool6 : Array CpInfo := pool [(2, .class_ 4), (1, u "java/lang/Object"), (0, u "<init>"), (0, u "()V"), (1, .class_ 10), (1, u "java/lang/Number"), (2, .class_ 14), (0, u "java/io/Serializable"), (0, u "serialVersionUID"), (0, u "J")] 20

def k6m0 : Method := { name := "<init>", desc := "()V", sig := { parameters := [], returnType := none }, accessFlags := 1, code := none }
/-- java/lang/Number -/
def k6 : Class := { plain "java/lang/Number" (some 0) with
  accessFlags := 1057
  interfaces := #[5]
  cf := some (fileOf pool6 8 #[] #[{ accessFlags := 1, nameIndex := 5, descriptorIndex := 6, attributes := #[] }] 1057 2 #[13] #[{ accessFlags := 26, nameIndex := 15, descriptorIndex := 16, attributes := #[] }])
  fields := #[{ name := "serialVersionUID", type := .long, accessFlags := 26, slot := 0, constantValue := 0 }]
  methods := #[k6m0]
  instanceTypes := #[]
  staticTypes := #[.long]
  resolved := Array.replicate 37 none
  statics := none }

def pool7 : Array CpInfo := pool [(1, .class_ 2), (0, u "java/lang/Comparable"), (0, .class_ 4), (0, u "java/lang/Object")] 7

/-- java/lang/Comparable -/
def k7 : Class := { plain "java/lang/Comparable" (some 0) with
  accessFlags := 1537
  interfaces := #[]
  cf := some (fileOf pool7 1 #[] #[] 1537 3 #[] #[])
  fields := #[]
  methods := #[]
  instanceTypes := #[]
  staticTypes := #[]
  resolved := Array.replicate 12 none
  statics := none }

def pool8 : Array CpInfo := pool [(1, .class_ 2), (0, u "java/lang/constant/Constable"), (0, .class_ 4), (0, u "java/lang/Object")] 6

/-- java/lang/constant/Constable -/
def k8 : Class := { plain "java/lang/constant/Constable" (some 0) with
  accessFlags := 1537
  interfaces := #[]
  cf := some (fileOf pool8 1 #[] #[] 1537 3 #[] #[])
  fields := #[]
  methods := #[]
  instanceTypes := #[]
  staticTypes := #[]
  resolved := Array.replicate 11 none
  statics := none }

def pool9 : Array CpInfo := pool [(1, .class_ 2), (0, u "java/lang/constant/ConstantDesc"), (0, .class_ 4), (0, u "java/lang/Object")] 32

/-- java/lang/constant/ConstantDesc -/
def k9 : Class := { plain "java/lang/constant/ConstantDesc" (some 0) with
  accessFlags := 1537
  interfaces := #[]
  cf := some (fileOf pool9 1 #[] #[] 1537 3 #[] #[])
  fields := #[]
  methods := #[]
  instanceTypes := #[]
  staticTypes := #[]
  resolved := Array.replicate 37 none
  statics := none }

def pool10 : Array CpInfo := pool [(1, .class_ 2), (0, u "java/lang/Integer"), (16, u "digits"), (0, u "[C"), (32, u "numberOfLeadingZeros"), (0, u "(I)I"), (30, u "DigitOnes"), (0, u "[B"), (2, u "DigitTens"), (99, .class_ 190), (0, u "java/lang/Integer$IntegerCache"), (3, u "I"), (8, .class_ 204), (0, u "java/lang/Number"), (2, u "value"), (56, .integer 65536), (37, u "TYPE"), (0, u "Ljava/lang/Class;"), (0, .class_ 305), (0, u "java/lang/Comparable"), (0, .class_ 307), (0, u "java/lang/constant/Constable"), (0, .class_ 309), (0, u "java/lang/constant/ConstantDesc"), (0, u "MIN_VALUE"), (1, u "MAX_VALUE"), (3, u "SIZE"), (1, u "BYTES"), (1, u "serialVersionUID"), (0, u "J")] 131

def k10c0 : Code := { maxStack := 3, maxLocals := 2, code := jdk_33_method_47_code, exceptionTable := #[], attributes := #[] }
def k10m0 : Method := { name := "numberOfLeadingZeros", desc := "(I)I", sig := { parameters := [.int], returnType := some .int }, accessFlags := 9, code := some k10c0 }
/-- java/lang/Integer -/
def k10 : Class := { plain "java/lang/Integer" (some 6) with
  accessFlags := 49
  interfaces := #[7, 8, 9]
  cf := some (fileOf pool10 1 #[.nestMembers #[189]] #[{ accessFlags := 9, nameIndex := 53, descriptorIndex := 54, attributes := #[] }] 49 203 #[304, 306, 308] #[{ accessFlags := 25, nameIndex := 310, descriptorIndex := 194, attributes := #[] }, { accessFlags := 25, nameIndex := 312, descriptorIndex := 194, attributes := #[] }, { accessFlags := 25, nameIndex := 302, descriptorIndex := 303, attributes := #[] }, { accessFlags := 24, nameIndex := 19, descriptorIndex := 20, attributes := #[] }, { accessFlags := 24, nameIndex := 89, descriptorIndex := 86, attributes := #[] }, { accessFlags := 24, nameIndex := 85, descriptorIndex := 86, attributes := #[] }, { accessFlags := 18, nameIndex := 207, descriptorIndex := 194, attributes := #[] }, { accessFlags := 25, nameIndex := 316, descriptorIndex := 194, attributes := #[] }, { accessFlags := 25, nameIndex := 318, descriptorIndex := 194, attributes := #[] }, { accessFlags := 26, nameIndex := 320, descriptorIndex := 321, attributes := #[] }])
  fields := #[{ name := "MIN_VALUE", type := .int, accessFlags := 25, slot := 0, constantValue := 0 }, { name := "MAX_VALUE", type := .int, accessFlags := 25, slot := 1, constantValue := 0 }, { name := "TYPE", type := (.object "java/lang/Class"), accessFlags := 25, slot := 2, constantValue := 0 }, { name := "digits", type := (.array .char), accessFlags := 24, slot := 3, constantValue := 0 }, { name := "DigitTens", type := (.array .byte), accessFlags := 24, slot := 4, constantValue := 0 }, { name := "DigitOnes", type := (.array .byte), accessFlags := 24, slot := 5, constantValue := 0 }, { name := "value", type := .int, accessFlags := 18, slot := 0, constantValue := 0 }, { name := "SIZE", type := .int, accessFlags := 25, slot := 6, constantValue := 0 }, { name := "BYTES", type := .int, accessFlags := 25, slot := 7, constantValue := 0 }, { name := "serialVersionUID", type := .long, accessFlags := 26, slot := 8, constantValue := 0 }]
  methods := #[k10m0]
  instanceTypes := #[.int]
  staticTypes := #[.int, .int, (.object "java/lang/Class"), (.array .char), (.array .byte), (.array .byte), .int, .int, .long]
  resolved := Array.replicate 453 none
  statics := none }

def pool11 : Array CpInfo := pool [(1, u "java/lang/Cloneable"), (0, .class_ 1), (0, u "java/lang/Object"), (0, .class_ 3)] 3

/-- java/lang/Cloneable -/
def k11 : Class := { plain "java/lang/Cloneable" (some 0) with
  accessFlags := 1537
  interfaces := #[]
  cf := some (fileOf pool11 2 #[] #[] 1537 4 #[] #[])
  fields := #[]
  methods := #[]
  instanceTypes := #[]
  staticTypes := #[]
  resolved := Array.replicate 8 none
  statics := none }

/-- the primitive byte -/
def k12 : Class := { plain "byte" none with kind := .primitive 'B', accessFlags := 0x411 }
/-- [B -/
def k13 : Class := { plain "[B" (some 0) with kind := .array 12 .byte, interfaces := #[11, 5], accessFlags := 1041 }

/-- the primitive int -/
def k14 : Class := { plain "int" none with kind := .primitive 'I', accessFlags := 0x411 }
/-- [I -/
def k15 : Class := { plain "[I" (some 0) with kind := .array 14 .int, interfaces := #[11, 5], accessFlags := 1041 }

def heap : Heap := #[]
def classes : Array Class := #[k0, k1, k2, k3, k4, k5, k6, k7, k8, k9, k10, k11, k12, k13, k14, k15]
def interned : List (Array UInt16 × Addr) := []
def slotsUsed : Nat := 0
def theMethod : MethodId := ⟨1, 1⟩
def args0 : Array Value := #[.int 5, .int 7]
def aboutOver (below : List Frame) : State where
  vm := { classes := classes, interned := interned.toArray }
  heap := heap
  slotsUsed := slotsUsed
  threads := #[{ frames := .invoking theMethod args0 :: below }]
def below0 : List Frame := [.native { method := ⟨0, 0⟩, args := #[] }]
def about1 : State := aboutOver below0
def p0 : Program := .bare "" "" ""
def e0 : Env := launch0.env 0 0 0
theorem w_frames : about1.frames = Frame.invoking theMethod args0 :: below0 := rfl
set_option maxRecDepth 65536 in
theorem w_args : argsFit about1.vm theMethod args0 = true := by decide +kernel
set_option maxRecDepth 65536 in
theorem w_heap : heapFits about1 = true := by decide +kernel
set_option maxRecDepth 65536 in
theorem w_runnable : about1.curStatus? = some .runnable := by decide +kernel
set_option maxRecDepth 65536 in
theorem w_alone : about1.alone = true := by decide +kernel
set_option maxRecDepth 65536 in
theorem w_named : about1.methodNamed? x = some theMethod := by decide +kernel
set_option maxRecDepth 65536 in
theorem w_hears : about1.hears theMethod below0 = true := by decide +kernel
set_option maxRecDepth 65536 in
theorem w_ripe : about1.ripe theMethod args0 below0 = true := by decide +kernel
theorem w_running : about1.status = .running := rfl
set_option maxRecDepth 65536 in
theorem w_room : about1.hasRoom e0.platform room_1 = true :=
  launch0.hasRoom_least _ room_1 (by decide +kernel) (by decide +kernel) (by decide +kernel) (by decide +kernel) (by decide +kernel) (by decide +kernel)
theorem allAtoms_all (ts : List Jvm.Cond) (a : Array Jvm.Value) (st : Jvm.State) : (allAtoms ts).before a st = ts.all (fun c => c.before a st) := by
  induction ts with
  | nil => rfl
  | cons c t ih =>
    show (Jvm.Cond.and c (allAtoms t)).before a st = _
    rw [Jvm.Cond.before_and, ih, List.all_cons]
def words1 : List Jvm.Cond := Jvm.Cond.code x code maxLocals ret :: tables_1
/-- a 'code' word, met by the world's own term for the bytes: nothing is compared byte by byte -/
theorem code_word {y : MethodName} {bytes : ByteArray} {mx : Nat} {rt : Option FieldType} {a : Array Value} {s : State} {m : MethodId} {meth : Method} {c : Code} (h1 : s.methodNamed? y = some m) (h2 : s.vm.method? m = some meth) (h3 : meth.code = some c) (h4 : c.code = bytes)
    (h5 : (c.maxLocals == mx && c.exceptionTable.isEmpty && decide (c.maxStack ≤ mostOperands) && decide (meth.sig.returnType = rt) && !meth.locks && decide (parseMethodDescriptor y.desc = some meth.sig)) = true) : (Jvm.Cond.code y bytes mx rt).before a s = true := by
  simp only [Bool.and_eq_true, beq_iff_eq, Bool.not_eq_true', decide_eq_true_eq] at h5
  obtain ⟨⟨⟨⟨⟨g1, g2⟩, g3⟩, g4⟩, g5⟩, g6⟩ := h5
  simp [Cond.before, Cond.holds, Cond.value, h1, h2, h3, h4, g1, g2, g3, g4, g5, g6]
def isCode : Jvm.Cond → Bool
  | .code _ _ _ _ => true
  | _ => false
theorem all_split {L : List Jvm.Cond} {P : Jvm.Cond → Bool} (h1 : L.all (fun c => isCode c || P c) = true) (h2 : ∀ c ∈ L.filter isCode, P c = true) : L.all P = true := by
  refine List.all_eq_true.mpr fun c hc => ?_
  have h := List.all_eq_true.mp h1 c hc
  rcases Bool.eq_false_or_eq_true (isCode c) with hi | hi
  · exact h2 c (List.mem_filter.mpr ⟨hc, hi⟩)
  · simpa [hi] using h
set_option maxRecDepth 65536 in
theorem w_c0 : (Jvm.Cond.code x code maxLocals ret).before args0 about1 = true := code_word (m := ⟨1, 1⟩) (meth := k1m1) (c := k1c1) (by decide +kernel) rfl rfl rfl (by decide +kernel)
set_option maxRecDepth 65536 in
theorem w_c1 : (Jvm.Cond.code ({ cls := "com/example/opwire/opwire/codec/ber/BerLength", name := "decodedSize", desc := "(B)I" } : Jvm.MethodName) prog_4_method_3_code (2 : Nat) (Option.some Jvm.ClassFile.FieldType.int)).before args0 about1 = true := code_word (m := ⟨2, 1⟩) (meth := k2m1) (c := k2c1) (by decide +kernel) rfl rfl rfl (by decide +kernel)
set_option maxRecDepth 65536 in
theorem w_c2 : (Jvm.Cond.code ({ cls := "com/example/opwire/opwire/codec/ber/BerLength", name := "encode", desc := "(I[BI)I" } : Jvm.MethodName) prog_4_method_5_code (6 : Nat) (Option.some Jvm.ClassFile.FieldType.int)).before args0 about1 = true := code_word (m := ⟨2, 3⟩) (meth := k2m3) (c := k2c3) (by decide +kernel) rfl rfl rfl (by decide +kernel)
set_option maxRecDepth 65536 in
theorem w_c3 : (Jvm.Cond.code ({ cls := "com/example/opwire/opwire/codec/ber/BerLength", name := "encodedSize", desc := "(I)I" } : Jvm.MethodName) prog_4_method_4_code (2 : Nat) (Option.some Jvm.ClassFile.FieldType.int)).before args0 about1 = true := code_word (m := ⟨2, 2⟩) (meth := k2m2) (c := k2c2) (by decide +kernel) rfl rfl rfl (by decide +kernel)
set_option maxRecDepth 65536 in
theorem w_c4 : (Jvm.Cond.code ({ cls := "java/util/Objects", name := "checkFromIndexSize", desc := "(III)I" } : Jvm.MethodName) jdk_31_method_19_code (3 : Nat) (Option.some Jvm.ClassFile.FieldType.int)).before args0 about1 = true := code_word (m := ⟨3, 1⟩) (meth := k3m1) (c := k3c1) (by decide +kernel) rfl rfl rfl (by decide +kernel)
set_option maxRecDepth 65536 in
theorem w_c5 : (Jvm.Cond.code ({ cls := "jdk/internal/util/Preconditions", name := "checkFromIndexSize", desc := "(IIILjava/util/function/BiFunction;)I" } : Jvm.MethodName) jdk_41_method_13_code (4 : Nat) (Option.some Jvm.ClassFile.FieldType.int)).before args0 about1 = true := code_word (m := ⟨4, 1⟩) (meth := k4m1) (c := k4c1) (by decide +kernel) rfl rfl rfl (by decide +kernel)
set_option maxRecDepth 65536 in
theorem w_c6 : (Jvm.Cond.code ({ cls := "java/lang/Integer", name := "numberOfLeadingZeros", desc := "(I)I" } : Jvm.MethodName) jdk_33_method_47_code (2 : Nat) (Option.some Jvm.ClassFile.FieldType.int)).before args0 about1 = true := code_word (m := ⟨10, 0⟩) (meth := k10m0) (c := k10c0) (by decide +kernel) rfl rfl rfl (by decide +kernel)
def codes1 : List Jvm.Cond := [Jvm.Cond.code x code maxLocals ret, Jvm.Cond.code ({ cls := "com/example/opwire/opwire/codec/ber/BerLength", name := "decodedSize", desc := "(B)I" } : Jvm.MethodName) prog_4_method_3_code (2 : Nat) (Option.some Jvm.ClassFile.FieldType.int), Jvm.Cond.code ({ cls := "com/example/opwire/opwire/codec/ber/BerLength", name := "encode", desc := "(I[BI)I" } : Jvm.MethodName) prog_4_method_5_code (6 : Nat) (Option.some Jvm.ClassFile.FieldType.int), Jvm.Cond.code ({ cls := "com/example/opwire/opwire/codec/ber/BerLength", name := "encodedSize", desc := "(I)I" } : Jvm.MethodName) prog_4_method_4_code (2 : Nat) (Option.some Jvm.ClassFile.FieldType.int), Jvm.Cond.code ({ cls := "java/util/Objects", name := "checkFromIndexSize", desc := "(III)I" } : Jvm.MethodName) jdk_31_method_19_code (3 : Nat) (Option.some Jvm.ClassFile.FieldType.int), Jvm.Cond.code ({ cls := "jdk/internal/util/Preconditions", name := "checkFromIndexSize", desc := "(IIILjava/util/function/BiFunction;)I" } : Jvm.MethodName) jdk_41_method_13_code (4 : Nat) (Option.some Jvm.ClassFile.FieldType.int), Jvm.Cond.code ({ cls := "java/lang/Integer", name := "numberOfLeadingZeros", desc := "(I)I" } : Jvm.MethodName) jdk_33_method_47_code (2 : Nat) (Option.some Jvm.ClassFile.FieldType.int)]
set_option maxRecDepth 65536 in
theorem codes_eq : words1.filter isCode = codes1 := rfl
theorem w_codes : ∀ c ∈ words1.filter isCode, c.before args0 about1 = true := by
  rw [codes_eq]
  intro c hc
  simp only [codes1, List.mem_cons, List.not_mem_nil, or_false] at hc
  rcases hc with rfl | rfl | rfl | rfl | rfl | rfl | rfl
  · exact w_c0
  · exact w_c1
  · exact w_c2
  · exact w_c3
  · exact w_c4
  · exact w_c5
  · exact w_c6
set_option maxRecDepth 65536 in
theorem w_t1 : (words1.take 24).all (fun c => isCode c || c.before args0 about1) = true := by decide +kernel
set_option maxRecDepth 65536 in
theorem w_t2 : (words1.drop 24).all (fun c => isCode c || c.before args0 about1) = true := by decide +kernel
theorem w_tables : (allAtoms (Jvm.Cond.code x code maxLocals ret :: tables_1)).before args0 about1 = true := by
  rw [allAtoms_all]
  show words1.all (fun c => c.before args0 about1) = true
  refine all_split ?_ w_codes
  rw [← List.take_append_drop 24 words1, List.all_append, w_t1, w_t2]
  rfl
set_option maxRecDepth 65536 in
theorem w_case : (Jvm.Cond.and given_1 narrow_1).before args0 about1 = true := by decide +kernel
theorem w_applies : (headSpec (Jvm.Cond.code x code maxLocals ret :: tables_1) room_1).applies x e0.platform about1 = true :=
  (Spec.applies_iff w_frames).mpr ⟨w_running, w_runnable, w_alone, w_named, w_hears, w_ripe, w_room, w_tables⟩
theorem atStart : AtStart classFile x code maxLocals ret World_1 tables_1 room_1 Calls_1 rest_1 Pre_1 launch0 p0 e0 about1 theMethod args0 below0 :=
  ⟨lists_1, trivial, launch0.admits_env _ _ _, launch0.least_env, fairChoices_fair.cas, fairChoices_fair.clock, w_frames, w_args, w_heap, w_applies, trivial, trivial, w_case⟩
end start1
theorem witness_1 : WitnessClaimed_1 := ⟨start1.p0, start1.e0, start1.about1, start1.theMethod, start1.args0, start1.below0, start1.atStart⟩
end Jvm.Pilot.@@N@@
