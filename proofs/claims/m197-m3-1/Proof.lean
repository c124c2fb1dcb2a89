import JvmDerived
import JvmDerived.Pilot.@@N@@Statement
import JvmDerived.Pilot.@@N@@Code
set_option linter.unusedVariables false
set_option linter.unusedSimpArgs false
namespace Jvm.OwnW
open Sem ClassFile Op Lib Jvm.Stand Jvm.Free Jvm.LawKit Jvm.RoadKit
section Base
variable {p : Program} {l : Launch} {e : Env} {R : Room} {s : State} {m : MethodId} {args : Array Value} {below : List Frame} {meth : Method} {c : Code} {T : State} {locs : List Loc} {cells slots : Nat} {Z : State} {h h' : Heap} {a b : Addr} {ty : FieldType} {vs : List Value} {v : Value} {sl : Nat} {ws : List Addr}
variable {Q : Option Value → Heap → List Loc → Prop} {En : Outcome → State → List Loc → Prop} {kc ks : Nat} {U U' : State}
/-- from U the body comes to its end; what it leaves is Q, its frame En -/
def Wq (p : Program) (e : Env) (below : List Frame) (En : Outcome → State → List Loc → Prop) (Q : Option Value → Heap → List Loc → Prop) (U : State) : Prop :=
  ∃ s₂ o, Steps p.tables e below U s₂ ∧ s₂.status = .running ∧ Ended s₂ below o ∧ ∃ v L, o = .returned v ∧ Q v s₂.heap L ∧ En o s₂ L
theorem Wq.step (h1 : ∀ t, Steps p.tables e below U' t → Steps p.tables e below U t) (k : Wq p e below En Q U') : Wq p e below En Q U := by
  obtain ⟨s₂, o, q, r⟩ := k; exact ⟨s₂, o, h1 _ q, r⟩
theorem Wq.steps (h1 : Steps p.tables e below U U') (k : Wq p e below En Q U') : Wq p e below En Q U := by
  obtain ⟨s₂, o, q, r⟩ := k; exact ⟨s₂, o, h1.trans q, r⟩
theorem Wq.by (k1 : Wq p e below En Q U' → Wq p e below En Q U) (k : Wq p e below En Q U') : Wq p e below En Q U := k1 k
theorem Wq.ret {rv : Option Value} {g : JFrame} (X : Stand p l e R s m args below meth c T locs cells slots) (hlk : meth.locks = false) (hv : meth.sig.returnType = none → rv = none)
    (st : ∀ fs, (∀ (f : JFrame) (acts : List Action), f.method = m → f.locked = none → f.entered = [] → (doReturn e (T.setTop f) acts rv).1 = T.setFrames fs) → Steps p.tables e below (T.setTop g) (T.setFrames fs))
    (hc : cells ≤ kc) (hs : slots ≤ ks) (hQ : Q rv T.heap locs) : Wq p e below (fun o t L => FrameEnd s o t L kc ks) Q (T.setTop g) := by
  obtain ⟨fs, hr, hrun, hended, hW, hsame⟩ := X.leave (v := rv) hv hlk
  exact ⟨_, _, st fs hr, hrun, hended, rv, locs, rfl, hQ, ⟨rv, rfl⟩, hW, hsame.mono hc hs⟩
/-- the same for a body that may load a String constant for the first time -/
theorem Wq.retW {rv : Option Value} {g : JFrame} {vm₁ : Vm} {n : Nat} (X : Stand p l e R (s.setVm vm₁) m args below meth c T locs cells slots) (hS : s.Since vm₁ n) (hn : n ≤ T.heap.size) (hlk : meth.locks = false) (hv : meth.sig.returnType = none → rv = none)
    (st : ∀ fs, (∀ (f : JFrame) (acts : List Action), f.method = m → f.locked = none → f.entered = [] → (doReturn e (T.setTop f) acts rv).1 = T.setFrames fs) → Steps p.tables e below (T.setTop g) (T.setFrames fs))
    (hc : cells ≤ kc) (hs : slots ≤ ks) (hQ : Q rv T.heap locs) : Wq p e below (fun o t L => ReturnedEndW s o t L kc ks) Q (T.setTop g) := by
  obtain ⟨fs, hr, hrun, hended, w1, w2, w3, w4⟩ := X.leaveW hS hn (v := rv) hv hlk
  exact ⟨_, _, st fs hr, hrun, hended, rv, locs, rfl, hQ, ⟨rv, rfl⟩, w2, w3, w4.mono hc hs⟩
/-- an array and the whole list of what it holds -/
def Al (Z : State) (h : Heap) (a : Addr) (ty : FieldType) (vs : List Value) : Prop := ∃ cl : Cell, Arr Z h a cl ty ∧ cl.slots.toList = vs
theorem Al.lt (V : Al Z h a ty vs) : a < h.size := by obtain ⟨cl, A, -⟩ := V; exact A.lt
theorem Al.ext (V : Al Z h a ty vs) (E : Ext h h') : Al Z h' a ty vs := by obtain ⟨cl, A, r⟩ := V; exact ⟨cl, A.ext E, r⟩
theorem Al.other (V : Al Z h b ty vs) (W : Wr h h' a sl v) (q : b ≠ a) : Al Z h' b ty vs := by obtain ⟨cl, A, r⟩ := V; exact ⟨cl, A.other W q, r⟩
theorem Al.keep (V : Al Z h a ty vs) (K : Keep h h' ws) (q : a ∉ ws) : Al Z h' a ty vs := by obtain ⟨cl, A, r⟩ := V; exact ⟨cl, ⟨K.2.1 a cl A.1 q, A.2⟩, r⟩
theorem Al.new {cA : ClassId} {n : Int32} {k : Nat} {dv : Value} (A : Arr Z h a (newA cA ty n) ty) (hk : n.toNatClampNeg = k) (hd : defaultValue ty = dv) : Al Z h a ty (List.replicate k dv) := ⟨_, A, by subst hk hd; simp [newA]⟩
theorem Al.set (V : Al Z h a ty vs) (W : Wr h h' a sl v) : Al Z h' a ty (vs.set sl v) := by
  obtain ⟨cl, A, rfl⟩ := V
  exact ⟨_, A.same W, by simp [Cell.setSlot]⟩
theorem Sta.keepN {C n d : String} {v : Value} (F : Sta Z h C n d v) (K : Keep h h' ws) (q : ∀ w ∈ ws, ∀ cell : Cell, h[w]? = some cell → cell.vm.isStatics = false) : Sta Z h' C n d v := by
  obtain ⟨cf, i, k, f, st, cell, h1, h2, h3, h4, h5, h6, h7⟩ := F
  exact ⟨cf, i, k, f, st, cell, h1, h2, h3, h4, K.2.1 _ _ h5 (fun hm => by rw [q st hm cell h5] at h6; cases h6), h6, h7⟩
theorem fldI {t : Term} {C n d : String} {k : Int32} (hx : (Cond.eq (.field t C n d) (.int k)).value args s none s [] = some true) (ev : t.eval args s none [] s = some (.ref a)) : Fld s s.heap a C n d (.int k) := by
  refine Fld.start ?_
  have e1 := fld_at (C := C) (n := n) (dd := d) ev
  obtain ⟨x, y, h1, h2, k1, k2⟩ := cmp_v (Or.inl hx)
  rw [Term.int_eval] at h2
  cases h2
  rw [e1] at h1
  cases x <;> simp only [Kin] at k2 <;> first | (obtain ⟨z, hz⟩ := k2; cases hz) | skip
  have q := gotT (Cond.eq_ints (e1.trans h1) (Term.int_eval k)) hx
  rw [h1, q]
theorem fldJ {t : Term} {C n d : String} {k : Int64} (hx : (Cond.eq (.field t C n d) (.long k)).value args s none s [] = some true) (ev : t.eval args s none [] s = some (.ref a)) : Fld s s.heap a C n d (.long k) := by
  refine Fld.start ?_
  have e1 := fld_at (C := C) (n := n) (dd := d) ev
  obtain ⟨x, y, h1, h2, k1, k2⟩ := cmp_v (Or.inl hx)
  rw [long_at] at h2
  cases h2
  rw [e1] at h1
  cases x <;> simp only [Kin] at k2 <;> first | (obtain ⟨z, hz⟩ := k2; cases hz) | skip
  have q := gotT (eq_L (e1.trans h1) (long_at k)) hx
  rw [h1, q]
theorem Exa.ns {C : String} (F : Exa Z h a C) : ∀ cell : Cell, h[a]? = some cell → cell.vm.isStatics = false := by
  obtain ⟨c1, k, h1, h2, h3, h4, h5⟩ := F
  intro cell hc; cases h1.symm.trans hc; exact h4
theorem Al.ns (V : Al Z h a ty vs) : ∀ cell : Cell, h[a]? = some cell → cell.vm.isStatics = false := by
  obtain ⟨cl, A, -⟩ := V
  intro cell hc; cases A.1.symm.trans hc; exact A.plain
theorem clA (X : Stand p l e R s m args below meth c T locs cells slots) (hx : p.tables.exec = Jvm.exec) (hZ : Z.Warmed39 s.vm) {a0 : Array Value} {own ad : String} {index : Nat} (hown : s.vm.findClass own = some m.cls)
    (w1 : (Cond.methodLink own index ⟨ad, "clone", "()Ljava/lang/Object;"⟩).before a0 Z = true) (w2 : (Cond.sameMethod ad "java/lang/Object" "clone" "()Ljava/lang/Object;").before a0 Z = true) (w3 : (Cond.native ⟨"java/lang/Object", "clone", "()Ljava/lang/Object;"⟩).before a0 Z = true)
    (w4 : (Cond.instanceMethod ⟨"java/lang/Object", "clone", "()Ljava/lang/Object;"⟩).before a0 Z = true) (w5 : (Cond.selects ad ⟨ad, "clone", "()Ljava/lang/Object;"⟩ ⟨"java/lang/Object", "clone", "()Ljava/lang/Object;"⟩).before a0 Z = true) (w6 : (Cond.castable ad "java/lang/Cloneable").before a0 Z = true)
    (eT : T.heap = h) (V : Al Z h a ty vs) (E : Exa Z h a ad) (F : ∀ v ∈ vs, fits ty v = true) {g : JFrame} (hg : g.method = m) (hsize : g.locals.size = c.maxLocals) {rest : List Value} (hst : g.stack = .ref a :: rest) (hd : decode c.code g.pc = .ok (.invokevirtual index, 3))
    (hf : 1 ≤ R.frames) {W cap : Nat} (hW : 2 * g.monitorRoom + (rest.map fun v => v.category).sum ≤ W) (hl : W + 14 ≤ R.locals) (hcap : vs.length ≤ cap) (hc : cells + 1 ≤ R.cells) (hsl : slots + cap ≤ R.slots) :
    ∃ T' h', Stand p l e R s m args below meth c T' locs (cells + 1) (slots + cap) ∧ T'.heap = h' ∧ Ext h h' ∧ Al Z h' h.size ty vs ∧ Exa Z h' h.size ad ∧
      ∀ target, Steps p.tables e below (T'.setTop { g with pc := g.pc + 3, stack := .ref h.size :: rest }) target → Steps p.tables e below (T.setTop g) target := by
  obtain ⟨cl, A, r⟩ := V
  have FC : FitC Z cl := fitC_of A fun i hi v hv => F v (by rw [← r]; exact Array.mem_toList_iff.mpr (Array.mem_of_getElem? hv))
  obtain ⟨T', h', X', e', ex, A', E', st⟩ := cloneA X hx hZ hown w1 w2 w3 w4 w5 w6 eT A E FC hg hsize hst hd hf hW hl (by rw [← Array.length_toList, r]; exact hcap) hc hsl
  exact ⟨T', h', X', e', ex, ⟨_, A', r⟩, E', st⟩
theorem selPriv {a0 : Array Value} {y : MethodName} {k : Nat} (hZ : Z.Warmed39 s.vm) (wi : (Cond.instantiable y.cls k).before a0 Z = true) (wp : (Cond.privateMethod y).before a0 Z = true) (wm : (Cond.instanceMethod y).before a0 Z = true) (hy : y.cls ≠ "java/lang/invoke/MethodHandle" ∧ y.cls ≠ "java/lang/invoke/VarHandle") : (Cond.selects y.cls y y).before args s = true := by
  obtain ⟨c, k, h1, h2, -, h4, -⟩ := Cond.instantiable_spec (mv (args := args) hZ wi)
  simp only [Bool.or_eq_false_iff] at h4
  exact Jvm.Stand.selects_self_of_private h1 h2 h4.1 (Cond.privateMethod_at (mvP hZ wp (args := args))) (mv hZ wm) hy
theorem al_in {cl : Cell} {j : Int32} {i : Nat} (hvs : cl.slots.toList = vs) (hj : ¬ j < 0) (hi : j.toNatClampNeg = i) (hl : i < vs.length) : ¬ (j < 0 ∨ cl.slots.size ≤ j.toNatClampNeg) := by
  subst hvs hi
  rintro (q | q)
  · exact hj q
  · simp only [Array.length_toList] at hl; omega
theorem al_at {cl : Cell} {j : Int32} {i : Nat} (hvs : cl.slots.toList = vs) (hi : j.toNatClampNeg = i) (hv : vs[i]? = some v) : cl.slots[j.toNatClampNeg]? = some v := by
  subst hvs hi; simpa using hv
theorem al_lt {i : Nat} (hv : vs[i]? = some v) : i < vs.length := (List.getElem?_eq_some_iff.mp hv).1
theorem ldI (X : Stand p l e R s m args below meth c T locs cells slots) (hx : p.tables.exec = Jvm.exec) (hZ : Z.Warmed39 s.vm) (eT : T.heap = h) (V : Al Z h a .int vs) {j : Int32} {i : Nat} (hj : ¬ j < 0) (hi : j.toNatClampNeg = i) (hv : vs[i]? = some v) {g : JFrame} (hg : g.method = m) {rest : List Value} (hs : g.stack = .int j :: .ref a :: rest) (hd : decode c.code g.pc = .ok (.iaload, 1)) {target : State}
    (k : Steps p.tables e below (T.setTop { g with pc := g.pc + 1, stack := v :: rest }) target) : Steps p.tables e below (T.setTop g) target := by
  obtain ⟨cl, A, r⟩ := V
  exact X.iaload hx (by rw [eT]; exact A.1) (State.isArrayOf_alike hZ.alike A.2.1) A.2.2 (al_in r hj hi (al_lt hv)) (al_at r hi hv) hg hs hd _ k
theorem ldJ (X : Stand p l e R s m args below meth c T locs cells slots) (hx : p.tables.exec = Jvm.exec) (hZ : Z.Warmed39 s.vm) (eT : T.heap = h) (V : Al Z h a .long vs) {j : Int32} {i : Nat} (hj : ¬ j < 0) (hi : j.toNatClampNeg = i) (hv : vs[i]? = some v) {g : JFrame} (hg : g.method = m) {rest : List Value} (hs : g.stack = .int j :: .ref a :: rest) (hd : decode c.code g.pc = .ok (.laload, 1)) {target : State}
    (k : Steps p.tables e below (T.setTop { g with pc := g.pc + 1, stack := v :: rest }) target) : Steps p.tables e below (T.setTop g) target := by
  obtain ⟨cl, A, r⟩ := V
  exact X.laload hx (by rw [eT]; exact A.1) (State.isArrayOf_alike hZ.alike A.2.1) A.2.2 (al_in r hj hi (al_lt hv)) (al_at r hi hv) hg hs hd _ k
theorem ldC (X : Stand p l e R s m args below meth c T locs cells slots) (hx : p.tables.exec = Jvm.exec) (hZ : Z.Warmed39 s.vm) (eT : T.heap = h) (V : Al Z h a .char vs) {j : Int32} {i : Nat} (hj : ¬ j < 0) (hi : j.toNatClampNeg = i) (hv : vs[i]? = some v) {g : JFrame} (hg : g.method = m) {rest : List Value} (hs : g.stack = .int j :: .ref a :: rest) (hd : decode c.code g.pc = .ok (.caload, 1)) {target : State}
    (k : Steps p.tables e below (T.setTop { g with pc := g.pc + 1, stack := v :: rest }) target) : Steps p.tables e below (T.setTop g) target := by
  obtain ⟨cl, A, r⟩ := V
  exact X.caload hx (by rw [eT]; exact A.1) (State.isArrayOf_alike hZ.alike A.2.1) A.2.2 (al_in r hj hi (al_lt hv)) (al_at r hi hv) hg hs hd _ k
theorem ldB (X : Stand p l e R s m args below meth c T locs cells slots) (hx : p.tables.exec = Jvm.exec) (hZ : Z.Warmed39 s.vm) (eT : T.heap = h) (V : Al Z h a .byte vs) {j : Int32} {i : Nat} (hj : ¬ j < 0) (hi : j.toNatClampNeg = i) (hv : vs[i]? = some v) {g : JFrame} (hg : g.method = m) {rest : List Value} (hs : g.stack = .int j :: .ref a :: rest) (hd : decode c.code g.pc = .ok (.baload, 1)) {target : State}
    (k : Steps p.tables e below (T.setTop { g with pc := g.pc + 1, stack := v :: rest }) target) : Steps p.tables e below (T.setTop g) target := by
  obtain ⟨cl, A, r⟩ := V
  exact X.baloadBytes hx (by rw [eT]; exact A.1) (State.isArrayOf_alike hZ.alike A.2.1) A.2.2 (al_in r hj hi (al_lt hv)) (al_at r hi hv) hg hs hd _ k
theorem ldZ (X : Stand p l e R s m args below meth c T locs cells slots) (hx : p.tables.exec = Jvm.exec) (hZ : Z.Warmed39 s.vm) (eT : T.heap = h) (V : Al Z h a .boolean vs) {j : Int32} {i : Nat} (hj : ¬ j < 0) (hi : j.toNatClampNeg = i) (hv : vs[i]? = some v) {g : JFrame} (hg : g.method = m) {rest : List Value} (hs : g.stack = .int j :: .ref a :: rest) (hd : decode c.code g.pc = .ok (.baload, 1)) {target : State}
    (k : Steps p.tables e below (T.setTop { g with pc := g.pc + 1, stack := v :: rest }) target) : Steps p.tables e below (T.setTop g) target := by
  obtain ⟨cl, A, r⟩ := V
  exact X.baloadBooleans hx (by rw [eT]; exact A.1) (State.isArrayOf_alike hZ.alike A.2.1) A.2.2 (al_in r hj hi (al_lt hv)) (al_at r hi hv) hg hs hd _ k
theorem lenA (X : Stand p l e R s m args below meth c T locs cells slots) (hx : p.tables.exec = Jvm.exec) (hZ : Z.Warmed39 s.vm) (eT : T.heap = h) (V : Al Z h a ty vs) {n : Int32} (hn : vs.length.toInt32 = n) {g : JFrame} (hg : g.method = m) {rest : List Value} (hs : g.stack = .ref a :: rest) (hd : decode c.code g.pc = .ok (.arraylength, 1)) {target : State}
    (k : Steps p.tables e below (T.setTop { g with pc := g.pc + 1, stack := .int n :: rest }) target) : Steps p.tables e below (T.setTop g) target := by
  obtain ⟨cl, A, r⟩ := V
  refine X.arraylength hx (by rw [eT]; exact A.1) (State.isArrayOf_alike hZ.alike A.2.1) hg hs hd _ ?_
  rw [show cl.slots.size.toInt32 = n from by rw [← hn, ← r, Array.length_toList]]
  exact k
theorem asI (X : Stand p l e R s m args below meth c T locs cells slots) (hx : p.tables.exec = Jvm.exec) (hZ : Z.Warmed39 s.vm) (eT : T.heap = h) (V : Al Z h a .int vs) {j : Int32} {i : Nat} {x : Int32} (hj : ¬ j < 0) (hi : j.toNatClampNeg = i) (hl : i < vs.length) {g : JFrame} (hg : g.method = m) {rest : List Value} (hs : g.stack = .int x :: .int j :: .ref a :: rest) (hd : decode c.code g.pc = .ok (.iastore, 1)) :
    ∃ T' h', Stand p l e R s m args below meth c T' (locs ++ [⟨a, i⟩]) cells slots ∧ T'.heap = h' ∧ Wr h h' a i (.int x) ∧ Al Z h' a .int (vs.set i (.int x)) ∧ ∀ target, Steps p.tables e below (T'.setTop { g with pc := g.pc + 1, stack := rest }) target → Steps p.tables e below (T.setTop g) target := by
  have V0 := V
  obtain ⟨cl, A, r⟩ := V
  obtain ⟨T', h', X', e', W, st⟩ := stI X hx hZ eT A (al_in r hj hi hl) hg hs hd
  subst hi
  exact ⟨T', h', X', e', W, V0.set W, st⟩
theorem asJ (X : Stand p l e R s m args below meth c T locs cells slots) (hx : p.tables.exec = Jvm.exec) (hZ : Z.Warmed39 s.vm) (eT : T.heap = h) (V : Al Z h a .long vs) {j : Int32} {i : Nat} {x : Int64} (hj : ¬ j < 0) (hi : j.toNatClampNeg = i) (hl : i < vs.length) {g : JFrame} (hg : g.method = m) {rest : List Value} (hs : g.stack = .long x :: .int j :: .ref a :: rest) (hd : decode c.code g.pc = .ok (.lastore, 1)) :
    ∃ T' h', Stand p l e R s m args below meth c T' (locs ++ [⟨a, i⟩]) cells slots ∧ T'.heap = h' ∧ Wr h h' a i (.long x) ∧ Al Z h' a .long (vs.set i (.long x)) ∧ ∀ target, Steps p.tables e below (T'.setTop { g with pc := g.pc + 1, stack := rest }) target → Steps p.tables e below (T.setTop g) target := by
  have V0 := V
  obtain ⟨cl, A, r⟩ := V
  obtain ⟨T', h', X', e', W, st⟩ := stJ X hx hZ eT A (al_in r hj hi hl) hg hs hd
  subst hi
  exact ⟨T', h', X', e', W, V0.set W, st⟩
theorem asC (X : Stand p l e R s m args below meth c T locs cells slots) (hx : p.tables.exec = Jvm.exec) (hZ : Z.Warmed39 s.vm) (eT : T.heap = h) (V : Al Z h a .char vs) {j : Int32} {i : Nat} {x y : Int32} (hj : ¬ j < 0) (hi : j.toNatClampNeg = i) (hl : i < vs.length) (hy : nar .char x = y) {g : JFrame} (hg : g.method = m) {rest : List Value} (hs : g.stack = .int x :: .int j :: .ref a :: rest) (hd : decode c.code g.pc = .ok (.castore, 1)) :
    ∃ T' h', Stand p l e R s m args below meth c T' (locs ++ [⟨a, i⟩]) cells slots ∧ T'.heap = h' ∧ Wr h h' a i (.int y) ∧ Al Z h' a .char (vs.set i (.int y)) ∧ ∀ target, Steps p.tables e below (T'.setTop { g with pc := g.pc + 1, stack := rest }) target → Steps p.tables e below (T.setTop g) target := by
  have V0 := V
  obtain ⟨cl, A, r⟩ := V
  obtain ⟨T', h', X', e', W, st⟩ := stC X hx hZ eT A (al_in r hj hi hl) hg hs hd
  subst hi hy
  exact ⟨T', h', X', e', W, V0.set W, st⟩
theorem asB (X : Stand p l e R s m args below meth c T locs cells slots) (hx : p.tables.exec = Jvm.exec) (hZ : Z.Warmed39 s.vm) (eT : T.heap = h) (V : Al Z h a .byte vs) {j : Int32} {i : Nat} {x y : Int32} (hj : ¬ j < 0) (hi : j.toNatClampNeg = i) (hl : i < vs.length) (hy : nar .byte x = y) {g : JFrame} (hg : g.method = m) {rest : List Value} (hs : g.stack = .int x :: .int j :: .ref a :: rest) (hd : decode c.code g.pc = .ok (.bastore, 1)) :
    ∃ T' h', Stand p l e R s m args below meth c T' (locs ++ [⟨a, i⟩]) cells slots ∧ T'.heap = h' ∧ Wr h h' a i (.int y) ∧ Al Z h' a .byte (vs.set i (.int y)) ∧ ∀ target, Steps p.tables e below (T'.setTop { g with pc := g.pc + 1, stack := rest }) target → Steps p.tables e below (T.setTop g) target := by
  have V0 := V
  obtain ⟨cl, A, r⟩ := V
  obtain ⟨T', h', X', e', W, st⟩ := stB X hx hZ eT A (al_in r hj hi hl) hg hs hd
  subst hi hy
  exact ⟨T', h', X', e', W, V0.set W, st⟩
theorem asZ (X : Stand p l e R s m args below meth c T locs cells slots) (hx : p.tables.exec = Jvm.exec) (hZ : Z.Warmed39 s.vm) (eT : T.heap = h) (V : Al Z h a .boolean vs) {j : Int32} {i : Nat} {x y : Int32} (hj : ¬ j < 0) (hi : j.toNatClampNeg = i) (hl : i < vs.length) (hy : nar .boolean x = y) {g : JFrame} (hg : g.method = m) {rest : List Value} (hs : g.stack = .int x :: .int j :: .ref a :: rest) (hd : decode c.code g.pc = .ok (.bastore, 1)) :
    ∃ T' h', Stand p l e R s m args below meth c T' (locs ++ [⟨a, i⟩]) cells slots ∧ T'.heap = h' ∧ Wr h h' a i (.int y) ∧ Al Z h' a .boolean (vs.set i (.int y)) ∧ ∀ target, Steps p.tables e below (T'.setTop { g with pc := g.pc + 1, stack := rest }) target → Steps p.tables e below (T.setTop g) target := by
  have V0 := V
  obtain ⟨cl, A, r⟩ := V
  obtain ⟨T', h', X', e', W, st⟩ := stZ X hx hZ eT A (al_in r hj hi hl) hg hs hd
  subst hi hy
  exact ⟨T', h', X', e', W, V0.set W, st⟩
theorem Ow.iloadN (X : Stand p l e R s m args below meth c T locs cells slots) (hx : p.tables.exec = Jvm.exec) {pc : Nat} {ls : Array Slot} {st : List Value} {pc' : Nat} {k : Fin 4} {v : Int32} (hd : decode c.code pc = .ok (.iload_n k, 1)) (hl : ls[k.val]? = some (.val (.int v))) (k : Wq p e below En Q (T.setTop (mkF m pc' ls (.int v :: st)))) (hpc : pc + 1 = pc' := by rfl) : Wq p e below En Q (T.setTop (mkF m pc ls st)) := by subst hpc; exact Wq.step (fun _ q => XS.iloadN X.here hx rfl hd hl q) k
theorem Ow.istoreN (X : Stand p l e R s m args below meth c T locs cells slots) (hx : p.tables.exec = Jvm.exec) {pc : Nat} {ls : Array Slot} {st : List Value} {pc' : Nat} {k : Fin 4} {x : Int32} {l' : Array Slot} (hd : decode c.code pc = .ok (.istore_n k, 1)) (hl : storeLocals ls k.val (.int x) = some l') (k : Wq p e below En Q (T.setTop (mkF m pc' l' st))) (hpc : pc + 1 = pc' := by rfl) : Wq p e below En Q (T.setTop (mkF m pc ls (.int x :: st))) := by subst hpc; exact Wq.step (fun _ q => XS.istoreN X.here hx rfl hd rfl hl q) k
theorem Ow.lloadN (X : Stand p l e R s m args below meth c T locs cells slots) (hx : p.tables.exec = Jvm.exec) {pc : Nat} {ls : Array Slot} {st : List Value} {pc' : Nat} {k : Fin 4} {v : Int64} (hd : decode c.code pc = .ok (.lload_n k, 1)) (hl : ls[k.val]? = some (.val (.long v))) (k : Wq p e below En Q (T.setTop (mkF m pc' ls (.long v :: st)))) (hpc : pc + 1 = pc' := by rfl) : Wq p e below En Q (T.setTop (mkF m pc ls st)) := by subst hpc; exact Wq.step (fun _ q => XS.lloadN X.here hx rfl hd hl q) k
theorem Ow.lstoreN (X : Stand p l e R s m args below meth c T locs cells slots) (hx : p.tables.exec = Jvm.exec) {pc : Nat} {ls : Array Slot} {st : List Value} {pc' : Nat} {k : Fin 4} {x : Int64} {l' : Array Slot} (hd : decode c.code pc = .ok (.lstore_n k, 1)) (hl : storeLocals ls k.val (.long x) = some l') (k : Wq p e below En Q (T.setTop (mkF m pc' l' st))) (hpc : pc + 1 = pc' := by rfl) : Wq p e below En Q (T.setTop (mkF m pc ls (.long x :: st))) := by subst hpc; exact Wq.step (fun _ q => XS.lstoreN X.here hx rfl hd rfl hl q) k
theorem Ow.aloadN (X : Stand p l e R s m args below meth c T locs cells slots) (hx : p.tables.exec = Jvm.exec) {pc : Nat} {ls : Array Slot} {st : List Value} {pc' : Nat} {k : Fin 4} {v : Value} (hd : decode c.code pc = .ok (.aload_n k, 1)) (hl : ls[k.val]? = some (.val v)) (hv : v.isRef = true) (k : Wq p e below En Q (T.setTop (mkF m pc' ls (v :: st)))) (hpc : pc + 1 = pc' := by rfl) : Wq p e below En Q (T.setTop (mkF m pc ls st)) := by subst hpc; exact Wq.step (fun _ q => XS.aloadN X.here hx rfl hd hl hv q) k
theorem Ow.astoreN (X : Stand p l e R s m args below meth c T locs cells slots) (hx : p.tables.exec = Jvm.exec) {pc : Nat} {ls : Array Slot} {st : List Value} {pc' : Nat} {k : Fin 4} {x : Value} {l' : Array Slot} (hd : decode c.code pc = .ok (.astore_n k, 1)) (hv : x.isRef = true) (hl : storeLocals ls k.val x = some l') (k : Wq p e below En Q (T.setTop (mkF m pc' l' st))) (hpc : pc + 1 = pc' := by rfl) : Wq p e below En Q (T.setTop (mkF m pc ls (x :: st))) := by subst hpc; exact Wq.step (fun _ q => XS.astoreN X.here hx rfl hd rfl hv hl q) k
theorem Ow.iload (X : Stand p l e R s m args below meth c T locs cells slots) (hx : p.tables.exec = Jvm.exec) {pc : Nat} {ls : Array Slot} {st : List Value} {pc' : Nat} {k : Nat} {v : Int32} (hd : decode c.code pc = .ok (.iload k, 2)) (hl : ls[k]? = some (.val (.int v))) (k : Wq p e below En Q (T.setTop (mkF m pc' ls (.int v :: st)))) (hpc : pc + 2 = pc' := by rfl) : Wq p e below En Q (T.setTop (mkF m pc ls st)) := by subst hpc; exact Wq.step (fun _ q => XS.iload X.here hx rfl hd hl q) k
theorem Ow.istore (X : Stand p l e R s m args below meth c T locs cells slots) (hx : p.tables.exec = Jvm.exec) {pc : Nat} {ls : Array Slot} {st : List Value} {pc' : Nat} {k : Nat} {x : Int32} {l' : Array Slot} (hd : decode c.code pc = .ok (.istore k, 2)) (hl : storeLocals ls k (.int x) = some l') (k : Wq p e below En Q (T.setTop (mkF m pc' l' st))) (hpc : pc + 2 = pc' := by rfl) : Wq p e below En Q (T.setTop (mkF m pc ls (.int x :: st))) := by subst hpc; exact Wq.step (fun _ q => XS.istore X.here hx rfl hd rfl hl q) k
theorem Ow.lload (X : Stand p l e R s m args below meth c T locs cells slots) (hx : p.tables.exec = Jvm.exec) {pc : Nat} {ls : Array Slot} {st : List Value} {pc' : Nat} {k : Nat} {v : Int64} (hd : decode c.code pc = .ok (.lload k, 2)) (hl : ls[k]? = some (.val (.long v))) (k : Wq p e below En Q (T.setTop (mkF m pc' ls (.long v :: st)))) (hpc : pc + 2 = pc' := by rfl) : Wq p e below En Q (T.setTop (mkF m pc ls st)) := by subst hpc; exact Wq.step (fun _ q => XS.lload X.here hx rfl hd hl q) k
theorem Ow.lstore (X : Stand p l e R s m args below meth c T locs cells slots) (hx : p.tables.exec = Jvm.exec) {pc : Nat} {ls : Array Slot} {st : List Value} {pc' : Nat} {k : Nat} {x : Int64} {l' : Array Slot} (hd : decode c.code pc = .ok (.lstore k, 2)) (hl : storeLocals ls k (.long x) = some l') (k : Wq p e below En Q (T.setTop (mkF m pc' l' st))) (hpc : pc + 2 = pc' := by rfl) : Wq p e below En Q (T.setTop (mkF m pc ls (.long x :: st))) := by subst hpc; exact Wq.step (fun _ q => XS.lstore X.here hx rfl hd rfl hl q) k
theorem Ow.aload (X : Stand p l e R s m args below meth c T locs cells slots) (hx : p.tables.exec = Jvm.exec) {pc : Nat} {ls : Array Slot} {st : List Value} {pc' : Nat} {k : Nat} {v : Value} (hd : decode c.code pc = .ok (.aload k, 2)) (hl : ls[k]? = some (.val v)) (hv : v.isRef = true) (k : Wq p e below En Q (T.setTop (mkF m pc' ls (v :: st)))) (hpc : pc + 2 = pc' := by rfl) : Wq p e below En Q (T.setTop (mkF m pc ls st)) := by subst hpc; exact Wq.step (fun _ q => XS.aload X.here hx rfl hd hl hv q) k
theorem Ow.astore (X : Stand p l e R s m args below meth c T locs cells slots) (hx : p.tables.exec = Jvm.exec) {pc : Nat} {ls : Array Slot} {st : List Value} {pc' : Nat} {k : Nat} {x : Value} {l' : Array Slot} (hd : decode c.code pc = .ok (.astore k, 2)) (hv : x.isRef = true) (hl : storeLocals ls k x = some l') (k : Wq p e below En Q (T.setTop (mkF m pc' l' st))) (hpc : pc + 2 = pc' := by rfl) : Wq p e below En Q (T.setTop (mkF m pc ls (x :: st))) := by subst hpc; exact Wq.step (fun _ q => XS.astore X.here hx rfl hd rfl hv hl q) k
theorem Ow.istoreNS (X : Stand p l e R s m args below meth c T locs cells slots) (hx : p.tables.exec = Jvm.exec) {pc pc' : Nat} {ls : Array Slot} {st : List Value} {k : Fin 4} {x : Int32} {o : Slot} {l' : Array Slot} (hd : decode c.code pc = .ok (.istore_n k, 1)) (hold : ls[k.val]? = some o) (ho : o = .unset ∨ ∃ w, o = .val w ∧ w.category = 1) (hl : ls.setIfInBounds k.val (.val (.int x)) = l') (q : Wq p e below En Q (T.setTop (mkF m pc' l' st))) (hpc : pc + 1 = pc' := by rfl) : Wq p e below En Q (T.setTop (mkF m pc ls (.int x :: st))) := by
  subst hpc hl
  exact Wq.step (fun _ z => XS.istoreN X.here hx rfl hd rfl (XS.store1 hold ho rfl) z) q
theorem Ow.istoreS (X : Stand p l e R s m args below meth c T locs cells slots) (hx : p.tables.exec = Jvm.exec) {pc pc' : Nat} {ls : Array Slot} {st : List Value} {k : Nat} {x : Int32} {o : Slot} {l' : Array Slot} (hd : decode c.code pc = .ok (.istore k, 2)) (hold : ls[k]? = some o) (ho : o = .unset ∨ ∃ w, o = .val w ∧ w.category = 1) (hl : ls.setIfInBounds k (.val (.int x)) = l') (q : Wq p e below En Q (T.setTop (mkF m pc' l' st))) (hpc : pc + 2 = pc' := by rfl) : Wq p e below En Q (T.setTop (mkF m pc ls (.int x :: st))) := by
  subst hpc hl
  exact Wq.step (fun _ z => XS.istore X.here hx rfl hd rfl (XS.store1 hold ho rfl) z) q
theorem Ow.iconst (X : Stand p l e R s m args below meth c T locs cells slots) (hx : p.tables.exec = Jvm.exec) {pc : Nat} {ls : Array Slot} {st : List Value} {pc' : Nat} {i : Int} {z : Int32} (hd : decode c.code pc = .ok (.iconst i, 1)) (hz : Int32.ofInt i = z) (k : Wq p e below En Q (T.setTop (mkF m pc' ls (.int z :: st)))) (hpc : pc + 1 = pc' := by rfl) : Wq p e below En Q (T.setTop (mkF m pc ls st)) := by subst hz hpc; exact Wq.step (fun _ q => XS.iconst X.here hx rfl hd  q) k
theorem Ow.bipush (X : Stand p l e R s m args below meth c T locs cells slots) (hx : p.tables.exec = Jvm.exec) {pc : Nat} {ls : Array Slot} {st : List Value} {pc' : Nat} {i : Int} {z : Int32} (hd : decode c.code pc = .ok (.bipush i, 2)) (hz : (Int8.ofInt i).toInt32 = z) (k : Wq p e below En Q (T.setTop (mkF m pc' ls (.int z :: st)))) (hpc : pc + 2 = pc' := by rfl) : Wq p e below En Q (T.setTop (mkF m pc ls st)) := by subst hz hpc; exact Wq.step (fun _ q => XS.bipush X.here hx rfl hd  q) k
theorem Ow.sipush (X : Stand p l e R s m args below meth c T locs cells slots) (hx : p.tables.exec = Jvm.exec) {pc : Nat} {ls : Array Slot} {st : List Value} {pc' : Nat} {i : Int} {z : Int32} (hd : decode c.code pc = .ok (.sipush i, 3)) (hz : (Int16.ofInt i).toInt32 = z) (k : Wq p e below En Q (T.setTop (mkF m pc' ls (.int z :: st)))) (hpc : pc + 3 = pc' := by rfl) : Wq p e below En Q (T.setTop (mkF m pc ls st)) := by subst hz hpc; exact Wq.step (fun _ q => XS.sipush X.here hx rfl hd  q) k
theorem Ow.lconst (X : Stand p l e R s m args below meth c T locs cells slots) (hx : p.tables.exec = Jvm.exec) {pc : Nat} {ls : Array Slot} {st : List Value} {pc' : Nat} {i : Fin 2} {z : Int64} (hd : decode c.code pc = .ok (.lconst i, 1)) (hz : Int64.ofNat i = z) (k : Wq p e below En Q (T.setTop (mkF m pc' ls (.long z :: st)))) (hpc : pc + 1 = pc' := by rfl) : Wq p e below En Q (T.setTop (mkF m pc ls st)) := by subst hz hpc; exact Wq.step (fun _ q => XS.lconst X.here hx rfl hd  q) k
theorem Ow.aconstNull (X : Stand p l e R s m args below meth c T locs cells slots) (hx : p.tables.exec = Jvm.exec) {pc : Nat} {ls : Array Slot} {st : List Value} {pc' : Nat}  (hd : decode c.code pc = .ok (.aconst_null, 1))  (k : Wq p e below En Q (T.setTop (mkF m pc' ls (.null :: st)))) (hpc : pc + 1 = pc' := by rfl) : Wq p e below En Q (T.setTop (mkF m pc ls st)) := by subst hpc; exact Wq.step (fun _ q => XS.aconstNull X.here hx rfl hd  q) k
theorem Ow.iadd (X : Stand p l e R s m args below meth c T locs cells slots) (hx : p.tables.exec = Jvm.exec) {pc : Nat} {ls : Array Slot} {st : List Value} {pc' : Nat} {x y z : Int32} (hd : decode c.code pc = .ok (.iadd, 1)) (hz : x + y = z) (k : Wq p e below En Q (T.setTop (mkF m pc' ls (.int z :: st)))) (hpc : pc + 1 = pc' := by rfl) : Wq p e below En Q (T.setTop (mkF m pc ls (.int y :: .int x :: st))) := by subst hz hpc; exact Wq.step (fun _ q => XS.iadd X.here hx rfl hd rfl q) k
theorem Ow.ladd (X : Stand p l e R s m args below meth c T locs cells slots) (hx : p.tables.exec = Jvm.exec) {pc : Nat} {ls : Array Slot} {st : List Value} {pc' : Nat} {x y z : Int64} (hd : decode c.code pc = .ok (.ladd, 1)) (hz : x + y = z) (k : Wq p e below En Q (T.setTop (mkF m pc' ls (.long z :: st)))) (hpc : pc + 1 = pc' := by rfl) : Wq p e below En Q (T.setTop (mkF m pc ls (.long y :: .long x :: st))) := by subst hz hpc; exact Wq.step (fun _ q => XS.ladd X.here hx rfl hd rfl q) k
theorem Ow.isub (X : Stand p l e R s m args below meth c T locs cells slots) (hx : p.tables.exec = Jvm.exec) {pc : Nat} {ls : Array Slot} {st : List Value} {pc' : Nat} {x y z : Int32} (hd : decode c.code pc = .ok (.isub, 1)) (hz : x - y = z) (k : Wq p e below En Q (T.setTop (mkF m pc' ls (.int z :: st)))) (hpc : pc + 1 = pc' := by rfl) : Wq p e below En Q (T.setTop (mkF m pc ls (.int y :: .int x :: st))) := by subst hz hpc; exact Wq.step (fun _ q => XS.isub X.here hx rfl hd rfl q) k
theorem Ow.lsub (X : Stand p l e R s m args below meth c T locs cells slots) (hx : p.tables.exec = Jvm.exec) {pc : Nat} {ls : Array Slot} {st : List Value} {pc' : Nat} {x y z : Int64} (hd : decode c.code pc = .ok (.lsub, 1)) (hz : x - y = z) (k : Wq p e below En Q (T.setTop (mkF m pc' ls (.long z :: st)))) (hpc : pc + 1 = pc' := by rfl) : Wq p e below En Q (T.setTop (mkF m pc ls (.long y :: .long x :: st))) := by subst hz hpc; exact Wq.step (fun _ q => XS.lsub X.here hx rfl hd rfl q) k
theorem Ow.imul (X : Stand p l e R s m args below meth c T locs cells slots) (hx : p.tables.exec = Jvm.exec) {pc : Nat} {ls : Array Slot} {st : List Value} {pc' : Nat} {x y z : Int32} (hd : decode c.code pc = .ok (.imul, 1)) (hz : x * y = z) (k : Wq p e below En Q (T.setTop (mkF m pc' ls (.int z :: st)))) (hpc : pc + 1 = pc' := by rfl) : Wq p e below En Q (T.setTop (mkF m pc ls (.int y :: .int x :: st))) := by subst hz hpc; exact Wq.step (fun _ q => XS.imul X.here hx rfl hd rfl q) k
theorem Ow.lmul (X : Stand p l e R s m args below meth c T locs cells slots) (hx : p.tables.exec = Jvm.exec) {pc : Nat} {ls : Array Slot} {st : List Value} {pc' : Nat} {x y z : Int64} (hd : decode c.code pc = .ok (.lmul, 1)) (hz : x * y = z) (k : Wq p e below En Q (T.setTop (mkF m pc' ls (.long z :: st)))) (hpc : pc + 1 = pc' := by rfl) : Wq p e below En Q (T.setTop (mkF m pc ls (.long y :: .long x :: st))) := by subst hz hpc; exact Wq.step (fun _ q => XS.lmul X.here hx rfl hd rfl q) k
theorem Ow.iand (X : Stand p l e R s m args below meth c T locs cells slots) (hx : p.tables.exec = Jvm.exec) {pc : Nat} {ls : Array Slot} {st : List Value} {pc' : Nat} {x y z : Int32} (hd : decode c.code pc = .ok (.iand, 1)) (hz : x &&& y = z) (k : Wq p e below En Q (T.setTop (mkF m pc' ls (.int z :: st)))) (hpc : pc + 1 = pc' := by rfl) : Wq p e below En Q (T.setTop (mkF m pc ls (.int y :: .int x :: st))) := by subst hz hpc; exact Wq.step (fun _ q => XS.iand X.here hx rfl hd rfl q) k
theorem Ow.land (X : Stand p l e R s m args below meth c T locs cells slots) (hx : p.tables.exec = Jvm.exec) {pc : Nat} {ls : Array Slot} {st : List Value} {pc' : Nat} {x y z : Int64} (hd : decode c.code pc = .ok (.land, 1)) (hz : x &&& y = z) (k : Wq p e below En Q (T.setTop (mkF m pc' ls (.long z :: st)))) (hpc : pc + 1 = pc' := by rfl) : Wq p e below En Q (T.setTop (mkF m pc ls (.long y :: .long x :: st))) := by subst hz hpc; exact Wq.step (fun _ q => XS.land X.here hx rfl hd rfl q) k
theorem Ow.ior (X : Stand p l e R s m args below meth c T locs cells slots) (hx : p.tables.exec = Jvm.exec) {pc : Nat} {ls : Array Slot} {st : List Value} {pc' : Nat} {x y z : Int32} (hd : decode c.code pc = .ok (.ior, 1)) (hz : x ||| y = z) (k : Wq p e below En Q (T.setTop (mkF m pc' ls (.int z :: st)))) (hpc : pc + 1 = pc' := by rfl) : Wq p e below En Q (T.setTop (mkF m pc ls (.int y :: .int x :: st))) := by subst hz hpc; exact Wq.step (fun _ q => XS.ior X.here hx rfl hd rfl q) k
theorem Ow.lor (X : Stand p l e R s m args below meth c T locs cells slots) (hx : p.tables.exec = Jvm.exec) {pc : Nat} {ls : Array Slot} {st : List Value} {pc' : Nat} {x y z : Int64} (hd : decode c.code pc = .ok (.lor, 1)) (hz : x ||| y = z) (k : Wq p e below En Q (T.setTop (mkF m pc' ls (.long z :: st)))) (hpc : pc + 1 = pc' := by rfl) : Wq p e below En Q (T.setTop (mkF m pc ls (.long y :: .long x :: st))) := by subst hz hpc; exact Wq.step (fun _ q => XS.lor X.here hx rfl hd rfl q) k
theorem Ow.ixor (X : Stand p l e R s m args below meth c T locs cells slots) (hx : p.tables.exec = Jvm.exec) {pc : Nat} {ls : Array Slot} {st : List Value} {pc' : Nat} {x y z : Int32} (hd : decode c.code pc = .ok (.ixor, 1)) (hz : x ^^^ y = z) (k : Wq p e below En Q (T.setTop (mkF m pc' ls (.int z :: st)))) (hpc : pc + 1 = pc' := by rfl) : Wq p e below En Q (T.setTop (mkF m pc ls (.int y :: .int x :: st))) := by subst hz hpc; exact Wq.step (fun _ q => XS.ixor X.here hx rfl hd rfl q) k
theorem Ow.lxor (X : Stand p l e R s m args below meth c T locs cells slots) (hx : p.tables.exec = Jvm.exec) {pc : Nat} {ls : Array Slot} {st : List Value} {pc' : Nat} {x y z : Int64} (hd : decode c.code pc = .ok (.lxor, 1)) (hz : x ^^^ y = z) (k : Wq p e below En Q (T.setTop (mkF m pc' ls (.long z :: st)))) (hpc : pc + 1 = pc' := by rfl) : Wq p e below En Q (T.setTop (mkF m pc ls (.long y :: .long x :: st))) := by subst hz hpc; exact Wq.step (fun _ q => XS.lxor X.here hx rfl hd rfl q) k
theorem Ow.ineg (X : Stand p l e R s m args below meth c T locs cells slots) (hx : p.tables.exec = Jvm.exec) {pc : Nat} {ls : Array Slot} {st : List Value} {pc' : Nat} {x : Int32} {z : Int32} (hd : decode c.code pc = .ok (.ineg, 1)) (hz : -x = z) (k : Wq p e below En Q (T.setTop (mkF m pc' ls (.int z :: st)))) (hpc : pc + 1 = pc' := by rfl) : Wq p e below En Q (T.setTop (mkF m pc ls (.int x :: st))) := by subst hz hpc; exact Wq.step (fun _ q => XS.ineg X.here hx rfl hd rfl q) k
theorem Ow.lneg (X : Stand p l e R s m args below meth c T locs cells slots) (hx : p.tables.exec = Jvm.exec) {pc : Nat} {ls : Array Slot} {st : List Value} {pc' : Nat} {x : Int64} {z : Int64} (hd : decode c.code pc = .ok (.lneg, 1)) (hz : -x = z) (k : Wq p e below En Q (T.setTop (mkF m pc' ls (.long z :: st)))) (hpc : pc + 1 = pc' := by rfl) : Wq p e below En Q (T.setTop (mkF m pc ls (.long x :: st))) := by subst hz hpc; exact Wq.step (fun _ q => XS.lneg X.here hx rfl hd rfl q) k
theorem Ow.i2l (X : Stand p l e R s m args below meth c T locs cells slots) (hx : p.tables.exec = Jvm.exec) {pc : Nat} {ls : Array Slot} {st : List Value} {pc' : Nat} {x : Int32} {z : Int64} (hd : decode c.code pc = .ok (.i2l, 1)) (hz : x.toInt64 = z) (k : Wq p e below En Q (T.setTop (mkF m pc' ls (.long z :: st)))) (hpc : pc + 1 = pc' := by rfl) : Wq p e below En Q (T.setTop (mkF m pc ls (.int x :: st))) := by subst hz hpc; exact Wq.step (fun _ q => XS.i2l X.here hx rfl hd rfl q) k
theorem Ow.l2i (X : Stand p l e R s m args below meth c T locs cells slots) (hx : p.tables.exec = Jvm.exec) {pc : Nat} {ls : Array Slot} {st : List Value} {pc' : Nat} {x : Int64} {z : Int32} (hd : decode c.code pc = .ok (.l2i, 1)) (hz : x.toInt32 = z) (k : Wq p e below En Q (T.setTop (mkF m pc' ls (.int z :: st)))) (hpc : pc + 1 = pc' := by rfl) : Wq p e below En Q (T.setTop (mkF m pc ls (.long x :: st))) := by subst hz hpc; exact Wq.step (fun _ q => XS.l2i X.here hx rfl hd rfl q) k
theorem Ow.i2b (X : Stand p l e R s m args below meth c T locs cells slots) (hx : p.tables.exec = Jvm.exec) {pc : Nat} {ls : Array Slot} {st : List Value} {pc' : Nat} {x : Int32} {z : Int32} (hd : decode c.code pc = .ok (.i2b, 1)) (hz : x.toInt8.toInt32 = z) (k : Wq p e below En Q (T.setTop (mkF m pc' ls (.int z :: st)))) (hpc : pc + 1 = pc' := by rfl) : Wq p e below En Q (T.setTop (mkF m pc ls (.int x :: st))) := by subst hz hpc; exact Wq.step (fun _ q => XS.i2b X.here hx rfl hd rfl q) k
theorem Ow.i2s (X : Stand p l e R s m args below meth c T locs cells slots) (hx : p.tables.exec = Jvm.exec) {pc : Nat} {ls : Array Slot} {st : List Value} {pc' : Nat} {x : Int32} {z : Int32} (hd : decode c.code pc = .ok (.i2s, 1)) (hz : x.toInt16.toInt32 = z) (k : Wq p e below En Q (T.setTop (mkF m pc' ls (.int z :: st)))) (hpc : pc + 1 = pc' := by rfl) : Wq p e below En Q (T.setTop (mkF m pc ls (.int x :: st))) := by subst hz hpc; exact Wq.step (fun _ q => XS.i2s X.here hx rfl hd rfl q) k
theorem Ow.i2c (X : Stand p l e R s m args below meth c T locs cells slots) (hx : p.tables.exec = Jvm.exec) {pc : Nat} {ls : Array Slot} {st : List Value} {pc' : Nat} {x : Int32} {z : Int32} (hd : decode c.code pc = .ok (.i2c, 1)) (hz : x.toUInt32.toUInt16.toUInt32.toInt32 = z) (k : Wq p e below En Q (T.setTop (mkF m pc' ls (.int z :: st)))) (hpc : pc + 1 = pc' := by rfl) : Wq p e below En Q (T.setTop (mkF m pc ls (.int x :: st))) := by subst hz hpc; exact Wq.step (fun _ q => XS.i2c X.here hx rfl hd rfl q) k
theorem Ow.ishl (X : Stand p l e R s m args below meth c T locs cells slots) (hx : p.tables.exec = Jvm.exec) {pc : Nat} {ls : Array Slot} {st : List Value} {pc' : Nat} {x : Int32} {y : Int32} {z : Int32} (hd : decode c.code pc = .ok (.ishl, 1)) (hz : x <<< (y &&& 31) = z) (k : Wq p e below En Q (T.setTop (mkF m pc' ls (.int z :: st)))) (hpc : pc + 1 = pc' := by rfl) : Wq p e below En Q (T.setTop (mkF m pc ls (.int y :: .int x :: st))) := by subst hz hpc; exact Wq.step (fun _ q => XS.ishl X.here hx rfl hd rfl q) k
theorem Ow.ishr (X : Stand p l e R s m args below meth c T locs cells slots) (hx : p.tables.exec = Jvm.exec) {pc : Nat} {ls : Array Slot} {st : List Value} {pc' : Nat} {x : Int32} {y : Int32} {z : Int32} (hd : decode c.code pc = .ok (.ishr, 1)) (hz : x >>> (y &&& 31) = z) (k : Wq p e below En Q (T.setTop (mkF m pc' ls (.int z :: st)))) (hpc : pc + 1 = pc' := by rfl) : Wq p e below En Q (T.setTop (mkF m pc ls (.int y :: .int x :: st))) := by subst hz hpc; exact Wq.step (fun _ q => XS.ishr X.here hx rfl hd rfl q) k
theorem Ow.iushr (X : Stand p l e R s m args below meth c T locs cells slots) (hx : p.tables.exec = Jvm.exec) {pc : Nat} {ls : Array Slot} {st : List Value} {pc' : Nat} {x : Int32} {y : Int32} {z : Int32} (hd : decode c.code pc = .ok (.iushr, 1)) (hz : (x.toUInt32 >>> (y &&& 31).toUInt32).toInt32 = z) (k : Wq p e below En Q (T.setTop (mkF m pc' ls (.int z :: st)))) (hpc : pc + 1 = pc' := by rfl) : Wq p e below En Q (T.setTop (mkF m pc ls (.int y :: .int x :: st))) := by subst hz hpc; exact Wq.step (fun _ q => XS.iushr X.here hx rfl hd rfl q) k
theorem Ow.lshl (X : Stand p l e R s m args below meth c T locs cells slots) (hx : p.tables.exec = Jvm.exec) {pc : Nat} {ls : Array Slot} {st : List Value} {pc' : Nat} {x : Int64} {y : Int32} {z : Int64} (hd : decode c.code pc = .ok (.lshl, 1)) (hz : x <<< (y &&& 0x3f).toInt64 = z) (k : Wq p e below En Q (T.setTop (mkF m pc' ls (.long z :: st)))) (hpc : pc + 1 = pc' := by rfl) : Wq p e below En Q (T.setTop (mkF m pc ls (.int y :: .long x :: st))) := by subst hz hpc; exact Wq.step (fun _ q => XS.lshl X.here hx rfl hd rfl q) k
theorem Ow.lshr (X : Stand p l e R s m args below meth c T locs cells slots) (hx : p.tables.exec = Jvm.exec) {pc : Nat} {ls : Array Slot} {st : List Value} {pc' : Nat} {x : Int64} {y : Int32} {z : Int64} (hd : decode c.code pc = .ok (.lshr, 1)) (hz : x >>> (y &&& 0x3f).toInt64 = z) (k : Wq p e below En Q (T.setTop (mkF m pc' ls (.long z :: st)))) (hpc : pc + 1 = pc' := by rfl) : Wq p e below En Q (T.setTop (mkF m pc ls (.int y :: .long x :: st))) := by subst hz hpc; exact Wq.step (fun _ q => XS.lshr X.here hx rfl hd rfl q) k
theorem Ow.lushr (X : Stand p l e R s m args below meth c T locs cells slots) (hx : p.tables.exec = Jvm.exec) {pc : Nat} {ls : Array Slot} {st : List Value} {pc' : Nat} {x : Int64} {y : Int32} {z : Int64} (hd : decode c.code pc = .ok (.lushr, 1)) (hz : (x.toUInt64 >>> (y &&& 0x3f).toInt64.toUInt64).toInt64 = z) (k : Wq p e below En Q (T.setTop (mkF m pc' ls (.long z :: st)))) (hpc : pc + 1 = pc' := by rfl) : Wq p e below En Q (T.setTop (mkF m pc ls (.int y :: .long x :: st))) := by subst hz hpc; exact Wq.step (fun _ q => XS.lushr X.here hx rfl hd rfl q) k
theorem Ow.lcmp (X : Stand p l e R s m args below meth c T locs cells slots) (hx : p.tables.exec = Jvm.exec) {pc : Nat} {ls : Array Slot} {st : List Value} {pc' : Nat} {x y : Int64} (hd : decode c.code pc = .ok (.lcmp, 1))  (k : Wq p e below En Q (T.setTop (mkF m pc' ls (.int (lcmpW x y) :: st)))) (hpc : pc + 1 = pc' := by rfl) : Wq p e below En Q (T.setTop (mkF m pc ls (.long y :: .long x :: st))) := by subst hpc; exact Wq.step (fun _ q => XS.lcmp X.here hx rfl hd rfl q) k
theorem Ow.idiv (X : Stand p l e R s m args below meth c T locs cells slots) (hx : p.tables.exec = Jvm.exec) {pc : Nat} {ls : Array Slot} {st : List Value} {pc' : Nat} {x y z : Int32} (hd : decode c.code pc = .ok (.idiv, 1)) (hy : y ≠ 0) (hz : x / y = z) (k : Wq p e below En Q (T.setTop (mkF m pc' ls (.int z :: st)))) (hpc : pc + 1 = pc' := by rfl) : Wq p e below En Q (T.setTop (mkF m pc ls (.int y :: .int x :: st))) := by subst hz hpc; exact Wq.step (fun _ q => XS.idiv X.here hx rfl hd rfl hy q) k
theorem Ow.ldiv (X : Stand p l e R s m args below meth c T locs cells slots) (hx : p.tables.exec = Jvm.exec) {pc : Nat} {ls : Array Slot} {st : List Value} {pc' : Nat} {x y z : Int64} (hd : decode c.code pc = .ok (.ldiv, 1)) (hy : y ≠ 0) (hz : x / y = z) (k : Wq p e below En Q (T.setTop (mkF m pc' ls (.long z :: st)))) (hpc : pc + 1 = pc' := by rfl) : Wq p e below En Q (T.setTop (mkF m pc ls (.long y :: .long x :: st))) := by subst hz hpc; exact Wq.step (fun _ q => XS.ldiv X.here hx rfl hd rfl hy q) k
theorem Ow.irem (X : Stand p l e R s m args below meth c T locs cells slots) (hx : p.tables.exec = Jvm.exec) {pc : Nat} {ls : Array Slot} {st : List Value} {pc' : Nat} {x y z : Int32} (hd : decode c.code pc = .ok (.irem, 1)) (hy : y ≠ 0) (hz : x % y = z) (k : Wq p e below En Q (T.setTop (mkF m pc' ls (.int z :: st)))) (hpc : pc + 1 = pc' := by rfl) : Wq p e below En Q (T.setTop (mkF m pc ls (.int y :: .int x :: st))) := by subst hz hpc; exact Wq.step (fun _ q => iremM X hx rfl hd rfl hy q) k
theorem Ow.lrem (X : Stand p l e R s m args below meth c T locs cells slots) (hx : p.tables.exec = Jvm.exec) {pc : Nat} {ls : Array Slot} {st : List Value} {pc' : Nat} {x y z : Int64} (hd : decode c.code pc = .ok (.lrem, 1)) (hy : y ≠ 0) (hz : x % y = z) (k : Wq p e below En Q (T.setTop (mkF m pc' ls (.long z :: st)))) (hpc : pc + 1 = pc' := by rfl) : Wq p e below En Q (T.setTop (mkF m pc ls (.long y :: .long x :: st))) := by
  rw [← lrem_mod] at hz
  subst hz hpc
  exact Wq.step (fun _ q => XS.lrem X.here hx rfl hd rfl hy q) k
theorem Ow.iinc (X : Stand p l e R s m args below meth c T locs cells slots) (hx : p.tables.exec = Jvm.exec) {pc : Nat} {ls : Array Slot} {st : List Value} {pc' : Nat} {i : Nat} {cst : Int} {x : Int32} {l' : Array Slot} (hd : decode c.code pc = .ok (.iinc i cst, 3)) (hl : ls[i]? = some (.val (.int x))) (hl' : storeLocals ls i (.int (x + Int32.ofInt cst)) = some l') (k : Wq p e below En Q (T.setTop (mkF m pc' l' st))) (hpc : pc + 3 = pc' := by rfl) : Wq p e below En Q (T.setTop (mkF m pc ls st)) := by subst hpc; exact Wq.step (fun _ q => XS.iinc X.here hx rfl hd hl hl' q) k
theorem Ow.dup (X : Stand p l e R s m args below meth c T locs cells slots) (hx : p.tables.exec = Jvm.exec) {pc : Nat} {ls : Array Slot} {st : List Value} {pc' : Nat} {x : Value} (hd : decode c.code pc = .ok (.dup, 1)) (hc : x.category = 1) (k : Wq p e below En Q (T.setTop (mkF m pc' ls (x :: x :: st)))) (hpc : pc + 1 = pc' := by rfl) : Wq p e below En Q (T.setTop (mkF m pc ls (x :: st))) := by subst hpc; exact Wq.step (fun _ q => XS.dup X.here hx rfl hd rfl hc q) k
theorem Ow.pop (X : Stand p l e R s m args below meth c T locs cells slots) (hx : p.tables.exec = Jvm.exec) {pc : Nat} {ls : Array Slot} {st : List Value} {pc' : Nat} {x : Value} (hd : decode c.code pc = .ok (.pop, 1)) (hc : x.category = 1) (k : Wq p e below En Q (T.setTop (mkF m pc' ls st))) (hpc : pc + 1 = pc' := by rfl) : Wq p e below En Q (T.setTop (mkF m pc ls (x :: st))) := by subst hpc; exact Wq.step (fun _ q => XS.pop X.here hx rfl hd rfl hc q) k
theorem Ow.dupX1 (X : Stand p l e R s m args below meth c T locs cells slots) (hx : p.tables.exec = Jvm.exec) {pc : Nat} {ls : Array Slot} {st : List Value} {pc' : Nat} {x y : Value} (hd : decode c.code pc = .ok (.dup_x1, 1)) (hc : x.category = 1) (hc' : y.category = 1) (k : Wq p e below En Q (T.setTop (mkF m pc' ls (x :: y :: x :: st)))) (hpc : pc + 1 = pc' := by rfl) : Wq p e below En Q (T.setTop (mkF m pc ls (x :: y :: st))) := by subst hpc; exact Wq.step (fun _ q => XS.dupX1 X.here hx rfl hd rfl hc hc' q) k
theorem Ow.swap (X : Stand p l e R s m args below meth c T locs cells slots) (hx : p.tables.exec = Jvm.exec) {pc : Nat} {ls : Array Slot} {st : List Value} {pc' : Nat} {x y : Value} (hd : decode c.code pc = .ok (.swap, 1)) (hc : x.category = 1) (hc' : y.category = 1) (k : Wq p e below En Q (T.setTop (mkF m pc' ls (y :: x :: st)))) (hpc : pc + 1 = pc' := by rfl) : Wq p e below En Q (T.setTop (mkF m pc ls (x :: y :: st))) := by subst hpc; exact Wq.step (fun _ q => XS.swap X.here hx rfl hd rfl hc hc' q) k
theorem Ow.dup2 (X : Stand p l e R s m args below meth c T locs cells slots) (hx : p.tables.exec = Jvm.exec) {pc : Nat} {ls : Array Slot} {st : List Value} {pc' : Nat} {x y : Value} (hd : decode c.code pc = .ok (.dup2, 1)) (hc : x.category = 1) (hc' : y.category = 1) (k : Wq p e below En Q (T.setTop (mkF m pc' ls (x :: y :: x :: y :: st)))) (hpc : pc + 1 = pc' := by rfl) : Wq p e below En Q (T.setTop (mkF m pc ls (x :: y :: st))) := by subst hpc; exact Wq.step (fun _ q => Jvm.Free.XT.dup2 X.here hx rfl hd rfl hc hc' q) k
theorem Ow.dup2L (X : Stand p l e R s m args below meth c T locs cells slots) (hx : p.tables.exec = Jvm.exec) {pc : Nat} {ls : Array Slot} {st : List Value} {pc' : Nat} {x : Int64} (hd : decode c.code pc = .ok (.dup2, 1))  (k : Wq p e below En Q (T.setTop (mkF m pc' ls (.long x :: .long x :: st)))) (hpc : pc + 1 = pc' := by rfl) : Wq p e below En Q (T.setTop (mkF m pc ls (.long x :: st))) := by subst hpc; exact Wq.step (fun _ q => Jvm.Free.XT.dup2L X.here hx rfl hd rfl q) k
theorem Ow.goto (X : Stand p l e R s m args below meth c T locs cells slots) (hx : p.tables.exec = Jvm.exec) {pc : Nat} {ls : Array Slot} {st : List Value} {o : Int} {pc' : Nat} (hd : decode c.code pc = .ok (.goto o, 3)) (ho : 0 ≤ (pc : Int) + o) (hp : ((pc : Int) + o).toNat = pc') (k : Wq p e below En Q (T.setTop (mkF m pc' ls st))) : Wq p e below En Q (T.setTop (mkF m pc ls st)) := Wq.step (fun _ q => XS.goto X.here hx rfl rfl hd ho hp q) k
theorem Ow.ifYes (X : Stand p l e R s m args below meth c T locs cells slots) (hx : p.tables.exec = Jvm.exec) {pc : Nat} {ls : Array Slot} {st : List Value} {cd : ClassFile.Cond} {x : Int32} {o : Int} {pc' : Nat} (hd : decode c.code pc = .ok (.ifCond cd o, 3)) (hc : ifCond.holds cd x = true) (ho : 0 ≤ (pc : Int) + o) (hp : ((pc : Int) + o).toNat = pc') (k : Wq p e below En Q (T.setTop (mkF m pc' ls st))) : Wq p e below En Q (T.setTop (mkF m pc ls (.int x :: st))) := Wq.step (fun _ q => XS.ifYes X.here hx rfl rfl hd rfl hc ho hp q) k
theorem Ow.ifNo (X : Stand p l e R s m args below meth c T locs cells slots) (hx : p.tables.exec = Jvm.exec) {pc : Nat} {ls : Array Slot} {st : List Value} {pc' : Nat} {cd : ClassFile.Cond} {x : Int32} {o : Int} (hd : decode c.code pc = .ok (.ifCond cd o, 3)) (hc : ifCond.holds cd x = false) (k : Wq p e below En Q (T.setTop (mkF m pc' ls st))) (hpc : pc + 3 = pc' := by rfl) : Wq p e below En Q (T.setTop (mkF m pc ls (.int x :: st))) := by subst hpc; exact Wq.step (fun _ q => XS.ifNo X.here hx rfl hd rfl hc q) k
theorem Ow.icmpYes (X : Stand p l e R s m args below meth c T locs cells slots) (hx : p.tables.exec = Jvm.exec) {pc : Nat} {ls : Array Slot} {st : List Value} {cd : ClassFile.Cond} {x y : Int32} {o : Int} {pc' : Nat} (hd : decode c.code pc = .ok (.if_icmp cd o, 3)) (hc : if_icmp.holds cd x y = true) (ho : 0 ≤ (pc : Int) + o) (hp : ((pc : Int) + o).toNat = pc') (k : Wq p e below En Q (T.setTop (mkF m pc' ls st))) : Wq p e below En Q (T.setTop (mkF m pc ls (.int y :: .int x :: st))) := Wq.step (fun _ q => XS.icmpYes X.here hx rfl rfl hd rfl hc ho hp q) k
theorem Ow.icmpNo (X : Stand p l e R s m args below meth c T locs cells slots) (hx : p.tables.exec = Jvm.exec) {pc : Nat} {ls : Array Slot} {st : List Value} {pc' : Nat} {cd : ClassFile.Cond} {x y : Int32} {o : Int} (hd : decode c.code pc = .ok (.if_icmp cd o, 3)) (hc : if_icmp.holds cd x y = false) (k : Wq p e below En Q (T.setTop (mkF m pc' ls st))) (hpc : pc + 3 = pc' := by rfl) : Wq p e below En Q (T.setTop (mkF m pc ls (.int y :: .int x :: st))) := by subst hpc; exact Wq.step (fun _ q => XS.icmpNo X.here hx rfl hd rfl hc q) k
theorem Ow.ifnullYes (X : Stand p l e R s m args below meth c T locs cells slots) (hx : p.tables.exec = Jvm.exec) {pc : Nat} {ls : Array Slot} {st : List Value} {o : Int} {pc' : Nat} (hd : decode c.code pc = .ok (.ifnull o, 3)) (ho : 0 ≤ (pc : Int) + o) (hp : ((pc : Int) + o).toNat = pc') (k : Wq p e below En Q (T.setTop (mkF m pc' ls st))) : Wq p e below En Q (T.setTop (mkF m pc ls (.null :: st))) := Wq.step (fun _ q => XS.ifnullYes X.here hx rfl rfl hd rfl ho hp q) k
theorem Ow.ifnullNo (X : Stand p l e R s m args below meth c T locs cells slots) (hx : p.tables.exec = Jvm.exec) {pc : Nat} {ls : Array Slot} {st : List Value} {pc' : Nat} {o : Int} {b : Addr} (hd : decode c.code pc = .ok (.ifnull o, 3))  (k : Wq p e below En Q (T.setTop (mkF m pc' ls st))) (hpc : pc + 3 = pc' := by rfl) : Wq p e below En Q (T.setTop (mkF m pc ls (.ref b :: st))) := by subst hpc; exact Wq.step (fun _ q => XS.ifnullNo X.here hx rfl hd rfl q) k
theorem Ow.ifnonnullYes (X : Stand p l e R s m args below meth c T locs cells slots) (hx : p.tables.exec = Jvm.exec) {pc : Nat} {ls : Array Slot} {st : List Value} {o : Int} {b : Addr} {pc' : Nat} (hd : decode c.code pc = .ok (.ifnonnull o, 3)) (ho : 0 ≤ (pc : Int) + o) (hp : ((pc : Int) + o).toNat = pc') (k : Wq p e below En Q (T.setTop (mkF m pc' ls st))) : Wq p e below En Q (T.setTop (mkF m pc ls (.ref b :: st))) := Wq.step (fun _ q => XS.ifnonnullYes X.here hx rfl rfl hd rfl ho hp q) k
theorem Ow.ifnonnullNo (X : Stand p l e R s m args below meth c T locs cells slots) (hx : p.tables.exec = Jvm.exec) {pc : Nat} {ls : Array Slot} {st : List Value} {pc' : Nat} {o : Int} (hd : decode c.code pc = .ok (.ifnonnull o, 3))  (k : Wq p e below En Q (T.setTop (mkF m pc' ls st))) (hpc : pc + 3 = pc' := by rfl) : Wq p e below En Q (T.setTop (mkF m pc ls (.null :: st))) := by subst hpc; exact Wq.step (fun _ q => XS.ifnonnullNo X.here hx rfl hd rfl q) k
theorem Ow.acmp (X : Stand p l e R s m args below meth c T locs cells slots) (hx : p.tables.exec = Jvm.exec) {pc : Nat} {ls : Array Slot} {st : List Value} {cd : ACond} {x y : Value} {o : Int} {pc' : Nat} {same : Bool} (hd : decode c.code pc = .ok (.if_acmp cd o, 3)) (h1 : x.isRef = true) (h2 : y.isRef = true) (hq : decide (x = y) = same) (ho : 0 ≤ (pc : Int) + o) (hp : pc' = if acV cd same = true then ((pc : Int) + o).toNat else pc + 3) (k : Wq p e below En Q (T.setTop (mkF m pc' ls st))) : Wq p e below En Q (T.setTop (mkF m pc ls (y :: x :: st))) := Wq.step (fun _ q => Jvm.RoadKit.acmp (g := mkF m pc ls (y :: x :: st)) X hx rfl h1 h2 rfl hd rfl hq ho hp q) k
theorem Ow.ldcInt (X : Stand p l e R s m args below meth c T locs cells slots) (hx : p.tables.exec = Jvm.exec) (hZ : Z.Warmed39 s.vm) {a0 : Array Value} {own : String} {index : Nat} {v : Int32} {pc pc' : Nat} {ls : Array Slot} {st : List Value} (hown : s.vm.findClass own = some m.cls) (w : (Cond.constant own index v).before a0 Z = true) (hd : decode c.code pc = .ok (.ldc index, 2)) (k : Wq p e below En Q (T.setTop (mkF m pc' ls (.int v :: st)))) (hpc : pc + 2 = pc' := by rfl) : Wq p e below En Q (T.setTop (mkF m pc ls st)) := by subst hpc; exact Wq.step (fun _ q => X.ldcInt hx hown (mvT hZ w) (g := mkF m pc ls st) rfl hd _ q) k
theorem Ow.ldcwInt (X : Stand p l e R s m args below meth c T locs cells slots) (hx : p.tables.exec = Jvm.exec) (hZ : Z.Warmed39 s.vm) {a0 : Array Value} {own : String} {index : Nat} {v : Int32} {pc pc' : Nat} {ls : Array Slot} {st : List Value} (hown : s.vm.findClass own = some m.cls) (w : (Cond.constant own index v).before a0 Z = true) (hd : decode c.code pc = .ok (.ldc_w index, 3)) (k : Wq p e below En Q (T.setTop (mkF m pc' ls (.int v :: st)))) (hpc : pc + 3 = pc' := by rfl) : Wq p e below En Q (T.setTop (mkF m pc ls st)) := by subst hpc; exact Wq.step (fun _ q => X.ldcwInt hx hown (mvT hZ w) (g := mkF m pc ls st) rfl hd _ q) k
theorem Ow.ldc2Long (X : Stand p l e R s m args below meth c T locs cells slots) (hx : p.tables.exec = Jvm.exec) (hZ : Z.Warmed39 s.vm) {a0 : Array Value} {own : String} {index : Nat} {v : Int64} {pc pc' : Nat} {ls : Array Slot} {st : List Value} (hown : s.vm.findClass own = some m.cls) (w : (Cond.constantLong own index v).before a0 Z = true) (hd : decode c.code pc = .ok (.ldc2_w index, 3)) (k : Wq p e below En Q (T.setTop (mkF m pc' ls (.long v :: st)))) (hpc : pc + 3 = pc' := by rfl) : Wq p e below En Q (T.setTop (mkF m pc ls st)) := by subst hpc; exact Wq.step (fun _ q => X.ldc2Long hx hown (mvT hZ w) (g := mkF m pc ls st) rfl hd _ q) k
theorem Ow.ldI (X : Stand p l e R s m args below meth c T locs cells slots) (hx : p.tables.exec = Jvm.exec) (hZ : Z.Warmed39 s.vm) (eT : T.heap = h) (V : Al Z h a .int vs) {pc pc' : Nat} {ls : Array Slot} {st : List Value} {j : Int32} {i : Nat} (hd : decode c.code pc = .ok (.iaload, 1)) (hj : ¬ j < 0) (hi : j.toNatClampNeg = i) (hv : vs[i]? = some v) (k : Wq p e below En Q (T.setTop (mkF m pc' ls (v :: st)))) (hpc : pc + 1 = pc' := by rfl) : Wq p e below En Q (T.setTop (mkF m pc ls (.int j :: .ref a :: st))) := by subst hpc; exact Wq.step (fun _ q => Jvm.OwnW.ldI X hx hZ eT V hj hi hv (g := mkF m pc ls (.int j :: .ref a :: st)) rfl rfl hd q) k
theorem Ow.ldJ (X : Stand p l e R s m args below meth c T locs cells slots) (hx : p.tables.exec = Jvm.exec) (hZ : Z.Warmed39 s.vm) (eT : T.heap = h) (V : Al Z h a .long vs) {pc pc' : Nat} {ls : Array Slot} {st : List Value} {j : Int32} {i : Nat} (hd : decode c.code pc = .ok (.laload, 1)) (hj : ¬ j < 0) (hi : j.toNatClampNeg = i) (hv : vs[i]? = some v) (k : Wq p e below En Q (T.setTop (mkF m pc' ls (v :: st)))) (hpc : pc + 1 = pc' := by rfl) : Wq p e below En Q (T.setTop (mkF m pc ls (.int j :: .ref a :: st))) := by subst hpc; exact Wq.step (fun _ q => Jvm.OwnW.ldJ X hx hZ eT V hj hi hv (g := mkF m pc ls (.int j :: .ref a :: st)) rfl rfl hd q) k
theorem Ow.ldC (X : Stand p l e R s m args below meth c T locs cells slots) (hx : p.tables.exec = Jvm.exec) (hZ : Z.Warmed39 s.vm) (eT : T.heap = h) (V : Al Z h a .char vs) {pc pc' : Nat} {ls : Array Slot} {st : List Value} {j : Int32} {i : Nat} (hd : decode c.code pc = .ok (.caload, 1)) (hj : ¬ j < 0) (hi : j.toNatClampNeg = i) (hv : vs[i]? = some v) (k : Wq p e below En Q (T.setTop (mkF m pc' ls (v :: st)))) (hpc : pc + 1 = pc' := by rfl) : Wq p e below En Q (T.setTop (mkF m pc ls (.int j :: .ref a :: st))) := by subst hpc; exact Wq.step (fun _ q => Jvm.OwnW.ldC X hx hZ eT V hj hi hv (g := mkF m pc ls (.int j :: .ref a :: st)) rfl rfl hd q) k
theorem Ow.ldB (X : Stand p l e R s m args below meth c T locs cells slots) (hx : p.tables.exec = Jvm.exec) (hZ : Z.Warmed39 s.vm) (eT : T.heap = h) (V : Al Z h a .byte vs) {pc pc' : Nat} {ls : Array Slot} {st : List Value} {j : Int32} {i : Nat} (hd : decode c.code pc = .ok (.baload, 1)) (hj : ¬ j < 0) (hi : j.toNatClampNeg = i) (hv : vs[i]? = some v) (k : Wq p e below En Q (T.setTop (mkF m pc' ls (v :: st)))) (hpc : pc + 1 = pc' := by rfl) : Wq p e below En Q (T.setTop (mkF m pc ls (.int j :: .ref a :: st))) := by subst hpc; exact Wq.step (fun _ q => Jvm.OwnW.ldB X hx hZ eT V hj hi hv (g := mkF m pc ls (.int j :: .ref a :: st)) rfl rfl hd q) k
theorem Ow.ldZ (X : Stand p l e R s m args below meth c T locs cells slots) (hx : p.tables.exec = Jvm.exec) (hZ : Z.Warmed39 s.vm) (eT : T.heap = h) (V : Al Z h a .boolean vs) {pc pc' : Nat} {ls : Array Slot} {st : List Value} {j : Int32} {i : Nat} (hd : decode c.code pc = .ok (.baload, 1)) (hj : ¬ j < 0) (hi : j.toNatClampNeg = i) (hv : vs[i]? = some v) (k : Wq p e below En Q (T.setTop (mkF m pc' ls (v :: st)))) (hpc : pc + 1 = pc' := by rfl) : Wq p e below En Q (T.setTop (mkF m pc ls (.int j :: .ref a :: st))) := by subst hpc; exact Wq.step (fun _ q => Jvm.OwnW.ldZ X hx hZ eT V hj hi hv (g := mkF m pc ls (.int j :: .ref a :: st)) rfl rfl hd q) k
theorem Ow.ldR (X : Stand p l e R s m args below meth c T locs cells slots) (hx : p.tables.exec = Jvm.exec) (hZ : Z.Warmed39 s.vm) (eT : T.heap = h) (V : Al Z h a ty vs) (hty : ty.isReference = true) {pc pc' : Nat} {ls : Array Slot} {st : List Value} {j : Int32} {i : Nat} (hd : decode c.code pc = .ok (.aaload, 1)) (hj : ¬ j < 0) (hi : j.toNatClampNeg = i) (hv : vs[i]? = some v) (k : Wq p e below En Q (T.setTop (mkF m pc' ls (v :: st)))) (hpc : pc + 1 = pc' := by rfl) : Wq p e below En Q (T.setTop (mkF m pc ls (.int j :: .ref a :: st))) := by
  subst hpc
  obtain ⟨cl, A, r⟩ := V
  exact Wq.step (fun _ q => X.aaload hx (by rw [eT]; exact A.1) (State.isArrayOf_alike hZ.alike A.2.1) hty A.2.2 (al_in r hj hi (al_lt hv)) (al_at r hi hv) (g := mkF m pc ls (.int j :: .ref a :: st)) rfl rfl hd _ q) k
theorem Ow.lenA (X : Stand p l e R s m args below meth c T locs cells slots) (hx : p.tables.exec = Jvm.exec) (hZ : Z.Warmed39 s.vm) (eT : T.heap = h) (V : Al Z h a ty vs) {pc pc' : Nat} {ls : Array Slot} {st : List Value} {n : Int32} (hd : decode c.code pc = .ok (.arraylength, 1)) (hn : vs.length.toInt32 = n) (k : Wq p e below En Q (T.setTop (mkF m pc' ls (.int n :: st)))) (hpc : pc + 1 = pc' := by rfl) : Wq p e below En Q (T.setTop (mkF m pc ls (.ref a :: st))) := by subst hpc; exact Wq.step (fun _ q => Jvm.OwnW.lenA X hx hZ eT V hn (g := mkF m pc ls (.ref a :: st)) rfl rfl hd q) k
end Base
end Jvm.OwnW
namespace Jvm.Pilot.@@N@@
open Jvm Jvm.ClassFile Sem Op Lib Jvm.Free Jvm.Stand Jvm.LawKit Jvm.RoadKit Jvm.OwnW Bundle Jvm.Pilot.@@N@@.Jvm.D
theorem kw22 {Z : State} {a0 : Array Value} (hw : ∀ d ∈ tables_1, d.before a0 Z = true) : (Jvm.Cond.initialized "java/lang/String").before a0 Z = true := hw _ (List.mem_of_getElem? (i := 22) rfl)
theorem kw23 {Z : State} {a0 : Array Value} (hw : ∀ d ∈ tables_1, d.before a0 Z = true) : (Jvm.Cond.instantiable "java/lang/String" (4 : Nat)).before a0 Z = true := hw _ (List.mem_of_getElem? (i := 23) rfl)
theorem kw0 {Z : State} {a0 : Array Value} (hw : ∀ d ∈ tables_1, d.before a0 Z = true) : (Jvm.Cond.arrayClass Jvm.ClassFile.FieldType.byte).before a0 Z = true := hw _ (List.mem_of_getElem? (i := 0) rfl)
theorem kw24 {Z : State} {a0 : Array Value} (hw : ∀ d ∈ tables_1, d.before a0 Z = true) : (Jvm.Cond.laysFinal "java/lang/String" "java/lang/String" "value" "[B").before a0 Z = true := hw _ (List.mem_of_getElem? (i := 24) rfl)
theorem kw25 {Z : State} {a0 : Array Value} (hw : ∀ d ∈ tables_1, d.before a0 Z = true) : (Jvm.Cond.laysFinal "java/lang/String" "java/lang/String" "coder" "B").before a0 Z = true := hw _ (List.mem_of_getElem? (i := 25) rfl)
theorem kw26 {Z : State} {a0 : Array Value} (hw : ∀ d ∈ tables_1, d.before a0 Z = true) : (Jvm.Cond.soleField "java/lang/String" "value").before a0 Z = true := hw _ (List.mem_of_getElem? (i := 26) rfl)
theorem kw27 {Z : State} {a0 : Array Value} (hw : ∀ d ∈ tables_1, d.before a0 Z = true) : (Jvm.Cond.soleField "java/lang/String" "coder").before a0 Z = true := hw _ (List.mem_of_getElem? (i := 27) rfl)
theorem own_strs {Z : State} {a0 : Array Value} (hw : ∀ d ∈ tables_1, d.before a0 Z = true) : ∀ a ∈ Bundle.stringAtoms, a.before a0 Z = true := by
  intro d hd
  simp only [Bundle.stringAtoms, List.mem_cons, List.not_mem_nil, or_false] at hd
  rcases hd with rfl | rfl | rfl | rfl | rfl | rfl | rfl
  · exact kw22 hw
  · exact kw23 hw
  · exact kw0 hw
  · exact kw24 hw
  · exact kw25 hw
  · exact kw26 hw
  · exact kw27 hw
theorem own_nar {x y : Int32} (h : (x.toInt8.toInt32) = y) : nar .byte y = y := by
  subst h
  show x.toInt8.toInt32.toInt8.toInt32 = x.toInt8.toInt32
  rw [Int8.toInt8_toInt32]
theorem own_fb {x y : Int32} (h : (x.toInt8.toInt32) = y) : fits .byte (.int y) = true := by
  subst h; exact fits_nar_byte x
theorem d_jdk_31_method_11_0 : decode jdk_31_method_11_code 0 = .ok (.aload_n 0, 1) := by decide +kernel
theorem d_jdk_31_method_11_1 : decode jdk_31_method_11_code 1 = .ok (.ifnonnull 12, 3) := by decide +kernel
theorem d_jdk_31_method_11_13 : decode jdk_31_method_11_code 13 = .ok (.aload_n 0, 1) := by decide +kernel
theorem pn1 : plainName "java/util/Objects" = true := by first | (simp [plainName, overriddenIn]; done) | decide +kernel
theorem ef_rnn (m : MethodId) (arnn_1 : Addr) (arnn_2 : Addr) : entryFrame m #[(.ref arnn_1), (.ref arnn_2)] 2 = mkF m 0 #[.val (.ref arnn_1), .val (.ref arnn_2)] [] := by first | (simp [entryFrame, mkF, argsToLocals, Value.category]; done) | rfl
def Q_rnn (Z : State) (arnn_1 : Addr) (arnn_2 : Addr) (h0 : Heap) (n0 : Nat) (v : Option Value) (h : Heap) (L : List Loc) : Prop := v = some (.ref arnn_1) ∧ Fr n0 L ∧ h = h0
theorem d_jdk_31_method_11_14 : decode jdk_31_method_11_code 14 = .ok (.areturn, 1) := by decide +kernel
abbrev mt1 : MethodName := ⟨"java/util/Objects", "requireNonNull", "(Ljava/lang/Object;Ljava/lang/String;)Ljava/lang/Object;"⟩
set_option maxRecDepth 65536 in
set_option maxHeartbeats 40000000 in
theorem rm_rnn (l : Launch) (Z : State) (a0 : Array Value) (hw : ∀ d ∈ tables_1, d.before a0 Z = true) (ws : List Jvm.Cond) (arnn_1 : Addr) (arnn_2 : Addr) (h0 : Heap) (n0 : Nat) (Z0 : n0 ≤ h0.size)  :
    MetFree l mt1 (head1 (Jvm.Cond.code mt1 jdk_31_method_11_code 2 (some (.object "java/lang/Object")) :: ws) ({ frames := 0, cells := 0, slots := 0, locals := 0 } : Room)) (fun a U => a = #[(.ref arnn_1), (.ref arnn_2)] ∧ Z.Warmed39 U.vm ∧ U.heap = h0) (fun _ _ _ _ _ => True) (fun _ U o U' => ∃ v L, o = .returned v ∧ (Q_rnn Z arnn_1 arnn_2 h0 n0) v U'.heap L ∧ FrameEnd U o U' L ({ frames := 0, cells := 0, slots := 0, locals := 0 } : Room).cells ({ frames := 0, cells := 0, slots := 0, locals := 0 } : Room).slots) := by
  refine MetFree.of_bodySF (plainFor_of_name pn1) hisR ?_
  intro p e s m args below meth c s₁ Bd hml0 hP hK
  obtain ⟨rfl, hZ, hh⟩ := hP
  have hx := Bd.exec
  have hby := Bd.bytes
  have hml : c.maxLocals = 2 := hml0
  have hown : s.vm.findClass "java/util/Objects" = some m.cls := findClass_of_methodNamed Bd.named
  have hnm := (name_of_methodNamed Bd.named Bd.method).1
  have X0 : Stand p l e ({ frames := 0, cells := 0, slots := 0, locals := 0 } : Room) s m #[(.ref arnn_1), (.ref arnn_2)] below meth c s₁ [] 0 0 := Stand.of_body Bd
  have e0 : s₁.heap = h0 := by rw [← hh, Bd.state]; rfl
  have N0 := Fr.nil n0
  refine Wq.step (p := p) (e := e) (below := below) (En := (fun o t L => FrameEnd s o t L ({ frames := 0, cells := 0, slots := 0, locals := 0 } : Room).cells ({ frames := 0, cells := 0, slots := 0, locals := 0 } : Room).slots)) (Q := (Q_rnn Z arnn_1 arnn_2 h0 n0)) (fun t k => castTop (ef_rnn m arnn_1 arnn_2) k) ?_
  show Wq _ _ _ _ _ (s₁.setTop (mkF m 0 #[.val (.ref arnn_1), .val (.ref arnn_2)] []))
  refine Ow.aloadN X0 hx (pc' := 1) (hb hby d_jdk_31_method_11_0) rfl rfl ?_
  refine Ow.ifnonnullYes X0 hx (pc' := 13) (hb hby d_jdk_31_method_11_1) (by decide) (by decide) ?_
  refine Ow.aloadN X0 hx (pc' := 14) (hb hby d_jdk_31_method_11_13) rfl rfl ?_
  exact Wq.ret X0 (BodyLoose.notSynchronized Bd) (rv := some (.ref arnn_1)) (fun h => by rw [Bd.returns] at h; cases h) (fun _ hr => retOut X0 hx Bd.returns rfl (Or.inr (Or.inr (Or.inr (Or.inr ⟨rfl, rfl, rfl⟩)))) (hb hby d_jdk_31_method_11_14) hr) (by decide) (by decide) ⟨rfl, N0, e0⟩
theorem kw18 {Z : State} {a0 : Array Value} (hw : ∀ d ∈ tables_1, d.before a0 Z = true) : (Jvm.Cond.methodLink "com/example/opwire/opwire/codec/tcap/TcapMessage" (1 : Nat) ({ cls := "java/lang/Object", name := "<init>", desc := "()V" } : Jvm.MethodName)).before a0 Z = true := hw _ (List.mem_of_getElem? (i := 18) rfl)
theorem kw19 {Z : State} {a0 : Array Value} (hw : ∀ d ∈ tables_1, d.before a0 Z = true) : (Jvm.Cond.instanceMethod ({ cls := "java/lang/Object", name := "<init>", desc := "()V" } : Jvm.MethodName)).before a0 Z = true := hw _ (List.mem_of_getElem? (i := 19) rfl)
theorem kw20 {Z : State} {a0 : Array Value} (hw : ∀ d ∈ tables_1, d.before a0 Z = true) : (Jvm.Cond.code ({ cls := "java/lang/Object", name := "<init>", desc := "()V" } : Jvm.MethodName) object_method_1_code (1 : Nat) (Option.none : Option Jvm.ClassFile.FieldType)).before a0 Z = true := hw _ (List.mem_of_getElem? (i := 20) rfl)
theorem kw21 {Z : State} {a0 : Array Value} (hw : ∀ d ∈ tables_1, d.before a0 Z = true) : (Jvm.Cond.stringLink "com/example/opwire/opwire/codec/tcap/TcapMessage" (7 : Nat) "unknownElements").before a0 Z = true := hw _ (List.mem_of_getElem? (i := 21) rfl)
theorem kw31 {Z : State} {a0 : Array Value} (hw : ∀ d ∈ tables_1, d.before a0 Z = true) : (Jvm.Cond.code ({ cls := "java/util/Objects", name := "requireNonNull", desc := "(Ljava/lang/Object;Ljava/lang/String;)Ljava/lang/Object;" } : Jvm.MethodName) jdk_31_method_11_code (2 : Nat) (Option.some (Jvm.ClassFile.FieldType.object "java/lang/Object"))).before a0 Z = true := hw _ (List.mem_of_getElem? (i := 31) rfl)
theorem kw30 {Z : State} {a0 : Array Value} (hw : ∀ d ∈ tables_1, d.before a0 Z = true) : (Jvm.Cond.initialized "java/util/Objects").before a0 Z = true := hw _ (List.mem_of_getElem? (i := 30) rfl)
theorem pd1 : parseMethodDescriptor "(Ljava/lang/Object;Ljava/lang/String;)Ljava/lang/Object;" = some ⟨[(.object "java/lang/Object"), (.object "java/lang/String")], some (.object "java/lang/Object")⟩ := by decide +kernel
theorem kw28 {Z : State} {a0 : Array Value} (hw : ∀ d ∈ tables_1, d.before a0 Z = true) : (Jvm.Cond.methodLink "com/example/opwire/opwire/codec/tcap/TcapMessage" (9 : Nat) ({ cls := "java/util/Objects", name := "requireNonNull", desc := "(Ljava/lang/Object;Ljava/lang/String;)Ljava/lang/Object;" } : Jvm.MethodName)).before a0 Z = true := hw _ (List.mem_of_getElem? (i := 28) rfl)
theorem kw29 {Z : State} {a0 : Array Value} (hw : ∀ d ∈ tables_1, d.before a0 Z = true) : (Jvm.Cond.static ({ cls := "java/util/Objects", name := "requireNonNull", desc := "(Ljava/lang/Object;Ljava/lang/String;)Ljava/lang/Object;" } : Jvm.MethodName)).before a0 Z = true := hw _ (List.mem_of_getElem? (i := 29) rfl)
theorem kw32 {Z : State} {a0 : Array Value} (hw : ∀ d ∈ tables_1, d.before a0 Z = true) : (Jvm.Cond.classLink "com/example/opwire/opwire/codec/tcap/TcapMessage" (15 : Nat) "com/example/opwire/opwire/codec/ber/UnknownElements").before a0 Z = true := hw _ (List.mem_of_getElem? (i := 32) rfl)
theorem kw35 {Z : State} {a0 : Array Value} (hw : ∀ d ∈ tables_1, d.before a0 Z = true) : (Jvm.Cond.laysFinal "com/example/opwire/opwire/codec/tcap/Abort" "com/example/opwire/opwire/codec/tcap/TcapMessage" "unknownElements" "Lcom/example/opwire/opwire/codec/ber/UnknownElements;").before a0 Z = true := hw _ (List.mem_of_getElem? (i := 35) rfl)
theorem kw34 {Z : State} {a0 : Array Value} (hw : ∀ d ∈ tables_1, d.before a0 Z = true) : (Jvm.Cond.fieldLink "com/example/opwire/opwire/codec/tcap/TcapMessage" (17 : Nat) "com/example/opwire/opwire/codec/tcap/TcapMessage" "unknownElements" "Lcom/example/opwire/opwire/codec/ber/UnknownElements;").before a0 Z = true := hw _ (List.mem_of_getElem? (i := 34) rfl)
theorem kw2 {Z : State} {a0 : Array Value} (hw : ∀ d ∈ tables_1, d.before a0 Z = true) : (Jvm.Cond.instantiable "com/example/opwire/opwire/codec/tcap/Abort" (4 : Nat)).before a0 Z = true := hw _ (List.mem_of_getElem? (i := 2) rfl)
theorem kw46 {Z : State} {a0 : Array Value} (hw : ∀ d ∈ tables_1, d.before a0 Z = true) : (Jvm.Cond.laysFinal "com/example/opwire/opwire/codec/tcap/Abort" "com/example/opwire/opwire/codec/tcap/Abort" "destinationTransactionId" "[B").before a0 Z = true := hw _ (List.mem_of_getElem? (i := 46) rfl)
theorem kw48 {Z : State} {a0 : Array Value} (hw : ∀ d ∈ tables_1, d.before a0 Z = true) : (Jvm.Cond.laysFinal "com/example/opwire/opwire/codec/tcap/Abort" "com/example/opwire/opwire/codec/tcap/Abort" "pAbortCause" "Ljava/lang/Integer;").before a0 Z = true := hw _ (List.mem_of_getElem? (i := 48) rfl)
theorem kw50 {Z : State} {a0 : Array Value} (hw : ∀ d ∈ tables_1, d.before a0 Z = true) : (Jvm.Cond.laysFinal "com/example/opwire/opwire/codec/tcap/Abort" "com/example/opwire/opwire/codec/tcap/Abort" "userAbortInformation" "[B").before a0 Z = true := hw _ (List.mem_of_getElem? (i := 50) rfl)
theorem d_prog_35_method_1_0 : decode prog_35_method_1_code 0 = .ok (.aload_n 0, 1) := by decide +kernel
theorem d_prog_35_method_1_1 : decode prog_35_method_1_code 1 = .ok (.invokespecial 1, 3) := by decide +kernel
theorem d_prog_35_method_1_4 : decode prog_35_method_1_code 4 = .ok (.aload_n 0, 1) := by decide +kernel
theorem d_prog_35_method_1_5 : decode prog_35_method_1_code 5 = .ok (.aload_n 1, 1) := by decide +kernel
theorem d_prog_35_method_1_6 : decode prog_35_method_1_code 6 = .ok (.ldc 7, 2) := by decide +kernel
theorem d_prog_35_method_1_8 : decode prog_35_method_1_code 8 = .ok (.invokestatic 9, 3) := by decide +kernel
theorem d_prog_35_method_1_11 : decode prog_35_method_1_code 11 = .ok (.checkcast 15, 3) := by decide +kernel
theorem d_prog_35_method_1_14 : decode prog_35_method_1_code 14 = .ok (.putfield 17, 3) := by decide +kernel
theorem pn2 : plainName "com/example/opwire/opwire/codec/tcap/TcapMessage" = true := by first | (simp [plainName, overriddenIn]; done) | decide +kernel
theorem ef_tm (m : MethodId) (thistm : Addr) (atm_1 : Addr) : entryFrame m #[(.ref thistm), (.ref atm_1)] 2 = mkF m 0 #[.val (.ref thistm), .val (.ref atm_1)] [] := by first | (simp [entryFrame, mkF, argsToLocals, Value.category]; done) | rfl
def Q_tm (Z : State) (thistm : Addr) (atm_1 : Addr) (h0 : Heap) (n0 : Nat) (v : Option Value) (h : Heap) (L : List Loc) : Prop := v = none ∧ Fr n0 L ∧ Keep h0 h [thistm] ∧ Exa Z h thistm "com/example/opwire/opwire/codec/tcap/Abort" ∧ Fld Z h thistm "com/example/opwire/opwire/codec/tcap/Abort" "destinationTransactionId" "[B" .null ∧ Fld Z h thistm "com/example/opwire/opwire/codec/tcap/Abort" "pAbortCause" "Ljava/lang/Integer;" .null ∧ Fld Z h thistm "com/example/opwire/opwire/codec/tcap/Abort" "userAbortInformation" "[B" .null ∧ Fld Z h thistm "com/example/opwire/opwire/codec/tcap/TcapMessage" "unknownElements" "Lcom/example/opwire/opwire/codec/ber/UnknownElements;" (.ref atm_1)
theorem d_prog_35_method_1_17 : decode prog_35_method_1_code 17 = .ok (.return_, 1) := by decide +kernel
abbrev mt2 : MethodName := ⟨"com/example/opwire/opwire/codec/tcap/TcapMessage", "<init>", "(Lcom/example/opwire/opwire/codec/ber/UnknownElements;)V"⟩
set_option maxRecDepth 65536 in
set_option maxHeartbeats 40000000 in
theorem rm_tm (l : Launch) (Z : State) (a0 : Array Value) (hw : ∀ d ∈ tables_1, d.before a0 Z = true) (ws : List Jvm.Cond) (thistm : Addr) (atm_1 : Addr) (h0 : Heap) (n0 : Nat) (Z0 : n0 ≤ h0.size) (E_thistm : Exa Z h0 thistm "com/example/opwire/opwire/codec/tcap/Abort") (F_thistm_unknownElements : Fld Z h0 thistm "com/example/opwire/opwire/codec/tcap/TcapMessage" "unknownElements" "Lcom/example/opwire/opwire/codec/ber/UnknownElements;" .null) (F_thistm_destinationTransactionId : Fld Z h0 thistm "com/example/opwire/opwire/codec/tcap/Abort" "destinationTransactionId" "[B" .null) (F_thistm_pAbortCause : Fld Z h0 thistm "com/example/opwire/opwire/codec/tcap/Abort" "pAbortCause" "Ljava/lang/Integer;" .null) (F_thistm_userAbortInformation : Fld Z h0 thistm "com/example/opwire/opwire/codec/tcap/Abort" "userAbortInformation" "[B" .null) (g_thistm : n0 ≤ thistm) (E_atm_1 : Exa Z h0 atm_1 "com/example/opwire/opwire/codec/ber/UnknownElements") :
    MetFree l mt2 (head1 (Jvm.Cond.code mt2 prog_35_method_1_code 2 none :: ws) ({ frames := 1, cells := 2, slots := 64, locals := 14 } : Room)) (fun a U => a = #[(.ref thistm), (.ref atm_1)] ∧ Z.Warmed39 U.vm ∧ U.heap = h0) (fun _ _ _ _ _ => True) (fun _ U o U' => ∃ v L, o = .returned v ∧ (Q_tm Z thistm atm_1 h0 n0) v U'.heap L ∧ ReturnedEndW U o U' L ({ frames := 1, cells := 2, slots := 64, locals := 14 } : Room).cells ({ frames := 1, cells := 2, slots := 64, locals := 14 } : Room).slots) := by
  refine MetFree.of_bodySF (plainFor_of_name pn2) hisR ?_
  intro p e s m args below meth c s₁ Bd hml0 hP hK
  obtain ⟨rfl, hZ, hh⟩ := hP
  have hx := Bd.exec
  have hby := Bd.bytes
  have hml : c.maxLocals = 2 := hml0
  have hown : s.vm.findClass "com/example/opwire/opwire/codec/tcap/TcapMessage" = some m.cls := findClass_of_methodNamed Bd.named
  have hnm := (name_of_methodNamed Bd.named Bd.method).1
  have hS0 : s.Since s.vm 0 := (State.WarmedH.refl s).since 0
  have hk0 : 0 ≤ h0.size := Nat.zero_le _
  have X0 : Stand p l e ({ frames := 1, cells := 2, slots := 64, locals := 14 } : Room) (s.setVm s.vm) m #[(.ref thistm), (.ref atm_1)] below meth c s₁ [] 0 0 := Stand.of_body Bd
  have e0 : s₁.heap = h0 := by rw [← hh, Bd.state]; rfl
  have N0 := Fr.nil n0
  refine Wq.step (p := p) (e := e) (below := below) (En := (fun o t L => ReturnedEndW s o t L ({ frames := 1, cells := 2, slots := 64, locals := 14 } : Room).cells ({ frames := 1, cells := 2, slots := 64, locals := 14 } : Room).slots)) (Q := (Q_tm Z thistm atm_1 h0 n0)) (fun t k => castTop (ef_tm m thistm atm_1) k) ?_
  show Wq _ _ _ _ _ (s₁.setTop (mkF m 0 #[.val (.ref thistm), .val (.ref atm_1)] []))
  refine Ow.aloadN X0 hx (pc' := 1) (hb hby d_prog_35_method_1_0) rfl rfl ?_
  obtain ⟨T1, X1, e1, st1⟩ := initO X0 hx hZ hown (kw18 hw) (kw19 hw) (kw20 hw) e0 (g := (mkF m 1 #[.val (.ref thistm), .val (.ref atm_1)] [(.ref thistm)])) rfl (by rw [hml]; rfl) rfl (hb hby d_prog_35_method_1_1) (by decide) (W := 0) (by show 2 * 0 + _ ≤ _; exact Nat.le_of_eq rfl) (by decide)
  refine Wq.step st1 ?_
  show Wq _ _ _ _ _ (T1.setTop (mkF m 4 #[.val (.ref thistm), .val (.ref atm_1)] []))
  refine Ow.aloadN X1 hx (pc' := 5) (hb hby d_prog_35_method_1_4) rfl rfl ?_
  refine Ow.aloadN X1 hx (pc' := 6) (hb hby d_prog_35_method_1_5) rfl rfl ?_
  obtain ⟨sl2, T2, h2, k2, X2, e2, E2, hS2, hk2, hZ2, hown2, st2⟩ := ldcS X1 hx hZ hown (kw21 hw) (own_strs hw) e1 hS0 hk0 (g := (mkF m 6 #[.val (.ref thistm), .val (.ref atm_1)] [(.ref atm_1), (.ref thistm)])) rfl (hb hby d_prog_35_method_1_6) (n := 60) (by decide) (by decide) (by decide) (by decide)
  have K2 : Keep h0 h2 [thistm] := (Keep.refl h0 [thistm]).ext E2
  have Z2 : n0 ≤ h2.size := Nat.le_trans Z0 E2.1
  refine Wq.step st2 ?_
  have E_thistm_t2 := E_thistm.ext E2
  have F_thistm_unknownElements_t2 := F_thistm_unknownElements.ext E2
  have F_thistm_destinationTransactionId_t2 := F_thistm_destinationTransactionId.ext E2
  have F_thistm_pAbortCause_t2 := F_thistm_pAbortCause.ext E2
  have F_thistm_userAbortInformation_t2 := F_thistm_userAbortInformation.ext E2
  have E_atm_1_t2 := E_atm_1.ext E2
  show Wq _ _ _ _ _ (T2.setTop (mkF m 8 #[.val (.ref thistm), .val (.ref atm_1)] [(.ref sl2), (.ref atm_1), (.ref thistm)]))
  obtain ⟨_, _, ⟨T3, L3, k3, n3⟩, -, X3, ⟨Lc3, hQ3, l3, y3, z3⟩, st3⟩ := Jvm.LawKit.callS X2 hx (y := mt1) hown2 (mvT hZ2 (kw28 hw)) (mvT hZ2 (kw29 hw)) (mvT hZ2 (kw30 hw)) (mvT hZ2 (kw31 hw)) (by decide) (backOf (W := 1) (rm_rnn l Z a0 hw [] atm_1 sl2 h2 n0 Z2 ) hZ2 (kw31 hw) (kw30 hw) (by decide) (by decide)) (g := (mkF m 8 #[.val (.ref thistm), .val (.ref atm_1)] [(.ref sl2), (.ref atm_1), (.ref thistm)])) rfl (by rw [hml]; rfl) (argsL := [(.ref atm_1), (.ref sl2)]) (rest := [(.ref thistm)]) (lenOf pd1 rfl) rfl (by show 2 * 0 + _ ≤ _; exact Nat.le_of_eq rfl) (hb hby d_prog_35_method_1_8) (fun _ _ => ⟨rfl, e2, (by decide : 2 + 0 ≤ _), (by decide : 64 + 0 ≤ _)⟩)
  dsimp only [Pt.U, Pt.locs, Pt.cells, Pt.slots] at X3 l3 y3 z3 st3 hQ3
  subst l3 y3 z3
  obtain ⟨rfl, Nq3, e3⟩ := hQ3
  have N3 := Fr.app N0 Nq3
  refine Wq.step st3 ?_
  show Wq _ _ _ _ _ (T3.setTop (mkF m 11 #[.val (.ref thistm), .val (.ref atm_1)] [(.ref atm_1), (.ref thistm)]))
  obtain ⟨T4, X4, e4, st4⟩ := castY X3 hx hZ2 hown2 (kw32 hw) e3 (Ins.self E_atm_1_t2) (g := (mkF m 11 #[.val (.ref thistm), .val (.ref atm_1)] [(.ref atm_1), (.ref thistm)])) rfl rfl (hb hby d_prog_35_method_1_11)
  refine Wq.step st4 ?_
  show Wq _ _ _ _ _ (T4.setTop (mkF m 14 #[.val (.ref thistm), .val (.ref atm_1)] [(.ref atm_1), (.ref thistm)]))
  obtain ⟨T5, h5, X5, e5, W5, st5⟩ := putF X4 hx hZ2 hown2 (host := "") (Or.inl (kw34 hw)) Via.refl e4 F_thistm_unknownElements_t2 E_thistm_t2 (Or.inr ⟨(kw35 hw), rfl, hnm⟩) (kw2 hw) (ty := (.object "com/example/opwire/opwire/codec/ber/UnknownElements")) (by decide) (rfl) (rfl) (g := (mkF m 14 #[.val (.ref thistm), .val (.ref atm_1)] [(.ref atm_1), (.ref thistm)])) rfl rfl (hb hby d_prog_35_method_1_14)
  refine Wq.step st5 ?_
  have N5 := Fr.snoc X5 N3 g_thistm
  have K5 : Keep h0 h5 [thistm] := K2.wr W5 (Or.inl (List.mem_of_getElem? (i := 0) rfl))
  have Z5 : n0 ≤ h5.size := Nat.le_trans Z2 (Keep.of_wr W5).1
  have hk5 := Nat.le_trans hk2 (Keep.of_wr W5).1
  have E_thistm_t5 := E_thistm_t2.wr W5
  have F_thistm_destinationTransactionId_t5 := F_thistm_destinationTransactionId_t2.other W5 (Or.inr (slot_ne (Or.inr (kw46 hw)) (Or.inr (kw35 hw)) (by decide) (t := (.array .byte)) (t' := (.object "com/example/opwire/opwire/codec/ber/UnknownElements")) (by decide) (by decide)))
  have F_thistm_pAbortCause_t5 := F_thistm_pAbortCause_t2.other W5 (Or.inr (slot_ne (Or.inr (kw48 hw)) (Or.inr (kw35 hw)) (by decide) (t := (.object "java/lang/Integer")) (t' := (.object "com/example/opwire/opwire/codec/ber/UnknownElements")) (by decide) (by decide)))
  have F_thistm_userAbortInformation_t5 := F_thistm_userAbortInformation_t2.other W5 (Or.inr (slot_ne (Or.inr (kw50 hw)) (Or.inr (kw35 hw)) (by decide) (t := (.array .byte)) (t' := (.object "com/example/opwire/opwire/codec/ber/UnknownElements")) (by decide) (by decide)))
  have E_atm_1_t5 := E_atm_1_t2.wr W5
  have F_thistm_unknownElements_t5 : Fld Z h5 thistm "com/example/opwire/opwire/codec/tcap/TcapMessage" "unknownElements" "Lcom/example/opwire/opwire/codec/ber/UnknownElements;" (.ref atm_1) := F_thistm_unknownElements_t2.same W5
  show Wq _ _ _ _ _ (T5.setTop (mkF m 17 #[.val (.ref thistm), .val (.ref atm_1)] []))
  exact Wq.retW X5 hS2 (by rw [e5]; exact hk5) (BodyLoose.notSynchronized Bd) (rv := none) (fun _ => rfl) (fun _ hr => X5.returnOut hx Bd.returns (hb hby d_prog_35_method_1_17) hr) (by decide) (by decide) (by rw [e5]; exact ⟨rfl, N5, K5, E_thistm_t5, F_thistm_destinationTransactionId_t5, F_thistm_pAbortCause_t5, F_thistm_userAbortInformation_t5, F_thistm_unknownElements_t5⟩)
theorem kw17 {Z : State} {a0 : Array Value} (hw : ∀ d ∈ tables_1, d.before a0 Z = true) : (Jvm.Cond.code ({ cls := "com/example/opwire/opwire/codec/tcap/TcapMessage", name := "<init>", desc := "(Lcom/example/opwire/opwire/codec/ber/UnknownElements;)V" } : Jvm.MethodName) prog_35_method_1_code (2 : Nat) (Option.none : Option Jvm.ClassFile.FieldType)).before a0 Z = true := hw _ (List.mem_of_getElem? (i := 17) rfl)
theorem kw16 {Z : State} {a0 : Array Value} (hw : ∀ d ∈ tables_1, d.before a0 Z = true) : (Jvm.Cond.initialized "com/example/opwire/opwire/codec/tcap/TcapMessage").before a0 Z = true := hw _ (List.mem_of_getElem? (i := 16) rfl)
theorem pd2 : parseMethodDescriptor "(Lcom/example/opwire/opwire/codec/ber/UnknownElements;)V" = some ⟨[(.object "com/example/opwire/opwire/codec/ber/UnknownElements")], none⟩ := by decide +kernel
theorem kw13 {Z : State} {a0 : Array Value} (hw : ∀ d ∈ tables_1, d.before a0 Z = true) : (Jvm.Cond.methodLink "com/example/opwire/opwire/codec/tcap/Abort" (13 : Nat) ({ cls := "com/example/opwire/opwire/codec/tcap/TcapMessage", name := "<init>", desc := "(Lcom/example/opwire/opwire/codec/ber/UnknownElements;)V" } : Jvm.MethodName)).before a0 Z = true := hw _ (List.mem_of_getElem? (i := 13) rfl)
theorem kw14 {Z : State} {a0 : Array Value} (hw : ∀ d ∈ tables_1, d.before a0 Z = true) : (Jvm.Cond.instanceMethod ({ cls := "com/example/opwire/opwire/codec/tcap/TcapMessage", name := "<init>", desc := "(Lcom/example/opwire/opwire/codec/ber/UnknownElements;)V" } : Jvm.MethodName)).before a0 Z = true := hw _ (List.mem_of_getElem? (i := 14) rfl)
theorem kw36 {Z : State} {a0 : Array Value} (hw : ∀ d ∈ tables_1, d.before a0 Z = true) : (Jvm.Cond.methodLink "com/example/opwire/opwire/codec/tcap/Abort" (25 : Nat) ({ cls := "[B", name := "clone", desc := "()Ljava/lang/Object;" } : Jvm.MethodName)).before a0 Z = true := hw _ (List.mem_of_getElem? (i := 36) rfl)
theorem kw37 {Z : State} {a0 : Array Value} (hw : ∀ d ∈ tables_1, d.before a0 Z = true) : (Jvm.Cond.sameMethod "[B" "java/lang/Object" "clone" "()Ljava/lang/Object;").before a0 Z = true := hw _ (List.mem_of_getElem? (i := 37) rfl)
theorem kw41 {Z : State} {a0 : Array Value} (hw : ∀ d ∈ tables_1, d.before a0 Z = true) : (Jvm.Cond.native ({ cls := "java/lang/Object", name := "clone", desc := "()Ljava/lang/Object;" } : Jvm.MethodName)).before a0 Z = true := hw _ (List.mem_of_getElem? (i := 41) rfl)
theorem kw39 {Z : State} {a0 : Array Value} (hw : ∀ d ∈ tables_1, d.before a0 Z = true) : (Jvm.Cond.instanceMethod ({ cls := "java/lang/Object", name := "clone", desc := "()Ljava/lang/Object;" } : Jvm.MethodName)).before a0 Z = true := hw _ (List.mem_of_getElem? (i := 39) rfl)
theorem kw40 {Z : State} {a0 : Array Value} (hw : ∀ d ∈ tables_1, d.before a0 Z = true) : (Jvm.Cond.selects "[B" ({ cls := "[B", name := "clone", desc := "()Ljava/lang/Object;" } : Jvm.MethodName) ({ cls := "java/lang/Object", name := "clone", desc := "()Ljava/lang/Object;" } : Jvm.MethodName)).before a0 Z = true := hw _ (List.mem_of_getElem? (i := 40) rfl)
theorem kw42 {Z : State} {a0 : Array Value} (hw : ∀ d ∈ tables_1, d.before a0 Z = true) : (Jvm.Cond.castable "[B" "java/lang/Cloneable").before a0 Z = true := hw _ (List.mem_of_getElem? (i := 42) rfl)
theorem kw43 {Z : State} {a0 : Array Value} (hw : ∀ d ∈ tables_1, d.before a0 Z = true) : (Jvm.Cond.classLink "com/example/opwire/opwire/codec/tcap/Abort" (26 : Nat) "[B").before a0 Z = true := hw _ (List.mem_of_getElem? (i := 43) rfl)
theorem kw45 {Z : State} {a0 : Array Value} (hw : ∀ d ∈ tables_1, d.before a0 Z = true) : (Jvm.Cond.fieldLink "com/example/opwire/opwire/codec/tcap/Abort" (31 : Nat) "com/example/opwire/opwire/codec/tcap/Abort" "destinationTransactionId" "[B").before a0 Z = true := hw _ (List.mem_of_getElem? (i := 45) rfl)
theorem kw47 {Z : State} {a0 : Array Value} (hw : ∀ d ∈ tables_1, d.before a0 Z = true) : (Jvm.Cond.fieldLink "com/example/opwire/opwire/codec/tcap/Abort" (34 : Nat) "com/example/opwire/opwire/codec/tcap/Abort" "pAbortCause" "Ljava/lang/Integer;").before a0 Z = true := hw _ (List.mem_of_getElem? (i := 47) rfl)
theorem kw49 {Z : State} {a0 : Array Value} (hw : ∀ d ∈ tables_1, d.before a0 Z = true) : (Jvm.Cond.fieldLink "com/example/opwire/opwire/codec/tcap/Abort" (38 : Nat) "com/example/opwire/opwire/codec/tcap/Abort" "userAbortInformation" "[B").before a0 Z = true := hw _ (List.mem_of_getElem? (i := 49) rfl)
theorem d_prog_23_method_2_0 : decode prog_23_method_2_code 0 = .ok (.aload_n 0, 1) := by decide +kernel
theorem d_prog_23_method_2_1 : decode prog_23_method_2_code 1 = .ok (.aload 4, 2) := by decide +kernel
theorem d_prog_23_method_2_3 : decode prog_23_method_2_code 3 = .ok (.invokespecial 13, 3) := by decide +kernel
theorem d_prog_23_method_2_6 : decode prog_23_method_2_code 6 = .ok (.aload_n 2, 1) := by decide +kernel
theorem d_prog_23_method_2_7 : decode prog_23_method_2_code 7 = .ok (.ifnull 17, 3) := by decide +kernel
theorem d_prog_23_method_2_24 : decode prog_23_method_2_code 24 = .ok (.aload_n 0, 1) := by decide +kernel
theorem d_prog_23_method_2_25 : decode prog_23_method_2_code 25 = .ok (.aload_n 1, 1) := by decide +kernel
theorem d_prog_23_method_2_26 : decode prog_23_method_2_code 26 = .ok (.invokevirtual 25, 3) := by decide +kernel
theorem d_prog_23_method_2_29 : decode prog_23_method_2_code 29 = .ok (.checkcast 26, 3) := by decide +kernel
theorem d_prog_23_method_2_32 : decode prog_23_method_2_code 32 = .ok (.putfield 31, 3) := by decide +kernel
theorem d_prog_23_method_2_35 : decode prog_23_method_2_code 35 = .ok (.aload_n 0, 1) := by decide +kernel
theorem d_prog_23_method_2_36 : decode prog_23_method_2_code 36 = .ok (.aload_n 2, 1) := by decide +kernel
theorem d_prog_23_method_2_37 : decode prog_23_method_2_code 37 = .ok (.putfield 34, 3) := by decide +kernel
theorem d_prog_23_method_2_40 : decode prog_23_method_2_code 40 = .ok (.aload_n 0, 1) := by decide +kernel
theorem d_prog_23_method_2_41 : decode prog_23_method_2_code 41 = .ok (.aload_n 3, 1) := by decide +kernel
theorem d_prog_23_method_2_42 : decode prog_23_method_2_code 42 = .ok (.ifnonnull 7, 3) := by decide +kernel
theorem d_prog_23_method_2_45 : decode prog_23_method_2_code 45 = .ok (.aconst_null, 1) := by decide +kernel
theorem d_prog_23_method_2_46 : decode prog_23_method_2_code 46 = .ok (.goto 10, 3) := by decide +kernel
theorem d_prog_23_method_2_56 : decode prog_23_method_2_code 56 = .ok (.putfield 38, 3) := by decide +kernel
theorem pn3 : plainName "com/example/opwire/opwire/codec/tcap/Abort" = true := by first | (simp [plainName, overriddenIn]; done) | decide +kernel
theorem ef_bn (m : MethodId) (thisbn : Addr) (abn_1 : Addr) (abn_4 : Addr) : entryFrame m #[(.ref thisbn), (.ref abn_1), .null, .null, (.ref abn_4)] 5 = mkF m 0 #[.val (.ref thisbn), .val (.ref abn_1), .val .null, .val .null, .val (.ref abn_4)] [] := by first | (simp [entryFrame, mkF, argsToLocals, Value.category]; done) | rfl
def Q_bn (Z : State) (thisbn : Addr) (abn_1 : Addr) (abn_4 : Addr) (t0bn : Int32) (t1bn : Int32) (h0 : Heap) (n0 : Nat) (v : Option Value) (h : Heap) (L : List Loc) : Prop := ∃ b7 : Addr, v = none ∧ Fr n0 L ∧ Keep h0 h [thisbn] ∧ h0.size ≤ b7 ∧ Exa Z h thisbn "com/example/opwire/opwire/codec/tcap/Abort" ∧ Fld Z h thisbn "com/example/opwire/opwire/codec/tcap/TcapMessage" "unknownElements" "Lcom/example/opwire/opwire/codec/ber/UnknownElements;" (.ref abn_4) ∧ Al Z h b7 .byte [(.int t0bn), (.int t1bn)] ∧ Exa Z h b7 "[B" ∧ Fld Z h thisbn "com/example/opwire/opwire/codec/tcap/Abort" "destinationTransactionId" "[B" (.ref b7) ∧ Fld Z h thisbn "com/example/opwire/opwire/codec/tcap/Abort" "pAbortCause" "Ljava/lang/Integer;" .null ∧ Fld Z h thisbn "com/example/opwire/opwire/codec/tcap/Abort" "userAbortInformation" "[B" .null
theorem d_prog_23_method_2_59 : decode prog_23_method_2_code 59 = .ok (.return_, 1) := by decide +kernel
abbrev mt3 : MethodName := ⟨"com/example/opwire/opwire/codec/tcap/Abort", "<init>", "([BLjava/lang/Integer;[BLcom/example/opwire/opwire/codec/ber/UnknownElements;)V"⟩
set_option maxRecDepth 65536 in
set_option maxHeartbeats 40000000 in
theorem rm_bn (l : Launch) (Z : State) (a0 : Array Value) (hw : ∀ d ∈ tables_1, d.before a0 Z = true) (ws : List Jvm.Cond) (thisbn : Addr) (abn_1 : Addr) (abn_4 : Addr) (t0bn : Int32) (t1bn : Int32) (h0 : Heap) (n0 : Nat) (Z0 : n0 ≤ h0.size) (E_thisbn : Exa Z h0 thisbn "com/example/opwire/opwire/codec/tcap/Abort") (F_thisbn_unknownElements : Fld Z h0 thisbn "com/example/opwire/opwire/codec/tcap/TcapMessage" "unknownElements" "Lcom/example/opwire/opwire/codec/ber/UnknownElements;" .null) (F_thisbn_destinationTransactionId : Fld Z h0 thisbn "com/example/opwire/opwire/codec/tcap/Abort" "destinationTransactionId" "[B" .null) (F_thisbn_pAbortCause : Fld Z h0 thisbn "com/example/opwire/opwire/codec/tcap/Abort" "pAbortCause" "Ljava/lang/Integer;" .null) (F_thisbn_userAbortInformation : Fld Z h0 thisbn "com/example/opwire/opwire/codec/tcap/Abort" "userAbortInformation" "[B" .null) (g_thisbn : n0 ≤ thisbn) (V_abn_1 : Al Z h0 abn_1 .byte [(.int t0bn), (.int t1bn)]) (E_abn_1 : Exa Z h0 abn_1 "[B") (ne_abn_1_thisbn : abn_1 ≠ thisbn) (hft : ∀ v ∈ [Value.int t0bn, .int t1bn], fits .byte v = true) (E_abn_4 : Exa Z h0 abn_4 "com/example/opwire/opwire/codec/ber/UnknownElements") :
    MetFree l mt3 (head1 (Jvm.Cond.code mt3 prog_23_method_2_code 5 none :: ws) ({ frames := 2, cells := 3, slots := 66, locals := 27 } : Room)) (fun a U => a = #[(.ref thisbn), (.ref abn_1), .null, .null, (.ref abn_4)] ∧ Z.Warmed39 U.vm ∧ U.heap = h0) (fun _ _ _ _ _ => True) (fun _ U o U' => ∃ v L, o = .returned v ∧ (Q_bn Z thisbn abn_1 abn_4 t0bn t1bn h0 n0) v U'.heap L ∧ ReturnedEndW U o U' L ({ frames := 2, cells := 3, slots := 66, locals := 27 } : Room).cells ({ frames := 2, cells := 3, slots := 66, locals := 27 } : Room).slots) := by
  refine MetFree.of_bodySF (plainFor_of_name pn3) hisR ?_
  intro p e s m args below meth c s₁ Bd hml0 hP hK
  obtain ⟨rfl, hZ, hh⟩ := hP
  have hx := Bd.exec
  have hby := Bd.bytes
  have hml : c.maxLocals = 5 := hml0
  have hown : s.vm.findClass "com/example/opwire/opwire/codec/tcap/Abort" = some m.cls := findClass_of_methodNamed Bd.named
  have hnm := (name_of_methodNamed Bd.named Bd.method).1
  have hS0 : s.Since s.vm 0 := (State.WarmedH.refl s).since 0
  have hk0 : 0 ≤ h0.size := Nat.zero_le _
  have X0 : Stand p l e ({ frames := 2, cells := 3, slots := 66, locals := 27 } : Room) (s.setVm s.vm) m #[(.ref thisbn), (.ref abn_1), .null, .null, (.ref abn_4)] below meth c s₁ [] 0 0 := Stand.of_body Bd
  have e0 : s₁.heap = h0 := by rw [← hh, Bd.state]; rfl
  have N0 := Fr.nil n0
  refine Wq.step (p := p) (e := e) (below := below) (En := (fun o t L => ReturnedEndW s o t L ({ frames := 2, cells := 3, slots := 66, locals := 27 } : Room).cells ({ frames := 2, cells := 3, slots := 66, locals := 27 } : Room).slots)) (Q := (Q_bn Z thisbn abn_1 abn_4 t0bn t1bn h0 n0)) (fun t k => castTop (ef_bn m thisbn abn_1 abn_4) k) ?_
  show Wq _ _ _ _ _ (s₁.setTop (mkF m 0 #[.val (.ref thisbn), .val (.ref abn_1), .val .null, .val .null, .val (.ref abn_4)] []))
  refine Ow.aloadN X0 hx (pc' := 1) (hb hby d_prog_23_method_2_0) rfl rfl ?_
  refine Ow.aload X0 hx (pc' := 3) (hb hby d_prog_23_method_2_1) rfl rfl ?_
  obtain ⟨_, _, ⟨T6, L6, k6, n6⟩, -, Xr6, hSr6, hgr6, ⟨Lc6, hQ6, l6, y6, z6⟩, st6⟩ := X0.specialBackS hx (y := mt2) rfl hown (mvT hZ (kw13 hw)) (mvT hZ (kw14 hw)) (mvT hZ (kw17 hw)) (by decide) (backOfS (W := 0) (rm_tm l Z a0 hw [] thisbn abn_4 h0 n0 Z0 E_thisbn F_thisbn_unknownElements F_thisbn_destinationTransactionId F_thisbn_pAbortCause F_thisbn_userAbortInformation g_thisbn E_abn_4) hZ (kw17 hw) (kw16 hw) (by decide) (by decide)) (g := (mkF m 3 #[.val (.ref thisbn), .val (.ref abn_1), .val .null, .val .null, .val (.ref abn_4)] [(.ref abn_4), (.ref thisbn)])) rfl (by rw [hml]; rfl) (Steps.refl _) (a := thisbn) (argsL := [(.ref abn_4)]) (rest := []) (lenOf pd2 rfl) rfl (by show 2 * 0 + _ ≤ _; exact Nat.le_of_eq rfl) (hb hby d_prog_23_method_2_3) (fun _ _ => ⟨rfl, e0, (by decide : 0 + 2 ≤ _), (by decide : 0 + 64 ≤ _)⟩)
  dsimp only [Pt.U, Pt.locs, Pt.cells, Pt.slots] at Xr6 hSr6 hgr6 l6 y6 z6 st6 hQ6
  subst l6 y6 z6
  obtain ⟨X6, hS6, hZ6, hown6⟩ := rebS hS0 (by rw [e0]; exact hk0) Xr6 hSr6 hgr6 hZ hown
  have hk6 := Nat.le_refl T6.heap.size
  obtain ⟨rfl, Nq6, Kq6, P6_0, P6_1, P6_2, P6_3, P6_4⟩ := hQ6
  have N6 := Fr.app N0 Nq6
  have K6 : Keep h0 T6.heap [thisbn] := (Keep.refl h0 [thisbn]).trans Kq6 (allS (P := fun x => x ∈ [thisbn] ∨ h0.size ≤ x) (Or.inl (List.mem_of_getElem? (i := 0) rfl)) all0)
  have Z6 : n0 ≤ T6.heap.size := Nat.le_trans Z0 Kq6.1
  have E_thisbn_t6 := E_thisbn.keep Kq6
  have V_abn_1_t6 := V_abn_1.keep Kq6 (ninS ne_abn_1_thisbn nin0)
  have E_abn_1_t6 := E_abn_1.keep Kq6
  have E_abn_4_t6 := E_abn_4.keep Kq6
  have e6 : T6.heap = T6.heap := rfl
  refine Wq.steps st6 ?_
  show Wq _ _ _ _ _ (T6.setTop (mkF m 6 #[.val (.ref thisbn), .val (.ref abn_1), .val .null, .val .null, .val (.ref abn_4)] []))
  refine Ow.aloadN X6 hx (pc' := 7) (hb hby d_prog_23_method_2_6) rfl rfl ?_
  refine Ow.ifnullYes X6 hx (pc' := 24) (hb hby d_prog_23_method_2_7) (by decide) (by decide) ?_
  refine Ow.aloadN X6 hx (pc' := 25) (hb hby d_prog_23_method_2_24) rfl rfl ?_
  refine Ow.aloadN X6 hx (pc' := 26) (hb hby d_prog_23_method_2_25) rfl rfl ?_
  obtain ⟨T7, h7, X7, e7, E7, A7, Ex7, st7⟩ := clA X6 hx hZ6 hown6 (kw36 hw) (kw37 hw) (kw41 hw) (kw39 hw) (kw40 hw) (kw42 hw) e6 V_abn_1_t6 E_abn_1_t6 (hft) (g := (mkF m 26 #[.val (.ref thisbn), .val (.ref abn_1), .val .null, .val .null, .val (.ref abn_4)] [(.ref abn_1), (.ref thisbn)])) rfl (by rw [hml]; rfl) rfl (hb hby d_prog_23_method_2_26) (by decide) (W := 1) (cap := 2) (by show 2 * 0 + _ ≤ _; exact Nat.le_of_eq rfl) (by decide) (Nat.le_of_ble_eq_true rfl) (by decide) (by decide)
  obtain ⟨b7, gz7⟩ : ∃ z, z = T6.heap.size := ⟨_, rfl⟩
  rw [← gz7] at A7 Ex7 st7
  have g_b7 : n0 ≤ b7 := Nat.le_trans Z6 (Nat.le_of_eq gz7.symm)
  have sz_b7 : h0.size ≤ b7 := Nat.le_trans K6.1 (Nat.le_of_eq gz7.symm)
  have ne_thisbn_b7 : thisbn ≠ b7 := Nat.ne_of_lt (Nat.lt_of_lt_of_le E_thisbn_t6.lt (Nat.le_of_eq gz7.symm))
  have ne_abn_1_b7 : abn_1 ≠ b7 := Nat.ne_of_lt (Nat.lt_of_lt_of_le V_abn_1_t6.lt (Nat.le_of_eq gz7.symm))
  have ne_abn_4_b7 : abn_4 ≠ b7 := Nat.ne_of_lt (Nat.lt_of_lt_of_le E_abn_4_t6.lt (Nat.le_of_eq gz7.symm))
  have K7 : Keep h0 h7 [thisbn] := K6.ext E7
  have Z7 : n0 ≤ h7.size := Nat.le_trans Z6 E7.1
  have hk7 := Nat.le_trans hk6 E7.1
  have E_thisbn_t7 := E_thisbn_t6.ext E7
  have V_abn_1_t7 := V_abn_1_t6.ext E7
  have E_abn_1_t7 := E_abn_1_t6.ext E7
  have E_abn_4_t7 := E_abn_4_t6.ext E7
  have P6_1_t7 := P6_1.ext E7
  have P6_2_t7 := P6_2.ext E7
  have P6_3_t7 := P6_3.ext E7
  have P6_4_t7 := P6_4.ext E7
  refine Wq.step st7 ?_
  show Wq _ _ _ _ _ (T7.setTop (mkF m 29 #[.val (.ref thisbn), .val (.ref abn_1), .val .null, .val .null, .val (.ref abn_4)] [(.ref b7), (.ref thisbn)]))
  obtain ⟨T8, X8, e8, st8⟩ := castY X7 hx hZ6 hown6 (kw43 hw) e7 (Ins.self Ex7) (g := (mkF m 29 #[.val (.ref thisbn), .val (.ref abn_1), .val .null, .val .null, .val (.ref abn_4)] [(.ref b7), (.ref thisbn)])) rfl rfl (hb hby d_prog_23_method_2_29)
  refine Wq.step st8 ?_
  show Wq _ _ _ _ _ (T8.setTop (mkF m 32 #[.val (.ref thisbn), .val (.ref abn_1), .val .null, .val .null, .val (.ref abn_4)] [(.ref b7), (.ref thisbn)]))
  obtain ⟨T9, h9, X9, e9, W9, st9⟩ := putF X8 hx hZ6 hown6 (host := "") (Or.inl (kw45 hw)) Via.refl e8 P6_1_t7 E_thisbn_t7 (Or.inr ⟨(kw46 hw), rfl, hnm⟩) (kw2 hw) (ty := (.array .byte)) (by decide) (rfl) (rfl) (g := (mkF m 32 #[.val (.ref thisbn), .val (.ref abn_1), .val .null, .val .null, .val (.ref abn_4)] [(.ref b7), (.ref thisbn)])) rfl rfl (hb hby d_prog_23_method_2_32)
  refine Wq.step st9 ?_
  have N9 := Fr.snoc X9 N6 g_thisbn
  have K9 : Keep h0 h9 [thisbn] := K7.wr W9 (Or.inl (List.mem_of_getElem? (i := 0) rfl))
  have Z9 : n0 ≤ h9.size := Nat.le_trans Z7 (Keep.of_wr W9).1
  have hk9 := Nat.le_trans hk7 (Keep.of_wr W9).1
  have E_thisbn_t9 := E_thisbn_t7.wr W9
  have V_abn_1_t9 := V_abn_1_t7.other W9 ne_abn_1_thisbn
  have E_abn_1_t9 := E_abn_1_t7.wr W9
  have E_abn_4_t9 := E_abn_4_t7.wr W9
  have P6_2_t9 := P6_2_t7.other W9 (Or.inr (slot_ne (Or.inr (kw48 hw)) (Or.inr (kw46 hw)) (by decide) (t := (.object "java/lang/Integer")) (t' := (.array .byte)) (by decide) (by decide)))
  have P6_3_t9 := P6_3_t7.other W9 (Or.inr (slot_ne (Or.inr (kw50 hw)) (Or.inr (kw46 hw)) (by decide) (t := (.array .byte)) (t' := (.array .byte)) (by decide) (by decide)))
  have P6_4_t9 := P6_4_t7.other W9 (Or.inr (slot_ne (Or.inr (kw35 hw)) (Or.inr (kw46 hw)) (by decide) (t := (.object "com/example/opwire/opwire/codec/ber/UnknownElements")) (t' := (.array .byte)) (by decide) (by decide)))
  have A7_t9 := A7.other W9 (Ne.symm ne_thisbn_b7)
  have Ex7_t9 := Ex7.wr W9
  have F_thisbn_destinationTransactionId_t9 : Fld Z h9 thisbn "com/example/opwire/opwire/codec/tcap/Abort" "destinationTransactionId" "[B" (.ref b7) := P6_1_t7.same W9
  show Wq _ _ _ _ _ (T9.setTop (mkF m 35 #[.val (.ref thisbn), .val (.ref abn_1), .val .null, .val .null, .val (.ref abn_4)] []))
  refine Ow.aloadN X9 hx (pc' := 36) (hb hby d_prog_23_method_2_35) rfl rfl ?_
  refine Ow.aloadN X9 hx (pc' := 37) (hb hby d_prog_23_method_2_36) rfl rfl ?_
  obtain ⟨T10, h10, X10, e10, W10, st10⟩ := putF X9 hx hZ6 hown6 (host := "") (Or.inl (kw47 hw)) Via.refl e9 P6_2_t9 E_thisbn_t9 (Or.inr ⟨(kw48 hw), rfl, hnm⟩) (kw2 hw) (ty := (.object "java/lang/Integer")) (by decide) (rfl) (rfl) (g := (mkF m 37 #[.val (.ref thisbn), .val (.ref abn_1), .val .null, .val .null, .val (.ref abn_4)] [.null, (.ref thisbn)])) rfl rfl (hb hby d_prog_23_method_2_37)
  refine Wq.step st10 ?_
  have N10 := Fr.snoc X10 N9 g_thisbn
  have K10 : Keep h0 h10 [thisbn] := K9.wr W10 (Or.inl (List.mem_of_getElem? (i := 0) rfl))
  have Z10 : n0 ≤ h10.size := Nat.le_trans Z9 (Keep.of_wr W10).1
  have hk10 := Nat.le_trans hk9 (Keep.of_wr W10).1
  have E_thisbn_t10 := E_thisbn_t9.wr W10
  have V_abn_1_t10 := V_abn_1_t9.other W10 ne_abn_1_thisbn
  have E_abn_1_t10 := E_abn_1_t9.wr W10
  have E_abn_4_t10 := E_abn_4_t9.wr W10
  have P6_3_t10 := P6_3_t9.other W10 (Or.inr (slot_ne (Or.inr (kw50 hw)) (Or.inr (kw48 hw)) (by decide) (t := (.array .byte)) (t' := (.object "java/lang/Integer")) (by decide) (by decide)))
  have P6_4_t10 := P6_4_t9.other W10 (Or.inr (slot_ne (Or.inr (kw35 hw)) (Or.inr (kw48 hw)) (by decide) (t := (.object "com/example/opwire/opwire/codec/ber/UnknownElements")) (t' := (.object "java/lang/Integer")) (by decide) (by decide)))
  have A7_t10 := A7_t9.other W10 (Ne.symm ne_thisbn_b7)
  have Ex7_t10 := Ex7_t9.wr W10
  have F_thisbn_destinationTransactionId_t10 := F_thisbn_destinationTransactionId_t9.other W10 (Or.inr (slot_ne (Or.inr (kw46 hw)) (Or.inr (kw48 hw)) (by decide) (t := (.array .byte)) (t' := (.object "java/lang/Integer")) (by decide) (by decide)))
  have F_thisbn_pAbortCause_t10 : Fld Z h10 thisbn "com/example/opwire/opwire/codec/tcap/Abort" "pAbortCause" "Ljava/lang/Integer;" .null := P6_2_t9.same W10
  show Wq _ _ _ _ _ (T10.setTop (mkF m 40 #[.val (.ref thisbn), .val (.ref abn_1), .val .null, .val .null, .val (.ref abn_4)] []))
  refine Ow.aloadN X10 hx (pc' := 41) (hb hby d_prog_23_method_2_40) rfl rfl ?_
  refine Ow.aloadN X10 hx (pc' := 42) (hb hby d_prog_23_method_2_41) rfl rfl ?_
  refine Ow.ifnonnullNo X10 hx (pc' := 45) (hb hby d_prog_23_method_2_42)  ?_
  refine Ow.aconstNull X10 hx (pc' := 46) (hb hby d_prog_23_method_2_45)  ?_
  refine Ow.goto X10 hx (pc' := 56) (hb hby d_prog_23_method_2_46) (by decide) (by decide) ?_
  obtain ⟨T11, h11, X11, e11, W11, st11⟩ := putF X10 hx hZ6 hown6 (host := "") (Or.inl (kw49 hw)) Via.refl e10 P6_3_t10 E_thisbn_t10 (Or.inr ⟨(kw50 hw), rfl, hnm⟩) (kw2 hw) (ty := (.array .byte)) (by decide) (rfl) (rfl) (g := (mkF m 56 #[.val (.ref thisbn), .val (.ref abn_1), .val .null, .val .null, .val (.ref abn_4)] [.null, (.ref thisbn)])) rfl rfl (hb hby d_prog_23_method_2_56)
  refine Wq.step st11 ?_
  have N11 := Fr.snoc X11 N10 g_thisbn
  have K11 : Keep h0 h11 [thisbn] := K10.wr W11 (Or.inl (List.mem_of_getElem? (i := 0) rfl))
  have Z11 : n0 ≤ h11.size := Nat.le_trans Z10 (Keep.of_wr W11).1
  have hk11 := Nat.le_trans hk10 (Keep.of_wr W11).1
  have E_thisbn_t11 := E_thisbn_t10.wr W11
  have V_abn_1_t11 := V_abn_1_t10.other W11 ne_abn_1_thisbn
  have E_abn_1_t11 := E_abn_1_t10.wr W11
  have E_abn_4_t11 := E_abn_4_t10.wr W11
  have P6_4_t11 := P6_4_t10.other W11 (Or.inr (slot_ne (Or.inr (kw35 hw)) (Or.inr (kw50 hw)) (by decide) (t := (.object "com/example/opwire/opwire/codec/ber/UnknownElements")) (t' := (.array .byte)) (by decide) (by decide)))
  have A7_t11 := A7_t10.other W11 (Ne.symm ne_thisbn_b7)
  have Ex7_t11 := Ex7_t10.wr W11
  have F_thisbn_destinationTransactionId_t11 := F_thisbn_destinationTransactionId_t10.other W11 (Or.inr (slot_ne (Or.inr (kw46 hw)) (Or.inr (kw50 hw)) (by decide) (t := (.array .byte)) (t' := (.array .byte)) (by decide) (by decide)))
  have F_thisbn_pAbortCause_t11 := F_thisbn_pAbortCause_t10.other W11 (Or.inr (slot_ne (Or.inr (kw48 hw)) (Or.inr (kw50 hw)) (by decide) (t := (.object "java/lang/Integer")) (t' := (.array .byte)) (by decide) (by decide)))
  have F_thisbn_userAbortInformation_t11 : Fld Z h11 thisbn "com/example/opwire/opwire/codec/tcap/Abort" "userAbortInformation" "[B" .null := P6_3_t10.same W11
  show Wq _ _ _ _ _ (T11.setTop (mkF m 59 #[.val (.ref thisbn), .val (.ref abn_1), .val .null, .val .null, .val (.ref abn_4)] []))
  exact Wq.retW X11 hS6 (by rw [e11]; exact hk11) (BodyLoose.notSynchronized Bd) (rv := none) (fun _ => rfl) (fun _ hr => X11.returnOut hx Bd.returns (hb hby d_prog_23_method_2_59) hr) (by decide) (by decide) (by rw [e11]; exact ⟨b7, rfl, N11, K11, sz_b7, E_thisbn_t11, P6_4_t11, A7_t11, Ex7_t11, F_thisbn_destinationTransactionId_t11, F_thisbn_pAbortCause_t11, F_thisbn_userAbortInformation_t11⟩)
theorem kw7 {Z : State} {a0 : Array Value} (hw : ∀ d ∈ tables_1, d.before a0 Z = true) : (Jvm.Cond.fieldLink "com/example/opwire/opwire/codec/tcap/Abort" (1 : Nat) "com/example/opwire/opwire/codec/ber/UnknownElements" "NONE" "Lcom/example/opwire/opwire/codec/ber/UnknownElements;").before a0 Z = true := hw _ (List.mem_of_getElem? (i := 7) rfl)
theorem kw12 {Z : State} {a0 : Array Value} (hw : ∀ d ∈ tables_1, d.before a0 Z = true) : (Jvm.Cond.code ({ cls := "com/example/opwire/opwire/codec/tcap/Abort", name := "<init>", desc := "([BLjava/lang/Integer;[BLcom/example/opwire/opwire/codec/ber/UnknownElements;)V" } : Jvm.MethodName) prog_23_method_2_code (5 : Nat) (Option.none : Option Jvm.ClassFile.FieldType)).before a0 Z = true := hw _ (List.mem_of_getElem? (i := 12) rfl)
theorem kw3 {Z : State} {a0 : Array Value} (hw : ∀ d ∈ tables_1, d.before a0 Z = true) : (Jvm.Cond.initialized "com/example/opwire/opwire/codec/tcap/Abort").before a0 Z = true := hw _ (List.mem_of_getElem? (i := 3) rfl)
theorem pd3 : parseMethodDescriptor "([BLjava/lang/Integer;[BLcom/example/opwire/opwire/codec/ber/UnknownElements;)V" = some ⟨[(.array .byte), (.object "java/lang/Integer"), (.array .byte), (.object "com/example/opwire/opwire/codec/ber/UnknownElements")], none⟩ := by decide +kernel
theorem kw10 {Z : State} {a0 : Array Value} (hw : ∀ d ∈ tables_1, d.before a0 Z = true) : (Jvm.Cond.methodLink "com/example/opwire/opwire/codec/tcap/Abort" (7 : Nat) ({ cls := "com/example/opwire/opwire/codec/tcap/Abort", name := "<init>", desc := "([BLjava/lang/Integer;[BLcom/example/opwire/opwire/codec/ber/UnknownElements;)V" } : Jvm.MethodName)).before a0 Z = true := hw _ (List.mem_of_getElem? (i := 10) rfl)
theorem kw11 {Z : State} {a0 : Array Value} (hw : ∀ d ∈ tables_1, d.before a0 Z = true) : (Jvm.Cond.instanceMethod ({ cls := "com/example/opwire/opwire/codec/tcap/Abort", name := "<init>", desc := "([BLjava/lang/Integer;[BLcom/example/opwire/opwire/codec/ber/UnknownElements;)V" } : Jvm.MethodName)).before a0 Z = true := hw _ (List.mem_of_getElem? (i := 11) rfl)
theorem d_prog_23_method_1_0 : decode prog_23_method_1_code 0 = .ok (.aload_n 0, 1) := by decide +kernel
theorem d_prog_23_method_1_1 : decode prog_23_method_1_code 1 = .ok (.aload_n 1, 1) := by decide +kernel
theorem d_prog_23_method_1_2 : decode prog_23_method_1_code 2 = .ok (.aload_n 2, 1) := by decide +kernel
theorem d_prog_23_method_1_3 : decode prog_23_method_1_code 3 = .ok (.aload_n 3, 1) := by decide +kernel
theorem d_prog_23_method_1_4 : decode prog_23_method_1_code 4 = .ok (.getstatic 1, 3) := by decide +kernel
theorem d_prog_23_method_1_7 : decode prog_23_method_1_code 7 = .ok (.invokespecial 7, 3) := by decide +kernel
theorem ef_an (m : MethodId) (thisan : Addr) (aan_1 : Addr) : entryFrame m #[(.ref thisan), (.ref aan_1), .null, .null] 4 = mkF m 0 #[.val (.ref thisan), .val (.ref aan_1), .val .null, .val .null] [] := by first | (simp [entryFrame, mkF, argsToLocals, Value.category]; done) | rfl
def Q_an (Z : State) (thisan : Addr) (aan_1 : Addr) (t0an : Int32) (t1an : Int32) (unean : Addr) (h0 : Heap) (n0 : Nat) (v : Option Value) (h : Heap) (L : List Loc) : Prop := ∃ b7_c13 : Addr, v = none ∧ Fr n0 L ∧ Keep h0 h [thisan] ∧ h0.size ≤ b7_c13 ∧ Exa Z h thisan "com/example/opwire/opwire/codec/tcap/Abort" ∧ Fld Z h thisan "com/example/opwire/opwire/codec/tcap/TcapMessage" "unknownElements" "Lcom/example/opwire/opwire/codec/ber/UnknownElements;" (.ref unean) ∧ Al Z h b7_c13 .byte [(.int t0an), (.int t1an)] ∧ Exa Z h b7_c13 "[B" ∧ Fld Z h thisan "com/example/opwire/opwire/codec/tcap/Abort" "destinationTransactionId" "[B" (.ref b7_c13) ∧ Fld Z h thisan "com/example/opwire/opwire/codec/tcap/Abort" "pAbortCause" "Ljava/lang/Integer;" .null ∧ Fld Z h thisan "com/example/opwire/opwire/codec/tcap/Abort" "userAbortInformation" "[B" .null
theorem d_prog_23_method_1_10 : decode prog_23_method_1_code 10 = .ok (.return_, 1) := by decide +kernel
abbrev mt4 : MethodName := ⟨"com/example/opwire/opwire/codec/tcap/Abort", "<init>", "([BLjava/lang/Integer;[B)V"⟩
set_option maxRecDepth 65536 in
set_option maxHeartbeats 40000000 in
theorem rm_an (l : Launch) (Z : State) (a0 : Array Value) (hw : ∀ d ∈ tables_1, d.before a0 Z = true) (ws : List Jvm.Cond) (thisan : Addr) (aan_1 : Addr) (t0an : Int32) (t1an : Int32) (unean : Addr) (h0 : Heap) (n0 : Nat) (Z0 : n0 ≤ h0.size) (E_thisan : Exa Z h0 thisan "com/example/opwire/opwire/codec/tcap/Abort") (F_thisan_unknownElements : Fld Z h0 thisan "com/example/opwire/opwire/codec/tcap/TcapMessage" "unknownElements" "Lcom/example/opwire/opwire/codec/ber/UnknownElements;" .null) (F_thisan_destinationTransactionId : Fld Z h0 thisan "com/example/opwire/opwire/codec/tcap/Abort" "destinationTransactionId" "[B" .null) (F_thisan_pAbortCause : Fld Z h0 thisan "com/example/opwire/opwire/codec/tcap/Abort" "pAbortCause" "Ljava/lang/Integer;" .null) (F_thisan_userAbortInformation : Fld Z h0 thisan "com/example/opwire/opwire/codec/tcap/Abort" "userAbortInformation" "[B" .null) (g_thisan : n0 ≤ thisan) (V_aan_1 : Al Z h0 aan_1 .byte [(.int t0an), (.int t1an)]) (E_aan_1 : Exa Z h0 aan_1 "[B") (ne_aan_1_thisan : aan_1 ≠ thisan) (hft : ∀ v ∈ [Value.int t0an, .int t1an], fits .byte v = true) (S_NONE : Sta Z h0 "com/example/opwire/opwire/codec/ber/UnknownElements" "NONE" "Lcom/example/opwire/opwire/codec/ber/UnknownElements;" (.ref unean)) (E_unean : Exa Z h0 unean "com/example/opwire/opwire/codec/ber/UnknownElements") :
    MetFree l mt4 (head1 (Jvm.Cond.code mt4 prog_23_method_1_code 4 none :: ws) ({ frames := 3, cells := 3, slots := 66, locals := 43 } : Room)) (fun a U => a = #[(.ref thisan), (.ref aan_1), .null, .null] ∧ Z.Warmed39 U.vm ∧ U.heap = h0) (fun _ _ _ _ _ => True) (fun _ U o U' => ∃ v L, o = .returned v ∧ (Q_an Z thisan aan_1 t0an t1an unean h0 n0) v U'.heap L ∧ ReturnedEndW U o U' L ({ frames := 3, cells := 3, slots := 66, locals := 43 } : Room).cells ({ frames := 3, cells := 3, slots := 66, locals := 43 } : Room).slots) := by
  refine MetFree.of_bodySF (plainFor_of_name pn3) hisR ?_
  intro p e s m args below meth c s₁ Bd hml0 hP hK
  obtain ⟨rfl, hZ, hh⟩ := hP
  have hx := Bd.exec
  have hby := Bd.bytes
  have hml : c.maxLocals = 4 := hml0
  have hown : s.vm.findClass "com/example/opwire/opwire/codec/tcap/Abort" = some m.cls := findClass_of_methodNamed Bd.named
  have hnm := (name_of_methodNamed Bd.named Bd.method).1
  have hS0 : s.Since s.vm 0 := (State.WarmedH.refl s).since 0
  have hk0 : 0 ≤ h0.size := Nat.zero_le _
  have X0 : Stand p l e ({ frames := 3, cells := 3, slots := 66, locals := 43 } : Room) (s.setVm s.vm) m #[(.ref thisan), (.ref aan_1), .null, .null] below meth c s₁ [] 0 0 := Stand.of_body Bd
  have e0 : s₁.heap = h0 := by rw [← hh, Bd.state]; rfl
  have N0 := Fr.nil n0
  refine Wq.step (p := p) (e := e) (below := below) (En := (fun o t L => ReturnedEndW s o t L ({ frames := 3, cells := 3, slots := 66, locals := 43 } : Room).cells ({ frames := 3, cells := 3, slots := 66, locals := 43 } : Room).slots)) (Q := (Q_an Z thisan aan_1 t0an t1an unean h0 n0)) (fun t k => castTop (ef_an m thisan aan_1) k) ?_
  show Wq _ _ _ _ _ (s₁.setTop (mkF m 0 #[.val (.ref thisan), .val (.ref aan_1), .val .null, .val .null] []))
  refine Ow.aloadN X0 hx (pc' := 1) (hb hby d_prog_23_method_1_0) rfl rfl ?_
  refine Ow.aloadN X0 hx (pc' := 2) (hb hby d_prog_23_method_1_1) rfl rfl ?_
  refine Ow.aloadN X0 hx (pc' := 3) (hb hby d_prog_23_method_1_2) rfl rfl ?_
  refine Ow.aloadN X0 hx (pc' := 4) (hb hby d_prog_23_method_1_3) rfl rfl ?_
  obtain ⟨T12, X12, e12, st12⟩ := getS2 X0 hx hZ hown (host := "") (Or.inl (kw7 hw)) Via.refl e0 S_NONE (g := (mkF m 4 #[.val (.ref thisan), .val (.ref aan_1), .val .null, .val .null] [.null, .null, (.ref aan_1), (.ref thisan)])) rfl (hb hby d_prog_23_method_1_4)
  refine Wq.step st12 ?_
  show Wq _ _ _ _ _ (T12.setTop (mkF m 7 #[.val (.ref thisan), .val (.ref aan_1), .val .null, .val .null] [(.ref unean), .null, .null, (.ref aan_1), (.ref thisan)]))
  obtain ⟨_, _, ⟨T13, L13, k13, n13⟩, -, Xr13, hSr13, hgr13, ⟨Lc13, hQ13, l13, y13, z13⟩, st13⟩ := X12.specialBackS hx (y := mt3) rfl hown (mvT hZ (kw10 hw)) (mvT hZ (kw11 hw)) (mvT hZ (kw12 hw)) (by decide) (backOfS (W := 0) (rm_bn l Z a0 hw [] thisan aan_1 unean t0an t1an h0 n0 Z0 E_thisan F_thisan_unknownElements F_thisan_destinationTransactionId F_thisan_pAbortCause F_thisan_userAbortInformation g_thisan V_aan_1 E_aan_1 ne_aan_1_thisan (hft) E_unean) hZ (kw12 hw) (kw3 hw) (by decide) (by decide)) (g := (mkF m 7 #[.val (.ref thisan), .val (.ref aan_1), .val .null, .val .null] [(.ref unean), .null, .null, (.ref aan_1), (.ref thisan)])) rfl (by rw [hml]; rfl) (Steps.refl _) (a := thisan) (argsL := [(.ref aan_1), .null, .null, (.ref unean)]) (rest := []) (lenOf pd3 rfl) rfl (by show 2 * 0 + _ ≤ _; exact Nat.le_of_eq rfl) (hb hby d_prog_23_method_1_7) (fun _ _ => ⟨rfl, e12, (by decide : 0 + 3 ≤ _), (by decide : 0 + 66 ≤ _)⟩)
  dsimp only [Pt.U, Pt.locs, Pt.cells, Pt.slots] at Xr13 hSr13 hgr13 l13 y13 z13 st13 hQ13
  subst l13 y13 z13
  obtain ⟨X13, hS13, hZ13, hown13⟩ := rebS hS0 (by rw [e12]; exact hk0) Xr13 hSr13 hgr13 hZ hown
  have hk13 := Nat.le_refl T13.heap.size
  obtain ⟨b7_c13, rfl, Nq13, Kq13, szq_b7_c13, P13_0, P13_1, P13_2, P13_3, P13_4, P13_5, P13_6⟩ := hQ13
  have g_b7_c13 : n0 ≤ b7_c13 := Nat.le_trans Z0 szq_b7_c13
  have sz_b7_c13 : h0.size ≤ b7_c13 := szq_b7_c13
  have ne_thisan_b7_c13 : thisan ≠ b7_c13 := Nat.ne_of_lt (Nat.lt_of_lt_of_le E_thisan.lt szq_b7_c13)
  have ne_aan_1_b7_c13 : aan_1 ≠ b7_c13 := Nat.ne_of_lt (Nat.lt_of_lt_of_le V_aan_1.lt szq_b7_c13)
  have ne_unean_b7_c13 : unean ≠ b7_c13 := Nat.ne_of_lt (Nat.lt_of_lt_of_le E_unean.lt szq_b7_c13)
  have N13 := Fr.app N0 Nq13
  have K13 : Keep h0 T13.heap [thisan] := (Keep.refl h0 [thisan]).trans Kq13 (allS (P := fun x => x ∈ [thisan] ∨ h0.size ≤ x) (Or.inl (List.mem_of_getElem? (i := 0) rfl)) all0)
  have Z13 : n0 ≤ T13.heap.size := Nat.le_trans Z0 Kq13.1
  have E_thisan_t13 := E_thisan.keep Kq13
  have V_aan_1_t13 := V_aan_1.keep Kq13 (ninS ne_aan_1_thisan nin0)
  have E_aan_1_t13 := E_aan_1.keep Kq13
  have S_NONE_t13 := Jvm.OwnW.Sta.keepN S_NONE Kq13 (allS (P := fun w => ∀ cell : Cell, h0[w]? = some cell → cell.vm.isStatics = false) (Jvm.OwnW.Exa.ns E_thisan) all0)
  have E_unean_t13 := E_unean.keep Kq13
  have e13 : T13.heap = T13.heap := rfl
  refine Wq.steps st13 ?_
  show Wq _ _ _ _ _ (T13.setTop (mkF m 10 #[.val (.ref thisan), .val (.ref aan_1), .val .null, .val .null] []))
  exact Wq.retW X13 hS13 (by rw [e13]; exact hk13) (BodyLoose.notSynchronized Bd) (rv := none) (fun _ => rfl) (fun _ hr => X13.returnOut hx Bd.returns (hb hby d_prog_23_method_1_10) hr) (by decide) (by decide) (by rw [e13]; exact ⟨b7_c13, rfl, N13, K13, sz_b7_c13, E_thisan_t13, P13_1, P13_2, P13_3, P13_4, P13_5, P13_6⟩)
theorem d_prog_23_method_2_10 : decode prog_23_method_2_code 10 = .ok (.aload_n 3, 1) := by decide +kernel
theorem d_prog_23_method_2_11 : decode prog_23_method_2_code 11 = .ok (.ifnull 13, 3) := by decide +kernel
theorem ef_bc (m : MethodId) (thisbc : Addr) (abc_1 : Addr) (abc_2 : Addr) (abc_4 : Addr) : entryFrame m #[(.ref thisbc), (.ref abc_1), (.ref abc_2), .null, (.ref abc_4)] 5 = mkF m 0 #[.val (.ref thisbc), .val (.ref abc_1), .val (.ref abc_2), .val .null, .val (.ref abc_4)] [] := by first | (simp [entryFrame, mkF, argsToLocals, Value.category]; done) | rfl
def Q_bc (Z : State) (thisbc : Addr) (abc_1 : Addr) (abc_2 : Addr) (abc_4 : Addr) (t0bc : Int32) (t1bc : Int32) (h0 : Heap) (n0 : Nat) (v : Option Value) (h : Heap) (L : List Loc) : Prop := ∃ b15 : Addr, v = none ∧ Fr n0 L ∧ Keep h0 h [thisbc] ∧ h0.size ≤ b15 ∧ Exa Z h thisbc "com/example/opwire/opwire/codec/tcap/Abort" ∧ Fld Z h thisbc "com/example/opwire/opwire/codec/tcap/TcapMessage" "unknownElements" "Lcom/example/opwire/opwire/codec/ber/UnknownElements;" (.ref abc_4) ∧ Al Z h b15 .byte [(.int t0bc), (.int t1bc)] ∧ Exa Z h b15 "[B" ∧ Fld Z h thisbc "com/example/opwire/opwire/codec/tcap/Abort" "destinationTransactionId" "[B" (.ref b15) ∧ Fld Z h thisbc "com/example/opwire/opwire/codec/tcap/Abort" "pAbortCause" "Ljava/lang/Integer;" (.ref abc_2) ∧ Fld Z h thisbc "com/example/opwire/opwire/codec/tcap/Abort" "userAbortInformation" "[B" .null
set_option maxRecDepth 65536 in
set_option maxHeartbeats 40000000 in
theorem rm_bc (l : Launch) (Z : State) (a0 : Array Value) (hw : ∀ d ∈ tables_1, d.before a0 Z = true) (ws : List Jvm.Cond) (thisbc : Addr) (abc_1 : Addr) (abc_2 : Addr) (abc_4 : Addr) (t0bc : Int32) (t1bc : Int32) (h0 : Heap) (n0 : Nat) (Z0 : n0 ≤ h0.size) (E_thisbc : Exa Z h0 thisbc "com/example/opwire/opwire/codec/tcap/Abort") (F_thisbc_unknownElements : Fld Z h0 thisbc "com/example/opwire/opwire/codec/tcap/TcapMessage" "unknownElements" "Lcom/example/opwire/opwire/codec/ber/UnknownElements;" .null) (F_thisbc_destinationTransactionId : Fld Z h0 thisbc "com/example/opwire/opwire/codec/tcap/Abort" "destinationTransactionId" "[B" .null) (F_thisbc_pAbortCause : Fld Z h0 thisbc "com/example/opwire/opwire/codec/tcap/Abort" "pAbortCause" "Ljava/lang/Integer;" .null) (F_thisbc_userAbortInformation : Fld Z h0 thisbc "com/example/opwire/opwire/codec/tcap/Abort" "userAbortInformation" "[B" .null) (g_thisbc : n0 ≤ thisbc) (V_abc_1 : Al Z h0 abc_1 .byte [(.int t0bc), (.int t1bc)]) (E_abc_1 : Exa Z h0 abc_1 "[B") (ne_abc_1_thisbc : abc_1 ≠ thisbc) (hft : ∀ v ∈ [Value.int t0bc, .int t1bc], fits .byte v = true) (E_abc_4 : Exa Z h0 abc_4 "com/example/opwire/opwire/codec/ber/UnknownElements") :
    MetFree l mt3 (head1 (Jvm.Cond.code mt3 prog_23_method_2_code 5 none :: ws) ({ frames := 2, cells := 3, slots := 66, locals := 27 } : Room)) (fun a U => a = #[(.ref thisbc), (.ref abc_1), (.ref abc_2), .null, (.ref abc_4)] ∧ Z.Warmed39 U.vm ∧ U.heap = h0) (fun _ _ _ _ _ => True) (fun _ U o U' => ∃ v L, o = .returned v ∧ (Q_bc Z thisbc abc_1 abc_2 abc_4 t0bc t1bc h0 n0) v U'.heap L ∧ ReturnedEndW U o U' L ({ frames := 2, cells := 3, slots := 66, locals := 27 } : Room).cells ({ frames := 2, cells := 3, slots := 66, locals := 27 } : Room).slots) := by
  refine MetFree.of_bodySF (plainFor_of_name pn3) hisR ?_
  intro p e s m args below meth c s₁ Bd hml0 hP hK
  obtain ⟨rfl, hZ, hh⟩ := hP
  have hx := Bd.exec
  have hby := Bd.bytes
  have hml : c.maxLocals = 5 := hml0
  have hown : s.vm.findClass "com/example/opwire/opwire/codec/tcap/Abort" = some m.cls := findClass_of_methodNamed Bd.named
  have hnm := (name_of_methodNamed Bd.named Bd.method).1
  have hS0 : s.Since s.vm 0 := (State.WarmedH.refl s).since 0
  have hk0 : 0 ≤ h0.size := Nat.zero_le _
  have X0 : Stand p l e ({ frames := 2, cells := 3, slots := 66, locals := 27 } : Room) (s.setVm s.vm) m #[(.ref thisbc), (.ref abc_1), (.ref abc_2), .null, (.ref abc_4)] below meth c s₁ [] 0 0 := Stand.of_body Bd
  have e0 : s₁.heap = h0 := by rw [← hh, Bd.state]; rfl
  have N0 := Fr.nil n0
  refine Wq.step (p := p) (e := e) (below := below) (En := (fun o t L => ReturnedEndW s o t L ({ frames := 2, cells := 3, slots := 66, locals := 27 } : Room).cells ({ frames := 2, cells := 3, slots := 66, locals := 27 } : Room).slots)) (Q := (Q_bc Z thisbc abc_1 abc_2 abc_4 t0bc t1bc h0 n0)) (fun t k => castTop (ef_bc m thisbc abc_1 abc_2 abc_4) k) ?_
  show Wq _ _ _ _ _ (s₁.setTop (mkF m 0 #[.val (.ref thisbc), .val (.ref abc_1), .val (.ref abc_2), .val .null, .val (.ref abc_4)] []))
  refine Ow.aloadN X0 hx (pc' := 1) (hb hby d_prog_23_method_2_0) rfl rfl ?_
  refine Ow.aload X0 hx (pc' := 3) (hb hby d_prog_23_method_2_1) rfl rfl ?_
  obtain ⟨_, _, ⟨T14, L14, k14, n14⟩, -, Xr14, hSr14, hgr14, ⟨Lc14, hQ14, l14, y14, z14⟩, st14⟩ := X0.specialBackS hx (y := mt2) rfl hown (mvT hZ (kw13 hw)) (mvT hZ (kw14 hw)) (mvT hZ (kw17 hw)) (by decide) (backOfS (W := 0) (rm_tm l Z a0 hw [] thisbc abc_4 h0 n0 Z0 E_thisbc F_thisbc_unknownElements F_thisbc_destinationTransactionId F_thisbc_pAbortCause F_thisbc_userAbortInformation g_thisbc E_abc_4) hZ (kw17 hw) (kw16 hw) (by decide) (by decide)) (g := (mkF m 3 #[.val (.ref thisbc), .val (.ref abc_1), .val (.ref abc_2), .val .null, .val (.ref abc_4)] [(.ref abc_4), (.ref thisbc)])) rfl (by rw [hml]; rfl) (Steps.refl _) (a := thisbc) (argsL := [(.ref abc_4)]) (rest := []) (lenOf pd2 rfl) rfl (by show 2 * 0 + _ ≤ _; exact Nat.le_of_eq rfl) (hb hby d_prog_23_method_2_3) (fun _ _ => ⟨rfl, e0, (by decide : 0 + 2 ≤ _), (by decide : 0 + 64 ≤ _)⟩)
  dsimp only [Pt.U, Pt.locs, Pt.cells, Pt.slots] at Xr14 hSr14 hgr14 l14 y14 z14 st14 hQ14
  subst l14 y14 z14
  obtain ⟨X14, hS14, hZ14, hown14⟩ := rebS hS0 (by rw [e0]; exact hk0) Xr14 hSr14 hgr14 hZ hown
  have hk14 := Nat.le_refl T14.heap.size
  obtain ⟨rfl, Nq14, Kq14, P14_0, P14_1, P14_2, P14_3, P14_4⟩ := hQ14
  have N14 := Fr.app N0 Nq14
  have K14 : Keep h0 T14.heap [thisbc] := (Keep.refl h0 [thisbc]).trans Kq14 (allS (P := fun x => x ∈ [thisbc] ∨ h0.size ≤ x) (Or.inl (List.mem_of_getElem? (i := 0) rfl)) all0)
  have Z14 : n0 ≤ T14.heap.size := Nat.le_trans Z0 Kq14.1
  have E_thisbc_t14 := E_thisbc.keep Kq14
  have V_abc_1_t14 := V_abc_1.keep Kq14 (ninS ne_abc_1_thisbc nin0)
  have E_abc_1_t14 := E_abc_1.keep Kq14
  have E_abc_4_t14 := E_abc_4.keep Kq14
  have e14 : T14.heap = T14.heap := rfl
  refine Wq.steps st14 ?_
  show Wq _ _ _ _ _ (T14.setTop (mkF m 6 #[.val (.ref thisbc), .val (.ref abc_1), .val (.ref abc_2), .val .null, .val (.ref abc_4)] []))
  refine Ow.aloadN X14 hx (pc' := 7) (hb hby d_prog_23_method_2_6) rfl rfl ?_
  refine Ow.ifnullNo X14 hx (pc' := 10) (hb hby d_prog_23_method_2_7)  ?_
  refine Ow.aloadN X14 hx (pc' := 11) (hb hby d_prog_23_method_2_10) rfl rfl ?_
  refine Ow.ifnullYes X14 hx (pc' := 24) (hb hby d_prog_23_method_2_11) (by decide) (by decide) ?_
  refine Ow.aloadN X14 hx (pc' := 25) (hb hby d_prog_23_method_2_24) rfl rfl ?_
  refine Ow.aloadN X14 hx (pc' := 26) (hb hby d_prog_23_method_2_25) rfl rfl ?_
  obtain ⟨T15, h15, X15, e15, E15, A15, Ex15, st15⟩ := clA X14 hx hZ14 hown14 (kw36 hw) (kw37 hw) (kw41 hw) (kw39 hw) (kw40 hw) (kw42 hw) e14 V_abc_1_t14 E_abc_1_t14 (hft) (g := (mkF m 26 #[.val (.ref thisbc), .val (.ref abc_1), .val (.ref abc_2), .val .null, .val (.ref abc_4)] [(.ref abc_1), (.ref thisbc)])) rfl (by rw [hml]; rfl) rfl (hb hby d_prog_23_method_2_26) (by decide) (W := 1) (cap := 2) (by show 2 * 0 + _ ≤ _; exact Nat.le_of_eq rfl) (by decide) (Nat.le_of_ble_eq_true rfl) (by decide) (by decide)
  obtain ⟨b15, gz15⟩ : ∃ z, z = T14.heap.size := ⟨_, rfl⟩
  rw [← gz15] at A15 Ex15 st15
  have g_b15 : n0 ≤ b15 := Nat.le_trans Z14 (Nat.le_of_eq gz15.symm)
  have sz_b15 : h0.size ≤ b15 := Nat.le_trans K14.1 (Nat.le_of_eq gz15.symm)
  have ne_thisbc_b15 : thisbc ≠ b15 := Nat.ne_of_lt (Nat.lt_of_lt_of_le E_thisbc_t14.lt (Nat.le_of_eq gz15.symm))
  have ne_abc_1_b15 : abc_1 ≠ b15 := Nat.ne_of_lt (Nat.lt_of_lt_of_le V_abc_1_t14.lt (Nat.le_of_eq gz15.symm))
  have ne_abc_4_b15 : abc_4 ≠ b15 := Nat.ne_of_lt (Nat.lt_of_lt_of_le E_abc_4_t14.lt (Nat.le_of_eq gz15.symm))
  have K15 : Keep h0 h15 [thisbc] := K14.ext E15
  have Z15 : n0 ≤ h15.size := Nat.le_trans Z14 E15.1
  have hk15 := Nat.le_trans hk14 E15.1
  have E_thisbc_t15 := E_thisbc_t14.ext E15
  have V_abc_1_t15 := V_abc_1_t14.ext E15
  have E_abc_1_t15 := E_abc_1_t14.ext E15
  have E_abc_4_t15 := E_abc_4_t14.ext E15
  have P14_1_t15 := P14_1.ext E15
  have P14_2_t15 := P14_2.ext E15
  have P14_3_t15 := P14_3.ext E15
  have P14_4_t15 := P14_4.ext E15
  refine Wq.step st15 ?_
  show Wq _ _ _ _ _ (T15.setTop (mkF m 29 #[.val (.ref thisbc), .val (.ref abc_1), .val (.ref abc_2), .val .null, .val (.ref abc_4)] [(.ref b15), (.ref thisbc)]))
  obtain ⟨T16, X16, e16, st16⟩ := castY X15 hx hZ14 hown14 (kw43 hw) e15 (Ins.self Ex15) (g := (mkF m 29 #[.val (.ref thisbc), .val (.ref abc_1), .val (.ref abc_2), .val .null, .val (.ref abc_4)] [(.ref b15), (.ref thisbc)])) rfl rfl (hb hby d_prog_23_method_2_29)
  refine Wq.step st16 ?_
  show Wq _ _ _ _ _ (T16.setTop (mkF m 32 #[.val (.ref thisbc), .val (.ref abc_1), .val (.ref abc_2), .val .null, .val (.ref abc_4)] [(.ref b15), (.ref thisbc)]))
  obtain ⟨T17, h17, X17, e17, W17, st17⟩ := putF X16 hx hZ14 hown14 (host := "") (Or.inl (kw45 hw)) Via.refl e16 P14_1_t15 E_thisbc_t15 (Or.inr ⟨(kw46 hw), rfl, hnm⟩) (kw2 hw) (ty := (.array .byte)) (by decide) (rfl) (rfl) (g := (mkF m 32 #[.val (.ref thisbc), .val (.ref abc_1), .val (.ref abc_2), .val .null, .val (.ref abc_4)] [(.ref b15), (.ref thisbc)])) rfl rfl (hb hby d_prog_23_method_2_32)
  refine Wq.step st17 ?_
  have N17 := Fr.snoc X17 N14 g_thisbc
  have K17 : Keep h0 h17 [thisbc] := K15.wr W17 (Or.inl (List.mem_of_getElem? (i := 0) rfl))
  have Z17 : n0 ≤ h17.size := Nat.le_trans Z15 (Keep.of_wr W17).1
  have hk17 := Nat.le_trans hk15 (Keep.of_wr W17).1
  have E_thisbc_t17 := E_thisbc_t15.wr W17
  have V_abc_1_t17 := V_abc_1_t15.other W17 ne_abc_1_thisbc
  have E_abc_1_t17 := E_abc_1_t15.wr W17
  have E_abc_4_t17 := E_abc_4_t15.wr W17
  have P14_2_t17 := P14_2_t15.other W17 (Or.inr (slot_ne (Or.inr (kw48 hw)) (Or.inr (kw46 hw)) (by decide) (t := (.object "java/lang/Integer")) (t' := (.array .byte)) (by decide) (by decide)))
  have P14_3_t17 := P14_3_t15.other W17 (Or.inr (slot_ne (Or.inr (kw50 hw)) (Or.inr (kw46 hw)) (by decide) (t := (.array .byte)) (t' := (.array .byte)) (by decide) (by decide)))
  have P14_4_t17 := P14_4_t15.other W17 (Or.inr (slot_ne (Or.inr (kw35 hw)) (Or.inr (kw46 hw)) (by decide) (t := (.object "com/example/opwire/opwire/codec/ber/UnknownElements")) (t' := (.array .byte)) (by decide) (by decide)))
  have A15_t17 := A15.other W17 (Ne.symm ne_thisbc_b15)
  have Ex15_t17 := Ex15.wr W17
  have F_thisbc_destinationTransactionId_t17 : Fld Z h17 thisbc "com/example/opwire/opwire/codec/tcap/Abort" "destinationTransactionId" "[B" (.ref b15) := P14_1_t15.same W17
  show Wq _ _ _ _ _ (T17.setTop (mkF m 35 #[.val (.ref thisbc), .val (.ref abc_1), .val (.ref abc_2), .val .null, .val (.ref abc_4)] []))
  refine Ow.aloadN X17 hx (pc' := 36) (hb hby d_prog_23_method_2_35) rfl rfl ?_
  refine Ow.aloadN X17 hx (pc' := 37) (hb hby d_prog_23_method_2_36) rfl rfl ?_
  obtain ⟨T18, h18, X18, e18, W18, st18⟩ := putF X17 hx hZ14 hown14 (host := "") (Or.inl (kw47 hw)) Via.refl e17 P14_2_t17 E_thisbc_t17 (Or.inr ⟨(kw48 hw), rfl, hnm⟩) (kw2 hw) (ty := (.object "java/lang/Integer")) (by decide) (rfl) (rfl) (g := (mkF m 37 #[.val (.ref thisbc), .val (.ref abc_1), .val (.ref abc_2), .val .null, .val (.ref abc_4)] [(.ref abc_2), (.ref thisbc)])) rfl rfl (hb hby d_prog_23_method_2_37)
  refine Wq.step st18 ?_
  have N18 := Fr.snoc X18 N17 g_thisbc
  have K18 : Keep h0 h18 [thisbc] := K17.wr W18 (Or.inl (List.mem_of_getElem? (i := 0) rfl))
  have Z18 : n0 ≤ h18.size := Nat.le_trans Z17 (Keep.of_wr W18).1
  have hk18 := Nat.le_trans hk17 (Keep.of_wr W18).1
  have E_thisbc_t18 := E_thisbc_t17.wr W18
  have V_abc_1_t18 := V_abc_1_t17.other W18 ne_abc_1_thisbc
  have E_abc_1_t18 := E_abc_1_t17.wr W18
  have E_abc_4_t18 := E_abc_4_t17.wr W18
  have P14_3_t18 := P14_3_t17.other W18 (Or.inr (slot_ne (Or.inr (kw50 hw)) (Or.inr (kw48 hw)) (by decide) (t := (.array .byte)) (t' := (.object "java/lang/Integer")) (by decide) (by decide)))
  have P14_4_t18 := P14_4_t17.other W18 (Or.inr (slot_ne (Or.inr (kw35 hw)) (Or.inr (kw48 hw)) (by decide) (t := (.object "com/example/opwire/opwire/codec/ber/UnknownElements")) (t' := (.object "java/lang/Integer")) (by decide) (by decide)))
  have A15_t18 := A15_t17.other W18 (Ne.symm ne_thisbc_b15)
  have Ex15_t18 := Ex15_t17.wr W18
  have F_thisbc_destinationTransactionId_t18 := F_thisbc_destinationTransactionId_t17.other W18 (Or.inr (slot_ne (Or.inr (kw46 hw)) (Or.inr (kw48 hw)) (by decide) (t := (.array .byte)) (t' := (.object "java/lang/Integer")) (by decide) (by decide)))
  have F_thisbc_pAbortCause_t18 : Fld Z h18 thisbc "com/example/opwire/opwire/codec/tcap/Abort" "pAbortCause" "Ljava/lang/Integer;" (.ref abc_2) := P14_2_t17.same W18
  show Wq _ _ _ _ _ (T18.setTop (mkF m 40 #[.val (.ref thisbc), .val (.ref abc_1), .val (.ref abc_2), .val .null, .val (.ref abc_4)] []))
  refine Ow.aloadN X18 hx (pc' := 41) (hb hby d_prog_23_method_2_40) rfl rfl ?_
  refine Ow.aloadN X18 hx (pc' := 42) (hb hby d_prog_23_method_2_41) rfl rfl ?_
  refine Ow.ifnonnullNo X18 hx (pc' := 45) (hb hby d_prog_23_method_2_42)  ?_
  refine Ow.aconstNull X18 hx (pc' := 46) (hb hby d_prog_23_method_2_45)  ?_
  refine Ow.goto X18 hx (pc' := 56) (hb hby d_prog_23_method_2_46) (by decide) (by decide) ?_
  obtain ⟨T19, h19, X19, e19, W19, st19⟩ := putF X18 hx hZ14 hown14 (host := "") (Or.inl (kw49 hw)) Via.refl e18 P14_3_t18 E_thisbc_t18 (Or.inr ⟨(kw50 hw), rfl, hnm⟩) (kw2 hw) (ty := (.array .byte)) (by decide) (rfl) (rfl) (g := (mkF m 56 #[.val (.ref thisbc), .val (.ref abc_1), .val (.ref abc_2), .val .null, .val (.ref abc_4)] [.null, (.ref thisbc)])) rfl rfl (hb hby d_prog_23_method_2_56)
  refine Wq.step st19 ?_
  have N19 := Fr.snoc X19 N18 g_thisbc
  have K19 : Keep h0 h19 [thisbc] := K18.wr W19 (Or.inl (List.mem_of_getElem? (i := 0) rfl))
  have Z19 : n0 ≤ h19.size := Nat.le_trans Z18 (Keep.of_wr W19).1
  have hk19 := Nat.le_trans hk18 (Keep.of_wr W19).1
  have E_thisbc_t19 := E_thisbc_t18.wr W19
  have V_abc_1_t19 := V_abc_1_t18.other W19 ne_abc_1_thisbc
  have E_abc_1_t19 := E_abc_1_t18.wr W19
  have E_abc_4_t19 := E_abc_4_t18.wr W19
  have P14_4_t19 := P14_4_t18.other W19 (Or.inr (slot_ne (Or.inr (kw35 hw)) (Or.inr (kw50 hw)) (by decide) (t := (.object "com/example/opwire/opwire/codec/ber/UnknownElements")) (t' := (.array .byte)) (by decide) (by decide)))
  have A15_t19 := A15_t18.other W19 (Ne.symm ne_thisbc_b15)
  have Ex15_t19 := Ex15_t18.wr W19
  have F_thisbc_destinationTransactionId_t19 := F_thisbc_destinationTransactionId_t18.other W19 (Or.inr (slot_ne (Or.inr (kw46 hw)) (Or.inr (kw50 hw)) (by decide) (t := (.array .byte)) (t' := (.array .byte)) (by decide) (by decide)))
  have F_thisbc_pAbortCause_t19 := F_thisbc_pAbortCause_t18.other W19 (Or.inr (slot_ne (Or.inr (kw48 hw)) (Or.inr (kw50 hw)) (by decide) (t := (.object "java/lang/Integer")) (t' := (.array .byte)) (by decide) (by decide)))
  have F_thisbc_userAbortInformation_t19 : Fld Z h19 thisbc "com/example/opwire/opwire/codec/tcap/Abort" "userAbortInformation" "[B" .null := P14_3_t18.same W19
  show Wq _ _ _ _ _ (T19.setTop (mkF m 59 #[.val (.ref thisbc), .val (.ref abc_1), .val (.ref abc_2), .val .null, .val (.ref abc_4)] []))
  exact Wq.retW X19 hS14 (by rw [e19]; exact hk19) (BodyLoose.notSynchronized Bd) (rv := none) (fun _ => rfl) (fun _ hr => X19.returnOut hx Bd.returns (hb hby d_prog_23_method_2_59) hr) (by decide) (by decide) (by rw [e19]; exact ⟨b15, rfl, N19, K19, sz_b15, E_thisbc_t19, P14_4_t19, A15_t19, Ex15_t19, F_thisbc_destinationTransactionId_t19, F_thisbc_pAbortCause_t19, F_thisbc_userAbortInformation_t19⟩)
theorem ef_ac (m : MethodId) (thisac : Addr) (aac_1 : Addr) (aac_2 : Addr) : entryFrame m #[(.ref thisac), (.ref aac_1), (.ref aac_2), .null] 4 = mkF m 0 #[.val (.ref thisac), .val (.ref aac_1), .val (.ref aac_2), .val .null] [] := by first | (simp [entryFrame, mkF, argsToLocals, Value.category]; done) | rfl
def Q_ac (Z : State) (thisac : Addr) (aac_1 : Addr) (aac_2 : Addr) (t0ac : Int32) (t1ac : Int32) (uneac : Addr) (h0 : Heap) (n0 : Nat) (v : Option Value) (h : Heap) (L : List Loc) : Prop := ∃ b15_c21 : Addr, v = none ∧ Fr n0 L ∧ Keep h0 h [thisac] ∧ h0.size ≤ b15_c21 ∧ Exa Z h thisac "com/example/opwire/opwire/codec/tcap/Abort" ∧ Fld Z h thisac "com/example/opwire/opwire/codec/tcap/TcapMessage" "unknownElements" "Lcom/example/opwire/opwire/codec/ber/UnknownElements;" (.ref uneac) ∧ Al Z h b15_c21 .byte [(.int t0ac), (.int t1ac)] ∧ Exa Z h b15_c21 "[B" ∧ Fld Z h thisac "com/example/opwire/opwire/codec/tcap/Abort" "destinationTransactionId" "[B" (.ref b15_c21) ∧ Fld Z h thisac "com/example/opwire/opwire/codec/tcap/Abort" "pAbortCause" "Ljava/lang/Integer;" (.ref aac_2) ∧ Fld Z h thisac "com/example/opwire/opwire/codec/tcap/Abort" "userAbortInformation" "[B" .null
set_option maxRecDepth 65536 in
set_option maxHeartbeats 40000000 in
theorem rm_ac (l : Launch) (Z : State) (a0 : Array Value) (hw : ∀ d ∈ tables_1, d.before a0 Z = true) (ws : List Jvm.Cond) (thisac : Addr) (aac_1 : Addr) (aac_2 : Addr) (t0ac : Int32) (t1ac : Int32) (uneac : Addr) (h0 : Heap) (n0 : Nat) (Z0 : n0 ≤ h0.size) (E_thisac : Exa Z h0 thisac "com/example/opwire/opwire/codec/tcap/Abort") (F_thisac_unknownElements : Fld Z h0 thisac "com/example/opwire/opwire/codec/tcap/TcapMessage" "unknownElements" "Lcom/example/opwire/opwire/codec/ber/UnknownElements;" .null) (F_thisac_destinationTransactionId : Fld Z h0 thisac "com/example/opwire/opwire/codec/tcap/Abort" "destinationTransactionId" "[B" .null) (F_thisac_pAbortCause : Fld Z h0 thisac "com/example/opwire/opwire/codec/tcap/Abort" "pAbortCause" "Ljava/lang/Integer;" .null) (F_thisac_userAbortInformation : Fld Z h0 thisac "com/example/opwire/opwire/codec/tcap/Abort" "userAbortInformation" "[B" .null) (g_thisac : n0 ≤ thisac) (V_aac_1 : Al Z h0 aac_1 .byte [(.int t0ac), (.int t1ac)]) (E_aac_1 : Exa Z h0 aac_1 "[B") (ne_aac_1_thisac : aac_1 ≠ thisac) (hft : ∀ v ∈ [Value.int t0ac, .int t1ac], fits .byte v = true) (S_NONE : Sta Z h0 "com/example/opwire/opwire/codec/ber/UnknownElements" "NONE" "Lcom/example/opwire/opwire/codec/ber/UnknownElements;" (.ref uneac)) (E_uneac : Exa Z h0 uneac "com/example/opwire/opwire/codec/ber/UnknownElements") :
    MetFree l mt4 (head1 (Jvm.Cond.code mt4 prog_23_method_1_code 4 none :: ws) ({ frames := 3, cells := 3, slots := 66, locals := 43 } : Room)) (fun a U => a = #[(.ref thisac), (.ref aac_1), (.ref aac_2), .null] ∧ Z.Warmed39 U.vm ∧ U.heap = h0) (fun _ _ _ _ _ => True) (fun _ U o U' => ∃ v L, o = .returned v ∧ (Q_ac Z thisac aac_1 aac_2 t0ac t1ac uneac h0 n0) v U'.heap L ∧ ReturnedEndW U o U' L ({ frames := 3, cells := 3, slots := 66, locals := 43 } : Room).cells ({ frames := 3, cells := 3, slots := 66, locals := 43 } : Room).slots) := by
  refine MetFree.of_bodySF (plainFor_of_name pn3) hisR ?_
  intro p e s m args below meth c s₁ Bd hml0 hP hK
  obtain ⟨rfl, hZ, hh⟩ := hP
  have hx := Bd.exec
  have hby := Bd.bytes
  have hml : c.maxLocals = 4 := hml0
  have hown : s.vm.findClass "com/example/opwire/opwire/codec/tcap/Abort" = some m.cls := findClass_of_methodNamed Bd.named
  have hnm := (name_of_methodNamed Bd.named Bd.method).1
  have hS0 : s.Since s.vm 0 := (State.WarmedH.refl s).since 0
  have hk0 : 0 ≤ h0.size := Nat.zero_le _
  have X0 : Stand p l e ({ frames := 3, cells := 3, slots := 66, locals := 43 } : Room) (s.setVm s.vm) m #[(.ref thisac), (.ref aac_1), (.ref aac_2), .null] below meth c s₁ [] 0 0 := Stand.of_body Bd
  have e0 : s₁.heap = h0 := by rw [← hh, Bd.state]; rfl
  have N0 := Fr.nil n0
  refine Wq.step (p := p) (e := e) (below := below) (En := (fun o t L => ReturnedEndW s o t L ({ frames := 3, cells := 3, slots := 66, locals := 43 } : Room).cells ({ frames := 3, cells := 3, slots := 66, locals := 43 } : Room).slots)) (Q := (Q_ac Z thisac aac_1 aac_2 t0ac t1ac uneac h0 n0)) (fun t k => castTop (ef_ac m thisac aac_1 aac_2) k) ?_
  show Wq _ _ _ _ _ (s₁.setTop (mkF m 0 #[.val (.ref thisac), .val (.ref aac_1), .val (.ref aac_2), .val .null] []))
  refine Ow.aloadN X0 hx (pc' := 1) (hb hby d_prog_23_method_1_0) rfl rfl ?_
  refine Ow.aloadN X0 hx (pc' := 2) (hb hby d_prog_23_method_1_1) rfl rfl ?_
  refine Ow.aloadN X0 hx (pc' := 3) (hb hby d_prog_23_method_1_2) rfl rfl ?_
  refine Ow.aloadN X0 hx (pc' := 4) (hb hby d_prog_23_method_1_3) rfl rfl ?_
  obtain ⟨T20, X20, e20, st20⟩ := getS2 X0 hx hZ hown (host := "") (Or.inl (kw7 hw)) Via.refl e0 S_NONE (g := (mkF m 4 #[.val (.ref thisac), .val (.ref aac_1), .val (.ref aac_2), .val .null] [.null, (.ref aac_2), (.ref aac_1), (.ref thisac)])) rfl (hb hby d_prog_23_method_1_4)
  refine Wq.step st20 ?_
  show Wq _ _ _ _ _ (T20.setTop (mkF m 7 #[.val (.ref thisac), .val (.ref aac_1), .val (.ref aac_2), .val .null] [(.ref uneac), .null, (.ref aac_2), (.ref aac_1), (.ref thisac)]))
  obtain ⟨_, _, ⟨T21, L21, k21, n21⟩, -, Xr21, hSr21, hgr21, ⟨Lc21, hQ21, l21, y21, z21⟩, st21⟩ := X20.specialBackS hx (y := mt3) rfl hown (mvT hZ (kw10 hw)) (mvT hZ (kw11 hw)) (mvT hZ (kw12 hw)) (by decide) (backOfS (W := 0) (rm_bc l Z a0 hw [] thisac aac_1 aac_2 uneac t0ac t1ac h0 n0 Z0 E_thisac F_thisac_unknownElements F_thisac_destinationTransactionId F_thisac_pAbortCause F_thisac_userAbortInformation g_thisac V_aac_1 E_aac_1 ne_aac_1_thisac (hft) E_uneac) hZ (kw12 hw) (kw3 hw) (by decide) (by decide)) (g := (mkF m 7 #[.val (.ref thisac), .val (.ref aac_1), .val (.ref aac_2), .val .null] [(.ref uneac), .null, (.ref aac_2), (.ref aac_1), (.ref thisac)])) rfl (by rw [hml]; rfl) (Steps.refl _) (a := thisac) (argsL := [(.ref aac_1), (.ref aac_2), .null, (.ref uneac)]) (rest := []) (lenOf pd3 rfl) rfl (by show 2 * 0 + _ ≤ _; exact Nat.le_of_eq rfl) (hb hby d_prog_23_method_1_7) (fun _ _ => ⟨rfl, e20, (by decide : 0 + 3 ≤ _), (by decide : 0 + 66 ≤ _)⟩)
  dsimp only [Pt.U, Pt.locs, Pt.cells, Pt.slots] at Xr21 hSr21 hgr21 l21 y21 z21 st21 hQ21
  subst l21 y21 z21
  obtain ⟨X21, hS21, hZ21, hown21⟩ := rebS hS0 (by rw [e20]; exact hk0) Xr21 hSr21 hgr21 hZ hown
  have hk21 := Nat.le_refl T21.heap.size
  obtain ⟨b15_c21, rfl, Nq21, Kq21, szq_b15_c21, P21_0, P21_1, P21_2, P21_3, P21_4, P21_5, P21_6⟩ := hQ21
  have g_b15_c21 : n0 ≤ b15_c21 := Nat.le_trans Z0 szq_b15_c21
  have sz_b15_c21 : h0.size ≤ b15_c21 := szq_b15_c21
  have ne_thisac_b15_c21 : thisac ≠ b15_c21 := Nat.ne_of_lt (Nat.lt_of_lt_of_le E_thisac.lt szq_b15_c21)
  have ne_aac_1_b15_c21 : aac_1 ≠ b15_c21 := Nat.ne_of_lt (Nat.lt_of_lt_of_le V_aac_1.lt szq_b15_c21)
  have ne_uneac_b15_c21 : uneac ≠ b15_c21 := Nat.ne_of_lt (Nat.lt_of_lt_of_le E_uneac.lt szq_b15_c21)
  have N21 := Fr.app N0 Nq21
  have K21 : Keep h0 T21.heap [thisac] := (Keep.refl h0 [thisac]).trans Kq21 (allS (P := fun x => x ∈ [thisac] ∨ h0.size ≤ x) (Or.inl (List.mem_of_getElem? (i := 0) rfl)) all0)
  have Z21 : n0 ≤ T21.heap.size := Nat.le_trans Z0 Kq21.1
  have E_thisac_t21 := E_thisac.keep Kq21
  have V_aac_1_t21 := V_aac_1.keep Kq21 (ninS ne_aac_1_thisac nin0)
  have E_aac_1_t21 := E_aac_1.keep Kq21
  have S_NONE_t21 := Jvm.OwnW.Sta.keepN S_NONE Kq21 (allS (P := fun w => ∀ cell : Cell, h0[w]? = some cell → cell.vm.isStatics = false) (Jvm.OwnW.Exa.ns E_thisac) all0)
  have E_uneac_t21 := E_uneac.keep Kq21
  have e21 : T21.heap = T21.heap := rfl
  refine Wq.steps st21 ?_
  show Wq _ _ _ _ _ (T21.setTop (mkF m 10 #[.val (.ref thisac), .val (.ref aac_1), .val (.ref aac_2), .val .null] []))
  exact Wq.retW X21 hS21 (by rw [e21]; exact hk21) (BodyLoose.notSynchronized Bd) (rv := none) (fun _ => rfl) (fun _ hr => X21.returnOut hx Bd.returns (hb hby d_prog_23_method_1_10) hr) (by decide) (by decide) (by rw [e21]; exact ⟨b15_c21, rfl, N21, K21, sz_b15_c21, E_thisac_t21, P21_1, P21_2, P21_3, P21_4, P21_5, P21_6⟩)
theorem d_prog_23_method_2_49 : decode prog_23_method_2_code 49 = .ok (.aload_n 3, 1) := by decide +kernel
theorem d_prog_23_method_2_50 : decode prog_23_method_2_code 50 = .ok (.invokevirtual 25, 3) := by decide +kernel
theorem d_prog_23_method_2_53 : decode prog_23_method_2_code 53 = .ok (.checkcast 26, 3) := by decide +kernel
theorem ef_b0 (m : MethodId) (thisb0 : Addr) (ab0_1 : Addr) (ab0_3 : Addr) (ab0_4 : Addr) : entryFrame m #[(.ref thisb0), (.ref ab0_1), .null, (.ref ab0_3), (.ref ab0_4)] 5 = mkF m 0 #[.val (.ref thisb0), .val (.ref ab0_1), .val .null, .val (.ref ab0_3), .val (.ref ab0_4)] [] := by first | (simp [entryFrame, mkF, argsToLocals, Value.category]; done) | rfl
def Q_b0 (Z : State) (thisb0 : Addr) (ab0_1 : Addr) (ab0_3 : Addr) (ab0_4 : Addr) (t0b0 : Int32) (t1b0 : Int32) (h0 : Heap) (n0 : Nat) (v : Option Value) (h : Heap) (L : List Loc) : Prop := ∃ b23 b27 : Addr, v = none ∧ Fr n0 L ∧ Keep h0 h [thisb0] ∧ h0.size ≤ b23 ∧ h0.size ≤ b27 ∧ b23 ≠ b27 ∧ Exa Z h thisb0 "com/example/opwire/opwire/codec/tcap/Abort" ∧ Fld Z h thisb0 "com/example/opwire/opwire/codec/tcap/TcapMessage" "unknownElements" "Lcom/example/opwire/opwire/codec/ber/UnknownElements;" (.ref ab0_4) ∧ Al Z h b23 .byte [(.int t0b0), (.int t1b0)] ∧ Exa Z h b23 "[B" ∧ Fld Z h thisb0 "com/example/opwire/opwire/codec/tcap/Abort" "destinationTransactionId" "[B" (.ref b23) ∧ Fld Z h thisb0 "com/example/opwire/opwire/codec/tcap/Abort" "pAbortCause" "Ljava/lang/Integer;" .null ∧ Al Z h b27 .byte [] ∧ Exa Z h b27 "[B" ∧ Fld Z h thisb0 "com/example/opwire/opwire/codec/tcap/Abort" "userAbortInformation" "[B" (.ref b27)
set_option maxRecDepth 65536 in
set_option maxHeartbeats 40000000 in
theorem rm_b0 (l : Launch) (Z : State) (a0 : Array Value) (hw : ∀ d ∈ tables_1, d.before a0 Z = true) (ws : List Jvm.Cond) (thisb0 : Addr) (ab0_1 : Addr) (ab0_3 : Addr) (ab0_4 : Addr) (t0b0 : Int32) (t1b0 : Int32) (h0 : Heap) (n0 : Nat) (Z0 : n0 ≤ h0.size) (E_thisb0 : Exa Z h0 thisb0 "com/example/opwire/opwire/codec/tcap/Abort") (F_thisb0_unknownElements : Fld Z h0 thisb0 "com/example/opwire/opwire/codec/tcap/TcapMessage" "unknownElements" "Lcom/example/opwire/opwire/codec/ber/UnknownElements;" .null) (F_thisb0_destinationTransactionId : Fld Z h0 thisb0 "com/example/opwire/opwire/codec/tcap/Abort" "destinationTransactionId" "[B" .null) (F_thisb0_pAbortCause : Fld Z h0 thisb0 "com/example/opwire/opwire/codec/tcap/Abort" "pAbortCause" "Ljava/lang/Integer;" .null) (F_thisb0_userAbortInformation : Fld Z h0 thisb0 "com/example/opwire/opwire/codec/tcap/Abort" "userAbortInformation" "[B" .null) (g_thisb0 : n0 ≤ thisb0) (V_ab0_1 : Al Z h0 ab0_1 .byte [(.int t0b0), (.int t1b0)]) (E_ab0_1 : Exa Z h0 ab0_1 "[B") (ne_ab0_1_thisb0 : ab0_1 ≠ thisb0) (hft : ∀ v ∈ [Value.int t0b0, .int t1b0], fits .byte v = true) (V_ab0_3 : Al Z h0 ab0_3 .byte []) (E_ab0_3 : Exa Z h0 ab0_3 "[B") (ne_ab0_3_thisb0 : ab0_3 ≠ thisb0) (hfi : ∀ v ∈ ([] : List Value), fits .byte v = true) (E_ab0_4 : Exa Z h0 ab0_4 "com/example/opwire/opwire/codec/ber/UnknownElements") :
    MetFree l mt3 (head1 (Jvm.Cond.code mt3 prog_23_method_2_code 5 none :: ws) ({ frames := 2, cells := 4, slots := 66, locals := 27 } : Room)) (fun a U => a = #[(.ref thisb0), (.ref ab0_1), .null, (.ref ab0_3), (.ref ab0_4)] ∧ Z.Warmed39 U.vm ∧ U.heap = h0) (fun _ _ _ _ _ => True) (fun _ U o U' => ∃ v L, o = .returned v ∧ (Q_b0 Z thisb0 ab0_1 ab0_3 ab0_4 t0b0 t1b0 h0 n0) v U'.heap L ∧ ReturnedEndW U o U' L ({ frames := 2, cells := 4, slots := 66, locals := 27 } : Room).cells ({ frames := 2, cells := 4, slots := 66, locals := 27 } : Room).slots) := by
  refine MetFree.of_bodySF (plainFor_of_name pn3) hisR ?_
  intro p e s m args below meth c s₁ Bd hml0 hP hK
  obtain ⟨rfl, hZ, hh⟩ := hP
  have hx := Bd.exec
  have hby := Bd.bytes
  have hml : c.maxLocals = 5 := hml0
  have hown : s.vm.findClass "com/example/opwire/opwire/codec/tcap/Abort" = some m.cls := findClass_of_methodNamed Bd.named
  have hnm := (name_of_methodNamed Bd.named Bd.method).1
  have hS0 : s.Since s.vm 0 := (State.WarmedH.refl s).since 0
  have hk0 : 0 ≤ h0.size := Nat.zero_le _
  have X0 : Stand p l e ({ frames := 2, cells := 4, slots := 66, locals := 27 } : Room) (s.setVm s.vm) m #[(.ref thisb0), (.ref ab0_1), .null, (.ref ab0_3), (.ref ab0_4)] below meth c s₁ [] 0 0 := Stand.of_body Bd
  have e0 : s₁.heap = h0 := by rw [← hh, Bd.state]; rfl
  have N0 := Fr.nil n0
  refine Wq.step (p := p) (e := e) (below := below) (En := (fun o t L => ReturnedEndW s o t L ({ frames := 2, cells := 4, slots := 66, locals := 27 } : Room).cells ({ frames := 2, cells := 4, slots := 66, locals := 27 } : Room).slots)) (Q := (Q_b0 Z thisb0 ab0_1 ab0_3 ab0_4 t0b0 t1b0 h0 n0)) (fun t k => castTop (ef_b0 m thisb0 ab0_1 ab0_3 ab0_4) k) ?_
  show Wq _ _ _ _ _ (s₁.setTop (mkF m 0 #[.val (.ref thisb0), .val (.ref ab0_1), .val .null, .val (.ref ab0_3), .val (.ref ab0_4)] []))
  refine Ow.aloadN X0 hx (pc' := 1) (hb hby d_prog_23_method_2_0) rfl rfl ?_
  refine Ow.aload X0 hx (pc' := 3) (hb hby d_prog_23_method_2_1) rfl rfl ?_
  obtain ⟨_, _, ⟨T22, L22, k22, n22⟩, -, Xr22, hSr22, hgr22, ⟨Lc22, hQ22, l22, y22, z22⟩, st22⟩ := X0.specialBackS hx (y := mt2) rfl hown (mvT hZ (kw13 hw)) (mvT hZ (kw14 hw)) (mvT hZ (kw17 hw)) (by decide) (backOfS (W := 0) (rm_tm l Z a0 hw [] thisb0 ab0_4 h0 n0 Z0 E_thisb0 F_thisb0_unknownElements F_thisb0_destinationTransactionId F_thisb0_pAbortCause F_thisb0_userAbortInformation g_thisb0 E_ab0_4) hZ (kw17 hw) (kw16 hw) (by decide) (by decide)) (g := (mkF m 3 #[.val (.ref thisb0), .val (.ref ab0_1), .val .null, .val (.ref ab0_3), .val (.ref ab0_4)] [(.ref ab0_4), (.ref thisb0)])) rfl (by rw [hml]; rfl) (Steps.refl _) (a := thisb0) (argsL := [(.ref ab0_4)]) (rest := []) (lenOf pd2 rfl) rfl (by show 2 * 0 + _ ≤ _; exact Nat.le_of_eq rfl) (hb hby d_prog_23_method_2_3) (fun _ _ => ⟨rfl, e0, (by decide : 0 + 2 ≤ _), (by decide : 0 + 64 ≤ _)⟩)
  dsimp only [Pt.U, Pt.locs, Pt.cells, Pt.slots] at Xr22 hSr22 hgr22 l22 y22 z22 st22 hQ22
  subst l22 y22 z22
  obtain ⟨X22, hS22, hZ22, hown22⟩ := rebS hS0 (by rw [e0]; exact hk0) Xr22 hSr22 hgr22 hZ hown
  have hk22 := Nat.le_refl T22.heap.size
  obtain ⟨rfl, Nq22, Kq22, P22_0, P22_1, P22_2, P22_3, P22_4⟩ := hQ22
  have N22 := Fr.app N0 Nq22
  have K22 : Keep h0 T22.heap [thisb0] := (Keep.refl h0 [thisb0]).trans Kq22 (allS (P := fun x => x ∈ [thisb0] ∨ h0.size ≤ x) (Or.inl (List.mem_of_getElem? (i := 0) rfl)) all0)
  have Z22 : n0 ≤ T22.heap.size := Nat.le_trans Z0 Kq22.1
  have E_thisb0_t22 := E_thisb0.keep Kq22
  have V_ab0_1_t22 := V_ab0_1.keep Kq22 (ninS ne_ab0_1_thisb0 nin0)
  have E_ab0_1_t22 := E_ab0_1.keep Kq22
  have V_ab0_3_t22 := V_ab0_3.keep Kq22 (ninS ne_ab0_3_thisb0 nin0)
  have E_ab0_3_t22 := E_ab0_3.keep Kq22
  have E_ab0_4_t22 := E_ab0_4.keep Kq22
  have e22 : T22.heap = T22.heap := rfl
  refine Wq.steps st22 ?_
  show Wq _ _ _ _ _ (T22.setTop (mkF m 6 #[.val (.ref thisb0), .val (.ref ab0_1), .val .null, .val (.ref ab0_3), .val (.ref ab0_4)] []))
  refine Ow.aloadN X22 hx (pc' := 7) (hb hby d_prog_23_method_2_6) rfl rfl ?_
  refine Ow.ifnullYes X22 hx (pc' := 24) (hb hby d_prog_23_method_2_7) (by decide) (by decide) ?_
  refine Ow.aloadN X22 hx (pc' := 25) (hb hby d_prog_23_method_2_24) rfl rfl ?_
  refine Ow.aloadN X22 hx (pc' := 26) (hb hby d_prog_23_method_2_25) rfl rfl ?_
  obtain ⟨T23, h23, X23, e23, E23, A23, Ex23, st23⟩ := clA X22 hx hZ22 hown22 (kw36 hw) (kw37 hw) (kw41 hw) (kw39 hw) (kw40 hw) (kw42 hw) e22 V_ab0_1_t22 E_ab0_1_t22 (hft) (g := (mkF m 26 #[.val (.ref thisb0), .val (.ref ab0_1), .val .null, .val (.ref ab0_3), .val (.ref ab0_4)] [(.ref ab0_1), (.ref thisb0)])) rfl (by rw [hml]; rfl) rfl (hb hby d_prog_23_method_2_26) (by decide) (W := 1) (cap := 2) (by show 2 * 0 + _ ≤ _; exact Nat.le_of_eq rfl) (by decide) (Nat.le_of_ble_eq_true rfl) (by decide) (by decide)
  obtain ⟨b23, gz23⟩ : ∃ z, z = T22.heap.size := ⟨_, rfl⟩
  rw [← gz23] at A23 Ex23 st23
  have g_b23 : n0 ≤ b23 := Nat.le_trans Z22 (Nat.le_of_eq gz23.symm)
  have sz_b23 : h0.size ≤ b23 := Nat.le_trans K22.1 (Nat.le_of_eq gz23.symm)
  have ne_thisb0_b23 : thisb0 ≠ b23 := Nat.ne_of_lt (Nat.lt_of_lt_of_le E_thisb0_t22.lt (Nat.le_of_eq gz23.symm))
  have ne_ab0_1_b23 : ab0_1 ≠ b23 := Nat.ne_of_lt (Nat.lt_of_lt_of_le V_ab0_1_t22.lt (Nat.le_of_eq gz23.symm))
  have ne_ab0_3_b23 : ab0_3 ≠ b23 := Nat.ne_of_lt (Nat.lt_of_lt_of_le V_ab0_3_t22.lt (Nat.le_of_eq gz23.symm))
  have ne_ab0_4_b23 : ab0_4 ≠ b23 := Nat.ne_of_lt (Nat.lt_of_lt_of_le E_ab0_4_t22.lt (Nat.le_of_eq gz23.symm))
  have K23 : Keep h0 h23 [thisb0] := K22.ext E23
  have Z23 : n0 ≤ h23.size := Nat.le_trans Z22 E23.1
  have hk23 := Nat.le_trans hk22 E23.1
  have E_thisb0_t23 := E_thisb0_t22.ext E23
  have V_ab0_1_t23 := V_ab0_1_t22.ext E23
  have E_ab0_1_t23 := E_ab0_1_t22.ext E23
  have V_ab0_3_t23 := V_ab0_3_t22.ext E23
  have E_ab0_3_t23 := E_ab0_3_t22.ext E23
  have E_ab0_4_t23 := E_ab0_4_t22.ext E23
  have P22_1_t23 := P22_1.ext E23
  have P22_2_t23 := P22_2.ext E23
  have P22_3_t23 := P22_3.ext E23
  have P22_4_t23 := P22_4.ext E23
  refine Wq.step st23 ?_
  show Wq _ _ _ _ _ (T23.setTop (mkF m 29 #[.val (.ref thisb0), .val (.ref ab0_1), .val .null, .val (.ref ab0_3), .val (.ref ab0_4)] [(.ref b23), (.ref thisb0)]))
  obtain ⟨T24, X24, e24, st24⟩ := castY X23 hx hZ22 hown22 (kw43 hw) e23 (Ins.self Ex23) (g := (mkF m 29 #[.val (.ref thisb0), .val (.ref ab0_1), .val .null, .val (.ref ab0_3), .val (.ref ab0_4)] [(.ref b23), (.ref thisb0)])) rfl rfl (hb hby d_prog_23_method_2_29)
  refine Wq.step st24 ?_
  show Wq _ _ _ _ _ (T24.setTop (mkF m 32 #[.val (.ref thisb0), .val (.ref ab0_1), .val .null, .val (.ref ab0_3), .val (.ref ab0_4)] [(.ref b23), (.ref thisb0)]))
  obtain ⟨T25, h25, X25, e25, W25, st25⟩ := putF X24 hx hZ22 hown22 (host := "") (Or.inl (kw45 hw)) Via.refl e24 P22_1_t23 E_thisb0_t23 (Or.inr ⟨(kw46 hw), rfl, hnm⟩) (kw2 hw) (ty := (.array .byte)) (by decide) (rfl) (rfl) (g := (mkF m 32 #[.val (.ref thisb0), .val (.ref ab0_1), .val .null, .val (.ref ab0_3), .val (.ref ab0_4)] [(.ref b23), (.ref thisb0)])) rfl rfl (hb hby d_prog_23_method_2_32)
  refine Wq.step st25 ?_
  have N25 := Fr.snoc X25 N22 g_thisb0
  have K25 : Keep h0 h25 [thisb0] := K23.wr W25 (Or.inl (List.mem_of_getElem? (i := 0) rfl))
  have Z25 : n0 ≤ h25.size := Nat.le_trans Z23 (Keep.of_wr W25).1
  have hk25 := Nat.le_trans hk23 (Keep.of_wr W25).1
  have E_thisb0_t25 := E_thisb0_t23.wr W25
  have V_ab0_1_t25 := V_ab0_1_t23.other W25 ne_ab0_1_thisb0
  have E_ab0_1_t25 := E_ab0_1_t23.wr W25
  have V_ab0_3_t25 := V_ab0_3_t23.other W25 ne_ab0_3_thisb0
  have E_ab0_3_t25 := E_ab0_3_t23.wr W25
  have E_ab0_4_t25 := E_ab0_4_t23.wr W25
  have P22_2_t25 := P22_2_t23.other W25 (Or.inr (slot_ne (Or.inr (kw48 hw)) (Or.inr (kw46 hw)) (by decide) (t := (.object "java/lang/Integer")) (t' := (.array .byte)) (by decide) (by decide)))
  have P22_3_t25 := P22_3_t23.other W25 (Or.inr (slot_ne (Or.inr (kw50 hw)) (Or.inr (kw46 hw)) (by decide) (t := (.array .byte)) (t' := (.array .byte)) (by decide) (by decide)))
  have P22_4_t25 := P22_4_t23.other W25 (Or.inr (slot_ne (Or.inr (kw35 hw)) (Or.inr (kw46 hw)) (by decide) (t := (.object "com/example/opwire/opwire/codec/ber/UnknownElements")) (t' := (.array .byte)) (by decide) (by decide)))
  have A23_t25 := A23.other W25 (Ne.symm ne_thisb0_b23)
  have Ex23_t25 := Ex23.wr W25
  have F_thisb0_destinationTransactionId_t25 : Fld Z h25 thisb0 "com/example/opwire/opwire/codec/tcap/Abort" "destinationTransactionId" "[B" (.ref b23) := P22_1_t23.same W25
  show Wq _ _ _ _ _ (T25.setTop (mkF m 35 #[.val (.ref thisb0), .val (.ref ab0_1), .val .null, .val (.ref ab0_3), .val (.ref ab0_4)] []))
  refine Ow.aloadN X25 hx (pc' := 36) (hb hby d_prog_23_method_2_35) rfl rfl ?_
  refine Ow.aloadN X25 hx (pc' := 37) (hb hby d_prog_23_method_2_36) rfl rfl ?_
  obtain ⟨T26, h26, X26, e26, W26, st26⟩ := putF X25 hx hZ22 hown22 (host := "") (Or.inl (kw47 hw)) Via.refl e25 P22_2_t25 E_thisb0_t25 (Or.inr ⟨(kw48 hw), rfl, hnm⟩) (kw2 hw) (ty := (.object "java/lang/Integer")) (by decide) (rfl) (rfl) (g := (mkF m 37 #[.val (.ref thisb0), .val (.ref ab0_1), .val .null, .val (.ref ab0_3), .val (.ref ab0_4)] [.null, (.ref thisb0)])) rfl rfl (hb hby d_prog_23_method_2_37)
  refine Wq.step st26 ?_
  have N26 := Fr.snoc X26 N25 g_thisb0
  have K26 : Keep h0 h26 [thisb0] := K25.wr W26 (Or.inl (List.mem_of_getElem? (i := 0) rfl))
  have Z26 : n0 ≤ h26.size := Nat.le_trans Z25 (Keep.of_wr W26).1
  have hk26 := Nat.le_trans hk25 (Keep.of_wr W26).1
  have E_thisb0_t26 := E_thisb0_t25.wr W26
  have V_ab0_1_t26 := V_ab0_1_t25.other W26 ne_ab0_1_thisb0
  have E_ab0_1_t26 := E_ab0_1_t25.wr W26
  have V_ab0_3_t26 := V_ab0_3_t25.other W26 ne_ab0_3_thisb0
  have E_ab0_3_t26 := E_ab0_3_t25.wr W26
  have E_ab0_4_t26 := E_ab0_4_t25.wr W26
  have P22_3_t26 := P22_3_t25.other W26 (Or.inr (slot_ne (Or.inr (kw50 hw)) (Or.inr (kw48 hw)) (by decide) (t := (.array .byte)) (t' := (.object "java/lang/Integer")) (by decide) (by decide)))
  have P22_4_t26 := P22_4_t25.other W26 (Or.inr (slot_ne (Or.inr (kw35 hw)) (Or.inr (kw48 hw)) (by decide) (t := (.object "com/example/opwire/opwire/codec/ber/UnknownElements")) (t' := (.object "java/lang/Integer")) (by decide) (by decide)))
  have A23_t26 := A23_t25.other W26 (Ne.symm ne_thisb0_b23)
  have Ex23_t26 := Ex23_t25.wr W26
  have F_thisb0_destinationTransactionId_t26 := F_thisb0_destinationTransactionId_t25.other W26 (Or.inr (slot_ne (Or.inr (kw46 hw)) (Or.inr (kw48 hw)) (by decide) (t := (.array .byte)) (t' := (.object "java/lang/Integer")) (by decide) (by decide)))
  have F_thisb0_pAbortCause_t26 : Fld Z h26 thisb0 "com/example/opwire/opwire/codec/tcap/Abort" "pAbortCause" "Ljava/lang/Integer;" .null := P22_2_t25.same W26
  show Wq _ _ _ _ _ (T26.setTop (mkF m 40 #[.val (.ref thisb0), .val (.ref ab0_1), .val .null, .val (.ref ab0_3), .val (.ref ab0_4)] []))
  refine Ow.aloadN X26 hx (pc' := 41) (hb hby d_prog_23_method_2_40) rfl rfl ?_
  refine Ow.aloadN X26 hx (pc' := 42) (hb hby d_prog_23_method_2_41) rfl rfl ?_
  refine Ow.ifnonnullYes X26 hx (pc' := 49) (hb hby d_prog_23_method_2_42) (by decide) (by decide) ?_
  refine Ow.aloadN X26 hx (pc' := 50) (hb hby d_prog_23_method_2_49) rfl rfl ?_
  obtain ⟨T27, h27, X27, e27, E27, A27, Ex27, st27⟩ := clA X26 hx hZ22 hown22 (kw36 hw) (kw37 hw) (kw41 hw) (kw39 hw) (kw40 hw) (kw42 hw) e26 V_ab0_3_t26 E_ab0_3_t26 (hfi) (g := (mkF m 50 #[.val (.ref thisb0), .val (.ref ab0_1), .val .null, .val (.ref ab0_3), .val (.ref ab0_4)] [(.ref ab0_3), (.ref thisb0)])) rfl (by rw [hml]; rfl) rfl (hb hby d_prog_23_method_2_50) (by decide) (W := 1) (cap := 0) (by show 2 * 0 + _ ≤ _; exact Nat.le_of_eq rfl) (by decide) (Nat.le_of_ble_eq_true rfl) (by decide) (by decide)
  obtain ⟨b27, gz27⟩ : ∃ z, z = h26.size := ⟨_, rfl⟩
  rw [← gz27] at A27 Ex27 st27
  have g_b27 : n0 ≤ b27 := Nat.le_trans Z26 (Nat.le_of_eq gz27.symm)
  have sz_b27 : h0.size ≤ b27 := Nat.le_trans K26.1 (Nat.le_of_eq gz27.symm)
  have ne_thisb0_b27 : thisb0 ≠ b27 := Nat.ne_of_lt (Nat.lt_of_lt_of_le E_thisb0_t26.lt (Nat.le_of_eq gz27.symm))
  have ne_ab0_1_b27 : ab0_1 ≠ b27 := Nat.ne_of_lt (Nat.lt_of_lt_of_le V_ab0_1_t26.lt (Nat.le_of_eq gz27.symm))
  have ne_ab0_3_b27 : ab0_3 ≠ b27 := Nat.ne_of_lt (Nat.lt_of_lt_of_le V_ab0_3_t26.lt (Nat.le_of_eq gz27.symm))
  have ne_ab0_4_b27 : ab0_4 ≠ b27 := Nat.ne_of_lt (Nat.lt_of_lt_of_le E_ab0_4_t26.lt (Nat.le_of_eq gz27.symm))
  have ne_b23_b27 : b23 ≠ b27 := Nat.ne_of_lt (Nat.lt_of_lt_of_le A23_t26.lt (Nat.le_of_eq gz27.symm))
  have K27 : Keep h0 h27 [thisb0] := K26.ext E27
  have Z27 : n0 ≤ h27.size := Nat.le_trans Z26 E27.1
  have hk27 := Nat.le_trans hk26 E27.1
  have E_thisb0_t27 := E_thisb0_t26.ext E27
  have V_ab0_1_t27 := V_ab0_1_t26.ext E27
  have E_ab0_1_t27 := E_ab0_1_t26.ext E27
  have V_ab0_3_t27 := V_ab0_3_t26.ext E27
  have E_ab0_3_t27 := E_ab0_3_t26.ext E27
  have E_ab0_4_t27 := E_ab0_4_t26.ext E27
  have P22_3_t27 := P22_3_t26.ext E27
  have P22_4_t27 := P22_4_t26.ext E27
  have A23_t27 := A23_t26.ext E27
  have Ex23_t27 := Ex23_t26.ext E27
  have F_thisb0_destinationTransactionId_t27 := F_thisb0_destinationTransactionId_t26.ext E27
  have F_thisb0_pAbortCause_t27 := F_thisb0_pAbortCause_t26.ext E27
  refine Wq.step st27 ?_
  show Wq _ _ _ _ _ (T27.setTop (mkF m 53 #[.val (.ref thisb0), .val (.ref ab0_1), .val .null, .val (.ref ab0_3), .val (.ref ab0_4)] [(.ref b27), (.ref thisb0)]))
  obtain ⟨T28, X28, e28, st28⟩ := castY X27 hx hZ22 hown22 (kw43 hw) e27 (Ins.self Ex27) (g := (mkF m 53 #[.val (.ref thisb0), .val (.ref ab0_1), .val .null, .val (.ref ab0_3), .val (.ref ab0_4)] [(.ref b27), (.ref thisb0)])) rfl rfl (hb hby d_prog_23_method_2_53)
  refine Wq.step st28 ?_
  show Wq _ _ _ _ _ (T28.setTop (mkF m 56 #[.val (.ref thisb0), .val (.ref ab0_1), .val .null, .val (.ref ab0_3), .val (.ref ab0_4)] [(.ref b27), (.ref thisb0)]))
  obtain ⟨T29, h29, X29, e29, W29, st29⟩ := putF X28 hx hZ22 hown22 (host := "") (Or.inl (kw49 hw)) Via.refl e28 P22_3_t27 E_thisb0_t27 (Or.inr ⟨(kw50 hw), rfl, hnm⟩) (kw2 hw) (ty := (.array .byte)) (by decide) (rfl) (rfl) (g := (mkF m 56 #[.val (.ref thisb0), .val (.ref ab0_1), .val .null, .val (.ref ab0_3), .val (.ref ab0_4)] [(.ref b27), (.ref thisb0)])) rfl rfl (hb hby d_prog_23_method_2_56)
  refine Wq.step st29 ?_
  have N29 := Fr.snoc X29 N26 g_thisb0
  have K29 : Keep h0 h29 [thisb0] := K27.wr W29 (Or.inl (List.mem_of_getElem? (i := 0) rfl))
  have Z29 : n0 ≤ h29.size := Nat.le_trans Z27 (Keep.of_wr W29).1
  have hk29 := Nat.le_trans hk27 (Keep.of_wr W29).1
  have E_thisb0_t29 := E_thisb0_t27.wr W29
  have V_ab0_1_t29 := V_ab0_1_t27.other W29 ne_ab0_1_thisb0
  have E_ab0_1_t29 := E_ab0_1_t27.wr W29
  have V_ab0_3_t29 := V_ab0_3_t27.other W29 ne_ab0_3_thisb0
  have E_ab0_3_t29 := E_ab0_3_t27.wr W29
  have E_ab0_4_t29 := E_ab0_4_t27.wr W29
  have P22_4_t29 := P22_4_t27.other W29 (Or.inr (slot_ne (Or.inr (kw35 hw)) (Or.inr (kw50 hw)) (by decide) (t := (.object "com/example/opwire/opwire/codec/ber/UnknownElements")) (t' := (.array .byte)) (by decide) (by decide)))
  have A23_t29 := A23_t27.other W29 (Ne.symm ne_thisb0_b23)
  have Ex23_t29 := Ex23_t27.wr W29
  have F_thisb0_destinationTransactionId_t29 := F_thisb0_destinationTransactionId_t27.other W29 (Or.inr (slot_ne (Or.inr (kw46 hw)) (Or.inr (kw50 hw)) (by decide) (t := (.array .byte)) (t' := (.array .byte)) (by decide) (by decide)))
  have F_thisb0_pAbortCause_t29 := F_thisb0_pAbortCause_t27.other W29 (Or.inr (slot_ne (Or.inr (kw48 hw)) (Or.inr (kw50 hw)) (by decide) (t := (.object "java/lang/Integer")) (t' := (.array .byte)) (by decide) (by decide)))
  have A27_t29 := A27.other W29 (Ne.symm ne_thisb0_b27)
  have Ex27_t29 := Ex27.wr W29
  have F_thisb0_userAbortInformation_t29 : Fld Z h29 thisb0 "com/example/opwire/opwire/codec/tcap/Abort" "userAbortInformation" "[B" (.ref b27) := P22_3_t27.same W29
  show Wq _ _ _ _ _ (T29.setTop (mkF m 59 #[.val (.ref thisb0), .val (.ref ab0_1), .val .null, .val (.ref ab0_3), .val (.ref ab0_4)] []))
  exact Wq.retW X29 hS22 (by rw [e29]; exact hk29) (BodyLoose.notSynchronized Bd) (rv := none) (fun _ => rfl) (fun _ hr => X29.returnOut hx Bd.returns (hb hby d_prog_23_method_2_59) hr) (by decide) (by decide) (by rw [e29]; exact ⟨b23, b27, rfl, N29, K29, sz_b23, sz_b27, ne_b23_b27, E_thisb0_t29, P22_4_t29, A23_t29, Ex23_t29, F_thisb0_destinationTransactionId_t29, F_thisb0_pAbortCause_t29, A27_t29, Ex27_t29, F_thisb0_userAbortInformation_t29⟩)
theorem ef_a0 (m : MethodId) (thisa0 : Addr) (aa0_1 : Addr) (aa0_3 : Addr) : entryFrame m #[(.ref thisa0), (.ref aa0_1), .null, (.ref aa0_3)] 4 = mkF m 0 #[.val (.ref thisa0), .val (.ref aa0_1), .val .null, .val (.ref aa0_3)] [] := by first | (simp [entryFrame, mkF, argsToLocals, Value.category]; done) | rfl
def Q_a0 (Z : State) (thisa0 : Addr) (aa0_1 : Addr) (aa0_3 : Addr) (t0a0 : Int32) (t1a0 : Int32) (unea0 : Addr) (h0 : Heap) (n0 : Nat) (v : Option Value) (h : Heap) (L : List Loc) : Prop := ∃ b23_c31 b27_c31 : Addr, v = none ∧ Fr n0 L ∧ Keep h0 h [thisa0] ∧ h0.size ≤ b23_c31 ∧ h0.size ≤ b27_c31 ∧ b23_c31 ≠ b27_c31 ∧ Exa Z h thisa0 "com/example/opwire/opwire/codec/tcap/Abort" ∧ Fld Z h thisa0 "com/example/opwire/opwire/codec/tcap/TcapMessage" "unknownElements" "Lcom/example/opwire/opwire/codec/ber/UnknownElements;" (.ref unea0) ∧ Al Z h b23_c31 .byte [(.int t0a0), (.int t1a0)] ∧ Exa Z h b23_c31 "[B" ∧ Fld Z h thisa0 "com/example/opwire/opwire/codec/tcap/Abort" "destinationTransactionId" "[B" (.ref b23_c31) ∧ Fld Z h thisa0 "com/example/opwire/opwire/codec/tcap/Abort" "pAbortCause" "Ljava/lang/Integer;" .null ∧ Al Z h b27_c31 .byte [] ∧ Exa Z h b27_c31 "[B" ∧ Fld Z h thisa0 "com/example/opwire/opwire/codec/tcap/Abort" "userAbortInformation" "[B" (.ref b27_c31)
set_option maxRecDepth 65536 in
set_option maxHeartbeats 40000000 in
theorem rm_a0 (l : Launch) (Z : State) (a0 : Array Value) (hw : ∀ d ∈ tables_1, d.before a0 Z = true) (ws : List Jvm.Cond) (thisa0 : Addr) (aa0_1 : Addr) (aa0_3 : Addr) (t0a0 : Int32) (t1a0 : Int32) (unea0 : Addr) (h0 : Heap) (n0 : Nat) (Z0 : n0 ≤ h0.size) (E_thisa0 : Exa Z h0 thisa0 "com/example/opwire/opwire/codec/tcap/Abort") (F_thisa0_unknownElements : Fld Z h0 thisa0 "com/example/opwire/opwire/codec/tcap/TcapMessage" "unknownElements" "Lcom/example/opwire/opwire/codec/ber/UnknownElements;" .null) (F_thisa0_destinationTransactionId : Fld Z h0 thisa0 "com/example/opwire/opwire/codec/tcap/Abort" "destinationTransactionId" "[B" .null) (F_thisa0_pAbortCause : Fld Z h0 thisa0 "com/example/opwire/opwire/codec/tcap/Abort" "pAbortCause" "Ljava/lang/Integer;" .null) (F_thisa0_userAbortInformation : Fld Z h0 thisa0 "com/example/opwire/opwire/codec/tcap/Abort" "userAbortInformation" "[B" .null) (g_thisa0 : n0 ≤ thisa0) (V_aa0_1 : Al Z h0 aa0_1 .byte [(.int t0a0), (.int t1a0)]) (E_aa0_1 : Exa Z h0 aa0_1 "[B") (ne_aa0_1_thisa0 : aa0_1 ≠ thisa0) (hft : ∀ v ∈ [Value.int t0a0, .int t1a0], fits .byte v = true) (V_aa0_3 : Al Z h0 aa0_3 .byte []) (E_aa0_3 : Exa Z h0 aa0_3 "[B") (ne_aa0_3_thisa0 : aa0_3 ≠ thisa0) (hfi : ∀ v ∈ ([] : List Value), fits .byte v = true) (S_NONE : Sta Z h0 "com/example/opwire/opwire/codec/ber/UnknownElements" "NONE" "Lcom/example/opwire/opwire/codec/ber/UnknownElements;" (.ref unea0)) (E_unea0 : Exa Z h0 unea0 "com/example/opwire/opwire/codec/ber/UnknownElements") :
    MetFree l mt4 (head1 (Jvm.Cond.code mt4 prog_23_method_1_code 4 none :: ws) ({ frames := 3, cells := 4, slots := 66, locals := 43 } : Room)) (fun a U => a = #[(.ref thisa0), (.ref aa0_1), .null, (.ref aa0_3)] ∧ Z.Warmed39 U.vm ∧ U.heap = h0) (fun _ _ _ _ _ => True) (fun _ U o U' => ∃ v L, o = .returned v ∧ (Q_a0 Z thisa0 aa0_1 aa0_3 t0a0 t1a0 unea0 h0 n0) v U'.heap L ∧ ReturnedEndW U o U' L ({ frames := 3, cells := 4, slots := 66, locals := 43 } : Room).cells ({ frames := 3, cells := 4, slots := 66, locals := 43 } : Room).slots) := by
  refine MetFree.of_bodySF (plainFor_of_name pn3) hisR ?_
  intro p e s m args below meth c s₁ Bd hml0 hP hK
  obtain ⟨rfl, hZ, hh⟩ := hP
  have hx := Bd.exec
  have hby := Bd.bytes
  have hml : c.maxLocals = 4 := hml0
  have hown : s.vm.findClass "com/example/opwire/opwire/codec/tcap/Abort" = some m.cls := findClass_of_methodNamed Bd.named
  have hnm := (name_of_methodNamed Bd.named Bd.method).1
  have hS0 : s.Since s.vm 0 := (State.WarmedH.refl s).since 0
  have hk0 : 0 ≤ h0.size := Nat.zero_le _
  have X0 : Stand p l e ({ frames := 3, cells := 4, slots := 66, locals := 43 } : Room) (s.setVm s.vm) m #[(.ref thisa0), (.ref aa0_1), .null, (.ref aa0_3)] below meth c s₁ [] 0 0 := Stand.of_body Bd
  have e0 : s₁.heap = h0 := by rw [← hh, Bd.state]; rfl
  have N0 := Fr.nil n0
  refine Wq.step (p := p) (e := e) (below := below) (En := (fun o t L => ReturnedEndW s o t L ({ frames := 3, cells := 4, slots := 66, locals := 43 } : Room).cells ({ frames := 3, cells := 4, slots := 66, locals := 43 } : Room).slots)) (Q := (Q_a0 Z thisa0 aa0_1 aa0_3 t0a0 t1a0 unea0 h0 n0)) (fun t k => castTop (ef_a0 m thisa0 aa0_1 aa0_3) k) ?_
  show Wq _ _ _ _ _ (s₁.setTop (mkF m 0 #[.val (.ref thisa0), .val (.ref aa0_1), .val .null, .val (.ref aa0_3)] []))
  refine Ow.aloadN X0 hx (pc' := 1) (hb hby d_prog_23_method_1_0) rfl rfl ?_
  refine Ow.aloadN X0 hx (pc' := 2) (hb hby d_prog_23_method_1_1) rfl rfl ?_
  refine Ow.aloadN X0 hx (pc' := 3) (hb hby d_prog_23_method_1_2) rfl rfl ?_
  refine Ow.aloadN X0 hx (pc' := 4) (hb hby d_prog_23_method_1_3) rfl rfl ?_
  obtain ⟨T30, X30, e30, st30⟩ := getS2 X0 hx hZ hown (host := "") (Or.inl (kw7 hw)) Via.refl e0 S_NONE (g := (mkF m 4 #[.val (.ref thisa0), .val (.ref aa0_1), .val .null, .val (.ref aa0_3)] [(.ref aa0_3), .null, (.ref aa0_1), (.ref thisa0)])) rfl (hb hby d_prog_23_method_1_4)
  refine Wq.step st30 ?_
  show Wq _ _ _ _ _ (T30.setTop (mkF m 7 #[.val (.ref thisa0), .val (.ref aa0_1), .val .null, .val (.ref aa0_3)] [(.ref unea0), (.ref aa0_3), .null, (.ref aa0_1), (.ref thisa0)]))
  obtain ⟨_, _, ⟨T31, L31, k31, n31⟩, -, Xr31, hSr31, hgr31, ⟨Lc31, hQ31, l31, y31, z31⟩, st31⟩ := X30.specialBackS hx (y := mt3) rfl hown (mvT hZ (kw10 hw)) (mvT hZ (kw11 hw)) (mvT hZ (kw12 hw)) (by decide) (backOfS (W := 0) (rm_b0 l Z a0 hw [] thisa0 aa0_1 aa0_3 unea0 t0a0 t1a0 h0 n0 Z0 E_thisa0 F_thisa0_unknownElements F_thisa0_destinationTransactionId F_thisa0_pAbortCause F_thisa0_userAbortInformation g_thisa0 V_aa0_1 E_aa0_1 ne_aa0_1_thisa0 (hft) V_aa0_3 E_aa0_3 ne_aa0_3_thisa0 (hfi) E_unea0) hZ (kw12 hw) (kw3 hw) (by decide) (by decide)) (g := (mkF m 7 #[.val (.ref thisa0), .val (.ref aa0_1), .val .null, .val (.ref aa0_3)] [(.ref unea0), (.ref aa0_3), .null, (.ref aa0_1), (.ref thisa0)])) rfl (by rw [hml]; rfl) (Steps.refl _) (a := thisa0) (argsL := [(.ref aa0_1), .null, (.ref aa0_3), (.ref unea0)]) (rest := []) (lenOf pd3 rfl) rfl (by show 2 * 0 + _ ≤ _; exact Nat.le_of_eq rfl) (hb hby d_prog_23_method_1_7) (fun _ _ => ⟨rfl, e30, (by decide : 0 + 4 ≤ _), (by decide : 0 + 66 ≤ _)⟩)
  dsimp only [Pt.U, Pt.locs, Pt.cells, Pt.slots] at Xr31 hSr31 hgr31 l31 y31 z31 st31 hQ31
  subst l31 y31 z31
  obtain ⟨X31, hS31, hZ31, hown31⟩ := rebS hS0 (by rw [e30]; exact hk0) Xr31 hSr31 hgr31 hZ hown
  have hk31 := Nat.le_refl T31.heap.size
  obtain ⟨b23_c31, b27_c31, rfl, Nq31, Kq31, szq_b23_c31, szq_b27_c31, ne_b23_c31_b27_c31, P31_0, P31_1, P31_2, P31_3, P31_4, P31_5, P31_6, P31_7, P31_8⟩ := hQ31
  have g_b23_c31 : n0 ≤ b23_c31 := Nat.le_trans Z0 szq_b23_c31
  have sz_b23_c31 : h0.size ≤ b23_c31 := szq_b23_c31
  have ne_thisa0_b23_c31 : thisa0 ≠ b23_c31 := Nat.ne_of_lt (Nat.lt_of_lt_of_le E_thisa0.lt szq_b23_c31)
  have ne_aa0_1_b23_c31 : aa0_1 ≠ b23_c31 := Nat.ne_of_lt (Nat.lt_of_lt_of_le V_aa0_1.lt szq_b23_c31)
  have ne_aa0_3_b23_c31 : aa0_3 ≠ b23_c31 := Nat.ne_of_lt (Nat.lt_of_lt_of_le V_aa0_3.lt szq_b23_c31)
  have ne_unea0_b23_c31 : unea0 ≠ b23_c31 := Nat.ne_of_lt (Nat.lt_of_lt_of_le E_unea0.lt szq_b23_c31)
  have g_b27_c31 : n0 ≤ b27_c31 := Nat.le_trans Z0 szq_b27_c31
  have sz_b27_c31 : h0.size ≤ b27_c31 := szq_b27_c31
  have ne_thisa0_b27_c31 : thisa0 ≠ b27_c31 := Nat.ne_of_lt (Nat.lt_of_lt_of_le E_thisa0.lt szq_b27_c31)
  have ne_aa0_1_b27_c31 : aa0_1 ≠ b27_c31 := Nat.ne_of_lt (Nat.lt_of_lt_of_le V_aa0_1.lt szq_b27_c31)
  have ne_aa0_3_b27_c31 : aa0_3 ≠ b27_c31 := Nat.ne_of_lt (Nat.lt_of_lt_of_le V_aa0_3.lt szq_b27_c31)
  have ne_unea0_b27_c31 : unea0 ≠ b27_c31 := Nat.ne_of_lt (Nat.lt_of_lt_of_le E_unea0.lt szq_b27_c31)
  have N31 := Fr.app N0 Nq31
  have K31 : Keep h0 T31.heap [thisa0] := (Keep.refl h0 [thisa0]).trans Kq31 (allS (P := fun x => x ∈ [thisa0] ∨ h0.size ≤ x) (Or.inl (List.mem_of_getElem? (i := 0) rfl)) all0)
  have Z31 : n0 ≤ T31.heap.size := Nat.le_trans Z0 Kq31.1
  have E_thisa0_t31 := E_thisa0.keep Kq31
  have V_aa0_1_t31 := V_aa0_1.keep Kq31 (ninS ne_aa0_1_thisa0 nin0)
  have E_aa0_1_t31 := E_aa0_1.keep Kq31
  have V_aa0_3_t31 := V_aa0_3.keep Kq31 (ninS ne_aa0_3_thisa0 nin0)
  have E_aa0_3_t31 := E_aa0_3.keep Kq31
  have S_NONE_t31 := Jvm.OwnW.Sta.keepN S_NONE Kq31 (allS (P := fun w => ∀ cell : Cell, h0[w]? = some cell → cell.vm.isStatics = false) (Jvm.OwnW.Exa.ns E_thisa0) all0)
  have E_unea0_t31 := E_unea0.keep Kq31
  have e31 : T31.heap = T31.heap := rfl
  refine Wq.steps st31 ?_
  show Wq _ _ _ _ _ (T31.setTop (mkF m 10 #[.val (.ref thisa0), .val (.ref aa0_1), .val .null, .val (.ref aa0_3)] []))
  exact Wq.retW X31 hS31 (by rw [e31]; exact hk31) (BodyLoose.notSynchronized Bd) (rv := none) (fun _ => rfl) (fun _ hr => X31.returnOut hx Bd.returns (hb hby d_prog_23_method_1_10) hr) (by decide) (by decide) (by rw [e31]; exact ⟨b23_c31, b27_c31, rfl, N31, K31, sz_b23_c31, sz_b27_c31, ne_b23_c31_b27_c31, E_thisa0_t31, P31_1, P31_2, P31_3, P31_4, P31_5, P31_6, P31_7, P31_8⟩)
theorem ef_b1 (m : MethodId) (thisb1 : Addr) (ab1_1 : Addr) (ab1_3 : Addr) (ab1_4 : Addr) : entryFrame m #[(.ref thisb1), (.ref ab1_1), .null, (.ref ab1_3), (.ref ab1_4)] 5 = mkF m 0 #[.val (.ref thisb1), .val (.ref ab1_1), .val .null, .val (.ref ab1_3), .val (.ref ab1_4)] [] := by first | (simp [entryFrame, mkF, argsToLocals, Value.category]; done) | rfl
def Q_b1 (Z : State) (thisb1 : Addr) (ab1_1 : Addr) (ab1_3 : Addr) (ab1_4 : Addr) (t0b1 : Int32) (t1b1 : Int32) (i0b1 : Int32) (h0 : Heap) (n0 : Nat) (v : Option Value) (h : Heap) (L : List Loc) : Prop := ∃ b33 b37 : Addr, v = none ∧ Fr n0 L ∧ Keep h0 h [thisb1] ∧ h0.size ≤ b33 ∧ h0.size ≤ b37 ∧ b33 ≠ b37 ∧ Exa Z h thisb1 "com/example/opwire/opwire/codec/tcap/Abort" ∧ Fld Z h thisb1 "com/example/opwire/opwire/codec/tcap/TcapMessage" "unknownElements" "Lcom/example/opwire/opwire/codec/ber/UnknownElements;" (.ref ab1_4) ∧ Al Z h b33 .byte [(.int t0b1), (.int t1b1)] ∧ Exa Z h b33 "[B" ∧ Fld Z h thisb1 "com/example/opwire/opwire/codec/tcap/Abort" "destinationTransactionId" "[B" (.ref b33) ∧ Fld Z h thisb1 "com/example/opwire/opwire/codec/tcap/Abort" "pAbortCause" "Ljava/lang/Integer;" .null ∧ Al Z h b37 .byte [(.int i0b1)] ∧ Exa Z h b37 "[B" ∧ Fld Z h thisb1 "com/example/opwire/opwire/codec/tcap/Abort" "userAbortInformation" "[B" (.ref b37)
set_option maxRecDepth 65536 in
set_option maxHeartbeats 40000000 in
theorem rm_b1 (l : Launch) (Z : State) (a0 : Array Value) (hw : ∀ d ∈ tables_1, d.before a0 Z = true) (ws : List Jvm.Cond) (thisb1 : Addr) (ab1_1 : Addr) (ab1_3 : Addr) (ab1_4 : Addr) (t0b1 : Int32) (t1b1 : Int32) (i0b1 : Int32) (h0 : Heap) (n0 : Nat) (Z0 : n0 ≤ h0.size) (E_thisb1 : Exa Z h0 thisb1 "com/example/opwire/opwire/codec/tcap/Abort") (F_thisb1_unknownElements : Fld Z h0 thisb1 "com/example/opwire/opwire/codec/tcap/TcapMessage" "unknownElements" "Lcom/example/opwire/opwire/codec/ber/UnknownElements;" .null) (F_thisb1_destinationTransactionId : Fld Z h0 thisb1 "com/example/opwire/opwire/codec/tcap/Abort" "destinationTransactionId" "[B" .null) (F_thisb1_pAbortCause : Fld Z h0 thisb1 "com/example/opwire/opwire/codec/tcap/Abort" "pAbortCause" "Ljava/lang/Integer;" .null) (F_thisb1_userAbortInformation : Fld Z h0 thisb1 "com/example/opwire/opwire/codec/tcap/Abort" "userAbortInformation" "[B" .null) (g_thisb1 : n0 ≤ thisb1) (V_ab1_1 : Al Z h0 ab1_1 .byte [(.int t0b1), (.int t1b1)]) (E_ab1_1 : Exa Z h0 ab1_1 "[B") (ne_ab1_1_thisb1 : ab1_1 ≠ thisb1) (hft : ∀ v ∈ [Value.int t0b1, .int t1b1], fits .byte v = true) (V_ab1_3 : Al Z h0 ab1_3 .byte [(.int i0b1)]) (E_ab1_3 : Exa Z h0 ab1_3 "[B") (ne_ab1_3_thisb1 : ab1_3 ≠ thisb1) (hfi : ∀ v ∈ ([(.int i0b1)] : List Value), fits .byte v = true) (E_ab1_4 : Exa Z h0 ab1_4 "com/example/opwire/opwire/codec/ber/UnknownElements") :
    MetFree l mt3 (head1 (Jvm.Cond.code mt3 prog_23_method_2_code 5 none :: ws) ({ frames := 2, cells := 4, slots := 67, locals := 27 } : Room)) (fun a U => a = #[(.ref thisb1), (.ref ab1_1), .null, (.ref ab1_3), (.ref ab1_4)] ∧ Z.Warmed39 U.vm ∧ U.heap = h0) (fun _ _ _ _ _ => True) (fun _ U o U' => ∃ v L, o = .returned v ∧ (Q_b1 Z thisb1 ab1_1 ab1_3 ab1_4 t0b1 t1b1 i0b1 h0 n0) v U'.heap L ∧ ReturnedEndW U o U' L ({ frames := 2, cells := 4, slots := 67, locals := 27 } : Room).cells ({ frames := 2, cells := 4, slots := 67, locals := 27 } : Room).slots) := by
  refine MetFree.of_bodySF (plainFor_of_name pn3) hisR ?_
  intro p e s m args below meth c s₁ Bd hml0 hP hK
  obtain ⟨rfl, hZ, hh⟩ := hP
  have hx := Bd.exec
  have hby := Bd.bytes
  have hml : c.maxLocals = 5 := hml0
  have hown : s.vm.findClass "com/example/opwire/opwire/codec/tcap/Abort" = some m.cls := findClass_of_methodNamed Bd.named
  have hnm := (name_of_methodNamed Bd.named Bd.method).1
  have hS0 : s.Since s.vm 0 := (State.WarmedH.refl s).since 0
  have hk0 : 0 ≤ h0.size := Nat.zero_le _
  have X0 : Stand p l e ({ frames := 2, cells := 4, slots := 67, locals := 27 } : Room) (s.setVm s.vm) m #[(.ref thisb1), (.ref ab1_1), .null, (.ref ab1_3), (.ref ab1_4)] below meth c s₁ [] 0 0 := Stand.of_body Bd
  have e0 : s₁.heap = h0 := by rw [← hh, Bd.state]; rfl
  have N0 := Fr.nil n0
  refine Wq.step (p := p) (e := e) (below := below) (En := (fun o t L => ReturnedEndW s o t L ({ frames := 2, cells := 4, slots := 67, locals := 27 } : Room).cells ({ frames := 2, cells := 4, slots := 67, locals := 27 } : Room).slots)) (Q := (Q_b1 Z thisb1 ab1_1 ab1_3 ab1_4 t0b1 t1b1 i0b1 h0 n0)) (fun t k => castTop (ef_b1 m thisb1 ab1_1 ab1_3 ab1_4) k) ?_
  show Wq _ _ _ _ _ (s₁.setTop (mkF m 0 #[.val (.ref thisb1), .val (.ref ab1_1), .val .null, .val (.ref ab1_3), .val (.ref ab1_4)] []))
  refine Ow.aloadN X0 hx (pc' := 1) (hb hby d_prog_23_method_2_0) rfl rfl ?_
  refine Ow.aload X0 hx (pc' := 3) (hb hby d_prog_23_method_2_1) rfl rfl ?_
  obtain ⟨_, _, ⟨T32, L32, k32, n32⟩, -, Xr32, hSr32, hgr32, ⟨Lc32, hQ32, l32, y32, z32⟩, st32⟩ := X0.specialBackS hx (y := mt2) rfl hown (mvT hZ (kw13 hw)) (mvT hZ (kw14 hw)) (mvT hZ (kw17 hw)) (by decide) (backOfS (W := 0) (rm_tm l Z a0 hw [] thisb1 ab1_4 h0 n0 Z0 E_thisb1 F_thisb1_unknownElements F_thisb1_destinationTransactionId F_thisb1_pAbortCause F_thisb1_userAbortInformation g_thisb1 E_ab1_4) hZ (kw17 hw) (kw16 hw) (by decide) (by decide)) (g := (mkF m 3 #[.val (.ref thisb1), .val (.ref ab1_1), .val .null, .val (.ref ab1_3), .val (.ref ab1_4)] [(.ref ab1_4), (.ref thisb1)])) rfl (by rw [hml]; rfl) (Steps.refl _) (a := thisb1) (argsL := [(.ref ab1_4)]) (rest := []) (lenOf pd2 rfl) rfl (by show 2 * 0 + _ ≤ _; exact Nat.le_of_eq rfl) (hb hby d_prog_23_method_2_3) (fun _ _ => ⟨rfl, e0, (by decide : 0 + 2 ≤ _), (by decide : 0 + 64 ≤ _)⟩)
  dsimp only [Pt.U, Pt.locs, Pt.cells, Pt.slots] at Xr32 hSr32 hgr32 l32 y32 z32 st32 hQ32
  subst l32 y32 z32
  obtain ⟨X32, hS32, hZ32, hown32⟩ := rebS hS0 (by rw [e0]; exact hk0) Xr32 hSr32 hgr32 hZ hown
  have hk32 := Nat.le_refl T32.heap.size
  obtain ⟨rfl, Nq32, Kq32, P32_0, P32_1, P32_2, P32_3, P32_4⟩ := hQ32
  have N32 := Fr.app N0 Nq32
  have K32 : Keep h0 T32.heap [thisb1] := (Keep.refl h0 [thisb1]).trans Kq32 (allS (P := fun x => x ∈ [thisb1] ∨ h0.size ≤ x) (Or.inl (List.mem_of_getElem? (i := 0) rfl)) all0)
  have Z32 : n0 ≤ T32.heap.size := Nat.le_trans Z0 Kq32.1
  have E_thisb1_t32 := E_thisb1.keep Kq32
  have V_ab1_1_t32 := V_ab1_1.keep Kq32 (ninS ne_ab1_1_thisb1 nin0)
  have E_ab1_1_t32 := E_ab1_1.keep Kq32
  have V_ab1_3_t32 := V_ab1_3.keep Kq32 (ninS ne_ab1_3_thisb1 nin0)
  have E_ab1_3_t32 := E_ab1_3.keep Kq32
  have E_ab1_4_t32 := E_ab1_4.keep Kq32
  have e32 : T32.heap = T32.heap := rfl
  refine Wq.steps st32 ?_
  show Wq _ _ _ _ _ (T32.setTop (mkF m 6 #[.val (.ref thisb1), .val (.ref ab1_1), .val .null, .val (.ref ab1_3), .val (.ref ab1_4)] []))
  refine Ow.aloadN X32 hx (pc' := 7) (hb hby d_prog_23_method_2_6) rfl rfl ?_
  refine Ow.ifnullYes X32 hx (pc' := 24) (hb hby d_prog_23_method_2_7) (by decide) (by decide) ?_
  refine Ow.aloadN X32 hx (pc' := 25) (hb hby d_prog_23_method_2_24) rfl rfl ?_
  refine Ow.aloadN X32 hx (pc' := 26) (hb hby d_prog_23_method_2_25) rfl rfl ?_
  obtain ⟨T33, h33, X33, e33, E33, A33, Ex33, st33⟩ := clA X32 hx hZ32 hown32 (kw36 hw) (kw37 hw) (kw41 hw) (kw39 hw) (kw40 hw) (kw42 hw) e32 V_ab1_1_t32 E_ab1_1_t32 (hft) (g := (mkF m 26 #[.val (.ref thisb1), .val (.ref ab1_1), .val .null, .val (.ref ab1_3), .val (.ref ab1_4)] [(.ref ab1_1), (.ref thisb1)])) rfl (by rw [hml]; rfl) rfl (hb hby d_prog_23_method_2_26) (by decide) (W := 1) (cap := 2) (by show 2 * 0 + _ ≤ _; exact Nat.le_of_eq rfl) (by decide) (Nat.le_of_ble_eq_true rfl) (by decide) (by decide)
  obtain ⟨b33, gz33⟩ : ∃ z, z = T32.heap.size := ⟨_, rfl⟩
  rw [← gz33] at A33 Ex33 st33
  have g_b33 : n0 ≤ b33 := Nat.le_trans Z32 (Nat.le_of_eq gz33.symm)
  have sz_b33 : h0.size ≤ b33 := Nat.le_trans K32.1 (Nat.le_of_eq gz33.symm)
  have ne_thisb1_b33 : thisb1 ≠ b33 := Nat.ne_of_lt (Nat.lt_of_lt_of_le E_thisb1_t32.lt (Nat.le_of_eq gz33.symm))
  have ne_ab1_1_b33 : ab1_1 ≠ b33 := Nat.ne_of_lt (Nat.lt_of_lt_of_le V_ab1_1_t32.lt (Nat.le_of_eq gz33.symm))
  have ne_ab1_3_b33 : ab1_3 ≠ b33 := Nat.ne_of_lt (Nat.lt_of_lt_of_le V_ab1_3_t32.lt (Nat.le_of_eq gz33.symm))
  have ne_ab1_4_b33 : ab1_4 ≠ b33 := Nat.ne_of_lt (Nat.lt_of_lt_of_le E_ab1_4_t32.lt (Nat.le_of_eq gz33.symm))
  have K33 : Keep h0 h33 [thisb1] := K32.ext E33
  have Z33 : n0 ≤ h33.size := Nat.le_trans Z32 E33.1
  have hk33 := Nat.le_trans hk32 E33.1
  have E_thisb1_t33 := E_thisb1_t32.ext E33
  have V_ab1_1_t33 := V_ab1_1_t32.ext E33
  have E_ab1_1_t33 := E_ab1_1_t32.ext E33
  have V_ab1_3_t33 := V_ab1_3_t32.ext E33
  have E_ab1_3_t33 := E_ab1_3_t32.ext E33
  have E_ab1_4_t33 := E_ab1_4_t32.ext E33
  have P32_1_t33 := P32_1.ext E33
  have P32_2_t33 := P32_2.ext E33
  have P32_3_t33 := P32_3.ext E33
  have P32_4_t33 := P32_4.ext E33
  refine Wq.step st33 ?_
  show Wq _ _ _ _ _ (T33.setTop (mkF m 29 #[.val (.ref thisb1), .val (.ref ab1_1), .val .null, .val (.ref ab1_3), .val (.ref ab1_4)] [(.ref b33), (.ref thisb1)]))
  obtain ⟨T34, X34, e34, st34⟩ := castY X33 hx hZ32 hown32 (kw43 hw) e33 (Ins.self Ex33) (g := (mkF m 29 #[.val (.ref thisb1), .val (.ref ab1_1), .val .null, .val (.ref ab1_3), .val (.ref ab1_4)] [(.ref b33), (.ref thisb1)])) rfl rfl (hb hby d_prog_23_method_2_29)
  refine Wq.step st34 ?_
  show Wq _ _ _ _ _ (T34.setTop (mkF m 32 #[.val (.ref thisb1), .val (.ref ab1_1), .val .null, .val (.ref ab1_3), .val (.ref ab1_4)] [(.ref b33), (.ref thisb1)]))
  obtain ⟨T35, h35, X35, e35, W35, st35⟩ := putF X34 hx hZ32 hown32 (host := "") (Or.inl (kw45 hw)) Via.refl e34 P32_1_t33 E_thisb1_t33 (Or.inr ⟨(kw46 hw), rfl, hnm⟩) (kw2 hw) (ty := (.array .byte)) (by decide) (rfl) (rfl) (g := (mkF m 32 #[.val (.ref thisb1), .val (.ref ab1_1), .val .null, .val (.ref ab1_3), .val (.ref ab1_4)] [(.ref b33), (.ref thisb1)])) rfl rfl (hb hby d_prog_23_method_2_32)
  refine Wq.step st35 ?_
  have N35 := Fr.snoc X35 N32 g_thisb1
  have K35 : Keep h0 h35 [thisb1] := K33.wr W35 (Or.inl (List.mem_of_getElem? (i := 0) rfl))
  have Z35 : n0 ≤ h35.size := Nat.le_trans Z33 (Keep.of_wr W35).1
  have hk35 := Nat.le_trans hk33 (Keep.of_wr W35).1
  have E_thisb1_t35 := E_thisb1_t33.wr W35
  have V_ab1_1_t35 := V_ab1_1_t33.other W35 ne_ab1_1_thisb1
  have E_ab1_1_t35 := E_ab1_1_t33.wr W35
  have V_ab1_3_t35 := V_ab1_3_t33.other W35 ne_ab1_3_thisb1
  have E_ab1_3_t35 := E_ab1_3_t33.wr W35
  have E_ab1_4_t35 := E_ab1_4_t33.wr W35
  have P32_2_t35 := P32_2_t33.other W35 (Or.inr (slot_ne (Or.inr (kw48 hw)) (Or.inr (kw46 hw)) (by decide) (t := (.object "java/lang/Integer")) (t' := (.array .byte)) (by decide) (by decide)))
  have P32_3_t35 := P32_3_t33.other W35 (Or.inr (slot_ne (Or.inr (kw50 hw)) (Or.inr (kw46 hw)) (by decide) (t := (.array .byte)) (t' := (.array .byte)) (by decide) (by decide)))
  have P32_4_t35 := P32_4_t33.other W35 (Or.inr (slot_ne (Or.inr (kw35 hw)) (Or.inr (kw46 hw)) (by decide) (t := (.object "com/example/opwire/opwire/codec/ber/UnknownElements")) (t' := (.array .byte)) (by decide) (by decide)))
  have A33_t35 := A33.other W35 (Ne.symm ne_thisb1_b33)
  have Ex33_t35 := Ex33.wr W35
  have F_thisb1_destinationTransactionId_t35 : Fld Z h35 thisb1 "com/example/opwire/opwire/codec/tcap/Abort" "destinationTransactionId" "[B" (.ref b33) := P32_1_t33.same W35
  show Wq _ _ _ _ _ (T35.setTop (mkF m 35 #[.val (.ref thisb1), .val (.ref ab1_1), .val .null, .val (.ref ab1_3), .val (.ref ab1_4)] []))
  refine Ow.aloadN X35 hx (pc' := 36) (hb hby d_prog_23_method_2_35) rfl rfl ?_
  refine Ow.aloadN X35 hx (pc' := 37) (hb hby d_prog_23_method_2_36) rfl rfl ?_
  obtain ⟨T36, h36, X36, e36, W36, st36⟩ := putF X35 hx hZ32 hown32 (host := "") (Or.inl (kw47 hw)) Via.refl e35 P32_2_t35 E_thisb1_t35 (Or.inr ⟨(kw48 hw), rfl, hnm⟩) (kw2 hw) (ty := (.object "java/lang/Integer")) (by decide) (rfl) (rfl) (g := (mkF m 37 #[.val (.ref thisb1), .val (.ref ab1_1), .val .null, .val (.ref ab1_3), .val (.ref ab1_4)] [.null, (.ref thisb1)])) rfl rfl (hb hby d_prog_23_method_2_37)
  refine Wq.step st36 ?_
  have N36 := Fr.snoc X36 N35 g_thisb1
  have K36 : Keep h0 h36 [thisb1] := K35.wr W36 (Or.inl (List.mem_of_getElem? (i := 0) rfl))
  have Z36 : n0 ≤ h36.size := Nat.le_trans Z35 (Keep.of_wr W36).1
  have hk36 := Nat.le_trans hk35 (Keep.of_wr W36).1
  have E_thisb1_t36 := E_thisb1_t35.wr W36
  have V_ab1_1_t36 := V_ab1_1_t35.other W36 ne_ab1_1_thisb1
  have E_ab1_1_t36 := E_ab1_1_t35.wr W36
  have V_ab1_3_t36 := V_ab1_3_t35.other W36 ne_ab1_3_thisb1
  have E_ab1_3_t36 := E_ab1_3_t35.wr W36
  have E_ab1_4_t36 := E_ab1_4_t35.wr W36
  have P32_3_t36 := P32_3_t35.other W36 (Or.inr (slot_ne (Or.inr (kw50 hw)) (Or.inr (kw48 hw)) (by decide) (t := (.array .byte)) (t' := (.object "java/lang/Integer")) (by decide) (by decide)))
  have P32_4_t36 := P32_4_t35.other W36 (Or.inr (slot_ne (Or.inr (kw35 hw)) (Or.inr (kw48 hw)) (by decide) (t := (.object "com/example/opwire/opwire/codec/ber/UnknownElements")) (t' := (.object "java/lang/Integer")) (by decide) (by decide)))
  have A33_t36 := A33_t35.other W36 (Ne.symm ne_thisb1_b33)
  have Ex33_t36 := Ex33_t35.wr W36
  have F_thisb1_destinationTransactionId_t36 := F_thisb1_destinationTransactionId_t35.other W36 (Or.inr (slot_ne (Or.inr (kw46 hw)) (Or.inr (kw48 hw)) (by decide) (t := (.array .byte)) (t' := (.object "java/lang/Integer")) (by decide) (by decide)))
  have F_thisb1_pAbortCause_t36 : Fld Z h36 thisb1 "com/example/opwire/opwire/codec/tcap/Abort" "pAbortCause" "Ljava/lang/Integer;" .null := P32_2_t35.same W36
  show Wq _ _ _ _ _ (T36.setTop (mkF m 40 #[.val (.ref thisb1), .val (.ref ab1_1), .val .null, .val (.ref ab1_3), .val (.ref ab1_4)] []))
  refine Ow.aloadN X36 hx (pc' := 41) (hb hby d_prog_23_method_2_40) rfl rfl ?_
  refine Ow.aloadN X36 hx (pc' := 42) (hb hby d_prog_23_method_2_41) rfl rfl ?_
  refine Ow.ifnonnullYes X36 hx (pc' := 49) (hb hby d_prog_23_method_2_42) (by decide) (by decide) ?_
  refine Ow.aloadN X36 hx (pc' := 50) (hb hby d_prog_23_method_2_49) rfl rfl ?_
  obtain ⟨T37, h37, X37, e37, E37, A37, Ex37, st37⟩ := clA X36 hx hZ32 hown32 (kw36 hw) (kw37 hw) (kw41 hw) (kw39 hw) (kw40 hw) (kw42 hw) e36 V_ab1_3_t36 E_ab1_3_t36 (hfi) (g := (mkF m 50 #[.val (.ref thisb1), .val (.ref ab1_1), .val .null, .val (.ref ab1_3), .val (.ref ab1_4)] [(.ref ab1_3), (.ref thisb1)])) rfl (by rw [hml]; rfl) rfl (hb hby d_prog_23_method_2_50) (by decide) (W := 1) (cap := 1) (by show 2 * 0 + _ ≤ _; exact Nat.le_of_eq rfl) (by decide) (Nat.le_of_ble_eq_true rfl) (by decide) (by decide)
  obtain ⟨b37, gz37⟩ : ∃ z, z = h36.size := ⟨_, rfl⟩
  rw [← gz37] at A37 Ex37 st37
  have g_b37 : n0 ≤ b37 := Nat.le_trans Z36 (Nat.le_of_eq gz37.symm)
  have sz_b37 : h0.size ≤ b37 := Nat.le_trans K36.1 (Nat.le_of_eq gz37.symm)
  have ne_thisb1_b37 : thisb1 ≠ b37 := Nat.ne_of_lt (Nat.lt_of_lt_of_le E_thisb1_t36.lt (Nat.le_of_eq gz37.symm))
  have ne_ab1_1_b37 : ab1_1 ≠ b37 := Nat.ne_of_lt (Nat.lt_of_lt_of_le V_ab1_1_t36.lt (Nat.le_of_eq gz37.symm))
  have ne_ab1_3_b37 : ab1_3 ≠ b37 := Nat.ne_of_lt (Nat.lt_of_lt_of_le V_ab1_3_t36.lt (Nat.le_of_eq gz37.symm))
  have ne_ab1_4_b37 : ab1_4 ≠ b37 := Nat.ne_of_lt (Nat.lt_of_lt_of_le E_ab1_4_t36.lt (Nat.le_of_eq gz37.symm))
  have ne_b33_b37 : b33 ≠ b37 := Nat.ne_of_lt (Nat.lt_of_lt_of_le A33_t36.lt (Nat.le_of_eq gz37.symm))
  have K37 : Keep h0 h37 [thisb1] := K36.ext E37
  have Z37 : n0 ≤ h37.size := Nat.le_trans Z36 E37.1
  have hk37 := Nat.le_trans hk36 E37.1
  have E_thisb1_t37 := E_thisb1_t36.ext E37
  have V_ab1_1_t37 := V_ab1_1_t36.ext E37
  have E_ab1_1_t37 := E_ab1_1_t36.ext E37
  have V_ab1_3_t37 := V_ab1_3_t36.ext E37
  have E_ab1_3_t37 := E_ab1_3_t36.ext E37
  have E_ab1_4_t37 := E_ab1_4_t36.ext E37
  have P32_3_t37 := P32_3_t36.ext E37
  have P32_4_t37 := P32_4_t36.ext E37
  have A33_t37 := A33_t36.ext E37
  have Ex33_t37 := Ex33_t36.ext E37
  have F_thisb1_destinationTransactionId_t37 := F_thisb1_destinationTransactionId_t36.ext E37
  have F_thisb1_pAbortCause_t37 := F_thisb1_pAbortCause_t36.ext E37
  refine Wq.step st37 ?_
  show Wq _ _ _ _ _ (T37.setTop (mkF m 53 #[.val (.ref thisb1), .val (.ref ab1_1), .val .null, .val (.ref ab1_3), .val (.ref ab1_4)] [(.ref b37), (.ref thisb1)]))
  obtain ⟨T38, X38, e38, st38⟩ := castY X37 hx hZ32 hown32 (kw43 hw) e37 (Ins.self Ex37) (g := (mkF m 53 #[.val (.ref thisb1), .val (.ref ab1_1), .val .null, .val (.ref ab1_3), .val (.ref ab1_4)] [(.ref b37), (.ref thisb1)])) rfl rfl (hb hby d_prog_23_method_2_53)
  refine Wq.step st38 ?_
  show Wq _ _ _ _ _ (T38.setTop (mkF m 56 #[.val (.ref thisb1), .val (.ref ab1_1), .val .null, .val (.ref ab1_3), .val (.ref ab1_4)] [(.ref b37), (.ref thisb1)]))
  obtain ⟨T39, h39, X39, e39, W39, st39⟩ := putF X38 hx hZ32 hown32 (host := "") (Or.inl (kw49 hw)) Via.refl e38 P32_3_t37 E_thisb1_t37 (Or.inr ⟨(kw50 hw), rfl, hnm⟩) (kw2 hw) (ty := (.array .byte)) (by decide) (rfl) (rfl) (g := (mkF m 56 #[.val (.ref thisb1), .val (.ref ab1_1), .val .null, .val (.ref ab1_3), .val (.ref ab1_4)] [(.ref b37), (.ref thisb1)])) rfl rfl (hb hby d_prog_23_method_2_56)
  refine Wq.step st39 ?_
  have N39 := Fr.snoc X39 N36 g_thisb1
  have K39 : Keep h0 h39 [thisb1] := K37.wr W39 (Or.inl (List.mem_of_getElem? (i := 0) rfl))
  have Z39 : n0 ≤ h39.size := Nat.le_trans Z37 (Keep.of_wr W39).1
  have hk39 := Nat.le_trans hk37 (Keep.of_wr W39).1
  have E_thisb1_t39 := E_thisb1_t37.wr W39
  have V_ab1_1_t39 := V_ab1_1_t37.other W39 ne_ab1_1_thisb1
  have E_ab1_1_t39 := E_ab1_1_t37.wr W39
  have V_ab1_3_t39 := V_ab1_3_t37.other W39 ne_ab1_3_thisb1
  have E_ab1_3_t39 := E_ab1_3_t37.wr W39
  have E_ab1_4_t39 := E_ab1_4_t37.wr W39
  have P32_4_t39 := P32_4_t37.other W39 (Or.inr (slot_ne (Or.inr (kw35 hw)) (Or.inr (kw50 hw)) (by decide) (t := (.object "com/example/opwire/opwire/codec/ber/UnknownElements")) (t' := (.array .byte)) (by decide) (by decide)))
  have A33_t39 := A33_t37.other W39 (Ne.symm ne_thisb1_b33)
  have Ex33_t39 := Ex33_t37.wr W39
  have F_thisb1_destinationTransactionId_t39 := F_thisb1_destinationTransactionId_t37.other W39 (Or.inr (slot_ne (Or.inr (kw46 hw)) (Or.inr (kw50 hw)) (by decide) (t := (.array .byte)) (t' := (.array .byte)) (by decide) (by decide)))
  have F_thisb1_pAbortCause_t39 := F_thisb1_pAbortCause_t37.other W39 (Or.inr (slot_ne (Or.inr (kw48 hw)) (Or.inr (kw50 hw)) (by decide) (t := (.object "java/lang/Integer")) (t' := (.array .byte)) (by decide) (by decide)))
  have A37_t39 := A37.other W39 (Ne.symm ne_thisb1_b37)
  have Ex37_t39 := Ex37.wr W39
  have F_thisb1_userAbortInformation_t39 : Fld Z h39 thisb1 "com/example/opwire/opwire/codec/tcap/Abort" "userAbortInformation" "[B" (.ref b37) := P32_3_t37.same W39
  show Wq _ _ _ _ _ (T39.setTop (mkF m 59 #[.val (.ref thisb1), .val (.ref ab1_1), .val .null, .val (.ref ab1_3), .val (.ref ab1_4)] []))
  exact Wq.retW X39 hS32 (by rw [e39]; exact hk39) (BodyLoose.notSynchronized Bd) (rv := none) (fun _ => rfl) (fun _ hr => X39.returnOut hx Bd.returns (hb hby d_prog_23_method_2_59) hr) (by decide) (by decide) (by rw [e39]; exact ⟨b33, b37, rfl, N39, K39, sz_b33, sz_b37, ne_b33_b37, E_thisb1_t39, P32_4_t39, A33_t39, Ex33_t39, F_thisb1_destinationTransactionId_t39, F_thisb1_pAbortCause_t39, A37_t39, Ex37_t39, F_thisb1_userAbortInformation_t39⟩)
theorem ef_a1 (m : MethodId) (thisa1 : Addr) (aa1_1 : Addr) (aa1_3 : Addr) : entryFrame m #[(.ref thisa1), (.ref aa1_1), .null, (.ref aa1_3)] 4 = mkF m 0 #[.val (.ref thisa1), .val (.ref aa1_1), .val .null, .val (.ref aa1_3)] [] := by first | (simp [entryFrame, mkF, argsToLocals, Value.category]; done) | rfl
def Q_a1 (Z : State) (thisa1 : Addr) (aa1_1 : Addr) (aa1_3 : Addr) (t0a1 : Int32) (t1a1 : Int32) (i0a1 : Int32) (unea1 : Addr) (h0 : Heap) (n0 : Nat) (v : Option Value) (h : Heap) (L : List Loc) : Prop := ∃ b33_c41 b37_c41 : Addr, v = none ∧ Fr n0 L ∧ Keep h0 h [thisa1] ∧ h0.size ≤ b33_c41 ∧ h0.size ≤ b37_c41 ∧ b33_c41 ≠ b37_c41 ∧ Exa Z h thisa1 "com/example/opwire/opwire/codec/tcap/Abort" ∧ Fld Z h thisa1 "com/example/opwire/opwire/codec/tcap/TcapMessage" "unknownElements" "Lcom/example/opwire/opwire/codec/ber/UnknownElements;" (.ref unea1) ∧ Al Z h b33_c41 .byte [(.int t0a1), (.int t1a1)] ∧ Exa Z h b33_c41 "[B" ∧ Fld Z h thisa1 "com/example/opwire/opwire/codec/tcap/Abort" "destinationTransactionId" "[B" (.ref b33_c41) ∧ Fld Z h thisa1 "com/example/opwire/opwire/codec/tcap/Abort" "pAbortCause" "Ljava/lang/Integer;" .null ∧ Al Z h b37_c41 .byte [(.int i0a1)] ∧ Exa Z h b37_c41 "[B" ∧ Fld Z h thisa1 "com/example/opwire/opwire/codec/tcap/Abort" "userAbortInformation" "[B" (.ref b37_c41)
set_option maxRecDepth 65536 in
set_option maxHeartbeats 40000000 in
theorem rm_a1 (l : Launch) (Z : State) (a0 : Array Value) (hw : ∀ d ∈ tables_1, d.before a0 Z = true) (ws : List Jvm.Cond) (thisa1 : Addr) (aa1_1 : Addr) (aa1_3 : Addr) (t0a1 : Int32) (t1a1 : Int32) (i0a1 : Int32) (unea1 : Addr) (h0 : Heap) (n0 : Nat) (Z0 : n0 ≤ h0.size) (E_thisa1 : Exa Z h0 thisa1 "com/example/opwire/opwire/codec/tcap/Abort") (F_thisa1_unknownElements : Fld Z h0 thisa1 "com/example/opwire/opwire/codec/tcap/TcapMessage" "unknownElements" "Lcom/example/opwire/opwire/codec/ber/UnknownElements;" .null) (F_thisa1_destinationTransactionId : Fld Z h0 thisa1 "com/example/opwire/opwire/codec/tcap/Abort" "destinationTransactionId" "[B" .null) (F_thisa1_pAbortCause : Fld Z h0 thisa1 "com/example/opwire/opwire/codec/tcap/Abort" "pAbortCause" "Ljava/lang/Integer;" .null) (F_thisa1_userAbortInformation : Fld Z h0 thisa1 "com/example/opwire/opwire/codec/tcap/Abort" "userAbortInformation" "[B" .null) (g_thisa1 : n0 ≤ thisa1) (V_aa1_1 : Al Z h0 aa1_1 .byte [(.int t0a1), (.int t1a1)]) (E_aa1_1 : Exa Z h0 aa1_1 "[B") (ne_aa1_1_thisa1 : aa1_1 ≠ thisa1) (hft : ∀ v ∈ [Value.int t0a1, .int t1a1], fits .byte v = true) (V_aa1_3 : Al Z h0 aa1_3 .byte [(.int i0a1)]) (E_aa1_3 : Exa Z h0 aa1_3 "[B") (ne_aa1_3_thisa1 : aa1_3 ≠ thisa1) (hfi : ∀ v ∈ ([(.int i0a1)] : List Value), fits .byte v = true) (S_NONE : Sta Z h0 "com/example/opwire/opwire/codec/ber/UnknownElements" "NONE" "Lcom/example/opwire/opwire/codec/ber/UnknownElements;" (.ref unea1)) (E_unea1 : Exa Z h0 unea1 "com/example/opwire/opwire/codec/ber/UnknownElements") :
    MetFree l mt4 (head1 (Jvm.Cond.code mt4 prog_23_method_1_code 4 none :: ws) ({ frames := 3, cells := 4, slots := 67, locals := 43 } : Room)) (fun a U => a = #[(.ref thisa1), (.ref aa1_1), .null, (.ref aa1_3)] ∧ Z.Warmed39 U.vm ∧ U.heap = h0) (fun _ _ _ _ _ => True) (fun _ U o U' => ∃ v L, o = .returned v ∧ (Q_a1 Z thisa1 aa1_1 aa1_3 t0a1 t1a1 i0a1 unea1 h0 n0) v U'.heap L ∧ ReturnedEndW U o U' L ({ frames := 3, cells := 4, slots := 67, locals := 43 } : Room).cells ({ frames := 3, cells := 4, slots := 67, locals := 43 } : Room).slots) := by
  refine MetFree.of_bodySF (plainFor_of_name pn3) hisR ?_
  intro p e s m args below meth c s₁ Bd hml0 hP hK
  obtain ⟨rfl, hZ, hh⟩ := hP
  have hx := Bd.exec
  have hby := Bd.bytes
  have hml : c.maxLocals = 4 := hml0
  have hown : s.vm.findClass "com/example/opwire/opwire/codec/tcap/Abort" = some m.cls := findClass_of_methodNamed Bd.named
  have hnm := (name_of_methodNamed Bd.named Bd.method).1
  have hS0 : s.Since s.vm 0 := (State.WarmedH.refl s).since 0
  have hk0 : 0 ≤ h0.size := Nat.zero_le _
  have X0 : Stand p l e ({ frames := 3, cells := 4, slots := 67, locals := 43 } : Room) (s.setVm s.vm) m #[(.ref thisa1), (.ref aa1_1), .null, (.ref aa1_3)] below meth c s₁ [] 0 0 := Stand.of_body Bd
  have e0 : s₁.heap = h0 := by rw [← hh, Bd.state]; rfl
  have N0 := Fr.nil n0
  refine Wq.step (p := p) (e := e) (below := below) (En := (fun o t L => ReturnedEndW s o t L ({ frames := 3, cells := 4, slots := 67, locals := 43 } : Room).cells ({ frames := 3, cells := 4, slots := 67, locals := 43 } : Room).slots)) (Q := (Q_a1 Z thisa1 aa1_1 aa1_3 t0a1 t1a1 i0a1 unea1 h0 n0)) (fun t k => castTop (ef_a1 m thisa1 aa1_1 aa1_3) k) ?_
  show Wq _ _ _ _ _ (s₁.setTop (mkF m 0 #[.val (.ref thisa1), .val (.ref aa1_1), .val .null, .val (.ref aa1_3)] []))
  refine Ow.aloadN X0 hx (pc' := 1) (hb hby d_prog_23_method_1_0) rfl rfl ?_
  refine Ow.aloadN X0 hx (pc' := 2) (hb hby d_prog_23_method_1_1) rfl rfl ?_
  refine Ow.aloadN X0 hx (pc' := 3) (hb hby d_prog_23_method_1_2) rfl rfl ?_
  refine Ow.aloadN X0 hx (pc' := 4) (hb hby d_prog_23_method_1_3) rfl rfl ?_
  obtain ⟨T40, X40, e40, st40⟩ := getS2 X0 hx hZ hown (host := "") (Or.inl (kw7 hw)) Via.refl e0 S_NONE (g := (mkF m 4 #[.val (.ref thisa1), .val (.ref aa1_1), .val .null, .val (.ref aa1_3)] [(.ref aa1_3), .null, (.ref aa1_1), (.ref thisa1)])) rfl (hb hby d_prog_23_method_1_4)
  refine Wq.step st40 ?_
  show Wq _ _ _ _ _ (T40.setTop (mkF m 7 #[.val (.ref thisa1), .val (.ref aa1_1), .val .null, .val (.ref aa1_3)] [(.ref unea1), (.ref aa1_3), .null, (.ref aa1_1), (.ref thisa1)]))
  obtain ⟨_, _, ⟨T41, L41, k41, n41⟩, -, Xr41, hSr41, hgr41, ⟨Lc41, hQ41, l41, y41, z41⟩, st41⟩ := X40.specialBackS hx (y := mt3) rfl hown (mvT hZ (kw10 hw)) (mvT hZ (kw11 hw)) (mvT hZ (kw12 hw)) (by decide) (backOfS (W := 0) (rm_b1 l Z a0 hw [] thisa1 aa1_1 aa1_3 unea1 t0a1 t1a1 i0a1 h0 n0 Z0 E_thisa1 F_thisa1_unknownElements F_thisa1_destinationTransactionId F_thisa1_pAbortCause F_thisa1_userAbortInformation g_thisa1 V_aa1_1 E_aa1_1 ne_aa1_1_thisa1 (hft) V_aa1_3 E_aa1_3 ne_aa1_3_thisa1 (hfi) E_unea1) hZ (kw12 hw) (kw3 hw) (by decide) (by decide)) (g := (mkF m 7 #[.val (.ref thisa1), .val (.ref aa1_1), .val .null, .val (.ref aa1_3)] [(.ref unea1), (.ref aa1_3), .null, (.ref aa1_1), (.ref thisa1)])) rfl (by rw [hml]; rfl) (Steps.refl _) (a := thisa1) (argsL := [(.ref aa1_1), .null, (.ref aa1_3), (.ref unea1)]) (rest := []) (lenOf pd3 rfl) rfl (by show 2 * 0 + _ ≤ _; exact Nat.le_of_eq rfl) (hb hby d_prog_23_method_1_7) (fun _ _ => ⟨rfl, e40, (by decide : 0 + 4 ≤ _), (by decide : 0 + 67 ≤ _)⟩)
  dsimp only [Pt.U, Pt.locs, Pt.cells, Pt.slots] at Xr41 hSr41 hgr41 l41 y41 z41 st41 hQ41
  subst l41 y41 z41
  obtain ⟨X41, hS41, hZ41, hown41⟩ := rebS hS0 (by rw [e40]; exact hk0) Xr41 hSr41 hgr41 hZ hown
  have hk41 := Nat.le_refl T41.heap.size
  obtain ⟨b33_c41, b37_c41, rfl, Nq41, Kq41, szq_b33_c41, szq_b37_c41, ne_b33_c41_b37_c41, P41_0, P41_1, P41_2, P41_3, P41_4, P41_5, P41_6, P41_7, P41_8⟩ := hQ41
  have g_b33_c41 : n0 ≤ b33_c41 := Nat.le_trans Z0 szq_b33_c41
  have sz_b33_c41 : h0.size ≤ b33_c41 := szq_b33_c41
  have ne_thisa1_b33_c41 : thisa1 ≠ b33_c41 := Nat.ne_of_lt (Nat.lt_of_lt_of_le E_thisa1.lt szq_b33_c41)
  have ne_aa1_1_b33_c41 : aa1_1 ≠ b33_c41 := Nat.ne_of_lt (Nat.lt_of_lt_of_le V_aa1_1.lt szq_b33_c41)
  have ne_aa1_3_b33_c41 : aa1_3 ≠ b33_c41 := Nat.ne_of_lt (Nat.lt_of_lt_of_le V_aa1_3.lt szq_b33_c41)
  have ne_unea1_b33_c41 : unea1 ≠ b33_c41 := Nat.ne_of_lt (Nat.lt_of_lt_of_le E_unea1.lt szq_b33_c41)
  have g_b37_c41 : n0 ≤ b37_c41 := Nat.le_trans Z0 szq_b37_c41
  have sz_b37_c41 : h0.size ≤ b37_c41 := szq_b37_c41
  have ne_thisa1_b37_c41 : thisa1 ≠ b37_c41 := Nat.ne_of_lt (Nat.lt_of_lt_of_le E_thisa1.lt szq_b37_c41)
  have ne_aa1_1_b37_c41 : aa1_1 ≠ b37_c41 := Nat.ne_of_lt (Nat.lt_of_lt_of_le V_aa1_1.lt szq_b37_c41)
  have ne_aa1_3_b37_c41 : aa1_3 ≠ b37_c41 := Nat.ne_of_lt (Nat.lt_of_lt_of_le V_aa1_3.lt szq_b37_c41)
  have ne_unea1_b37_c41 : unea1 ≠ b37_c41 := Nat.ne_of_lt (Nat.lt_of_lt_of_le E_unea1.lt szq_b37_c41)
  have N41 := Fr.app N0 Nq41
  have K41 : Keep h0 T41.heap [thisa1] := (Keep.refl h0 [thisa1]).trans Kq41 (allS (P := fun x => x ∈ [thisa1] ∨ h0.size ≤ x) (Or.inl (List.mem_of_getElem? (i := 0) rfl)) all0)
  have Z41 : n0 ≤ T41.heap.size := Nat.le_trans Z0 Kq41.1
  have E_thisa1_t41 := E_thisa1.keep Kq41
  have V_aa1_1_t41 := V_aa1_1.keep Kq41 (ninS ne_aa1_1_thisa1 nin0)
  have E_aa1_1_t41 := E_aa1_1.keep Kq41
  have V_aa1_3_t41 := V_aa1_3.keep Kq41 (ninS ne_aa1_3_thisa1 nin0)
  have E_aa1_3_t41 := E_aa1_3.keep Kq41
  have S_NONE_t41 := Jvm.OwnW.Sta.keepN S_NONE Kq41 (allS (P := fun w => ∀ cell : Cell, h0[w]? = some cell → cell.vm.isStatics = false) (Jvm.OwnW.Exa.ns E_thisa1) all0)
  have E_unea1_t41 := E_unea1.keep Kq41
  have e41 : T41.heap = T41.heap := rfl
  refine Wq.steps st41 ?_
  show Wq _ _ _ _ _ (T41.setTop (mkF m 10 #[.val (.ref thisa1), .val (.ref aa1_1), .val .null, .val (.ref aa1_3)] []))
  exact Wq.retW X41 hS41 (by rw [e41]; exact hk41) (BodyLoose.notSynchronized Bd) (rv := none) (fun _ => rfl) (fun _ hr => X41.returnOut hx Bd.returns (hb hby d_prog_23_method_1_10) hr) (by decide) (by decide) (by rw [e41]; exact ⟨b33_c41, b37_c41, rfl, N41, K41, sz_b33_c41, sz_b37_c41, ne_b33_c41_b37_c41, E_thisa1_t41, P41_1, P41_2, P41_3, P41_4, P41_5, P41_6, P41_7, P41_8⟩)
theorem ef_b2 (m : MethodId) (thisb2 : Addr) (ab2_1 : Addr) (ab2_3 : Addr) (ab2_4 : Addr) : entryFrame m #[(.ref thisb2), (.ref ab2_1), .null, (.ref ab2_3), (.ref ab2_4)] 5 = mkF m 0 #[.val (.ref thisb2), .val (.ref ab2_1), .val .null, .val (.ref ab2_3), .val (.ref ab2_4)] [] := by first | (simp [entryFrame, mkF, argsToLocals, Value.category]; done) | rfl
def Q_b2 (Z : State) (thisb2 : Addr) (ab2_1 : Addr) (ab2_3 : Addr) (ab2_4 : Addr) (t0b2 : Int32) (t1b2 : Int32) (i0b2 : Int32) (i1b2 : Int32) (h0 : Heap) (n0 : Nat) (v : Option Value) (h : Heap) (L : List Loc) : Prop := ∃ b43 b47 : Addr, v = none ∧ Fr n0 L ∧ Keep h0 h [thisb2] ∧ h0.size ≤ b43 ∧ h0.size ≤ b47 ∧ b43 ≠ b47 ∧ Exa Z h thisb2 "com/example/opwire/opwire/codec/tcap/Abort" ∧ Fld Z h thisb2 "com/example/opwire/opwire/codec/tcap/TcapMessage" "unknownElements" "Lcom/example/opwire/opwire/codec/ber/UnknownElements;" (.ref ab2_4) ∧ Al Z h b43 .byte [(.int t0b2), (.int t1b2)] ∧ Exa Z h b43 "[B" ∧ Fld Z h thisb2 "com/example/opwire/opwire/codec/tcap/Abort" "destinationTransactionId" "[B" (.ref b43) ∧ Fld Z h thisb2 "com/example/opwire/opwire/codec/tcap/Abort" "pAbortCause" "Ljava/lang/Integer;" .null ∧ Al Z h b47 .byte [(.int i0b2), (.int i1b2)] ∧ Exa Z h b47 "[B" ∧ Fld Z h thisb2 "com/example/opwire/opwire/codec/tcap/Abort" "userAbortInformation" "[B" (.ref b47)
set_option maxRecDepth 65536 in
set_option maxHeartbeats 40000000 in
theorem rm_b2 (l : Launch) (Z : State) (a0 : Array Value) (hw : ∀ d ∈ tables_1, d.before a0 Z = true) (ws : List Jvm.Cond) (thisb2 : Addr) (ab2_1 : Addr) (ab2_3 : Addr) (ab2_4 : Addr) (t0b2 : Int32) (t1b2 : Int32) (i0b2 : Int32) (i1b2 : Int32) (h0 : Heap) (n0 : Nat) (Z0 : n0 ≤ h0.size) (E_thisb2 : Exa Z h0 thisb2 "com/example/opwire/opwire/codec/tcap/Abort") (F_thisb2_unknownElements : Fld Z h0 thisb2 "com/example/opwire/opwire/codec/tcap/TcapMessage" "unknownElements" "Lcom/example/opwire/opwire/codec/ber/UnknownElements;" .null) (F_thisb2_destinationTransactionId : Fld Z h0 thisb2 "com/example/opwire/opwire/codec/tcap/Abort" "destinationTransactionId" "[B" .null) (F_thisb2_pAbortCause : Fld Z h0 thisb2 "com/example/opwire/opwire/codec/tcap/Abort" "pAbortCause" "Ljava/lang/Integer;" .null) (F_thisb2_userAbortInformation : Fld Z h0 thisb2 "com/example/opwire/opwire/codec/tcap/Abort" "userAbortInformation" "[B" .null) (g_thisb2 : n0 ≤ thisb2) (V_ab2_1 : Al Z h0 ab2_1 .byte [(.int t0b2), (.int t1b2)]) (E_ab2_1 : Exa Z h0 ab2_1 "[B") (ne_ab2_1_thisb2 : ab2_1 ≠ thisb2) (hft : ∀ v ∈ [Value.int t0b2, .int t1b2], fits .byte v = true) (V_ab2_3 : Al Z h0 ab2_3 .byte [(.int i0b2), (.int i1b2)]) (E_ab2_3 : Exa Z h0 ab2_3 "[B") (ne_ab2_3_thisb2 : ab2_3 ≠ thisb2) (hfi : ∀ v ∈ ([(.int i0b2), (.int i1b2)] : List Value), fits .byte v = true) (E_ab2_4 : Exa Z h0 ab2_4 "com/example/opwire/opwire/codec/ber/UnknownElements") :
    MetFree l mt3 (head1 (Jvm.Cond.code mt3 prog_23_method_2_code 5 none :: ws) ({ frames := 2, cells := 4, slots := 68, locals := 27 } : Room)) (fun a U => a = #[(.ref thisb2), (.ref ab2_1), .null, (.ref ab2_3), (.ref ab2_4)] ∧ Z.Warmed39 U.vm ∧ U.heap = h0) (fun _ _ _ _ _ => True) (fun _ U o U' => ∃ v L, o = .returned v ∧ (Q_b2 Z thisb2 ab2_1 ab2_3 ab2_4 t0b2 t1b2 i0b2 i1b2 h0 n0) v U'.heap L ∧ ReturnedEndW U o U' L ({ frames := 2, cells := 4, slots := 68, locals := 27 } : Room).cells ({ frames := 2, cells := 4, slots := 68, locals := 27 } : Room).slots) := by
  refine MetFree.of_bodySF (plainFor_of_name pn3) hisR ?_
  intro p e s m args below meth c s₁ Bd hml0 hP hK
  obtain ⟨rfl, hZ, hh⟩ := hP
  have hx := Bd.exec
  have hby := Bd.bytes
  have hml : c.maxLocals = 5 := hml0
  have hown : s.vm.findClass "com/example/opwire/opwire/codec/tcap/Abort" = some m.cls := findClass_of_methodNamed Bd.named
  have hnm := (name_of_methodNamed Bd.named Bd.method).1
  have hS0 : s.Since s.vm 0 := (State.WarmedH.refl s).since 0
  have hk0 : 0 ≤ h0.size := Nat.zero_le _
  have X0 : Stand p l e ({ frames := 2, cells := 4, slots := 68, locals := 27 } : Room) (s.setVm s.vm) m #[(.ref thisb2), (.ref ab2_1), .null, (.ref ab2_3), (.ref ab2_4)] below meth c s₁ [] 0 0 := Stand.of_body Bd
  have e0 : s₁.heap = h0 := by rw [← hh, Bd.state]; rfl
  have N0 := Fr.nil n0
  refine Wq.step (p := p) (e := e) (below := below) (En := (fun o t L => ReturnedEndW s o t L ({ frames := 2, cells := 4, slots := 68, locals := 27 } : Room).cells ({ frames := 2, cells := 4, slots := 68, locals := 27 } : Room).slots)) (Q := (Q_b2 Z thisb2 ab2_1 ab2_3 ab2_4 t0b2 t1b2 i0b2 i1b2 h0 n0)) (fun t k => castTop (ef_b2 m thisb2 ab2_1 ab2_3 ab2_4) k) ?_
  show Wq _ _ _ _ _ (s₁.setTop (mkF m 0 #[.val (.ref thisb2), .val (.ref ab2_1), .val .null, .val (.ref ab2_3), .val (.ref ab2_4)] []))
  refine Ow.aloadN X0 hx (pc' := 1) (hb hby d_prog_23_method_2_0) rfl rfl ?_
  refine Ow.aload X0 hx (pc' := 3) (hb hby d_prog_23_method_2_1) rfl rfl ?_
  obtain ⟨_, _, ⟨T42, L42, k42, n42⟩, -, Xr42, hSr42, hgr42, ⟨Lc42, hQ42, l42, y42, z42⟩, st42⟩ := X0.specialBackS hx (y := mt2) rfl hown (mvT hZ (kw13 hw)) (mvT hZ (kw14 hw)) (mvT hZ (kw17 hw)) (by decide) (backOfS (W := 0) (rm_tm l Z a0 hw [] thisb2 ab2_4 h0 n0 Z0 E_thisb2 F_thisb2_unknownElements F_thisb2_destinationTransactionId F_thisb2_pAbortCause F_thisb2_userAbortInformation g_thisb2 E_ab2_4) hZ (kw17 hw) (kw16 hw) (by decide) (by decide)) (g := (mkF m 3 #[.val (.ref thisb2), .val (.ref ab2_1), .val .null, .val (.ref ab2_3), .val (.ref ab2_4)] [(.ref ab2_4), (.ref thisb2)])) rfl (by rw [hml]; rfl) (Steps.refl _) (a := thisb2) (argsL := [(.ref ab2_4)]) (rest := []) (lenOf pd2 rfl) rfl (by show 2 * 0 + _ ≤ _; exact Nat.le_of_eq rfl) (hb hby d_prog_23_method_2_3) (fun _ _ => ⟨rfl, e0, (by decide : 0 + 2 ≤ _), (by decide : 0 + 64 ≤ _)⟩)
  dsimp only [Pt.U, Pt.locs, Pt.cells, Pt.slots] at Xr42 hSr42 hgr42 l42 y42 z42 st42 hQ42
  subst l42 y42 z42
  obtain ⟨X42, hS42, hZ42, hown42⟩ := rebS hS0 (by rw [e0]; exact hk0) Xr42 hSr42 hgr42 hZ hown
  have hk42 := Nat.le_refl T42.heap.size
  obtain ⟨rfl, Nq42, Kq42, P42_0, P42_1, P42_2, P42_3, P42_4⟩ := hQ42
  have N42 := Fr.app N0 Nq42
  have K42 : Keep h0 T42.heap [thisb2] := (Keep.refl h0 [thisb2]).trans Kq42 (allS (P := fun x => x ∈ [thisb2] ∨ h0.size ≤ x) (Or.inl (List.mem_of_getElem? (i := 0) rfl)) all0)
  have Z42 : n0 ≤ T42.heap.size := Nat.le_trans Z0 Kq42.1
  have E_thisb2_t42 := E_thisb2.keep Kq42
  have V_ab2_1_t42 := V_ab2_1.keep Kq42 (ninS ne_ab2_1_thisb2 nin0)
  have E_ab2_1_t42 := E_ab2_1.keep Kq42
  have V_ab2_3_t42 := V_ab2_3.keep Kq42 (ninS ne_ab2_3_thisb2 nin0)
  have E_ab2_3_t42 := E_ab2_3.keep Kq42
  have E_ab2_4_t42 := E_ab2_4.keep Kq42
  have e42 : T42.heap = T42.heap := rfl
  refine Wq.steps st42 ?_
  show Wq _ _ _ _ _ (T42.setTop (mkF m 6 #[.val (.ref thisb2), .val (.ref ab2_1), .val .null, .val (.ref ab2_3), .val (.ref ab2_4)] []))
  refine Ow.aloadN X42 hx (pc' := 7) (hb hby d_prog_23_method_2_6) rfl rfl ?_
  refine Ow.ifnullYes X42 hx (pc' := 24) (hb hby d_prog_23_method_2_7) (by decide) (by decide) ?_
  refine Ow.aloadN X42 hx (pc' := 25) (hb hby d_prog_23_method_2_24) rfl rfl ?_
  refine Ow.aloadN X42 hx (pc' := 26) (hb hby d_prog_23_method_2_25) rfl rfl ?_
  obtain ⟨T43, h43, X43, e43, E43, A43, Ex43, st43⟩ := clA X42 hx hZ42 hown42 (kw36 hw) (kw37 hw) (kw41 hw) (kw39 hw) (kw40 hw) (kw42 hw) e42 V_ab2_1_t42 E_ab2_1_t42 (hft) (g := (mkF m 26 #[.val (.ref thisb2), .val (.ref ab2_1), .val .null, .val (.ref ab2_3), .val (.ref ab2_4)] [(.ref ab2_1), (.ref thisb2)])) rfl (by rw [hml]; rfl) rfl (hb hby d_prog_23_method_2_26) (by decide) (W := 1) (cap := 2) (by show 2 * 0 + _ ≤ _; exact Nat.le_of_eq rfl) (by decide) (Nat.le_of_ble_eq_true rfl) (by decide) (by decide)
  obtain ⟨b43, gz43⟩ : ∃ z, z = T42.heap.size := ⟨_, rfl⟩
  rw [← gz43] at A43 Ex43 st43
  have g_b43 : n0 ≤ b43 := Nat.le_trans Z42 (Nat.le_of_eq gz43.symm)
  have sz_b43 : h0.size ≤ b43 := Nat.le_trans K42.1 (Nat.le_of_eq gz43.symm)
  have ne_thisb2_b43 : thisb2 ≠ b43 := Nat.ne_of_lt (Nat.lt_of_lt_of_le E_thisb2_t42.lt (Nat.le_of_eq gz43.symm))
  have ne_ab2_1_b43 : ab2_1 ≠ b43 := Nat.ne_of_lt (Nat.lt_of_lt_of_le V_ab2_1_t42.lt (Nat.le_of_eq gz43.symm))
  have ne_ab2_3_b43 : ab2_3 ≠ b43 := Nat.ne_of_lt (Nat.lt_of_lt_of_le V_ab2_3_t42.lt (Nat.le_of_eq gz43.symm))
  have ne_ab2_4_b43 : ab2_4 ≠ b43 := Nat.ne_of_lt (Nat.lt_of_lt_of_le E_ab2_4_t42.lt (Nat.le_of_eq gz43.symm))
  have K43 : Keep h0 h43 [thisb2] := K42.ext E43
  have Z43 : n0 ≤ h43.size := Nat.le_trans Z42 E43.1
  have hk43 := Nat.le_trans hk42 E43.1
  have E_thisb2_t43 := E_thisb2_t42.ext E43
  have V_ab2_1_t43 := V_ab2_1_t42.ext E43
  have E_ab2_1_t43 := E_ab2_1_t42.ext E43
  have V_ab2_3_t43 := V_ab2_3_t42.ext E43
  have E_ab2_3_t43 := E_ab2_3_t42.ext E43
  have E_ab2_4_t43 := E_ab2_4_t42.ext E43
  have P42_1_t43 := P42_1.ext E43
  have P42_2_t43 := P42_2.ext E43
  have P42_3_t43 := P42_3.ext E43
  have P42_4_t43 := P42_4.ext E43
  refine Wq.step st43 ?_
  show Wq _ _ _ _ _ (T43.setTop (mkF m 29 #[.val (.ref thisb2), .val (.ref ab2_1), .val .null, .val (.ref ab2_3), .val (.ref ab2_4)] [(.ref b43), (.ref thisb2)]))
  obtain ⟨T44, X44, e44, st44⟩ := castY X43 hx hZ42 hown42 (kw43 hw) e43 (Ins.self Ex43) (g := (mkF m 29 #[.val (.ref thisb2), .val (.ref ab2_1), .val .null, .val (.ref ab2_3), .val (.ref ab2_4)] [(.ref b43), (.ref thisb2)])) rfl rfl (hb hby d_prog_23_method_2_29)
  refine Wq.step st44 ?_
  show Wq _ _ _ _ _ (T44.setTop (mkF m 32 #[.val (.ref thisb2), .val (.ref ab2_1), .val .null, .val (.ref ab2_3), .val (.ref ab2_4)] [(.ref b43), (.ref thisb2)]))
  obtain ⟨T45, h45, X45, e45, W45, st45⟩ := putF X44 hx hZ42 hown42 (host := "") (Or.inl (kw45 hw)) Via.refl e44 P42_1_t43 E_thisb2_t43 (Or.inr ⟨(kw46 hw), rfl, hnm⟩) (kw2 hw) (ty := (.array .byte)) (by decide) (rfl) (rfl) (g := (mkF m 32 #[.val (.ref thisb2), .val (.ref ab2_1), .val .null, .val (.ref ab2_3), .val (.ref ab2_4)] [(.ref b43), (.ref thisb2)])) rfl rfl (hb hby d_prog_23_method_2_32)
  refine Wq.step st45 ?_
  have N45 := Fr.snoc X45 N42 g_thisb2
  have K45 : Keep h0 h45 [thisb2] := K43.wr W45 (Or.inl (List.mem_of_getElem? (i := 0) rfl))
  have Z45 : n0 ≤ h45.size := Nat.le_trans Z43 (Keep.of_wr W45).1
  have hk45 := Nat.le_trans hk43 (Keep.of_wr W45).1
  have E_thisb2_t45 := E_thisb2_t43.wr W45
  have V_ab2_1_t45 := V_ab2_1_t43.other W45 ne_ab2_1_thisb2
  have E_ab2_1_t45 := E_ab2_1_t43.wr W45
  have V_ab2_3_t45 := V_ab2_3_t43.other W45 ne_ab2_3_thisb2
  have E_ab2_3_t45 := E_ab2_3_t43.wr W45
  have E_ab2_4_t45 := E_ab2_4_t43.wr W45
  have P42_2_t45 := P42_2_t43.other W45 (Or.inr (slot_ne (Or.inr (kw48 hw)) (Or.inr (kw46 hw)) (by decide) (t := (.object "java/lang/Integer")) (t' := (.array .byte)) (by decide) (by decide)))
  have P42_3_t45 := P42_3_t43.other W45 (Or.inr (slot_ne (Or.inr (kw50 hw)) (Or.inr (kw46 hw)) (by decide) (t := (.array .byte)) (t' := (.array .byte)) (by decide) (by decide)))
  have P42_4_t45 := P42_4_t43.other W45 (Or.inr (slot_ne (Or.inr (kw35 hw)) (Or.inr (kw46 hw)) (by decide) (t := (.object "com/example/opwire/opwire/codec/ber/UnknownElements")) (t' := (.array .byte)) (by decide) (by decide)))
  have A43_t45 := A43.other W45 (Ne.symm ne_thisb2_b43)
  have Ex43_t45 := Ex43.wr W45
  have F_thisb2_destinationTransactionId_t45 : Fld Z h45 thisb2 "com/example/opwire/opwire/codec/tcap/Abort" "destinationTransactionId" "[B" (.ref b43) := P42_1_t43.same W45
  show Wq _ _ _ _ _ (T45.setTop (mkF m 35 #[.val (.ref thisb2), .val (.ref ab2_1), .val .null, .val (.ref ab2_3), .val (.ref ab2_4)] []))
  refine Ow.aloadN X45 hx (pc' := 36) (hb hby d_prog_23_method_2_35) rfl rfl ?_
  refine Ow.aloadN X45 hx (pc' := 37) (hb hby d_prog_23_method_2_36) rfl rfl ?_
  obtain ⟨T46, h46, X46, e46, W46, st46⟩ := putF X45 hx hZ42 hown42 (host := "") (Or.inl (kw47 hw)) Via.refl e45 P42_2_t45 E_thisb2_t45 (Or.inr ⟨(kw48 hw), rfl, hnm⟩) (kw2 hw) (ty := (.object "java/lang/Integer")) (by decide) (rfl) (rfl) (g := (mkF m 37 #[.val (.ref thisb2), .val (.ref ab2_1), .val .null, .val (.ref ab2_3), .val (.ref ab2_4)] [.null, (.ref thisb2)])) rfl rfl (hb hby d_prog_23_method_2_37)
  refine Wq.step st46 ?_
  have N46 := Fr.snoc X46 N45 g_thisb2
  have K46 : Keep h0 h46 [thisb2] := K45.wr W46 (Or.inl (List.mem_of_getElem? (i := 0) rfl))
  have Z46 : n0 ≤ h46.size := Nat.le_trans Z45 (Keep.of_wr W46).1
  have hk46 := Nat.le_trans hk45 (Keep.of_wr W46).1
  have E_thisb2_t46 := E_thisb2_t45.wr W46
  have V_ab2_1_t46 := V_ab2_1_t45.other W46 ne_ab2_1_thisb2
  have E_ab2_1_t46 := E_ab2_1_t45.wr W46
  have V_ab2_3_t46 := V_ab2_3_t45.other W46 ne_ab2_3_thisb2
  have E_ab2_3_t46 := E_ab2_3_t45.wr W46
  have E_ab2_4_t46 := E_ab2_4_t45.wr W46
  have P42_3_t46 := P42_3_t45.other W46 (Or.inr (slot_ne (Or.inr (kw50 hw)) (Or.inr (kw48 hw)) (by decide) (t := (.array .byte)) (t' := (.object "java/lang/Integer")) (by decide) (by decide)))
  have P42_4_t46 := P42_4_t45.other W46 (Or.inr (slot_ne (Or.inr (kw35 hw)) (Or.inr (kw48 hw)) (by decide) (t := (.object "com/example/opwire/opwire/codec/ber/UnknownElements")) (t' := (.object "java/lang/Integer")) (by decide) (by decide)))
  have A43_t46 := A43_t45.other W46 (Ne.symm ne_thisb2_b43)
  have Ex43_t46 := Ex43_t45.wr W46
  have F_thisb2_destinationTransactionId_t46 := F_thisb2_destinationTransactionId_t45.other W46 (Or.inr (slot_ne (Or.inr (kw46 hw)) (Or.inr (kw48 hw)) (by decide) (t := (.array .byte)) (t' := (.object "java/lang/Integer")) (by decide) (by decide)))
  have F_thisb2_pAbortCause_t46 : Fld Z h46 thisb2 "com/example/opwire/opwire/codec/tcap/Abort" "pAbortCause" "Ljava/lang/Integer;" .null := P42_2_t45.same W46
  show Wq _ _ _ _ _ (T46.setTop (mkF m 40 #[.val (.ref thisb2), .val (.ref ab2_1), .val .null, .val (.ref ab2_3), .val (.ref ab2_4)] []))
  refine Ow.aloadN X46 hx (pc' := 41) (hb hby d_prog_23_method_2_40) rfl rfl ?_
  refine Ow.aloadN X46 hx (pc' := 42) (hb hby d_prog_23_method_2_41) rfl rfl ?_
  refine Ow.ifnonnullYes X46 hx (pc' := 49) (hb hby d_prog_23_method_2_42) (by decide) (by decide) ?_
  refine Ow.aloadN X46 hx (pc' := 50) (hb hby d_prog_23_method_2_49) rfl rfl ?_
  obtain ⟨T47, h47, X47, e47, E47, A47, Ex47, st47⟩ := clA X46 hx hZ42 hown42 (kw36 hw) (kw37 hw) (kw41 hw) (kw39 hw) (kw40 hw) (kw42 hw) e46 V_ab2_3_t46 E_ab2_3_t46 (hfi) (g := (mkF m 50 #[.val (.ref thisb2), .val (.ref ab2_1), .val .null, .val (.ref ab2_3), .val (.ref ab2_4)] [(.ref ab2_3), (.ref thisb2)])) rfl (by rw [hml]; rfl) rfl (hb hby d_prog_23_method_2_50) (by decide) (W := 1) (cap := 2) (by show 2 * 0 + _ ≤ _; exact Nat.le_of_eq rfl) (by decide) (Nat.le_of_ble_eq_true rfl) (by decide) (by decide)
  obtain ⟨b47, gz47⟩ : ∃ z, z = h46.size := ⟨_, rfl⟩
  rw [← gz47] at A47 Ex47 st47
  have g_b47 : n0 ≤ b47 := Nat.le_trans Z46 (Nat.le_of_eq gz47.symm)
  have sz_b47 : h0.size ≤ b47 := Nat.le_trans K46.1 (Nat.le_of_eq gz47.symm)
  have ne_thisb2_b47 : thisb2 ≠ b47 := Nat.ne_of_lt (Nat.lt_of_lt_of_le E_thisb2_t46.lt (Nat.le_of_eq gz47.symm))
  have ne_ab2_1_b47 : ab2_1 ≠ b47 := Nat.ne_of_lt (Nat.lt_of_lt_of_le V_ab2_1_t46.lt (Nat.le_of_eq gz47.symm))
  have ne_ab2_3_b47 : ab2_3 ≠ b47 := Nat.ne_of_lt (Nat.lt_of_lt_of_le V_ab2_3_t46.lt (Nat.le_of_eq gz47.symm))
  have ne_ab2_4_b47 : ab2_4 ≠ b47 := Nat.ne_of_lt (Nat.lt_of_lt_of_le E_ab2_4_t46.lt (Nat.le_of_eq gz47.symm))
  have ne_b43_b47 : b43 ≠ b47 := Nat.ne_of_lt (Nat.lt_of_lt_of_le A43_t46.lt (Nat.le_of_eq gz47.symm))
  have K47 : Keep h0 h47 [thisb2] := K46.ext E47
  have Z47 : n0 ≤ h47.size := Nat.le_trans Z46 E47.1
  have hk47 := Nat.le_trans hk46 E47.1
  have E_thisb2_t47 := E_thisb2_t46.ext E47
  have V_ab2_1_t47 := V_ab2_1_t46.ext E47
  have E_ab2_1_t47 := E_ab2_1_t46.ext E47
  have V_ab2_3_t47 := V_ab2_3_t46.ext E47
  have E_ab2_3_t47 := E_ab2_3_t46.ext E47
  have E_ab2_4_t47 := E_ab2_4_t46.ext E47
  have P42_3_t47 := P42_3_t46.ext E47
  have P42_4_t47 := P42_4_t46.ext E47
  have A43_t47 := A43_t46.ext E47
  have Ex43_t47 := Ex43_t46.ext E47
  have F_thisb2_destinationTransactionId_t47 := F_thisb2_destinationTransactionId_t46.ext E47
  have F_thisb2_pAbortCause_t47 := F_thisb2_pAbortCause_t46.ext E47
  refine Wq.step st47 ?_
  show Wq _ _ _ _ _ (T47.setTop (mkF m 53 #[.val (.ref thisb2), .val (.ref ab2_1), .val .null, .val (.ref ab2_3), .val (.ref ab2_4)] [(.ref b47), (.ref thisb2)]))
  obtain ⟨T48, X48, e48, st48⟩ := castY X47 hx hZ42 hown42 (kw43 hw) e47 (Ins.self Ex47) (g := (mkF m 53 #[.val (.ref thisb2), .val (.ref ab2_1), .val .null, .val (.ref ab2_3), .val (.ref ab2_4)] [(.ref b47), (.ref thisb2)])) rfl rfl (hb hby d_prog_23_method_2_53)
  refine Wq.step st48 ?_
  show Wq _ _ _ _ _ (T48.setTop (mkF m 56 #[.val (.ref thisb2), .val (.ref ab2_1), .val .null, .val (.ref ab2_3), .val (.ref ab2_4)] [(.ref b47), (.ref thisb2)]))
  obtain ⟨T49, h49, X49, e49, W49, st49⟩ := putF X48 hx hZ42 hown42 (host := "") (Or.inl (kw49 hw)) Via.refl e48 P42_3_t47 E_thisb2_t47 (Or.inr ⟨(kw50 hw), rfl, hnm⟩) (kw2 hw) (ty := (.array .byte)) (by decide) (rfl) (rfl) (g := (mkF m 56 #[.val (.ref thisb2), .val (.ref ab2_1), .val .null, .val (.ref ab2_3), .val (.ref ab2_4)] [(.ref b47), (.ref thisb2)])) rfl rfl (hb hby d_prog_23_method_2_56)
  refine Wq.step st49 ?_
  have N49 := Fr.snoc X49 N46 g_thisb2
  have K49 : Keep h0 h49 [thisb2] := K47.wr W49 (Or.inl (List.mem_of_getElem? (i := 0) rfl))
  have Z49 : n0 ≤ h49.size := Nat.le_trans Z47 (Keep.of_wr W49).1
  have hk49 := Nat.le_trans hk47 (Keep.of_wr W49).1
  have E_thisb2_t49 := E_thisb2_t47.wr W49
  have V_ab2_1_t49 := V_ab2_1_t47.other W49 ne_ab2_1_thisb2
  have E_ab2_1_t49 := E_ab2_1_t47.wr W49
  have V_ab2_3_t49 := V_ab2_3_t47.other W49 ne_ab2_3_thisb2
  have E_ab2_3_t49 := E_ab2_3_t47.wr W49
  have E_ab2_4_t49 := E_ab2_4_t47.wr W49
  have P42_4_t49 := P42_4_t47.other W49 (Or.inr (slot_ne (Or.inr (kw35 hw)) (Or.inr (kw50 hw)) (by decide) (t := (.object "com/example/opwire/opwire/codec/ber/UnknownElements")) (t' := (.array .byte)) (by decide) (by decide)))
  have A43_t49 := A43_t47.other W49 (Ne.symm ne_thisb2_b43)
  have Ex43_t49 := Ex43_t47.wr W49
  have F_thisb2_destinationTransactionId_t49 := F_thisb2_destinationTransactionId_t47.other W49 (Or.inr (slot_ne (Or.inr (kw46 hw)) (Or.inr (kw50 hw)) (by decide) (t := (.array .byte)) (t' := (.array .byte)) (by decide) (by decide)))
  have F_thisb2_pAbortCause_t49 := F_thisb2_pAbortCause_t47.other W49 (Or.inr (slot_ne (Or.inr (kw48 hw)) (Or.inr (kw50 hw)) (by decide) (t := (.object "java/lang/Integer")) (t' := (.array .byte)) (by decide) (by decide)))
  have A47_t49 := A47.other W49 (Ne.symm ne_thisb2_b47)
  have Ex47_t49 := Ex47.wr W49
  have F_thisb2_userAbortInformation_t49 : Fld Z h49 thisb2 "com/example/opwire/opwire/codec/tcap/Abort" "userAbortInformation" "[B" (.ref b47) := P42_3_t47.same W49
  show Wq _ _ _ _ _ (T49.setTop (mkF m 59 #[.val (.ref thisb2), .val (.ref ab2_1), .val .null, .val (.ref ab2_3), .val (.ref ab2_4)] []))
  exact Wq.retW X49 hS42 (by rw [e49]; exact hk49) (BodyLoose.notSynchronized Bd) (rv := none) (fun _ => rfl) (fun _ hr => X49.returnOut hx Bd.returns (hb hby d_prog_23_method_2_59) hr) (by decide) (by decide) (by rw [e49]; exact ⟨b43, b47, rfl, N49, K49, sz_b43, sz_b47, ne_b43_b47, E_thisb2_t49, P42_4_t49, A43_t49, Ex43_t49, F_thisb2_destinationTransactionId_t49, F_thisb2_pAbortCause_t49, A47_t49, Ex47_t49, F_thisb2_userAbortInformation_t49⟩)
theorem ef_a2 (m : MethodId) (thisa2 : Addr) (aa2_1 : Addr) (aa2_3 : Addr) : entryFrame m #[(.ref thisa2), (.ref aa2_1), .null, (.ref aa2_3)] 4 = mkF m 0 #[.val (.ref thisa2), .val (.ref aa2_1), .val .null, .val (.ref aa2_3)] [] := by first | (simp [entryFrame, mkF, argsToLocals, Value.category]; done) | rfl
def Q_a2 (Z : State) (thisa2 : Addr) (aa2_1 : Addr) (aa2_3 : Addr) (t0a2 : Int32) (t1a2 : Int32) (i0a2 : Int32) (i1a2 : Int32) (unea2 : Addr) (h0 : Heap) (n0 : Nat) (v : Option Value) (h : Heap) (L : List Loc) : Prop := ∃ b43_c51 b47_c51 : Addr, v = none ∧ Fr n0 L ∧ Keep h0 h [thisa2] ∧ h0.size ≤ b43_c51 ∧ h0.size ≤ b47_c51 ∧ b43_c51 ≠ b47_c51 ∧ Exa Z h thisa2 "com/example/opwire/opwire/codec/tcap/Abort" ∧ Fld Z h thisa2 "com/example/opwire/opwire/codec/tcap/TcapMessage" "unknownElements" "Lcom/example/opwire/opwire/codec/ber/UnknownElements;" (.ref unea2) ∧ Al Z h b43_c51 .byte [(.int t0a2), (.int t1a2)] ∧ Exa Z h b43_c51 "[B" ∧ Fld Z h thisa2 "com/example/opwire/opwire/codec/tcap/Abort" "destinationTransactionId" "[B" (.ref b43_c51) ∧ Fld Z h thisa2 "com/example/opwire/opwire/codec/tcap/Abort" "pAbortCause" "Ljava/lang/Integer;" .null ∧ Al Z h b47_c51 .byte [(.int i0a2), (.int i1a2)] ∧ Exa Z h b47_c51 "[B" ∧ Fld Z h thisa2 "com/example/opwire/opwire/codec/tcap/Abort" "userAbortInformation" "[B" (.ref b47_c51)
set_option maxRecDepth 65536 in
set_option maxHeartbeats 40000000 in
theorem rm_a2 (l : Launch) (Z : State) (a0 : Array Value) (hw : ∀ d ∈ tables_1, d.before a0 Z = true) (ws : List Jvm.Cond) (thisa2 : Addr) (aa2_1 : Addr) (aa2_3 : Addr) (t0a2 : Int32) (t1a2 : Int32) (i0a2 : Int32) (i1a2 : Int32) (unea2 : Addr) (h0 : Heap) (n0 : Nat) (Z0 : n0 ≤ h0.size) (E_thisa2 : Exa Z h0 thisa2 "com/example/opwire/opwire/codec/tcap/Abort") (F_thisa2_unknownElements : Fld Z h0 thisa2 "com/example/opwire/opwire/codec/tcap/TcapMessage" "unknownElements" "Lcom/example/opwire/opwire/codec/ber/UnknownElements;" .null) (F_thisa2_destinationTransactionId : Fld Z h0 thisa2 "com/example/opwire/opwire/codec/tcap/Abort" "destinationTransactionId" "[B" .null) (F_thisa2_pAbortCause : Fld Z h0 thisa2 "com/example/opwire/opwire/codec/tcap/Abort" "pAbortCause" "Ljava/lang/Integer;" .null) (F_thisa2_userAbortInformation : Fld Z h0 thisa2 "com/example/opwire/opwire/codec/tcap/Abort" "userAbortInformation" "[B" .null) (g_thisa2 : n0 ≤ thisa2) (V_aa2_1 : Al Z h0 aa2_1 .byte [(.int t0a2), (.int t1a2)]) (E_aa2_1 : Exa Z h0 aa2_1 "[B") (ne_aa2_1_thisa2 : aa2_1 ≠ thisa2) (hft : ∀ v ∈ [Value.int t0a2, .int t1a2], fits .byte v = true) (V_aa2_3 : Al Z h0 aa2_3 .byte [(.int i0a2), (.int i1a2)]) (E_aa2_3 : Exa Z h0 aa2_3 "[B") (ne_aa2_3_thisa2 : aa2_3 ≠ thisa2) (hfi : ∀ v ∈ ([(.int i0a2), (.int i1a2)] : List Value), fits .byte v = true) (S_NONE : Sta Z h0 "com/example/opwire/opwire/codec/ber/UnknownElements" "NONE" "Lcom/example/opwire/opwire/codec/ber/UnknownElements;" (.ref unea2)) (E_unea2 : Exa Z h0 unea2 "com/example/opwire/opwire/codec/ber/UnknownElements") :
    MetFree l mt4 (head1 (Jvm.Cond.code mt4 prog_23_method_1_code 4 none :: ws) ({ frames := 3, cells := 4, slots := 68, locals := 43 } : Room)) (fun a U => a = #[(.ref thisa2), (.ref aa2_1), .null, (.ref aa2_3)] ∧ Z.Warmed39 U.vm ∧ U.heap = h0) (fun _ _ _ _ _ => True) (fun _ U o U' => ∃ v L, o = .returned v ∧ (Q_a2 Z thisa2 aa2_1 aa2_3 t0a2 t1a2 i0a2 i1a2 unea2 h0 n0) v U'.heap L ∧ ReturnedEndW U o U' L ({ frames := 3, cells := 4, slots := 68, locals := 43 } : Room).cells ({ frames := 3, cells := 4, slots := 68, locals := 43 } : Room).slots) := by
  refine MetFree.of_bodySF (plainFor_of_name pn3) hisR ?_
  intro p e s m args below meth c s₁ Bd hml0 hP hK
  obtain ⟨rfl, hZ, hh⟩ := hP
  have hx := Bd.exec
  have hby := Bd.bytes
  have hml : c.maxLocals = 4 := hml0
  have hown : s.vm.findClass "com/example/opwire/opwire/codec/tcap/Abort" = some m.cls := findClass_of_methodNamed Bd.named
  have hnm := (name_of_methodNamed Bd.named Bd.method).1
  have hS0 : s.Since s.vm 0 := (State.WarmedH.refl s).since 0
  have hk0 : 0 ≤ h0.size := Nat.zero_le _
  have X0 : Stand p l e ({ frames := 3, cells := 4, slots := 68, locals := 43 } : Room) (s.setVm s.vm) m #[(.ref thisa2), (.ref aa2_1), .null, (.ref aa2_3)] below meth c s₁ [] 0 0 := Stand.of_body Bd
  have e0 : s₁.heap = h0 := by rw [← hh, Bd.state]; rfl
  have N0 := Fr.nil n0
  refine Wq.step (p := p) (e := e) (below := below) (En := (fun o t L => ReturnedEndW s o t L ({ frames := 3, cells := 4, slots := 68, locals := 43 } : Room).cells ({ frames := 3, cells := 4, slots := 68, locals := 43 } : Room).slots)) (Q := (Q_a2 Z thisa2 aa2_1 aa2_3 t0a2 t1a2 i0a2 i1a2 unea2 h0 n0)) (fun t k => castTop (ef_a2 m thisa2 aa2_1 aa2_3) k) ?_
  show Wq _ _ _ _ _ (s₁.setTop (mkF m 0 #[.val (.ref thisa2), .val (.ref aa2_1), .val .null, .val (.ref aa2_3)] []))
  refine Ow.aloadN X0 hx (pc' := 1) (hb hby d_prog_23_method_1_0) rfl rfl ?_
  refine Ow.aloadN X0 hx (pc' := 2) (hb hby d_prog_23_method_1_1) rfl rfl ?_
  refine Ow.aloadN X0 hx (pc' := 3) (hb hby d_prog_23_method_1_2) rfl rfl ?_
  refine Ow.aloadN X0 hx (pc' := 4) (hb hby d_prog_23_method_1_3) rfl rfl ?_
  obtain ⟨T50, X50, e50, st50⟩ := getS2 X0 hx hZ hown (host := "") (Or.inl (kw7 hw)) Via.refl e0 S_NONE (g := (mkF m 4 #[.val (.ref thisa2), .val (.ref aa2_1), .val .null, .val (.ref aa2_3)] [(.ref aa2_3), .null, (.ref aa2_1), (.ref thisa2)])) rfl (hb hby d_prog_23_method_1_4)
  refine Wq.step st50 ?_
  show Wq _ _ _ _ _ (T50.setTop (mkF m 7 #[.val (.ref thisa2), .val (.ref aa2_1), .val .null, .val (.ref aa2_3)] [(.ref unea2), (.ref aa2_3), .null, (.ref aa2_1), (.ref thisa2)]))
  obtain ⟨_, _, ⟨T51, L51, k51, n51⟩, -, Xr51, hSr51, hgr51, ⟨Lc51, hQ51, l51, y51, z51⟩, st51⟩ := X50.specialBackS hx (y := mt3) rfl hown (mvT hZ (kw10 hw)) (mvT hZ (kw11 hw)) (mvT hZ (kw12 hw)) (by decide) (backOfS (W := 0) (rm_b2 l Z a0 hw [] thisa2 aa2_1 aa2_3 unea2 t0a2 t1a2 i0a2 i1a2 h0 n0 Z0 E_thisa2 F_thisa2_unknownElements F_thisa2_destinationTransactionId F_thisa2_pAbortCause F_thisa2_userAbortInformation g_thisa2 V_aa2_1 E_aa2_1 ne_aa2_1_thisa2 (hft) V_aa2_3 E_aa2_3 ne_aa2_3_thisa2 (hfi) E_unea2) hZ (kw12 hw) (kw3 hw) (by decide) (by decide)) (g := (mkF m 7 #[.val (.ref thisa2), .val (.ref aa2_1), .val .null, .val (.ref aa2_3)] [(.ref unea2), (.ref aa2_3), .null, (.ref aa2_1), (.ref thisa2)])) rfl (by rw [hml]; rfl) (Steps.refl _) (a := thisa2) (argsL := [(.ref aa2_1), .null, (.ref aa2_3), (.ref unea2)]) (rest := []) (lenOf pd3 rfl) rfl (by show 2 * 0 + _ ≤ _; exact Nat.le_of_eq rfl) (hb hby d_prog_23_method_1_7) (fun _ _ => ⟨rfl, e50, (by decide : 0 + 4 ≤ _), (by decide : 0 + 68 ≤ _)⟩)
  dsimp only [Pt.U, Pt.locs, Pt.cells, Pt.slots] at Xr51 hSr51 hgr51 l51 y51 z51 st51 hQ51
  subst l51 y51 z51
  obtain ⟨X51, hS51, hZ51, hown51⟩ := rebS hS0 (by rw [e50]; exact hk0) Xr51 hSr51 hgr51 hZ hown
  have hk51 := Nat.le_refl T51.heap.size
  obtain ⟨b43_c51, b47_c51, rfl, Nq51, Kq51, szq_b43_c51, szq_b47_c51, ne_b43_c51_b47_c51, P51_0, P51_1, P51_2, P51_3, P51_4, P51_5, P51_6, P51_7, P51_8⟩ := hQ51
  have g_b43_c51 : n0 ≤ b43_c51 := Nat.le_trans Z0 szq_b43_c51
  have sz_b43_c51 : h0.size ≤ b43_c51 := szq_b43_c51
  have ne_thisa2_b43_c51 : thisa2 ≠ b43_c51 := Nat.ne_of_lt (Nat.lt_of_lt_of_le E_thisa2.lt szq_b43_c51)
  have ne_aa2_1_b43_c51 : aa2_1 ≠ b43_c51 := Nat.ne_of_lt (Nat.lt_of_lt_of_le V_aa2_1.lt szq_b43_c51)
  have ne_aa2_3_b43_c51 : aa2_3 ≠ b43_c51 := Nat.ne_of_lt (Nat.lt_of_lt_of_le V_aa2_3.lt szq_b43_c51)
  have ne_unea2_b43_c51 : unea2 ≠ b43_c51 := Nat.ne_of_lt (Nat.lt_of_lt_of_le E_unea2.lt szq_b43_c51)
  have g_b47_c51 : n0 ≤ b47_c51 := Nat.le_trans Z0 szq_b47_c51
  have sz_b47_c51 : h0.size ≤ b47_c51 := szq_b47_c51
  have ne_thisa2_b47_c51 : thisa2 ≠ b47_c51 := Nat.ne_of_lt (Nat.lt_of_lt_of_le E_thisa2.lt szq_b47_c51)
  have ne_aa2_1_b47_c51 : aa2_1 ≠ b47_c51 := Nat.ne_of_lt (Nat.lt_of_lt_of_le V_aa2_1.lt szq_b47_c51)
  have ne_aa2_3_b47_c51 : aa2_3 ≠ b47_c51 := Nat.ne_of_lt (Nat.lt_of_lt_of_le V_aa2_3.lt szq_b47_c51)
  have ne_unea2_b47_c51 : unea2 ≠ b47_c51 := Nat.ne_of_lt (Nat.lt_of_lt_of_le E_unea2.lt szq_b47_c51)
  have N51 := Fr.app N0 Nq51
  have K51 : Keep h0 T51.heap [thisa2] := (Keep.refl h0 [thisa2]).trans Kq51 (allS (P := fun x => x ∈ [thisa2] ∨ h0.size ≤ x) (Or.inl (List.mem_of_getElem? (i := 0) rfl)) all0)
  have Z51 : n0 ≤ T51.heap.size := Nat.le_trans Z0 Kq51.1
  have E_thisa2_t51 := E_thisa2.keep Kq51
  have V_aa2_1_t51 := V_aa2_1.keep Kq51 (ninS ne_aa2_1_thisa2 nin0)
  have E_aa2_1_t51 := E_aa2_1.keep Kq51
  have V_aa2_3_t51 := V_aa2_3.keep Kq51 (ninS ne_aa2_3_thisa2 nin0)
  have E_aa2_3_t51 := E_aa2_3.keep Kq51
  have S_NONE_t51 := Jvm.OwnW.Sta.keepN S_NONE Kq51 (allS (P := fun w => ∀ cell : Cell, h0[w]? = some cell → cell.vm.isStatics = false) (Jvm.OwnW.Exa.ns E_thisa2) all0)
  have E_unea2_t51 := E_unea2.keep Kq51
  have e51 : T51.heap = T51.heap := rfl
  refine Wq.steps st51 ?_
  show Wq _ _ _ _ _ (T51.setTop (mkF m 10 #[.val (.ref thisa2), .val (.ref aa2_1), .val .null, .val (.ref aa2_3)] []))
  exact Wq.retW X51 hS51 (by rw [e51]; exact hk51) (BodyLoose.notSynchronized Bd) (rv := none) (fun _ => rfl) (fun _ hr => X51.returnOut hx Bd.returns (hb hby d_prog_23_method_1_10) hr) (by decide) (by decide) (by rw [e51]; exact ⟨b43_c51, b47_c51, rfl, N51, K51, sz_b43_c51, sz_b47_c51, ne_b43_c51_b47_c51, E_thisa2_t51, P51_1, P51_2, P51_3, P51_4, P51_5, P51_6, P51_7, P51_8⟩)
theorem ef_b3 (m : MethodId) (thisb3 : Addr) (ab3_1 : Addr) (ab3_3 : Addr) (ab3_4 : Addr) : entryFrame m #[(.ref thisb3), (.ref ab3_1), .null, (.ref ab3_3), (.ref ab3_4)] 5 = mkF m 0 #[.val (.ref thisb3), .val (.ref ab3_1), .val .null, .val (.ref ab3_3), .val (.ref ab3_4)] [] := by first | (simp [entryFrame, mkF, argsToLocals, Value.category]; done) | rfl
def Q_b3 (Z : State) (thisb3 : Addr) (ab3_1 : Addr) (ab3_3 : Addr) (ab3_4 : Addr) (t0b3 : Int32) (t1b3 : Int32) (i0b3 : Int32) (i1b3 : Int32) (i2b3 : Int32) (h0 : Heap) (n0 : Nat) (v : Option Value) (h : Heap) (L : List Loc) : Prop := ∃ b53 b57 : Addr, v = none ∧ Fr n0 L ∧ Keep h0 h [thisb3] ∧ h0.size ≤ b53 ∧ h0.size ≤ b57 ∧ b53 ≠ b57 ∧ Exa Z h thisb3 "com/example/opwire/opwire/codec/tcap/Abort" ∧ Fld Z h thisb3 "com/example/opwire/opwire/codec/tcap/TcapMessage" "unknownElements" "Lcom/example/opwire/opwire/codec/ber/UnknownElements;" (.ref ab3_4) ∧ Al Z h b53 .byte [(.int t0b3), (.int t1b3)] ∧ Exa Z h b53 "[B" ∧ Fld Z h thisb3 "com/example/opwire/opwire/codec/tcap/Abort" "destinationTransactionId" "[B" (.ref b53) ∧ Fld Z h thisb3 "com/example/opwire/opwire/codec/tcap/Abort" "pAbortCause" "Ljava/lang/Integer;" .null ∧ Al Z h b57 .byte [(.int i0b3), (.int i1b3), (.int i2b3)] ∧ Exa Z h b57 "[B" ∧ Fld Z h thisb3 "com/example/opwire/opwire/codec/tcap/Abort" "userAbortInformation" "[B" (.ref b57)
set_option maxRecDepth 65536 in
set_option maxHeartbeats 40000000 in
theorem rm_b3 (l : Launch) (Z : State) (a0 : Array Value) (hw : ∀ d ∈ tables_1, d.before a0 Z = true) (ws : List Jvm.Cond) (thisb3 : Addr) (ab3_1 : Addr) (ab3_3 : Addr) (ab3_4 : Addr) (t0b3 : Int32) (t1b3 : Int32) (i0b3 : Int32) (i1b3 : Int32) (i2b3 : Int32) (h0 : Heap) (n0 : Nat) (Z0 : n0 ≤ h0.size) (E_thisb3 : Exa Z h0 thisb3 "com/example/opwire/opwire/codec/tcap/Abort") (F_thisb3_unknownElements : Fld Z h0 thisb3 "com/example/opwire/opwire/codec/tcap/TcapMessage" "unknownElements" "Lcom/example/opwire/opwire/codec/ber/UnknownElements;" .null) (F_thisb3_destinationTransactionId : Fld Z h0 thisb3 "com/example/opwire/opwire/codec/tcap/Abort" "destinationTransactionId" "[B" .null) (F_thisb3_pAbortCause : Fld Z h0 thisb3 "com/example/opwire/opwire/codec/tcap/Abort" "pAbortCause" "Ljava/lang/Integer;" .null) (F_thisb3_userAbortInformation : Fld Z h0 thisb3 "com/example/opwire/opwire/codec/tcap/Abort" "userAbortInformation" "[B" .null) (g_thisb3 : n0 ≤ thisb3) (V_ab3_1 : Al Z h0 ab3_1 .byte [(.int t0b3), (.int t1b3)]) (E_ab3_1 : Exa Z h0 ab3_1 "[B") (ne_ab3_1_thisb3 : ab3_1 ≠ thisb3) (hft : ∀ v ∈ [Value.int t0b3, .int t1b3], fits .byte v = true) (V_ab3_3 : Al Z h0 ab3_3 .byte [(.int i0b3), (.int i1b3), (.int i2b3)]) (E_ab3_3 : Exa Z h0 ab3_3 "[B") (ne_ab3_3_thisb3 : ab3_3 ≠ thisb3) (hfi : ∀ v ∈ ([(.int i0b3), (.int i1b3), (.int i2b3)] : List Value), fits .byte v = true) (E_ab3_4 : Exa Z h0 ab3_4 "com/example/opwire/opwire/codec/ber/UnknownElements") :
    MetFree l mt3 (head1 (Jvm.Cond.code mt3 prog_23_method_2_code 5 none :: ws) ({ frames := 2, cells := 4, slots := 69, locals := 27 } : Room)) (fun a U => a = #[(.ref thisb3), (.ref ab3_1), .null, (.ref ab3_3), (.ref ab3_4)] ∧ Z.Warmed39 U.vm ∧ U.heap = h0) (fun _ _ _ _ _ => True) (fun _ U o U' => ∃ v L, o = .returned v ∧ (Q_b3 Z thisb3 ab3_1 ab3_3 ab3_4 t0b3 t1b3 i0b3 i1b3 i2b3 h0 n0) v U'.heap L ∧ ReturnedEndW U o U' L ({ frames := 2, cells := 4, slots := 69, locals := 27 } : Room).cells ({ frames := 2, cells := 4, slots := 69, locals := 27 } : Room).slots) := by
  refine MetFree.of_bodySF (plainFor_of_name pn3) hisR ?_
  intro p e s m args below meth c s₁ Bd hml0 hP hK
  obtain ⟨rfl, hZ, hh⟩ := hP
  have hx := Bd.exec
  have hby := Bd.bytes
  have hml : c.maxLocals = 5 := hml0
  have hown : s.vm.findClass "com/example/opwire/opwire/codec/tcap/Abort" = some m.cls := findClass_of_methodNamed Bd.named
  have hnm := (name_of_methodNamed Bd.named Bd.method).1
  have hS0 : s.Since s.vm 0 := (State.WarmedH.refl s).since 0
  have hk0 : 0 ≤ h0.size := Nat.zero_le _
  have X0 : Stand p l e ({ frames := 2, cells := 4, slots := 69, locals := 27 } : Room) (s.setVm s.vm) m #[(.ref thisb3), (.ref ab3_1), .null, (.ref ab3_3), (.ref ab3_4)] below meth c s₁ [] 0 0 := Stand.of_body Bd
  have e0 : s₁.heap = h0 := by rw [← hh, Bd.state]; rfl
  have N0 := Fr.nil n0
  refine Wq.step (p := p) (e := e) (below := below) (En := (fun o t L => ReturnedEndW s o t L ({ frames := 2, cells := 4, slots := 69, locals := 27 } : Room).cells ({ frames := 2, cells := 4, slots := 69, locals := 27 } : Room).slots)) (Q := (Q_b3 Z thisb3 ab3_1 ab3_3 ab3_4 t0b3 t1b3 i0b3 i1b3 i2b3 h0 n0)) (fun t k => castTop (ef_b3 m thisb3 ab3_1 ab3_3 ab3_4) k) ?_
  show Wq _ _ _ _ _ (s₁.setTop (mkF m 0 #[.val (.ref thisb3), .val (.ref ab3_1), .val .null, .val (.ref ab3_3), .val (.ref ab3_4)] []))
  refine Ow.aloadN X0 hx (pc' := 1) (hb hby d_prog_23_method_2_0) rfl rfl ?_
  refine Ow.aload X0 hx (pc' := 3) (hb hby d_prog_23_method_2_1) rfl rfl ?_
  obtain ⟨_, _, ⟨T52, L52, k52, n52⟩, -, Xr52, hSr52, hgr52, ⟨Lc52, hQ52, l52, y52, z52⟩, st52⟩ := X0.specialBackS hx (y := mt2) rfl hown (mvT hZ (kw13 hw)) (mvT hZ (kw14 hw)) (mvT hZ (kw17 hw)) (by decide) (backOfS (W := 0) (rm_tm l Z a0 hw [] thisb3 ab3_4 h0 n0 Z0 E_thisb3 F_thisb3_unknownElements F_thisb3_destinationTransactionId F_thisb3_pAbortCause F_thisb3_userAbortInformation g_thisb3 E_ab3_4) hZ (kw17 hw) (kw16 hw) (by decide) (by decide)) (g := (mkF m 3 #[.val (.ref thisb3), .val (.ref ab3_1), .val .null, .val (.ref ab3_3), .val (.ref ab3_4)] [(.ref ab3_4), (.ref thisb3)])) rfl (by rw [hml]; rfl) (Steps.refl _) (a := thisb3) (argsL := [(.ref ab3_4)]) (rest := []) (lenOf pd2 rfl) rfl (by show 2 * 0 + _ ≤ _; exact Nat.le_of_eq rfl) (hb hby d_prog_23_method_2_3) (fun _ _ => ⟨rfl, e0, (by decide : 0 + 2 ≤ _), (by decide : 0 + 64 ≤ _)⟩)
  dsimp only [Pt.U, Pt.locs, Pt.cells, Pt.slots] at Xr52 hSr52 hgr52 l52 y52 z52 st52 hQ52
  subst l52 y52 z52
  obtain ⟨X52, hS52, hZ52, hown52⟩ := rebS hS0 (by rw [e0]; exact hk0) Xr52 hSr52 hgr52 hZ hown
  have hk52 := Nat.le_refl T52.heap.size
  obtain ⟨rfl, Nq52, Kq52, P52_0, P52_1, P52_2, P52_3, P52_4⟩ := hQ52
  have N52 := Fr.app N0 Nq52
  have K52 : Keep h0 T52.heap [thisb3] := (Keep.refl h0 [thisb3]).trans Kq52 (allS (P := fun x => x ∈ [thisb3] ∨ h0.size ≤ x) (Or.inl (List.mem_of_getElem? (i := 0) rfl)) all0)
  have Z52 : n0 ≤ T52.heap.size := Nat.le_trans Z0 Kq52.1
  have E_thisb3_t52 := E_thisb3.keep Kq52
  have V_ab3_1_t52 := V_ab3_1.keep Kq52 (ninS ne_ab3_1_thisb3 nin0)
  have E_ab3_1_t52 := E_ab3_1.keep Kq52
  have V_ab3_3_t52 := V_ab3_3.keep Kq52 (ninS ne_ab3_3_thisb3 nin0)
  have E_ab3_3_t52 := E_ab3_3.keep Kq52
  have E_ab3_4_t52 := E_ab3_4.keep Kq52
  have e52 : T52.heap = T52.heap := rfl
  refine Wq.steps st52 ?_
  show Wq _ _ _ _ _ (T52.setTop (mkF m 6 #[.val (.ref thisb3), .val (.ref ab3_1), .val .null, .val (.ref ab3_3), .val (.ref ab3_4)] []))
  refine Ow.aloadN X52 hx (pc' := 7) (hb hby d_prog_23_method_2_6) rfl rfl ?_
  refine Ow.ifnullYes X52 hx (pc' := 24) (hb hby d_prog_23_method_2_7) (by decide) (by decide) ?_
  refine Ow.aloadN X52 hx (pc' := 25) (hb hby d_prog_23_method_2_24) rfl rfl ?_
  refine Ow.aloadN X52 hx (pc' := 26) (hb hby d_prog_23_method_2_25) rfl rfl ?_
  obtain ⟨T53, h53, X53, e53, E53, A53, Ex53, st53⟩ := clA X52 hx hZ52 hown52 (kw36 hw) (kw37 hw) (kw41 hw) (kw39 hw) (kw40 hw) (kw42 hw) e52 V_ab3_1_t52 E_ab3_1_t52 (hft) (g := (mkF m 26 #[.val (.ref thisb3), .val (.ref ab3_1), .val .null, .val (.ref ab3_3), .val (.ref ab3_4)] [(.ref ab3_1), (.ref thisb3)])) rfl (by rw [hml]; rfl) rfl (hb hby d_prog_23_method_2_26) (by decide) (W := 1) (cap := 2) (by show 2 * 0 + _ ≤ _; exact Nat.le_of_eq rfl) (by decide) (Nat.le_of_ble_eq_true rfl) (by decide) (by decide)
  obtain ⟨b53, gz53⟩ : ∃ z, z = T52.heap.size := ⟨_, rfl⟩
  rw [← gz53] at A53 Ex53 st53
  have g_b53 : n0 ≤ b53 := Nat.le_trans Z52 (Nat.le_of_eq gz53.symm)
  have sz_b53 : h0.size ≤ b53 := Nat.le_trans K52.1 (Nat.le_of_eq gz53.symm)
  have ne_thisb3_b53 : thisb3 ≠ b53 := Nat.ne_of_lt (Nat.lt_of_lt_of_le E_thisb3_t52.lt (Nat.le_of_eq gz53.symm))
  have ne_ab3_1_b53 : ab3_1 ≠ b53 := Nat.ne_of_lt (Nat.lt_of_lt_of_le V_ab3_1_t52.lt (Nat.le_of_eq gz53.symm))
  have ne_ab3_3_b53 : ab3_3 ≠ b53 := Nat.ne_of_lt (Nat.lt_of_lt_of_le V_ab3_3_t52.lt (Nat.le_of_eq gz53.symm))
  have ne_ab3_4_b53 : ab3_4 ≠ b53 := Nat.ne_of_lt (Nat.lt_of_lt_of_le E_ab3_4_t52.lt (Nat.le_of_eq gz53.symm))
  have K53 : Keep h0 h53 [thisb3] := K52.ext E53
  have Z53 : n0 ≤ h53.size := Nat.le_trans Z52 E53.1
  have hk53 := Nat.le_trans hk52 E53.1
  have E_thisb3_t53 := E_thisb3_t52.ext E53
  have V_ab3_1_t53 := V_ab3_1_t52.ext E53
  have E_ab3_1_t53 := E_ab3_1_t52.ext E53
  have V_ab3_3_t53 := V_ab3_3_t52.ext E53
  have E_ab3_3_t53 := E_ab3_3_t52.ext E53
  have E_ab3_4_t53 := E_ab3_4_t52.ext E53
  have P52_1_t53 := P52_1.ext E53
  have P52_2_t53 := P52_2.ext E53
  have P52_3_t53 := P52_3.ext E53
  have P52_4_t53 := P52_4.ext E53
  refine Wq.step st53 ?_
  show Wq _ _ _ _ _ (T53.setTop (mkF m 29 #[.val (.ref thisb3), .val (.ref ab3_1), .val .null, .val (.ref ab3_3), .val (.ref ab3_4)] [(.ref b53), (.ref thisb3)]))
  obtain ⟨T54, X54, e54, st54⟩ := castY X53 hx hZ52 hown52 (kw43 hw) e53 (Ins.self Ex53) (g := (mkF m 29 #[.val (.ref thisb3), .val (.ref ab3_1), .val .null, .val (.ref ab3_3), .val (.ref ab3_4)] [(.ref b53), (.ref thisb3)])) rfl rfl (hb hby d_prog_23_method_2_29)
  refine Wq.step st54 ?_
  show Wq _ _ _ _ _ (T54.setTop (mkF m 32 #[.val (.ref thisb3), .val (.ref ab3_1), .val .null, .val (.ref ab3_3), .val (.ref ab3_4)] [(.ref b53), (.ref thisb3)]))
  obtain ⟨T55, h55, X55, e55, W55, st55⟩ := putF X54 hx hZ52 hown52 (host := "") (Or.inl (kw45 hw)) Via.refl e54 P52_1_t53 E_thisb3_t53 (Or.inr ⟨(kw46 hw), rfl, hnm⟩) (kw2 hw) (ty := (.array .byte)) (by decide) (rfl) (rfl) (g := (mkF m 32 #[.val (.ref thisb3), .val (.ref ab3_1), .val .null, .val (.ref ab3_3), .val (.ref ab3_4)] [(.ref b53), (.ref thisb3)])) rfl rfl (hb hby d_prog_23_method_2_32)
  refine Wq.step st55 ?_
  have N55 := Fr.snoc X55 N52 g_thisb3
  have K55 : Keep h0 h55 [thisb3] := K53.wr W55 (Or.inl (List.mem_of_getElem? (i := 0) rfl))
  have Z55 : n0 ≤ h55.size := Nat.le_trans Z53 (Keep.of_wr W55).1
  have hk55 := Nat.le_trans hk53 (Keep.of_wr W55).1
  have E_thisb3_t55 := E_thisb3_t53.wr W55
  have V_ab3_1_t55 := V_ab3_1_t53.other W55 ne_ab3_1_thisb3
  have E_ab3_1_t55 := E_ab3_1_t53.wr W55
  have V_ab3_3_t55 := V_ab3_3_t53.other W55 ne_ab3_3_thisb3
  have E_ab3_3_t55 := E_ab3_3_t53.wr W55
  have E_ab3_4_t55 := E_ab3_4_t53.wr W55
  have P52_2_t55 := P52_2_t53.other W55 (Or.inr (slot_ne (Or.inr (kw48 hw)) (Or.inr (kw46 hw)) (by decide) (t := (.object "java/lang/Integer")) (t' := (.array .byte)) (by decide) (by decide)))
  have P52_3_t55 := P52_3_t53.other W55 (Or.inr (slot_ne (Or.inr (kw50 hw)) (Or.inr (kw46 hw)) (by decide) (t := (.array .byte)) (t' := (.array .byte)) (by decide) (by decide)))
  have P52_4_t55 := P52_4_t53.other W55 (Or.inr (slot_ne (Or.inr (kw35 hw)) (Or.inr (kw46 hw)) (by decide) (t := (.object "com/example/opwire/opwire/codec/ber/UnknownElements")) (t' := (.array .byte)) (by decide) (by decide)))
  have A53_t55 := A53.other W55 (Ne.symm ne_thisb3_b53)
  have Ex53_t55 := Ex53.wr W55
  have F_thisb3_destinationTransactionId_t55 : Fld Z h55 thisb3 "com/example/opwire/opwire/codec/tcap/Abort" "destinationTransactionId" "[B" (.ref b53) := P52_1_t53.same W55
  show Wq _ _ _ _ _ (T55.setTop (mkF m 35 #[.val (.ref thisb3), .val (.ref ab3_1), .val .null, .val (.ref ab3_3), .val (.ref ab3_4)] []))
  refine Ow.aloadN X55 hx (pc' := 36) (hb hby d_prog_23_method_2_35) rfl rfl ?_
  refine Ow.aloadN X55 hx (pc' := 37) (hb hby d_prog_23_method_2_36) rfl rfl ?_
  obtain ⟨T56, h56, X56, e56, W56, st56⟩ := putF X55 hx hZ52 hown52 (host := "") (Or.inl (kw47 hw)) Via.refl e55 P52_2_t55 E_thisb3_t55 (Or.inr ⟨(kw48 hw), rfl, hnm⟩) (kw2 hw) (ty := (.object "java/lang/Integer")) (by decide) (rfl) (rfl) (g := (mkF m 37 #[.val (.ref thisb3), .val (.ref ab3_1), .val .null, .val (.ref ab3_3), .val (.ref ab3_4)] [.null, (.ref thisb3)])) rfl rfl (hb hby d_prog_23_method_2_37)
  refine Wq.step st56 ?_
  have N56 := Fr.snoc X56 N55 g_thisb3
  have K56 : Keep h0 h56 [thisb3] := K55.wr W56 (Or.inl (List.mem_of_getElem? (i := 0) rfl))
  have Z56 : n0 ≤ h56.size := Nat.le_trans Z55 (Keep.of_wr W56).1
  have hk56 := Nat.le_trans hk55 (Keep.of_wr W56).1
  have E_thisb3_t56 := E_thisb3_t55.wr W56
  have V_ab3_1_t56 := V_ab3_1_t55.other W56 ne_ab3_1_thisb3
  have E_ab3_1_t56 := E_ab3_1_t55.wr W56
  have V_ab3_3_t56 := V_ab3_3_t55.other W56 ne_ab3_3_thisb3
  have E_ab3_3_t56 := E_ab3_3_t55.wr W56
  have E_ab3_4_t56 := E_ab3_4_t55.wr W56
  have P52_3_t56 := P52_3_t55.other W56 (Or.inr (slot_ne (Or.inr (kw50 hw)) (Or.inr (kw48 hw)) (by decide) (t := (.array .byte)) (t' := (.object "java/lang/Integer")) (by decide) (by decide)))
  have P52_4_t56 := P52_4_t55.other W56 (Or.inr (slot_ne (Or.inr (kw35 hw)) (Or.inr (kw48 hw)) (by decide) (t := (.object "com/example/opwire/opwire/codec/ber/UnknownElements")) (t' := (.object "java/lang/Integer")) (by decide) (by decide)))
  have A53_t56 := A53_t55.other W56 (Ne.symm ne_thisb3_b53)
  have Ex53_t56 := Ex53_t55.wr W56
  have F_thisb3_destinationTransactionId_t56 := F_thisb3_destinationTransactionId_t55.other W56 (Or.inr (slot_ne (Or.inr (kw46 hw)) (Or.inr (kw48 hw)) (by decide) (t := (.array .byte)) (t' := (.object "java/lang/Integer")) (by decide) (by decide)))
  have F_thisb3_pAbortCause_t56 : Fld Z h56 thisb3 "com/example/opwire/opwire/codec/tcap/Abort" "pAbortCause" "Ljava/lang/Integer;" .null := P52_2_t55.same W56
  show Wq _ _ _ _ _ (T56.setTop (mkF m 40 #[.val (.ref thisb3), .val (.ref ab3_1), .val .null, .val (.ref ab3_3), .val (.ref ab3_4)] []))
  refine Ow.aloadN X56 hx (pc' := 41) (hb hby d_prog_23_method_2_40) rfl rfl ?_
  refine Ow.aloadN X56 hx (pc' := 42) (hb hby d_prog_23_method_2_41) rfl rfl ?_
  refine Ow.ifnonnullYes X56 hx (pc' := 49) (hb hby d_prog_23_method_2_42) (by decide) (by decide) ?_
  refine Ow.aloadN X56 hx (pc' := 50) (hb hby d_prog_23_method_2_49) rfl rfl ?_
  obtain ⟨T57, h57, X57, e57, E57, A57, Ex57, st57⟩ := clA X56 hx hZ52 hown52 (kw36 hw) (kw37 hw) (kw41 hw) (kw39 hw) (kw40 hw) (kw42 hw) e56 V_ab3_3_t56 E_ab3_3_t56 (hfi) (g := (mkF m 50 #[.val (.ref thisb3), .val (.ref ab3_1), .val .null, .val (.ref ab3_3), .val (.ref ab3_4)] [(.ref ab3_3), (.ref thisb3)])) rfl (by rw [hml]; rfl) rfl (hb hby d_prog_23_method_2_50) (by decide) (W := 1) (cap := 3) (by show 2 * 0 + _ ≤ _; exact Nat.le_of_eq rfl) (by decide) (Nat.le_of_ble_eq_true rfl) (by decide) (by decide)
  obtain ⟨b57, gz57⟩ : ∃ z, z = h56.size := ⟨_, rfl⟩
  rw [← gz57] at A57 Ex57 st57
  have g_b57 : n0 ≤ b57 := Nat.le_trans Z56 (Nat.le_of_eq gz57.symm)
  have sz_b57 : h0.size ≤ b57 := Nat.le_trans K56.1 (Nat.le_of_eq gz57.symm)
  have ne_thisb3_b57 : thisb3 ≠ b57 := Nat.ne_of_lt (Nat.lt_of_lt_of_le E_thisb3_t56.lt (Nat.le_of_eq gz57.symm))
  have ne_ab3_1_b57 : ab3_1 ≠ b57 := Nat.ne_of_lt (Nat.lt_of_lt_of_le V_ab3_1_t56.lt (Nat.le_of_eq gz57.symm))
  have ne_ab3_3_b57 : ab3_3 ≠ b57 := Nat.ne_of_lt (Nat.lt_of_lt_of_le V_ab3_3_t56.lt (Nat.le_of_eq gz57.symm))
  have ne_ab3_4_b57 : ab3_4 ≠ b57 := Nat.ne_of_lt (Nat.lt_of_lt_of_le E_ab3_4_t56.lt (Nat.le_of_eq gz57.symm))
  have ne_b53_b57 : b53 ≠ b57 := Nat.ne_of_lt (Nat.lt_of_lt_of_le A53_t56.lt (Nat.le_of_eq gz57.symm))
  have K57 : Keep h0 h57 [thisb3] := K56.ext E57
  have Z57 : n0 ≤ h57.size := Nat.le_trans Z56 E57.1
  have hk57 := Nat.le_trans hk56 E57.1
  have E_thisb3_t57 := E_thisb3_t56.ext E57
  have V_ab3_1_t57 := V_ab3_1_t56.ext E57
  have E_ab3_1_t57 := E_ab3_1_t56.ext E57
  have V_ab3_3_t57 := V_ab3_3_t56.ext E57
  have E_ab3_3_t57 := E_ab3_3_t56.ext E57
  have E_ab3_4_t57 := E_ab3_4_t56.ext E57
  have P52_3_t57 := P52_3_t56.ext E57
  have P52_4_t57 := P52_4_t56.ext E57
  have A53_t57 := A53_t56.ext E57
  have Ex53_t57 := Ex53_t56.ext E57
  have F_thisb3_destinationTransactionId_t57 := F_thisb3_destinationTransactionId_t56.ext E57
  have F_thisb3_pAbortCause_t57 := F_thisb3_pAbortCause_t56.ext E57
  refine Wq.step st57 ?_
  show Wq _ _ _ _ _ (T57.setTop (mkF m 53 #[.val (.ref thisb3), .val (.ref ab3_1), .val .null, .val (.ref ab3_3), .val (.ref ab3_4)] [(.ref b57), (.ref thisb3)]))
  obtain ⟨T58, X58, e58, st58⟩ := castY X57 hx hZ52 hown52 (kw43 hw) e57 (Ins.self Ex57) (g := (mkF m 53 #[.val (.ref thisb3), .val (.ref ab3_1), .val .null, .val (.ref ab3_3), .val (.ref ab3_4)] [(.ref b57), (.ref thisb3)])) rfl rfl (hb hby d_prog_23_method_2_53)
  refine Wq.step st58 ?_
  show Wq _ _ _ _ _ (T58.setTop (mkF m 56 #[.val (.ref thisb3), .val (.ref ab3_1), .val .null, .val (.ref ab3_3), .val (.ref ab3_4)] [(.ref b57), (.ref thisb3)]))
  obtain ⟨T59, h59, X59, e59, W59, st59⟩ := putF X58 hx hZ52 hown52 (host := "") (Or.inl (kw49 hw)) Via.refl e58 P52_3_t57 E_thisb3_t57 (Or.inr ⟨(kw50 hw), rfl, hnm⟩) (kw2 hw) (ty := (.array .byte)) (by decide) (rfl) (rfl) (g := (mkF m 56 #[.val (.ref thisb3), .val (.ref ab3_1), .val .null, .val (.ref ab3_3), .val (.ref ab3_4)] [(.ref b57), (.ref thisb3)])) rfl rfl (hb hby d_prog_23_method_2_56)
  refine Wq.step st59 ?_
  have N59 := Fr.snoc X59 N56 g_thisb3
  have K59 : Keep h0 h59 [thisb3] := K57.wr W59 (Or.inl (List.mem_of_getElem? (i := 0) rfl))
  have Z59 : n0 ≤ h59.size := Nat.le_trans Z57 (Keep.of_wr W59).1
  have hk59 := Nat.le_trans hk57 (Keep.of_wr W59).1
  have E_thisb3_t59 := E_thisb3_t57.wr W59
  have V_ab3_1_t59 := V_ab3_1_t57.other W59 ne_ab3_1_thisb3
  have E_ab3_1_t59 := E_ab3_1_t57.wr W59
  have V_ab3_3_t59 := V_ab3_3_t57.other W59 ne_ab3_3_thisb3
  have E_ab3_3_t59 := E_ab3_3_t57.wr W59
  have E_ab3_4_t59 := E_ab3_4_t57.wr W59
  have P52_4_t59 := P52_4_t57.other W59 (Or.inr (slot_ne (Or.inr (kw35 hw)) (Or.inr (kw50 hw)) (by decide) (t := (.object "com/example/opwire/opwire/codec/ber/UnknownElements")) (t' := (.array .byte)) (by decide) (by decide)))
  have A53_t59 := A53_t57.other W59 (Ne.symm ne_thisb3_b53)
  have Ex53_t59 := Ex53_t57.wr W59
  have F_thisb3_destinationTransactionId_t59 := F_thisb3_destinationTransactionId_t57.other W59 (Or.inr (slot_ne (Or.inr (kw46 hw)) (Or.inr (kw50 hw)) (by decide) (t := (.array .byte)) (t' := (.array .byte)) (by decide) (by decide)))
  have F_thisb3_pAbortCause_t59 := F_thisb3_pAbortCause_t57.other W59 (Or.inr (slot_ne (Or.inr (kw48 hw)) (Or.inr (kw50 hw)) (by decide) (t := (.object "java/lang/Integer")) (t' := (.array .byte)) (by decide) (by decide)))
  have A57_t59 := A57.other W59 (Ne.symm ne_thisb3_b57)
  have Ex57_t59 := Ex57.wr W59
  have F_thisb3_userAbortInformation_t59 : Fld Z h59 thisb3 "com/example/opwire/opwire/codec/tcap/Abort" "userAbortInformation" "[B" (.ref b57) := P52_3_t57.same W59
  show Wq _ _ _ _ _ (T59.setTop (mkF m 59 #[.val (.ref thisb3), .val (.ref ab3_1), .val .null, .val (.ref ab3_3), .val (.ref ab3_4)] []))
  exact Wq.retW X59 hS52 (by rw [e59]; exact hk59) (BodyLoose.notSynchronized Bd) (rv := none) (fun _ => rfl) (fun _ hr => X59.returnOut hx Bd.returns (hb hby d_prog_23_method_2_59) hr) (by decide) (by decide) (by rw [e59]; exact ⟨b53, b57, rfl, N59, K59, sz_b53, sz_b57, ne_b53_b57, E_thisb3_t59, P52_4_t59, A53_t59, Ex53_t59, F_thisb3_destinationTransactionId_t59, F_thisb3_pAbortCause_t59, A57_t59, Ex57_t59, F_thisb3_userAbortInformation_t59⟩)
theorem ef_a3 (m : MethodId) (thisa3 : Addr) (aa3_1 : Addr) (aa3_3 : Addr) : entryFrame m #[(.ref thisa3), (.ref aa3_1), .null, (.ref aa3_3)] 4 = mkF m 0 #[.val (.ref thisa3), .val (.ref aa3_1), .val .null, .val (.ref aa3_3)] [] := by first | (simp [entryFrame, mkF, argsToLocals, Value.category]; done) | rfl
def Q_a3 (Z : State) (thisa3 : Addr) (aa3_1 : Addr) (aa3_3 : Addr) (t0a3 : Int32) (t1a3 : Int32) (i0a3 : Int32) (i1a3 : Int32) (i2a3 : Int32) (unea3 : Addr) (h0 : Heap) (n0 : Nat) (v : Option Value) (h : Heap) (L : List Loc) : Prop := ∃ b53_c61 b57_c61 : Addr, v = none ∧ Fr n0 L ∧ Keep h0 h [thisa3] ∧ h0.size ≤ b53_c61 ∧ h0.size ≤ b57_c61 ∧ b53_c61 ≠ b57_c61 ∧ Exa Z h thisa3 "com/example/opwire/opwire/codec/tcap/Abort" ∧ Fld Z h thisa3 "com/example/opwire/opwire/codec/tcap/TcapMessage" "unknownElements" "Lcom/example/opwire/opwire/codec/ber/UnknownElements;" (.ref unea3) ∧ Al Z h b53_c61 .byte [(.int t0a3), (.int t1a3)] ∧ Exa Z h b53_c61 "[B" ∧ Fld Z h thisa3 "com/example/opwire/opwire/codec/tcap/Abort" "destinationTransactionId" "[B" (.ref b53_c61) ∧ Fld Z h thisa3 "com/example/opwire/opwire/codec/tcap/Abort" "pAbortCause" "Ljava/lang/Integer;" .null ∧ Al Z h b57_c61 .byte [(.int i0a3), (.int i1a3), (.int i2a3)] ∧ Exa Z h b57_c61 "[B" ∧ Fld Z h thisa3 "com/example/opwire/opwire/codec/tcap/Abort" "userAbortInformation" "[B" (.ref b57_c61)
set_option maxRecDepth 65536 in
set_option maxHeartbeats 40000000 in
theorem rm_a3 (l : Launch) (Z : State) (a0 : Array Value) (hw : ∀ d ∈ tables_1, d.before a0 Z = true) (ws : List Jvm.Cond) (thisa3 : Addr) (aa3_1 : Addr) (aa3_3 : Addr) (t0a3 : Int32) (t1a3 : Int32) (i0a3 : Int32) (i1a3 : Int32) (i2a3 : Int32) (unea3 : Addr) (h0 : Heap) (n0 : Nat) (Z0 : n0 ≤ h0.size) (E_thisa3 : Exa Z h0 thisa3 "com/example/opwire/opwire/codec/tcap/Abort") (F_thisa3_unknownElements : Fld Z h0 thisa3 "com/example/opwire/opwire/codec/tcap/TcapMessage" "unknownElements" "Lcom/example/opwire/opwire/codec/ber/UnknownElements;" .null) (F_thisa3_destinationTransactionId : Fld Z h0 thisa3 "com/example/opwire/opwire/codec/tcap/Abort" "destinationTransactionId" "[B" .null) (F_thisa3_pAbortCause : Fld Z h0 thisa3 "com/example/opwire/opwire/codec/tcap/Abort" "pAbortCause" "Ljava/lang/Integer;" .null) (F_thisa3_userAbortInformation : Fld Z h0 thisa3 "com/example/opwire/opwire/codec/tcap/Abort" "userAbortInformation" "[B" .null) (g_thisa3 : n0 ≤ thisa3) (V_aa3_1 : Al Z h0 aa3_1 .byte [(.int t0a3), (.int t1a3)]) (E_aa3_1 : Exa Z h0 aa3_1 "[B") (ne_aa3_1_thisa3 : aa3_1 ≠ thisa3) (hft : ∀ v ∈ [Value.int t0a3, .int t1a3], fits .byte v = true) (V_aa3_3 : Al Z h0 aa3_3 .byte [(.int i0a3), (.int i1a3), (.int i2a3)]) (E_aa3_3 : Exa Z h0 aa3_3 "[B") (ne_aa3_3_thisa3 : aa3_3 ≠ thisa3) (hfi : ∀ v ∈ ([(.int i0a3), (.int i1a3), (.int i2a3)] : List Value), fits .byte v = true) (S_NONE : Sta Z h0 "com/example/opwire/opwire/codec/ber/UnknownElements" "NONE" "Lcom/example/opwire/opwire/codec/ber/UnknownElements;" (.ref unea3)) (E_unea3 : Exa Z h0 unea3 "com/example/opwire/opwire/codec/ber/UnknownElements") :
    MetFree l mt4 (head1 (Jvm.Cond.code mt4 prog_23_method_1_code 4 none :: ws) ({ frames := 3, cells := 4, slots := 69, locals := 43 } : Room)) (fun a U => a = #[(.ref thisa3), (.ref aa3_1), .null, (.ref aa3_3)] ∧ Z.Warmed39 U.vm ∧ U.heap = h0) (fun _ _ _ _ _ => True) (fun _ U o U' => ∃ v L, o = .returned v ∧ (Q_a3 Z thisa3 aa3_1 aa3_3 t0a3 t1a3 i0a3 i1a3 i2a3 unea3 h0 n0) v U'.heap L ∧ ReturnedEndW U o U' L ({ frames := 3, cells := 4, slots := 69, locals := 43 } : Room).cells ({ frames := 3, cells := 4, slots := 69, locals := 43 } : Room).slots) := by
  refine MetFree.of_bodySF (plainFor_of_name pn3) hisR ?_
  intro p e s m args below meth c s₁ Bd hml0 hP hK
  obtain ⟨rfl, hZ, hh⟩ := hP
  have hx := Bd.exec
  have hby := Bd.bytes
  have hml : c.maxLocals = 4 := hml0
  have hown : s.vm.findClass "com/example/opwire/opwire/codec/tcap/Abort" = some m.cls := findClass_of_methodNamed Bd.named
  have hnm := (name_of_methodNamed Bd.named Bd.method).1
  have hS0 : s.Since s.vm 0 := (State.WarmedH.refl s).since 0
  have hk0 : 0 ≤ h0.size := Nat.zero_le _
  have X0 : Stand p l e ({ frames := 3, cells := 4, slots := 69, locals := 43 } : Room) (s.setVm s.vm) m #[(.ref thisa3), (.ref aa3_1), .null, (.ref aa3_3)] below meth c s₁ [] 0 0 := Stand.of_body Bd
  have e0 : s₁.heap = h0 := by rw [← hh, Bd.state]; rfl
  have N0 := Fr.nil n0
  refine Wq.step (p := p) (e := e) (below := below) (En := (fun o t L => ReturnedEndW s o t L ({ frames := 3, cells := 4, slots := 69, locals := 43 } : Room).cells ({ frames := 3, cells := 4, slots := 69, locals := 43 } : Room).slots)) (Q := (Q_a3 Z thisa3 aa3_1 aa3_3 t0a3 t1a3 i0a3 i1a3 i2a3 unea3 h0 n0)) (fun t k => castTop (ef_a3 m thisa3 aa3_1 aa3_3) k) ?_
  show Wq _ _ _ _ _ (s₁.setTop (mkF m 0 #[.val (.ref thisa3), .val (.ref aa3_1), .val .null, .val (.ref aa3_3)] []))
  refine Ow.aloadN X0 hx (pc' := 1) (hb hby d_prog_23_method_1_0) rfl rfl ?_
  refine Ow.aloadN X0 hx (pc' := 2) (hb hby d_prog_23_method_1_1) rfl rfl ?_
  refine Ow.aloadN X0 hx (pc' := 3) (hb hby d_prog_23_method_1_2) rfl rfl ?_
  refine Ow.aloadN X0 hx (pc' := 4) (hb hby d_prog_23_method_1_3) rfl rfl ?_
  obtain ⟨T60, X60, e60, st60⟩ := getS2 X0 hx hZ hown (host := "") (Or.inl (kw7 hw)) Via.refl e0 S_NONE (g := (mkF m 4 #[.val (.ref thisa3), .val (.ref aa3_1), .val .null, .val (.ref aa3_3)] [(.ref aa3_3), .null, (.ref aa3_1), (.ref thisa3)])) rfl (hb hby d_prog_23_method_1_4)
  refine Wq.step st60 ?_
  show Wq _ _ _ _ _ (T60.setTop (mkF m 7 #[.val (.ref thisa3), .val (.ref aa3_1), .val .null, .val (.ref aa3_3)] [(.ref unea3), (.ref aa3_3), .null, (.ref aa3_1), (.ref thisa3)]))
  obtain ⟨_, _, ⟨T61, L61, k61, n61⟩, -, Xr61, hSr61, hgr61, ⟨Lc61, hQ61, l61, y61, z61⟩, st61⟩ := X60.specialBackS hx (y := mt3) rfl hown (mvT hZ (kw10 hw)) (mvT hZ (kw11 hw)) (mvT hZ (kw12 hw)) (by decide) (backOfS (W := 0) (rm_b3 l Z a0 hw [] thisa3 aa3_1 aa3_3 unea3 t0a3 t1a3 i0a3 i1a3 i2a3 h0 n0 Z0 E_thisa3 F_thisa3_unknownElements F_thisa3_destinationTransactionId F_thisa3_pAbortCause F_thisa3_userAbortInformation g_thisa3 V_aa3_1 E_aa3_1 ne_aa3_1_thisa3 (hft) V_aa3_3 E_aa3_3 ne_aa3_3_thisa3 (hfi) E_unea3) hZ (kw12 hw) (kw3 hw) (by decide) (by decide)) (g := (mkF m 7 #[.val (.ref thisa3), .val (.ref aa3_1), .val .null, .val (.ref aa3_3)] [(.ref unea3), (.ref aa3_3), .null, (.ref aa3_1), (.ref thisa3)])) rfl (by rw [hml]; rfl) (Steps.refl _) (a := thisa3) (argsL := [(.ref aa3_1), .null, (.ref aa3_3), (.ref unea3)]) (rest := []) (lenOf pd3 rfl) rfl (by show 2 * 0 + _ ≤ _; exact Nat.le_of_eq rfl) (hb hby d_prog_23_method_1_7) (fun _ _ => ⟨rfl, e60, (by decide : 0 + 4 ≤ _), (by decide : 0 + 69 ≤ _)⟩)
  dsimp only [Pt.U, Pt.locs, Pt.cells, Pt.slots] at Xr61 hSr61 hgr61 l61 y61 z61 st61 hQ61
  subst l61 y61 z61
  obtain ⟨X61, hS61, hZ61, hown61⟩ := rebS hS0 (by rw [e60]; exact hk0) Xr61 hSr61 hgr61 hZ hown
  have hk61 := Nat.le_refl T61.heap.size
  obtain ⟨b53_c61, b57_c61, rfl, Nq61, Kq61, szq_b53_c61, szq_b57_c61, ne_b53_c61_b57_c61, P61_0, P61_1, P61_2, P61_3, P61_4, P61_5, P61_6, P61_7, P61_8⟩ := hQ61
  have g_b53_c61 : n0 ≤ b53_c61 := Nat.le_trans Z0 szq_b53_c61
  have sz_b53_c61 : h0.size ≤ b53_c61 := szq_b53_c61
  have ne_thisa3_b53_c61 : thisa3 ≠ b53_c61 := Nat.ne_of_lt (Nat.lt_of_lt_of_le E_thisa3.lt szq_b53_c61)
  have ne_aa3_1_b53_c61 : aa3_1 ≠ b53_c61 := Nat.ne_of_lt (Nat.lt_of_lt_of_le V_aa3_1.lt szq_b53_c61)
  have ne_aa3_3_b53_c61 : aa3_3 ≠ b53_c61 := Nat.ne_of_lt (Nat.lt_of_lt_of_le V_aa3_3.lt szq_b53_c61)
  have ne_unea3_b53_c61 : unea3 ≠ b53_c61 := Nat.ne_of_lt (Nat.lt_of_lt_of_le E_unea3.lt szq_b53_c61)
  have g_b57_c61 : n0 ≤ b57_c61 := Nat.le_trans Z0 szq_b57_c61
  have sz_b57_c61 : h0.size ≤ b57_c61 := szq_b57_c61
  have ne_thisa3_b57_c61 : thisa3 ≠ b57_c61 := Nat.ne_of_lt (Nat.lt_of_lt_of_le E_thisa3.lt szq_b57_c61)
  have ne_aa3_1_b57_c61 : aa3_1 ≠ b57_c61 := Nat.ne_of_lt (Nat.lt_of_lt_of_le V_aa3_1.lt szq_b57_c61)
  have ne_aa3_3_b57_c61 : aa3_3 ≠ b57_c61 := Nat.ne_of_lt (Nat.lt_of_lt_of_le V_aa3_3.lt szq_b57_c61)
  have ne_unea3_b57_c61 : unea3 ≠ b57_c61 := Nat.ne_of_lt (Nat.lt_of_lt_of_le E_unea3.lt szq_b57_c61)
  have N61 := Fr.app N0 Nq61
  have K61 : Keep h0 T61.heap [thisa3] := (Keep.refl h0 [thisa3]).trans Kq61 (allS (P := fun x => x ∈ [thisa3] ∨ h0.size ≤ x) (Or.inl (List.mem_of_getElem? (i := 0) rfl)) all0)
  have Z61 : n0 ≤ T61.heap.size := Nat.le_trans Z0 Kq61.1
  have E_thisa3_t61 := E_thisa3.keep Kq61
  have V_aa3_1_t61 := V_aa3_1.keep Kq61 (ninS ne_aa3_1_thisa3 nin0)
  have E_aa3_1_t61 := E_aa3_1.keep Kq61
  have V_aa3_3_t61 := V_aa3_3.keep Kq61 (ninS ne_aa3_3_thisa3 nin0)
  have E_aa3_3_t61 := E_aa3_3.keep Kq61
  have S_NONE_t61 := Jvm.OwnW.Sta.keepN S_NONE Kq61 (allS (P := fun w => ∀ cell : Cell, h0[w]? = some cell → cell.vm.isStatics = false) (Jvm.OwnW.Exa.ns E_thisa3) all0)
  have E_unea3_t61 := E_unea3.keep Kq61
  have e61 : T61.heap = T61.heap := rfl
  refine Wq.steps st61 ?_
  show Wq _ _ _ _ _ (T61.setTop (mkF m 10 #[.val (.ref thisa3), .val (.ref aa3_1), .val .null, .val (.ref aa3_3)] []))
  exact Wq.retW X61 hS61 (by rw [e61]; exact hk61) (BodyLoose.notSynchronized Bd) (rv := none) (fun _ => rfl) (fun _ hr => X61.returnOut hx Bd.returns (hb hby d_prog_23_method_1_10) hr) (by decide) (by decide) (by rw [e61]; exact ⟨b53_c61, b57_c61, rfl, N61, K61, sz_b53_c61, sz_b57_c61, ne_b53_c61_b57_c61, E_thisa3_t61, P61_1, P61_2, P61_3, P61_4, P61_5, P61_6, P61_7, P61_8⟩)
theorem d_prog_23_method_5_0 : decode prog_23_method_5_code 0 = .ok (.aload_n 0, 1) := by decide +kernel
theorem d_prog_23_method_5_1 : decode prog_23_method_5_code 1 = .ok (.getfield 38, 3) := by decide +kernel
theorem d_prog_23_method_5_4 : decode prog_23_method_5_code 4 = .ok (.ifnonnull 7, 3) := by decide +kernel
theorem d_prog_23_method_5_7 : decode prog_23_method_5_code 7 = .ok (.aconst_null, 1) := by decide +kernel
theorem d_prog_23_method_5_8 : decode prog_23_method_5_code 8 = .ok (.goto 13, 3) := by decide +kernel
theorem ef_uin (m : MethodId) (thisuin : Addr) : entryFrame m #[(.ref thisuin)] 1 = mkF m 0 #[.val (.ref thisuin)] [] := by first | (simp [entryFrame, mkF, argsToLocals, Value.category]; done) | rfl
def Q_uin (Z : State) (thisuin : Addr) (h0 : Heap) (n0 : Nat) (v : Option Value) (h : Heap) (L : List Loc) : Prop := v = some .null ∧ Fr n0 L ∧ h = h0
theorem d_prog_23_method_5_21 : decode prog_23_method_5_code 21 = .ok (.areturn, 1) := by decide +kernel
abbrev mt5 : MethodName := ⟨"com/example/opwire/opwire/codec/tcap/Abort", "userAbortInformation", "()[B"⟩
set_option maxRecDepth 65536 in
set_option maxHeartbeats 40000000 in
theorem rm_uin (l : Launch) (Z : State) (a0 : Array Value) (hw : ∀ d ∈ tables_1, d.before a0 Z = true) (ws : List Jvm.Cond) (thisuin : Addr) (h0 : Heap) (n0 : Nat) (Z0 : n0 ≤ h0.size) (F_thisuin_userAbortInformation : Fld Z h0 thisuin "com/example/opwire/opwire/codec/tcap/Abort" "userAbortInformation" "[B" .null) :
    MetFree l mt5 (head1 (Jvm.Cond.code mt5 prog_23_method_5_code 1 (some (.array .byte)) :: ws) ({ frames := 0, cells := 0, slots := 0, locals := 0 } : Room)) (fun a U => a = #[(.ref thisuin)] ∧ Z.Warmed39 U.vm ∧ U.heap = h0) (fun _ _ _ _ _ => True) (fun _ U o U' => ∃ v L, o = .returned v ∧ (Q_uin Z thisuin h0 n0) v U'.heap L ∧ FrameEnd U o U' L ({ frames := 0, cells := 0, slots := 0, locals := 0 } : Room).cells ({ frames := 0, cells := 0, slots := 0, locals := 0 } : Room).slots) := by
  refine MetFree.of_bodySF (plainFor_of_name pn3) hisR ?_
  intro p e s m args below meth c s₁ Bd hml0 hP hK
  obtain ⟨rfl, hZ, hh⟩ := hP
  have hx := Bd.exec
  have hby := Bd.bytes
  have hml : c.maxLocals = 1 := hml0
  have hown : s.vm.findClass "com/example/opwire/opwire/codec/tcap/Abort" = some m.cls := findClass_of_methodNamed Bd.named
  have hnm := (name_of_methodNamed Bd.named Bd.method).1
  have X0 : Stand p l e ({ frames := 0, cells := 0, slots := 0, locals := 0 } : Room) s m #[(.ref thisuin)] below meth c s₁ [] 0 0 := Stand.of_body Bd
  have e0 : s₁.heap = h0 := by rw [← hh, Bd.state]; rfl
  have N0 := Fr.nil n0
  refine Wq.step (p := p) (e := e) (below := below) (En := (fun o t L => FrameEnd s o t L ({ frames := 0, cells := 0, slots := 0, locals := 0 } : Room).cells ({ frames := 0, cells := 0, slots := 0, locals := 0 } : Room).slots)) (Q := (Q_uin Z thisuin h0 n0)) (fun t k => castTop (ef_uin m thisuin) k) ?_
  show Wq _ _ _ _ _ (s₁.setTop (mkF m 0 #[.val (.ref thisuin)] []))
  refine Ow.aloadN X0 hx (pc' := 1) (hb hby d_prog_23_method_5_0) rfl rfl ?_
  obtain ⟨T62, X62, e62, st62⟩ := getF X0 hx hZ hown (host := "") (Or.inl (kw49 hw)) Via.refl e0 F_thisuin_userAbortInformation (g := (mkF m 1 #[.val (.ref thisuin)] [(.ref thisuin)])) rfl rfl (hb hby d_prog_23_method_5_1)
  refine Wq.step st62 ?_
  show Wq _ _ _ _ _ (T62.setTop (mkF m 4 #[.val (.ref thisuin)] [.null]))
  refine Ow.ifnonnullNo X62 hx (pc' := 7) (hb hby d_prog_23_method_5_4)  ?_
  refine Ow.aconstNull X62 hx (pc' := 8) (hb hby d_prog_23_method_5_7)  ?_
  refine Ow.goto X62 hx (pc' := 21) (hb hby d_prog_23_method_5_8) (by decide) (by decide) ?_
  exact Wq.ret X62 (BodyLoose.notSynchronized Bd) (rv := some .null) (fun h => by rw [Bd.returns] at h; cases h) (fun _ hr => retOut X62 hx Bd.returns rfl (Or.inr (Or.inr (Or.inr (Or.inr ⟨rfl, rfl, rfl⟩)))) (hb hby d_prog_23_method_5_21) hr) (by decide) (by decide) ⟨rfl, N0, e62⟩
theorem d_prog_23_method_5_11 : decode prog_23_method_5_code 11 = .ok (.aload_n 0, 1) := by decide +kernel
theorem d_prog_23_method_5_12 : decode prog_23_method_5_code 12 = .ok (.getfield 38, 3) := by decide +kernel
theorem d_prog_23_method_5_15 : decode prog_23_method_5_code 15 = .ok (.invokevirtual 25, 3) := by decide +kernel
theorem d_prog_23_method_5_18 : decode prog_23_method_5_code 18 = .ok (.checkcast 26, 3) := by decide +kernel
theorem ef_ui0 (m : MethodId) (thisui0 : Addr) : entryFrame m #[(.ref thisui0)] 1 = mkF m 0 #[.val (.ref thisui0)] [] := by first | (simp [entryFrame, mkF, argsToLocals, Value.category]; done) | rfl
def Q_ui0 (Z : State) (thisui0 : Addr) (bui0 : Addr) (h0 : Heap) (n0 : Nat) (v : Option Value) (h : Heap) (L : List Loc) : Prop := ∃ b65 : Addr, v = some (.ref b65) ∧ Fr n0 L ∧ Keep h0 h [] ∧ h0.size ≤ b65 ∧ Al Z h b65 .byte [] ∧ Exa Z h b65 "[B"
set_option maxRecDepth 65536 in
set_option maxHeartbeats 40000000 in
theorem rm_ui0 (l : Launch) (Z : State) (a0 : Array Value) (hw : ∀ d ∈ tables_1, d.before a0 Z = true) (ws : List Jvm.Cond) (thisui0 : Addr) (bui0 : Addr) (h0 : Heap) (n0 : Nat) (Z0 : n0 ≤ h0.size) (F_thisui0_userAbortInformation : Fld Z h0 thisui0 "com/example/opwire/opwire/codec/tcap/Abort" "userAbortInformation" "[B" (.ref bui0)) (V_bui0 : Al Z h0 bui0 .byte []) (E_bui0 : Exa Z h0 bui0 "[B") (hf : ∀ v ∈ ([] : List Value), fits .byte v = true) :
    MetFree l mt5 (head1 (Jvm.Cond.code mt5 prog_23_method_5_code 1 (some (.array .byte)) :: ws) ({ frames := 1, cells := 1, slots := 0, locals := 14 } : Room)) (fun a U => a = #[(.ref thisui0)] ∧ Z.Warmed39 U.vm ∧ U.heap = h0) (fun _ _ _ _ _ => True) (fun _ U o U' => ∃ v L, o = .returned v ∧ (Q_ui0 Z thisui0 bui0 h0 n0) v U'.heap L ∧ FrameEnd U o U' L ({ frames := 1, cells := 1, slots := 0, locals := 14 } : Room).cells ({ frames := 1, cells := 1, slots := 0, locals := 14 } : Room).slots) := by
  refine MetFree.of_bodySF (plainFor_of_name pn3) hisR ?_
  intro p e s m args below meth c s₁ Bd hml0 hP hK
  obtain ⟨rfl, hZ, hh⟩ := hP
  have hx := Bd.exec
  have hby := Bd.bytes
  have hml : c.maxLocals = 1 := hml0
  have hown : s.vm.findClass "com/example/opwire/opwire/codec/tcap/Abort" = some m.cls := findClass_of_methodNamed Bd.named
  have hnm := (name_of_methodNamed Bd.named Bd.method).1
  have X0 : Stand p l e ({ frames := 1, cells := 1, slots := 0, locals := 14 } : Room) s m #[(.ref thisui0)] below meth c s₁ [] 0 0 := Stand.of_body Bd
  have e0 : s₁.heap = h0 := by rw [← hh, Bd.state]; rfl
  have N0 := Fr.nil n0
  refine Wq.step (p := p) (e := e) (below := below) (En := (fun o t L => FrameEnd s o t L ({ frames := 1, cells := 1, slots := 0, locals := 14 } : Room).cells ({ frames := 1, cells := 1, slots := 0, locals := 14 } : Room).slots)) (Q := (Q_ui0 Z thisui0 bui0 h0 n0)) (fun t k => castTop (ef_ui0 m thisui0) k) ?_
  show Wq _ _ _ _ _ (s₁.setTop (mkF m 0 #[.val (.ref thisui0)] []))
  refine Ow.aloadN X0 hx (pc' := 1) (hb hby d_prog_23_method_5_0) rfl rfl ?_
  obtain ⟨T63, X63, e63, st63⟩ := getF X0 hx hZ hown (host := "") (Or.inl (kw49 hw)) Via.refl e0 F_thisui0_userAbortInformation (g := (mkF m 1 #[.val (.ref thisui0)] [(.ref thisui0)])) rfl rfl (hb hby d_prog_23_method_5_1)
  refine Wq.step st63 ?_
  show Wq _ _ _ _ _ (T63.setTop (mkF m 4 #[.val (.ref thisui0)] [(.ref bui0)]))
  refine Ow.ifnonnullYes X63 hx (pc' := 11) (hb hby d_prog_23_method_5_4) (by decide) (by decide) ?_
  refine Ow.aloadN X63 hx (pc' := 12) (hb hby d_prog_23_method_5_11) rfl rfl ?_
  obtain ⟨T64, X64, e64, st64⟩ := getF X63 hx hZ hown (host := "") (Or.inl (kw49 hw)) Via.refl e63 F_thisui0_userAbortInformation (g := (mkF m 12 #[.val (.ref thisui0)] [(.ref thisui0)])) rfl rfl (hb hby d_prog_23_method_5_12)
  refine Wq.step st64 ?_
  show Wq _ _ _ _ _ (T64.setTop (mkF m 15 #[.val (.ref thisui0)] [(.ref bui0)]))
  obtain ⟨T65, h65, X65, e65, E65, A65, Ex65, st65⟩ := clA X64 hx hZ hown (kw36 hw) (kw37 hw) (kw41 hw) (kw39 hw) (kw40 hw) (kw42 hw) e64 V_bui0 E_bui0 (hf) (g := (mkF m 15 #[.val (.ref thisui0)] [(.ref bui0)])) rfl (by rw [hml]; rfl) rfl (hb hby d_prog_23_method_5_15) (by decide) (W := 0) (cap := 0) (by show 2 * 0 + _ ≤ _; exact Nat.le_of_eq rfl) (by decide) (Nat.le_of_ble_eq_true rfl) (by decide) (by decide)
  obtain ⟨b65, gz65⟩ : ∃ z, z = h0.size := ⟨_, rfl⟩
  rw [← gz65] at A65 Ex65 st65
  have g_b65 : n0 ≤ b65 := Nat.le_trans Z0 (Nat.le_of_eq gz65.symm)
  have sz_b65 : h0.size ≤ b65 := Nat.le_of_eq gz65.symm
  have ne_thisui0_b65 : thisui0 ≠ b65 := Nat.ne_of_lt (Nat.lt_of_lt_of_le F_thisui0_userAbortInformation.lt (Nat.le_of_eq gz65.symm))
  have ne_bui0_b65 : bui0 ≠ b65 := Nat.ne_of_lt (Nat.lt_of_lt_of_le V_bui0.lt (Nat.le_of_eq gz65.symm))
  have K65 : Keep h0 h65 [] := (Keep.refl h0 []).ext E65
  have Z65 : n0 ≤ h65.size := Nat.le_trans Z0 E65.1
  have F_thisui0_userAbortInformation_t65 := F_thisui0_userAbortInformation.ext E65
  have V_bui0_t65 := V_bui0.ext E65
  have E_bui0_t65 := E_bui0.ext E65
  refine Wq.step st65 ?_
  show Wq _ _ _ _ _ (T65.setTop (mkF m 18 #[.val (.ref thisui0)] [(.ref b65)]))
  obtain ⟨T66, X66, e66, st66⟩ := castY X65 hx hZ hown (kw43 hw) e65 (Ins.self Ex65) (g := (mkF m 18 #[.val (.ref thisui0)] [(.ref b65)])) rfl rfl (hb hby d_prog_23_method_5_18)
  refine Wq.step st66 ?_
  show Wq _ _ _ _ _ (T66.setTop (mkF m 21 #[.val (.ref thisui0)] [(.ref b65)]))
  exact Wq.ret X66 (BodyLoose.notSynchronized Bd) (rv := some (.ref b65)) (fun h => by rw [Bd.returns] at h; cases h) (fun _ hr => retOut X66 hx Bd.returns rfl (Or.inr (Or.inr (Or.inr (Or.inr ⟨rfl, rfl, rfl⟩)))) (hb hby d_prog_23_method_5_21) hr) (by decide) (by decide) (by rw [e66]; exact ⟨b65, rfl, N0, K65, sz_b65, A65, Ex65⟩)
theorem d_method_3_0 : decode method_3_code 0 = .ok (.aload_n 0, 1) := by decide +kernel
theorem d_method_3_1 : decode method_3_code 1 = .ok (.arraylength, 1) := by decide +kernel
theorem d_method_3_2 : decode method_3_code 2 = .ok (.iload_n 1, 1) := by decide +kernel
theorem d_method_3_3 : decode method_3_code 3 = .ok (.if_icmp .ne 44, 3) := by decide +kernel
theorem d_method_3_6 : decode method_3_code 6 = .ok (.iload_n 1, 1) := by decide +kernel
theorem d_method_3_7 : decode method_3_code 7 = .ok (.iconst 1, 1) := by decide +kernel
theorem d_method_3_8 : decode method_3_code 8 = .ok (.if_icmp .lt 10, 3) := by decide +kernel
theorem d_method_3_18 : decode method_3_code 18 = .ok (.iload_n 1, 1) := by decide +kernel
theorem d_method_3_19 : decode method_3_code 19 = .ok (.iconst 2, 1) := by decide +kernel
theorem d_method_3_20 : decode method_3_code 20 = .ok (.if_icmp .lt 10, 3) := by decide +kernel
theorem d_method_3_30 : decode method_3_code 30 = .ok (.iload_n 1, 1) := by decide +kernel
theorem d_method_3_31 : decode method_3_code 31 = .ok (.iconst 3, 1) := by decide +kernel
theorem d_method_3_32 : decode method_3_code 32 = .ok (.if_icmp .lt 11, 3) := by decide +kernel
theorem d_method_3_43 : decode method_3_code 43 = .ok (.iconst 1, 1) := by decide +kernel
theorem d_method_3_44 : decode method_3_code 44 = .ok (.goto 4, 3) := by decide +kernel
theorem pn4 : plainName "com/example/opwire/opwire/codec/tcap/AbortUserAbortInformationPinLaw" = true := by first | (simp [plainName, overriddenIn]; done) | decide +kernel
theorem ef_sm0 (m : MethodId) (asm0_1 : Addr) (xsm0_3 : Int32) (xsm0_4 : Int32) (xsm0_5 : Int32) : entryFrame m #[(.ref asm0_1), (.int (0 : Int32)), (.int xsm0_3), (.int xsm0_4), (.int xsm0_5)] 5 = mkF m 0 #[.val (.ref asm0_1), .val (.int (0 : Int32)), .val (.int xsm0_3), .val (.int xsm0_4), .val (.int xsm0_5)] [] := by first | (simp [entryFrame, mkF, argsToLocals, Value.category]; done) | rfl
def Q_sm0 (Z : State) (asm0_1 : Addr) (xsm0_3 : Int32) (xsm0_4 : Int32) (xsm0_5 : Int32) (h0 : Heap) (n0 : Nat) (v : Option Value) (h : Heap) (L : List Loc) : Prop := v = some (.int (1 : Int32)) ∧ Fr n0 L ∧ h = h0
theorem d_method_3_48 : decode method_3_code 48 = .ok (.ireturn, 1) := by decide +kernel
abbrev mt6 : MethodName := ⟨"com/example/opwire/opwire/codec/tcap/AbortUserAbortInformationPinLaw", "same", "([BIBBB)Z"⟩
set_option maxRecDepth 65536 in
set_option maxHeartbeats 40000000 in
theorem rm_sm0 (l : Launch) (Z : State) (a0 : Array Value) (hw : ∀ d ∈ tables_1, d.before a0 Z = true) (ws : List Jvm.Cond) (asm0_1 : Addr) (xsm0_3 : Int32) (xsm0_4 : Int32) (xsm0_5 : Int32) (h0 : Heap) (n0 : Nat) (Z0 : n0 ≤ h0.size) (V_asm0_1 : Al Z h0 asm0_1 .byte []) :
    MetFree l mt6 (head1 (Jvm.Cond.code mt6 method_3_code 5 (some .boolean) :: ws) ({ frames := 0, cells := 0, slots := 0, locals := 0 } : Room)) (fun a U => a = #[(.ref asm0_1), (.int (0 : Int32)), (.int xsm0_3), (.int xsm0_4), (.int xsm0_5)] ∧ Z.Warmed39 U.vm ∧ U.heap = h0) (fun _ _ _ _ _ => True) (fun _ U o U' => ∃ v L, o = .returned v ∧ (Q_sm0 Z asm0_1 xsm0_3 xsm0_4 xsm0_5 h0 n0) v U'.heap L ∧ FrameEnd U o U' L ({ frames := 0, cells := 0, slots := 0, locals := 0 } : Room).cells ({ frames := 0, cells := 0, slots := 0, locals := 0 } : Room).slots) := by
  refine MetFree.of_bodySF (plainFor_of_name pn4) hisR ?_
  intro p e s m args below meth c s₁ Bd hml0 hP hK
  obtain ⟨rfl, hZ, hh⟩ := hP
  have hx := Bd.exec
  have hby := Bd.bytes
  have hml : c.maxLocals = 5 := hml0
  have hown : s.vm.findClass "com/example/opwire/opwire/codec/tcap/AbortUserAbortInformationPinLaw" = some m.cls := findClass_of_methodNamed Bd.named
  have hnm := (name_of_methodNamed Bd.named Bd.method).1
  have X0 : Stand p l e ({ frames := 0, cells := 0, slots := 0, locals := 0 } : Room) s m #[(.ref asm0_1), (.int (0 : Int32)), (.int xsm0_3), (.int xsm0_4), (.int xsm0_5)] below meth c s₁ [] 0 0 := Stand.of_body Bd
  have e0 : s₁.heap = h0 := by rw [← hh, Bd.state]; rfl
  have N0 := Fr.nil n0
  refine Wq.step (p := p) (e := e) (below := below) (En := (fun o t L => FrameEnd s o t L ({ frames := 0, cells := 0, slots := 0, locals := 0 } : Room).cells ({ frames := 0, cells := 0, slots := 0, locals := 0 } : Room).slots)) (Q := (Q_sm0 Z asm0_1 xsm0_3 xsm0_4 xsm0_5 h0 n0)) (fun t k => castTop (ef_sm0 m asm0_1 xsm0_3 xsm0_4 xsm0_5) k) ?_
  show Wq _ _ _ _ _ (s₁.setTop (mkF m 0 #[.val (.ref asm0_1), .val (.int (0 : Int32)), .val (.int xsm0_3), .val (.int xsm0_4), .val (.int xsm0_5)] []))
  refine Ow.aloadN X0 hx (pc' := 1) (hb hby d_method_3_0) rfl rfl ?_
  refine Ow.lenA X0 hx hZ e0 V_asm0_1 (pc' := 2) (hb hby d_method_3_1) (n := (0 : Int32)) (rfl) ?_
  refine Ow.iloadN X0 hx (pc' := 3) (hb hby d_method_3_2) rfl ?_
  refine Ow.icmpNo X0 hx (pc' := 6) (hb hby d_method_3_3) (teq (by decide : (0 : Int32) = (0 : Int32))).2 ?_
  refine Ow.iloadN X0 hx (pc' := 7) (hb hby d_method_3_6) rfl ?_
  refine Ow.iconst X0 hx (pc' := 8) (hb hby d_method_3_7) (z := (1 : Int32)) rfl ?_
  refine Ow.icmpYes X0 hx (pc' := 18) (hb hby d_method_3_8) (tlt (by decide : (0 : Int32) < (1 : Int32))).1 (by decide) (by decide) ?_
  refine Ow.iloadN X0 hx (pc' := 19) (hb hby d_method_3_18) rfl ?_
  refine Ow.iconst X0 hx (pc' := 20) (hb hby d_method_3_19) (z := (2 : Int32)) rfl ?_
  refine Ow.icmpYes X0 hx (pc' := 30) (hb hby d_method_3_20) (tlt (by decide : (0 : Int32) < (2 : Int32))).1 (by decide) (by decide) ?_
  refine Ow.iloadN X0 hx (pc' := 31) (hb hby d_method_3_30) rfl ?_
  refine Ow.iconst X0 hx (pc' := 32) (hb hby d_method_3_31) (z := (3 : Int32)) rfl ?_
  refine Ow.icmpYes X0 hx (pc' := 43) (hb hby d_method_3_32) (tlt (by decide : (0 : Int32) < (3 : Int32))).1 (by decide) (by decide) ?_
  refine Ow.iconst X0 hx (pc' := 44) (hb hby d_method_3_43) (z := (1 : Int32)) rfl ?_
  refine Ow.goto X0 hx (pc' := 48) (hb hby d_method_3_44) (by decide) (by decide) ?_
  exact Wq.ret X0 (BodyLoose.notSynchronized Bd) (rv := some (.int (1 : Int32))) (fun h => by rw [Bd.returns] at h; cases h) (fun _ hr => retN X0 hx (t := .boolean) Bd.returns (by simp) (hb hby d_method_3_48) hr) (by decide) (by decide) ⟨rfl, N0, e0⟩
theorem d_method_4_0 : decode method_4_code 0 = .ok (.aload_n 0, 1) := by decide +kernel
theorem d_method_4_1 : decode method_4_code 1 = .ok (.arraylength, 1) := by decide +kernel
theorem d_method_4_2 : decode method_4_code 2 = .ok (.ifCond .le 12, 3) := by decide +kernel
theorem d_method_4_14 : decode method_4_code 14 = .ok (.aload_n 0, 1) := by decide +kernel
theorem d_method_4_15 : decode method_4_code 15 = .ok (.arraylength, 1) := by decide +kernel
theorem d_method_4_16 : decode method_4_code 16 = .ok (.iconst 1, 1) := by decide +kernel
theorem d_method_4_17 : decode method_4_code 17 = .ok (.if_icmp .le 12, 3) := by decide +kernel
theorem d_method_4_29 : decode method_4_code 29 = .ok (.aload_n 0, 1) := by decide +kernel
theorem d_method_4_30 : decode method_4_code 30 = .ok (.arraylength, 1) := by decide +kernel
theorem d_method_4_31 : decode method_4_code 31 = .ok (.iconst 2, 1) := by decide +kernel
theorem d_method_4_32 : decode method_4_code 32 = .ok (.if_icmp .le 12, 3) := by decide +kernel
theorem ef_fl0 (m : MethodId) (afl0_1 : Addr) : entryFrame m #[(.ref afl0_1)] 1 = mkF m 0 #[.val (.ref afl0_1)] [] := by first | (simp [entryFrame, mkF, argsToLocals, Value.category]; done) | rfl
def Q_fl0 (Z : State) (afl0_1 : Addr) (h0 : Heap) (n0 : Nat) (v : Option Value) (h : Heap) (L : List Loc) : Prop := v = none ∧ Fr n0 L ∧ h = h0
theorem d_method_4_44 : decode method_4_code 44 = .ok (.return_, 1) := by decide +kernel
abbrev mt7 : MethodName := ⟨"com/example/opwire/opwire/codec/tcap/AbortUserAbortInformationPinLaw", "flip", "([B)V"⟩
set_option maxRecDepth 65536 in
set_option maxHeartbeats 40000000 in
theorem rm_fl0 (l : Launch) (Z : State) (a0 : Array Value) (hw : ∀ d ∈ tables_1, d.before a0 Z = true) (ws : List Jvm.Cond) (afl0_1 : Addr) (h0 : Heap) (n0 : Nat) (Z0 : n0 ≤ h0.size) (V_afl0_1 : Al Z h0 afl0_1 .byte []) (g_afl0_1 : n0 ≤ afl0_1) :
    MetFree l mt7 (head1 (Jvm.Cond.code mt7 method_4_code 1 none :: ws) ({ frames := 0, cells := 0, slots := 0, locals := 0 } : Room)) (fun a U => a = #[(.ref afl0_1)] ∧ Z.Warmed39 U.vm ∧ U.heap = h0) (fun _ _ _ _ _ => True) (fun _ U o U' => ∃ v L, o = .returned v ∧ (Q_fl0 Z afl0_1 h0 n0) v U'.heap L ∧ FrameEnd U o U' L ({ frames := 0, cells := 0, slots := 0, locals := 0 } : Room).cells ({ frames := 0, cells := 0, slots := 0, locals := 0 } : Room).slots) := by
  refine MetFree.of_bodySF (plainFor_of_name pn4) hisR ?_
  intro p e s m args below meth c s₁ Bd hml0 hP hK
  obtain ⟨rfl, hZ, hh⟩ := hP
  have hx := Bd.exec
  have hby := Bd.bytes
  have hml : c.maxLocals = 1 := hml0
  have hown : s.vm.findClass "com/example/opwire/opwire/codec/tcap/AbortUserAbortInformationPinLaw" = some m.cls := findClass_of_methodNamed Bd.named
  have hnm := (name_of_methodNamed Bd.named Bd.method).1
  have X0 : Stand p l e ({ frames := 0, cells := 0, slots := 0, locals := 0 } : Room) s m #[(.ref afl0_1)] below meth c s₁ [] 0 0 := Stand.of_body Bd
  have e0 : s₁.heap = h0 := by rw [← hh, Bd.state]; rfl
  have N0 := Fr.nil n0
  refine Wq.step (p := p) (e := e) (below := below) (En := (fun o t L => FrameEnd s o t L ({ frames := 0, cells := 0, slots := 0, locals := 0 } : Room).cells ({ frames := 0, cells := 0, slots := 0, locals := 0 } : Room).slots)) (Q := (Q_fl0 Z afl0_1 h0 n0)) (fun t k => castTop (ef_fl0 m afl0_1) k) ?_
  show Wq _ _ _ _ _ (s₁.setTop (mkF m 0 #[.val (.ref afl0_1)] []))
  refine Ow.aloadN X0 hx (pc' := 1) (hb hby d_method_4_0) rfl rfl ?_
  refine Ow.lenA X0 hx hZ e0 V_afl0_1 (pc' := 2) (hb hby d_method_4_1) (n := (0 : Int32)) (rfl) ?_
  refine Ow.ifYes X0 hx (pc' := 14) (hb hby d_method_4_2) ((if0 _ _).trans (flt (by decide : ¬ ((0 : Int32) < (0 : Int32)))).2.2.2) (by decide) (by decide) ?_
  refine Ow.aloadN X0 hx (pc' := 15) (hb hby d_method_4_14) rfl rfl ?_
  refine Ow.lenA X0 hx hZ e0 V_afl0_1 (pc' := 16) (hb hby d_method_4_15) (n := (0 : Int32)) (rfl) ?_
  refine Ow.iconst X0 hx (pc' := 17) (hb hby d_method_4_16) (z := (1 : Int32)) rfl ?_
  refine Ow.icmpYes X0 hx (pc' := 29) (hb hby d_method_4_17) (flt (by decide : ¬ ((1 : Int32) < (0 : Int32)))).2.2.2 (by decide) (by decide) ?_
  refine Ow.aloadN X0 hx (pc' := 30) (hb hby d_method_4_29) rfl rfl ?_
  refine Ow.lenA X0 hx hZ e0 V_afl0_1 (pc' := 31) (hb hby d_method_4_30) (n := (0 : Int32)) (rfl) ?_
  refine Ow.iconst X0 hx (pc' := 32) (hb hby d_method_4_31) (z := (2 : Int32)) rfl ?_
  refine Ow.icmpYes X0 hx (pc' := 44) (hb hby d_method_4_32) (flt (by decide : ¬ ((2 : Int32) < (0 : Int32)))).2.2.2 (by decide) (by decide) ?_
  exact Wq.ret X0 (BodyLoose.notSynchronized Bd) (rv := none) (fun _ => rfl) (fun _ hr => X0.returnOut hx Bd.returns (hb hby d_method_4_44) hr) (by decide) (by decide) ⟨rfl, N0, e0⟩
theorem ef_ui1 (m : MethodId) (thisui1 : Addr) : entryFrame m #[(.ref thisui1)] 1 = mkF m 0 #[.val (.ref thisui1)] [] := by first | (simp [entryFrame, mkF, argsToLocals, Value.category]; done) | rfl
def Q_ui1 (Z : State) (thisui1 : Addr) (bui1 : Addr) (w0ui1 : Int32) (h0 : Heap) (n0 : Nat) (v : Option Value) (h : Heap) (L : List Loc) : Prop := ∃ b69 : Addr, v = some (.ref b69) ∧ Fr n0 L ∧ Keep h0 h [] ∧ h0.size ≤ b69 ∧ Al Z h b69 .byte [(.int w0ui1)] ∧ Exa Z h b69 "[B"
set_option maxRecDepth 65536 in
set_option maxHeartbeats 40000000 in
theorem rm_ui1 (l : Launch) (Z : State) (a0 : Array Value) (hw : ∀ d ∈ tables_1, d.before a0 Z = true) (ws : List Jvm.Cond) (thisui1 : Addr) (bui1 : Addr) (w0ui1 : Int32) (h0 : Heap) (n0 : Nat) (Z0 : n0 ≤ h0.size) (F_thisui1_userAbortInformation : Fld Z h0 thisui1 "com/example/opwire/opwire/codec/tcap/Abort" "userAbortInformation" "[B" (.ref bui1)) (V_bui1 : Al Z h0 bui1 .byte [(.int w0ui1)]) (E_bui1 : Exa Z h0 bui1 "[B") (hf : ∀ v ∈ ([(.int w0ui1)] : List Value), fits .byte v = true) :
    MetFree l mt5 (head1 (Jvm.Cond.code mt5 prog_23_method_5_code 1 (some (.array .byte)) :: ws) ({ frames := 1, cells := 1, slots := 1, locals := 14 } : Room)) (fun a U => a = #[(.ref thisui1)] ∧ Z.Warmed39 U.vm ∧ U.heap = h0) (fun _ _ _ _ _ => True) (fun _ U o U' => ∃ v L, o = .returned v ∧ (Q_ui1 Z thisui1 bui1 w0ui1 h0 n0) v U'.heap L ∧ FrameEnd U o U' L ({ frames := 1, cells := 1, slots := 1, locals := 14 } : Room).cells ({ frames := 1, cells := 1, slots := 1, locals := 14 } : Room).slots) := by
  refine MetFree.of_bodySF (plainFor_of_name pn3) hisR ?_
  intro p e s m args below meth c s₁ Bd hml0 hP hK
  obtain ⟨rfl, hZ, hh⟩ := hP
  have hx := Bd.exec
  have hby := Bd.bytes
  have hml : c.maxLocals = 1 := hml0
  have hown : s.vm.findClass "com/example/opwire/opwire/codec/tcap/Abort" = some m.cls := findClass_of_methodNamed Bd.named
  have hnm := (name_of_methodNamed Bd.named Bd.method).1
  have X0 : Stand p l e ({ frames := 1, cells := 1, slots := 1, locals := 14 } : Room) s m #[(.ref thisui1)] below meth c s₁ [] 0 0 := Stand.of_body Bd
  have e0 : s₁.heap = h0 := by rw [← hh, Bd.state]; rfl
  have N0 := Fr.nil n0
  refine Wq.step (p := p) (e := e) (below := below) (En := (fun o t L => FrameEnd s o t L ({ frames := 1, cells := 1, slots := 1, locals := 14 } : Room).cells ({ frames := 1, cells := 1, slots := 1, locals := 14 } : Room).slots)) (Q := (Q_ui1 Z thisui1 bui1 w0ui1 h0 n0)) (fun t k => castTop (ef_ui1 m thisui1) k) ?_
  show Wq _ _ _ _ _ (s₁.setTop (mkF m 0 #[.val (.ref thisui1)] []))
  refine Ow.aloadN X0 hx (pc' := 1) (hb hby d_prog_23_method_5_0) rfl rfl ?_
  obtain ⟨T67, X67, e67, st67⟩ := getF X0 hx hZ hown (host := "") (Or.inl (kw49 hw)) Via.refl e0 F_thisui1_userAbortInformation (g := (mkF m 1 #[.val (.ref thisui1)] [(.ref thisui1)])) rfl rfl (hb hby d_prog_23_method_5_1)
  refine Wq.step st67 ?_
  show Wq _ _ _ _ _ (T67.setTop (mkF m 4 #[.val (.ref thisui1)] [(.ref bui1)]))
  refine Ow.ifnonnullYes X67 hx (pc' := 11) (hb hby d_prog_23_method_5_4) (by decide) (by decide) ?_
  refine Ow.aloadN X67 hx (pc' := 12) (hb hby d_prog_23_method_5_11) rfl rfl ?_
  obtain ⟨T68, X68, e68, st68⟩ := getF X67 hx hZ hown (host := "") (Or.inl (kw49 hw)) Via.refl e67 F_thisui1_userAbortInformation (g := (mkF m 12 #[.val (.ref thisui1)] [(.ref thisui1)])) rfl rfl (hb hby d_prog_23_method_5_12)
  refine Wq.step st68 ?_
  show Wq _ _ _ _ _ (T68.setTop (mkF m 15 #[.val (.ref thisui1)] [(.ref bui1)]))
  obtain ⟨T69, h69, X69, e69, E69, A69, Ex69, st69⟩ := clA X68 hx hZ hown (kw36 hw) (kw37 hw) (kw41 hw) (kw39 hw) (kw40 hw) (kw42 hw) e68 V_bui1 E_bui1 (hf) (g := (mkF m 15 #[.val (.ref thisui1)] [(.ref bui1)])) rfl (by rw [hml]; rfl) rfl (hb hby d_prog_23_method_5_15) (by decide) (W := 0) (cap := 1) (by show 2 * 0 + _ ≤ _; exact Nat.le_of_eq rfl) (by decide) (Nat.le_of_ble_eq_true rfl) (by decide) (by decide)
  obtain ⟨b69, gz69⟩ : ∃ z, z = h0.size := ⟨_, rfl⟩
  rw [← gz69] at A69 Ex69 st69
  have g_b69 : n0 ≤ b69 := Nat.le_trans Z0 (Nat.le_of_eq gz69.symm)
  have sz_b69 : h0.size ≤ b69 := Nat.le_of_eq gz69.symm
  have ne_thisui1_b69 : thisui1 ≠ b69 := Nat.ne_of_lt (Nat.lt_of_lt_of_le F_thisui1_userAbortInformation.lt (Nat.le_of_eq gz69.symm))
  have ne_bui1_b69 : bui1 ≠ b69 := Nat.ne_of_lt (Nat.lt_of_lt_of_le V_bui1.lt (Nat.le_of_eq gz69.symm))
  have K69 : Keep h0 h69 [] := (Keep.refl h0 []).ext E69
  have Z69 : n0 ≤ h69.size := Nat.le_trans Z0 E69.1
  have F_thisui1_userAbortInformation_t69 := F_thisui1_userAbortInformation.ext E69
  have V_bui1_t69 := V_bui1.ext E69
  have E_bui1_t69 := E_bui1.ext E69
  refine Wq.step st69 ?_
  show Wq _ _ _ _ _ (T69.setTop (mkF m 18 #[.val (.ref thisui1)] [(.ref b69)]))
  obtain ⟨T70, X70, e70, st70⟩ := castY X69 hx hZ hown (kw43 hw) e69 (Ins.self Ex69) (g := (mkF m 18 #[.val (.ref thisui1)] [(.ref b69)])) rfl rfl (hb hby d_prog_23_method_5_18)
  refine Wq.step st70 ?_
  show Wq _ _ _ _ _ (T70.setTop (mkF m 21 #[.val (.ref thisui1)] [(.ref b69)]))
  exact Wq.ret X70 (BodyLoose.notSynchronized Bd) (rv := some (.ref b69)) (fun h => by rw [Bd.returns] at h; cases h) (fun _ hr => retOut X70 hx Bd.returns rfl (Or.inr (Or.inr (Or.inr (Or.inr ⟨rfl, rfl, rfl⟩)))) (hb hby d_prog_23_method_5_21) hr) (by decide) (by decide) (by rw [e70]; exact ⟨b69, rfl, N0, K69, sz_b69, A69, Ex69⟩)
theorem d_method_3_11 : decode method_3_code 11 = .ok (.aload_n 0, 1) := by decide +kernel
theorem d_method_3_12 : decode method_3_code 12 = .ok (.iconst 0, 1) := by decide +kernel
theorem d_method_3_13 : decode method_3_code 13 = .ok (.baload, 1) := by decide +kernel
theorem d_method_3_14 : decode method_3_code 14 = .ok (.iload_n 2, 1) := by decide +kernel
theorem d_method_3_15 : decode method_3_code 15 = .ok (.if_icmp .ne 32, 3) := by decide +kernel
theorem d_method_3_47 : decode method_3_code 47 = .ok (.iconst 0, 1) := by decide +kernel
theorem ef_sm1 (m : MethodId) (asm1_1 : Addr) (xsm1_3 : Int32) (xsm1_4 : Int32) (xsm1_5 : Int32) : entryFrame m #[(.ref asm1_1), (.int (1 : Int32)), (.int xsm1_3), (.int xsm1_4), (.int xsm1_5)] 5 = mkF m 0 #[.val (.ref asm1_1), .val (.int (1 : Int32)), .val (.int xsm1_3), .val (.int xsm1_4), .val (.int xsm1_5)] [] := by first | (simp [entryFrame, mkF, argsToLocals, Value.category]; done) | rfl
def f_sm1 (xsm1_3 : Int32) (xsm1_4 : Int32) (xsm1_5 : Int32) (w0sm1 : Int32) : Int32 := (if w0sm1 = xsm1_3 then (1 : Int32) else (0 : Int32))
def Q_sm1 (Z : State) (asm1_1 : Addr) (xsm1_3 : Int32) (xsm1_4 : Int32) (xsm1_5 : Int32) (w0sm1 : Int32) (h0 : Heap) (n0 : Nat) (v : Option Value) (h : Heap) (L : List Loc) : Prop := v = some (.int (f_sm1 xsm1_3 xsm1_4 xsm1_5 w0sm1)) ∧ Fr n0 L ∧ h = h0
set_option maxRecDepth 65536 in
set_option maxHeartbeats 40000000 in
theorem rm_sm1 (l : Launch) (Z : State) (a0 : Array Value) (hw : ∀ d ∈ tables_1, d.before a0 Z = true) (ws : List Jvm.Cond) (asm1_1 : Addr) (xsm1_3 : Int32) (xsm1_4 : Int32) (xsm1_5 : Int32) (w0sm1 : Int32) (h0 : Heap) (n0 : Nat) (Z0 : n0 ≤ h0.size) (V_asm1_1 : Al Z h0 asm1_1 .byte [(.int w0sm1)]) :
    MetFree l mt6 (head1 (Jvm.Cond.code mt6 method_3_code 5 (some .boolean) :: ws) ({ frames := 0, cells := 0, slots := 0, locals := 0 } : Room)) (fun a U => a = #[(.ref asm1_1), (.int (1 : Int32)), (.int xsm1_3), (.int xsm1_4), (.int xsm1_5)] ∧ Z.Warmed39 U.vm ∧ U.heap = h0) (fun _ _ _ _ _ => True) (fun _ U o U' => ∃ v L, o = .returned v ∧ (Q_sm1 Z asm1_1 xsm1_3 xsm1_4 xsm1_5 w0sm1 h0 n0) v U'.heap L ∧ FrameEnd U o U' L ({ frames := 0, cells := 0, slots := 0, locals := 0 } : Room).cells ({ frames := 0, cells := 0, slots := 0, locals := 0 } : Room).slots) := by
  refine MetFree.of_bodySF (plainFor_of_name pn4) hisR ?_
  intro p e s m args below meth c s₁ Bd hml0 hP hK
  obtain ⟨rfl, hZ, hh⟩ := hP
  have hx := Bd.exec
  have hby := Bd.bytes
  have hml : c.maxLocals = 5 := hml0
  have hown : s.vm.findClass "com/example/opwire/opwire/codec/tcap/AbortUserAbortInformationPinLaw" = some m.cls := findClass_of_methodNamed Bd.named
  have hnm := (name_of_methodNamed Bd.named Bd.method).1
  have X0 : Stand p l e ({ frames := 0, cells := 0, slots := 0, locals := 0 } : Room) s m #[(.ref asm1_1), (.int (1 : Int32)), (.int xsm1_3), (.int xsm1_4), (.int xsm1_5)] below meth c s₁ [] 0 0 := Stand.of_body Bd
  have e0 : s₁.heap = h0 := by rw [← hh, Bd.state]; rfl
  have N0 := Fr.nil n0
  refine Wq.step (p := p) (e := e) (below := below) (En := (fun o t L => FrameEnd s o t L ({ frames := 0, cells := 0, slots := 0, locals := 0 } : Room).cells ({ frames := 0, cells := 0, slots := 0, locals := 0 } : Room).slots)) (Q := (Q_sm1 Z asm1_1 xsm1_3 xsm1_4 xsm1_5 w0sm1 h0 n0)) (fun t k => castTop (ef_sm1 m asm1_1 xsm1_3 xsm1_4 xsm1_5) k) ?_
  show Wq _ _ _ _ _ (s₁.setTop (mkF m 0 #[.val (.ref asm1_1), .val (.int (1 : Int32)), .val (.int xsm1_3), .val (.int xsm1_4), .val (.int xsm1_5)] []))
  refine Ow.aloadN X0 hx (pc' := 1) (hb hby d_method_3_0) rfl rfl ?_
  refine Ow.lenA X0 hx hZ e0 V_asm1_1 (pc' := 2) (hb hby d_method_3_1) (n := (1 : Int32)) (rfl) ?_
  refine Ow.iloadN X0 hx (pc' := 3) (hb hby d_method_3_2) rfl ?_
  refine Ow.icmpNo X0 hx (pc' := 6) (hb hby d_method_3_3) (teq (by decide : (1 : Int32) = (1 : Int32))).2 ?_
  refine Ow.iloadN X0 hx (pc' := 7) (hb hby d_method_3_6) rfl ?_
  refine Ow.iconst X0 hx (pc' := 8) (hb hby d_method_3_7) (z := (1 : Int32)) rfl ?_
  refine Ow.icmpNo X0 hx (pc' := 11) (hb hby d_method_3_8) (flt (by decide : ¬ ((1 : Int32) < (1 : Int32)))).1 ?_
  refine Ow.aloadN X0 hx (pc' := 12) (hb hby d_method_3_11) rfl rfl ?_
  refine Ow.iconst X0 hx (pc' := 13) (hb hby d_method_3_12) (z := (0 : Int32)) rfl ?_
  refine Ow.ldB X0 hx hZ e0 V_asm1_1 (pc' := 14) (hb hby d_method_3_13) (j := (0 : Int32)) (i := 0) (v := (.int w0sm1)) (by decide) rfl rfl ?_
  refine Ow.iloadN X0 hx (pc' := 15) (hb hby d_method_3_14) rfl ?_
  by_cases hc15 : w0sm1 = xsm1_3
  · skip
    refine Ow.icmpNo X0 hx (pc' := 18) (hb hby d_method_3_15) (teq hc15).2 ?_
    refine Ow.iloadN X0 hx (pc' := 19) (hb hby d_method_3_18) rfl ?_
    refine Ow.iconst X0 hx (pc' := 20) (hb hby d_method_3_19) (z := (2 : Int32)) rfl ?_
    refine Ow.icmpYes X0 hx (pc' := 30) (hb hby d_method_3_20) (tlt (by decide : (1 : Int32) < (2 : Int32))).1 (by decide) (by decide) ?_
    refine Ow.iloadN X0 hx (pc' := 31) (hb hby d_method_3_30) rfl ?_
    refine Ow.iconst X0 hx (pc' := 32) (hb hby d_method_3_31) (z := (3 : Int32)) rfl ?_
    refine Ow.icmpYes X0 hx (pc' := 43) (hb hby d_method_3_32) (tlt (by decide : (1 : Int32) < (3 : Int32))).1 (by decide) (by decide) ?_
    refine Ow.iconst X0 hx (pc' := 44) (hb hby d_method_3_43) (z := (1 : Int32)) rfl ?_
    refine Ow.goto X0 hx (pc' := 48) (hb hby d_method_3_44) (by decide) (by decide) ?_
    exact Wq.ret X0 (BodyLoose.notSynchronized Bd) (rv := some (.int (1 : Int32))) (fun h => by rw [Bd.returns] at h; cases h) (fun _ hr => retN X0 hx (t := .boolean) Bd.returns (by simp) (hb hby d_method_3_48) hr) (by decide) (by decide) ⟨by simp only [f_sm1, if_pos hc15], N0, e0⟩
  · skip
    refine Ow.icmpYes X0 hx (pc' := 47) (hb hby d_method_3_15) (feq hc15).2 (by decide) (by decide) ?_
    refine Ow.iconst X0 hx (pc' := 48) (hb hby d_method_3_47) (z := (0 : Int32)) rfl ?_
    exact Wq.ret X0 (BodyLoose.notSynchronized Bd) (rv := some (.int (0 : Int32))) (fun h => by rw [Bd.returns] at h; cases h) (fun _ hr => retN X0 hx (t := .boolean) Bd.returns (by simp) (hb hby d_method_3_48) hr) (by decide) (by decide) ⟨by simp only [f_sm1, if_neg hc15], N0, e0⟩
theorem d_method_4_5 : decode method_4_code 5 = .ok (.aload_n 0, 1) := by decide +kernel
theorem d_method_4_6 : decode method_4_code 6 = .ok (.iconst 0, 1) := by decide +kernel
theorem d_method_4_7 : decode method_4_code 7 = .ok (.aload_n 0, 1) := by decide +kernel
theorem d_method_4_8 : decode method_4_code 8 = .ok (.iconst 0, 1) := by decide +kernel
theorem d_method_4_9 : decode method_4_code 9 = .ok (.baload, 1) := by decide +kernel
theorem d_method_4_10 : decode method_4_code 10 = .ok (.iconst (-1), 1) := by decide +kernel
theorem d_method_4_11 : decode method_4_code 11 = .ok (.ixor, 1) := by decide +kernel
theorem d_method_4_12 : decode method_4_code 12 = .ok (.i2b, 1) := by decide +kernel
theorem d_method_4_13 : decode method_4_code 13 = .ok (.bastore, 1) := by decide +kernel
theorem ef_fl1 (m : MethodId) (afl1_1 : Addr) : entryFrame m #[(.ref afl1_1)] 1 = mkF m 0 #[.val (.ref afl1_1)] [] := by first | (simp [entryFrame, mkF, argsToLocals, Value.category]; done) | rfl
def Q_fl1 (Z : State) (afl1_1 : Addr) (w0fl1 : Int32) (h0 : Heap) (n0 : Nat) (v : Option Value) (h : Heap) (L : List Loc) : Prop := v = none ∧ Fr n0 L ∧ Keep h0 h [afl1_1] ∧ Al Z h afl1_1 .byte [(.int (((w0fl1 ^^^ (-1 : Int32)).toInt8.toInt32).toInt8.toInt32))]
set_option maxRecDepth 65536 in
set_option maxHeartbeats 40000000 in
theorem rm_fl1 (l : Launch) (Z : State) (a0 : Array Value) (hw : ∀ d ∈ tables_1, d.before a0 Z = true) (ws : List Jvm.Cond) (afl1_1 : Addr) (w0fl1 : Int32) (h0 : Heap) (n0 : Nat) (Z0 : n0 ≤ h0.size) (V_afl1_1 : Al Z h0 afl1_1 .byte [(.int w0fl1)]) (g_afl1_1 : n0 ≤ afl1_1) :
    MetFree l mt7 (head1 (Jvm.Cond.code mt7 method_4_code 1 none :: ws) ({ frames := 0, cells := 0, slots := 0, locals := 0 } : Room)) (fun a U => a = #[(.ref afl1_1)] ∧ Z.Warmed39 U.vm ∧ U.heap = h0) (fun _ _ _ _ _ => True) (fun _ U o U' => ∃ v L, o = .returned v ∧ (Q_fl1 Z afl1_1 w0fl1 h0 n0) v U'.heap L ∧ FrameEnd U o U' L ({ frames := 0, cells := 0, slots := 0, locals := 0 } : Room).cells ({ frames := 0, cells := 0, slots := 0, locals := 0 } : Room).slots) := by
  refine MetFree.of_bodySF (plainFor_of_name pn4) hisR ?_
  intro p e s m args below meth c s₁ Bd hml0 hP hK
  obtain ⟨rfl, hZ, hh⟩ := hP
  have hx := Bd.exec
  have hby := Bd.bytes
  have hml : c.maxLocals = 1 := hml0
  have hown : s.vm.findClass "com/example/opwire/opwire/codec/tcap/AbortUserAbortInformationPinLaw" = some m.cls := findClass_of_methodNamed Bd.named
  have hnm := (name_of_methodNamed Bd.named Bd.method).1
  have X0 : Stand p l e ({ frames := 0, cells := 0, slots := 0, locals := 0 } : Room) s m #[(.ref afl1_1)] below meth c s₁ [] 0 0 := Stand.of_body Bd
  have e0 : s₁.heap = h0 := by rw [← hh, Bd.state]; rfl
  have N0 := Fr.nil n0
  refine Wq.step (p := p) (e := e) (below := below) (En := (fun o t L => FrameEnd s o t L ({ frames := 0, cells := 0, slots := 0, locals := 0 } : Room).cells ({ frames := 0, cells := 0, slots := 0, locals := 0 } : Room).slots)) (Q := (Q_fl1 Z afl1_1 w0fl1 h0 n0)) (fun t k => castTop (ef_fl1 m afl1_1) k) ?_
  show Wq _ _ _ _ _ (s₁.setTop (mkF m 0 #[.val (.ref afl1_1)] []))
  refine Ow.aloadN X0 hx (pc' := 1) (hb hby d_method_4_0) rfl rfl ?_
  refine Ow.lenA X0 hx hZ e0 V_afl1_1 (pc' := 2) (hb hby d_method_4_1) (n := (1 : Int32)) (rfl) ?_
  refine Ow.ifNo X0 hx (pc' := 5) (hb hby d_method_4_2) ((if0 _ _).trans (tlt (by decide : (0 : Int32) < (1 : Int32))).2.2.2) ?_
  refine Ow.aloadN X0 hx (pc' := 6) (hb hby d_method_4_5) rfl rfl ?_
  refine Ow.iconst X0 hx (pc' := 7) (hb hby d_method_4_6) (z := (0 : Int32)) rfl ?_
  refine Ow.aloadN X0 hx (pc' := 8) (hb hby d_method_4_7) rfl rfl ?_
  refine Ow.iconst X0 hx (pc' := 9) (hb hby d_method_4_8) (z := (0 : Int32)) rfl ?_
  refine Ow.ldB X0 hx hZ e0 V_afl1_1 (pc' := 10) (hb hby d_method_4_9) (j := (0 : Int32)) (i := 0) (v := (.int w0fl1)) (by decide) rfl rfl ?_
  refine Ow.iconst X0 hx (pc' := 11) (hb hby d_method_4_10) (z := (-1 : Int32)) rfl ?_
  refine Ow.ixor X0 hx (pc' := 12) (hb hby d_method_4_11) (z := (w0fl1 ^^^ (-1 : Int32))) rfl ?_
  refine Ow.i2b X0 hx (pc' := 13) (hb hby d_method_4_12) (z := ((w0fl1 ^^^ (-1 : Int32)).toInt8.toInt32)) rfl ?_
  obtain ⟨T71, h71, X71, e71, W71, Vr71, st71⟩ := asB X0 hx hZ e0 V_afl1_1 (j := (0 : Int32)) (i := 0) (by decide) rfl (Nat.le_of_ble_eq_true rfl) (y := (((w0fl1 ^^^ (-1 : Int32)).toInt8.toInt32).toInt8.toInt32)) rfl (g := (mkF m 13 #[.val (.ref afl1_1)] [(.int ((w0fl1 ^^^ (-1 : Int32)).toInt8.toInt32)), (.int (0 : Int32)), (.ref afl1_1)])) rfl rfl (hb hby d_method_4_13)
  refine Wq.step st71 ?_
  have N71 := Fr.snoc X71 N0 g_afl1_1
  have K71 : Keep h0 h71 [afl1_1] := (Keep.refl h0 [afl1_1]).wr W71 (Or.inl (List.mem_of_getElem? (i := 0) rfl))
  have Z71 : n0 ≤ h71.size := Nat.le_trans Z0 (Keep.of_wr W71).1
  have V_afl1_1_t71 : Al Z h71 afl1_1 .byte [(.int (((w0fl1 ^^^ (-1 : Int32)).toInt8.toInt32).toInt8.toInt32))] := Vr71
  show Wq _ _ _ _ _ (T71.setTop (mkF m 14 #[.val (.ref afl1_1)] []))
  refine Ow.aloadN X71 hx (pc' := 15) (hb hby d_method_4_14) rfl rfl ?_
  refine Ow.lenA X71 hx hZ e71 V_afl1_1_t71 (pc' := 16) (hb hby d_method_4_15) (n := (1 : Int32)) (rfl) ?_
  refine Ow.iconst X71 hx (pc' := 17) (hb hby d_method_4_16) (z := (1 : Int32)) rfl ?_
  refine Ow.icmpYes X71 hx (pc' := 29) (hb hby d_method_4_17) (flt (by decide : ¬ ((1 : Int32) < (1 : Int32)))).2.2.2 (by decide) (by decide) ?_
  refine Ow.aloadN X71 hx (pc' := 30) (hb hby d_method_4_29) rfl rfl ?_
  refine Ow.lenA X71 hx hZ e71 V_afl1_1_t71 (pc' := 31) (hb hby d_method_4_30) (n := (1 : Int32)) (rfl) ?_
  refine Ow.iconst X71 hx (pc' := 32) (hb hby d_method_4_31) (z := (2 : Int32)) rfl ?_
  refine Ow.icmpYes X71 hx (pc' := 44) (hb hby d_method_4_32) (flt (by decide : ¬ ((2 : Int32) < (1 : Int32)))).2.2.2 (by decide) (by decide) ?_
  exact Wq.ret X71 (BodyLoose.notSynchronized Bd) (rv := none) (fun _ => rfl) (fun _ hr => X71.returnOut hx Bd.returns (hb hby d_method_4_44) hr) (by decide) (by decide) (by rw [e71]; exact ⟨rfl, N71, K71, V_afl1_1_t71⟩)
theorem ef_ui2 (m : MethodId) (thisui2 : Addr) : entryFrame m #[(.ref thisui2)] 1 = mkF m 0 #[.val (.ref thisui2)] [] := by first | (simp [entryFrame, mkF, argsToLocals, Value.category]; done) | rfl
def Q_ui2 (Z : State) (thisui2 : Addr) (bui2 : Addr) (w0ui2 : Int32) (w1ui2 : Int32) (h0 : Heap) (n0 : Nat) (v : Option Value) (h : Heap) (L : List Loc) : Prop := ∃ b74 : Addr, v = some (.ref b74) ∧ Fr n0 L ∧ Keep h0 h [] ∧ h0.size ≤ b74 ∧ Al Z h b74 .byte [(.int w0ui2), (.int w1ui2)] ∧ Exa Z h b74 "[B"
set_option maxRecDepth 65536 in
set_option maxHeartbeats 40000000 in
theorem rm_ui2 (l : Launch) (Z : State) (a0 : Array Value) (hw : ∀ d ∈ tables_1, d.before a0 Z = true) (ws : List Jvm.Cond) (thisui2 : Addr) (bui2 : Addr) (w0ui2 : Int32) (w1ui2 : Int32) (h0 : Heap) (n0 : Nat) (Z0 : n0 ≤ h0.size) (F_thisui2_userAbortInformation : Fld Z h0 thisui2 "com/example/opwire/opwire/codec/tcap/Abort" "userAbortInformation" "[B" (.ref bui2)) (V_bui2 : Al Z h0 bui2 .byte [(.int w0ui2), (.int w1ui2)]) (E_bui2 : Exa Z h0 bui2 "[B") (hf : ∀ v ∈ ([(.int w0ui2), (.int w1ui2)] : List Value), fits .byte v = true) :
    MetFree l mt5 (head1 (Jvm.Cond.code mt5 prog_23_method_5_code 1 (some (.array .byte)) :: ws) ({ frames := 1, cells := 1, slots := 2, locals := 14 } : Room)) (fun a U => a = #[(.ref thisui2)] ∧ Z.Warmed39 U.vm ∧ U.heap = h0) (fun _ _ _ _ _ => True) (fun _ U o U' => ∃ v L, o = .returned v ∧ (Q_ui2 Z thisui2 bui2 w0ui2 w1ui2 h0 n0) v U'.heap L ∧ FrameEnd U o U' L ({ frames := 1, cells := 1, slots := 2, locals := 14 } : Room).cells ({ frames := 1, cells := 1, slots := 2, locals := 14 } : Room).slots) := by
  refine MetFree.of_bodySF (plainFor_of_name pn3) hisR ?_
  intro p e s m args below meth c s₁ Bd hml0 hP hK
  obtain ⟨rfl, hZ, hh⟩ := hP
  have hx := Bd.exec
  have hby := Bd.bytes
  have hml : c.maxLocals = 1 := hml0
  have hown : s.vm.findClass "com/example/opwire/opwire/codec/tcap/Abort" = some m.cls := findClass_of_methodNamed Bd.named
  have hnm := (name_of_methodNamed Bd.named Bd.method).1
  have X0 : Stand p l e ({ frames := 1, cells := 1, slots := 2, locals := 14 } : Room) s m #[(.ref thisui2)] below meth c s₁ [] 0 0 := Stand.of_body Bd
  have e0 : s₁.heap = h0 := by rw [← hh, Bd.state]; rfl
  have N0 := Fr.nil n0
  refine Wq.step (p := p) (e := e) (below := below) (En := (fun o t L => FrameEnd s o t L ({ frames := 1, cells := 1, slots := 2, locals := 14 } : Room).cells ({ frames := 1, cells := 1, slots := 2, locals := 14 } : Room).slots)) (Q := (Q_ui2 Z thisui2 bui2 w0ui2 w1ui2 h0 n0)) (fun t k => castTop (ef_ui2 m thisui2) k) ?_
  show Wq _ _ _ _ _ (s₁.setTop (mkF m 0 #[.val (.ref thisui2)] []))
  refine Ow.aloadN X0 hx (pc' := 1) (hb hby d_prog_23_method_5_0) rfl rfl ?_
  obtain ⟨T72, X72, e72, st72⟩ := getF X0 hx hZ hown (host := "") (Or.inl (kw49 hw)) Via.refl e0 F_thisui2_userAbortInformation (g := (mkF m 1 #[.val (.ref thisui2)] [(.ref thisui2)])) rfl rfl (hb hby d_prog_23_method_5_1)
  refine Wq.step st72 ?_
  show Wq _ _ _ _ _ (T72.setTop (mkF m 4 #[.val (.ref thisui2)] [(.ref bui2)]))
  refine Ow.ifnonnullYes X72 hx (pc' := 11) (hb hby d_prog_23_method_5_4) (by decide) (by decide) ?_
  refine Ow.aloadN X72 hx (pc' := 12) (hb hby d_prog_23_method_5_11) rfl rfl ?_
  obtain ⟨T73, X73, e73, st73⟩ := getF X72 hx hZ hown (host := "") (Or.inl (kw49 hw)) Via.refl e72 F_thisui2_userAbortInformation (g := (mkF m 12 #[.val (.ref thisui2)] [(.ref thisui2)])) rfl rfl (hb hby d_prog_23_method_5_12)
  refine Wq.step st73 ?_
  show Wq _ _ _ _ _ (T73.setTop (mkF m 15 #[.val (.ref thisui2)] [(.ref bui2)]))
  obtain ⟨T74, h74, X74, e74, E74, A74, Ex74, st74⟩ := clA X73 hx hZ hown (kw36 hw) (kw37 hw) (kw41 hw) (kw39 hw) (kw40 hw) (kw42 hw) e73 V_bui2 E_bui2 (hf) (g := (mkF m 15 #[.val (.ref thisui2)] [(.ref bui2)])) rfl (by rw [hml]; rfl) rfl (hb hby d_prog_23_method_5_15) (by decide) (W := 0) (cap := 2) (by show 2 * 0 + _ ≤ _; exact Nat.le_of_eq rfl) (by decide) (Nat.le_of_ble_eq_true rfl) (by decide) (by decide)
  obtain ⟨b74, gz74⟩ : ∃ z, z = h0.size := ⟨_, rfl⟩
  rw [← gz74] at A74 Ex74 st74
  have g_b74 : n0 ≤ b74 := Nat.le_trans Z0 (Nat.le_of_eq gz74.symm)
  have sz_b74 : h0.size ≤ b74 := Nat.le_of_eq gz74.symm
  have ne_thisui2_b74 : thisui2 ≠ b74 := Nat.ne_of_lt (Nat.lt_of_lt_of_le F_thisui2_userAbortInformation.lt (Nat.le_of_eq gz74.symm))
  have ne_bui2_b74 : bui2 ≠ b74 := Nat.ne_of_lt (Nat.lt_of_lt_of_le V_bui2.lt (Nat.le_of_eq gz74.symm))
  have K74 : Keep h0 h74 [] := (Keep.refl h0 []).ext E74
  have Z74 : n0 ≤ h74.size := Nat.le_trans Z0 E74.1
  have F_thisui2_userAbortInformation_t74 := F_thisui2_userAbortInformation.ext E74
  have V_bui2_t74 := V_bui2.ext E74
  have E_bui2_t74 := E_bui2.ext E74
  refine Wq.step st74 ?_
  show Wq _ _ _ _ _ (T74.setTop (mkF m 18 #[.val (.ref thisui2)] [(.ref b74)]))
  obtain ⟨T75, X75, e75, st75⟩ := castY X74 hx hZ hown (kw43 hw) e74 (Ins.self Ex74) (g := (mkF m 18 #[.val (.ref thisui2)] [(.ref b74)])) rfl rfl (hb hby d_prog_23_method_5_18)
  refine Wq.step st75 ?_
  show Wq _ _ _ _ _ (T75.setTop (mkF m 21 #[.val (.ref thisui2)] [(.ref b74)]))
  exact Wq.ret X75 (BodyLoose.notSynchronized Bd) (rv := some (.ref b74)) (fun h => by rw [Bd.returns] at h; cases h) (fun _ hr => retOut X75 hx Bd.returns rfl (Or.inr (Or.inr (Or.inr (Or.inr ⟨rfl, rfl, rfl⟩)))) (hb hby d_prog_23_method_5_21) hr) (by decide) (by decide) (by rw [e75]; exact ⟨b74, rfl, N0, K74, sz_b74, A74, Ex74⟩)
theorem d_method_3_23 : decode method_3_code 23 = .ok (.aload_n 0, 1) := by decide +kernel
theorem d_method_3_24 : decode method_3_code 24 = .ok (.iconst 1, 1) := by decide +kernel
theorem d_method_3_25 : decode method_3_code 25 = .ok (.baload, 1) := by decide +kernel
theorem d_method_3_26 : decode method_3_code 26 = .ok (.iload_n 3, 1) := by decide +kernel
theorem d_method_3_27 : decode method_3_code 27 = .ok (.if_icmp .ne 20, 3) := by decide +kernel
theorem ef_sm2 (m : MethodId) (asm2_1 : Addr) (xsm2_3 : Int32) (xsm2_4 : Int32) (xsm2_5 : Int32) : entryFrame m #[(.ref asm2_1), (.int (2 : Int32)), (.int xsm2_3), (.int xsm2_4), (.int xsm2_5)] 5 = mkF m 0 #[.val (.ref asm2_1), .val (.int (2 : Int32)), .val (.int xsm2_3), .val (.int xsm2_4), .val (.int xsm2_5)] [] := by first | (simp [entryFrame, mkF, argsToLocals, Value.category]; done) | rfl
def f_sm2 (xsm2_3 : Int32) (xsm2_4 : Int32) (xsm2_5 : Int32) (w0sm2 : Int32) (w1sm2 : Int32) : Int32 := (if w0sm2 = xsm2_3 then (if w1sm2 = xsm2_4 then (1 : Int32) else (0 : Int32)) else (0 : Int32))
def Q_sm2 (Z : State) (asm2_1 : Addr) (xsm2_3 : Int32) (xsm2_4 : Int32) (xsm2_5 : Int32) (w0sm2 : Int32) (w1sm2 : Int32) (h0 : Heap) (n0 : Nat) (v : Option Value) (h : Heap) (L : List Loc) : Prop := v = some (.int (f_sm2 xsm2_3 xsm2_4 xsm2_5 w0sm2 w1sm2)) ∧ Fr n0 L ∧ h = h0
set_option maxRecDepth 65536 in
set_option maxHeartbeats 40000000 in
theorem rm_sm2 (l : Launch) (Z : State) (a0 : Array Value) (hw : ∀ d ∈ tables_1, d.before a0 Z = true) (ws : List Jvm.Cond) (asm2_1 : Addr) (xsm2_3 : Int32) (xsm2_4 : Int32) (xsm2_5 : Int32) (w0sm2 : Int32) (w1sm2 : Int32) (h0 : Heap) (n0 : Nat) (Z0 : n0 ≤ h0.size) (V_asm2_1 : Al Z h0 asm2_1 .byte [(.int w0sm2), (.int w1sm2)]) :
    MetFree l mt6 (head1 (Jvm.Cond.code mt6 method_3_code 5 (some .boolean) :: ws) ({ frames := 0, cells := 0, slots := 0, locals := 0 } : Room)) (fun a U => a = #[(.ref asm2_1), (.int (2 : Int32)), (.int xsm2_3), (.int xsm2_4), (.int xsm2_5)] ∧ Z.Warmed39 U.vm ∧ U.heap = h0) (fun _ _ _ _ _ => True) (fun _ U o U' => ∃ v L, o = .returned v ∧ (Q_sm2 Z asm2_1 xsm2_3 xsm2_4 xsm2_5 w0sm2 w1sm2 h0 n0) v U'.heap L ∧ FrameEnd U o U' L ({ frames := 0, cells := 0, slots := 0, locals := 0 } : Room).cells ({ frames := 0, cells := 0, slots := 0, locals := 0 } : Room).slots) := by
  refine MetFree.of_bodySF (plainFor_of_name pn4) hisR ?_
  intro p e s m args below meth c s₁ Bd hml0 hP hK
  obtain ⟨rfl, hZ, hh⟩ := hP
  have hx := Bd.exec
  have hby := Bd.bytes
  have hml : c.maxLocals = 5 := hml0
  have hown : s.vm.findClass "com/example/opwire/opwire/codec/tcap/AbortUserAbortInformationPinLaw" = some m.cls := findClass_of_methodNamed Bd.named
  have hnm := (name_of_methodNamed Bd.named Bd.method).1
  have X0 : Stand p l e ({ frames := 0, cells := 0, slots := 0, locals := 0 } : Room) s m #[(.ref asm2_1), (.int (2 : Int32)), (.int xsm2_3), (.int xsm2_4), (.int xsm2_5)] below meth c s₁ [] 0 0 := Stand.of_body Bd
  have e0 : s₁.heap = h0 := by rw [← hh, Bd.state]; rfl
  have N0 := Fr.nil n0
  refine Wq.step (p := p) (e := e) (below := below) (En := (fun o t L => FrameEnd s o t L ({ frames := 0, cells := 0, slots := 0, locals := 0 } : Room).cells ({ frames := 0, cells := 0, slots := 0, locals := 0 } : Room).slots)) (Q := (Q_sm2 Z asm2_1 xsm2_3 xsm2_4 xsm2_5 w0sm2 w1sm2 h0 n0)) (fun t k => castTop (ef_sm2 m asm2_1 xsm2_3 xsm2_4 xsm2_5) k) ?_
  show Wq _ _ _ _ _ (s₁.setTop (mkF m 0 #[.val (.ref asm2_1), .val (.int (2 : Int32)), .val (.int xsm2_3), .val (.int xsm2_4), .val (.int xsm2_5)] []))
  refine Ow.aloadN X0 hx (pc' := 1) (hb hby d_method_3_0) rfl rfl ?_
  refine Ow.lenA X0 hx hZ e0 V_asm2_1 (pc' := 2) (hb hby d_method_3_1) (n := (2 : Int32)) (rfl) ?_
  refine Ow.iloadN X0 hx (pc' := 3) (hb hby d_method_3_2) rfl ?_
  refine Ow.icmpNo X0 hx (pc' := 6) (hb hby d_method_3_3) (teq (by decide : (2 : Int32) = (2 : Int32))).2 ?_
  refine Ow.iloadN X0 hx (pc' := 7) (hb hby d_method_3_6) rfl ?_
  refine Ow.iconst X0 hx (pc' := 8) (hb hby d_method_3_7) (z := (1 : Int32)) rfl ?_
  refine Ow.icmpNo X0 hx (pc' := 11) (hb hby d_method_3_8) (flt (by decide : ¬ ((2 : Int32) < (1 : Int32)))).1 ?_
  refine Ow.aloadN X0 hx (pc' := 12) (hb hby d_method_3_11) rfl rfl ?_
  refine Ow.iconst X0 hx (pc' := 13) (hb hby d_method_3_12) (z := (0 : Int32)) rfl ?_
  refine Ow.ldB X0 hx hZ e0 V_asm2_1 (pc' := 14) (hb hby d_method_3_13) (j := (0 : Int32)) (i := 0) (v := (.int w0sm2)) (by decide) rfl rfl ?_
  refine Ow.iloadN X0 hx (pc' := 15) (hb hby d_method_3_14) rfl ?_
  by_cases hc15 : w0sm2 = xsm2_3
  · skip
    refine Ow.icmpNo X0 hx (pc' := 18) (hb hby d_method_3_15) (teq hc15).2 ?_
    refine Ow.iloadN X0 hx (pc' := 19) (hb hby d_method_3_18) rfl ?_
    refine Ow.iconst X0 hx (pc' := 20) (hb hby d_method_3_19) (z := (2 : Int32)) rfl ?_
    refine Ow.icmpNo X0 hx (pc' := 23) (hb hby d_method_3_20) (flt (by decide : ¬ ((2 : Int32) < (2 : Int32)))).1 ?_
    refine Ow.aloadN X0 hx (pc' := 24) (hb hby d_method_3_23) rfl rfl ?_
    refine Ow.iconst X0 hx (pc' := 25) (hb hby d_method_3_24) (z := (1 : Int32)) rfl ?_
    refine Ow.ldB X0 hx hZ e0 V_asm2_1 (pc' := 26) (hb hby d_method_3_25) (j := (1 : Int32)) (i := 1) (v := (.int w1sm2)) (by decide) rfl rfl ?_
    refine Ow.iloadN X0 hx (pc' := 27) (hb hby d_method_3_26) rfl ?_
    by_cases hc27 : w1sm2 = xsm2_4
    · skip
      refine Ow.icmpNo X0 hx (pc' := 30) (hb hby d_method_3_27) (teq hc27).2 ?_
      refine Ow.iloadN X0 hx (pc' := 31) (hb hby d_method_3_30) rfl ?_
      refine Ow.iconst X0 hx (pc' := 32) (hb hby d_method_3_31) (z := (3 : Int32)) rfl ?_
      refine Ow.icmpYes X0 hx (pc' := 43) (hb hby d_method_3_32) (tlt (by decide : (2 : Int32) < (3 : Int32))).1 (by decide) (by decide) ?_
      refine Ow.iconst X0 hx (pc' := 44) (hb hby d_method_3_43) (z := (1 : Int32)) rfl ?_
      refine Ow.goto X0 hx (pc' := 48) (hb hby d_method_3_44) (by decide) (by decide) ?_
      exact Wq.ret X0 (BodyLoose.notSynchronized Bd) (rv := some (.int (1 : Int32))) (fun h => by rw [Bd.returns] at h; cases h) (fun _ hr => retN X0 hx (t := .boolean) Bd.returns (by simp) (hb hby d_method_3_48) hr) (by decide) (by decide) ⟨by simp only [f_sm2, if_pos hc15, if_pos hc27], N0, e0⟩
    · skip
      refine Ow.icmpYes X0 hx (pc' := 47) (hb hby d_method_3_27) (feq hc27).2 (by decide) (by decide) ?_
      refine Ow.iconst X0 hx (pc' := 48) (hb hby d_method_3_47) (z := (0 : Int32)) rfl ?_
      exact Wq.ret X0 (BodyLoose.notSynchronized Bd) (rv := some (.int (0 : Int32))) (fun h => by rw [Bd.returns] at h; cases h) (fun _ hr => retN X0 hx (t := .boolean) Bd.returns (by simp) (hb hby d_method_3_48) hr) (by decide) (by decide) ⟨by simp only [f_sm2, if_pos hc15, if_neg hc27], N0, e0⟩
  · skip
    refine Ow.icmpYes X0 hx (pc' := 47) (hb hby d_method_3_15) (feq hc15).2 (by decide) (by decide) ?_
    refine Ow.iconst X0 hx (pc' := 48) (hb hby d_method_3_47) (z := (0 : Int32)) rfl ?_
    exact Wq.ret X0 (BodyLoose.notSynchronized Bd) (rv := some (.int (0 : Int32))) (fun h => by rw [Bd.returns] at h; cases h) (fun _ hr => retN X0 hx (t := .boolean) Bd.returns (by simp) (hb hby d_method_3_48) hr) (by decide) (by decide) ⟨by simp only [f_sm2, if_neg hc15], N0, e0⟩
theorem d_method_4_20 : decode method_4_code 20 = .ok (.aload_n 0, 1) := by decide +kernel
theorem d_method_4_21 : decode method_4_code 21 = .ok (.iconst 1, 1) := by decide +kernel
theorem d_method_4_22 : decode method_4_code 22 = .ok (.aload_n 0, 1) := by decide +kernel
theorem d_method_4_23 : decode method_4_code 23 = .ok (.iconst 1, 1) := by decide +kernel
theorem d_method_4_24 : decode method_4_code 24 = .ok (.baload, 1) := by decide +kernel
theorem d_method_4_25 : decode method_4_code 25 = .ok (.iconst (-1), 1) := by decide +kernel
theorem d_method_4_26 : decode method_4_code 26 = .ok (.ixor, 1) := by decide +kernel
theorem d_method_4_27 : decode method_4_code 27 = .ok (.i2b, 1) := by decide +kernel
theorem d_method_4_28 : decode method_4_code 28 = .ok (.bastore, 1) := by decide +kernel
theorem ef_fl2 (m : MethodId) (afl2_1 : Addr) : entryFrame m #[(.ref afl2_1)] 1 = mkF m 0 #[.val (.ref afl2_1)] [] := by first | (simp [entryFrame, mkF, argsToLocals, Value.category]; done) | rfl
def Q_fl2 (Z : State) (afl2_1 : Addr) (w0fl2 : Int32) (w1fl2 : Int32) (h0 : Heap) (n0 : Nat) (v : Option Value) (h : Heap) (L : List Loc) : Prop := v = none ∧ Fr n0 L ∧ Keep h0 h [afl2_1] ∧ Al Z h afl2_1 .byte [(.int (((w0fl2 ^^^ (-1 : Int32)).toInt8.toInt32).toInt8.toInt32)), (.int (((w1fl2 ^^^ (-1 : Int32)).toInt8.toInt32).toInt8.toInt32))]
set_option maxRecDepth 65536 in
set_option maxHeartbeats 40000000 in
theorem rm_fl2 (l : Launch) (Z : State) (a0 : Array Value) (hw : ∀ d ∈ tables_1, d.before a0 Z = true) (ws : List Jvm.Cond) (afl2_1 : Addr) (w0fl2 : Int32) (w1fl2 : Int32) (h0 : Heap) (n0 : Nat) (Z0 : n0 ≤ h0.size) (V_afl2_1 : Al Z h0 afl2_1 .byte [(.int w0fl2), (.int w1fl2)]) (g_afl2_1 : n0 ≤ afl2_1) :
    MetFree l mt7 (head1 (Jvm.Cond.code mt7 method_4_code 1 none :: ws) ({ frames := 0, cells := 0, slots := 0, locals := 0 } : Room)) (fun a U => a = #[(.ref afl2_1)] ∧ Z.Warmed39 U.vm ∧ U.heap = h0) (fun _ _ _ _ _ => True) (fun _ U o U' => ∃ v L, o = .returned v ∧ (Q_fl2 Z afl2_1 w0fl2 w1fl2 h0 n0) v U'.heap L ∧ FrameEnd U o U' L ({ frames := 0, cells := 0, slots := 0, locals := 0 } : Room).cells ({ frames := 0, cells := 0, slots := 0, locals := 0 } : Room).slots) := by
  refine MetFree.of_bodySF (plainFor_of_name pn4) hisR ?_
  intro p e s m args below meth c s₁ Bd hml0 hP hK
  obtain ⟨rfl, hZ, hh⟩ := hP
  have hx := Bd.exec
  have hby := Bd.bytes
  have hml : c.maxLocals = 1 := hml0
  have hown : s.vm.findClass "com/example/opwire/opwire/codec/tcap/AbortUserAbortInformationPinLaw" = some m.cls := findClass_of_methodNamed Bd.named
  have hnm := (name_of_methodNamed Bd.named Bd.method).1
  have X0 : Stand p l e ({ frames := 0, cells := 0, slots := 0, locals := 0 } : Room) s m #[(.ref afl2_1)] below meth c s₁ [] 0 0 := Stand.of_body Bd
  have e0 : s₁.heap = h0 := by rw [← hh, Bd.state]; rfl
  have N0 := Fr.nil n0
  refine Wq.step (p := p) (e := e) (below := below) (En := (fun o t L => FrameEnd s o t L ({ frames := 0, cells := 0, slots := 0, locals := 0 } : Room).cells ({ frames := 0, cells := 0, slots := 0, locals := 0 } : Room).slots)) (Q := (Q_fl2 Z afl2_1 w0fl2 w1fl2 h0 n0)) (fun t k => castTop (ef_fl2 m afl2_1) k) ?_
  show Wq _ _ _ _ _ (s₁.setTop (mkF m 0 #[.val (.ref afl2_1)] []))
  refine Ow.aloadN X0 hx (pc' := 1) (hb hby d_method_4_0) rfl rfl ?_
  refine Ow.lenA X0 hx hZ e0 V_afl2_1 (pc' := 2) (hb hby d_method_4_1) (n := (2 : Int32)) (rfl) ?_
  refine Ow.ifNo X0 hx (pc' := 5) (hb hby d_method_4_2) ((if0 _ _).trans (tlt (by decide : (0 : Int32) < (2 : Int32))).2.2.2) ?_
  refine Ow.aloadN X0 hx (pc' := 6) (hb hby d_method_4_5) rfl rfl ?_
  refine Ow.iconst X0 hx (pc' := 7) (hb hby d_method_4_6) (z := (0 : Int32)) rfl ?_
  refine Ow.aloadN X0 hx (pc' := 8) (hb hby d_method_4_7) rfl rfl ?_
  refine Ow.iconst X0 hx (pc' := 9) (hb hby d_method_4_8) (z := (0 : Int32)) rfl ?_
  refine Ow.ldB X0 hx hZ e0 V_afl2_1 (pc' := 10) (hb hby d_method_4_9) (j := (0 : Int32)) (i := 0) (v := (.int w0fl2)) (by decide) rfl rfl ?_
  refine Ow.iconst X0 hx (pc' := 11) (hb hby d_method_4_10) (z := (-1 : Int32)) rfl ?_
  refine Ow.ixor X0 hx (pc' := 12) (hb hby d_method_4_11) (z := (w0fl2 ^^^ (-1 : Int32))) rfl ?_
  refine Ow.i2b X0 hx (pc' := 13) (hb hby d_method_4_12) (z := ((w0fl2 ^^^ (-1 : Int32)).toInt8.toInt32)) rfl ?_
  obtain ⟨T76, h76, X76, e76, W76, Vr76, st76⟩ := asB X0 hx hZ e0 V_afl2_1 (j := (0 : Int32)) (i := 0) (by decide) rfl (Nat.le_of_ble_eq_true rfl) (y := (((w0fl2 ^^^ (-1 : Int32)).toInt8.toInt32).toInt8.toInt32)) rfl (g := (mkF m 13 #[.val (.ref afl2_1)] [(.int ((w0fl2 ^^^ (-1 : Int32)).toInt8.toInt32)), (.int (0 : Int32)), (.ref afl2_1)])) rfl rfl (hb hby d_method_4_13)
  refine Wq.step st76 ?_
  have N76 := Fr.snoc X76 N0 g_afl2_1
  have K76 : Keep h0 h76 [afl2_1] := (Keep.refl h0 [afl2_1]).wr W76 (Or.inl (List.mem_of_getElem? (i := 0) rfl))
  have Z76 : n0 ≤ h76.size := Nat.le_trans Z0 (Keep.of_wr W76).1
  have V_afl2_1_t76 : Al Z h76 afl2_1 .byte [(.int (((w0fl2 ^^^ (-1 : Int32)).toInt8.toInt32).toInt8.toInt32)), (.int w1fl2)] := Vr76
  show Wq _ _ _ _ _ (T76.setTop (mkF m 14 #[.val (.ref afl2_1)] []))
  refine Ow.aloadN X76 hx (pc' := 15) (hb hby d_method_4_14) rfl rfl ?_
  refine Ow.lenA X76 hx hZ e76 V_afl2_1_t76 (pc' := 16) (hb hby d_method_4_15) (n := (2 : Int32)) (rfl) ?_
  refine Ow.iconst X76 hx (pc' := 17) (hb hby d_method_4_16) (z := (1 : Int32)) rfl ?_
  refine Ow.icmpNo X76 hx (pc' := 20) (hb hby d_method_4_17) (tlt (by decide : (1 : Int32) < (2 : Int32))).2.2.2 ?_
  refine Ow.aloadN X76 hx (pc' := 21) (hb hby d_method_4_20) rfl rfl ?_
  refine Ow.iconst X76 hx (pc' := 22) (hb hby d_method_4_21) (z := (1 : Int32)) rfl ?_
  refine Ow.aloadN X76 hx (pc' := 23) (hb hby d_method_4_22) rfl rfl ?_
  refine Ow.iconst X76 hx (pc' := 24) (hb hby d_method_4_23) (z := (1 : Int32)) rfl ?_
  refine Ow.ldB X76 hx hZ e76 V_afl2_1_t76 (pc' := 25) (hb hby d_method_4_24) (j := (1 : Int32)) (i := 1) (v := (.int w1fl2)) (by decide) rfl rfl ?_
  refine Ow.iconst X76 hx (pc' := 26) (hb hby d_method_4_25) (z := (-1 : Int32)) rfl ?_
  refine Ow.ixor X76 hx (pc' := 27) (hb hby d_method_4_26) (z := (w1fl2 ^^^ (-1 : Int32))) rfl ?_
  refine Ow.i2b X76 hx (pc' := 28) (hb hby d_method_4_27) (z := ((w1fl2 ^^^ (-1 : Int32)).toInt8.toInt32)) rfl ?_
  obtain ⟨T77, h77, X77, e77, W77, Vr77, st77⟩ := asB X76 hx hZ e76 V_afl2_1_t76 (j := (1 : Int32)) (i := 1) (by decide) rfl (Nat.le_of_ble_eq_true rfl) (y := (((w1fl2 ^^^ (-1 : Int32)).toInt8.toInt32).toInt8.toInt32)) rfl (g := (mkF m 28 #[.val (.ref afl2_1)] [(.int ((w1fl2 ^^^ (-1 : Int32)).toInt8.toInt32)), (.int (1 : Int32)), (.ref afl2_1)])) rfl rfl (hb hby d_method_4_28)
  refine Wq.step st77 ?_
  have N77 := Fr.snoc X77 N76 g_afl2_1
  have K77 : Keep h0 h77 [afl2_1] := K76.wr W77 (Or.inl (List.mem_of_getElem? (i := 0) rfl))
  have Z77 : n0 ≤ h77.size := Nat.le_trans Z76 (Keep.of_wr W77).1
  have V_afl2_1_t77 : Al Z h77 afl2_1 .byte [(.int (((w0fl2 ^^^ (-1 : Int32)).toInt8.toInt32).toInt8.toInt32)), (.int (((w1fl2 ^^^ (-1 : Int32)).toInt8.toInt32).toInt8.toInt32))] := Vr77
  show Wq _ _ _ _ _ (T77.setTop (mkF m 29 #[.val (.ref afl2_1)] []))
  refine Ow.aloadN X77 hx (pc' := 30) (hb hby d_method_4_29) rfl rfl ?_
  refine Ow.lenA X77 hx hZ e77 V_afl2_1_t77 (pc' := 31) (hb hby d_method_4_30) (n := (2 : Int32)) (rfl) ?_
  refine Ow.iconst X77 hx (pc' := 32) (hb hby d_method_4_31) (z := (2 : Int32)) rfl ?_
  refine Ow.icmpYes X77 hx (pc' := 44) (hb hby d_method_4_32) (flt (by decide : ¬ ((2 : Int32) < (2 : Int32)))).2.2.2 (by decide) (by decide) ?_
  exact Wq.ret X77 (BodyLoose.notSynchronized Bd) (rv := none) (fun _ => rfl) (fun _ hr => X77.returnOut hx Bd.returns (hb hby d_method_4_44) hr) (by decide) (by decide) (by rw [e77]; exact ⟨rfl, N77, K77, V_afl2_1_t77⟩)
theorem ef_ui3 (m : MethodId) (thisui3 : Addr) : entryFrame m #[(.ref thisui3)] 1 = mkF m 0 #[.val (.ref thisui3)] [] := by first | (simp [entryFrame, mkF, argsToLocals, Value.category]; done) | rfl
def Q_ui3 (Z : State) (thisui3 : Addr) (bui3 : Addr) (w0ui3 : Int32) (w1ui3 : Int32) (w2ui3 : Int32) (h0 : Heap) (n0 : Nat) (v : Option Value) (h : Heap) (L : List Loc) : Prop := ∃ b80 : Addr, v = some (.ref b80) ∧ Fr n0 L ∧ Keep h0 h [] ∧ h0.size ≤ b80 ∧ Al Z h b80 .byte [(.int w0ui3), (.int w1ui3), (.int w2ui3)] ∧ Exa Z h b80 "[B"
set_option maxRecDepth 65536 in
set_option maxHeartbeats 40000000 in
theorem rm_ui3 (l : Launch) (Z : State) (a0 : Array Value) (hw : ∀ d ∈ tables_1, d.before a0 Z = true) (ws : List Jvm.Cond) (thisui3 : Addr) (bui3 : Addr) (w0ui3 : Int32) (w1ui3 : Int32) (w2ui3 : Int32) (h0 : Heap) (n0 : Nat) (Z0 : n0 ≤ h0.size) (F_thisui3_userAbortInformation : Fld Z h0 thisui3 "com/example/opwire/opwire/codec/tcap/Abort" "userAbortInformation" "[B" (.ref bui3)) (V_bui3 : Al Z h0 bui3 .byte [(.int w0ui3), (.int w1ui3), (.int w2ui3)]) (E_bui3 : Exa Z h0 bui3 "[B") (hf : ∀ v ∈ ([(.int w0ui3), (.int w1ui3), (.int w2ui3)] : List Value), fits .byte v = true) :
    MetFree l mt5 (head1 (Jvm.Cond.code mt5 prog_23_method_5_code 1 (some (.array .byte)) :: ws) ({ frames := 1, cells := 1, slots := 3, locals := 14 } : Room)) (fun a U => a = #[(.ref thisui3)] ∧ Z.Warmed39 U.vm ∧ U.heap = h0) (fun _ _ _ _ _ => True) (fun _ U o U' => ∃ v L, o = .returned v ∧ (Q_ui3 Z thisui3 bui3 w0ui3 w1ui3 w2ui3 h0 n0) v U'.heap L ∧ FrameEnd U o U' L ({ frames := 1, cells := 1, slots := 3, locals := 14 } : Room).cells ({ frames := 1, cells := 1, slots := 3, locals := 14 } : Room).slots) := by
  refine MetFree.of_bodySF (plainFor_of_name pn3) hisR ?_
  intro p e s m args below meth c s₁ Bd hml0 hP hK
  obtain ⟨rfl, hZ, hh⟩ := hP
  have hx := Bd.exec
  have hby := Bd.bytes
  have hml : c.maxLocals = 1 := hml0
  have hown : s.vm.findClass "com/example/opwire/opwire/codec/tcap/Abort" = some m.cls := findClass_of_methodNamed Bd.named
  have hnm := (name_of_methodNamed Bd.named Bd.method).1
  have X0 : Stand p l e ({ frames := 1, cells := 1, slots := 3, locals := 14 } : Room) s m #[(.ref thisui3)] below meth c s₁ [] 0 0 := Stand.of_body Bd
  have e0 : s₁.heap = h0 := by rw [← hh, Bd.state]; rfl
  have N0 := Fr.nil n0
  refine Wq.step (p := p) (e := e) (below := below) (En := (fun o t L => FrameEnd s o t L ({ frames := 1, cells := 1, slots := 3, locals := 14 } : Room).cells ({ frames := 1, cells := 1, slots := 3, locals := 14 } : Room).slots)) (Q := (Q_ui3 Z thisui3 bui3 w0ui3 w1ui3 w2ui3 h0 n0)) (fun t k => castTop (ef_ui3 m thisui3) k) ?_
  show Wq _ _ _ _ _ (s₁.setTop (mkF m 0 #[.val (.ref thisui3)] []))
  refine Ow.aloadN X0 hx (pc' := 1) (hb hby d_prog_23_method_5_0) rfl rfl ?_
  obtain ⟨T78, X78, e78, st78⟩ := getF X0 hx hZ hown (host := "") (Or.inl (kw49 hw)) Via.refl e0 F_thisui3_userAbortInformation (g := (mkF m 1 #[.val (.ref thisui3)] [(.ref thisui3)])) rfl rfl (hb hby d_prog_23_method_5_1)
  refine Wq.step st78 ?_
  show Wq _ _ _ _ _ (T78.setTop (mkF m 4 #[.val (.ref thisui3)] [(.ref bui3)]))
  refine Ow.ifnonnullYes X78 hx (pc' := 11) (hb hby d_prog_23_method_5_4) (by decide) (by decide) ?_
  refine Ow.aloadN X78 hx (pc' := 12) (hb hby d_prog_23_method_5_11) rfl rfl ?_
  obtain ⟨T79, X79, e79, st79⟩ := getF X78 hx hZ hown (host := "") (Or.inl (kw49 hw)) Via.refl e78 F_thisui3_userAbortInformation (g := (mkF m 12 #[.val (.ref thisui3)] [(.ref thisui3)])) rfl rfl (hb hby d_prog_23_method_5_12)
  refine Wq.step st79 ?_
  show Wq _ _ _ _ _ (T79.setTop (mkF m 15 #[.val (.ref thisui3)] [(.ref bui3)]))
  obtain ⟨T80, h80, X80, e80, E80, A80, Ex80, st80⟩ := clA X79 hx hZ hown (kw36 hw) (kw37 hw) (kw41 hw) (kw39 hw) (kw40 hw) (kw42 hw) e79 V_bui3 E_bui3 (hf) (g := (mkF m 15 #[.val (.ref thisui3)] [(.ref bui3)])) rfl (by rw [hml]; rfl) rfl (hb hby d_prog_23_method_5_15) (by decide) (W := 0) (cap := 3) (by show 2 * 0 + _ ≤ _; exact Nat.le_of_eq rfl) (by decide) (Nat.le_of_ble_eq_true rfl) (by decide) (by decide)
  obtain ⟨b80, gz80⟩ : ∃ z, z = h0.size := ⟨_, rfl⟩
  rw [← gz80] at A80 Ex80 st80
  have g_b80 : n0 ≤ b80 := Nat.le_trans Z0 (Nat.le_of_eq gz80.symm)
  have sz_b80 : h0.size ≤ b80 := Nat.le_of_eq gz80.symm
  have ne_thisui3_b80 : thisui3 ≠ b80 := Nat.ne_of_lt (Nat.lt_of_lt_of_le F_thisui3_userAbortInformation.lt (Nat.le_of_eq gz80.symm))
  have ne_bui3_b80 : bui3 ≠ b80 := Nat.ne_of_lt (Nat.lt_of_lt_of_le V_bui3.lt (Nat.le_of_eq gz80.symm))
  have K80 : Keep h0 h80 [] := (Keep.refl h0 []).ext E80
  have Z80 : n0 ≤ h80.size := Nat.le_trans Z0 E80.1
  have F_thisui3_userAbortInformation_t80 := F_thisui3_userAbortInformation.ext E80
  have V_bui3_t80 := V_bui3.ext E80
  have E_bui3_t80 := E_bui3.ext E80
  refine Wq.step st80 ?_
  show Wq _ _ _ _ _ (T80.setTop (mkF m 18 #[.val (.ref thisui3)] [(.ref b80)]))
  obtain ⟨T81, X81, e81, st81⟩ := castY X80 hx hZ hown (kw43 hw) e80 (Ins.self Ex80) (g := (mkF m 18 #[.val (.ref thisui3)] [(.ref b80)])) rfl rfl (hb hby d_prog_23_method_5_18)
  refine Wq.step st81 ?_
  show Wq _ _ _ _ _ (T81.setTop (mkF m 21 #[.val (.ref thisui3)] [(.ref b80)]))
  exact Wq.ret X81 (BodyLoose.notSynchronized Bd) (rv := some (.ref b80)) (fun h => by rw [Bd.returns] at h; cases h) (fun _ hr => retOut X81 hx Bd.returns rfl (Or.inr (Or.inr (Or.inr (Or.inr ⟨rfl, rfl, rfl⟩)))) (hb hby d_prog_23_method_5_21) hr) (by decide) (by decide) (by rw [e81]; exact ⟨b80, rfl, N0, K80, sz_b80, A80, Ex80⟩)
theorem d_method_3_35 : decode method_3_code 35 = .ok (.aload_n 0, 1) := by decide +kernel
theorem d_method_3_36 : decode method_3_code 36 = .ok (.iconst 2, 1) := by decide +kernel
theorem d_method_3_37 : decode method_3_code 37 = .ok (.baload, 1) := by decide +kernel
theorem d_method_3_38 : decode method_3_code 38 = .ok (.iload 4, 2) := by decide +kernel
theorem d_method_3_40 : decode method_3_code 40 = .ok (.if_icmp .ne 7, 3) := by decide +kernel
theorem ef_sm3 (m : MethodId) (asm3_1 : Addr) (xsm3_3 : Int32) (xsm3_4 : Int32) (xsm3_5 : Int32) : entryFrame m #[(.ref asm3_1), (.int (3 : Int32)), (.int xsm3_3), (.int xsm3_4), (.int xsm3_5)] 5 = mkF m 0 #[.val (.ref asm3_1), .val (.int (3 : Int32)), .val (.int xsm3_3), .val (.int xsm3_4), .val (.int xsm3_5)] [] := by first | (simp [entryFrame, mkF, argsToLocals, Value.category]; done) | rfl
def f_sm3 (xsm3_3 : Int32) (xsm3_4 : Int32) (xsm3_5 : Int32) (w0sm3 : Int32) (w1sm3 : Int32) (w2sm3 : Int32) : Int32 := (if w0sm3 = xsm3_3 then (if w1sm3 = xsm3_4 then (if w2sm3 = xsm3_5 then (1 : Int32) else (0 : Int32)) else (0 : Int32)) else (0 : Int32))
def Q_sm3 (Z : State) (asm3_1 : Addr) (xsm3_3 : Int32) (xsm3_4 : Int32) (xsm3_5 : Int32) (w0sm3 : Int32) (w1sm3 : Int32) (w2sm3 : Int32) (h0 : Heap) (n0 : Nat) (v : Option Value) (h : Heap) (L : List Loc) : Prop := v = some (.int (f_sm3 xsm3_3 xsm3_4 xsm3_5 w0sm3 w1sm3 w2sm3)) ∧ Fr n0 L ∧ h = h0
set_option maxRecDepth 65536 in
set_option maxHeartbeats 40000000 in
theorem rm_sm3 (l : Launch) (Z : State) (a0 : Array Value) (hw : ∀ d ∈ tables_1, d.before a0 Z = true) (ws : List Jvm.Cond) (asm3_1 : Addr) (xsm3_3 : Int32) (xsm3_4 : Int32) (xsm3_5 : Int32) (w0sm3 : Int32) (w1sm3 : Int32) (w2sm3 : Int32) (h0 : Heap) (n0 : Nat) (Z0 : n0 ≤ h0.size) (V_asm3_1 : Al Z h0 asm3_1 .byte [(.int w0sm3), (.int w1sm3), (.int w2sm3)]) :
    MetFree l mt6 (head1 (Jvm.Cond.code mt6 method_3_code 5 (some .boolean) :: ws) ({ frames := 0, cells := 0, slots := 0, locals := 0 } : Room)) (fun a U => a = #[(.ref asm3_1), (.int (3 : Int32)), (.int xsm3_3), (.int xsm3_4), (.int xsm3_5)] ∧ Z.Warmed39 U.vm ∧ U.heap = h0) (fun _ _ _ _ _ => True) (fun _ U o U' => ∃ v L, o = .returned v ∧ (Q_sm3 Z asm3_1 xsm3_3 xsm3_4 xsm3_5 w0sm3 w1sm3 w2sm3 h0 n0) v U'.heap L ∧ FrameEnd U o U' L ({ frames := 0, cells := 0, slots := 0, locals := 0 } : Room).cells ({ frames := 0, cells := 0, slots := 0, locals := 0 } : Room).slots) := by
  refine MetFree.of_bodySF (plainFor_of_name pn4) hisR ?_
  intro p e s m args below meth c s₁ Bd hml0 hP hK
  obtain ⟨rfl, hZ, hh⟩ := hP
  have hx := Bd.exec
  have hby := Bd.bytes
  have hml : c.maxLocals = 5 := hml0
  have hown : s.vm.findClass "com/example/opwire/opwire/codec/tcap/AbortUserAbortInformationPinLaw" = some m.cls := findClass_of_methodNamed Bd.named
  have hnm := (name_of_methodNamed Bd.named Bd.method).1
  have X0 : Stand p l e ({ frames := 0, cells := 0, slots := 0, locals := 0 } : Room) s m #[(.ref asm3_1), (.int (3 : Int32)), (.int xsm3_3), (.int xsm3_4), (.int xsm3_5)] below meth c s₁ [] 0 0 := Stand.of_body Bd
  have e0 : s₁.heap = h0 := by rw [← hh, Bd.state]; rfl
  have N0 := Fr.nil n0
  refine Wq.step (p := p) (e := e) (below := below) (En := (fun o t L => FrameEnd s o t L ({ frames := 0, cells := 0, slots := 0, locals := 0 } : Room).cells ({ frames := 0, cells := 0, slots := 0, locals := 0 } : Room).slots)) (Q := (Q_sm3 Z asm3_1 xsm3_3 xsm3_4 xsm3_5 w0sm3 w1sm3 w2sm3 h0 n0)) (fun t k => castTop (ef_sm3 m asm3_1 xsm3_3 xsm3_4 xsm3_5) k) ?_
  show Wq _ _ _ _ _ (s₁.setTop (mkF m 0 #[.val (.ref asm3_1), .val (.int (3 : Int32)), .val (.int xsm3_3), .val (.int xsm3_4), .val (.int xsm3_5)] []))
  refine Ow.aloadN X0 hx (pc' := 1) (hb hby d_method_3_0) rfl rfl ?_
  refine Ow.lenA X0 hx hZ e0 V_asm3_1 (pc' := 2) (hb hby d_method_3_1) (n := (3 : Int32)) (rfl) ?_
  refine Ow.iloadN X0 hx (pc' := 3) (hb hby d_method_3_2) rfl ?_
  refine Ow.icmpNo X0 hx (pc' := 6) (hb hby d_method_3_3) (teq (by decide : (3 : Int32) = (3 : Int32))).2 ?_
  refine Ow.iloadN X0 hx (pc' := 7) (hb hby d_method_3_6) rfl ?_
  refine Ow.iconst X0 hx (pc' := 8) (hb hby d_method_3_7) (z := (1 : Int32)) rfl ?_
  refine Ow.icmpNo X0 hx (pc' := 11) (hb hby d_method_3_8) (flt (by decide : ¬ ((3 : Int32) < (1 : Int32)))).1 ?_
  refine Ow.aloadN X0 hx (pc' := 12) (hb hby d_method_3_11) rfl rfl ?_
  refine Ow.iconst X0 hx (pc' := 13) (hb hby d_method_3_12) (z := (0 : Int32)) rfl ?_
  refine Ow.ldB X0 hx hZ e0 V_asm3_1 (pc' := 14) (hb hby d_method_3_13) (j := (0 : Int32)) (i := 0) (v := (.int w0sm3)) (by decide) rfl rfl ?_
  refine Ow.iloadN X0 hx (pc' := 15) (hb hby d_method_3_14) rfl ?_
  by_cases hc15 : w0sm3 = xsm3_3
  · skip
    refine Ow.icmpNo X0 hx (pc' := 18) (hb hby d_method_3_15) (teq hc15).2 ?_
    refine Ow.iloadN X0 hx (pc' := 19) (hb hby d_method_3_18) rfl ?_
    refine Ow.iconst X0 hx (pc' := 20) (hb hby d_method_3_19) (z := (2 : Int32)) rfl ?_
    refine Ow.icmpNo X0 hx (pc' := 23) (hb hby d_method_3_20) (flt (by decide : ¬ ((3 : Int32) < (2 : Int32)))).1 ?_
    refine Ow.aloadN X0 hx (pc' := 24) (hb hby d_method_3_23) rfl rfl ?_
    refine Ow.iconst X0 hx (pc' := 25) (hb hby d_method_3_24) (z := (1 : Int32)) rfl ?_
    refine Ow.ldB X0 hx hZ e0 V_asm3_1 (pc' := 26) (hb hby d_method_3_25) (j := (1 : Int32)) (i := 1) (v := (.int w1sm3)) (by decide) rfl rfl ?_
    refine Ow.iloadN X0 hx (pc' := 27) (hb hby d_method_3_26) rfl ?_
    by_cases hc27 : w1sm3 = xsm3_4
    · skip
      refine Ow.icmpNo X0 hx (pc' := 30) (hb hby d_method_3_27) (teq hc27).2 ?_
      refine Ow.iloadN X0 hx (pc' := 31) (hb hby d_method_3_30) rfl ?_
      refine Ow.iconst X0 hx (pc' := 32) (hb hby d_method_3_31) (z := (3 : Int32)) rfl ?_
      refine Ow.icmpNo X0 hx (pc' := 35) (hb hby d_method_3_32) (flt (by decide : ¬ ((3 : Int32) < (3 : Int32)))).1 ?_
      refine Ow.aloadN X0 hx (pc' := 36) (hb hby d_method_3_35) rfl rfl ?_
      refine Ow.iconst X0 hx (pc' := 37) (hb hby d_method_3_36) (z := (2 : Int32)) rfl ?_
      refine Ow.ldB X0 hx hZ e0 V_asm3_1 (pc' := 38) (hb hby d_method_3_37) (j := (2 : Int32)) (i := 2) (v := (.int w2sm3)) (by decide) rfl rfl ?_
      refine Ow.iload X0 hx (pc' := 40) (hb hby d_method_3_38) rfl ?_
      by_cases hc40 : w2sm3 = xsm3_5
      · skip
        refine Ow.icmpNo X0 hx (pc' := 43) (hb hby d_method_3_40) (teq hc40).2 ?_
        refine Ow.iconst X0 hx (pc' := 44) (hb hby d_method_3_43) (z := (1 : Int32)) rfl ?_
        refine Ow.goto X0 hx (pc' := 48) (hb hby d_method_3_44) (by decide) (by decide) ?_
        exact Wq.ret X0 (BodyLoose.notSynchronized Bd) (rv := some (.int (1 : Int32))) (fun h => by rw [Bd.returns] at h; cases h) (fun _ hr => retN X0 hx (t := .boolean) Bd.returns (by simp) (hb hby d_method_3_48) hr) (by decide) (by decide) ⟨by simp only [f_sm3, if_pos hc15, if_pos hc27, if_pos hc40], N0, e0⟩
      · skip
        refine Ow.icmpYes X0 hx (pc' := 47) (hb hby d_method_3_40) (feq hc40).2 (by decide) (by decide) ?_
        refine Ow.iconst X0 hx (pc' := 48) (hb hby d_method_3_47) (z := (0 : Int32)) rfl ?_
        exact Wq.ret X0 (BodyLoose.notSynchronized Bd) (rv := some (.int (0 : Int32))) (fun h => by rw [Bd.returns] at h; cases h) (fun _ hr => retN X0 hx (t := .boolean) Bd.returns (by simp) (hb hby d_method_3_48) hr) (by decide) (by decide) ⟨by simp only [f_sm3, if_pos hc15, if_pos hc27, if_neg hc40], N0, e0⟩
    · skip
      refine Ow.icmpYes X0 hx (pc' := 47) (hb hby d_method_3_27) (feq hc27).2 (by decide) (by decide) ?_
      refine Ow.iconst X0 hx (pc' := 48) (hb hby d_method_3_47) (z := (0 : Int32)) rfl ?_
      exact Wq.ret X0 (BodyLoose.notSynchronized Bd) (rv := some (.int (0 : Int32))) (fun h => by rw [Bd.returns] at h; cases h) (fun _ hr => retN X0 hx (t := .boolean) Bd.returns (by simp) (hb hby d_method_3_48) hr) (by decide) (by decide) ⟨by simp only [f_sm3, if_pos hc15, if_neg hc27], N0, e0⟩
  · skip
    refine Ow.icmpYes X0 hx (pc' := 47) (hb hby d_method_3_15) (feq hc15).2 (by decide) (by decide) ?_
    refine Ow.iconst X0 hx (pc' := 48) (hb hby d_method_3_47) (z := (0 : Int32)) rfl ?_
    exact Wq.ret X0 (BodyLoose.notSynchronized Bd) (rv := some (.int (0 : Int32))) (fun h => by rw [Bd.returns] at h; cases h) (fun _ hr => retN X0 hx (t := .boolean) Bd.returns (by simp) (hb hby d_method_3_48) hr) (by decide) (by decide) ⟨by simp only [f_sm3, if_neg hc15], N0, e0⟩
theorem d_method_4_35 : decode method_4_code 35 = .ok (.aload_n 0, 1) := by decide +kernel
theorem d_method_4_36 : decode method_4_code 36 = .ok (.iconst 2, 1) := by decide +kernel
theorem d_method_4_37 : decode method_4_code 37 = .ok (.aload_n 0, 1) := by decide +kernel
theorem d_method_4_38 : decode method_4_code 38 = .ok (.iconst 2, 1) := by decide +kernel
theorem d_method_4_39 : decode method_4_code 39 = .ok (.baload, 1) := by decide +kernel
theorem d_method_4_40 : decode method_4_code 40 = .ok (.iconst (-1), 1) := by decide +kernel
theorem d_method_4_41 : decode method_4_code 41 = .ok (.ixor, 1) := by decide +kernel
theorem d_method_4_42 : decode method_4_code 42 = .ok (.i2b, 1) := by decide +kernel
theorem d_method_4_43 : decode method_4_code 43 = .ok (.bastore, 1) := by decide +kernel
theorem ef_fl3 (m : MethodId) (afl3_1 : Addr) : entryFrame m #[(.ref afl3_1)] 1 = mkF m 0 #[.val (.ref afl3_1)] [] := by first | (simp [entryFrame, mkF, argsToLocals, Value.category]; done) | rfl
def Q_fl3 (Z : State) (afl3_1 : Addr) (w0fl3 : Int32) (w1fl3 : Int32) (w2fl3 : Int32) (h0 : Heap) (n0 : Nat) (v : Option Value) (h : Heap) (L : List Loc) : Prop := v = none ∧ Fr n0 L ∧ Keep h0 h [afl3_1] ∧ Al Z h afl3_1 .byte [(.int (((w0fl3 ^^^ (-1 : Int32)).toInt8.toInt32).toInt8.toInt32)), (.int (((w1fl3 ^^^ (-1 : Int32)).toInt8.toInt32).toInt8.toInt32)), (.int (((w2fl3 ^^^ (-1 : Int32)).toInt8.toInt32).toInt8.toInt32))]
set_option maxRecDepth 65536 in
set_option maxHeartbeats 40000000 in
theorem rm_fl3 (l : Launch) (Z : State) (a0 : Array Value) (hw : ∀ d ∈ tables_1, d.before a0 Z = true) (ws : List Jvm.Cond) (afl3_1 : Addr) (w0fl3 : Int32) (w1fl3 : Int32) (w2fl3 : Int32) (h0 : Heap) (n0 : Nat) (Z0 : n0 ≤ h0.size) (V_afl3_1 : Al Z h0 afl3_1 .byte [(.int w0fl3), (.int w1fl3), (.int w2fl3)]) (g_afl3_1 : n0 ≤ afl3_1) :
    MetFree l mt7 (head1 (Jvm.Cond.code mt7 method_4_code 1 none :: ws) ({ frames := 0, cells := 0, slots := 0, locals := 0 } : Room)) (fun a U => a = #[(.ref afl3_1)] ∧ Z.Warmed39 U.vm ∧ U.heap = h0) (fun _ _ _ _ _ => True) (fun _ U o U' => ∃ v L, o = .returned v ∧ (Q_fl3 Z afl3_1 w0fl3 w1fl3 w2fl3 h0 n0) v U'.heap L ∧ FrameEnd U o U' L ({ frames := 0, cells := 0, slots := 0, locals := 0 } : Room).cells ({ frames := 0, cells := 0, slots := 0, locals := 0 } : Room).slots) := by
  refine MetFree.of_bodySF (plainFor_of_name pn4) hisR ?_
  intro p e s m args below meth c s₁ Bd hml0 hP hK
  obtain ⟨rfl, hZ, hh⟩ := hP
  have hx := Bd.exec
  have hby := Bd.bytes
  have hml : c.maxLocals = 1 := hml0
  have hown : s.vm.findClass "com/example/opwire/opwire/codec/tcap/AbortUserAbortInformationPinLaw" = some m.cls := findClass_of_methodNamed Bd.named
  have hnm := (name_of_methodNamed Bd.named Bd.method).1
  have X0 : Stand p l e ({ frames := 0, cells := 0, slots := 0, locals := 0 } : Room) s m #[(.ref afl3_1)] below meth c s₁ [] 0 0 := Stand.of_body Bd
  have e0 : s₁.heap = h0 := by rw [← hh, Bd.state]; rfl
  have N0 := Fr.nil n0
  refine Wq.step (p := p) (e := e) (below := below) (En := (fun o t L => FrameEnd s o t L ({ frames := 0, cells := 0, slots := 0, locals := 0 } : Room).cells ({ frames := 0, cells := 0, slots := 0, locals := 0 } : Room).slots)) (Q := (Q_fl3 Z afl3_1 w0fl3 w1fl3 w2fl3 h0 n0)) (fun t k => castTop (ef_fl3 m afl3_1) k) ?_
  show Wq _ _ _ _ _ (s₁.setTop (mkF m 0 #[.val (.ref afl3_1)] []))
  refine Ow.aloadN X0 hx (pc' := 1) (hb hby d_method_4_0) rfl rfl ?_
  refine Ow.lenA X0 hx hZ e0 V_afl3_1 (pc' := 2) (hb hby d_method_4_1) (n := (3 : Int32)) (rfl) ?_
  refine Ow.ifNo X0 hx (pc' := 5) (hb hby d_method_4_2) ((if0 _ _).trans (tlt (by decide : (0 : Int32) < (3 : Int32))).2.2.2) ?_
  refine Ow.aloadN X0 hx (pc' := 6) (hb hby d_method_4_5) rfl rfl ?_
  refine Ow.iconst X0 hx (pc' := 7) (hb hby d_method_4_6) (z := (0 : Int32)) rfl ?_
  refine Ow.aloadN X0 hx (pc' := 8) (hb hby d_method_4_7) rfl rfl ?_
  refine Ow.iconst X0 hx (pc' := 9) (hb hby d_method_4_8) (z := (0 : Int32)) rfl ?_
  refine Ow.ldB X0 hx hZ e0 V_afl3_1 (pc' := 10) (hb hby d_method_4_9) (j := (0 : Int32)) (i := 0) (v := (.int w0fl3)) (by decide) rfl rfl ?_
  refine Ow.iconst X0 hx (pc' := 11) (hb hby d_method_4_10) (z := (-1 : Int32)) rfl ?_
  refine Ow.ixor X0 hx (pc' := 12) (hb hby d_method_4_11) (z := (w0fl3 ^^^ (-1 : Int32))) rfl ?_
  refine Ow.i2b X0 hx (pc' := 13) (hb hby d_method_4_12) (z := ((w0fl3 ^^^ (-1 : Int32)).toInt8.toInt32)) rfl ?_
  obtain ⟨T82, h82, X82, e82, W82, Vr82, st82⟩ := asB X0 hx hZ e0 V_afl3_1 (j := (0 : Int32)) (i := 0) (by decide) rfl (Nat.le_of_ble_eq_true rfl) (y := (((w0fl3 ^^^ (-1 : Int32)).toInt8.toInt32).toInt8.toInt32)) rfl (g := (mkF m 13 #[.val (.ref afl3_1)] [(.int ((w0fl3 ^^^ (-1 : Int32)).toInt8.toInt32)), (.int (0 : Int32)), (.ref afl3_1)])) rfl rfl (hb hby d_method_4_13)
  refine Wq.step st82 ?_
  have N82 := Fr.snoc X82 N0 g_afl3_1
  have K82 : Keep h0 h82 [afl3_1] := (Keep.refl h0 [afl3_1]).wr W82 (Or.inl (List.mem_of_getElem? (i := 0) rfl))
  have Z82 : n0 ≤ h82.size := Nat.le_trans Z0 (Keep.of_wr W82).1
  have V_afl3_1_t82 : Al Z h82 afl3_1 .byte [(.int (((w0fl3 ^^^ (-1 : Int32)).toInt8.toInt32).toInt8.toInt32)), (.int w1fl3), (.int w2fl3)] := Vr82
  show Wq _ _ _ _ _ (T82.setTop (mkF m 14 #[.val (.ref afl3_1)] []))
  refine Ow.aloadN X82 hx (pc' := 15) (hb hby d_method_4_14) rfl rfl ?_
  refine Ow.lenA X82 hx hZ e82 V_afl3_1_t82 (pc' := 16) (hb hby d_method_4_15) (n := (3 : Int32)) (rfl) ?_
  refine Ow.iconst X82 hx (pc' := 17) (hb hby d_method_4_16) (z := (1 : Int32)) rfl ?_
  refine Ow.icmpNo X82 hx (pc' := 20) (hb hby d_method_4_17) (tlt (by decide : (1 : Int32) < (3 : Int32))).2.2.2 ?_
  refine Ow.aloadN X82 hx (pc' := 21) (hb hby d_method_4_20) rfl rfl ?_
  refine Ow.iconst X82 hx (pc' := 22) (hb hby d_method_4_21) (z := (1 : Int32)) rfl ?_
  refine Ow.aloadN X82 hx (pc' := 23) (hb hby d_method_4_22) rfl rfl ?_
  refine Ow.iconst X82 hx (pc' := 24) (hb hby d_method_4_23) (z := (1 : Int32)) rfl ?_
  refine Ow.ldB X82 hx hZ e82 V_afl3_1_t82 (pc' := 25) (hb hby d_method_4_24) (j := (1 : Int32)) (i := 1) (v := (.int w1fl3)) (by decide) rfl rfl ?_
  refine Ow.iconst X82 hx (pc' := 26) (hb hby d_method_4_25) (z := (-1 : Int32)) rfl ?_
  refine Ow.ixor X82 hx (pc' := 27) (hb hby d_method_4_26) (z := (w1fl3 ^^^ (-1 : Int32))) rfl ?_
  refine Ow.i2b X82 hx (pc' := 28) (hb hby d_method_4_27) (z := ((w1fl3 ^^^ (-1 : Int32)).toInt8.toInt32)) rfl ?_
  obtain ⟨T83, h83, X83, e83, W83, Vr83, st83⟩ := asB X82 hx hZ e82 V_afl3_1_t82 (j := (1 : Int32)) (i := 1) (by decide) rfl (Nat.le_of_ble_eq_true rfl) (y := (((w1fl3 ^^^ (-1 : Int32)).toInt8.toInt32).toInt8.toInt32)) rfl (g := (mkF m 28 #[.val (.ref afl3_1)] [(.int ((w1fl3 ^^^ (-1 : Int32)).toInt8.toInt32)), (.int (1 : Int32)), (.ref afl3_1)])) rfl rfl (hb hby d_method_4_28)
  refine Wq.step st83 ?_
  have N83 := Fr.snoc X83 N82 g_afl3_1
  have K83 : Keep h0 h83 [afl3_1] := K82.wr W83 (Or.inl (List.mem_of_getElem? (i := 0) rfl))
  have Z83 : n0 ≤ h83.size := Nat.le_trans Z82 (Keep.of_wr W83).1
  have V_afl3_1_t83 : Al Z h83 afl3_1 .byte [(.int (((w0fl3 ^^^ (-1 : Int32)).toInt8.toInt32).toInt8.toInt32)), (.int (((w1fl3 ^^^ (-1 : Int32)).toInt8.toInt32).toInt8.toInt32)), (.int w2fl3)] := Vr83
  show Wq _ _ _ _ _ (T83.setTop (mkF m 29 #[.val (.ref afl3_1)] []))
  refine Ow.aloadN X83 hx (pc' := 30) (hb hby d_method_4_29) rfl rfl ?_
  refine Ow.lenA X83 hx hZ e83 V_afl3_1_t83 (pc' := 31) (hb hby d_method_4_30) (n := (3 : Int32)) (rfl) ?_
  refine Ow.iconst X83 hx (pc' := 32) (hb hby d_method_4_31) (z := (2 : Int32)) rfl ?_
  refine Ow.icmpNo X83 hx (pc' := 35) (hb hby d_method_4_32) (tlt (by decide : (2 : Int32) < (3 : Int32))).2.2.2 ?_
  refine Ow.aloadN X83 hx (pc' := 36) (hb hby d_method_4_35) rfl rfl ?_
  refine Ow.iconst X83 hx (pc' := 37) (hb hby d_method_4_36) (z := (2 : Int32)) rfl ?_
  refine Ow.aloadN X83 hx (pc' := 38) (hb hby d_method_4_37) rfl rfl ?_
  refine Ow.iconst X83 hx (pc' := 39) (hb hby d_method_4_38) (z := (2 : Int32)) rfl ?_
  refine Ow.ldB X83 hx hZ e83 V_afl3_1_t83 (pc' := 40) (hb hby d_method_4_39) (j := (2 : Int32)) (i := 2) (v := (.int w2fl3)) (by decide) rfl rfl ?_
  refine Ow.iconst X83 hx (pc' := 41) (hb hby d_method_4_40) (z := (-1 : Int32)) rfl ?_
  refine Ow.ixor X83 hx (pc' := 42) (hb hby d_method_4_41) (z := (w2fl3 ^^^ (-1 : Int32))) rfl ?_
  refine Ow.i2b X83 hx (pc' := 43) (hb hby d_method_4_42) (z := ((w2fl3 ^^^ (-1 : Int32)).toInt8.toInt32)) rfl ?_
  obtain ⟨T84, h84, X84, e84, W84, Vr84, st84⟩ := asB X83 hx hZ e83 V_afl3_1_t83 (j := (2 : Int32)) (i := 2) (by decide) rfl (Nat.le_of_ble_eq_true rfl) (y := (((w2fl3 ^^^ (-1 : Int32)).toInt8.toInt32).toInt8.toInt32)) rfl (g := (mkF m 43 #[.val (.ref afl3_1)] [(.int ((w2fl3 ^^^ (-1 : Int32)).toInt8.toInt32)), (.int (2 : Int32)), (.ref afl3_1)])) rfl rfl (hb hby d_method_4_43)
  refine Wq.step st84 ?_
  have N84 := Fr.snoc X84 N83 g_afl3_1
  have K84 : Keep h0 h84 [afl3_1] := K83.wr W84 (Or.inl (List.mem_of_getElem? (i := 0) rfl))
  have Z84 : n0 ≤ h84.size := Nat.le_trans Z83 (Keep.of_wr W84).1
  have V_afl3_1_t84 : Al Z h84 afl3_1 .byte [(.int (((w0fl3 ^^^ (-1 : Int32)).toInt8.toInt32).toInt8.toInt32)), (.int (((w1fl3 ^^^ (-1 : Int32)).toInt8.toInt32).toInt8.toInt32)), (.int (((w2fl3 ^^^ (-1 : Int32)).toInt8.toInt32).toInt8.toInt32))] := Vr84
  show Wq _ _ _ _ _ (T84.setTop (mkF m 44 #[.val (.ref afl3_1)] []))
  exact Wq.ret X84 (BodyLoose.notSynchronized Bd) (rv := none) (fun _ => rfl) (fun _ hr => X84.returnOut hx Bd.returns (hb hby d_method_4_44) hr) (by decide) (by decide) (by rw [e84]; exact ⟨rfl, N84, K84, V_afl3_1_t84⟩)
theorem kw79 {Z : State} {a0 : Array Value} (hw : ∀ d ∈ tables_1, d.before a0 Z = true) : (Jvm.Cond.methodLink "java/lang/Number" (1 : Nat) ({ cls := "java/lang/Object", name := "<init>", desc := "()V" } : Jvm.MethodName)).before a0 Z = true := hw _ (List.mem_of_getElem? (i := 79) rfl)
theorem d_jdk_18_method_1_0 : decode jdk_18_method_1_code 0 = .ok (.aload_n 0, 1) := by decide +kernel
theorem d_jdk_18_method_1_1 : decode jdk_18_method_1_code 1 = .ok (.invokespecial 1, 3) := by decide +kernel
theorem pn5 : plainName "java/lang/Number" = true := by first | (simp [plainName, overriddenIn]; done) | decide +kernel
theorem ef_num (m : MethodId) (thisnum : Addr) : entryFrame m #[(.ref thisnum)] 1 = mkF m 0 #[.val (.ref thisnum)] [] := by first | (simp [entryFrame, mkF, argsToLocals, Value.category]; done) | rfl
def Q_num (Z : State) (thisnum : Addr) (h0 : Heap) (n0 : Nat) (v : Option Value) (h : Heap) (L : List Loc) : Prop := v = none ∧ Fr n0 L ∧ h = h0
theorem d_jdk_18_method_1_4 : decode jdk_18_method_1_code 4 = .ok (.return_, 1) := by decide +kernel
abbrev mt8 : MethodName := ⟨"java/lang/Number", "<init>", "()V"⟩
set_option maxRecDepth 65536 in
set_option maxHeartbeats 40000000 in
theorem rm_num (l : Launch) (Z : State) (a0 : Array Value) (hw : ∀ d ∈ tables_1, d.before a0 Z = true) (ws : List Jvm.Cond) (thisnum : Addr) (h0 : Heap) (n0 : Nat) (Z0 : n0 ≤ h0.size)  :
    MetFree l mt8 (head1 (Jvm.Cond.code mt8 jdk_18_method_1_code 1 none :: ws) ({ frames := 1, cells := 0, slots := 0, locals := 12 } : Room)) (fun a U => a = #[(.ref thisnum)] ∧ Z.Warmed39 U.vm ∧ U.heap = h0) (fun _ _ _ _ _ => True) (fun _ U o U' => ∃ v L, o = .returned v ∧ (Q_num Z thisnum h0 n0) v U'.heap L ∧ FrameEnd U o U' L ({ frames := 1, cells := 0, slots := 0, locals := 12 } : Room).cells ({ frames := 1, cells := 0, slots := 0, locals := 12 } : Room).slots) := by
  refine MetFree.of_bodySF (plainFor_of_name pn5) hisR ?_
  intro p e s m args below meth c s₁ Bd hml0 hP hK
  obtain ⟨rfl, hZ, hh⟩ := hP
  have hx := Bd.exec
  have hby := Bd.bytes
  have hml : c.maxLocals = 1 := hml0
  have hown : s.vm.findClass "java/lang/Number" = some m.cls := findClass_of_methodNamed Bd.named
  have hnm := (name_of_methodNamed Bd.named Bd.method).1
  have X0 : Stand p l e ({ frames := 1, cells := 0, slots := 0, locals := 12 } : Room) s m #[(.ref thisnum)] below meth c s₁ [] 0 0 := Stand.of_body Bd
  have e0 : s₁.heap = h0 := by rw [← hh, Bd.state]; rfl
  have N0 := Fr.nil n0
  refine Wq.step (p := p) (e := e) (below := below) (En := (fun o t L => FrameEnd s o t L ({ frames := 1, cells := 0, slots := 0, locals := 12 } : Room).cells ({ frames := 1, cells := 0, slots := 0, locals := 12 } : Room).slots)) (Q := (Q_num Z thisnum h0 n0)) (fun t k => castTop (ef_num m thisnum) k) ?_
  show Wq _ _ _ _ _ (s₁.setTop (mkF m 0 #[.val (.ref thisnum)] []))
  refine Ow.aloadN X0 hx (pc' := 1) (hb hby d_jdk_18_method_1_0) rfl rfl ?_
  obtain ⟨T85, X85, e85, st85⟩ := initO X0 hx hZ hown (kw79 hw) (kw19 hw) (kw20 hw) e0 (g := (mkF m 1 #[.val (.ref thisnum)] [(.ref thisnum)])) rfl (by rw [hml]; rfl) rfl (hb hby d_jdk_18_method_1_1) (by decide) (W := 0) (by show 2 * 0 + _ ≤ _; exact Nat.le_of_eq rfl) (by decide)
  refine Wq.step st85 ?_
  show Wq _ _ _ _ _ (T85.setTop (mkF m 4 #[.val (.ref thisnum)] []))
  exact Wq.ret X85 (BodyLoose.notSynchronized Bd) (rv := none) (fun _ => rfl) (fun _ hr => X85.returnOut hx Bd.returns (hb hby d_jdk_18_method_1_4) hr) (by decide) (by decide) ⟨rfl, N0, e85⟩
theorem kw78 {Z : State} {a0 : Array Value} (hw : ∀ d ∈ tables_1, d.before a0 Z = true) : (Jvm.Cond.code ({ cls := "java/lang/Number", name := "<init>", desc := "()V" } : Jvm.MethodName) jdk_18_method_1_code (1 : Nat) (Option.none : Option Jvm.ClassFile.FieldType)).before a0 Z = true := hw _ (List.mem_of_getElem? (i := 78) rfl)
theorem kw77 {Z : State} {a0 : Array Value} (hw : ∀ d ∈ tables_1, d.before a0 Z = true) : (Jvm.Cond.initialized "java/lang/Number").before a0 Z = true := hw _ (List.mem_of_getElem? (i := 77) rfl)
theorem pd4 : parseMethodDescriptor "()V" = some ⟨[], none⟩ := by decide +kernel
theorem kw73 {Z : State} {a0 : Array Value} (hw : ∀ d ∈ tables_1, d.before a0 Z = true) : (Jvm.Cond.methodLink "java/lang/Integer" (202 : Nat) ({ cls := "java/lang/Number", name := "<init>", desc := "()V" } : Jvm.MethodName)).before a0 Z = true := hw _ (List.mem_of_getElem? (i := 73) rfl)
theorem kw74 {Z : State} {a0 : Array Value} (hw : ∀ d ∈ tables_1, d.before a0 Z = true) : (Jvm.Cond.instanceMethod ({ cls := "java/lang/Number", name := "<init>", desc := "()V" } : Jvm.MethodName)).before a0 Z = true := hw _ (List.mem_of_getElem? (i := 74) rfl)
theorem kw81 {Z : State} {a0 : Array Value} (hw : ∀ d ∈ tables_1, d.before a0 Z = true) : (Jvm.Cond.laysFinal "java/lang/Integer" "java/lang/Integer" "value" "I").before a0 Z = true := hw _ (List.mem_of_getElem? (i := 81) rfl)
theorem kw80 {Z : State} {a0 : Array Value} (hw : ∀ d ∈ tables_1, d.before a0 Z = true) : (Jvm.Cond.fieldLink "java/lang/Integer" (205 : Nat) "java/lang/Integer" "value" "I").before a0 Z = true := hw _ (List.mem_of_getElem? (i := 80) rfl)
theorem kw68 {Z : State} {a0 : Array Value} (hw : ∀ d ∈ tables_1, d.before a0 Z = true) : (Jvm.Cond.instantiable "java/lang/Integer" (1 : Nat)).before a0 Z = true := hw _ (List.mem_of_getElem? (i := 68) rfl)
theorem d_jdk_33_method_23_0 : decode jdk_33_method_23_code 0 = .ok (.aload_n 0, 1) := by decide +kernel
theorem d_jdk_33_method_23_1 : decode jdk_33_method_23_code 1 = .ok (.invokespecial 202, 3) := by decide +kernel
theorem d_jdk_33_method_23_4 : decode jdk_33_method_23_code 4 = .ok (.aload_n 0, 1) := by decide +kernel
theorem d_jdk_33_method_23_5 : decode jdk_33_method_23_code 5 = .ok (.iload_n 1, 1) := by decide +kernel
theorem d_jdk_33_method_23_6 : decode jdk_33_method_23_code 6 = .ok (.putfield 205, 3) := by decide +kernel
theorem pn6 : plainName "java/lang/Integer" = true := by first | (simp [plainName, overriddenIn]; done) | decide +kernel
theorem ef_ini (m : MethodId) (thisini : Addr) (xini_1 : Int32) : entryFrame m #[(.ref thisini), (.int xini_1)] 2 = mkF m 0 #[.val (.ref thisini), .val (.int xini_1)] [] := by first | (simp [entryFrame, mkF, argsToLocals, Value.category]; done) | rfl
def Q_ini (Z : State) (thisini : Addr) (xini_1 : Int32) (h0 : Heap) (n0 : Nat) (v : Option Value) (h : Heap) (L : List Loc) : Prop := v = none ∧ Fr n0 L ∧ Keep h0 h [thisini] ∧ Exa Z h thisini "java/lang/Integer" ∧ Fld Z h thisini "java/lang/Integer" "value" "I" (.int xini_1)
theorem d_jdk_33_method_23_9 : decode jdk_33_method_23_code 9 = .ok (.return_, 1) := by decide +kernel
abbrev mt9 : MethodName := ⟨"java/lang/Integer", "<init>", "(I)V"⟩
set_option maxRecDepth 65536 in
set_option maxHeartbeats 40000000 in
theorem rm_ini (l : Launch) (Z : State) (a0 : Array Value) (hw : ∀ d ∈ tables_1, d.before a0 Z = true) (ws : List Jvm.Cond) (thisini : Addr) (xini_1 : Int32) (h0 : Heap) (n0 : Nat) (Z0 : n0 ≤ h0.size) (E_thisini : Exa Z h0 thisini "java/lang/Integer") (F_thisini_value : Fld Z h0 thisini "java/lang/Integer" "value" "I" (.int (0 : Int32))) (g_thisini : n0 ≤ thisini) :
    MetFree l mt9 (head1 (Jvm.Cond.code mt9 jdk_33_method_23_code 2 none :: ws) ({ frames := 2, cells := 0, slots := 0, locals := 24 } : Room)) (fun a U => a = #[(.ref thisini), (.int xini_1)] ∧ Z.Warmed39 U.vm ∧ U.heap = h0) (fun _ _ _ _ _ => True) (fun _ U o U' => ∃ v L, o = .returned v ∧ (Q_ini Z thisini xini_1 h0 n0) v U'.heap L ∧ FrameEnd U o U' L ({ frames := 2, cells := 0, slots := 0, locals := 24 } : Room).cells ({ frames := 2, cells := 0, slots := 0, locals := 24 } : Room).slots) := by
  refine MetFree.of_bodySF (plainFor_of_name pn6) hisR ?_
  intro p e s m args below meth c s₁ Bd hml0 hP hK
  obtain ⟨rfl, hZ, hh⟩ := hP
  have hx := Bd.exec
  have hby := Bd.bytes
  have hml : c.maxLocals = 2 := hml0
  have hown : s.vm.findClass "java/lang/Integer" = some m.cls := findClass_of_methodNamed Bd.named
  have hnm := (name_of_methodNamed Bd.named Bd.method).1
  have X0 : Stand p l e ({ frames := 2, cells := 0, slots := 0, locals := 24 } : Room) s m #[(.ref thisini), (.int xini_1)] below meth c s₁ [] 0 0 := Stand.of_body Bd
  have e0 : s₁.heap = h0 := by rw [← hh, Bd.state]; rfl
  have N0 := Fr.nil n0
  refine Wq.step (p := p) (e := e) (below := below) (En := (fun o t L => FrameEnd s o t L ({ frames := 2, cells := 0, slots := 0, locals := 24 } : Room).cells ({ frames := 2, cells := 0, slots := 0, locals := 24 } : Room).slots)) (Q := (Q_ini Z thisini xini_1 h0 n0)) (fun t k => castTop (ef_ini m thisini xini_1) k) ?_
  show Wq _ _ _ _ _ (s₁.setTop (mkF m 0 #[.val (.ref thisini), .val (.int xini_1)] []))
  refine Ow.aloadN X0 hx (pc' := 1) (hb hby d_jdk_33_method_23_0) rfl rfl ?_
  obtain ⟨_, _, ⟨T86, L86, k86, n86⟩, -, X86, ⟨Lc86, hQ86, l86, y86, z86⟩, st86⟩ := X0.specialBack hx (y := mt8) rfl hown (mvT hZ (kw73 hw)) (mvT hZ (kw74 hw)) (mvT hZ (kw78 hw)) (by decide) (backOf (W := 0) (rm_num l Z a0 hw [] thisini h0 n0 Z0 ) hZ (kw78 hw) (kw77 hw) (by decide) (by decide)) (g := (mkF m 1 #[.val (.ref thisini), .val (.int xini_1)] [(.ref thisini)])) rfl (by rw [hml]; rfl) (Steps.refl _) (a := thisini) (argsL := []) (rest := []) (lenOf pd4 rfl) rfl (by show 2 * 0 + _ ≤ _; exact Nat.le_of_eq rfl) (hb hby d_jdk_33_method_23_1) (fun _ _ => ⟨rfl, e0, (by decide : 0 + 0 ≤ _), (by decide : 0 + 0 ≤ _)⟩)
  dsimp only [Pt.U, Pt.locs, Pt.cells, Pt.slots] at X86 l86 y86 z86 st86 hQ86
  subst l86 y86 z86
  obtain ⟨rfl, Nq86, e86⟩ := hQ86
  have N86 := Fr.app N0 Nq86
  refine Wq.steps st86 ?_
  show Wq _ _ _ _ _ (T86.setTop (mkF m 4 #[.val (.ref thisini), .val (.int xini_1)] []))
  refine Ow.aloadN X86 hx (pc' := 5) (hb hby d_jdk_33_method_23_4) rfl rfl ?_
  refine Ow.iloadN X86 hx (pc' := 6) (hb hby d_jdk_33_method_23_5) rfl ?_
  obtain ⟨T87, h87, X87, e87, W87, st87⟩ := putF X86 hx hZ hown (host := "") (Or.inl (kw80 hw)) Via.refl e86 F_thisini_value E_thisini (Or.inr ⟨(kw81 hw), rfl, hnm⟩) (kw68 hw) (ty := .int) (by decide) (rfl) (rfl) (g := (mkF m 6 #[.val (.ref thisini), .val (.int xini_1)] [(.int xini_1), (.ref thisini)])) rfl rfl (hb hby d_jdk_33_method_23_6)
  refine Wq.step st87 ?_
  have N87 := Fr.snoc X87 N86 g_thisini
  have K87 : Keep h0 h87 [thisini] := (Keep.refl h0 [thisini]).wr W87 (Or.inl (List.mem_of_getElem? (i := 0) rfl))
  have Z87 : n0 ≤ h87.size := Nat.le_trans Z0 (Keep.of_wr W87).1
  have E_thisini_t87 := E_thisini.wr W87
  have F_thisini_value_t87 : Fld Z h87 thisini "java/lang/Integer" "value" "I" (.int xini_1) := F_thisini_value.same W87
  show Wq _ _ _ _ _ (T87.setTop (mkF m 9 #[.val (.ref thisini), .val (.int xini_1)] []))
  exact Wq.ret X87 (BodyLoose.notSynchronized Bd) (rv := none) (fun _ => rfl) (fun _ hr => X87.returnOut hx Bd.returns (hb hby d_jdk_33_method_23_9) hr) (by decide) (by decide) (by rw [e87]; exact ⟨rfl, N87, K87, E_thisini_t87, F_thisini_value_t87⟩)
theorem kw67 {Z : State} {a0 : Array Value} (hw : ∀ d ∈ tables_1, d.before a0 Z = true) : (Jvm.Cond.classLink "java/lang/Integer" (1 : Nat) "java/lang/Integer").before a0 Z = true := hw _ (List.mem_of_getElem? (i := 67) rfl)
theorem kw65 {Z : State} {a0 : Array Value} (hw : ∀ d ∈ tables_1, d.before a0 Z = true) : (Jvm.Cond.initialized "java/lang/Integer").before a0 Z = true := hw _ (List.mem_of_getElem? (i := 65) rfl)
theorem kw72 {Z : State} {a0 : Array Value} (hw : ∀ d ∈ tables_1, d.before a0 Z = true) : (Jvm.Cond.code ({ cls := "java/lang/Integer", name := "<init>", desc := "(I)V" } : Jvm.MethodName) jdk_33_method_23_code (2 : Nat) (Option.none : Option Jvm.ClassFile.FieldType)).before a0 Z = true := hw _ (List.mem_of_getElem? (i := 72) rfl)
theorem pd5 : parseMethodDescriptor "(I)V" = some ⟨[.int], none⟩ := by decide +kernel
theorem kw69 {Z : State} {a0 : Array Value} (hw : ∀ d ∈ tables_1, d.before a0 Z = true) : (Jvm.Cond.methodLink "java/lang/Integer" (199 : Nat) ({ cls := "java/lang/Integer", name := "<init>", desc := "(I)V" } : Jvm.MethodName)).before a0 Z = true := hw _ (List.mem_of_getElem? (i := 69) rfl)
theorem kw70 {Z : State} {a0 : Array Value} (hw : ∀ d ∈ tables_1, d.before a0 Z = true) : (Jvm.Cond.instanceMethod ({ cls := "java/lang/Integer", name := "<init>", desc := "(I)V" } : Jvm.MethodName)).before a0 Z = true := hw _ (List.mem_of_getElem? (i := 70) rfl)
theorem d_jdk_33_method_22_0 : decode jdk_33_method_22_code 0 = .ok (.iload_n 0, 1) := by decide +kernel
theorem d_jdk_33_method_22_1 : decode jdk_33_method_22_code 1 = .ok (.bipush (-128), 2) := by decide +kernel
theorem d_jdk_33_method_22_3 : decode jdk_33_method_22_code 3 = .ok (.if_icmp .lt 20, 3) := by decide +kernel
theorem d_jdk_33_method_22_23 : decode jdk_33_method_22_code 23 = .ok (.new 1, 3) := by decide +kernel
theorem d_jdk_33_method_22_26 : decode jdk_33_method_22_code 26 = .ok (.dup, 1) := by decide +kernel
theorem d_jdk_33_method_22_27 : decode jdk_33_method_22_code 27 = .ok (.iload_n 0, 1) := by decide +kernel
theorem d_jdk_33_method_22_28 : decode jdk_33_method_22_code 28 = .ok (.invokespecial 199, 3) := by decide +kernel
theorem ef_vn1 (m : MethodId) (xvn1_1 : Int32) : entryFrame m #[(.int xvn1_1)] 1 = mkF m 0 #[.val (.int xvn1_1)] [] := by first | (simp [entryFrame, mkF, argsToLocals, Value.category]; done) | rfl
def Q_vn1 (Z : State) (xvn1_1 : Int32) (h0 : Heap) (n0 : Nat) (v : Option Value) (h : Heap) (L : List Loc) : Prop := ∃ o88 : Addr, v = some (.ref o88) ∧ Fr n0 L ∧ Keep h0 h [] ∧ h0.size ≤ o88 ∧ Exa Z h o88 "java/lang/Integer" ∧ Fld Z h o88 "java/lang/Integer" "value" "I" (.int xvn1_1)
theorem d_jdk_33_method_22_31 : decode jdk_33_method_22_code 31 = .ok (.areturn, 1) := by decide +kernel
abbrev mt10 : MethodName := ⟨"java/lang/Integer", "valueOf", "(I)Ljava/lang/Integer;"⟩
set_option maxRecDepth 65536 in
set_option maxHeartbeats 40000000 in
theorem rm_vn1 (l : Launch) (Z : State) (a0 : Array Value) (hw : ∀ d ∈ tables_1, d.before a0 Z = true) (ws : List Jvm.Cond) (xvn1_1 : Int32) (h0 : Heap) (n0 : Nat) (Z0 : n0 ≤ h0.size) (hc3 : xvn1_1 < (-128 : Int32)) :
    MetFree l mt10 (head1 (Jvm.Cond.code mt10 jdk_33_method_22_code 1 (some (.object "java/lang/Integer")) :: ws) ({ frames := 3, cells := 1, slots := 1, locals := 38 } : Room)) (fun a U => a = #[(.int xvn1_1)] ∧ Z.Warmed39 U.vm ∧ U.heap = h0) (fun _ _ _ _ _ => True) (fun _ U o U' => ∃ v L, o = .returned v ∧ (Q_vn1 Z xvn1_1 h0 n0) v U'.heap L ∧ FrameEnd U o U' L ({ frames := 3, cells := 1, slots := 1, locals := 38 } : Room).cells ({ frames := 3, cells := 1, slots := 1, locals := 38 } : Room).slots) := by
  refine MetFree.of_bodySF (plainFor_of_name pn6) hisR ?_
  intro p e s m args below meth c s₁ Bd hml0 hP hK
  obtain ⟨rfl, hZ, hh⟩ := hP
  have hx := Bd.exec
  have hby := Bd.bytes
  have hml : c.maxLocals = 1 := hml0
  have hown : s.vm.findClass "java/lang/Integer" = some m.cls := findClass_of_methodNamed Bd.named
  have hnm := (name_of_methodNamed Bd.named Bd.method).1
  have X0 : Stand p l e ({ frames := 3, cells := 1, slots := 1, locals := 38 } : Room) s m #[(.int xvn1_1)] below meth c s₁ [] 0 0 := Stand.of_body Bd
  have e0 : s₁.heap = h0 := by rw [← hh, Bd.state]; rfl
  have N0 := Fr.nil n0
  refine Wq.step (p := p) (e := e) (below := below) (En := (fun o t L => FrameEnd s o t L ({ frames := 3, cells := 1, slots := 1, locals := 38 } : Room).cells ({ frames := 3, cells := 1, slots := 1, locals := 38 } : Room).slots)) (Q := (Q_vn1 Z xvn1_1 h0 n0)) (fun t k => castTop (ef_vn1 m xvn1_1) k) ?_
  show Wq _ _ _ _ _ (s₁.setTop (mkF m 0 #[.val (.int xvn1_1)] []))
  refine Ow.iloadN X0 hx (pc' := 1) (hb hby d_jdk_33_method_22_0) rfl ?_
  refine Ow.bipush X0 hx (pc' := 3) (hb hby d_jdk_33_method_22_1) (z := (-128 : Int32)) rfl ?_
  refine Ow.icmpYes X0 hx (pc' := 23) (hb hby d_jdk_33_method_22_3) (tlt hc3).1 (by decide) (by decide) ?_
  obtain ⟨T88, h88, X88, e88, E88, A88, D88, -, st88⟩ := newO X0 hx hZ hown (kw67 hw) (kw68 hw) (kw65 hw) e0 (g := (mkF m 23 #[.val (.int xvn1_1)] [])) rfl (hb hby d_jdk_33_method_22_23) (by decide) (by decide)
  obtain ⟨o88, gz88⟩ : ∃ z, z = h0.size := ⟨_, rfl⟩
  rw [← gz88] at A88 D88 st88
  have g_o88 : n0 ≤ o88 := Nat.le_trans Z0 (Nat.le_of_eq gz88.symm)
  have sz_o88 : h0.size ≤ o88 := Nat.le_of_eq gz88.symm
  have K88 : Keep h0 h88 [] := (Keep.refl h0 []).ext E88
  have Z88 : n0 ≤ h88.size := Nat.le_trans Z0 E88.1
  refine Wq.step st88 ?_
  have F_o88_value : Fld Z h88 o88 "java/lang/Integer" "value" "I" (.int (0 : Int32)) := D88 (Or.inr (kw81 hw)) (ty := .int) (by decide)
  show Wq _ _ _ _ _ (T88.setTop (mkF m 26 #[.val (.int xvn1_1)] [(.ref o88)]))
  refine Ow.dup X88 hx (pc' := 27) (hb hby d_jdk_33_method_22_26) rfl ?_
  refine Ow.iloadN X88 hx (pc' := 28) (hb hby d_jdk_33_method_22_27) rfl ?_
  obtain ⟨_, _, ⟨T89, L89, k89, n89⟩, -, X89, ⟨Lc89, hQ89, l89, y89, z89⟩, st89⟩ := X88.specialBack hx (y := mt9) rfl hown (mvT hZ (kw69 hw)) (mvT hZ (kw70 hw)) (mvT hZ (kw72 hw)) (by decide) (backOf (W := 1) (rm_ini l Z a0 hw [] o88 xvn1_1 h88 n0 Z88 A88 F_o88_value g_o88) hZ (kw72 hw) (kw65 hw) (by decide) (by decide)) (g := (mkF m 28 #[.val (.int xvn1_1)] [(.int xvn1_1), (.ref o88), (.ref o88)])) rfl (by rw [hml]; rfl) (Steps.refl _) (a := o88) (argsL := [(.int xvn1_1)]) (rest := [(.ref o88)]) (lenOf pd5 rfl) rfl (by show 2 * 0 + _ ≤ _; exact Nat.le_of_eq rfl) (hb hby d_jdk_33_method_22_28) (fun _ _ => ⟨rfl, e88, (by decide : 1 + 0 ≤ _), (by decide : 1 + 0 ≤ _)⟩)
  dsimp only [Pt.U, Pt.locs, Pt.cells, Pt.slots] at X89 l89 y89 z89 st89 hQ89
  subst l89 y89 z89
  obtain ⟨rfl, Nq89, Kq89, P89_0, P89_1⟩ := hQ89
  have N89 := Fr.app N0 Nq89
  have K89 : Keep h0 T89.heap [] := K88.trans Kq89 (allS (P := fun x => x ∈ [] ∨ h0.size ≤ x) (Or.inr sz_o88) all0)
  have Z89 : n0 ≤ T89.heap.size := Nat.le_trans Z88 Kq89.1
  have A88_t89 := A88.keep Kq89
  have e89 : T89.heap = T89.heap := rfl
  refine Wq.steps st89 ?_
  show Wq _ _ _ _ _ (T89.setTop (mkF m 31 #[.val (.int xvn1_1)] [(.ref o88)]))
  exact Wq.ret X89 (BodyLoose.notSynchronized Bd) (rv := some (.ref o88)) (fun h => by rw [Bd.returns] at h; cases h) (fun _ hr => retOut X89 hx Bd.returns rfl (Or.inr (Or.inr (Or.inr (Or.inr ⟨rfl, rfl, rfl⟩)))) (hb hby d_jdk_33_method_22_31) hr) (by decide) (by decide) (by rw [e89]; exact ⟨o88, rfl, N89, K89, sz_o88, A88_t89, P89_1⟩)
theorem kw82 {Z : State} {a0 : Array Value} (hw : ∀ d ∈ tables_1, d.before a0 Z = true) : (Jvm.Cond.fieldLink "java/lang/Integer" (191 : Nat) "java/lang/Integer$IntegerCache" "high" "I").before a0 Z = true := hw _ (List.mem_of_getElem? (i := 82) rfl)
theorem d_jdk_33_method_22_6 : decode jdk_33_method_22_code 6 = .ok (.iload_n 0, 1) := by decide +kernel
theorem d_jdk_33_method_22_7 : decode jdk_33_method_22_code 7 = .ok (.getstatic 191, 3) := by decide +kernel
theorem d_jdk_33_method_22_10 : decode jdk_33_method_22_code 10 = .ok (.if_icmp .gt 13, 3) := by decide +kernel
theorem ef_vn2 (m : MethodId) (xvn2_1 : Int32) : entryFrame m #[(.int xvn2_1)] 1 = mkF m 0 #[.val (.int xvn2_1)] [] := by first | (simp [entryFrame, mkF, argsToLocals, Value.category]; done) | rfl
def Q_vn2 (Z : State) (xvn2_1 : Int32) (h0 : Heap) (n0 : Nat) (v : Option Value) (h : Heap) (L : List Loc) : Prop := ∃ o91 : Addr, v = some (.ref o91) ∧ Fr n0 L ∧ Keep h0 h [] ∧ h0.size ≤ o91 ∧ Exa Z h o91 "java/lang/Integer" ∧ Fld Z h o91 "java/lang/Integer" "value" "I" (.int xvn2_1)
set_option maxRecDepth 65536 in
set_option maxHeartbeats 40000000 in
theorem rm_vn2 (l : Launch) (Z : State) (a0 : Array Value) (hw : ∀ d ∈ tables_1, d.before a0 Z = true) (ws : List Jvm.Cond) (xvn2_1 : Int32) (h0 : Heap) (n0 : Nat) (Z0 : n0 ≤ h0.size) (S_high : Sta Z h0 "java/lang/Integer$IntegerCache" "high" "I" (.int (127 : Int32))) (hc3 : ¬ (xvn2_1 < (-128 : Int32))) (hc10 : (127 : Int32) < xvn2_1) :
    MetFree l mt10 (head1 (Jvm.Cond.code mt10 jdk_33_method_22_code 1 (some (.object "java/lang/Integer")) :: ws) ({ frames := 3, cells := 1, slots := 1, locals := 38 } : Room)) (fun a U => a = #[(.int xvn2_1)] ∧ Z.Warmed39 U.vm ∧ U.heap = h0) (fun _ _ _ _ _ => True) (fun _ U o U' => ∃ v L, o = .returned v ∧ (Q_vn2 Z xvn2_1 h0 n0) v U'.heap L ∧ FrameEnd U o U' L ({ frames := 3, cells := 1, slots := 1, locals := 38 } : Room).cells ({ frames := 3, cells := 1, slots := 1, locals := 38 } : Room).slots) := by
  refine MetFree.of_bodySF (plainFor_of_name pn6) hisR ?_
  intro p e s m args below meth c s₁ Bd hml0 hP hK
  obtain ⟨rfl, hZ, hh⟩ := hP
  have hx := Bd.exec
  have hby := Bd.bytes
  have hml : c.maxLocals = 1 := hml0
  have hown : s.vm.findClass "java/lang/Integer" = some m.cls := findClass_of_methodNamed Bd.named
  have hnm := (name_of_methodNamed Bd.named Bd.method).1
  have X0 : Stand p l e ({ frames := 3, cells := 1, slots := 1, locals := 38 } : Room) s m #[(.int xvn2_1)] below meth c s₁ [] 0 0 := Stand.of_body Bd
  have e0 : s₁.heap = h0 := by rw [← hh, Bd.state]; rfl
  have N0 := Fr.nil n0
  refine Wq.step (p := p) (e := e) (below := below) (En := (fun o t L => FrameEnd s o t L ({ frames := 3, cells := 1, slots := 1, locals := 38 } : Room).cells ({ frames := 3, cells := 1, slots := 1, locals := 38 } : Room).slots)) (Q := (Q_vn2 Z xvn2_1 h0 n0)) (fun t k => castTop (ef_vn2 m xvn2_1) k) ?_
  show Wq _ _ _ _ _ (s₁.setTop (mkF m 0 #[.val (.int xvn2_1)] []))
  refine Ow.iloadN X0 hx (pc' := 1) (hb hby d_jdk_33_method_22_0) rfl ?_
  refine Ow.bipush X0 hx (pc' := 3) (hb hby d_jdk_33_method_22_1) (z := (-128 : Int32)) rfl ?_
  refine Ow.icmpNo X0 hx (pc' := 6) (hb hby d_jdk_33_method_22_3) (flt hc3).1 ?_
  refine Ow.iloadN X0 hx (pc' := 7) (hb hby d_jdk_33_method_22_6) rfl ?_
  obtain ⟨T90, X90, e90, st90⟩ := getS2 X0 hx hZ hown (host := "") (Or.inl (kw82 hw)) Via.refl e0 S_high (g := (mkF m 7 #[.val (.int xvn2_1)] [(.int xvn2_1)])) rfl (hb hby d_jdk_33_method_22_7)
  refine Wq.step st90 ?_
  show Wq _ _ _ _ _ (T90.setTop (mkF m 10 #[.val (.int xvn2_1)] [(.int (127 : Int32)), (.int xvn2_1)]))
  refine Ow.icmpYes X90 hx (pc' := 23) (hb hby d_jdk_33_method_22_10) (tlt hc10).2.2.1 (by decide) (by decide) ?_
  obtain ⟨T91, h91, X91, e91, E91, A91, D91, -, st91⟩ := newO X90 hx hZ hown (kw67 hw) (kw68 hw) (kw65 hw) e90 (g := (mkF m 23 #[.val (.int xvn2_1)] [])) rfl (hb hby d_jdk_33_method_22_23) (by decide) (by decide)
  obtain ⟨o91, gz91⟩ : ∃ z, z = h0.size := ⟨_, rfl⟩
  rw [← gz91] at A91 D91 st91
  have g_o91 : n0 ≤ o91 := Nat.le_trans Z0 (Nat.le_of_eq gz91.symm)
  have sz_o91 : h0.size ≤ o91 := Nat.le_of_eq gz91.symm
  have K91 : Keep h0 h91 [] := (Keep.refl h0 []).ext E91
  have Z91 : n0 ≤ h91.size := Nat.le_trans Z0 E91.1
  have S_high_t91 := S_high.ext E91
  refine Wq.step st91 ?_
  have F_o91_value : Fld Z h91 o91 "java/lang/Integer" "value" "I" (.int (0 : Int32)) := D91 (Or.inr (kw81 hw)) (ty := .int) (by decide)
  show Wq _ _ _ _ _ (T91.setTop (mkF m 26 #[.val (.int xvn2_1)] [(.ref o91)]))
  refine Ow.dup X91 hx (pc' := 27) (hb hby d_jdk_33_method_22_26) rfl ?_
  refine Ow.iloadN X91 hx (pc' := 28) (hb hby d_jdk_33_method_22_27) rfl ?_
  obtain ⟨_, _, ⟨T92, L92, k92, n92⟩, -, X92, ⟨Lc92, hQ92, l92, y92, z92⟩, st92⟩ := X91.specialBack hx (y := mt9) rfl hown (mvT hZ (kw69 hw)) (mvT hZ (kw70 hw)) (mvT hZ (kw72 hw)) (by decide) (backOf (W := 1) (rm_ini l Z a0 hw [] o91 xvn2_1 h91 n0 Z91 A91 F_o91_value g_o91) hZ (kw72 hw) (kw65 hw) (by decide) (by decide)) (g := (mkF m 28 #[.val (.int xvn2_1)] [(.int xvn2_1), (.ref o91), (.ref o91)])) rfl (by rw [hml]; rfl) (Steps.refl _) (a := o91) (argsL := [(.int xvn2_1)]) (rest := [(.ref o91)]) (lenOf pd5 rfl) rfl (by show 2 * 0 + _ ≤ _; exact Nat.le_of_eq rfl) (hb hby d_jdk_33_method_22_28) (fun _ _ => ⟨rfl, e91, (by decide : 1 + 0 ≤ _), (by decide : 1 + 0 ≤ _)⟩)
  dsimp only [Pt.U, Pt.locs, Pt.cells, Pt.slots] at X92 l92 y92 z92 st92 hQ92
  subst l92 y92 z92
  obtain ⟨rfl, Nq92, Kq92, P92_0, P92_1⟩ := hQ92
  have N92 := Fr.app N0 Nq92
  have K92 : Keep h0 T92.heap [] := K91.trans Kq92 (allS (P := fun x => x ∈ [] ∨ h0.size ≤ x) (Or.inr sz_o91) all0)
  have Z92 : n0 ≤ T92.heap.size := Nat.le_trans Z91 Kq92.1
  have S_high_t92 := Jvm.OwnW.Sta.keepN S_high_t91 Kq92 (allS (P := fun w => ∀ cell : Cell, h91[w]? = some cell → cell.vm.isStatics = false) (Jvm.OwnW.Exa.ns A91) all0)
  have A91_t92 := A91.keep Kq92
  have e92 : T92.heap = T92.heap := rfl
  refine Wq.steps st92 ?_
  show Wq _ _ _ _ _ (T92.setTop (mkF m 31 #[.val (.int xvn2_1)] [(.ref o91)]))
  exact Wq.ret X92 (BodyLoose.notSynchronized Bd) (rv := some (.ref o91)) (fun h => by rw [Bd.returns] at h; cases h) (fun _ hr => retOut X92 hx Bd.returns rfl (Or.inr (Or.inr (Or.inr (Or.inr ⟨rfl, rfl, rfl⟩)))) (hb hby d_jdk_33_method_22_31) hr) (by decide) (by decide) (by rw [e92]; exact ⟨o91, rfl, N92, K92, sz_o91, A91_t92, P92_1⟩)
theorem kw84 {Z : State} {a0 : Array Value} (hw : ∀ d ∈ tables_1, d.before a0 Z = true) : (Jvm.Cond.fieldLink "java/lang/Integer" (195 : Nat) "java/lang/Integer$IntegerCache" "cache" "[Ljava/lang/Integer;").before a0 Z = true := hw _ (List.mem_of_getElem? (i := 84) rfl)
theorem d_jdk_33_method_22_13 : decode jdk_33_method_22_code 13 = .ok (.getstatic 195, 3) := by decide +kernel
theorem d_jdk_33_method_22_16 : decode jdk_33_method_22_code 16 = .ok (.iload_n 0, 1) := by decide +kernel
theorem d_jdk_33_method_22_17 : decode jdk_33_method_22_code 17 = .ok (.sipush 128, 3) := by decide +kernel
theorem d_jdk_33_method_22_20 : decode jdk_33_method_22_code 20 = .ok (.iadd, 1) := by decide +kernel
theorem d_jdk_33_method_22_21 : decode jdk_33_method_22_code 21 = .ok (.aaload, 1) := by decide +kernel
theorem ef_vc (m : MethodId) (xvc_1 : Int32) : entryFrame m #[(.int xvc_1)] 1 = mkF m 0 #[.val (.int xvc_1)] [] := by first | (simp [entryFrame, mkF, argsToLocals, Value.category]; done) | rfl
def Q_vc (Z : State) (xvc_1 : Int32) (uc : Addr) (vsC : List Value) (bx : Addr) (h0 : Heap) (n0 : Nat) (v : Option Value) (h : Heap) (L : List Loc) : Prop := v = some (.ref bx) ∧ Fr n0 L ∧ h = h0
theorem d_jdk_33_method_22_22 : decode jdk_33_method_22_code 22 = .ok (.areturn, 1) := by decide +kernel
set_option maxRecDepth 65536 in
set_option maxHeartbeats 40000000 in
theorem rm_vc (l : Launch) (Z : State) (a0 : Array Value) (hw : ∀ d ∈ tables_1, d.before a0 Z = true) (ws : List Jvm.Cond) (xvc_1 : Int32) (uc : Addr) (vsC : List Value) (bx : Addr) (h0 : Heap) (n0 : Nat) (Z0 : n0 ≤ h0.size) (S_high : Sta Z h0 "java/lang/Integer$IntegerCache" "high" "I" (.int (127 : Int32))) (S_cache : Sta Z h0 "java/lang/Integer$IntegerCache" "cache" "[Ljava/lang/Integer;" (.ref uc)) (V_uc : Al Z h0 uc (.object "java/lang/Integer") vsC) (hj : ¬ (xvc_1 + (128 : Int32)) < 0) (hv : vsC[(xvc_1 + (128 : Int32)).toNatClampNeg]? = some (.ref bx)) (hc3 : ¬ (xvc_1 < (-128 : Int32))) (hc10 : ¬ ((127 : Int32) < xvc_1)) :
    MetFree l mt10 (head1 (Jvm.Cond.code mt10 jdk_33_method_22_code 1 (some (.object "java/lang/Integer")) :: ws) ({ frames := 0, cells := 0, slots := 0, locals := 0 } : Room)) (fun a U => a = #[(.int xvc_1)] ∧ Z.Warmed39 U.vm ∧ U.heap = h0) (fun _ _ _ _ _ => True) (fun _ U o U' => ∃ v L, o = .returned v ∧ (Q_vc Z xvc_1 uc vsC bx h0 n0) v U'.heap L ∧ FrameEnd U o U' L ({ frames := 0, cells := 0, slots := 0, locals := 0 } : Room).cells ({ frames := 0, cells := 0, slots := 0, locals := 0 } : Room).slots) := by
  refine MetFree.of_bodySF (plainFor_of_name pn6) hisR ?_
  intro p e s m args below meth c s₁ Bd hml0 hP hK
  obtain ⟨rfl, hZ, hh⟩ := hP
  have hx := Bd.exec
  have hby := Bd.bytes
  have hml : c.maxLocals = 1 := hml0
  have hown : s.vm.findClass "java/lang/Integer" = some m.cls := findClass_of_methodNamed Bd.named
  have hnm := (name_of_methodNamed Bd.named Bd.method).1
  have X0 : Stand p l e ({ frames := 0, cells := 0, slots := 0, locals := 0 } : Room) s m #[(.int xvc_1)] below meth c s₁ [] 0 0 := Stand.of_body Bd
  have e0 : s₁.heap = h0 := by rw [← hh, Bd.state]; rfl
  have N0 := Fr.nil n0
  refine Wq.step (p := p) (e := e) (below := below) (En := (fun o t L => FrameEnd s o t L ({ frames := 0, cells := 0, slots := 0, locals := 0 } : Room).cells ({ frames := 0, cells := 0, slots := 0, locals := 0 } : Room).slots)) (Q := (Q_vc Z xvc_1 uc vsC bx h0 n0)) (fun t k => castTop (ef_vc m xvc_1) k) ?_
  show Wq _ _ _ _ _ (s₁.setTop (mkF m 0 #[.val (.int xvc_1)] []))
  refine Ow.iloadN X0 hx (pc' := 1) (hb hby d_jdk_33_method_22_0) rfl ?_
  refine Ow.bipush X0 hx (pc' := 3) (hb hby d_jdk_33_method_22_1) (z := (-128 : Int32)) rfl ?_
  refine Ow.icmpNo X0 hx (pc' := 6) (hb hby d_jdk_33_method_22_3) (flt hc3).1 ?_
  refine Ow.iloadN X0 hx (pc' := 7) (hb hby d_jdk_33_method_22_6) rfl ?_
  obtain ⟨T93, X93, e93, st93⟩ := getS2 X0 hx hZ hown (host := "") (Or.inl (kw82 hw)) Via.refl e0 S_high (g := (mkF m 7 #[.val (.int xvc_1)] [(.int xvc_1)])) rfl (hb hby d_jdk_33_method_22_7)
  refine Wq.step st93 ?_
  show Wq _ _ _ _ _ (T93.setTop (mkF m 10 #[.val (.int xvc_1)] [(.int (127 : Int32)), (.int xvc_1)]))
  refine Ow.icmpNo X93 hx (pc' := 13) (hb hby d_jdk_33_method_22_10) (flt hc10).2.2.1 ?_
  obtain ⟨T94, X94, e94, st94⟩ := getS2 X93 hx hZ hown (host := "") (Or.inl (kw84 hw)) Via.refl e93 S_cache (g := (mkF m 13 #[.val (.int xvc_1)] [])) rfl (hb hby d_jdk_33_method_22_13)
  refine Wq.step st94 ?_
  show Wq _ _ _ _ _ (T94.setTop (mkF m 16 #[.val (.int xvc_1)] [(.ref uc)]))
  refine Ow.iloadN X94 hx (pc' := 17) (hb hby d_jdk_33_method_22_16) rfl ?_
  refine Ow.sipush X94 hx (pc' := 20) (hb hby d_jdk_33_method_22_17) (z := (128 : Int32)) rfl ?_
  refine Ow.iadd X94 hx (pc' := 21) (hb hby d_jdk_33_method_22_20) (z := (xvc_1 + (128 : Int32))) rfl ?_
  refine Ow.ldR X94 hx hZ e94 V_uc rfl (pc' := 22) (hb hby d_jdk_33_method_22_21) (i := (xvc_1 + (128 : Int32)).toNatClampNeg) (v := (.ref bx)) (hj) (rfl) (hv) ?_
  exact Wq.ret X94 (BodyLoose.notSynchronized Bd) (rv := some (.ref bx)) (fun h => by rw [Bd.returns] at h; cases h) (fun _ hr => retOut X94 hx Bd.returns rfl (Or.inr (Or.inr (Or.inr (Or.inr ⟨rfl, rfl, rfl⟩)))) (hb hby d_jdk_33_method_22_22) hr) (by decide) (by decide) ⟨rfl, N0, e94⟩
theorem own_f0 : ∀ v ∈ ([] : List Value), fits .byte v = true := fun _ h => nomatch h
theorem own_fc {x : Int32} {L : List Value} (hx : fits .byte (.int x) = true) (h : ∀ v ∈ L, fits .byte v = true) : ∀ v ∈ Value.int x :: L, fits .byte v = true := by
  intro v hv
  rcases List.mem_cons.mp hv with rfl | q
  · exact hx
  · exact h v q
theorem own_m4 {x y : Int32} (h : (x &&& (3 : Int32)) = y) : y = 0 ∨ y = 1 ∨ y = 2 ∨ y = 3 := by
  have m := c_mask x 3 2 (by decide) (by decide)
  rw [h] at m
  have e0 : (0 : Int32).toInt = 0 := by decide
  have e1 : (1 : Int32).toInt = 1 := by decide
  have e2 : (2 : Int32).toInt = 2 := by decide
  have e3 : (3 : Int32).toInt = 3 := by decide
  simp only [← Int32.toInt_inj, e0, e1, e2, e3]
  omega
theorem own_p3 (x : Int32) : (x < (-128 : Int32)) ∨ (¬ (x < (-128 : Int32)) ∧ (127 : Int32) < x) ∨ (¬ (x < (-128 : Int32)) ∧ ¬ ((127 : Int32) < x)) := by
  by_cases a : x < (-128 : Int32)
  · exact Or.inl a
  · by_cases b : (127 : Int32) < x
    · exact Or.inr (Or.inl ⟨a, b⟩)
    · exact Or.inr (Or.inr ⟨a, b⟩)
def own_box (vs : List Value) : Prop := ∀ x : Int32, ¬ (x < (-128 : Int32)) → ¬ ((127 : Int32) < x) → ¬ (x + (128 : Int32)) < 0 ∧ ∃ b : Addr, vs[(x + (128 : Int32)).toNatClampNeg]? = some (.ref b)
theorem kw8 {Z : State} {a0 : Array Value} (hw : ∀ d ∈ tables_1, d.before a0 Z = true) : (Jvm.Cond.initialized "com/example/opwire/opwire/codec/ber/UnknownElements").before a0 Z = true := hw _ (List.mem_of_getElem? (i := 8) rfl)
theorem kw9 {Z : State} {a0 : Array Value} (hw : ∀ d ∈ tables_1, d.before a0 Z = true) : (Jvm.Cond.laysStatic "com/example/opwire/opwire/codec/ber/UnknownElements" "NONE" "Lcom/example/opwire/opwire/codec/ber/UnknownElements;").before a0 Z = true := hw _ (List.mem_of_getElem? (i := 9) rfl)
theorem kw1 {Z : State} {a0 : Array Value} (hw : ∀ d ∈ tables_1, d.before a0 Z = true) : (Jvm.Cond.classLink "com/example/opwire/opwire/codec/tcap/AbortUserAbortInformationPinLaw" (13 : Nat) "com/example/opwire/opwire/codec/tcap/Abort").before a0 Z = true := hw _ (List.mem_of_getElem? (i := 1) rfl)
theorem kw6 {Z : State} {a0 : Array Value} (hw : ∀ d ∈ tables_1, d.before a0 Z = true) : (Jvm.Cond.code ({ cls := "com/example/opwire/opwire/codec/tcap/Abort", name := "<init>", desc := "([BLjava/lang/Integer;[B)V" } : Jvm.MethodName) prog_23_method_1_code (4 : Nat) (Option.none : Option Jvm.ClassFile.FieldType)).before a0 Z = true := hw _ (List.mem_of_getElem? (i := 6) rfl)
theorem pd6 : parseMethodDescriptor "([BLjava/lang/Integer;[B)V" = some ⟨[(.array .byte), (.object "java/lang/Integer"), (.array .byte)], none⟩ := by decide +kernel
theorem kw4 {Z : State} {a0 : Array Value} (hw : ∀ d ∈ tables_1, d.before a0 Z = true) : (Jvm.Cond.methodLink "com/example/opwire/opwire/codec/tcap/AbortUserAbortInformationPinLaw" (15 : Nat) ({ cls := "com/example/opwire/opwire/codec/tcap/Abort", name := "<init>", desc := "([BLjava/lang/Integer;[B)V" } : Jvm.MethodName)).before a0 Z = true := hw _ (List.mem_of_getElem? (i := 4) rfl)
theorem kw5 {Z : State} {a0 : Array Value} (hw : ∀ d ∈ tables_1, d.before a0 Z = true) : (Jvm.Cond.instanceMethod ({ cls := "com/example/opwire/opwire/codec/tcap/Abort", name := "<init>", desc := "([BLjava/lang/Integer;[B)V" } : Jvm.MethodName)).before a0 Z = true := hw _ (List.mem_of_getElem? (i := 5) rfl)
theorem kw55 {Z : State} {a0 : Array Value} (hw : ∀ d ∈ tables_1, d.before a0 Z = true) : (Jvm.Cond.code ({ cls := "com/example/opwire/opwire/codec/tcap/Abort", name := "userAbortInformation", desc := "()[B" } : Jvm.MethodName) prog_23_method_5_code (1 : Nat) (Option.some (Jvm.ClassFile.FieldType.array Jvm.ClassFile.FieldType.byte))).before a0 Z = true := hw _ (List.mem_of_getElem? (i := 55) rfl)
theorem pd7 : parseMethodDescriptor "()[B" = some ⟨[], some (.array .byte)⟩ := by decide +kernel
theorem kw51 {Z : State} {a0 : Array Value} (hw : ∀ d ∈ tables_1, d.before a0 Z = true) : (Jvm.Cond.methodLink "com/example/opwire/opwire/codec/tcap/AbortUserAbortInformationPinLaw" (18 : Nat) ({ cls := "com/example/opwire/opwire/codec/tcap/Abort", name := "userAbortInformation", desc := "()[B" } : Jvm.MethodName)).before a0 Z = true := hw _ (List.mem_of_getElem? (i := 51) rfl)
theorem kw52 {Z : State} {a0 : Array Value} (hw : ∀ d ∈ tables_1, d.before a0 Z = true) : (Jvm.Cond.declares ({ cls := "com/example/opwire/opwire/codec/tcap/Abort", name := "userAbortInformation", desc := "()[B" } : Jvm.MethodName)).before a0 Z = true := hw _ (List.mem_of_getElem? (i := 52) rfl)
theorem kw54 {Z : State} {a0 : Array Value} (hw : ∀ d ∈ tables_1, d.before a0 Z = true) : (Jvm.Cond.selects "com/example/opwire/opwire/codec/tcap/Abort" ({ cls := "com/example/opwire/opwire/codec/tcap/Abort", name := "userAbortInformation", desc := "()[B" } : Jvm.MethodName) ({ cls := "com/example/opwire/opwire/codec/tcap/Abort", name := "userAbortInformation", desc := "()[B" } : Jvm.MethodName)).before a0 Z = true := hw _ (List.mem_of_getElem? (i := 54) rfl)
theorem kw53 {Z : State} {a0 : Array Value} (hw : ∀ d ∈ tables_1, d.before a0 Z = true) : (Jvm.Cond.instanceMethod ({ cls := "com/example/opwire/opwire/codec/tcap/Abort", name := "userAbortInformation", desc := "()[B" } : Jvm.MethodName)).before a0 Z = true := hw _ (List.mem_of_getElem? (i := 53) rfl)
theorem kw66 {Z : State} {a0 : Array Value} (hw : ∀ d ∈ tables_1, d.before a0 Z = true) : (Jvm.Cond.code ({ cls := "java/lang/Integer", name := "valueOf", desc := "(I)Ljava/lang/Integer;" } : Jvm.MethodName) jdk_33_method_22_code (1 : Nat) (Option.some (Jvm.ClassFile.FieldType.object "java/lang/Integer"))).before a0 Z = true := hw _ (List.mem_of_getElem? (i := 66) rfl)
theorem pd8 : parseMethodDescriptor "(I)Ljava/lang/Integer;" = some ⟨[.int], some (.object "java/lang/Integer")⟩ := by decide +kernel
theorem kw63 {Z : State} {a0 : Array Value} (hw : ∀ d ∈ tables_1, d.before a0 Z = true) : (Jvm.Cond.methodLink "com/example/opwire/opwire/codec/tcap/AbortUserAbortInformationPinLaw" (7 : Nat) ({ cls := "java/lang/Integer", name := "valueOf", desc := "(I)Ljava/lang/Integer;" } : Jvm.MethodName)).before a0 Z = true := hw _ (List.mem_of_getElem? (i := 63) rfl)
theorem kw64 {Z : State} {a0 : Array Value} (hw : ∀ d ∈ tables_1, d.before a0 Z = true) : (Jvm.Cond.static ({ cls := "java/lang/Integer", name := "valueOf", desc := "(I)Ljava/lang/Integer;" } : Jvm.MethodName)).before a0 Z = true := hw _ (List.mem_of_getElem? (i := 64) rfl)
theorem kw59 {Z : State} {a0 : Array Value} (hw : ∀ d ∈ tables_1, d.before a0 Z = true) : (Jvm.Cond.code ({ cls := "com/example/opwire/opwire/codec/tcap/AbortUserAbortInformationPinLaw", name := "same", desc := "([BIBBB)Z" } : Jvm.MethodName) method_3_code (5 : Nat) (Option.some Jvm.ClassFile.FieldType.boolean)).before a0 Z = true := hw _ (List.mem_of_getElem? (i := 59) rfl)
theorem kw58 {Z : State} {a0 : Array Value} (hw : ∀ d ∈ tables_1, d.before a0 Z = true) : (Jvm.Cond.initialized "com/example/opwire/opwire/codec/tcap/AbortUserAbortInformationPinLaw").before a0 Z = true := hw _ (List.mem_of_getElem? (i := 58) rfl)
theorem pd9 : parseMethodDescriptor "([BIBBB)Z" = some ⟨[(.array .byte), .int, .byte, .byte, .byte], some .boolean⟩ := by decide +kernel
theorem kw56 {Z : State} {a0 : Array Value} (hw : ∀ d ∈ tables_1, d.before a0 Z = true) : (Jvm.Cond.methodLink "com/example/opwire/opwire/codec/tcap/AbortUserAbortInformationPinLaw" (22 : Nat) ({ cls := "com/example/opwire/opwire/codec/tcap/AbortUserAbortInformationPinLaw", name := "same", desc := "([BIBBB)Z" } : Jvm.MethodName)).before a0 Z = true := hw _ (List.mem_of_getElem? (i := 56) rfl)
theorem kw57 {Z : State} {a0 : Array Value} (hw : ∀ d ∈ tables_1, d.before a0 Z = true) : (Jvm.Cond.static ({ cls := "com/example/opwire/opwire/codec/tcap/AbortUserAbortInformationPinLaw", name := "same", desc := "([BIBBB)Z" } : Jvm.MethodName)).before a0 Z = true := hw _ (List.mem_of_getElem? (i := 57) rfl)
theorem kw62 {Z : State} {a0 : Array Value} (hw : ∀ d ∈ tables_1, d.before a0 Z = true) : (Jvm.Cond.code ({ cls := "com/example/opwire/opwire/codec/tcap/AbortUserAbortInformationPinLaw", name := "flip", desc := "([B)V" } : Jvm.MethodName) method_4_code (1 : Nat) (Option.none : Option Jvm.ClassFile.FieldType)).before a0 Z = true := hw _ (List.mem_of_getElem? (i := 62) rfl)
theorem pd10 : parseMethodDescriptor "([B)V" = some ⟨[(.array .byte)], none⟩ := by decide +kernel
theorem kw60 {Z : State} {a0 : Array Value} (hw : ∀ d ∈ tables_1, d.before a0 Z = true) : (Jvm.Cond.methodLink "com/example/opwire/opwire/codec/tcap/AbortUserAbortInformationPinLaw" (28 : Nat) ({ cls := "com/example/opwire/opwire/codec/tcap/AbortUserAbortInformationPinLaw", name := "flip", desc := "([B)V" } : Jvm.MethodName)).before a0 Z = true := hw _ (List.mem_of_getElem? (i := 60) rfl)
theorem kw61 {Z : State} {a0 : Array Value} (hw : ∀ d ∈ tables_1, d.before a0 Z = true) : (Jvm.Cond.static ({ cls := "com/example/opwire/opwire/codec/tcap/AbortUserAbortInformationPinLaw", name := "flip", desc := "([B)V" } : Jvm.MethodName)).before a0 Z = true := hw _ (List.mem_of_getElem? (i := 61) rfl)
theorem ef_law (m : MethodId) (xlaw_1 : Int32) (xlaw_2 : Int32) (xlaw_3 : Int32) (xlaw_4 : Int32) (xlaw_5 : Int32) : entryFrame m #[(.int xlaw_1), (.int xlaw_2), (.int xlaw_3), (.int xlaw_4), (.int xlaw_5)] maxLocals = mkF m 0 #[.val (.int xlaw_1), .val (.int xlaw_2), .val (.int xlaw_3), .val (.int xlaw_4), .val (.int xlaw_5), .unset, .unset, .unset, .unset, .unset, .unset, .unset, .unset, .unset, .unset, .unset] [] := by first | (simp [entryFrame, mkF, argsToLocals, Value.category, maxLocals]; done) | rfl
def Q_law (n0 : Nat) (v : Option Value) (h : Heap) (L : List Loc) : Prop := v = some (.int 1) ∧ Fr n0 L
set_option maxRecDepth 65536 in
set_option maxHeartbeats 40000000 in
theorem rm_law (l : Launch) (Z : State) (a0 : Array Value) (hw : ∀ d ∈ tables_1, d.before a0 Z = true) (ws : List Jvm.Cond) (xlaw_1 : Int32) (xlaw_2 : Int32) (xlaw_3 : Int32) (xlaw_4 : Int32) (xlaw_5 : Int32) (uNONE : Addr) (ucl : Addr) (vsl : List Value) (h0 : Heap) (n0 : Nat) (Z0 : n0 ≤ h0.size) (S_NONE : Sta Z h0 "com/example/opwire/opwire/codec/ber/UnknownElements" "NONE" "Lcom/example/opwire/opwire/codec/ber/UnknownElements;" (.ref uNONE)) (E_uNONE : Exa Z h0 uNONE "com/example/opwire/opwire/codec/ber/UnknownElements") (S_high : Sta Z h0 "java/lang/Integer$IntegerCache" "high" "I" (.int (127 : Int32))) (S_cache : Sta Z h0 "java/lang/Integer$IntegerCache" "cache" "[Ljava/lang/Integer;" (.ref ucl)) (V_ucl : Al Z h0 ucl (.object "java/lang/Integer") vsl) (hbox : own_box vsl) :
    MetFree l x (head1 (Jvm.Cond.code x code maxLocals ret :: ws) room_1) (fun a U => a = #[(.int xlaw_1), (.int xlaw_2), (.int xlaw_3), (.int xlaw_4), (.int xlaw_5)] ∧ Z.Warmed39 U.vm ∧ U.heap = h0) (fun _ _ _ _ _ => True) (fun _ U o U' => ∃ v L, o = .returned v ∧ (Q_law n0) v U'.heap L ∧ ReturnedEndW U o U' L 24 1152) := by
  refine MetFree.of_bodySF (plainFor_of_name pn4) hisR ?_
  intro p e s m args below meth c s₁ Bd hml0 hP hK
  obtain ⟨rfl, hZ, hh⟩ := hP
  have hx := Bd.exec
  have hby := Bd.bytes
  have hml : c.maxLocals = 16 := hml0
  have hown : s.vm.findClass "com/example/opwire/opwire/codec/tcap/AbortUserAbortInformationPinLaw" = some m.cls := findClass_of_methodNamed Bd.named
  have hnm := (name_of_methodNamed Bd.named Bd.method).1
  have hS0 : s.Since s.vm 0 := (State.WarmedH.refl s).since 0
  have hk0 : 0 ≤ h0.size := Nat.zero_le _
  have X0 : Stand p l e room_1 (s.setVm s.vm) m #[(.int xlaw_1), (.int xlaw_2), (.int xlaw_3), (.int xlaw_4), (.int xlaw_5)] below meth c s₁ [] 0 0 := Stand.of_body Bd
  have e0 : s₁.heap = h0 := by rw [← hh, Bd.state]; rfl
  have N0 := Fr.nil n0
  refine Wq.step (p := p) (e := e) (below := below) (En := (fun o t L => ReturnedEndW s o t L 24 1152)) (Q := (Q_law n0)) (fun t k => castTop (ef_law m xlaw_1 xlaw_2 xlaw_3 xlaw_4 xlaw_5) k) ?_
  show Wq _ _ _ _ _ (s₁.setTop (mkF m 0 #[.val (.int xlaw_1), .val (.int xlaw_2), .val (.int xlaw_3), .val (.int xlaw_4), .val (.int xlaw_5), .unset, .unset, .unset, .unset, .unset, .unset, .unset, .unset, .unset, .unset, .unset] []))
  refine Ow.iloadN X0 hx (pc' := 1) (hb hby at_0) rfl ?_
  refine Ow.iconst X0 hx (pc' := 2) (hb hby at_1) (z := (3 : Int32)) rfl ?_
  refine Ow.iand X0 hx (pc' := 3) (hb hby at_2) (z := (xlaw_1 &&& (3 : Int32))) rfl ?_
  refine Ow.istore X0 hx (pc' := 5) (hb hby at_3) (l' := #[.val (.int xlaw_1), .val (.int xlaw_2), .val (.int xlaw_3), .val (.int xlaw_4), .val (.int xlaw_5), .val (.int (xlaw_1 &&& (3 : Int32))), .unset, .unset, .unset, .unset, .unset, .unset, .unset, .unset, .unset, .unset]) rfl ?_
  generalize hv3 : (xlaw_1 &&& (3 : Int32)) = v3
  refine Ow.iloadN X0 hx (pc' := 6) (hb hby at_5) rfl ?_
  refine Ow.iconst X0 hx (pc' := 7) (hb hby at_6) (z := (2 : Int32)) rfl ?_
  refine Ow.iushr X0 hx (pc' := 8) (hb hby at_7) (z := ((xlaw_1.toUInt32 >>> ((2 : Int32) &&& 31).toUInt32).toInt32)) rfl ?_
  refine Ow.iconst X0 hx (pc' := 9) (hb hby at_8) (z := (3 : Int32)) rfl ?_
  refine Ow.iand X0 hx (pc' := 10) (hb hby at_9) (z := (((xlaw_1.toUInt32 >>> ((2 : Int32) &&& 31).toUInt32).toInt32) &&& (3 : Int32))) rfl ?_
  refine Ow.istore X0 hx (pc' := 12) (hb hby at_10) (l' := #[.val (.int xlaw_1), .val (.int xlaw_2), .val (.int xlaw_3), .val (.int xlaw_4), .val (.int xlaw_5), .val (.int v3), .val (.int (((xlaw_1.toUInt32 >>> ((2 : Int32) &&& 31).toUInt32).toInt32) &&& (3 : Int32))), .unset, .unset, .unset, .unset, .unset, .unset, .unset, .unset, .unset]) rfl ?_
  generalize hv10 : (((xlaw_1.toUInt32 >>> ((2 : Int32) &&& 31).toUInt32).toInt32) &&& (3 : Int32)) = v10
  refine Ow.iloadN X0 hx (pc' := 13) (hb hby at_12) rfl ?_
  refine Ow.i2b X0 hx (pc' := 14) (hb hby at_13) (z := (xlaw_2.toInt8.toInt32)) rfl ?_
  refine Ow.istore X0 hx (pc' := 16) (hb hby at_14) (l' := #[.val (.int xlaw_1), .val (.int xlaw_2), .val (.int xlaw_3), .val (.int xlaw_4), .val (.int xlaw_5), .val (.int v3), .val (.int v10), .val (.int (xlaw_2.toInt8.toInt32)), .unset, .unset, .unset, .unset, .unset, .unset, .unset, .unset]) rfl ?_
  generalize hv14 : (xlaw_2.toInt8.toInt32) = v14
  refine Ow.iloadN X0 hx (pc' := 17) (hb hby at_16) rfl ?_
  refine Ow.i2b X0 hx (pc' := 18) (hb hby at_17) (z := (xlaw_3.toInt8.toInt32)) rfl ?_
  refine Ow.istore X0 hx (pc' := 20) (hb hby at_18) (l' := #[.val (.int xlaw_1), .val (.int xlaw_2), .val (.int xlaw_3), .val (.int xlaw_4), .val (.int xlaw_5), .val (.int v3), .val (.int v10), .val (.int v14), .val (.int (xlaw_3.toInt8.toInt32)), .unset, .unset, .unset, .unset, .unset, .unset, .unset]) rfl ?_
  generalize hv18 : (xlaw_3.toInt8.toInt32) = v18
  refine Ow.iloadN X0 hx (pc' := 21) (hb hby at_20) rfl ?_
  refine Ow.i2b X0 hx (pc' := 22) (hb hby at_21) (z := (xlaw_4.toInt8.toInt32)) rfl ?_
  refine Ow.istore X0 hx (pc' := 24) (hb hby at_22) (l' := #[.val (.int xlaw_1), .val (.int xlaw_2), .val (.int xlaw_3), .val (.int xlaw_4), .val (.int xlaw_5), .val (.int v3), .val (.int v10), .val (.int v14), .val (.int v18), .val (.int (xlaw_4.toInt8.toInt32)), .unset, .unset, .unset, .unset, .unset, .unset]) rfl ?_
  generalize hv22 : (xlaw_4.toInt8.toInt32) = v22
  rcases own_m4 hv3 with rfl | rfl | rfl | rfl
  · skip
    show Wq _ _ _ _ _ (s₁.setTop (mkF m 24 #[.val (.int xlaw_1), .val (.int xlaw_2), .val (.int xlaw_3), .val (.int xlaw_4), .val (.int xlaw_5), .val (.int (0 : Int32)), .val (.int v10), .val (.int v14), .val (.int v18), .val (.int v22), .unset, .unset, .unset, .unset, .unset, .unset] []))
    refine Ow.iconst X0 hx (pc' := 25) (hb hby at_24) (z := (2 : Int32)) rfl ?_
    obtain ⟨T95, h95, k95, X95, e95, E95, A95, Ex95, st95⟩ := newPE X0 hx hZ (aty := .byte) (kw0 hw) e0 (g := (mkF m 25 #[.val (.int xlaw_1), .val (.int xlaw_2), .val (.int xlaw_3), .val (.int xlaw_4), .val (.int xlaw_5), .val (.int (0 : Int32)), .val (.int v10), .val (.int v14), .val (.int v18), .val (.int v22), .unset, .unset, .unset, .unset, .unset, .unset] [(.int (2 : Int32))])) rfl (hb hby at_25) rfl (by decide) (cap := 2) (by decide) (by decide) (by decide) (by decide) (ad := "[B") (by decide)
    obtain ⟨b95, gz95⟩ : ∃ z, z = h0.size := ⟨_, rfl⟩
    rw [← gz95] at A95 Ex95 st95
    have g_b95 : n0 ≤ b95 := Nat.le_trans Z0 (Nat.le_of_eq gz95.symm)
    have sz_b95 : h0.size ≤ b95 := Nat.le_of_eq gz95.symm
    have ne_uNONE_b95 : uNONE ≠ b95 := Nat.ne_of_lt (Nat.lt_of_lt_of_le E_uNONE.lt (Nat.le_of_eq gz95.symm))
    have ne_ucl_b95 : ucl ≠ b95 := Nat.ne_of_lt (Nat.lt_of_lt_of_le V_ucl.lt (Nat.le_of_eq gz95.symm))
    have K95 : Keep h0 h95 [] := (Keep.refl h0 []).ext E95
    have Z95 : n0 ≤ h95.size := Nat.le_trans Z0 E95.1
    have hk95 := Nat.le_trans hk0 E95.1
    have S_NONE_t95 := S_NONE.ext E95
    have E_uNONE_t95 := E_uNONE.ext E95
    have S_high_t95 := S_high.ext E95
    have S_cache_t95 := S_cache.ext E95
    have V_ucl_t95 := V_ucl.ext E95
    have V_b95 : Al Z h95 b95 .byte [(.int (0 : Int32)), (.int (0 : Int32))] := Al.new A95 (k := 2) (rfl) rfl
    refine Wq.step st95 ?_
    show Wq _ _ _ _ _ (T95.setTop (mkF m 27 #[.val (.int xlaw_1), .val (.int xlaw_2), .val (.int xlaw_3), .val (.int xlaw_4), .val (.int xlaw_5), .val (.int (0 : Int32)), .val (.int v10), .val (.int v14), .val (.int v18), .val (.int v22), .unset, .unset, .unset, .unset, .unset, .unset] [(.ref b95)]))
    refine Ow.dup X95 hx (pc' := 28) (hb hby at_27) rfl ?_
    refine Ow.iconst X95 hx (pc' := 29) (hb hby at_28) (z := (0 : Int32)) rfl ?_
    refine Ow.iload X95 hx (pc' := 31) (hb hby at_29) rfl ?_
    obtain ⟨T96, h96, X96, e96, W96, Vr96, st96⟩ := asB X95 hx hZ e95 V_b95 (j := (0 : Int32)) (i := 0) (by decide) rfl (Nat.le_of_ble_eq_true rfl) (y := v22) (own_nar hv22) (g := (mkF m 31 #[.val (.int xlaw_1), .val (.int xlaw_2), .val (.int xlaw_3), .val (.int xlaw_4), .val (.int xlaw_5), .val (.int (0 : Int32)), .val (.int v10), .val (.int v14), .val (.int v18), .val (.int v22), .unset, .unset, .unset, .unset, .unset, .unset] [(.int v22), (.int (0 : Int32)), (.ref b95), (.ref b95)])) rfl rfl (hb hby at_31)
    refine Wq.step st96 ?_
    have N96 := Fr.snoc X96 N0 g_b95
    have K96 : Keep h0 h96 [] := K95.wr W96 (Or.inr sz_b95)
    have Z96 : n0 ≤ h96.size := Nat.le_trans Z95 (Keep.of_wr W96).1
    have hk96 := Nat.le_trans hk95 (Keep.of_wr W96).1
    have S_NONE_t96 := S_NONE_t95.wr W96
    have E_uNONE_t96 := E_uNONE_t95.wr W96
    have S_high_t96 := S_high_t95.wr W96
    have S_cache_t96 := S_cache_t95.wr W96
    have V_ucl_t96 := V_ucl_t95.other W96 ne_ucl_b95
    have Ex95_t96 := Ex95.wr W96
    have V_b95_t96 : Al Z h96 b95 .byte [(.int v22), (.int (0 : Int32))] := Vr96
    show Wq _ _ _ _ _ (T96.setTop (mkF m 32 #[.val (.int xlaw_1), .val (.int xlaw_2), .val (.int xlaw_3), .val (.int xlaw_4), .val (.int xlaw_5), .val (.int (0 : Int32)), .val (.int v10), .val (.int v14), .val (.int v18), .val (.int v22), .unset, .unset, .unset, .unset, .unset, .unset] [(.ref b95)]))
    refine Ow.dup X96 hx (pc' := 33) (hb hby at_32) rfl ?_
    refine Ow.iconst X96 hx (pc' := 34) (hb hby at_33) (z := (1 : Int32)) rfl ?_
    refine Ow.iload X96 hx (pc' := 36) (hb hby at_34) rfl ?_
    obtain ⟨T97, h97, X97, e97, W97, Vr97, st97⟩ := asB X96 hx hZ e96 V_b95_t96 (j := (1 : Int32)) (i := 1) (by decide) rfl (Nat.le_of_ble_eq_true rfl) (y := v14) (own_nar hv14) (g := (mkF m 36 #[.val (.int xlaw_1), .val (.int xlaw_2), .val (.int xlaw_3), .val (.int xlaw_4), .val (.int xlaw_5), .val (.int (0 : Int32)), .val (.int v10), .val (.int v14), .val (.int v18), .val (.int v22), .unset, .unset, .unset, .unset, .unset, .unset] [(.int v14), (.int (1 : Int32)), (.ref b95), (.ref b95)])) rfl rfl (hb hby at_36)
    refine Wq.step st97 ?_
    have N97 := Fr.snoc X97 N96 g_b95
    have K97 : Keep h0 h97 [] := K96.wr W97 (Or.inr sz_b95)
    have Z97 : n0 ≤ h97.size := Nat.le_trans Z96 (Keep.of_wr W97).1
    have hk97 := Nat.le_trans hk96 (Keep.of_wr W97).1
    have S_NONE_t97 := S_NONE_t96.wr W97
    have E_uNONE_t97 := E_uNONE_t96.wr W97
    have S_high_t97 := S_high_t96.wr W97
    have S_cache_t97 := S_cache_t96.wr W97
    have V_ucl_t97 := V_ucl_t96.other W97 ne_ucl_b95
    have Ex95_t97 := Ex95_t96.wr W97
    have V_b95_t97 : Al Z h97 b95 .byte [(.int v22), (.int v14)] := Vr97
    show Wq _ _ _ _ _ (T97.setTop (mkF m 37 #[.val (.int xlaw_1), .val (.int xlaw_2), .val (.int xlaw_3), .val (.int xlaw_4), .val (.int xlaw_5), .val (.int (0 : Int32)), .val (.int v10), .val (.int v14), .val (.int v18), .val (.int v22), .unset, .unset, .unset, .unset, .unset, .unset] [(.ref b95)]))
    refine Ow.astore X97 hx (pc' := 39) (hb hby at_37) rfl (l' := #[.val (.int xlaw_1), .val (.int xlaw_2), .val (.int xlaw_3), .val (.int xlaw_4), .val (.int xlaw_5), .val (.int (0 : Int32)), .val (.int v10), .val (.int v14), .val (.int v18), .val (.int v22), .val (.ref b95), .unset, .unset, .unset, .unset, .unset]) rfl ?_
    refine Ow.aconstNull X97 hx (pc' := 40) (hb hby at_39)  ?_
    refine Ow.astore X97 hx (pc' := 42) (hb hby at_40) rfl (l' := #[.val (.int xlaw_1), .val (.int xlaw_2), .val (.int xlaw_3), .val (.int xlaw_4), .val (.int xlaw_5), .val (.int (0 : Int32)), .val (.int v10), .val (.int v14), .val (.int v18), .val (.int v22), .val (.ref b95), .val .null, .unset, .unset, .unset, .unset]) rfl ?_
    refine Ow.iload X97 hx (pc' := 44) (hb hby at_42) rfl ?_
    refine Ow.iconst X97 hx (pc' := 45) (hb hby at_44) (z := (2 : Int32)) rfl ?_
    refine Ow.icmpYes X97 hx (pc' := 89) (hb hby at_45) (tlt (by decide : (0 : Int32) < (2 : Int32))).1 (by decide) (by decide) ?_
    refine Ow.iload X97 hx (pc' := 91) (hb hby at_89) rfl ?_
    refine Ow.iconst X97 hx (pc' := 92) (hb hby at_91) (z := (1 : Int32)) rfl ?_
    refine Ow.icmpYes X97 hx (pc' := 103) (hb hby at_92) (feq (by decide : ¬ ((0 : Int32) = (1 : Int32)))).2 (by decide) (by decide) ?_
    refine Ow.aconstNull X97 hx (pc' := 104) (hb hby at_103)  ?_
    refine Ow.astore X97 hx (pc' := 106) (hb hby at_104) rfl (l' := #[.val (.int xlaw_1), .val (.int xlaw_2), .val (.int xlaw_3), .val (.int xlaw_4), .val (.int xlaw_5), .val (.int (0 : Int32)), .val (.int v10), .val (.int v14), .val (.int v18), .val (.int v22), .val (.ref b95), .val .null, .val .null, .unset, .unset, .unset]) rfl ?_
    obtain ⟨T98, h98, X98, e98, E98, A98, D98, -, st98⟩ := newO X97 hx hZ hown (kw1 hw) (kw2 hw) (kw3 hw) e97 (g := (mkF m 106 #[.val (.int xlaw_1), .val (.int xlaw_2), .val (.int xlaw_3), .val (.int xlaw_4), .val (.int xlaw_5), .val (.int (0 : Int32)), .val (.int v10), .val (.int v14), .val (.int v18), .val (.int v22), .val (.ref b95), .val .null, .val .null, .unset, .unset, .unset] [])) rfl (hb hby at_106) (by decide) (by decide)
    obtain ⟨o98, gz98⟩ : ∃ z, z = h97.size := ⟨_, rfl⟩
    rw [← gz98] at A98 D98 st98
    have g_o98 : n0 ≤ o98 := Nat.le_trans Z97 (Nat.le_of_eq gz98.symm)
    have sz_o98 : h0.size ≤ o98 := Nat.le_trans K97.1 (Nat.le_of_eq gz98.symm)
    have ne_uNONE_o98 : uNONE ≠ o98 := Nat.ne_of_lt (Nat.lt_of_lt_of_le E_uNONE_t97.lt (Nat.le_of_eq gz98.symm))
    have ne_ucl_o98 : ucl ≠ o98 := Nat.ne_of_lt (Nat.lt_of_lt_of_le V_ucl_t97.lt (Nat.le_of_eq gz98.symm))
    have ne_b95_o98 : b95 ≠ o98 := Nat.ne_of_lt (Nat.lt_of_lt_of_le Ex95_t97.lt (Nat.le_of_eq gz98.symm))
    have K98 : Keep h0 h98 [] := K97.ext E98
    have Z98 : n0 ≤ h98.size := Nat.le_trans Z97 E98.1
    have hk98 := Nat.le_trans hk97 E98.1
    have S_NONE_t98 := S_NONE_t97.ext E98
    have E_uNONE_t98 := E_uNONE_t97.ext E98
    have S_high_t98 := S_high_t97.ext E98
    have S_cache_t98 := S_cache_t97.ext E98
    have V_ucl_t98 := V_ucl_t97.ext E98
    have Ex95_t98 := Ex95_t97.ext E98
    have V_b95_t98 := V_b95_t97.ext E98
    refine Wq.step st98 ?_
    have F_o98_unknownElements : Fld Z h98 o98 "com/example/opwire/opwire/codec/tcap/TcapMessage" "unknownElements" "Lcom/example/opwire/opwire/codec/ber/UnknownElements;" .null := D98 (Or.inr (kw35 hw)) (ty := (.object "com/example/opwire/opwire/codec/ber/UnknownElements")) (by decide)
    have F_o98_destinationTransactionId : Fld Z h98 o98 "com/example/opwire/opwire/codec/tcap/Abort" "destinationTransactionId" "[B" .null := D98 (Or.inr (kw46 hw)) (ty := (.array .byte)) (by decide)
    have F_o98_pAbortCause : Fld Z h98 o98 "com/example/opwire/opwire/codec/tcap/Abort" "pAbortCause" "Ljava/lang/Integer;" .null := D98 (Or.inr (kw48 hw)) (ty := (.object "java/lang/Integer")) (by decide)
    have F_o98_userAbortInformation : Fld Z h98 o98 "com/example/opwire/opwire/codec/tcap/Abort" "userAbortInformation" "[B" .null := D98 (Or.inr (kw50 hw)) (ty := (.array .byte)) (by decide)
    show Wq _ _ _ _ _ (T98.setTop (mkF m 109 #[.val (.int xlaw_1), .val (.int xlaw_2), .val (.int xlaw_3), .val (.int xlaw_4), .val (.int xlaw_5), .val (.int (0 : Int32)), .val (.int v10), .val (.int v14), .val (.int v18), .val (.int v22), .val (.ref b95), .val .null, .val .null, .unset, .unset, .unset] [(.ref o98)]))
    refine Ow.dup X98 hx (pc' := 110) (hb hby at_109) rfl ?_
    refine Ow.aload X98 hx (pc' := 112) (hb hby at_110) rfl rfl ?_
    refine Ow.aload X98 hx (pc' := 114) (hb hby at_112) rfl rfl ?_
    refine Ow.aload X98 hx (pc' := 116) (hb hby at_114) rfl rfl ?_
    obtain ⟨_, _, ⟨T99, L99, k99, n99⟩, -, Xr99, hSr99, hgr99, ⟨Lc99, hQ99, l99, y99, z99⟩, st99⟩ := X98.specialBackS hx (y := mt4) rfl hown (mvT hZ (kw4 hw)) (mvT hZ (kw5 hw)) (mvT hZ (kw6 hw)) (by decide) (backOfS (W := 1) (rm_an l Z a0 hw [] o98 b95 v22 v14 uNONE h98 n0 Z98 A98 F_o98_unknownElements F_o98_destinationTransactionId F_o98_pAbortCause F_o98_userAbortInformation g_o98 V_b95_t98 Ex95_t98 ne_b95_o98 (own_fc (own_fb hv22) (own_fc (own_fb hv14) own_f0)) S_NONE_t98 E_uNONE_t98) hZ (kw6 hw) (kw3 hw) (by decide) (by decide)) (g := (mkF m 116 #[.val (.int xlaw_1), .val (.int xlaw_2), .val (.int xlaw_3), .val (.int xlaw_4), .val (.int xlaw_5), .val (.int (0 : Int32)), .val (.int v10), .val (.int v14), .val (.int v18), .val (.int v22), .val (.ref b95), .val .null, .val .null, .unset, .unset, .unset] [.null, .null, (.ref b95), (.ref o98), (.ref o98)])) rfl (by rw [hml]; rfl) (Steps.refl _) (a := o98) (argsL := [(.ref b95), .null, .null]) (rest := [(.ref o98)]) (lenOf pd6 rfl) rfl (by show 2 * 0 + _ ≤ _; exact Nat.le_of_eq rfl) (hb hby at_116) (fun _ _ => ⟨rfl, e98, (by decide : 2 + 3 ≤ _), (by decide : 6 + 66 ≤ _)⟩)
    dsimp only [Pt.U, Pt.locs, Pt.cells, Pt.slots] at Xr99 hSr99 hgr99 l99 y99 z99 st99 hQ99
    subst l99 y99 z99
    obtain ⟨X99, hS99, hZ99, hown99⟩ := rebS hS0 (by rw [e98]; exact hk98) Xr99 hSr99 hgr99 hZ hown
    have hk99 := Nat.le_refl T99.heap.size
    obtain ⟨b7_c13_c99, rfl, Nq99, Kq99, szq_b7_c13_c99, P99_0, P99_1, P99_2, P99_3, P99_4, P99_5, P99_6⟩ := hQ99
    have g_b7_c13_c99 : n0 ≤ b7_c13_c99 := Nat.le_trans Z98 szq_b7_c13_c99
    have sz_b7_c13_c99 : h0.size ≤ b7_c13_c99 := Nat.le_trans K98.1 szq_b7_c13_c99
    have ne_uNONE_b7_c13_c99 : uNONE ≠ b7_c13_c99 := Nat.ne_of_lt (Nat.lt_of_lt_of_le E_uNONE_t98.lt szq_b7_c13_c99)
    have ne_ucl_b7_c13_c99 : ucl ≠ b7_c13_c99 := Nat.ne_of_lt (Nat.lt_of_lt_of_le V_ucl_t98.lt szq_b7_c13_c99)
    have ne_b95_b7_c13_c99 : b95 ≠ b7_c13_c99 := Nat.ne_of_lt (Nat.lt_of_lt_of_le Ex95_t98.lt szq_b7_c13_c99)
    have ne_o98_b7_c13_c99 : o98 ≠ b7_c13_c99 := Nat.ne_of_lt (Nat.lt_of_lt_of_le A98.lt szq_b7_c13_c99)
    have N99 := Fr.app N97 Nq99
    have K99 : Keep h0 T99.heap [] := K98.trans Kq99 (allS (P := fun x => x ∈ [] ∨ h0.size ≤ x) (Or.inr sz_o98) all0)
    have Z99 : n0 ≤ T99.heap.size := Nat.le_trans Z98 Kq99.1
    have S_NONE_t99 := Jvm.OwnW.Sta.keepN S_NONE_t98 Kq99 (allS (P := fun w => ∀ cell : Cell, h98[w]? = some cell → cell.vm.isStatics = false) (Jvm.OwnW.Exa.ns A98) all0)
    have E_uNONE_t99 := E_uNONE_t98.keep Kq99
    have S_high_t99 := Jvm.OwnW.Sta.keepN S_high_t98 Kq99 (allS (P := fun w => ∀ cell : Cell, h98[w]? = some cell → cell.vm.isStatics = false) (Jvm.OwnW.Exa.ns A98) all0)
    have S_cache_t99 := Jvm.OwnW.Sta.keepN S_cache_t98 Kq99 (allS (P := fun w => ∀ cell : Cell, h98[w]? = some cell → cell.vm.isStatics = false) (Jvm.OwnW.Exa.ns A98) all0)
    have V_ucl_t99 := V_ucl_t98.keep Kq99 (ninS ne_ucl_o98 nin0)
    have Ex95_t99 := Ex95_t98.keep Kq99
    have V_b95_t99 := V_b95_t98.keep Kq99 (ninS ne_b95_o98 nin0)
    have A98_t99 := A98.keep Kq99
    have e99 : T99.heap = T99.heap := rfl
    refine Wq.steps st99 ?_
    show Wq _ _ _ _ _ (T99.setTop (mkF m 119 #[.val (.int xlaw_1), .val (.int xlaw_2), .val (.int xlaw_3), .val (.int xlaw_4), .val (.int xlaw_5), .val (.int (0 : Int32)), .val (.int v10), .val (.int v14), .val (.int v18), .val (.int v22), .val (.ref b95), .val .null, .val .null, .unset, .unset, .unset] [(.ref o98)]))
    refine Ow.astore X99 hx (pc' := 121) (hb hby at_119) rfl (l' := #[.val (.int xlaw_1), .val (.int xlaw_2), .val (.int xlaw_3), .val (.int xlaw_4), .val (.int xlaw_5), .val (.int (0 : Int32)), .val (.int v10), .val (.int v14), .val (.int v18), .val (.int v22), .val (.ref b95), .val .null, .val .null, .val (.ref o98), .unset, .unset]) rfl ?_
    refine Ow.aload X99 hx (pc' := 123) (hb hby at_121) rfl rfl ?_
    obtain ⟨cq100, kq100, q100a, q100b, q100c⟩ := isOf hZ99 e99 A98_t99
    obtain ⟨_, _, ⟨T100, L100, k100, n100⟩, -, X100, ⟨Lc100, hQ100, l100, y100, z100⟩, st100⟩ := X99.virtualBack hx (y := mt5) (z := mt5) hown99 (mvT hZ99 (kw51 hw)) (mvT hZ99 (kw52 hw)) (notFace_of_selects (args := #[]) (mvT hZ99 (kw54 hw))) (mvT hZ99 (kw54 hw)) (mvT hZ99 (kw53 hw)) (by decide) (backOf (W := 0) (rm_uin l Z a0 hw [] o98 T99.heap n0 Z99 P99_6) hZ99 (kw55 hw) (kw3 hw) (by decide) (by decide)) q100a q100c (g := (mkF m 123 #[.val (.int xlaw_1), .val (.int xlaw_2), .val (.int xlaw_3), .val (.int xlaw_4), .val (.int xlaw_5), .val (.int (0 : Int32)), .val (.int v10), .val (.int v14), .val (.int v18), .val (.int v22), .val (.ref b95), .val .null, .val .null, .val (.ref o98), .unset, .unset] [(.ref o98)])) rfl (by rw [hml]; rfl) (Steps.refl _) (argsL := []) (rest := []) (lenOf pd7 rfl) rfl (by show 2 * 0 + _ ≤ _; exact Nat.le_of_eq rfl) (hb hby at_123) (fun _ _ => ⟨rfl, e99, (by decide : 5 + 0 ≤ _), (by decide : 72 + 0 ≤ _)⟩)
    dsimp only [Pt.U, Pt.locs, Pt.cells, Pt.slots] at X100 l100 y100 z100 st100 hQ100
    subst l100 y100 z100
    obtain ⟨rfl, Nq100, e100⟩ := hQ100
    have N100 := Fr.app N99 Nq100
    refine Wq.steps st100 ?_
    show Wq _ _ _ _ _ (T100.setTop (mkF m 126 #[.val (.int xlaw_1), .val (.int xlaw_2), .val (.int xlaw_3), .val (.int xlaw_4), .val (.int xlaw_5), .val (.int (0 : Int32)), .val (.int v10), .val (.int v14), .val (.int v18), .val (.int v22), .val (.ref b95), .val .null, .val .null, .val (.ref o98), .unset, .unset] [.null]))
    refine Ow.astore X100 hx (pc' := 128) (hb hby at_126) rfl (l' := #[.val (.int xlaw_1), .val (.int xlaw_2), .val (.int xlaw_3), .val (.int xlaw_4), .val (.int xlaw_5), .val (.int (0 : Int32)), .val (.int v10), .val (.int v14), .val (.int v18), .val (.int v22), .val (.ref b95), .val .null, .val .null, .val (.ref o98), .val .null, .unset]) rfl ?_
    refine Ow.aload X100 hx (pc' := 130) (hb hby at_128) rfl rfl ?_
    refine Ow.ifnonnullNo X100 hx (pc' := 133) (hb hby at_130)  ?_
    refine Ow.aload X100 hx (pc' := 135) (hb hby at_133) rfl rfl ?_
    refine Ow.ifnonnullNo X100 hx (pc' := 138) (hb hby at_135)  ?_
    refine Ow.aload X100 hx (pc' := 140) (hb hby at_138) rfl rfl ?_
    obtain ⟨cq101, kq101, q101a, q101b, q101c⟩ := isOf hZ99 e100 A98_t99
    obtain ⟨_, _, ⟨T101, L101, k101, n101⟩, -, X101, ⟨Lc101, hQ101, l101, y101, z101⟩, st101⟩ := X100.virtualBack hx (y := mt5) (z := mt5) hown99 (mvT hZ99 (kw51 hw)) (mvT hZ99 (kw52 hw)) (notFace_of_selects (args := #[]) (mvT hZ99 (kw54 hw))) (mvT hZ99 (kw54 hw)) (mvT hZ99 (kw53 hw)) (by decide) (backOf (W := 0) (rm_uin l Z a0 hw [] o98 T99.heap n0 Z99 P99_6) hZ99 (kw55 hw) (kw3 hw) (by decide) (by decide)) q101a q101c (g := (mkF m 140 #[.val (.int xlaw_1), .val (.int xlaw_2), .val (.int xlaw_3), .val (.int xlaw_4), .val (.int xlaw_5), .val (.int (0 : Int32)), .val (.int v10), .val (.int v14), .val (.int v18), .val (.int v22), .val (.ref b95), .val .null, .val .null, .val (.ref o98), .val .null, .unset] [(.ref o98)])) rfl (by rw [hml]; rfl) (Steps.refl _) (argsL := []) (rest := []) (lenOf pd7 rfl) rfl (by show 2 * 0 + _ ≤ _; exact Nat.le_of_eq rfl) (hb hby at_140) (fun _ _ => ⟨rfl, e100, (by decide : 5 + 0 ≤ _), (by decide : 72 + 0 ≤ _)⟩)
    dsimp only [Pt.U, Pt.locs, Pt.cells, Pt.slots] at X101 l101 y101 z101 st101 hQ101
    subst l101 y101 z101
    obtain ⟨rfl, Nq101, e101⟩ := hQ101
    have N101 := Fr.app N100 Nq101
    refine Wq.steps st101 ?_
    show Wq _ _ _ _ _ (T101.setTop (mkF m 143 #[.val (.int xlaw_1), .val (.int xlaw_2), .val (.int xlaw_3), .val (.int xlaw_4), .val (.int xlaw_5), .val (.int (0 : Int32)), .val (.int v10), .val (.int v14), .val (.int v18), .val (.int v22), .val (.ref b95), .val .null, .val .null, .val (.ref o98), .val .null, .unset] [.null]))
    refine Ow.ifnonnullNo X101 hx (pc' := 146) (hb hby at_143)  ?_
    refine Ow.iconst X101 hx (pc' := 147) (hb hby at_146) (z := (1 : Int32)) rfl ?_
    refine Ow.goto X101 hx (pc' := 151) (hb hby at_147) (by decide) (by decide) ?_
    exact Wq.retW X101 hS99 (by rw [e101]; exact hk99) (BodyLoose.notSynchronized Bd) (rv := some (.int (1 : Int32))) (fun h => by rw [Bd.returns] at h; cases h) (fun _ hr => retN X101 hx (t := .boolean) Bd.returns (by simp) (hb hby at_151) hr) (by decide) (by decide) ⟨rfl, N101⟩
  · skip
    show Wq _ _ _ _ _ (s₁.setTop (mkF m 24 #[.val (.int xlaw_1), .val (.int xlaw_2), .val (.int xlaw_3), .val (.int xlaw_4), .val (.int xlaw_5), .val (.int (1 : Int32)), .val (.int v10), .val (.int v14), .val (.int v18), .val (.int v22), .unset, .unset, .unset, .unset, .unset, .unset] []))
    refine Ow.iconst X0 hx (pc' := 25) (hb hby at_24) (z := (2 : Int32)) rfl ?_
    obtain ⟨T102, h102, k102, X102, e102, E102, A102, Ex102, st102⟩ := newPE X0 hx hZ (aty := .byte) (kw0 hw) e0 (g := (mkF m 25 #[.val (.int xlaw_1), .val (.int xlaw_2), .val (.int xlaw_3), .val (.int xlaw_4), .val (.int xlaw_5), .val (.int (1 : Int32)), .val (.int v10), .val (.int v14), .val (.int v18), .val (.int v22), .unset, .unset, .unset, .unset, .unset, .unset] [(.int (2 : Int32))])) rfl (hb hby at_25) rfl (by decide) (cap := 2) (by decide) (by decide) (by decide) (by decide) (ad := "[B") (by decide)
    obtain ⟨b102, gz102⟩ : ∃ z, z = h0.size := ⟨_, rfl⟩
    rw [← gz102] at A102 Ex102 st102
    have g_b102 : n0 ≤ b102 := Nat.le_trans Z0 (Nat.le_of_eq gz102.symm)
    have sz_b102 : h0.size ≤ b102 := Nat.le_of_eq gz102.symm
    have ne_uNONE_b102 : uNONE ≠ b102 := Nat.ne_of_lt (Nat.lt_of_lt_of_le E_uNONE.lt (Nat.le_of_eq gz102.symm))
    have ne_ucl_b102 : ucl ≠ b102 := Nat.ne_of_lt (Nat.lt_of_lt_of_le V_ucl.lt (Nat.le_of_eq gz102.symm))
    have K102 : Keep h0 h102 [] := (Keep.refl h0 []).ext E102
    have Z102 : n0 ≤ h102.size := Nat.le_trans Z0 E102.1
    have hk102 := Nat.le_trans hk0 E102.1
    have S_NONE_t102 := S_NONE.ext E102
    have E_uNONE_t102 := E_uNONE.ext E102
    have S_high_t102 := S_high.ext E102
    have S_cache_t102 := S_cache.ext E102
    have V_ucl_t102 := V_ucl.ext E102
    have V_b102 : Al Z h102 b102 .byte [(.int (0 : Int32)), (.int (0 : Int32))] := Al.new A102 (k := 2) (rfl) rfl
    refine Wq.step st102 ?_
    show Wq _ _ _ _ _ (T102.setTop (mkF m 27 #[.val (.int xlaw_1), .val (.int xlaw_2), .val (.int xlaw_3), .val (.int xlaw_4), .val (.int xlaw_5), .val (.int (1 : Int32)), .val (.int v10), .val (.int v14), .val (.int v18), .val (.int v22), .unset, .unset, .unset, .unset, .unset, .unset] [(.ref b102)]))
    refine Ow.dup X102 hx (pc' := 28) (hb hby at_27) rfl ?_
    refine Ow.iconst X102 hx (pc' := 29) (hb hby at_28) (z := (0 : Int32)) rfl ?_
    refine Ow.iload X102 hx (pc' := 31) (hb hby at_29) rfl ?_
    obtain ⟨T103, h103, X103, e103, W103, Vr103, st103⟩ := asB X102 hx hZ e102 V_b102 (j := (0 : Int32)) (i := 0) (by decide) rfl (Nat.le_of_ble_eq_true rfl) (y := v22) (own_nar hv22) (g := (mkF m 31 #[.val (.int xlaw_1), .val (.int xlaw_2), .val (.int xlaw_3), .val (.int xlaw_4), .val (.int xlaw_5), .val (.int (1 : Int32)), .val (.int v10), .val (.int v14), .val (.int v18), .val (.int v22), .unset, .unset, .unset, .unset, .unset, .unset] [(.int v22), (.int (0 : Int32)), (.ref b102), (.ref b102)])) rfl rfl (hb hby at_31)
    refine Wq.step st103 ?_
    have N103 := Fr.snoc X103 N0 g_b102
    have K103 : Keep h0 h103 [] := K102.wr W103 (Or.inr sz_b102)
    have Z103 : n0 ≤ h103.size := Nat.le_trans Z102 (Keep.of_wr W103).1
    have hk103 := Nat.le_trans hk102 (Keep.of_wr W103).1
    have S_NONE_t103 := S_NONE_t102.wr W103
    have E_uNONE_t103 := E_uNONE_t102.wr W103
    have S_high_t103 := S_high_t102.wr W103
    have S_cache_t103 := S_cache_t102.wr W103
    have V_ucl_t103 := V_ucl_t102.other W103 ne_ucl_b102
    have Ex102_t103 := Ex102.wr W103
    have V_b102_t103 : Al Z h103 b102 .byte [(.int v22), (.int (0 : Int32))] := Vr103
    show Wq _ _ _ _ _ (T103.setTop (mkF m 32 #[.val (.int xlaw_1), .val (.int xlaw_2), .val (.int xlaw_3), .val (.int xlaw_4), .val (.int xlaw_5), .val (.int (1 : Int32)), .val (.int v10), .val (.int v14), .val (.int v18), .val (.int v22), .unset, .unset, .unset, .unset, .unset, .unset] [(.ref b102)]))
    refine Ow.dup X103 hx (pc' := 33) (hb hby at_32) rfl ?_
    refine Ow.iconst X103 hx (pc' := 34) (hb hby at_33) (z := (1 : Int32)) rfl ?_
    refine Ow.iload X103 hx (pc' := 36) (hb hby at_34) rfl ?_
    obtain ⟨T104, h104, X104, e104, W104, Vr104, st104⟩ := asB X103 hx hZ e103 V_b102_t103 (j := (1 : Int32)) (i := 1) (by decide) rfl (Nat.le_of_ble_eq_true rfl) (y := v14) (own_nar hv14) (g := (mkF m 36 #[.val (.int xlaw_1), .val (.int xlaw_2), .val (.int xlaw_3), .val (.int xlaw_4), .val (.int xlaw_5), .val (.int (1 : Int32)), .val (.int v10), .val (.int v14), .val (.int v18), .val (.int v22), .unset, .unset, .unset, .unset, .unset, .unset] [(.int v14), (.int (1 : Int32)), (.ref b102), (.ref b102)])) rfl rfl (hb hby at_36)
    refine Wq.step st104 ?_
    have N104 := Fr.snoc X104 N103 g_b102
    have K104 : Keep h0 h104 [] := K103.wr W104 (Or.inr sz_b102)
    have Z104 : n0 ≤ h104.size := Nat.le_trans Z103 (Keep.of_wr W104).1
    have hk104 := Nat.le_trans hk103 (Keep.of_wr W104).1
    have S_NONE_t104 := S_NONE_t103.wr W104
    have E_uNONE_t104 := E_uNONE_t103.wr W104
    have S_high_t104 := S_high_t103.wr W104
    have S_cache_t104 := S_cache_t103.wr W104
    have V_ucl_t104 := V_ucl_t103.other W104 ne_ucl_b102
    have Ex102_t104 := Ex102_t103.wr W104
    have V_b102_t104 : Al Z h104 b102 .byte [(.int v22), (.int v14)] := Vr104
    show Wq _ _ _ _ _ (T104.setTop (mkF m 37 #[.val (.int xlaw_1), .val (.int xlaw_2), .val (.int xlaw_3), .val (.int xlaw_4), .val (.int xlaw_5), .val (.int (1 : Int32)), .val (.int v10), .val (.int v14), .val (.int v18), .val (.int v22), .unset, .unset, .unset, .unset, .unset, .unset] [(.ref b102)]))
    refine Ow.astore X104 hx (pc' := 39) (hb hby at_37) rfl (l' := #[.val (.int xlaw_1), .val (.int xlaw_2), .val (.int xlaw_3), .val (.int xlaw_4), .val (.int xlaw_5), .val (.int (1 : Int32)), .val (.int v10), .val (.int v14), .val (.int v18), .val (.int v22), .val (.ref b102), .unset, .unset, .unset, .unset, .unset]) rfl ?_
    refine Ow.aconstNull X104 hx (pc' := 40) (hb hby at_39)  ?_
    refine Ow.astore X104 hx (pc' := 42) (hb hby at_40) rfl (l' := #[.val (.int xlaw_1), .val (.int xlaw_2), .val (.int xlaw_3), .val (.int xlaw_4), .val (.int xlaw_5), .val (.int (1 : Int32)), .val (.int v10), .val (.int v14), .val (.int v18), .val (.int v22), .val (.ref b102), .val .null, .unset, .unset, .unset, .unset]) rfl ?_
    refine Ow.iload X104 hx (pc' := 44) (hb hby at_42) rfl ?_
    refine Ow.iconst X104 hx (pc' := 45) (hb hby at_44) (z := (2 : Int32)) rfl ?_
    refine Ow.icmpYes X104 hx (pc' := 89) (hb hby at_45) (tlt (by decide : (1 : Int32) < (2 : Int32))).1 (by decide) (by decide) ?_
    refine Ow.iload X104 hx (pc' := 91) (hb hby at_89) rfl ?_
    refine Ow.iconst X104 hx (pc' := 92) (hb hby at_91) (z := (1 : Int32)) rfl ?_
    refine Ow.icmpNo X104 hx (pc' := 95) (hb hby at_92) (teq (by decide : (1 : Int32) = (1 : Int32))).2 ?_
    rcases own_p3 xlaw_5 with hvp | hvp | hvp
    · skip
      show Wq _ _ _ _ _ (T104.setTop (mkF m 95 #[.val (.int xlaw_1), .val (.int xlaw_2), .val (.int xlaw_3), .val (.int xlaw_4), .val (.int xlaw_5), .val (.int (1 : Int32)), .val (.int v10), .val (.int v14), .val (.int v18), .val (.int v22), .val (.ref b102), .val .null, .unset, .unset, .unset, .unset] []))
      refine Ow.iload X104 hx (pc' := 97) (hb hby at_95) rfl ?_
      obtain ⟨_, _, ⟨T105, L105, k105, n105⟩, -, X105, ⟨Lc105, hQ105, l105, y105, z105⟩, st105⟩ := Jvm.LawKit.callS X104 hx (y := mt10) hown (mvT hZ (kw63 hw)) (mvT hZ (kw64 hw)) (mvT hZ (kw65 hw)) (mvT hZ (kw66 hw)) (by decide) (backOf (W := 0) (rm_vn1 l Z a0 hw [] xlaw_5 h104 n0 Z104 (hvp)) hZ (kw66 hw) (kw65 hw) (by decide) (by decide)) (g := (mkF m 97 #[.val (.int xlaw_1), .val (.int xlaw_2), .val (.int xlaw_3), .val (.int xlaw_4), .val (.int xlaw_5), .val (.int (1 : Int32)), .val (.int v10), .val (.int v14), .val (.int v18), .val (.int v22), .val (.ref b102), .val .null, .unset, .unset, .unset, .unset] [(.int xlaw_5)])) rfl (by rw [hml]; rfl) (argsL := [(.int xlaw_5)]) (rest := []) (lenOf pd8 rfl) rfl (by show 2 * 0 + _ ≤ _; exact Nat.le_of_eq rfl) (hb hby at_97) (fun _ _ => ⟨rfl, e104, (by decide : 1 + 1 ≤ _), (by decide : 2 + 1 ≤ _)⟩)
      dsimp only [Pt.U, Pt.locs, Pt.cells, Pt.slots] at X105 l105 y105 z105 st105 hQ105
      subst l105 y105 z105
      obtain ⟨o88_c105, rfl, Nq105, Kq105, szq_o88_c105, P105_0, P105_1⟩ := hQ105
      have g_o88_c105 : n0 ≤ o88_c105 := Nat.le_trans Z104 szq_o88_c105
      have sz_o88_c105 : h0.size ≤ o88_c105 := Nat.le_trans K104.1 szq_o88_c105
      have ne_uNONE_o88_c105 : uNONE ≠ o88_c105 := Nat.ne_of_lt (Nat.lt_of_lt_of_le E_uNONE_t104.lt szq_o88_c105)
      have ne_ucl_o88_c105 : ucl ≠ o88_c105 := Nat.ne_of_lt (Nat.lt_of_lt_of_le V_ucl_t104.lt szq_o88_c105)
      have ne_b102_o88_c105 : b102 ≠ o88_c105 := Nat.ne_of_lt (Nat.lt_of_lt_of_le Ex102_t104.lt szq_o88_c105)
      have N105 := Fr.app N104 Nq105
      have hk105 := Nat.le_trans hk104 Kq105.1
      have K105 : Keep h0 T105.heap [] := K104.trans Kq105 all0
      have Z105 : n0 ≤ T105.heap.size := Nat.le_trans Z104 Kq105.1
      have S_NONE_t105 := Jvm.OwnW.Sta.keepN S_NONE_t104 Kq105 all0
      have E_uNONE_t105 := E_uNONE_t104.keep Kq105
      have S_high_t105 := Jvm.OwnW.Sta.keepN S_high_t104 Kq105 all0
      have S_cache_t105 := Jvm.OwnW.Sta.keepN S_cache_t104 Kq105 all0
      have V_ucl_t105 := V_ucl_t104.keep Kq105 nin0
      have Ex102_t105 := Ex102_t104.keep Kq105
      have V_b102_t105 := V_b102_t104.keep Kq105 nin0
      have e105 : T105.heap = T105.heap := rfl
      refine Wq.step st105 ?_
      show Wq _ _ _ _ _ (T105.setTop (mkF m 100 #[.val (.int xlaw_1), .val (.int xlaw_2), .val (.int xlaw_3), .val (.int xlaw_4), .val (.int xlaw_5), .val (.int (1 : Int32)), .val (.int v10), .val (.int v14), .val (.int v18), .val (.int v22), .val (.ref b102), .val .null, .unset, .unset, .unset, .unset] [(.ref o88_c105)]))
      refine Ow.goto X105 hx (pc' := 104) (hb hby at_100) (by decide) (by decide) ?_
      refine Ow.astore X105 hx (pc' := 106) (hb hby at_104) rfl (l' := #[.val (.int xlaw_1), .val (.int xlaw_2), .val (.int xlaw_3), .val (.int xlaw_4), .val (.int xlaw_5), .val (.int (1 : Int32)), .val (.int v10), .val (.int v14), .val (.int v18), .val (.int v22), .val (.ref b102), .val .null, .val (.ref o88_c105), .unset, .unset, .unset]) rfl ?_
      obtain ⟨T106, h106, X106, e106, E106, A106, D106, -, st106⟩ := newO X105 hx hZ hown (kw1 hw) (kw2 hw) (kw3 hw) e105 (g := (mkF m 106 #[.val (.int xlaw_1), .val (.int xlaw_2), .val (.int xlaw_3), .val (.int xlaw_4), .val (.int xlaw_5), .val (.int (1 : Int32)), .val (.int v10), .val (.int v14), .val (.int v18), .val (.int v22), .val (.ref b102), .val .null, .val (.ref o88_c105), .unset, .unset, .unset] [])) rfl (hb hby at_106) (by decide) (by decide)
      obtain ⟨o106, gz106⟩ : ∃ z, z = T105.heap.size := ⟨_, rfl⟩
      rw [← gz106] at A106 D106 st106
      have g_o106 : n0 ≤ o106 := Nat.le_trans Z105 (Nat.le_of_eq gz106.symm)
      have sz_o106 : h0.size ≤ o106 := Nat.le_trans K105.1 (Nat.le_of_eq gz106.symm)
      have ne_uNONE_o106 : uNONE ≠ o106 := Nat.ne_of_lt (Nat.lt_of_lt_of_le E_uNONE_t105.lt (Nat.le_of_eq gz106.symm))
      have ne_ucl_o106 : ucl ≠ o106 := Nat.ne_of_lt (Nat.lt_of_lt_of_le V_ucl_t105.lt (Nat.le_of_eq gz106.symm))
      have ne_b102_o106 : b102 ≠ o106 := Nat.ne_of_lt (Nat.lt_of_lt_of_le Ex102_t105.lt (Nat.le_of_eq gz106.symm))
      have ne_o88_c105_o106 : o88_c105 ≠ o106 := Nat.ne_of_lt (Nat.lt_of_lt_of_le P105_0.lt (Nat.le_of_eq gz106.symm))
      have K106 : Keep h0 h106 [] := K105.ext E106
      have Z106 : n0 ≤ h106.size := Nat.le_trans Z105 E106.1
      have hk106 := Nat.le_trans hk105 E106.1
      have S_NONE_t106 := S_NONE_t105.ext E106
      have E_uNONE_t106 := E_uNONE_t105.ext E106
      have S_high_t106 := S_high_t105.ext E106
      have S_cache_t106 := S_cache_t105.ext E106
      have V_ucl_t106 := V_ucl_t105.ext E106
      have Ex102_t106 := Ex102_t105.ext E106
      have V_b102_t106 := V_b102_t105.ext E106
      have P105_0_t106 := P105_0.ext E106
      have P105_1_t106 := P105_1.ext E106
      refine Wq.step st106 ?_
      have F_o106_unknownElements : Fld Z h106 o106 "com/example/opwire/opwire/codec/tcap/TcapMessage" "unknownElements" "Lcom/example/opwire/opwire/codec/ber/UnknownElements;" .null := D106 (Or.inr (kw35 hw)) (ty := (.object "com/example/opwire/opwire/codec/ber/UnknownElements")) (by decide)
      have F_o106_destinationTransactionId : Fld Z h106 o106 "com/example/opwire/opwire/codec/tcap/Abort" "destinationTransactionId" "[B" .null := D106 (Or.inr (kw46 hw)) (ty := (.array .byte)) (by decide)
      have F_o106_pAbortCause : Fld Z h106 o106 "com/example/opwire/opwire/codec/tcap/Abort" "pAbortCause" "Ljava/lang/Integer;" .null := D106 (Or.inr (kw48 hw)) (ty := (.object "java/lang/Integer")) (by decide)
      have F_o106_userAbortInformation : Fld Z h106 o106 "com/example/opwire/opwire/codec/tcap/Abort" "userAbortInformation" "[B" .null := D106 (Or.inr (kw50 hw)) (ty := (.array .byte)) (by decide)
      show Wq _ _ _ _ _ (T106.setTop (mkF m 109 #[.val (.int xlaw_1), .val (.int xlaw_2), .val (.int xlaw_3), .val (.int xlaw_4), .val (.int xlaw_5), .val (.int (1 : Int32)), .val (.int v10), .val (.int v14), .val (.int v18), .val (.int v22), .val (.ref b102), .val .null, .val (.ref o88_c105), .unset, .unset, .unset] [(.ref o106)]))
      refine Ow.dup X106 hx (pc' := 110) (hb hby at_109) rfl ?_
      refine Ow.aload X106 hx (pc' := 112) (hb hby at_110) rfl rfl ?_
      refine Ow.aload X106 hx (pc' := 114) (hb hby at_112) rfl rfl ?_
      refine Ow.aload X106 hx (pc' := 116) (hb hby at_114) rfl rfl ?_
      obtain ⟨_, _, ⟨T107, L107, k107, n107⟩, -, Xr107, hSr107, hgr107, ⟨Lc107, hQ107, l107, y107, z107⟩, st107⟩ := X106.specialBackS hx (y := mt4) rfl hown (mvT hZ (kw4 hw)) (mvT hZ (kw5 hw)) (mvT hZ (kw6 hw)) (by decide) (backOfS (W := 1) (rm_ac l Z a0 hw [] o106 b102 o88_c105 v22 v14 uNONE h106 n0 Z106 A106 F_o106_unknownElements F_o106_destinationTransactionId F_o106_pAbortCause F_o106_userAbortInformation g_o106 V_b102_t106 Ex102_t106 ne_b102_o106 (own_fc (own_fb hv22) (own_fc (own_fb hv14) own_f0)) S_NONE_t106 E_uNONE_t106) hZ (kw6 hw) (kw3 hw) (by decide) (by decide)) (g := (mkF m 116 #[.val (.int xlaw_1), .val (.int xlaw_2), .val (.int xlaw_3), .val (.int xlaw_4), .val (.int xlaw_5), .val (.int (1 : Int32)), .val (.int v10), .val (.int v14), .val (.int v18), .val (.int v22), .val (.ref b102), .val .null, .val (.ref o88_c105), .unset, .unset, .unset] [.null, (.ref o88_c105), (.ref b102), (.ref o106), (.ref o106)])) rfl (by rw [hml]; rfl) (Steps.refl _) (a := o106) (argsL := [(.ref b102), (.ref o88_c105), .null]) (rest := [(.ref o106)]) (lenOf pd6 rfl) rfl (by show 2 * 0 + _ ≤ _; exact Nat.le_of_eq rfl) (hb hby at_116) (fun _ _ => ⟨rfl, e106, (by decide : 3 + 3 ≤ _), (by decide : 7 + 66 ≤ _)⟩)
      dsimp only [Pt.U, Pt.locs, Pt.cells, Pt.slots] at Xr107 hSr107 hgr107 l107 y107 z107 st107 hQ107
      subst l107 y107 z107
      obtain ⟨X107, hS107, hZ107, hown107⟩ := rebS hS0 (by rw [e106]; exact hk106) Xr107 hSr107 hgr107 hZ hown
      have hk107 := Nat.le_refl T107.heap.size
      obtain ⟨b15_c21_c107, rfl, Nq107, Kq107, szq_b15_c21_c107, P107_0, P107_1, P107_2, P107_3, P107_4, P107_5, P107_6⟩ := hQ107
      have g_b15_c21_c107 : n0 ≤ b15_c21_c107 := Nat.le_trans Z106 szq_b15_c21_c107
      have sz_b15_c21_c107 : h0.size ≤ b15_c21_c107 := Nat.le_trans K106.1 szq_b15_c21_c107
      have ne_uNONE_b15_c21_c107 : uNONE ≠ b15_c21_c107 := Nat.ne_of_lt (Nat.lt_of_lt_of_le E_uNONE_t106.lt szq_b15_c21_c107)
      have ne_ucl_b15_c21_c107 : ucl ≠ b15_c21_c107 := Nat.ne_of_lt (Nat.lt_of_lt_of_le V_ucl_t106.lt szq_b15_c21_c107)
      have ne_b102_b15_c21_c107 : b102 ≠ b15_c21_c107 := Nat.ne_of_lt (Nat.lt_of_lt_of_le Ex102_t106.lt szq_b15_c21_c107)
      have ne_o88_c105_b15_c21_c107 : o88_c105 ≠ b15_c21_c107 := Nat.ne_of_lt (Nat.lt_of_lt_of_le P105_0_t106.lt szq_b15_c21_c107)
      have ne_o106_b15_c21_c107 : o106 ≠ b15_c21_c107 := Nat.ne_of_lt (Nat.lt_of_lt_of_le A106.lt szq_b15_c21_c107)
      have N107 := Fr.app N105 Nq107
      have K107 : Keep h0 T107.heap [] := K106.trans Kq107 (allS (P := fun x => x ∈ [] ∨ h0.size ≤ x) (Or.inr sz_o106) all0)
      have Z107 : n0 ≤ T107.heap.size := Nat.le_trans Z106 Kq107.1
      have S_NONE_t107 := Jvm.OwnW.Sta.keepN S_NONE_t106 Kq107 (allS (P := fun w => ∀ cell : Cell, h106[w]? = some cell → cell.vm.isStatics = false) (Jvm.OwnW.Exa.ns A106) all0)
      have E_uNONE_t107 := E_uNONE_t106.keep Kq107
      have S_high_t107 := Jvm.OwnW.Sta.keepN S_high_t106 Kq107 (allS (P := fun w => ∀ cell : Cell, h106[w]? = some cell → cell.vm.isStatics = false) (Jvm.OwnW.Exa.ns A106) all0)
      have S_cache_t107 := Jvm.OwnW.Sta.keepN S_cache_t106 Kq107 (allS (P := fun w => ∀ cell : Cell, h106[w]? = some cell → cell.vm.isStatics = false) (Jvm.OwnW.Exa.ns A106) all0)
      have V_ucl_t107 := V_ucl_t106.keep Kq107 (ninS ne_ucl_o106 nin0)
      have Ex102_t107 := Ex102_t106.keep Kq107
      have V_b102_t107 := V_b102_t106.keep Kq107 (ninS ne_b102_o106 nin0)
      have P105_0_t107 := P105_0_t106.keep Kq107
      have P105_1_t107 := P105_1_t106.keep Kq107 (ninS ne_o88_c105_o106 nin0)
      have A106_t107 := A106.keep Kq107
      have e107 : T107.heap = T107.heap := rfl
      refine Wq.steps st107 ?_
      show Wq _ _ _ _ _ (T107.setTop (mkF m 119 #[.val (.int xlaw_1), .val (.int xlaw_2), .val (.int xlaw_3), .val (.int xlaw_4), .val (.int xlaw_5), .val (.int (1 : Int32)), .val (.int v10), .val (.int v14), .val (.int v18), .val (.int v22), .val (.ref b102), .val .null, .val (.ref o88_c105), .unset, .unset, .unset] [(.ref o106)]))
      refine Ow.astore X107 hx (pc' := 121) (hb hby at_119) rfl (l' := #[.val (.int xlaw_1), .val (.int xlaw_2), .val (.int xlaw_3), .val (.int xlaw_4), .val (.int xlaw_5), .val (.int (1 : Int32)), .val (.int v10), .val (.int v14), .val (.int v18), .val (.int v22), .val (.ref b102), .val .null, .val (.ref o88_c105), .val (.ref o106), .unset, .unset]) rfl ?_
      refine Ow.aload X107 hx (pc' := 123) (hb hby at_121) rfl rfl ?_
      obtain ⟨cq108, kq108, q108a, q108b, q108c⟩ := isOf hZ107 e107 A106_t107
      obtain ⟨_, _, ⟨T108, L108, k108, n108⟩, -, X108, ⟨Lc108, hQ108, l108, y108, z108⟩, st108⟩ := X107.virtualBack hx (y := mt5) (z := mt5) hown107 (mvT hZ107 (kw51 hw)) (mvT hZ107 (kw52 hw)) (notFace_of_selects (args := #[]) (mvT hZ107 (kw54 hw))) (mvT hZ107 (kw54 hw)) (mvT hZ107 (kw53 hw)) (by decide) (backOf (W := 0) (rm_uin l Z a0 hw [] o106 T107.heap n0 Z107 P107_6) hZ107 (kw55 hw) (kw3 hw) (by decide) (by decide)) q108a q108c (g := (mkF m 123 #[.val (.int xlaw_1), .val (.int xlaw_2), .val (.int xlaw_3), .val (.int xlaw_4), .val (.int xlaw_5), .val (.int (1 : Int32)), .val (.int v10), .val (.int v14), .val (.int v18), .val (.int v22), .val (.ref b102), .val .null, .val (.ref o88_c105), .val (.ref o106), .unset, .unset] [(.ref o106)])) rfl (by rw [hml]; rfl) (Steps.refl _) (argsL := []) (rest := []) (lenOf pd7 rfl) rfl (by show 2 * 0 + _ ≤ _; exact Nat.le_of_eq rfl) (hb hby at_123) (fun _ _ => ⟨rfl, e107, (by decide : 6 + 0 ≤ _), (by decide : 73 + 0 ≤ _)⟩)
      dsimp only [Pt.U, Pt.locs, Pt.cells, Pt.slots] at X108 l108 y108 z108 st108 hQ108
      subst l108 y108 z108
      obtain ⟨rfl, Nq108, e108⟩ := hQ108
      have N108 := Fr.app N107 Nq108
      refine Wq.steps st108 ?_
      show Wq _ _ _ _ _ (T108.setTop (mkF m 126 #[.val (.int xlaw_1), .val (.int xlaw_2), .val (.int xlaw_3), .val (.int xlaw_4), .val (.int xlaw_5), .val (.int (1 : Int32)), .val (.int v10), .val (.int v14), .val (.int v18), .val (.int v22), .val (.ref b102), .val .null, .val (.ref o88_c105), .val (.ref o106), .unset, .unset] [.null]))
      refine Ow.astore X108 hx (pc' := 128) (hb hby at_126) rfl (l' := #[.val (.int xlaw_1), .val (.int xlaw_2), .val (.int xlaw_3), .val (.int xlaw_4), .val (.int xlaw_5), .val (.int (1 : Int32)), .val (.int v10), .val (.int v14), .val (.int v18), .val (.int v22), .val (.ref b102), .val .null, .val (.ref o88_c105), .val (.ref o106), .val .null, .unset]) rfl ?_
      refine Ow.aload X108 hx (pc' := 130) (hb hby at_128) rfl rfl ?_
      refine Ow.ifnonnullNo X108 hx (pc' := 133) (hb hby at_130)  ?_
      refine Ow.aload X108 hx (pc' := 135) (hb hby at_133) rfl rfl ?_
      refine Ow.ifnonnullNo X108 hx (pc' := 138) (hb hby at_135)  ?_
      refine Ow.aload X108 hx (pc' := 140) (hb hby at_138) rfl rfl ?_
      obtain ⟨cq109, kq109, q109a, q109b, q109c⟩ := isOf hZ107 e108 A106_t107
      obtain ⟨_, _, ⟨T109, L109, k109, n109⟩, -, X109, ⟨Lc109, hQ109, l109, y109, z109⟩, st109⟩ := X108.virtualBack hx (y := mt5) (z := mt5) hown107 (mvT hZ107 (kw51 hw)) (mvT hZ107 (kw52 hw)) (notFace_of_selects (args := #[]) (mvT hZ107 (kw54 hw))) (mvT hZ107 (kw54 hw)) (mvT hZ107 (kw53 hw)) (by decide) (backOf (W := 0) (rm_uin l Z a0 hw [] o106 T107.heap n0 Z107 P107_6) hZ107 (kw55 hw) (kw3 hw) (by decide) (by decide)) q109a q109c (g := (mkF m 140 #[.val (.int xlaw_1), .val (.int xlaw_2), .val (.int xlaw_3), .val (.int xlaw_4), .val (.int xlaw_5), .val (.int (1 : Int32)), .val (.int v10), .val (.int v14), .val (.int v18), .val (.int v22), .val (.ref b102), .val .null, .val (.ref o88_c105), .val (.ref o106), .val .null, .unset] [(.ref o106)])) rfl (by rw [hml]; rfl) (Steps.refl _) (argsL := []) (rest := []) (lenOf pd7 rfl) rfl (by show 2 * 0 + _ ≤ _; exact Nat.le_of_eq rfl) (hb hby at_140) (fun _ _ => ⟨rfl, e108, (by decide : 6 + 0 ≤ _), (by decide : 73 + 0 ≤ _)⟩)
      dsimp only [Pt.U, Pt.locs, Pt.cells, Pt.slots] at X109 l109 y109 z109 st109 hQ109
      subst l109 y109 z109
      obtain ⟨rfl, Nq109, e109⟩ := hQ109
      have N109 := Fr.app N108 Nq109
      refine Wq.steps st109 ?_
      show Wq _ _ _ _ _ (T109.setTop (mkF m 143 #[.val (.int xlaw_1), .val (.int xlaw_2), .val (.int xlaw_3), .val (.int xlaw_4), .val (.int xlaw_5), .val (.int (1 : Int32)), .val (.int v10), .val (.int v14), .val (.int v18), .val (.int v22), .val (.ref b102), .val .null, .val (.ref o88_c105), .val (.ref o106), .val .null, .unset] [.null]))
      refine Ow.ifnonnullNo X109 hx (pc' := 146) (hb hby at_143)  ?_
      refine Ow.iconst X109 hx (pc' := 147) (hb hby at_146) (z := (1 : Int32)) rfl ?_
      refine Ow.goto X109 hx (pc' := 151) (hb hby at_147) (by decide) (by decide) ?_
      exact Wq.retW X109 hS107 (by rw [e109]; exact hk107) (BodyLoose.notSynchronized Bd) (rv := some (.int (1 : Int32))) (fun h => by rw [Bd.returns] at h; cases h) (fun _ hr => retN X109 hx (t := .boolean) Bd.returns (by simp) (hb hby at_151) hr) (by decide) (by decide) ⟨rfl, N109⟩
    · skip
      show Wq _ _ _ _ _ (T104.setTop (mkF m 95 #[.val (.int xlaw_1), .val (.int xlaw_2), .val (.int xlaw_3), .val (.int xlaw_4), .val (.int xlaw_5), .val (.int (1 : Int32)), .val (.int v10), .val (.int v14), .val (.int v18), .val (.int v22), .val (.ref b102), .val .null, .unset, .unset, .unset, .unset] []))
      refine Ow.iload X104 hx (pc' := 97) (hb hby at_95) rfl ?_
      obtain ⟨_, _, ⟨T110, L110, k110, n110⟩, -, X110, ⟨Lc110, hQ110, l110, y110, z110⟩, st110⟩ := Jvm.LawKit.callS X104 hx (y := mt10) hown (mvT hZ (kw63 hw)) (mvT hZ (kw64 hw)) (mvT hZ (kw65 hw)) (mvT hZ (kw66 hw)) (by decide) (backOf (W := 0) (rm_vn2 l Z a0 hw [] xlaw_5 h104 n0 Z104 S_high_t104 (hvp.1) (hvp.2)) hZ (kw66 hw) (kw65 hw) (by decide) (by decide)) (g := (mkF m 97 #[.val (.int xlaw_1), .val (.int xlaw_2), .val (.int xlaw_3), .val (.int xlaw_4), .val (.int xlaw_5), .val (.int (1 : Int32)), .val (.int v10), .val (.int v14), .val (.int v18), .val (.int v22), .val (.ref b102), .val .null, .unset, .unset, .unset, .unset] [(.int xlaw_5)])) rfl (by rw [hml]; rfl) (argsL := [(.int xlaw_5)]) (rest := []) (lenOf pd8 rfl) rfl (by show 2 * 0 + _ ≤ _; exact Nat.le_of_eq rfl) (hb hby at_97) (fun _ _ => ⟨rfl, e104, (by decide : 1 + 1 ≤ _), (by decide : 2 + 1 ≤ _)⟩)
      dsimp only [Pt.U, Pt.locs, Pt.cells, Pt.slots] at X110 l110 y110 z110 st110 hQ110
      subst l110 y110 z110
      obtain ⟨o91_c110, rfl, Nq110, Kq110, szq_o91_c110, P110_0, P110_1⟩ := hQ110
      have g_o91_c110 : n0 ≤ o91_c110 := Nat.le_trans Z104 szq_o91_c110
      have sz_o91_c110 : h0.size ≤ o91_c110 := Nat.le_trans K104.1 szq_o91_c110
      have ne_uNONE_o91_c110 : uNONE ≠ o91_c110 := Nat.ne_of_lt (Nat.lt_of_lt_of_le E_uNONE_t104.lt szq_o91_c110)
      have ne_ucl_o91_c110 : ucl ≠ o91_c110 := Nat.ne_of_lt (Nat.lt_of_lt_of_le V_ucl_t104.lt szq_o91_c110)
      have ne_b102_o91_c110 : b102 ≠ o91_c110 := Nat.ne_of_lt (Nat.lt_of_lt_of_le Ex102_t104.lt szq_o91_c110)
      have N110 := Fr.app N104 Nq110
      have hk110 := Nat.le_trans hk104 Kq110.1
      have K110 : Keep h0 T110.heap [] := K104.trans Kq110 all0
      have Z110 : n0 ≤ T110.heap.size := Nat.le_trans Z104 Kq110.1
      have S_NONE_t110 := Jvm.OwnW.Sta.keepN S_NONE_t104 Kq110 all0
      have E_uNONE_t110 := E_uNONE_t104.keep Kq110
      have S_high_t110 := Jvm.OwnW.Sta.keepN S_high_t104 Kq110 all0
      have S_cache_t110 := Jvm.OwnW.Sta.keepN S_cache_t104 Kq110 all0
      have V_ucl_t110 := V_ucl_t104.keep Kq110 nin0
      have Ex102_t110 := Ex102_t104.keep Kq110
      have V_b102_t110 := V_b102_t104.keep Kq110 nin0
      have e110 : T110.heap = T110.heap := rfl
      refine Wq.step st110 ?_
      show Wq _ _ _ _ _ (T110.setTop (mkF m 100 #[.val (.int xlaw_1), .val (.int xlaw_2), .val (.int xlaw_3), .val (.int xlaw_4), .val (.int xlaw_5), .val (.int (1 : Int32)), .val (.int v10), .val (.int v14), .val (.int v18), .val (.int v22), .val (.ref b102), .val .null, .unset, .unset, .unset, .unset] [(.ref o91_c110)]))
      refine Ow.goto X110 hx (pc' := 104) (hb hby at_100) (by decide) (by decide) ?_
      refine Ow.astore X110 hx (pc' := 106) (hb hby at_104) rfl (l' := #[.val (.int xlaw_1), .val (.int xlaw_2), .val (.int xlaw_3), .val (.int xlaw_4), .val (.int xlaw_5), .val (.int (1 : Int32)), .val (.int v10), .val (.int v14), .val (.int v18), .val (.int v22), .val (.ref b102), .val .null, .val (.ref o91_c110), .unset, .unset, .unset]) rfl ?_
      obtain ⟨T111, h111, X111, e111, E111, A111, D111, -, st111⟩ := newO X110 hx hZ hown (kw1 hw) (kw2 hw) (kw3 hw) e110 (g := (mkF m 106 #[.val (.int xlaw_1), .val (.int xlaw_2), .val (.int xlaw_3), .val (.int xlaw_4), .val (.int xlaw_5), .val (.int (1 : Int32)), .val (.int v10), .val (.int v14), .val (.int v18), .val (.int v22), .val (.ref b102), .val .null, .val (.ref o91_c110), .unset, .unset, .unset] [])) rfl (hb hby at_106) (by decide) (by decide)
      obtain ⟨o111, gz111⟩ : ∃ z, z = T110.heap.size := ⟨_, rfl⟩
      rw [← gz111] at A111 D111 st111
      have g_o111 : n0 ≤ o111 := Nat.le_trans Z110 (Nat.le_of_eq gz111.symm)
      have sz_o111 : h0.size ≤ o111 := Nat.le_trans K110.1 (Nat.le_of_eq gz111.symm)
      have ne_uNONE_o111 : uNONE ≠ o111 := Nat.ne_of_lt (Nat.lt_of_lt_of_le E_uNONE_t110.lt (Nat.le_of_eq gz111.symm))
      have ne_ucl_o111 : ucl ≠ o111 := Nat.ne_of_lt (Nat.lt_of_lt_of_le V_ucl_t110.lt (Nat.le_of_eq gz111.symm))
      have ne_b102_o111 : b102 ≠ o111 := Nat.ne_of_lt (Nat.lt_of_lt_of_le Ex102_t110.lt (Nat.le_of_eq gz111.symm))
      have ne_o91_c110_o111 : o91_c110 ≠ o111 := Nat.ne_of_lt (Nat.lt_of_lt_of_le P110_0.lt (Nat.le_of_eq gz111.symm))
      have K111 : Keep h0 h111 [] := K110.ext E111
      have Z111 : n0 ≤ h111.size := Nat.le_trans Z110 E111.1
      have hk111 := Nat.le_trans hk110 E111.1
      have S_NONE_t111 := S_NONE_t110.ext E111
      have E_uNONE_t111 := E_uNONE_t110.ext E111
      have S_high_t111 := S_high_t110.ext E111
      have S_cache_t111 := S_cache_t110.ext E111
      have V_ucl_t111 := V_ucl_t110.ext E111
      have Ex102_t111 := Ex102_t110.ext E111
      have V_b102_t111 := V_b102_t110.ext E111
      have P110_0_t111 := P110_0.ext E111
      have P110_1_t111 := P110_1.ext E111
      refine Wq.step st111 ?_
      have F_o111_unknownElements : Fld Z h111 o111 "com/example/opwire/opwire/codec/tcap/TcapMessage" "unknownElements" "Lcom/example/opwire/opwire/codec/ber/UnknownElements;" .null := D111 (Or.inr (kw35 hw)) (ty := (.object "com/example/opwire/opwire/codec/ber/UnknownElements")) (by decide)
      have F_o111_destinationTransactionId : Fld Z h111 o111 "com/example/opwire/opwire/codec/tcap/Abort" "destinationTransactionId" "[B" .null := D111 (Or.inr (kw46 hw)) (ty := (.array .byte)) (by decide)
      have F_o111_pAbortCause : Fld Z h111 o111 "com/example/opwire/opwire/codec/tcap/Abort" "pAbortCause" "Ljava/lang/Integer;" .null := D111 (Or.inr (kw48 hw)) (ty := (.object "java/lang/Integer")) (by decide)
      have F_o111_userAbortInformation : Fld Z h111 o111 "com/example/opwire/opwire/codec/tcap/Abort" "userAbortInformation" "[B" .null := D111 (Or.inr (kw50 hw)) (ty := (.array .byte)) (by decide)
      show Wq _ _ _ _ _ (T111.setTop (mkF m 109 #[.val (.int xlaw_1), .val (.int xlaw_2), .val (.int xlaw_3), .val (.int xlaw_4), .val (.int xlaw_5), .val (.int (1 : Int32)), .val (.int v10), .val (.int v14), .val (.int v18), .val (.int v22), .val (.ref b102), .val .null, .val (.ref o91_c110), .unset, .unset, .unset] [(.ref o111)]))
      refine Ow.dup X111 hx (pc' := 110) (hb hby at_109) rfl ?_
      refine Ow.aload X111 hx (pc' := 112) (hb hby at_110) rfl rfl ?_
      refine Ow.aload X111 hx (pc' := 114) (hb hby at_112) rfl rfl ?_
      refine Ow.aload X111 hx (pc' := 116) (hb hby at_114) rfl rfl ?_
      obtain ⟨_, _, ⟨T112, L112, k112, n112⟩, -, Xr112, hSr112, hgr112, ⟨Lc112, hQ112, l112, y112, z112⟩, st112⟩ := X111.specialBackS hx (y := mt4) rfl hown (mvT hZ (kw4 hw)) (mvT hZ (kw5 hw)) (mvT hZ (kw6 hw)) (by decide) (backOfS (W := 1) (rm_ac l Z a0 hw [] o111 b102 o91_c110 v22 v14 uNONE h111 n0 Z111 A111 F_o111_unknownElements F_o111_destinationTransactionId F_o111_pAbortCause F_o111_userAbortInformation g_o111 V_b102_t111 Ex102_t111 ne_b102_o111 (own_fc (own_fb hv22) (own_fc (own_fb hv14) own_f0)) S_NONE_t111 E_uNONE_t111) hZ (kw6 hw) (kw3 hw) (by decide) (by decide)) (g := (mkF m 116 #[.val (.int xlaw_1), .val (.int xlaw_2), .val (.int xlaw_3), .val (.int xlaw_4), .val (.int xlaw_5), .val (.int (1 : Int32)), .val (.int v10), .val (.int v14), .val (.int v18), .val (.int v22), .val (.ref b102), .val .null, .val (.ref o91_c110), .unset, .unset, .unset] [.null, (.ref o91_c110), (.ref b102), (.ref o111), (.ref o111)])) rfl (by rw [hml]; rfl) (Steps.refl _) (a := o111) (argsL := [(.ref b102), (.ref o91_c110), .null]) (rest := [(.ref o111)]) (lenOf pd6 rfl) rfl (by show 2 * 0 + _ ≤ _; exact Nat.le_of_eq rfl) (hb hby at_116) (fun _ _ => ⟨rfl, e111, (by decide : 3 + 3 ≤ _), (by decide : 7 + 66 ≤ _)⟩)
      dsimp only [Pt.U, Pt.locs, Pt.cells, Pt.slots] at Xr112 hSr112 hgr112 l112 y112 z112 st112 hQ112
      subst l112 y112 z112
      obtain ⟨X112, hS112, hZ112, hown112⟩ := rebS hS0 (by rw [e111]; exact hk111) Xr112 hSr112 hgr112 hZ hown
      have hk112 := Nat.le_refl T112.heap.size
      obtain ⟨b15_c21_c112, rfl, Nq112, Kq112, szq_b15_c21_c112, P112_0, P112_1, P112_2, P112_3, P112_4, P112_5, P112_6⟩ := hQ112
      have g_b15_c21_c112 : n0 ≤ b15_c21_c112 := Nat.le_trans Z111 szq_b15_c21_c112
      have sz_b15_c21_c112 : h0.size ≤ b15_c21_c112 := Nat.le_trans K111.1 szq_b15_c21_c112
      have ne_uNONE_b15_c21_c112 : uNONE ≠ b15_c21_c112 := Nat.ne_of_lt (Nat.lt_of_lt_of_le E_uNONE_t111.lt szq_b15_c21_c112)
      have ne_ucl_b15_c21_c112 : ucl ≠ b15_c21_c112 := Nat.ne_of_lt (Nat.lt_of_lt_of_le V_ucl_t111.lt szq_b15_c21_c112)
      have ne_b102_b15_c21_c112 : b102 ≠ b15_c21_c112 := Nat.ne_of_lt (Nat.lt_of_lt_of_le Ex102_t111.lt szq_b15_c21_c112)
      have ne_o91_c110_b15_c21_c112 : o91_c110 ≠ b15_c21_c112 := Nat.ne_of_lt (Nat.lt_of_lt_of_le P110_0_t111.lt szq_b15_c21_c112)
      have ne_o111_b15_c21_c112 : o111 ≠ b15_c21_c112 := Nat.ne_of_lt (Nat.lt_of_lt_of_le A111.lt szq_b15_c21_c112)
      have N112 := Fr.app N110 Nq112
      have K112 : Keep h0 T112.heap [] := K111.trans Kq112 (allS (P := fun x => x ∈ [] ∨ h0.size ≤ x) (Or.inr sz_o111) all0)
      have Z112 : n0 ≤ T112.heap.size := Nat.le_trans Z111 Kq112.1
      have S_NONE_t112 := Jvm.OwnW.Sta.keepN S_NONE_t111 Kq112 (allS (P := fun w => ∀ cell : Cell, h111[w]? = some cell → cell.vm.isStatics = false) (Jvm.OwnW.Exa.ns A111) all0)
      have E_uNONE_t112 := E_uNONE_t111.keep Kq112
      have S_high_t112 := Jvm.OwnW.Sta.keepN S_high_t111 Kq112 (allS (P := fun w => ∀ cell : Cell, h111[w]? = some cell → cell.vm.isStatics = false) (Jvm.OwnW.Exa.ns A111) all0)
      have S_cache_t112 := Jvm.OwnW.Sta.keepN S_cache_t111 Kq112 (allS (P := fun w => ∀ cell : Cell, h111[w]? = some cell → cell.vm.isStatics = false) (Jvm.OwnW.Exa.ns A111) all0)
      have V_ucl_t112 := V_ucl_t111.keep Kq112 (ninS ne_ucl_o111 nin0)
      have Ex102_t112 := Ex102_t111.keep Kq112
      have V_b102_t112 := V_b102_t111.keep Kq112 (ninS ne_b102_o111 nin0)
      have P110_0_t112 := P110_0_t111.keep Kq112
      have P110_1_t112 := P110_1_t111.keep Kq112 (ninS ne_o91_c110_o111 nin0)
      have A111_t112 := A111.keep Kq112
      have e112 : T112.heap = T112.heap := rfl
      refine Wq.steps st112 ?_
      show Wq _ _ _ _ _ (T112.setTop (mkF m 119 #[.val (.int xlaw_1), .val (.int xlaw_2), .val (.int xlaw_3), .val (.int xlaw_4), .val (.int xlaw_5), .val (.int (1 : Int32)), .val (.int v10), .val (.int v14), .val (.int v18), .val (.int v22), .val (.ref b102), .val .null, .val (.ref o91_c110), .unset, .unset, .unset] [(.ref o111)]))
      refine Ow.astore X112 hx (pc' := 121) (hb hby at_119) rfl (l' := #[.val (.int xlaw_1), .val (.int xlaw_2), .val (.int xlaw_3), .val (.int xlaw_4), .val (.int xlaw_5), .val (.int (1 : Int32)), .val (.int v10), .val (.int v14), .val (.int v18), .val (.int v22), .val (.ref b102), .val .null, .val (.ref o91_c110), .val (.ref o111), .unset, .unset]) rfl ?_
      refine Ow.aload X112 hx (pc' := 123) (hb hby at_121) rfl rfl ?_
      obtain ⟨cq113, kq113, q113a, q113b, q113c⟩ := isOf hZ112 e112 A111_t112
      obtain ⟨_, _, ⟨T113, L113, k113, n113⟩, -, X113, ⟨Lc113, hQ113, l113, y113, z113⟩, st113⟩ := X112.virtualBack hx (y := mt5) (z := mt5) hown112 (mvT hZ112 (kw51 hw)) (mvT hZ112 (kw52 hw)) (notFace_of_selects (args := #[]) (mvT hZ112 (kw54 hw))) (mvT hZ112 (kw54 hw)) (mvT hZ112 (kw53 hw)) (by decide) (backOf (W := 0) (rm_uin l Z a0 hw [] o111 T112.heap n0 Z112 P112_6) hZ112 (kw55 hw) (kw3 hw) (by decide) (by decide)) q113a q113c (g := (mkF m 123 #[.val (.int xlaw_1), .val (.int xlaw_2), .val (.int xlaw_3), .val (.int xlaw_4), .val (.int xlaw_5), .val (.int (1 : Int32)), .val (.int v10), .val (.int v14), .val (.int v18), .val (.int v22), .val (.ref b102), .val .null, .val (.ref o91_c110), .val (.ref o111), .unset, .unset] [(.ref o111)])) rfl (by rw [hml]; rfl) (Steps.refl _) (argsL := []) (rest := []) (lenOf pd7 rfl) rfl (by show 2 * 0 + _ ≤ _; exact Nat.le_of_eq rfl) (hb hby at_123) (fun _ _ => ⟨rfl, e112, (by decide : 6 + 0 ≤ _), (by decide : 73 + 0 ≤ _)⟩)
      dsimp only [Pt.U, Pt.locs, Pt.cells, Pt.slots] at X113 l113 y113 z113 st113 hQ113
      subst l113 y113 z113
      obtain ⟨rfl, Nq113, e113⟩ := hQ113
      have N113 := Fr.app N112 Nq113
      refine Wq.steps st113 ?_
      show Wq _ _ _ _ _ (T113.setTop (mkF m 126 #[.val (.int xlaw_1), .val (.int xlaw_2), .val (.int xlaw_3), .val (.int xlaw_4), .val (.int xlaw_5), .val (.int (1 : Int32)), .val (.int v10), .val (.int v14), .val (.int v18), .val (.int v22), .val (.ref b102), .val .null, .val (.ref o91_c110), .val (.ref o111), .unset, .unset] [.null]))
      refine Ow.astore X113 hx (pc' := 128) (hb hby at_126) rfl (l' := #[.val (.int xlaw_1), .val (.int xlaw_2), .val (.int xlaw_3), .val (.int xlaw_4), .val (.int xlaw_5), .val (.int (1 : Int32)), .val (.int v10), .val (.int v14), .val (.int v18), .val (.int v22), .val (.ref b102), .val .null, .val (.ref o91_c110), .val (.ref o111), .val .null, .unset]) rfl ?_
      refine Ow.aload X113 hx (pc' := 130) (hb hby at_128) rfl rfl ?_
      refine Ow.ifnonnullNo X113 hx (pc' := 133) (hb hby at_130)  ?_
      refine Ow.aload X113 hx (pc' := 135) (hb hby at_133) rfl rfl ?_
      refine Ow.ifnonnullNo X113 hx (pc' := 138) (hb hby at_135)  ?_
      refine Ow.aload X113 hx (pc' := 140) (hb hby at_138) rfl rfl ?_
      obtain ⟨cq114, kq114, q114a, q114b, q114c⟩ := isOf hZ112 e113 A111_t112
      obtain ⟨_, _, ⟨T114, L114, k114, n114⟩, -, X114, ⟨Lc114, hQ114, l114, y114, z114⟩, st114⟩ := X113.virtualBack hx (y := mt5) (z := mt5) hown112 (mvT hZ112 (kw51 hw)) (mvT hZ112 (kw52 hw)) (notFace_of_selects (args := #[]) (mvT hZ112 (kw54 hw))) (mvT hZ112 (kw54 hw)) (mvT hZ112 (kw53 hw)) (by decide) (backOf (W := 0) (rm_uin l Z a0 hw [] o111 T112.heap n0 Z112 P112_6) hZ112 (kw55 hw) (kw3 hw) (by decide) (by decide)) q114a q114c (g := (mkF m 140 #[.val (.int xlaw_1), .val (.int xlaw_2), .val (.int xlaw_3), .val (.int xlaw_4), .val (.int xlaw_5), .val (.int (1 : Int32)), .val (.int v10), .val (.int v14), .val (.int v18), .val (.int v22), .val (.ref b102), .val .null, .val (.ref o91_c110), .val (.ref o111), .val .null, .unset] [(.ref o111)])) rfl (by rw [hml]; rfl) (Steps.refl _) (argsL := []) (rest := []) (lenOf pd7 rfl) rfl (by show 2 * 0 + _ ≤ _; exact Nat.le_of_eq rfl) (hb hby at_140) (fun _ _ => ⟨rfl, e113, (by decide : 6 + 0 ≤ _), (by decide : 73 + 0 ≤ _)⟩)
      dsimp only [Pt.U, Pt.locs, Pt.cells, Pt.slots] at X114 l114 y114 z114 st114 hQ114
      subst l114 y114 z114
      obtain ⟨rfl, Nq114, e114⟩ := hQ114
      have N114 := Fr.app N113 Nq114
      refine Wq.steps st114 ?_
      show Wq _ _ _ _ _ (T114.setTop (mkF m 143 #[.val (.int xlaw_1), .val (.int xlaw_2), .val (.int xlaw_3), .val (.int xlaw_4), .val (.int xlaw_5), .val (.int (1 : Int32)), .val (.int v10), .val (.int v14), .val (.int v18), .val (.int v22), .val (.ref b102), .val .null, .val (.ref o91_c110), .val (.ref o111), .val .null, .unset] [.null]))
      refine Ow.ifnonnullNo X114 hx (pc' := 146) (hb hby at_143)  ?_
      refine Ow.iconst X114 hx (pc' := 147) (hb hby at_146) (z := (1 : Int32)) rfl ?_
      refine Ow.goto X114 hx (pc' := 151) (hb hby at_147) (by decide) (by decide) ?_
      exact Wq.retW X114 hS112 (by rw [e114]; exact hk112) (BodyLoose.notSynchronized Bd) (rv := some (.int (1 : Int32))) (fun h => by rw [Bd.returns] at h; cases h) (fun _ hr => retN X114 hx (t := .boolean) Bd.returns (by simp) (hb hby at_151) hr) (by decide) (by decide) ⟨rfl, N114⟩
    · skip
      show Wq _ _ _ _ _ (T104.setTop (mkF m 95 #[.val (.int xlaw_1), .val (.int xlaw_2), .val (.int xlaw_3), .val (.int xlaw_4), .val (.int xlaw_5), .val (.int (1 : Int32)), .val (.int v10), .val (.int v14), .val (.int v18), .val (.int v22), .val (.ref b102), .val .null, .unset, .unset, .unset, .unset] []))
      refine Ow.iload X104 hx (pc' := 97) (hb hby at_95) rfl ?_
      obtain ⟨bx, hbx⟩ := (hbox xlaw_5 hvp.1 hvp.2).2
      obtain ⟨_, _, ⟨T115, L115, k115, n115⟩, -, X115, ⟨Lc115, hQ115, l115, y115, z115⟩, st115⟩ := Jvm.LawKit.callS X104 hx (y := mt10) hown (mvT hZ (kw63 hw)) (mvT hZ (kw64 hw)) (mvT hZ (kw65 hw)) (mvT hZ (kw66 hw)) (by decide) (backOf (W := 0) (rm_vc l Z a0 hw [] xlaw_5 ucl vsl bx h104 n0 Z104 S_high_t104 S_cache_t104 V_ucl_t104 ((hbox xlaw_5 hvp.1 hvp.2).1) (hbx) (hvp.1) (hvp.2)) hZ (kw66 hw) (kw65 hw) (by decide) (by decide)) (g := (mkF m 97 #[.val (.int xlaw_1), .val (.int xlaw_2), .val (.int xlaw_3), .val (.int xlaw_4), .val (.int xlaw_5), .val (.int (1 : Int32)), .val (.int v10), .val (.int v14), .val (.int v18), .val (.int v22), .val (.ref b102), .val .null, .unset, .unset, .unset, .unset] [(.int xlaw_5)])) rfl (by rw [hml]; rfl) (argsL := [(.int xlaw_5)]) (rest := []) (lenOf pd8 rfl) rfl (by show 2 * 0 + _ ≤ _; exact Nat.le_of_eq rfl) (hb hby at_97) (fun _ _ => ⟨rfl, e104, (by decide : 1 + 0 ≤ _), (by decide : 2 + 0 ≤ _)⟩)
      dsimp only [Pt.U, Pt.locs, Pt.cells, Pt.slots] at X115 l115 y115 z115 st115 hQ115
      subst l115 y115 z115
      obtain ⟨rfl, Nq115, e115⟩ := hQ115
      have N115 := Fr.app N104 Nq115
      refine Wq.step st115 ?_
      show Wq _ _ _ _ _ (T115.setTop (mkF m 100 #[.val (.int xlaw_1), .val (.int xlaw_2), .val (.int xlaw_3), .val (.int xlaw_4), .val (.int xlaw_5), .val (.int (1 : Int32)), .val (.int v10), .val (.int v14), .val (.int v18), .val (.int v22), .val (.ref b102), .val .null, .unset, .unset, .unset, .unset] [(.ref bx)]))
      refine Ow.goto X115 hx (pc' := 104) (hb hby at_100) (by decide) (by decide) ?_
      refine Ow.astore X115 hx (pc' := 106) (hb hby at_104) rfl (l' := #[.val (.int xlaw_1), .val (.int xlaw_2), .val (.int xlaw_3), .val (.int xlaw_4), .val (.int xlaw_5), .val (.int (1 : Int32)), .val (.int v10), .val (.int v14), .val (.int v18), .val (.int v22), .val (.ref b102), .val .null, .val (.ref bx), .unset, .unset, .unset]) rfl ?_
      obtain ⟨T116, h116, X116, e116, E116, A116, D116, -, st116⟩ := newO X115 hx hZ hown (kw1 hw) (kw2 hw) (kw3 hw) e115 (g := (mkF m 106 #[.val (.int xlaw_1), .val (.int xlaw_2), .val (.int xlaw_3), .val (.int xlaw_4), .val (.int xlaw_5), .val (.int (1 : Int32)), .val (.int v10), .val (.int v14), .val (.int v18), .val (.int v22), .val (.ref b102), .val .null, .val (.ref bx), .unset, .unset, .unset] [])) rfl (hb hby at_106) (by decide) (by decide)
      obtain ⟨o116, gz116⟩ : ∃ z, z = h104.size := ⟨_, rfl⟩
      rw [← gz116] at A116 D116 st116
      have g_o116 : n0 ≤ o116 := Nat.le_trans Z104 (Nat.le_of_eq gz116.symm)
      have sz_o116 : h0.size ≤ o116 := Nat.le_trans K104.1 (Nat.le_of_eq gz116.symm)
      have ne_uNONE_o116 : uNONE ≠ o116 := Nat.ne_of_lt (Nat.lt_of_lt_of_le E_uNONE_t104.lt (Nat.le_of_eq gz116.symm))
      have ne_ucl_o116 : ucl ≠ o116 := Nat.ne_of_lt (Nat.lt_of_lt_of_le V_ucl_t104.lt (Nat.le_of_eq gz116.symm))
      have ne_b102_o116 : b102 ≠ o116 := Nat.ne_of_lt (Nat.lt_of_lt_of_le Ex102_t104.lt (Nat.le_of_eq gz116.symm))
      have K116 : Keep h0 h116 [] := K104.ext E116
      have Z116 : n0 ≤ h116.size := Nat.le_trans Z104 E116.1
      have hk116 := Nat.le_trans hk104 E116.1
      have S_NONE_t116 := S_NONE_t104.ext E116
      have E_uNONE_t116 := E_uNONE_t104.ext E116
      have S_high_t116 := S_high_t104.ext E116
      have S_cache_t116 := S_cache_t104.ext E116
      have V_ucl_t116 := V_ucl_t104.ext E116
      have Ex102_t116 := Ex102_t104.ext E116
      have V_b102_t116 := V_b102_t104.ext E116
      refine Wq.step st116 ?_
      have F_o116_unknownElements : Fld Z h116 o116 "com/example/opwire/opwire/codec/tcap/TcapMessage" "unknownElements" "Lcom/example/opwire/opwire/codec/ber/UnknownElements;" .null := D116 (Or.inr (kw35 hw)) (ty := (.object "com/example/opwire/opwire/codec/ber/UnknownElements")) (by decide)
      have F_o116_destinationTransactionId : Fld Z h116 o116 "com/example/opwire/opwire/codec/tcap/Abort" "destinationTransactionId" "[B" .null := D116 (Or.inr (kw46 hw)) (ty := (.array .byte)) (by decide)
      have F_o116_pAbortCause : Fld Z h116 o116 "com/example/opwire/opwire/codec/tcap/Abort" "pAbortCause" "Ljava/lang/Integer;" .null := D116 (Or.inr (kw48 hw)) (ty := (.object "java/lang/Integer")) (by decide)
      have F_o116_userAbortInformation : Fld Z h116 o116 "com/example/opwire/opwire/codec/tcap/Abort" "userAbortInformation" "[B" .null := D116 (Or.inr (kw50 hw)) (ty := (.array .byte)) (by decide)
      show Wq _ _ _ _ _ (T116.setTop (mkF m 109 #[.val (.int xlaw_1), .val (.int xlaw_2), .val (.int xlaw_3), .val (.int xlaw_4), .val (.int xlaw_5), .val (.int (1 : Int32)), .val (.int v10), .val (.int v14), .val (.int v18), .val (.int v22), .val (.ref b102), .val .null, .val (.ref bx), .unset, .unset, .unset] [(.ref o116)]))
      refine Ow.dup X116 hx (pc' := 110) (hb hby at_109) rfl ?_
      refine Ow.aload X116 hx (pc' := 112) (hb hby at_110) rfl rfl ?_
      refine Ow.aload X116 hx (pc' := 114) (hb hby at_112) rfl rfl ?_
      refine Ow.aload X116 hx (pc' := 116) (hb hby at_114) rfl rfl ?_
      obtain ⟨_, _, ⟨T117, L117, k117, n117⟩, -, Xr117, hSr117, hgr117, ⟨Lc117, hQ117, l117, y117, z117⟩, st117⟩ := X116.specialBackS hx (y := mt4) rfl hown (mvT hZ (kw4 hw)) (mvT hZ (kw5 hw)) (mvT hZ (kw6 hw)) (by decide) (backOfS (W := 1) (rm_ac l Z a0 hw [] o116 b102 bx v22 v14 uNONE h116 n0 Z116 A116 F_o116_unknownElements F_o116_destinationTransactionId F_o116_pAbortCause F_o116_userAbortInformation g_o116 V_b102_t116 Ex102_t116 ne_b102_o116 (own_fc (own_fb hv22) (own_fc (own_fb hv14) own_f0)) S_NONE_t116 E_uNONE_t116) hZ (kw6 hw) (kw3 hw) (by decide) (by decide)) (g := (mkF m 116 #[.val (.int xlaw_1), .val (.int xlaw_2), .val (.int xlaw_3), .val (.int xlaw_4), .val (.int xlaw_5), .val (.int (1 : Int32)), .val (.int v10), .val (.int v14), .val (.int v18), .val (.int v22), .val (.ref b102), .val .null, .val (.ref bx), .unset, .unset, .unset] [.null, (.ref bx), (.ref b102), (.ref o116), (.ref o116)])) rfl (by rw [hml]; rfl) (Steps.refl _) (a := o116) (argsL := [(.ref b102), (.ref bx), .null]) (rest := [(.ref o116)]) (lenOf pd6 rfl) rfl (by show 2 * 0 + _ ≤ _; exact Nat.le_of_eq rfl) (hb hby at_116) (fun _ _ => ⟨rfl, e116, (by decide : 2 + 3 ≤ _), (by decide : 6 + 66 ≤ _)⟩)
      dsimp only [Pt.U, Pt.locs, Pt.cells, Pt.slots] at Xr117 hSr117 hgr117 l117 y117 z117 st117 hQ117
      subst l117 y117 z117
      obtain ⟨X117, hS117, hZ117, hown117⟩ := rebS hS0 (by rw [e116]; exact hk116) Xr117 hSr117 hgr117 hZ hown
      have hk117 := Nat.le_refl T117.heap.size
      obtain ⟨b15_c21_c117, rfl, Nq117, Kq117, szq_b15_c21_c117, P117_0, P117_1, P117_2, P117_3, P117_4, P117_5, P117_6⟩ := hQ117
      have g_b15_c21_c117 : n0 ≤ b15_c21_c117 := Nat.le_trans Z116 szq_b15_c21_c117
      have sz_b15_c21_c117 : h0.size ≤ b15_c21_c117 := Nat.le_trans K116.1 szq_b15_c21_c117
      have ne_uNONE_b15_c21_c117 : uNONE ≠ b15_c21_c117 := Nat.ne_of_lt (Nat.lt_of_lt_of_le E_uNONE_t116.lt szq_b15_c21_c117)
      have ne_ucl_b15_c21_c117 : ucl ≠ b15_c21_c117 := Nat.ne_of_lt (Nat.lt_of_lt_of_le V_ucl_t116.lt szq_b15_c21_c117)
      have ne_b102_b15_c21_c117 : b102 ≠ b15_c21_c117 := Nat.ne_of_lt (Nat.lt_of_lt_of_le Ex102_t116.lt szq_b15_c21_c117)
      have ne_o116_b15_c21_c117 : o116 ≠ b15_c21_c117 := Nat.ne_of_lt (Nat.lt_of_lt_of_le A116.lt szq_b15_c21_c117)
      have N117 := Fr.app N115 Nq117
      have K117 : Keep h0 T117.heap [] := K116.trans Kq117 (allS (P := fun x => x ∈ [] ∨ h0.size ≤ x) (Or.inr sz_o116) all0)
      have Z117 : n0 ≤ T117.heap.size := Nat.le_trans Z116 Kq117.1
      have S_NONE_t117 := Jvm.OwnW.Sta.keepN S_NONE_t116 Kq117 (allS (P := fun w => ∀ cell : Cell, h116[w]? = some cell → cell.vm.isStatics = false) (Jvm.OwnW.Exa.ns A116) all0)
      have E_uNONE_t117 := E_uNONE_t116.keep Kq117
      have S_high_t117 := Jvm.OwnW.Sta.keepN S_high_t116 Kq117 (allS (P := fun w => ∀ cell : Cell, h116[w]? = some cell → cell.vm.isStatics = false) (Jvm.OwnW.Exa.ns A116) all0)
      have S_cache_t117 := Jvm.OwnW.Sta.keepN S_cache_t116 Kq117 (allS (P := fun w => ∀ cell : Cell, h116[w]? = some cell → cell.vm.isStatics = false) (Jvm.OwnW.Exa.ns A116) all0)
      have V_ucl_t117 := V_ucl_t116.keep Kq117 (ninS ne_ucl_o116 nin0)
      have Ex102_t117 := Ex102_t116.keep Kq117
      have V_b102_t117 := V_b102_t116.keep Kq117 (ninS ne_b102_o116 nin0)
      have A116_t117 := A116.keep Kq117
      have e117 : T117.heap = T117.heap := rfl
      refine Wq.steps st117 ?_
      show Wq _ _ _ _ _ (T117.setTop (mkF m 119 #[.val (.int xlaw_1), .val (.int xlaw_2), .val (.int xlaw_3), .val (.int xlaw_4), .val (.int xlaw_5), .val (.int (1 : Int32)), .val (.int v10), .val (.int v14), .val (.int v18), .val (.int v22), .val (.ref b102), .val .null, .val (.ref bx), .unset, .unset, .unset] [(.ref o116)]))
      refine Ow.astore X117 hx (pc' := 121) (hb hby at_119) rfl (l' := #[.val (.int xlaw_1), .val (.int xlaw_2), .val (.int xlaw_3), .val (.int xlaw_4), .val (.int xlaw_5), .val (.int (1 : Int32)), .val (.int v10), .val (.int v14), .val (.int v18), .val (.int v22), .val (.ref b102), .val .null, .val (.ref bx), .val (.ref o116), .unset, .unset]) rfl ?_
      refine Ow.aload X117 hx (pc' := 123) (hb hby at_121) rfl rfl ?_
      obtain ⟨cq118, kq118, q118a, q118b, q118c⟩ := isOf hZ117 e117 A116_t117
      obtain ⟨_, _, ⟨T118, L118, k118, n118⟩, -, X118, ⟨Lc118, hQ118, l118, y118, z118⟩, st118⟩ := X117.virtualBack hx (y := mt5) (z := mt5) hown117 (mvT hZ117 (kw51 hw)) (mvT hZ117 (kw52 hw)) (notFace_of_selects (args := #[]) (mvT hZ117 (kw54 hw))) (mvT hZ117 (kw54 hw)) (mvT hZ117 (kw53 hw)) (by decide) (backOf (W := 0) (rm_uin l Z a0 hw [] o116 T117.heap n0 Z117 P117_6) hZ117 (kw55 hw) (kw3 hw) (by decide) (by decide)) q118a q118c (g := (mkF m 123 #[.val (.int xlaw_1), .val (.int xlaw_2), .val (.int xlaw_3), .val (.int xlaw_4), .val (.int xlaw_5), .val (.int (1 : Int32)), .val (.int v10), .val (.int v14), .val (.int v18), .val (.int v22), .val (.ref b102), .val .null, .val (.ref bx), .val (.ref o116), .unset, .unset] [(.ref o116)])) rfl (by rw [hml]; rfl) (Steps.refl _) (argsL := []) (rest := []) (lenOf pd7 rfl) rfl (by show 2 * 0 + _ ≤ _; exact Nat.le_of_eq rfl) (hb hby at_123) (fun _ _ => ⟨rfl, e117, (by decide : 5 + 0 ≤ _), (by decide : 72 + 0 ≤ _)⟩)
      dsimp only [Pt.U, Pt.locs, Pt.cells, Pt.slots] at X118 l118 y118 z118 st118 hQ118
      subst l118 y118 z118
      obtain ⟨rfl, Nq118, e118⟩ := hQ118
      have N118 := Fr.app N117 Nq118
      refine Wq.steps st118 ?_
      show Wq _ _ _ _ _ (T118.setTop (mkF m 126 #[.val (.int xlaw_1), .val (.int xlaw_2), .val (.int xlaw_3), .val (.int xlaw_4), .val (.int xlaw_5), .val (.int (1 : Int32)), .val (.int v10), .val (.int v14), .val (.int v18), .val (.int v22), .val (.ref b102), .val .null, .val (.ref bx), .val (.ref o116), .unset, .unset] [.null]))
      refine Ow.astore X118 hx (pc' := 128) (hb hby at_126) rfl (l' := #[.val (.int xlaw_1), .val (.int xlaw_2), .val (.int xlaw_3), .val (.int xlaw_4), .val (.int xlaw_5), .val (.int (1 : Int32)), .val (.int v10), .val (.int v14), .val (.int v18), .val (.int v22), .val (.ref b102), .val .null, .val (.ref bx), .val (.ref o116), .val .null, .unset]) rfl ?_
      refine Ow.aload X118 hx (pc' := 130) (hb hby at_128) rfl rfl ?_
      refine Ow.ifnonnullNo X118 hx (pc' := 133) (hb hby at_130)  ?_
      refine Ow.aload X118 hx (pc' := 135) (hb hby at_133) rfl rfl ?_
      refine Ow.ifnonnullNo X118 hx (pc' := 138) (hb hby at_135)  ?_
      refine Ow.aload X118 hx (pc' := 140) (hb hby at_138) rfl rfl ?_
      obtain ⟨cq119, kq119, q119a, q119b, q119c⟩ := isOf hZ117 e118 A116_t117
      obtain ⟨_, _, ⟨T119, L119, k119, n119⟩, -, X119, ⟨Lc119, hQ119, l119, y119, z119⟩, st119⟩ := X118.virtualBack hx (y := mt5) (z := mt5) hown117 (mvT hZ117 (kw51 hw)) (mvT hZ117 (kw52 hw)) (notFace_of_selects (args := #[]) (mvT hZ117 (kw54 hw))) (mvT hZ117 (kw54 hw)) (mvT hZ117 (kw53 hw)) (by decide) (backOf (W := 0) (rm_uin l Z a0 hw [] o116 T117.heap n0 Z117 P117_6) hZ117 (kw55 hw) (kw3 hw) (by decide) (by decide)) q119a q119c (g := (mkF m 140 #[.val (.int xlaw_1), .val (.int xlaw_2), .val (.int xlaw_3), .val (.int xlaw_4), .val (.int xlaw_5), .val (.int (1 : Int32)), .val (.int v10), .val (.int v14), .val (.int v18), .val (.int v22), .val (.ref b102), .val .null, .val (.ref bx), .val (.ref o116), .val .null, .unset] [(.ref o116)])) rfl (by rw [hml]; rfl) (Steps.refl _) (argsL := []) (rest := []) (lenOf pd7 rfl) rfl (by show 2 * 0 + _ ≤ _; exact Nat.le_of_eq rfl) (hb hby at_140) (fun _ _ => ⟨rfl, e118, (by decide : 5 + 0 ≤ _), (by decide : 72 + 0 ≤ _)⟩)
      dsimp only [Pt.U, Pt.locs, Pt.cells, Pt.slots] at X119 l119 y119 z119 st119 hQ119
      subst l119 y119 z119
      obtain ⟨rfl, Nq119, e119⟩ := hQ119
      have N119 := Fr.app N118 Nq119
      refine Wq.steps st119 ?_
      show Wq _ _ _ _ _ (T119.setTop (mkF m 143 #[.val (.int xlaw_1), .val (.int xlaw_2), .val (.int xlaw_3), .val (.int xlaw_4), .val (.int xlaw_5), .val (.int (1 : Int32)), .val (.int v10), .val (.int v14), .val (.int v18), .val (.int v22), .val (.ref b102), .val .null, .val (.ref bx), .val (.ref o116), .val .null, .unset] [.null]))
      refine Ow.ifnonnullNo X119 hx (pc' := 146) (hb hby at_143)  ?_
      refine Ow.iconst X119 hx (pc' := 147) (hb hby at_146) (z := (1 : Int32)) rfl ?_
      refine Ow.goto X119 hx (pc' := 151) (hb hby at_147) (by decide) (by decide) ?_
      exact Wq.retW X119 hS117 (by rw [e119]; exact hk117) (BodyLoose.notSynchronized Bd) (rv := some (.int (1 : Int32))) (fun h => by rw [Bd.returns] at h; cases h) (fun _ hr => retN X119 hx (t := .boolean) Bd.returns (by simp) (hb hby at_151) hr) (by decide) (by decide) ⟨rfl, N119⟩
  · skip
    show Wq _ _ _ _ _ (s₁.setTop (mkF m 24 #[.val (.int xlaw_1), .val (.int xlaw_2), .val (.int xlaw_3), .val (.int xlaw_4), .val (.int xlaw_5), .val (.int (2 : Int32)), .val (.int v10), .val (.int v14), .val (.int v18), .val (.int v22), .unset, .unset, .unset, .unset, .unset, .unset] []))
    refine Ow.iconst X0 hx (pc' := 25) (hb hby at_24) (z := (2 : Int32)) rfl ?_
    obtain ⟨T120, h120, k120, X120, e120, E120, A120, Ex120, st120⟩ := newPE X0 hx hZ (aty := .byte) (kw0 hw) e0 (g := (mkF m 25 #[.val (.int xlaw_1), .val (.int xlaw_2), .val (.int xlaw_3), .val (.int xlaw_4), .val (.int xlaw_5), .val (.int (2 : Int32)), .val (.int v10), .val (.int v14), .val (.int v18), .val (.int v22), .unset, .unset, .unset, .unset, .unset, .unset] [(.int (2 : Int32))])) rfl (hb hby at_25) rfl (by decide) (cap := 2) (by decide) (by decide) (by decide) (by decide) (ad := "[B") (by decide)
    obtain ⟨b120, gz120⟩ : ∃ z, z = h0.size := ⟨_, rfl⟩
    rw [← gz120] at A120 Ex120 st120
    have g_b120 : n0 ≤ b120 := Nat.le_trans Z0 (Nat.le_of_eq gz120.symm)
    have sz_b120 : h0.size ≤ b120 := Nat.le_of_eq gz120.symm
    have ne_uNONE_b120 : uNONE ≠ b120 := Nat.ne_of_lt (Nat.lt_of_lt_of_le E_uNONE.lt (Nat.le_of_eq gz120.symm))
    have ne_ucl_b120 : ucl ≠ b120 := Nat.ne_of_lt (Nat.lt_of_lt_of_le V_ucl.lt (Nat.le_of_eq gz120.symm))
    have K120 : Keep h0 h120 [] := (Keep.refl h0 []).ext E120
    have Z120 : n0 ≤ h120.size := Nat.le_trans Z0 E120.1
    have hk120 := Nat.le_trans hk0 E120.1
    have S_NONE_t120 := S_NONE.ext E120
    have E_uNONE_t120 := E_uNONE.ext E120
    have S_high_t120 := S_high.ext E120
    have S_cache_t120 := S_cache.ext E120
    have V_ucl_t120 := V_ucl.ext E120
    have V_b120 : Al Z h120 b120 .byte [(.int (0 : Int32)), (.int (0 : Int32))] := Al.new A120 (k := 2) (rfl) rfl
    refine Wq.step st120 ?_
    show Wq _ _ _ _ _ (T120.setTop (mkF m 27 #[.val (.int xlaw_1), .val (.int xlaw_2), .val (.int xlaw_3), .val (.int xlaw_4), .val (.int xlaw_5), .val (.int (2 : Int32)), .val (.int v10), .val (.int v14), .val (.int v18), .val (.int v22), .unset, .unset, .unset, .unset, .unset, .unset] [(.ref b120)]))
    refine Ow.dup X120 hx (pc' := 28) (hb hby at_27) rfl ?_
    refine Ow.iconst X120 hx (pc' := 29) (hb hby at_28) (z := (0 : Int32)) rfl ?_
    refine Ow.iload X120 hx (pc' := 31) (hb hby at_29) rfl ?_
    obtain ⟨T121, h121, X121, e121, W121, Vr121, st121⟩ := asB X120 hx hZ e120 V_b120 (j := (0 : Int32)) (i := 0) (by decide) rfl (Nat.le_of_ble_eq_true rfl) (y := v22) (own_nar hv22) (g := (mkF m 31 #[.val (.int xlaw_1), .val (.int xlaw_2), .val (.int xlaw_3), .val (.int xlaw_4), .val (.int xlaw_5), .val (.int (2 : Int32)), .val (.int v10), .val (.int v14), .val (.int v18), .val (.int v22), .unset, .unset, .unset, .unset, .unset, .unset] [(.int v22), (.int (0 : Int32)), (.ref b120), (.ref b120)])) rfl rfl (hb hby at_31)
    refine Wq.step st121 ?_
    have N121 := Fr.snoc X121 N0 g_b120
    have K121 : Keep h0 h121 [] := K120.wr W121 (Or.inr sz_b120)
    have Z121 : n0 ≤ h121.size := Nat.le_trans Z120 (Keep.of_wr W121).1
    have hk121 := Nat.le_trans hk120 (Keep.of_wr W121).1
    have S_NONE_t121 := S_NONE_t120.wr W121
    have E_uNONE_t121 := E_uNONE_t120.wr W121
    have S_high_t121 := S_high_t120.wr W121
    have S_cache_t121 := S_cache_t120.wr W121
    have V_ucl_t121 := V_ucl_t120.other W121 ne_ucl_b120
    have Ex120_t121 := Ex120.wr W121
    have V_b120_t121 : Al Z h121 b120 .byte [(.int v22), (.int (0 : Int32))] := Vr121
    show Wq _ _ _ _ _ (T121.setTop (mkF m 32 #[.val (.int xlaw_1), .val (.int xlaw_2), .val (.int xlaw_3), .val (.int xlaw_4), .val (.int xlaw_5), .val (.int (2 : Int32)), .val (.int v10), .val (.int v14), .val (.int v18), .val (.int v22), .unset, .unset, .unset, .unset, .unset, .unset] [(.ref b120)]))
    refine Ow.dup X121 hx (pc' := 33) (hb hby at_32) rfl ?_
    refine Ow.iconst X121 hx (pc' := 34) (hb hby at_33) (z := (1 : Int32)) rfl ?_
    refine Ow.iload X121 hx (pc' := 36) (hb hby at_34) rfl ?_
    obtain ⟨T122, h122, X122, e122, W122, Vr122, st122⟩ := asB X121 hx hZ e121 V_b120_t121 (j := (1 : Int32)) (i := 1) (by decide) rfl (Nat.le_of_ble_eq_true rfl) (y := v14) (own_nar hv14) (g := (mkF m 36 #[.val (.int xlaw_1), .val (.int xlaw_2), .val (.int xlaw_3), .val (.int xlaw_4), .val (.int xlaw_5), .val (.int (2 : Int32)), .val (.int v10), .val (.int v14), .val (.int v18), .val (.int v22), .unset, .unset, .unset, .unset, .unset, .unset] [(.int v14), (.int (1 : Int32)), (.ref b120), (.ref b120)])) rfl rfl (hb hby at_36)
    refine Wq.step st122 ?_
    have N122 := Fr.snoc X122 N121 g_b120
    have K122 : Keep h0 h122 [] := K121.wr W122 (Or.inr sz_b120)
    have Z122 : n0 ≤ h122.size := Nat.le_trans Z121 (Keep.of_wr W122).1
    have hk122 := Nat.le_trans hk121 (Keep.of_wr W122).1
    have S_NONE_t122 := S_NONE_t121.wr W122
    have E_uNONE_t122 := E_uNONE_t121.wr W122
    have S_high_t122 := S_high_t121.wr W122
    have S_cache_t122 := S_cache_t121.wr W122
    have V_ucl_t122 := V_ucl_t121.other W122 ne_ucl_b120
    have Ex120_t122 := Ex120_t121.wr W122
    have V_b120_t122 : Al Z h122 b120 .byte [(.int v22), (.int v14)] := Vr122
    show Wq _ _ _ _ _ (T122.setTop (mkF m 37 #[.val (.int xlaw_1), .val (.int xlaw_2), .val (.int xlaw_3), .val (.int xlaw_4), .val (.int xlaw_5), .val (.int (2 : Int32)), .val (.int v10), .val (.int v14), .val (.int v18), .val (.int v22), .unset, .unset, .unset, .unset, .unset, .unset] [(.ref b120)]))
    refine Ow.astore X122 hx (pc' := 39) (hb hby at_37) rfl (l' := #[.val (.int xlaw_1), .val (.int xlaw_2), .val (.int xlaw_3), .val (.int xlaw_4), .val (.int xlaw_5), .val (.int (2 : Int32)), .val (.int v10), .val (.int v14), .val (.int v18), .val (.int v22), .val (.ref b120), .unset, .unset, .unset, .unset, .unset]) rfl ?_
    refine Ow.aconstNull X122 hx (pc' := 40) (hb hby at_39)  ?_
    refine Ow.astore X122 hx (pc' := 42) (hb hby at_40) rfl (l' := #[.val (.int xlaw_1), .val (.int xlaw_2), .val (.int xlaw_3), .val (.int xlaw_4), .val (.int xlaw_5), .val (.int (2 : Int32)), .val (.int v10), .val (.int v14), .val (.int v18), .val (.int v22), .val (.ref b120), .val .null, .unset, .unset, .unset, .unset]) rfl ?_
    refine Ow.iload X122 hx (pc' := 44) (hb hby at_42) rfl ?_
    refine Ow.iconst X122 hx (pc' := 45) (hb hby at_44) (z := (2 : Int32)) rfl ?_
    refine Ow.icmpNo X122 hx (pc' := 48) (hb hby at_45) (flt (by decide : ¬ ((2 : Int32) < (2 : Int32)))).1 ?_
    rcases own_m4 hv10 with rfl | rfl | rfl | rfl
    · skip
      show Wq _ _ _ _ _ (T122.setTop (mkF m 48 #[.val (.int xlaw_1), .val (.int xlaw_2), .val (.int xlaw_3), .val (.int xlaw_4), .val (.int xlaw_5), .val (.int (2 : Int32)), .val (.int (0 : Int32)), .val (.int v14), .val (.int v18), .val (.int v22), .val (.ref b120), .val .null, .unset, .unset, .unset, .unset] []))
      refine Ow.iload X122 hx (pc' := 50) (hb hby at_48) rfl ?_
      obtain ⟨T123, h123, k123, X123, e123, E123, A123, Ex123, st123⟩ := newPE X122 hx hZ (aty := .byte) (kw0 hw) e122 (g := (mkF m 50 #[.val (.int xlaw_1), .val (.int xlaw_2), .val (.int xlaw_3), .val (.int xlaw_4), .val (.int xlaw_5), .val (.int (2 : Int32)), .val (.int (0 : Int32)), .val (.int v14), .val (.int v18), .val (.int v22), .val (.ref b120), .val .null, .unset, .unset, .unset, .unset] [(.int (0 : Int32))])) rfl (hb hby at_50) rfl (by decide) (cap := 0) (by decide) (by decide) (by decide) (by decide) (ad := "[B") (by decide)
      obtain ⟨b123, gz123⟩ : ∃ z, z = h122.size := ⟨_, rfl⟩
      rw [← gz123] at A123 Ex123 st123
      have g_b123 : n0 ≤ b123 := Nat.le_trans Z122 (Nat.le_of_eq gz123.symm)
      have sz_b123 : h0.size ≤ b123 := Nat.le_trans K122.1 (Nat.le_of_eq gz123.symm)
      have ne_uNONE_b123 : uNONE ≠ b123 := Nat.ne_of_lt (Nat.lt_of_lt_of_le E_uNONE_t122.lt (Nat.le_of_eq gz123.symm))
      have ne_ucl_b123 : ucl ≠ b123 := Nat.ne_of_lt (Nat.lt_of_lt_of_le V_ucl_t122.lt (Nat.le_of_eq gz123.symm))
      have ne_b120_b123 : b120 ≠ b123 := Nat.ne_of_lt (Nat.lt_of_lt_of_le Ex120_t122.lt (Nat.le_of_eq gz123.symm))
      have K123 : Keep h0 h123 [] := K122.ext E123
      have Z123 : n0 ≤ h123.size := Nat.le_trans Z122 E123.1
      have hk123 := Nat.le_trans hk122 E123.1
      have S_NONE_t123 := S_NONE_t122.ext E123
      have E_uNONE_t123 := E_uNONE_t122.ext E123
      have S_high_t123 := S_high_t122.ext E123
      have S_cache_t123 := S_cache_t122.ext E123
      have V_ucl_t123 := V_ucl_t122.ext E123
      have Ex120_t123 := Ex120_t122.ext E123
      have V_b120_t123 := V_b120_t122.ext E123
      have V_b123 : Al Z h123 b123 .byte [] := Al.new A123 (k := 0) (rfl) rfl
      refine Wq.step st123 ?_
      show Wq _ _ _ _ _ (T123.setTop (mkF m 52 #[.val (.int xlaw_1), .val (.int xlaw_2), .val (.int xlaw_3), .val (.int xlaw_4), .val (.int xlaw_5), .val (.int (2 : Int32)), .val (.int (0 : Int32)), .val (.int v14), .val (.int v18), .val (.int v22), .val (.ref b120), .val .null, .unset, .unset, .unset, .unset] [(.ref b123)]))
      refine Ow.astore X123 hx (pc' := 54) (hb hby at_52) rfl (l' := #[.val (.int xlaw_1), .val (.int xlaw_2), .val (.int xlaw_3), .val (.int xlaw_4), .val (.int xlaw_5), .val (.int (2 : Int32)), .val (.int (0 : Int32)), .val (.int v14), .val (.int v18), .val (.int v22), .val (.ref b120), .val (.ref b123), .unset, .unset, .unset, .unset]) rfl ?_
      refine Ow.iload X123 hx (pc' := 56) (hb hby at_54) rfl ?_
      refine Ow.ifYes X123 hx (pc' := 65) (hb hby at_56) ((if0 _ _).trans (flt (by decide : ¬ ((0 : Int32) < (0 : Int32)))).2.2.2) (by decide) (by decide) ?_
      refine Ow.iload X123 hx (pc' := 67) (hb hby at_65) rfl ?_
      refine Ow.iconst X123 hx (pc' := 68) (hb hby at_67) (z := (1 : Int32)) rfl ?_
      refine Ow.icmpYes X123 hx (pc' := 77) (hb hby at_68) (flt (by decide : ¬ ((1 : Int32) < (0 : Int32)))).2.2.2 (by decide) (by decide) ?_
      refine Ow.iload X123 hx (pc' := 79) (hb hby at_77) rfl ?_
      refine Ow.iconst X123 hx (pc' := 80) (hb hby at_79) (z := (2 : Int32)) rfl ?_
      refine Ow.icmpYes X123 hx (pc' := 89) (hb hby at_80) (flt (by decide : ¬ ((2 : Int32) < (0 : Int32)))).2.2.2 (by decide) (by decide) ?_
      refine Ow.iload X123 hx (pc' := 91) (hb hby at_89) rfl ?_
      refine Ow.iconst X123 hx (pc' := 92) (hb hby at_91) (z := (1 : Int32)) rfl ?_
      refine Ow.icmpYes X123 hx (pc' := 103) (hb hby at_92) (feq (by decide : ¬ ((2 : Int32) = (1 : Int32)))).2 (by decide) (by decide) ?_
      refine Ow.aconstNull X123 hx (pc' := 104) (hb hby at_103)  ?_
      refine Ow.astore X123 hx (pc' := 106) (hb hby at_104) rfl (l' := #[.val (.int xlaw_1), .val (.int xlaw_2), .val (.int xlaw_3), .val (.int xlaw_4), .val (.int xlaw_5), .val (.int (2 : Int32)), .val (.int (0 : Int32)), .val (.int v14), .val (.int v18), .val (.int v22), .val (.ref b120), .val (.ref b123), .val .null, .unset, .unset, .unset]) rfl ?_
      obtain ⟨T124, h124, X124, e124, E124, A124, D124, -, st124⟩ := newO X123 hx hZ hown (kw1 hw) (kw2 hw) (kw3 hw) e123 (g := (mkF m 106 #[.val (.int xlaw_1), .val (.int xlaw_2), .val (.int xlaw_3), .val (.int xlaw_4), .val (.int xlaw_5), .val (.int (2 : Int32)), .val (.int (0 : Int32)), .val (.int v14), .val (.int v18), .val (.int v22), .val (.ref b120), .val (.ref b123), .val .null, .unset, .unset, .unset] [])) rfl (hb hby at_106) (by decide) (by decide)
      obtain ⟨o124, gz124⟩ : ∃ z, z = h123.size := ⟨_, rfl⟩
      rw [← gz124] at A124 D124 st124
      have g_o124 : n0 ≤ o124 := Nat.le_trans Z123 (Nat.le_of_eq gz124.symm)
      have sz_o124 : h0.size ≤ o124 := Nat.le_trans K123.1 (Nat.le_of_eq gz124.symm)
      have ne_uNONE_o124 : uNONE ≠ o124 := Nat.ne_of_lt (Nat.lt_of_lt_of_le E_uNONE_t123.lt (Nat.le_of_eq gz124.symm))
      have ne_ucl_o124 : ucl ≠ o124 := Nat.ne_of_lt (Nat.lt_of_lt_of_le V_ucl_t123.lt (Nat.le_of_eq gz124.symm))
      have ne_b120_o124 : b120 ≠ o124 := Nat.ne_of_lt (Nat.lt_of_lt_of_le Ex120_t123.lt (Nat.le_of_eq gz124.symm))
      have ne_b123_o124 : b123 ≠ o124 := Nat.ne_of_lt (Nat.lt_of_lt_of_le Ex123.lt (Nat.le_of_eq gz124.symm))
      have K124 : Keep h0 h124 [] := K123.ext E124
      have Z124 : n0 ≤ h124.size := Nat.le_trans Z123 E124.1
      have hk124 := Nat.le_trans hk123 E124.1
      have S_NONE_t124 := S_NONE_t123.ext E124
      have E_uNONE_t124 := E_uNONE_t123.ext E124
      have S_high_t124 := S_high_t123.ext E124
      have S_cache_t124 := S_cache_t123.ext E124
      have V_ucl_t124 := V_ucl_t123.ext E124
      have Ex120_t124 := Ex120_t123.ext E124
      have V_b120_t124 := V_b120_t123.ext E124
      have Ex123_t124 := Ex123.ext E124
      have V_b123_t124 := V_b123.ext E124
      refine Wq.step st124 ?_
      have F_o124_unknownElements : Fld Z h124 o124 "com/example/opwire/opwire/codec/tcap/TcapMessage" "unknownElements" "Lcom/example/opwire/opwire/codec/ber/UnknownElements;" .null := D124 (Or.inr (kw35 hw)) (ty := (.object "com/example/opwire/opwire/codec/ber/UnknownElements")) (by decide)
      have F_o124_destinationTransactionId : Fld Z h124 o124 "com/example/opwire/opwire/codec/tcap/Abort" "destinationTransactionId" "[B" .null := D124 (Or.inr (kw46 hw)) (ty := (.array .byte)) (by decide)
      have F_o124_pAbortCause : Fld Z h124 o124 "com/example/opwire/opwire/codec/tcap/Abort" "pAbortCause" "Ljava/lang/Integer;" .null := D124 (Or.inr (kw48 hw)) (ty := (.object "java/lang/Integer")) (by decide)
      have F_o124_userAbortInformation : Fld Z h124 o124 "com/example/opwire/opwire/codec/tcap/Abort" "userAbortInformation" "[B" .null := D124 (Or.inr (kw50 hw)) (ty := (.array .byte)) (by decide)
      show Wq _ _ _ _ _ (T124.setTop (mkF m 109 #[.val (.int xlaw_1), .val (.int xlaw_2), .val (.int xlaw_3), .val (.int xlaw_4), .val (.int xlaw_5), .val (.int (2 : Int32)), .val (.int (0 : Int32)), .val (.int v14), .val (.int v18), .val (.int v22), .val (.ref b120), .val (.ref b123), .val .null, .unset, .unset, .unset] [(.ref o124)]))
      refine Ow.dup X124 hx (pc' := 110) (hb hby at_109) rfl ?_
      refine Ow.aload X124 hx (pc' := 112) (hb hby at_110) rfl rfl ?_
      refine Ow.aload X124 hx (pc' := 114) (hb hby at_112) rfl rfl ?_
      refine Ow.aload X124 hx (pc' := 116) (hb hby at_114) rfl rfl ?_
      obtain ⟨_, _, ⟨T125, L125, k125, n125⟩, -, Xr125, hSr125, hgr125, ⟨Lc125, hQ125, l125, y125, z125⟩, st125⟩ := X124.specialBackS hx (y := mt4) rfl hown (mvT hZ (kw4 hw)) (mvT hZ (kw5 hw)) (mvT hZ (kw6 hw)) (by decide) (backOfS (W := 1) (rm_a0 l Z a0 hw [] o124 b120 b123 v22 v14 uNONE h124 n0 Z124 A124 F_o124_unknownElements F_o124_destinationTransactionId F_o124_pAbortCause F_o124_userAbortInformation g_o124 V_b120_t124 Ex120_t124 ne_b120_o124 (own_fc (own_fb hv22) (own_fc (own_fb hv14) own_f0)) V_b123_t124 Ex123_t124 ne_b123_o124 (own_f0) S_NONE_t124 E_uNONE_t124) hZ (kw6 hw) (kw3 hw) (by decide) (by decide)) (g := (mkF m 116 #[.val (.int xlaw_1), .val (.int xlaw_2), .val (.int xlaw_3), .val (.int xlaw_4), .val (.int xlaw_5), .val (.int (2 : Int32)), .val (.int (0 : Int32)), .val (.int v14), .val (.int v18), .val (.int v22), .val (.ref b120), .val (.ref b123), .val .null, .unset, .unset, .unset] [(.ref b123), .null, (.ref b120), (.ref o124), (.ref o124)])) rfl (by rw [hml]; rfl) (Steps.refl _) (a := o124) (argsL := [(.ref b120), .null, (.ref b123)]) (rest := [(.ref o124)]) (lenOf pd6 rfl) rfl (by show 2 * 0 + _ ≤ _; exact Nat.le_of_eq rfl) (hb hby at_116) (fun _ _ => ⟨rfl, e124, (by decide : 3 + 4 ≤ _), (by decide : 6 + 66 ≤ _)⟩)
      dsimp only [Pt.U, Pt.locs, Pt.cells, Pt.slots] at Xr125 hSr125 hgr125 l125 y125 z125 st125 hQ125
      subst l125 y125 z125
      obtain ⟨X125, hS125, hZ125, hown125⟩ := rebS hS0 (by rw [e124]; exact hk124) Xr125 hSr125 hgr125 hZ hown
      have hk125 := Nat.le_refl T125.heap.size
      obtain ⟨b23_c31_c125, b27_c31_c125, rfl, Nq125, Kq125, szq_b23_c31_c125, szq_b27_c31_c125, ne_b23_c31_c125_b27_c31_c125, P125_0, P125_1, P125_2, P125_3, P125_4, P125_5, P125_6, P125_7, P125_8⟩ := hQ125
      have g_b23_c31_c125 : n0 ≤ b23_c31_c125 := Nat.le_trans Z124 szq_b23_c31_c125
      have sz_b23_c31_c125 : h0.size ≤ b23_c31_c125 := Nat.le_trans K124.1 szq_b23_c31_c125
      have ne_uNONE_b23_c31_c125 : uNONE ≠ b23_c31_c125 := Nat.ne_of_lt (Nat.lt_of_lt_of_le E_uNONE_t124.lt szq_b23_c31_c125)
      have ne_ucl_b23_c31_c125 : ucl ≠ b23_c31_c125 := Nat.ne_of_lt (Nat.lt_of_lt_of_le V_ucl_t124.lt szq_b23_c31_c125)
      have ne_b120_b23_c31_c125 : b120 ≠ b23_c31_c125 := Nat.ne_of_lt (Nat.lt_of_lt_of_le Ex120_t124.lt szq_b23_c31_c125)
      have ne_b123_b23_c31_c125 : b123 ≠ b23_c31_c125 := Nat.ne_of_lt (Nat.lt_of_lt_of_le Ex123_t124.lt szq_b23_c31_c125)
      have ne_o124_b23_c31_c125 : o124 ≠ b23_c31_c125 := Nat.ne_of_lt (Nat.lt_of_lt_of_le A124.lt szq_b23_c31_c125)
      have g_b27_c31_c125 : n0 ≤ b27_c31_c125 := Nat.le_trans Z124 szq_b27_c31_c125
      have sz_b27_c31_c125 : h0.size ≤ b27_c31_c125 := Nat.le_trans K124.1 szq_b27_c31_c125
      have ne_uNONE_b27_c31_c125 : uNONE ≠ b27_c31_c125 := Nat.ne_of_lt (Nat.lt_of_lt_of_le E_uNONE_t124.lt szq_b27_c31_c125)
      have ne_ucl_b27_c31_c125 : ucl ≠ b27_c31_c125 := Nat.ne_of_lt (Nat.lt_of_lt_of_le V_ucl_t124.lt szq_b27_c31_c125)
      have ne_b120_b27_c31_c125 : b120 ≠ b27_c31_c125 := Nat.ne_of_lt (Nat.lt_of_lt_of_le Ex120_t124.lt szq_b27_c31_c125)
      have ne_b123_b27_c31_c125 : b123 ≠ b27_c31_c125 := Nat.ne_of_lt (Nat.lt_of_lt_of_le Ex123_t124.lt szq_b27_c31_c125)
      have ne_o124_b27_c31_c125 : o124 ≠ b27_c31_c125 := Nat.ne_of_lt (Nat.lt_of_lt_of_le A124.lt szq_b27_c31_c125)
      have N125 := Fr.app N122 Nq125
      have K125 : Keep h0 T125.heap [] := K124.trans Kq125 (allS (P := fun x => x ∈ [] ∨ h0.size ≤ x) (Or.inr sz_o124) all0)
      have Z125 : n0 ≤ T125.heap.size := Nat.le_trans Z124 Kq125.1
      have S_NONE_t125 := Jvm.OwnW.Sta.keepN S_NONE_t124 Kq125 (allS (P := fun w => ∀ cell : Cell, h124[w]? = some cell → cell.vm.isStatics = false) (Jvm.OwnW.Exa.ns A124) all0)
      have E_uNONE_t125 := E_uNONE_t124.keep Kq125
      have S_high_t125 := Jvm.OwnW.Sta.keepN S_high_t124 Kq125 (allS (P := fun w => ∀ cell : Cell, h124[w]? = some cell → cell.vm.isStatics = false) (Jvm.OwnW.Exa.ns A124) all0)
      have S_cache_t125 := Jvm.OwnW.Sta.keepN S_cache_t124 Kq125 (allS (P := fun w => ∀ cell : Cell, h124[w]? = some cell → cell.vm.isStatics = false) (Jvm.OwnW.Exa.ns A124) all0)
      have V_ucl_t125 := V_ucl_t124.keep Kq125 (ninS ne_ucl_o124 nin0)
      have Ex120_t125 := Ex120_t124.keep Kq125
      have V_b120_t125 := V_b120_t124.keep Kq125 (ninS ne_b120_o124 nin0)
      have Ex123_t125 := Ex123_t124.keep Kq125
      have V_b123_t125 := V_b123_t124.keep Kq125 (ninS ne_b123_o124 nin0)
      have A124_t125 := A124.keep Kq125
      have e125 : T125.heap = T125.heap := rfl
      refine Wq.steps st125 ?_
      show Wq _ _ _ _ _ (T125.setTop (mkF m 119 #[.val (.int xlaw_1), .val (.int xlaw_2), .val (.int xlaw_3), .val (.int xlaw_4), .val (.int xlaw_5), .val (.int (2 : Int32)), .val (.int (0 : Int32)), .val (.int v14), .val (.int v18), .val (.int v22), .val (.ref b120), .val (.ref b123), .val .null, .unset, .unset, .unset] [(.ref o124)]))
      refine Ow.astore X125 hx (pc' := 121) (hb hby at_119) rfl (l' := #[.val (.int xlaw_1), .val (.int xlaw_2), .val (.int xlaw_3), .val (.int xlaw_4), .val (.int xlaw_5), .val (.int (2 : Int32)), .val (.int (0 : Int32)), .val (.int v14), .val (.int v18), .val (.int v22), .val (.ref b120), .val (.ref b123), .val .null, .val (.ref o124), .unset, .unset]) rfl ?_
      refine Ow.aload X125 hx (pc' := 123) (hb hby at_121) rfl rfl ?_
      obtain ⟨cq126, kq126, q126a, q126b, q126c⟩ := isOf hZ125 e125 A124_t125
      obtain ⟨_, _, ⟨T126, L126, k126, n126⟩, -, X126, ⟨Lc126, hQ126, l126, y126, z126⟩, st126⟩ := X125.virtualBack hx (y := mt5) (z := mt5) hown125 (mvT hZ125 (kw51 hw)) (mvT hZ125 (kw52 hw)) (notFace_of_selects (args := #[]) (mvT hZ125 (kw54 hw))) (mvT hZ125 (kw54 hw)) (mvT hZ125 (kw53 hw)) (by decide) (backOf (W := 0) (rm_ui0 l Z a0 hw [] o124 b27_c31_c125 T125.heap n0 Z125 P125_8 P125_6 P125_7 (own_f0)) hZ125 (kw55 hw) (kw3 hw) (by decide) (by decide)) q126a q126c (g := (mkF m 123 #[.val (.int xlaw_1), .val (.int xlaw_2), .val (.int xlaw_3), .val (.int xlaw_4), .val (.int xlaw_5), .val (.int (2 : Int32)), .val (.int (0 : Int32)), .val (.int v14), .val (.int v18), .val (.int v22), .val (.ref b120), .val (.ref b123), .val .null, .val (.ref o124), .unset, .unset] [(.ref o124)])) rfl (by rw [hml]; rfl) (Steps.refl _) (argsL := []) (rest := []) (lenOf pd7 rfl) rfl (by show 2 * 0 + _ ≤ _; exact Nat.le_of_eq rfl) (hb hby at_123) (fun _ _ => ⟨rfl, e125, (by decide : 7 + 1 ≤ _), (by decide : 72 + 0 ≤ _)⟩)
      dsimp only [Pt.U, Pt.locs, Pt.cells, Pt.slots] at X126 l126 y126 z126 st126 hQ126
      subst l126 y126 z126
      obtain ⟨b65_c126, rfl, Nq126, Kq126, szq_b65_c126, P126_0, P126_1⟩ := hQ126
      have g_b65_c126 : n0 ≤ b65_c126 := Nat.le_trans Z125 szq_b65_c126
      have sz_b65_c126 : h0.size ≤ b65_c126 := Nat.le_trans K125.1 szq_b65_c126
      have ne_uNONE_b65_c126 : uNONE ≠ b65_c126 := Nat.ne_of_lt (Nat.lt_of_lt_of_le E_uNONE_t125.lt szq_b65_c126)
      have ne_ucl_b65_c126 : ucl ≠ b65_c126 := Nat.ne_of_lt (Nat.lt_of_lt_of_le V_ucl_t125.lt szq_b65_c126)
      have ne_b120_b65_c126 : b120 ≠ b65_c126 := Nat.ne_of_lt (Nat.lt_of_lt_of_le Ex120_t125.lt szq_b65_c126)
      have ne_b123_b65_c126 : b123 ≠ b65_c126 := Nat.ne_of_lt (Nat.lt_of_lt_of_le Ex123_t125.lt szq_b65_c126)
      have ne_o124_b65_c126 : o124 ≠ b65_c126 := Nat.ne_of_lt (Nat.lt_of_lt_of_le A124_t125.lt szq_b65_c126)
      have ne_b23_c31_c125_b65_c126 : b23_c31_c125 ≠ b65_c126 := Nat.ne_of_lt (Nat.lt_of_lt_of_le P125_2.lt szq_b65_c126)
      have ne_b27_c31_c125_b65_c126 : b27_c31_c125 ≠ b65_c126 := Nat.ne_of_lt (Nat.lt_of_lt_of_le P125_6.lt szq_b65_c126)
      have N126 := Fr.app N125 Nq126
      have hk126 := Nat.le_trans hk125 Kq126.1
      have K126 : Keep h0 T126.heap [] := K125.trans Kq126 all0
      have Z126 : n0 ≤ T126.heap.size := Nat.le_trans Z125 Kq126.1
      have S_NONE_t126 := Jvm.OwnW.Sta.keepN S_NONE_t125 Kq126 all0
      have E_uNONE_t126 := E_uNONE_t125.keep Kq126
      have S_high_t126 := Jvm.OwnW.Sta.keepN S_high_t125 Kq126 all0
      have S_cache_t126 := Jvm.OwnW.Sta.keepN S_cache_t125 Kq126 all0
      have V_ucl_t126 := V_ucl_t125.keep Kq126 nin0
      have Ex120_t126 := Ex120_t125.keep Kq126
      have V_b120_t126 := V_b120_t125.keep Kq126 nin0
      have Ex123_t126 := Ex123_t125.keep Kq126
      have V_b123_t126 := V_b123_t125.keep Kq126 nin0
      have A124_t126 := A124_t125.keep Kq126
      have P125_1_t126 := P125_1.keep Kq126 nin0
      have P125_2_t126 := P125_2.keep Kq126 nin0
      have P125_3_t126 := P125_3.keep Kq126
      have P125_4_t126 := P125_4.keep Kq126 nin0
      have P125_5_t126 := P125_5.keep Kq126 nin0
      have P125_6_t126 := P125_6.keep Kq126 nin0
      have P125_7_t126 := P125_7.keep Kq126
      have P125_8_t126 := P125_8.keep Kq126 nin0
      have e126 : T126.heap = T126.heap := rfl
      refine Wq.steps st126 ?_
      show Wq _ _ _ _ _ (T126.setTop (mkF m 126 #[.val (.int xlaw_1), .val (.int xlaw_2), .val (.int xlaw_3), .val (.int xlaw_4), .val (.int xlaw_5), .val (.int (2 : Int32)), .val (.int (0 : Int32)), .val (.int v14), .val (.int v18), .val (.int v22), .val (.ref b120), .val (.ref b123), .val .null, .val (.ref o124), .unset, .unset] [(.ref b65_c126)]))
      refine Ow.astore X126 hx (pc' := 128) (hb hby at_126) rfl (l' := #[.val (.int xlaw_1), .val (.int xlaw_2), .val (.int xlaw_3), .val (.int xlaw_4), .val (.int xlaw_5), .val (.int (2 : Int32)), .val (.int (0 : Int32)), .val (.int v14), .val (.int v18), .val (.int v22), .val (.ref b120), .val (.ref b123), .val .null, .val (.ref o124), .val (.ref b65_c126), .unset]) rfl ?_
      refine Ow.aload X126 hx (pc' := 130) (hb hby at_128) rfl rfl ?_
      refine Ow.ifnonnullYes X126 hx (pc' := 152) (hb hby at_130) (by decide) (by decide) ?_
      refine Ow.aload X126 hx (pc' := 154) (hb hby at_152) rfl rfl ?_
      refine Ow.ifnullNo X126 hx (pc' := 157) (hb hby at_154)  ?_
      refine Ow.aload X126 hx (pc' := 159) (hb hby at_157) rfl rfl ?_
      refine Ow.aload X126 hx (pc' := 161) (hb hby at_159) rfl rfl ?_
      refine Ow.acmp X126 hx (pc' := 164) (hb hby at_161) rfl rfl (same := false) (decide_eq_false fun q => (Ne.symm ne_b123_b65_c126) (Value.ref.inj q)) (by decide) (by decide) ?_
      refine Ow.aload X126 hx (pc' := 166) (hb hby at_164) rfl rfl ?_
      refine Ow.iload X126 hx (pc' := 168) (hb hby at_166) rfl ?_
      refine Ow.iload X126 hx (pc' := 170) (hb hby at_168) rfl ?_
      refine Ow.iload X126 hx (pc' := 172) (hb hby at_170) rfl ?_
      refine Ow.iload X126 hx (pc' := 174) (hb hby at_172) rfl ?_
      obtain ⟨_, _, ⟨T127, L127, k127, n127⟩, -, X127, ⟨Lc127, hQ127, l127, y127, z127⟩, st127⟩ := Jvm.LawKit.callS X126 hx (y := mt6) hown125 (mvT hZ125 (kw56 hw)) (mvT hZ125 (kw57 hw)) (mvT hZ125 (kw58 hw)) (mvT hZ125 (kw59 hw)) (by decide) (backOf (W := 0) (rm_sm0 l Z a0 hw [] b65_c126 v14 v18 v22 T126.heap n0 Z126 P126_0) hZ125 (kw59 hw) (kw58 hw) (by decide) (by decide)) (g := (mkF m 174 #[.val (.int xlaw_1), .val (.int xlaw_2), .val (.int xlaw_3), .val (.int xlaw_4), .val (.int xlaw_5), .val (.int (2 : Int32)), .val (.int (0 : Int32)), .val (.int v14), .val (.int v18), .val (.int v22), .val (.ref b120), .val (.ref b123), .val .null, .val (.ref o124), .val (.ref b65_c126), .unset] [(.int v22), (.int v18), (.int v14), (.int (0 : Int32)), (.ref b65_c126)])) rfl (by rw [hml]; rfl) (argsL := [(.ref b65_c126), (.int (0 : Int32)), (.int v14), (.int v18), (.int v22)]) (rest := []) (lenOf pd9 rfl) rfl (by show 2 * 0 + _ ≤ _; exact Nat.le_of_eq rfl) (hb hby at_174) (fun _ _ => ⟨rfl, e126, (by decide : 8 + 0 ≤ _), (by decide : 72 + 0 ≤ _)⟩)
      dsimp only [Pt.U, Pt.locs, Pt.cells, Pt.slots] at X127 l127 y127 z127 st127 hQ127
      subst l127 y127 z127
      obtain ⟨rfl, Nq127, e127⟩ := hQ127
      have N127 := Fr.app N126 Nq127
      refine Wq.step st127 ?_
      show Wq _ _ _ _ _ (T127.setTop (mkF m 177 #[.val (.int xlaw_1), .val (.int xlaw_2), .val (.int xlaw_3), .val (.int xlaw_4), .val (.int xlaw_5), .val (.int (2 : Int32)), .val (.int (0 : Int32)), .val (.int v14), .val (.int v18), .val (.int v22), .val (.ref b120), .val (.ref b123), .val .null, .val (.ref o124), .val (.ref b65_c126), .unset] [(.int (1 : Int32))]))
      show Wq _ _ _ _ _ (T127.setTop (mkF m 177 #[.val (.int xlaw_1), .val (.int xlaw_2), .val (.int xlaw_3), .val (.int xlaw_4), .val (.int xlaw_5), .val (.int (2 : Int32)), .val (.int (0 : Int32)), .val (.int v14), .val (.int v18), .val (.int v22), .val (.ref b120), .val (.ref b123), .val .null, .val (.ref o124), .val (.ref b65_c126), .unset] [(.int (1 : Int32))]))
      refine Ow.ifYes X127 hx (pc' := 182) (hb hby at_177) ((if0 _ _).trans (feq (by decide : ¬ ((1 : Int32) = (0 : Int32)))).2) (by decide) (by decide) ?_
      refine Ow.aload X127 hx (pc' := 184) (hb hby at_182) rfl rfl ?_
      obtain ⟨_, _, ⟨T128, L128, k128, n128⟩, -, X128, ⟨Lc128, hQ128, l128, y128, z128⟩, st128⟩ := Jvm.LawKit.callS X127 hx (y := mt7) hown125 (mvT hZ125 (kw60 hw)) (mvT hZ125 (kw61 hw)) (mvT hZ125 (kw58 hw)) (mvT hZ125 (kw62 hw)) (by decide) (backOf (W := 0) (rm_fl0 l Z a0 hw [] b123 T126.heap n0 Z126 V_b123_t126 g_b123) hZ125 (kw62 hw) (kw58 hw) (by decide) (by decide)) (g := (mkF m 184 #[.val (.int xlaw_1), .val (.int xlaw_2), .val (.int xlaw_3), .val (.int xlaw_4), .val (.int xlaw_5), .val (.int (2 : Int32)), .val (.int (0 : Int32)), .val (.int v14), .val (.int v18), .val (.int v22), .val (.ref b120), .val (.ref b123), .val .null, .val (.ref o124), .val (.ref b65_c126), .unset] [(.ref b123)])) rfl (by rw [hml]; rfl) (argsL := [(.ref b123)]) (rest := []) (lenOf pd10 rfl) rfl (by show 2 * 0 + _ ≤ _; exact Nat.le_of_eq rfl) (hb hby at_184) (fun _ _ => ⟨rfl, e127, (by decide : 8 + 0 ≤ _), (by decide : 72 + 0 ≤ _)⟩)
      dsimp only [Pt.U, Pt.locs, Pt.cells, Pt.slots] at X128 l128 y128 z128 st128 hQ128
      subst l128 y128 z128
      obtain ⟨rfl, Nq128, e128⟩ := hQ128
      have N128 := Fr.app N127 Nq128
      refine Wq.step st128 ?_
      show Wq _ _ _ _ _ (T128.setTop (mkF m 187 #[.val (.int xlaw_1), .val (.int xlaw_2), .val (.int xlaw_3), .val (.int xlaw_4), .val (.int xlaw_5), .val (.int (2 : Int32)), .val (.int (0 : Int32)), .val (.int v14), .val (.int v18), .val (.int v22), .val (.ref b120), .val (.ref b123), .val .null, .val (.ref o124), .val (.ref b65_c126), .unset] []))
      refine Ow.aload X128 hx (pc' := 189) (hb hby at_187) rfl rfl ?_
      obtain ⟨_, _, ⟨T129, L129, k129, n129⟩, -, X129, ⟨Lc129, hQ129, l129, y129, z129⟩, st129⟩ := Jvm.LawKit.callS X128 hx (y := mt7) hown125 (mvT hZ125 (kw60 hw)) (mvT hZ125 (kw61 hw)) (mvT hZ125 (kw58 hw)) (mvT hZ125 (kw62 hw)) (by decide) (backOf (W := 0) (rm_fl0 l Z a0 hw [] b65_c126 T126.heap n0 Z126 P126_0 g_b65_c126) hZ125 (kw62 hw) (kw58 hw) (by decide) (by decide)) (g := (mkF m 189 #[.val (.int xlaw_1), .val (.int xlaw_2), .val (.int xlaw_3), .val (.int xlaw_4), .val (.int xlaw_5), .val (.int (2 : Int32)), .val (.int (0 : Int32)), .val (.int v14), .val (.int v18), .val (.int v22), .val (.ref b120), .val (.ref b123), .val .null, .val (.ref o124), .val (.ref b65_c126), .unset] [(.ref b65_c126)])) rfl (by rw [hml]; rfl) (argsL := [(.ref b65_c126)]) (rest := []) (lenOf pd10 rfl) rfl (by show 2 * 0 + _ ≤ _; exact Nat.le_of_eq rfl) (hb hby at_189) (fun _ _ => ⟨rfl, e128, (by decide : 8 + 0 ≤ _), (by decide : 72 + 0 ≤ _)⟩)
      dsimp only [Pt.U, Pt.locs, Pt.cells, Pt.slots] at X129 l129 y129 z129 st129 hQ129
      subst l129 y129 z129
      obtain ⟨rfl, Nq129, e129⟩ := hQ129
      have N129 := Fr.app N128 Nq129
      refine Wq.step st129 ?_
      show Wq _ _ _ _ _ (T129.setTop (mkF m 192 #[.val (.int xlaw_1), .val (.int xlaw_2), .val (.int xlaw_3), .val (.int xlaw_4), .val (.int xlaw_5), .val (.int (2 : Int32)), .val (.int (0 : Int32)), .val (.int v14), .val (.int v18), .val (.int v22), .val (.ref b120), .val (.ref b123), .val .null, .val (.ref o124), .val (.ref b65_c126), .unset] []))
      refine Ow.aload X129 hx (pc' := 194) (hb hby at_192) rfl rfl ?_
      obtain ⟨cq130, kq130, q130a, q130b, q130c⟩ := isOf hZ125 e129 A124_t126
      obtain ⟨_, _, ⟨T130, L130, k130, n130⟩, -, X130, ⟨Lc130, hQ130, l130, y130, z130⟩, st130⟩ := X129.virtualBack hx (y := mt5) (z := mt5) hown125 (mvT hZ125 (kw51 hw)) (mvT hZ125 (kw52 hw)) (notFace_of_selects (args := #[]) (mvT hZ125 (kw54 hw))) (mvT hZ125 (kw54 hw)) (mvT hZ125 (kw53 hw)) (by decide) (backOf (W := 0) (rm_ui0 l Z a0 hw [] o124 b27_c31_c125 T126.heap n0 Z126 P125_8_t126 P125_6_t126 P125_7_t126 (own_f0)) hZ125 (kw55 hw) (kw3 hw) (by decide) (by decide)) q130a q130c (g := (mkF m 194 #[.val (.int xlaw_1), .val (.int xlaw_2), .val (.int xlaw_3), .val (.int xlaw_4), .val (.int xlaw_5), .val (.int (2 : Int32)), .val (.int (0 : Int32)), .val (.int v14), .val (.int v18), .val (.int v22), .val (.ref b120), .val (.ref b123), .val .null, .val (.ref o124), .val (.ref b65_c126), .unset] [(.ref o124)])) rfl (by rw [hml]; rfl) (Steps.refl _) (argsL := []) (rest := []) (lenOf pd7 rfl) rfl (by show 2 * 0 + _ ≤ _; exact Nat.le_of_eq rfl) (hb hby at_194) (fun _ _ => ⟨rfl, e129, (by decide : 8 + 1 ≤ _), (by decide : 72 + 0 ≤ _)⟩)
      dsimp only [Pt.U, Pt.locs, Pt.cells, Pt.slots] at X130 l130 y130 z130 st130 hQ130
      subst l130 y130 z130
      obtain ⟨b65_c130, rfl, Nq130, Kq130, szq_b65_c130, P130_0, P130_1⟩ := hQ130
      have g_b65_c130 : n0 ≤ b65_c130 := Nat.le_trans Z126 szq_b65_c130
      have sz_b65_c130 : h0.size ≤ b65_c130 := Nat.le_trans K126.1 szq_b65_c130
      have ne_uNONE_b65_c130 : uNONE ≠ b65_c130 := Nat.ne_of_lt (Nat.lt_of_lt_of_le E_uNONE_t126.lt szq_b65_c130)
      have ne_ucl_b65_c130 : ucl ≠ b65_c130 := Nat.ne_of_lt (Nat.lt_of_lt_of_le V_ucl_t126.lt szq_b65_c130)
      have ne_b120_b65_c130 : b120 ≠ b65_c130 := Nat.ne_of_lt (Nat.lt_of_lt_of_le Ex120_t126.lt szq_b65_c130)
      have ne_b123_b65_c130 : b123 ≠ b65_c130 := Nat.ne_of_lt (Nat.lt_of_lt_of_le Ex123_t126.lt szq_b65_c130)
      have ne_o124_b65_c130 : o124 ≠ b65_c130 := Nat.ne_of_lt (Nat.lt_of_lt_of_le A124_t126.lt szq_b65_c130)
      have ne_b23_c31_c125_b65_c130 : b23_c31_c125 ≠ b65_c130 := Nat.ne_of_lt (Nat.lt_of_lt_of_le P125_2_t126.lt szq_b65_c130)
      have ne_b27_c31_c125_b65_c130 : b27_c31_c125 ≠ b65_c130 := Nat.ne_of_lt (Nat.lt_of_lt_of_le P125_6_t126.lt szq_b65_c130)
      have ne_b65_c126_b65_c130 : b65_c126 ≠ b65_c130 := Nat.ne_of_lt (Nat.lt_of_lt_of_le P126_0.lt szq_b65_c130)
      have N130 := Fr.app N129 Nq130
      have hk130 := Nat.le_trans hk126 Kq130.1
      have K130 : Keep h0 T130.heap [] := K126.trans Kq130 all0
      have Z130 : n0 ≤ T130.heap.size := Nat.le_trans Z126 Kq130.1
      have S_NONE_t130 := Jvm.OwnW.Sta.keepN S_NONE_t126 Kq130 all0
      have E_uNONE_t130 := E_uNONE_t126.keep Kq130
      have S_high_t130 := Jvm.OwnW.Sta.keepN S_high_t126 Kq130 all0
      have S_cache_t130 := Jvm.OwnW.Sta.keepN S_cache_t126 Kq130 all0
      have V_ucl_t130 := V_ucl_t126.keep Kq130 nin0
      have Ex120_t130 := Ex120_t126.keep Kq130
      have V_b120_t130 := V_b120_t126.keep Kq130 nin0
      have Ex123_t130 := Ex123_t126.keep Kq130
      have V_b123_t130 := V_b123_t126.keep Kq130 nin0
      have A124_t130 := A124_t126.keep Kq130
      have P125_1_t130 := P125_1_t126.keep Kq130 nin0
      have P125_2_t130 := P125_2_t126.keep Kq130 nin0
      have P125_3_t130 := P125_3_t126.keep Kq130
      have P125_4_t130 := P125_4_t126.keep Kq130 nin0
      have P125_5_t130 := P125_5_t126.keep Kq130 nin0
      have P125_6_t130 := P125_6_t126.keep Kq130 nin0
      have P125_7_t130 := P125_7_t126.keep Kq130
      have P125_8_t130 := P125_8_t126.keep Kq130 nin0
      have P126_0_t130 := P126_0.keep Kq130 nin0
      have P126_1_t130 := P126_1.keep Kq130
      have e130 : T130.heap = T130.heap := rfl
      refine Wq.steps st130 ?_
      show Wq _ _ _ _ _ (T130.setTop (mkF m 197 #[.val (.int xlaw_1), .val (.int xlaw_2), .val (.int xlaw_3), .val (.int xlaw_4), .val (.int xlaw_5), .val (.int (2 : Int32)), .val (.int (0 : Int32)), .val (.int v14), .val (.int v18), .val (.int v22), .val (.ref b120), .val (.ref b123), .val .null, .val (.ref o124), .val (.ref b65_c126), .unset] [(.ref b65_c130)]))
      refine Ow.astore X130 hx (pc' := 199) (hb hby at_197) rfl (l' := #[.val (.int xlaw_1), .val (.int xlaw_2), .val (.int xlaw_3), .val (.int xlaw_4), .val (.int xlaw_5), .val (.int (2 : Int32)), .val (.int (0 : Int32)), .val (.int v14), .val (.int v18), .val (.int v22), .val (.ref b120), .val (.ref b123), .val .null, .val (.ref o124), .val (.ref b65_c126), .val (.ref b65_c130)]) rfl ?_
      refine Ow.aload X130 hx (pc' := 201) (hb hby at_199) rfl rfl ?_
      refine Ow.ifnullNo X130 hx (pc' := 204) (hb hby at_201)  ?_
      refine Ow.aload X130 hx (pc' := 206) (hb hby at_204) rfl rfl ?_
      refine Ow.aload X130 hx (pc' := 208) (hb hby at_206) rfl rfl ?_
      refine Ow.acmp X130 hx (pc' := 211) (hb hby at_208) rfl rfl (same := false) (decide_eq_false fun q => (Ne.symm ne_b65_c126_b65_c130) (Value.ref.inj q)) (by decide) (by decide) ?_
      refine Ow.aload X130 hx (pc' := 213) (hb hby at_211) rfl rfl ?_
      refine Ow.aload X130 hx (pc' := 215) (hb hby at_213) rfl rfl ?_
      refine Ow.acmp X130 hx (pc' := 218) (hb hby at_215) rfl rfl (same := false) (decide_eq_false fun q => (Ne.symm ne_b123_b65_c130) (Value.ref.inj q)) (by decide) (by decide) ?_
      refine Ow.aload X130 hx (pc' := 220) (hb hby at_218) rfl rfl ?_
      refine Ow.iload X130 hx (pc' := 222) (hb hby at_220) rfl ?_
      refine Ow.iload X130 hx (pc' := 224) (hb hby at_222) rfl ?_
      refine Ow.iload X130 hx (pc' := 226) (hb hby at_224) rfl ?_
      refine Ow.iload X130 hx (pc' := 228) (hb hby at_226) rfl ?_
      obtain ⟨_, _, ⟨T131, L131, k131, n131⟩, -, X131, ⟨Lc131, hQ131, l131, y131, z131⟩, st131⟩ := Jvm.LawKit.callS X130 hx (y := mt6) hown125 (mvT hZ125 (kw56 hw)) (mvT hZ125 (kw57 hw)) (mvT hZ125 (kw58 hw)) (mvT hZ125 (kw59 hw)) (by decide) (backOf (W := 0) (rm_sm0 l Z a0 hw [] b65_c130 v14 v18 v22 T130.heap n0 Z130 P130_0) hZ125 (kw59 hw) (kw58 hw) (by decide) (by decide)) (g := (mkF m 228 #[.val (.int xlaw_1), .val (.int xlaw_2), .val (.int xlaw_3), .val (.int xlaw_4), .val (.int xlaw_5), .val (.int (2 : Int32)), .val (.int (0 : Int32)), .val (.int v14), .val (.int v18), .val (.int v22), .val (.ref b120), .val (.ref b123), .val .null, .val (.ref o124), .val (.ref b65_c126), .val (.ref b65_c130)] [(.int v22), (.int v18), (.int v14), (.int (0 : Int32)), (.ref b65_c130)])) rfl (by rw [hml]; rfl) (argsL := [(.ref b65_c130), (.int (0 : Int32)), (.int v14), (.int v18), (.int v22)]) (rest := []) (lenOf pd9 rfl) rfl (by show 2 * 0 + _ ≤ _; exact Nat.le_of_eq rfl) (hb hby at_228) (fun _ _ => ⟨rfl, e130, (by decide : 9 + 0 ≤ _), (by decide : 72 + 0 ≤ _)⟩)
      dsimp only [Pt.U, Pt.locs, Pt.cells, Pt.slots] at X131 l131 y131 z131 st131 hQ131
      subst l131 y131 z131
      obtain ⟨rfl, Nq131, e131⟩ := hQ131
      have N131 := Fr.app N130 Nq131
      refine Wq.step st131 ?_
      show Wq _ _ _ _ _ (T131.setTop (mkF m 231 #[.val (.int xlaw_1), .val (.int xlaw_2), .val (.int xlaw_3), .val (.int xlaw_4), .val (.int xlaw_5), .val (.int (2 : Int32)), .val (.int (0 : Int32)), .val (.int v14), .val (.int v18), .val (.int v22), .val (.ref b120), .val (.ref b123), .val .null, .val (.ref o124), .val (.ref b65_c126), .val (.ref b65_c130)] [(.int (1 : Int32))]))
      show Wq _ _ _ _ _ (T131.setTop (mkF m 231 #[.val (.int xlaw_1), .val (.int xlaw_2), .val (.int xlaw_3), .val (.int xlaw_4), .val (.int xlaw_5), .val (.int (2 : Int32)), .val (.int (0 : Int32)), .val (.int v14), .val (.int v18), .val (.int v22), .val (.ref b120), .val (.ref b123), .val .null, .val (.ref o124), .val (.ref b65_c126), .val (.ref b65_c130)] [(.int (1 : Int32))]))
      refine Ow.ifNo X131 hx (pc' := 234) (hb hby at_231) ((if0 _ _).trans (feq (by decide : ¬ ((1 : Int32) = (0 : Int32)))).1) ?_
      refine Ow.iconst X131 hx (pc' := 235) (hb hby at_234) (z := (1 : Int32)) rfl ?_
      refine Ow.goto X131 hx (pc' := 239) (hb hby at_235) (by decide) (by decide) ?_
      exact Wq.retW X131 hS125 (by rw [e131]; exact hk130) (BodyLoose.notSynchronized Bd) (rv := some (.int (1 : Int32))) (fun h => by rw [Bd.returns] at h; cases h) (fun _ hr => retN X131 hx (t := .boolean) Bd.returns (by simp) (hb hby at_239) hr) (by decide) (by decide) ⟨rfl, N131⟩
    · skip
      show Wq _ _ _ _ _ (T122.setTop (mkF m 48 #[.val (.int xlaw_1), .val (.int xlaw_2), .val (.int xlaw_3), .val (.int xlaw_4), .val (.int xlaw_5), .val (.int (2 : Int32)), .val (.int (1 : Int32)), .val (.int v14), .val (.int v18), .val (.int v22), .val (.ref b120), .val .null, .unset, .unset, .unset, .unset] []))
      refine Ow.iload X122 hx (pc' := 50) (hb hby at_48) rfl ?_
      obtain ⟨T132, h132, k132, X132, e132, E132, A132, Ex132, st132⟩ := newPE X122 hx hZ (aty := .byte) (kw0 hw) e122 (g := (mkF m 50 #[.val (.int xlaw_1), .val (.int xlaw_2), .val (.int xlaw_3), .val (.int xlaw_4), .val (.int xlaw_5), .val (.int (2 : Int32)), .val (.int (1 : Int32)), .val (.int v14), .val (.int v18), .val (.int v22), .val (.ref b120), .val .null, .unset, .unset, .unset, .unset] [(.int (1 : Int32))])) rfl (hb hby at_50) rfl (by decide) (cap := 1) (by decide) (by decide) (by decide) (by decide) (ad := "[B") (by decide)
      obtain ⟨b132, gz132⟩ : ∃ z, z = h122.size := ⟨_, rfl⟩
      rw [← gz132] at A132 Ex132 st132
      have g_b132 : n0 ≤ b132 := Nat.le_trans Z122 (Nat.le_of_eq gz132.symm)
      have sz_b132 : h0.size ≤ b132 := Nat.le_trans K122.1 (Nat.le_of_eq gz132.symm)
      have ne_uNONE_b132 : uNONE ≠ b132 := Nat.ne_of_lt (Nat.lt_of_lt_of_le E_uNONE_t122.lt (Nat.le_of_eq gz132.symm))
      have ne_ucl_b132 : ucl ≠ b132 := Nat.ne_of_lt (Nat.lt_of_lt_of_le V_ucl_t122.lt (Nat.le_of_eq gz132.symm))
      have ne_b120_b132 : b120 ≠ b132 := Nat.ne_of_lt (Nat.lt_of_lt_of_le Ex120_t122.lt (Nat.le_of_eq gz132.symm))
      have K132 : Keep h0 h132 [] := K122.ext E132
      have Z132 : n0 ≤ h132.size := Nat.le_trans Z122 E132.1
      have hk132 := Nat.le_trans hk122 E132.1
      have S_NONE_t132 := S_NONE_t122.ext E132
      have E_uNONE_t132 := E_uNONE_t122.ext E132
      have S_high_t132 := S_high_t122.ext E132
      have S_cache_t132 := S_cache_t122.ext E132
      have V_ucl_t132 := V_ucl_t122.ext E132
      have Ex120_t132 := Ex120_t122.ext E132
      have V_b120_t132 := V_b120_t122.ext E132
      have V_b132 : Al Z h132 b132 .byte [(.int (0 : Int32))] := Al.new A132 (k := 1) (rfl) rfl
      refine Wq.step st132 ?_
      show Wq _ _ _ _ _ (T132.setTop (mkF m 52 #[.val (.int xlaw_1), .val (.int xlaw_2), .val (.int xlaw_3), .val (.int xlaw_4), .val (.int xlaw_5), .val (.int (2 : Int32)), .val (.int (1 : Int32)), .val (.int v14), .val (.int v18), .val (.int v22), .val (.ref b120), .val .null, .unset, .unset, .unset, .unset] [(.ref b132)]))
      refine Ow.astore X132 hx (pc' := 54) (hb hby at_52) rfl (l' := #[.val (.int xlaw_1), .val (.int xlaw_2), .val (.int xlaw_3), .val (.int xlaw_4), .val (.int xlaw_5), .val (.int (2 : Int32)), .val (.int (1 : Int32)), .val (.int v14), .val (.int v18), .val (.int v22), .val (.ref b120), .val (.ref b132), .unset, .unset, .unset, .unset]) rfl ?_
      refine Ow.iload X132 hx (pc' := 56) (hb hby at_54) rfl ?_
      refine Ow.ifNo X132 hx (pc' := 59) (hb hby at_56) ((if0 _ _).trans (tlt (by decide : (0 : Int32) < (1 : Int32))).2.2.2) ?_
      refine Ow.aload X132 hx (pc' := 61) (hb hby at_59) rfl rfl ?_
      refine Ow.iconst X132 hx (pc' := 62) (hb hby at_61) (z := (0 : Int32)) rfl ?_
      refine Ow.iload X132 hx (pc' := 64) (hb hby at_62) rfl ?_
      obtain ⟨T133, h133, X133, e133, W133, Vr133, st133⟩ := asB X132 hx hZ e132 V_b132 (j := (0 : Int32)) (i := 0) (by decide) rfl (Nat.le_of_ble_eq_true rfl) (y := v14) (own_nar hv14) (g := (mkF m 64 #[.val (.int xlaw_1), .val (.int xlaw_2), .val (.int xlaw_3), .val (.int xlaw_4), .val (.int xlaw_5), .val (.int (2 : Int32)), .val (.int (1 : Int32)), .val (.int v14), .val (.int v18), .val (.int v22), .val (.ref b120), .val (.ref b132), .unset, .unset, .unset, .unset] [(.int v14), (.int (0 : Int32)), (.ref b132)])) rfl rfl (hb hby at_64)
      refine Wq.step st133 ?_
      have N133 := Fr.snoc X133 N122 g_b132
      have K133 : Keep h0 h133 [] := K132.wr W133 (Or.inr sz_b132)
      have Z133 : n0 ≤ h133.size := Nat.le_trans Z132 (Keep.of_wr W133).1
      have hk133 := Nat.le_trans hk132 (Keep.of_wr W133).1
      have S_NONE_t133 := S_NONE_t132.wr W133
      have E_uNONE_t133 := E_uNONE_t132.wr W133
      have S_high_t133 := S_high_t132.wr W133
      have S_cache_t133 := S_cache_t132.wr W133
      have V_ucl_t133 := V_ucl_t132.other W133 ne_ucl_b132
      have Ex120_t133 := Ex120_t132.wr W133
      have V_b120_t133 := V_b120_t132.other W133 ne_b120_b132
      have Ex132_t133 := Ex132.wr W133
      have V_b132_t133 : Al Z h133 b132 .byte [(.int v14)] := Vr133
      show Wq _ _ _ _ _ (T133.setTop (mkF m 65 #[.val (.int xlaw_1), .val (.int xlaw_2), .val (.int xlaw_3), .val (.int xlaw_4), .val (.int xlaw_5), .val (.int (2 : Int32)), .val (.int (1 : Int32)), .val (.int v14), .val (.int v18), .val (.int v22), .val (.ref b120), .val (.ref b132), .unset, .unset, .unset, .unset] []))
      refine Ow.iload X133 hx (pc' := 67) (hb hby at_65) rfl ?_
      refine Ow.iconst X133 hx (pc' := 68) (hb hby at_67) (z := (1 : Int32)) rfl ?_
      refine Ow.icmpYes X133 hx (pc' := 77) (hb hby at_68) (flt (by decide : ¬ ((1 : Int32) < (1 : Int32)))).2.2.2 (by decide) (by decide) ?_
      refine Ow.iload X133 hx (pc' := 79) (hb hby at_77) rfl ?_
      refine Ow.iconst X133 hx (pc' := 80) (hb hby at_79) (z := (2 : Int32)) rfl ?_
      refine Ow.icmpYes X133 hx (pc' := 89) (hb hby at_80) (flt (by decide : ¬ ((2 : Int32) < (1 : Int32)))).2.2.2 (by decide) (by decide) ?_
      refine Ow.iload X133 hx (pc' := 91) (hb hby at_89) rfl ?_
      refine Ow.iconst X133 hx (pc' := 92) (hb hby at_91) (z := (1 : Int32)) rfl ?_
      refine Ow.icmpYes X133 hx (pc' := 103) (hb hby at_92) (feq (by decide : ¬ ((2 : Int32) = (1 : Int32)))).2 (by decide) (by decide) ?_
      refine Ow.aconstNull X133 hx (pc' := 104) (hb hby at_103)  ?_
      refine Ow.astore X133 hx (pc' := 106) (hb hby at_104) rfl (l' := #[.val (.int xlaw_1), .val (.int xlaw_2), .val (.int xlaw_3), .val (.int xlaw_4), .val (.int xlaw_5), .val (.int (2 : Int32)), .val (.int (1 : Int32)), .val (.int v14), .val (.int v18), .val (.int v22), .val (.ref b120), .val (.ref b132), .val .null, .unset, .unset, .unset]) rfl ?_
      obtain ⟨T134, h134, X134, e134, E134, A134, D134, -, st134⟩ := newO X133 hx hZ hown (kw1 hw) (kw2 hw) (kw3 hw) e133 (g := (mkF m 106 #[.val (.int xlaw_1), .val (.int xlaw_2), .val (.int xlaw_3), .val (.int xlaw_4), .val (.int xlaw_5), .val (.int (2 : Int32)), .val (.int (1 : Int32)), .val (.int v14), .val (.int v18), .val (.int v22), .val (.ref b120), .val (.ref b132), .val .null, .unset, .unset, .unset] [])) rfl (hb hby at_106) (by decide) (by decide)
      obtain ⟨o134, gz134⟩ : ∃ z, z = h133.size := ⟨_, rfl⟩
      rw [← gz134] at A134 D134 st134
      have g_o134 : n0 ≤ o134 := Nat.le_trans Z133 (Nat.le_of_eq gz134.symm)
      have sz_o134 : h0.size ≤ o134 := Nat.le_trans K133.1 (Nat.le_of_eq gz134.symm)
      have ne_uNONE_o134 : uNONE ≠ o134 := Nat.ne_of_lt (Nat.lt_of_lt_of_le E_uNONE_t133.lt (Nat.le_of_eq gz134.symm))
      have ne_ucl_o134 : ucl ≠ o134 := Nat.ne_of_lt (Nat.lt_of_lt_of_le V_ucl_t133.lt (Nat.le_of_eq gz134.symm))
      have ne_b120_o134 : b120 ≠ o134 := Nat.ne_of_lt (Nat.lt_of_lt_of_le Ex120_t133.lt (Nat.le_of_eq gz134.symm))
      have ne_b132_o134 : b132 ≠ o134 := Nat.ne_of_lt (Nat.lt_of_lt_of_le Ex132_t133.lt (Nat.le_of_eq gz134.symm))
      have K134 : Keep h0 h134 [] := K133.ext E134
      have Z134 : n0 ≤ h134.size := Nat.le_trans Z133 E134.1
      have hk134 := Nat.le_trans hk133 E134.1
      have S_NONE_t134 := S_NONE_t133.ext E134
      have E_uNONE_t134 := E_uNONE_t133.ext E134
      have S_high_t134 := S_high_t133.ext E134
      have S_cache_t134 := S_cache_t133.ext E134
      have V_ucl_t134 := V_ucl_t133.ext E134
      have Ex120_t134 := Ex120_t133.ext E134
      have V_b120_t134 := V_b120_t133.ext E134
      have Ex132_t134 := Ex132_t133.ext E134
      have V_b132_t134 := V_b132_t133.ext E134
      refine Wq.step st134 ?_
      have F_o134_unknownElements : Fld Z h134 o134 "com/example/opwire/opwire/codec/tcap/TcapMessage" "unknownElements" "Lcom/example/opwire/opwire/codec/ber/UnknownElements;" .null := D134 (Or.inr (kw35 hw)) (ty := (.object "com/example/opwire/opwire/codec/ber/UnknownElements")) (by decide)
      have F_o134_destinationTransactionId : Fld Z h134 o134 "com/example/opwire/opwire/codec/tcap/Abort" "destinationTransactionId" "[B" .null := D134 (Or.inr (kw46 hw)) (ty := (.array .byte)) (by decide)
      have F_o134_pAbortCause : Fld Z h134 o134 "com/example/opwire/opwire/codec/tcap/Abort" "pAbortCause" "Ljava/lang/Integer;" .null := D134 (Or.inr (kw48 hw)) (ty := (.object "java/lang/Integer")) (by decide)
      have F_o134_userAbortInformation : Fld Z h134 o134 "com/example/opwire/opwire/codec/tcap/Abort" "userAbortInformation" "[B" .null := D134 (Or.inr (kw50 hw)) (ty := (.array .byte)) (by decide)
      show Wq _ _ _ _ _ (T134.setTop (mkF m 109 #[.val (.int xlaw_1), .val (.int xlaw_2), .val (.int xlaw_3), .val (.int xlaw_4), .val (.int xlaw_5), .val (.int (2 : Int32)), .val (.int (1 : Int32)), .val (.int v14), .val (.int v18), .val (.int v22), .val (.ref b120), .val (.ref b132), .val .null, .unset, .unset, .unset] [(.ref o134)]))
      refine Ow.dup X134 hx (pc' := 110) (hb hby at_109) rfl ?_
      refine Ow.aload X134 hx (pc' := 112) (hb hby at_110) rfl rfl ?_
      refine Ow.aload X134 hx (pc' := 114) (hb hby at_112) rfl rfl ?_
      refine Ow.aload X134 hx (pc' := 116) (hb hby at_114) rfl rfl ?_
      obtain ⟨_, _, ⟨T135, L135, k135, n135⟩, -, Xr135, hSr135, hgr135, ⟨Lc135, hQ135, l135, y135, z135⟩, st135⟩ := X134.specialBackS hx (y := mt4) rfl hown (mvT hZ (kw4 hw)) (mvT hZ (kw5 hw)) (mvT hZ (kw6 hw)) (by decide) (backOfS (W := 1) (rm_a1 l Z a0 hw [] o134 b120 b132 v22 v14 v14 uNONE h134 n0 Z134 A134 F_o134_unknownElements F_o134_destinationTransactionId F_o134_pAbortCause F_o134_userAbortInformation g_o134 V_b120_t134 Ex120_t134 ne_b120_o134 (own_fc (own_fb hv22) (own_fc (own_fb hv14) own_f0)) V_b132_t134 Ex132_t134 ne_b132_o134 ((own_fc (own_fb hv14) own_f0)) S_NONE_t134 E_uNONE_t134) hZ (kw6 hw) (kw3 hw) (by decide) (by decide)) (g := (mkF m 116 #[.val (.int xlaw_1), .val (.int xlaw_2), .val (.int xlaw_3), .val (.int xlaw_4), .val (.int xlaw_5), .val (.int (2 : Int32)), .val (.int (1 : Int32)), .val (.int v14), .val (.int v18), .val (.int v22), .val (.ref b120), .val (.ref b132), .val .null, .unset, .unset, .unset] [(.ref b132), .null, (.ref b120), (.ref o134), (.ref o134)])) rfl (by rw [hml]; rfl) (Steps.refl _) (a := o134) (argsL := [(.ref b120), .null, (.ref b132)]) (rest := [(.ref o134)]) (lenOf pd6 rfl) rfl (by show 2 * 0 + _ ≤ _; exact Nat.le_of_eq rfl) (hb hby at_116) (fun _ _ => ⟨rfl, e134, (by decide : 3 + 4 ≤ _), (by decide : 7 + 67 ≤ _)⟩)
      dsimp only [Pt.U, Pt.locs, Pt.cells, Pt.slots] at Xr135 hSr135 hgr135 l135 y135 z135 st135 hQ135
      subst l135 y135 z135
      obtain ⟨X135, hS135, hZ135, hown135⟩ := rebS hS0 (by rw [e134]; exact hk134) Xr135 hSr135 hgr135 hZ hown
      have hk135 := Nat.le_refl T135.heap.size
      obtain ⟨b33_c41_c135, b37_c41_c135, rfl, Nq135, Kq135, szq_b33_c41_c135, szq_b37_c41_c135, ne_b33_c41_c135_b37_c41_c135, P135_0, P135_1, P135_2, P135_3, P135_4, P135_5, P135_6, P135_7, P135_8⟩ := hQ135
      have g_b33_c41_c135 : n0 ≤ b33_c41_c135 := Nat.le_trans Z134 szq_b33_c41_c135
      have sz_b33_c41_c135 : h0.size ≤ b33_c41_c135 := Nat.le_trans K134.1 szq_b33_c41_c135
      have ne_uNONE_b33_c41_c135 : uNONE ≠ b33_c41_c135 := Nat.ne_of_lt (Nat.lt_of_lt_of_le E_uNONE_t134.lt szq_b33_c41_c135)
      have ne_ucl_b33_c41_c135 : ucl ≠ b33_c41_c135 := Nat.ne_of_lt (Nat.lt_of_lt_of_le V_ucl_t134.lt szq_b33_c41_c135)
      have ne_b120_b33_c41_c135 : b120 ≠ b33_c41_c135 := Nat.ne_of_lt (Nat.lt_of_lt_of_le Ex120_t134.lt szq_b33_c41_c135)
      have ne_b132_b33_c41_c135 : b132 ≠ b33_c41_c135 := Nat.ne_of_lt (Nat.lt_of_lt_of_le Ex132_t134.lt szq_b33_c41_c135)
      have ne_o134_b33_c41_c135 : o134 ≠ b33_c41_c135 := Nat.ne_of_lt (Nat.lt_of_lt_of_le A134.lt szq_b33_c41_c135)
      have g_b37_c41_c135 : n0 ≤ b37_c41_c135 := Nat.le_trans Z134 szq_b37_c41_c135
      have sz_b37_c41_c135 : h0.size ≤ b37_c41_c135 := Nat.le_trans K134.1 szq_b37_c41_c135
      have ne_uNONE_b37_c41_c135 : uNONE ≠ b37_c41_c135 := Nat.ne_of_lt (Nat.lt_of_lt_of_le E_uNONE_t134.lt szq_b37_c41_c135)
      have ne_ucl_b37_c41_c135 : ucl ≠ b37_c41_c135 := Nat.ne_of_lt (Nat.lt_of_lt_of_le V_ucl_t134.lt szq_b37_c41_c135)
      have ne_b120_b37_c41_c135 : b120 ≠ b37_c41_c135 := Nat.ne_of_lt (Nat.lt_of_lt_of_le Ex120_t134.lt szq_b37_c41_c135)
      have ne_b132_b37_c41_c135 : b132 ≠ b37_c41_c135 := Nat.ne_of_lt (Nat.lt_of_lt_of_le Ex132_t134.lt szq_b37_c41_c135)
      have ne_o134_b37_c41_c135 : o134 ≠ b37_c41_c135 := Nat.ne_of_lt (Nat.lt_of_lt_of_le A134.lt szq_b37_c41_c135)
      have N135 := Fr.app N133 Nq135
      have K135 : Keep h0 T135.heap [] := K134.trans Kq135 (allS (P := fun x => x ∈ [] ∨ h0.size ≤ x) (Or.inr sz_o134) all0)
      have Z135 : n0 ≤ T135.heap.size := Nat.le_trans Z134 Kq135.1
      have S_NONE_t135 := Jvm.OwnW.Sta.keepN S_NONE_t134 Kq135 (allS (P := fun w => ∀ cell : Cell, h134[w]? = some cell → cell.vm.isStatics = false) (Jvm.OwnW.Exa.ns A134) all0)
      have E_uNONE_t135 := E_uNONE_t134.keep Kq135
      have S_high_t135 := Jvm.OwnW.Sta.keepN S_high_t134 Kq135 (allS (P := fun w => ∀ cell : Cell, h134[w]? = some cell → cell.vm.isStatics = false) (Jvm.OwnW.Exa.ns A134) all0)
      have S_cache_t135 := Jvm.OwnW.Sta.keepN S_cache_t134 Kq135 (allS (P := fun w => ∀ cell : Cell, h134[w]? = some cell → cell.vm.isStatics = false) (Jvm.OwnW.Exa.ns A134) all0)
      have V_ucl_t135 := V_ucl_t134.keep Kq135 (ninS ne_ucl_o134 nin0)
      have Ex120_t135 := Ex120_t134.keep Kq135
      have V_b120_t135 := V_b120_t134.keep Kq135 (ninS ne_b120_o134 nin0)
      have Ex132_t135 := Ex132_t134.keep Kq135
      have V_b132_t135 := V_b132_t134.keep Kq135 (ninS ne_b132_o134 nin0)
      have A134_t135 := A134.keep Kq135
      have e135 : T135.heap = T135.heap := rfl
      refine Wq.steps st135 ?_
      show Wq _ _ _ _ _ (T135.setTop (mkF m 119 #[.val (.int xlaw_1), .val (.int xlaw_2), .val (.int xlaw_3), .val (.int xlaw_4), .val (.int xlaw_5), .val (.int (2 : Int32)), .val (.int (1 : Int32)), .val (.int v14), .val (.int v18), .val (.int v22), .val (.ref b120), .val (.ref b132), .val .null, .unset, .unset, .unset] [(.ref o134)]))
      refine Ow.astore X135 hx (pc' := 121) (hb hby at_119) rfl (l' := #[.val (.int xlaw_1), .val (.int xlaw_2), .val (.int xlaw_3), .val (.int xlaw_4), .val (.int xlaw_5), .val (.int (2 : Int32)), .val (.int (1 : Int32)), .val (.int v14), .val (.int v18), .val (.int v22), .val (.ref b120), .val (.ref b132), .val .null, .val (.ref o134), .unset, .unset]) rfl ?_
      refine Ow.aload X135 hx (pc' := 123) (hb hby at_121) rfl rfl ?_
      obtain ⟨cq136, kq136, q136a, q136b, q136c⟩ := isOf hZ135 e135 A134_t135
      obtain ⟨_, _, ⟨T136, L136, k136, n136⟩, -, X136, ⟨Lc136, hQ136, l136, y136, z136⟩, st136⟩ := X135.virtualBack hx (y := mt5) (z := mt5) hown135 (mvT hZ135 (kw51 hw)) (mvT hZ135 (kw52 hw)) (notFace_of_selects (args := #[]) (mvT hZ135 (kw54 hw))) (mvT hZ135 (kw54 hw)) (mvT hZ135 (kw53 hw)) (by decide) (backOf (W := 0) (rm_ui1 l Z a0 hw [] o134 b37_c41_c135 v14 T135.heap n0 Z135 P135_8 P135_6 P135_7 ((own_fc (own_fb hv14) own_f0))) hZ135 (kw55 hw) (kw3 hw) (by decide) (by decide)) q136a q136c (g := (mkF m 123 #[.val (.int xlaw_1), .val (.int xlaw_2), .val (.int xlaw_3), .val (.int xlaw_4), .val (.int xlaw_5), .val (.int (2 : Int32)), .val (.int (1 : Int32)), .val (.int v14), .val (.int v18), .val (.int v22), .val (.ref b120), .val (.ref b132), .val .null, .val (.ref o134), .unset, .unset] [(.ref o134)])) rfl (by rw [hml]; rfl) (Steps.refl _) (argsL := []) (rest := []) (lenOf pd7 rfl) rfl (by show 2 * 0 + _ ≤ _; exact Nat.le_of_eq rfl) (hb hby at_123) (fun _ _ => ⟨rfl, e135, (by decide : 7 + 1 ≤ _), (by decide : 74 + 1 ≤ _)⟩)
      dsimp only [Pt.U, Pt.locs, Pt.cells, Pt.slots] at X136 l136 y136 z136 st136 hQ136
      subst l136 y136 z136
      obtain ⟨b69_c136, rfl, Nq136, Kq136, szq_b69_c136, P136_0, P136_1⟩ := hQ136
      have g_b69_c136 : n0 ≤ b69_c136 := Nat.le_trans Z135 szq_b69_c136
      have sz_b69_c136 : h0.size ≤ b69_c136 := Nat.le_trans K135.1 szq_b69_c136
      have ne_uNONE_b69_c136 : uNONE ≠ b69_c136 := Nat.ne_of_lt (Nat.lt_of_lt_of_le E_uNONE_t135.lt szq_b69_c136)
      have ne_ucl_b69_c136 : ucl ≠ b69_c136 := Nat.ne_of_lt (Nat.lt_of_lt_of_le V_ucl_t135.lt szq_b69_c136)
      have ne_b120_b69_c136 : b120 ≠ b69_c136 := Nat.ne_of_lt (Nat.lt_of_lt_of_le Ex120_t135.lt szq_b69_c136)
      have ne_b132_b69_c136 : b132 ≠ b69_c136 := Nat.ne_of_lt (Nat.lt_of_lt_of_le Ex132_t135.lt szq_b69_c136)
      have ne_o134_b69_c136 : o134 ≠ b69_c136 := Nat.ne_of_lt (Nat.lt_of_lt_of_le A134_t135.lt szq_b69_c136)
      have ne_b33_c41_c135_b69_c136 : b33_c41_c135 ≠ b69_c136 := Nat.ne_of_lt (Nat.lt_of_lt_of_le P135_2.lt szq_b69_c136)
      have ne_b37_c41_c135_b69_c136 : b37_c41_c135 ≠ b69_c136 := Nat.ne_of_lt (Nat.lt_of_lt_of_le P135_6.lt szq_b69_c136)
      have N136 := Fr.app N135 Nq136
      have hk136 := Nat.le_trans hk135 Kq136.1
      have K136 : Keep h0 T136.heap [] := K135.trans Kq136 all0
      have Z136 : n0 ≤ T136.heap.size := Nat.le_trans Z135 Kq136.1
      have S_NONE_t136 := Jvm.OwnW.Sta.keepN S_NONE_t135 Kq136 all0
      have E_uNONE_t136 := E_uNONE_t135.keep Kq136
      have S_high_t136 := Jvm.OwnW.Sta.keepN S_high_t135 Kq136 all0
      have S_cache_t136 := Jvm.OwnW.Sta.keepN S_cache_t135 Kq136 all0
      have V_ucl_t136 := V_ucl_t135.keep Kq136 nin0
      have Ex120_t136 := Ex120_t135.keep Kq136
      have V_b120_t136 := V_b120_t135.keep Kq136 nin0
      have Ex132_t136 := Ex132_t135.keep Kq136
      have V_b132_t136 := V_b132_t135.keep Kq136 nin0
      have A134_t136 := A134_t135.keep Kq136
      have P135_1_t136 := P135_1.keep Kq136 nin0
      have P135_2_t136 := P135_2.keep Kq136 nin0
      have P135_3_t136 := P135_3.keep Kq136
      have P135_4_t136 := P135_4.keep Kq136 nin0
      have P135_5_t136 := P135_5.keep Kq136 nin0
      have P135_6_t136 := P135_6.keep Kq136 nin0
      have P135_7_t136 := P135_7.keep Kq136
      have P135_8_t136 := P135_8.keep Kq136 nin0
      have e136 : T136.heap = T136.heap := rfl
      refine Wq.steps st136 ?_
      show Wq _ _ _ _ _ (T136.setTop (mkF m 126 #[.val (.int xlaw_1), .val (.int xlaw_2), .val (.int xlaw_3), .val (.int xlaw_4), .val (.int xlaw_5), .val (.int (2 : Int32)), .val (.int (1 : Int32)), .val (.int v14), .val (.int v18), .val (.int v22), .val (.ref b120), .val (.ref b132), .val .null, .val (.ref o134), .unset, .unset] [(.ref b69_c136)]))
      refine Ow.astore X136 hx (pc' := 128) (hb hby at_126) rfl (l' := #[.val (.int xlaw_1), .val (.int xlaw_2), .val (.int xlaw_3), .val (.int xlaw_4), .val (.int xlaw_5), .val (.int (2 : Int32)), .val (.int (1 : Int32)), .val (.int v14), .val (.int v18), .val (.int v22), .val (.ref b120), .val (.ref b132), .val .null, .val (.ref o134), .val (.ref b69_c136), .unset]) rfl ?_
      refine Ow.aload X136 hx (pc' := 130) (hb hby at_128) rfl rfl ?_
      refine Ow.ifnonnullYes X136 hx (pc' := 152) (hb hby at_130) (by decide) (by decide) ?_
      refine Ow.aload X136 hx (pc' := 154) (hb hby at_152) rfl rfl ?_
      refine Ow.ifnullNo X136 hx (pc' := 157) (hb hby at_154)  ?_
      refine Ow.aload X136 hx (pc' := 159) (hb hby at_157) rfl rfl ?_
      refine Ow.aload X136 hx (pc' := 161) (hb hby at_159) rfl rfl ?_
      refine Ow.acmp X136 hx (pc' := 164) (hb hby at_161) rfl rfl (same := false) (decide_eq_false fun q => (Ne.symm ne_b132_b69_c136) (Value.ref.inj q)) (by decide) (by decide) ?_
      refine Ow.aload X136 hx (pc' := 166) (hb hby at_164) rfl rfl ?_
      refine Ow.iload X136 hx (pc' := 168) (hb hby at_166) rfl ?_
      refine Ow.iload X136 hx (pc' := 170) (hb hby at_168) rfl ?_
      refine Ow.iload X136 hx (pc' := 172) (hb hby at_170) rfl ?_
      refine Ow.iload X136 hx (pc' := 174) (hb hby at_172) rfl ?_
      obtain ⟨_, _, ⟨T137, L137, k137, n137⟩, -, X137, ⟨Lc137, hQ137, l137, y137, z137⟩, st137⟩ := Jvm.LawKit.callS X136 hx (y := mt6) hown135 (mvT hZ135 (kw56 hw)) (mvT hZ135 (kw57 hw)) (mvT hZ135 (kw58 hw)) (mvT hZ135 (kw59 hw)) (by decide) (backOf (W := 0) (rm_sm1 l Z a0 hw [] b69_c136 v14 v18 v22 v14 T136.heap n0 Z136 P136_0) hZ135 (kw59 hw) (kw58 hw) (by decide) (by decide)) (g := (mkF m 174 #[.val (.int xlaw_1), .val (.int xlaw_2), .val (.int xlaw_3), .val (.int xlaw_4), .val (.int xlaw_5), .val (.int (2 : Int32)), .val (.int (1 : Int32)), .val (.int v14), .val (.int v18), .val (.int v22), .val (.ref b120), .val (.ref b132), .val .null, .val (.ref o134), .val (.ref b69_c136), .unset] [(.int v22), (.int v18), (.int v14), (.int (1 : Int32)), (.ref b69_c136)])) rfl (by rw [hml]; rfl) (argsL := [(.ref b69_c136), (.int (1 : Int32)), (.int v14), (.int v18), (.int v22)]) (rest := []) (lenOf pd9 rfl) rfl (by show 2 * 0 + _ ≤ _; exact Nat.le_of_eq rfl) (hb hby at_174) (fun _ _ => ⟨rfl, e136, (by decide : 8 + 0 ≤ _), (by decide : 75 + 0 ≤ _)⟩)
      dsimp only [Pt.U, Pt.locs, Pt.cells, Pt.slots] at X137 l137 y137 z137 st137 hQ137
      subst l137 y137 z137
      obtain ⟨rfl, Nq137, e137⟩ := hQ137
      have N137 := Fr.app N136 Nq137
      refine Wq.step st137 ?_
      show Wq _ _ _ _ _ (T137.setTop (mkF m 177 #[.val (.int xlaw_1), .val (.int xlaw_2), .val (.int xlaw_3), .val (.int xlaw_4), .val (.int xlaw_5), .val (.int (2 : Int32)), .val (.int (1 : Int32)), .val (.int v14), .val (.int v18), .val (.int v22), .val (.ref b120), .val (.ref b132), .val .null, .val (.ref o134), .val (.ref b69_c136), .unset] [(.int (f_sm1 v14 v18 v22 v14))]))
      generalize hv174 : (f_sm1 v14 v18 v22 v14) = v174
      show Wq _ _ _ _ _ (T137.setTop (mkF m 177 #[.val (.int xlaw_1), .val (.int xlaw_2), .val (.int xlaw_3), .val (.int xlaw_4), .val (.int xlaw_5), .val (.int (2 : Int32)), .val (.int (1 : Int32)), .val (.int v14), .val (.int v18), .val (.int v22), .val (.ref b120), .val (.ref b132), .val .null, .val (.ref o134), .val (.ref b69_c136), .unset] [(.int v174)]))
      refine Ow.ifYes X137 hx (pc' := 182) (hb hby at_177) ((if0 _ _).trans (feq (by subst hv174; simp [f_sm1] : ¬ (v174 = (0 : Int32)))).2) (by decide) (by decide) ?_
      refine Ow.aload X137 hx (pc' := 184) (hb hby at_182) rfl rfl ?_
      obtain ⟨_, _, ⟨T138, L138, k138, n138⟩, -, X138, ⟨Lc138, hQ138, l138, y138, z138⟩, st138⟩ := Jvm.LawKit.callS X137 hx (y := mt7) hown135 (mvT hZ135 (kw60 hw)) (mvT hZ135 (kw61 hw)) (mvT hZ135 (kw58 hw)) (mvT hZ135 (kw62 hw)) (by decide) (backOf (W := 0) (rm_fl1 l Z a0 hw [] b132 v14 T136.heap n0 Z136 V_b132_t136 g_b132) hZ135 (kw62 hw) (kw58 hw) (by decide) (by decide)) (g := (mkF m 184 #[.val (.int xlaw_1), .val (.int xlaw_2), .val (.int xlaw_3), .val (.int xlaw_4), .val (.int xlaw_5), .val (.int (2 : Int32)), .val (.int (1 : Int32)), .val (.int v14), .val (.int v18), .val (.int v22), .val (.ref b120), .val (.ref b132), .val .null, .val (.ref o134), .val (.ref b69_c136), .unset] [(.ref b132)])) rfl (by rw [hml]; rfl) (argsL := [(.ref b132)]) (rest := []) (lenOf pd10 rfl) rfl (by show 2 * 0 + _ ≤ _; exact Nat.le_of_eq rfl) (hb hby at_184) (fun _ _ => ⟨rfl, e137, (by decide : 8 + 0 ≤ _), (by decide : 75 + 0 ≤ _)⟩)
      dsimp only [Pt.U, Pt.locs, Pt.cells, Pt.slots] at X138 l138 y138 z138 st138 hQ138
      subst l138 y138 z138
      obtain ⟨rfl, Nq138, Kq138, P138_0⟩ := hQ138
      have N138 := Fr.app N137 Nq138
      have hk138 := Nat.le_trans hk136 Kq138.1
      have K138 : Keep h0 T138.heap [] := K136.trans Kq138 (allS (P := fun x => x ∈ [] ∨ h0.size ≤ x) (Or.inr sz_b132) all0)
      have Z138 : n0 ≤ T138.heap.size := Nat.le_trans Z136 Kq138.1
      have S_NONE_t138 := Jvm.OwnW.Sta.keepN S_NONE_t136 Kq138 (allS (P := fun w => ∀ cell : Cell, T136.heap[w]? = some cell → cell.vm.isStatics = false) (Jvm.OwnW.Exa.ns Ex132_t136) all0)
      have E_uNONE_t138 := E_uNONE_t136.keep Kq138
      have S_high_t138 := Jvm.OwnW.Sta.keepN S_high_t136 Kq138 (allS (P := fun w => ∀ cell : Cell, T136.heap[w]? = some cell → cell.vm.isStatics = false) (Jvm.OwnW.Exa.ns Ex132_t136) all0)
      have S_cache_t138 := Jvm.OwnW.Sta.keepN S_cache_t136 Kq138 (allS (P := fun w => ∀ cell : Cell, T136.heap[w]? = some cell → cell.vm.isStatics = false) (Jvm.OwnW.Exa.ns Ex132_t136) all0)
      have V_ucl_t138 := V_ucl_t136.keep Kq138 (ninS ne_ucl_b132 nin0)
      have Ex120_t138 := Ex120_t136.keep Kq138
      have V_b120_t138 := V_b120_t136.keep Kq138 (ninS ne_b120_b132 nin0)
      have Ex132_t138 := Ex132_t136.keep Kq138
      have A134_t138 := A134_t136.keep Kq138
      have P135_1_t138 := P135_1_t136.keep Kq138 (ninS (Ne.symm ne_b132_o134) nin0)
      have P135_2_t138 := P135_2_t136.keep Kq138 (ninS (Ne.symm ne_b132_b33_c41_c135) nin0)
      have P135_3_t138 := P135_3_t136.keep Kq138
      have P135_4_t138 := P135_4_t136.keep Kq138 (ninS (Ne.symm ne_b132_o134) nin0)
      have P135_5_t138 := P135_5_t136.keep Kq138 (ninS (Ne.symm ne_b132_o134) nin0)
      have P135_6_t138 := P135_6_t136.keep Kq138 (ninS (Ne.symm ne_b132_b37_c41_c135) nin0)
      have P135_7_t138 := P135_7_t136.keep Kq138
      have P135_8_t138 := P135_8_t136.keep Kq138 (ninS (Ne.symm ne_b132_o134) nin0)
      have P136_0_t138 := P136_0.keep Kq138 (ninS (Ne.symm ne_b132_b69_c136) nin0)
      have P136_1_t138 := P136_1.keep Kq138
      have e138 : T138.heap = T138.heap := rfl
      obtain ⟨q139, hq139⟩ : ∃ z : Int32, z = (((v14 ^^^ (-1 : Int32)).toInt8.toInt32).toInt8.toInt32) := ⟨_, rfl⟩
      rw [← hq139] at P138_0
      refine Wq.step st138 ?_
      show Wq _ _ _ _ _ (T138.setTop (mkF m 187 #[.val (.int xlaw_1), .val (.int xlaw_2), .val (.int xlaw_3), .val (.int xlaw_4), .val (.int xlaw_5), .val (.int (2 : Int32)), .val (.int (1 : Int32)), .val (.int v14), .val (.int v18), .val (.int v22), .val (.ref b120), .val (.ref b132), .val .null, .val (.ref o134), .val (.ref b69_c136), .unset] []))
      refine Ow.aload X138 hx (pc' := 189) (hb hby at_187) rfl rfl ?_
      obtain ⟨_, _, ⟨T140, L140, k140, n140⟩, -, X140, ⟨Lc140, hQ140, l140, y140, z140⟩, st140⟩ := Jvm.LawKit.callS X138 hx (y := mt7) hown135 (mvT hZ135 (kw60 hw)) (mvT hZ135 (kw61 hw)) (mvT hZ135 (kw58 hw)) (mvT hZ135 (kw62 hw)) (by decide) (backOf (W := 0) (rm_fl1 l Z a0 hw [] b69_c136 v14 T138.heap n0 Z138 P136_0_t138 g_b69_c136) hZ135 (kw62 hw) (kw58 hw) (by decide) (by decide)) (g := (mkF m 189 #[.val (.int xlaw_1), .val (.int xlaw_2), .val (.int xlaw_3), .val (.int xlaw_4), .val (.int xlaw_5), .val (.int (2 : Int32)), .val (.int (1 : Int32)), .val (.int v14), .val (.int v18), .val (.int v22), .val (.ref b120), .val (.ref b132), .val .null, .val (.ref o134), .val (.ref b69_c136), .unset] [(.ref b69_c136)])) rfl (by rw [hml]; rfl) (argsL := [(.ref b69_c136)]) (rest := []) (lenOf pd10 rfl) rfl (by show 2 * 0 + _ ≤ _; exact Nat.le_of_eq rfl) (hb hby at_189) (fun _ _ => ⟨rfl, e138, (by decide : 8 + 0 ≤ _), (by decide : 75 + 0 ≤ _)⟩)
      dsimp only [Pt.U, Pt.locs, Pt.cells, Pt.slots] at X140 l140 y140 z140 st140 hQ140
      subst l140 y140 z140
      obtain ⟨rfl, Nq140, Kq140, P140_0⟩ := hQ140
      have N140 := Fr.app N138 Nq140
      have hk140 := Nat.le_trans hk138 Kq140.1
      have K140 : Keep h0 T140.heap [] := K138.trans Kq140 (allS (P := fun x => x ∈ [] ∨ h0.size ≤ x) (Or.inr sz_b69_c136) all0)
      have Z140 : n0 ≤ T140.heap.size := Nat.le_trans Z138 Kq140.1
      have S_NONE_t140 := Jvm.OwnW.Sta.keepN S_NONE_t138 Kq140 (allS (P := fun w => ∀ cell : Cell, T138.heap[w]? = some cell → cell.vm.isStatics = false) (Jvm.OwnW.Exa.ns P136_1_t138) all0)
      have E_uNONE_t140 := E_uNONE_t138.keep Kq140
      have S_high_t140 := Jvm.OwnW.Sta.keepN S_high_t138 Kq140 (allS (P := fun w => ∀ cell : Cell, T138.heap[w]? = some cell → cell.vm.isStatics = false) (Jvm.OwnW.Exa.ns P136_1_t138) all0)
      have S_cache_t140 := Jvm.OwnW.Sta.keepN S_cache_t138 Kq140 (allS (P := fun w => ∀ cell : Cell, T138.heap[w]? = some cell → cell.vm.isStatics = false) (Jvm.OwnW.Exa.ns P136_1_t138) all0)
      have V_ucl_t140 := V_ucl_t138.keep Kq140 (ninS ne_ucl_b69_c136 nin0)
      have Ex120_t140 := Ex120_t138.keep Kq140
      have V_b120_t140 := V_b120_t138.keep Kq140 (ninS ne_b120_b69_c136 nin0)
      have Ex132_t140 := Ex132_t138.keep Kq140
      have A134_t140 := A134_t138.keep Kq140
      have P135_1_t140 := P135_1_t138.keep Kq140 (ninS ne_o134_b69_c136 nin0)
      have P135_2_t140 := P135_2_t138.keep Kq140 (ninS ne_b33_c41_c135_b69_c136 nin0)
      have P135_3_t140 := P135_3_t138.keep Kq140
      have P135_4_t140 := P135_4_t138.keep Kq140 (ninS ne_o134_b69_c136 nin0)
      have P135_5_t140 := P135_5_t138.keep Kq140 (ninS ne_o134_b69_c136 nin0)
      have P135_6_t140 := P135_6_t138.keep Kq140 (ninS ne_b37_c41_c135_b69_c136 nin0)
      have P135_7_t140 := P135_7_t138.keep Kq140
      have P135_8_t140 := P135_8_t138.keep Kq140 (ninS ne_o134_b69_c136 nin0)
      have P136_1_t140 := P136_1_t138.keep Kq140
      have P138_0_t140 := P138_0.keep Kq140 (ninS ne_b132_b69_c136 nin0)
      have e140 : T140.heap = T140.heap := rfl
      obtain ⟨q141, hq141⟩ : ∃ z : Int32, z = (((v14 ^^^ (-1 : Int32)).toInt8.toInt32).toInt8.toInt32) := ⟨_, rfl⟩
      rw [← hq141] at P140_0
      refine Wq.step st140 ?_
      show Wq _ _ _ _ _ (T140.setTop (mkF m 192 #[.val (.int xlaw_1), .val (.int xlaw_2), .val (.int xlaw_3), .val (.int xlaw_4), .val (.int xlaw_5), .val (.int (2 : Int32)), .val (.int (1 : Int32)), .val (.int v14), .val (.int v18), .val (.int v22), .val (.ref b120), .val (.ref b132), .val .null, .val (.ref o134), .val (.ref b69_c136), .unset] []))
      refine Ow.aload X140 hx (pc' := 194) (hb hby at_192) rfl rfl ?_
      obtain ⟨cq142, kq142, q142a, q142b, q142c⟩ := isOf hZ135 e140 A134_t140
      obtain ⟨_, _, ⟨T142, L142, k142, n142⟩, -, X142, ⟨Lc142, hQ142, l142, y142, z142⟩, st142⟩ := X140.virtualBack hx (y := mt5) (z := mt5) hown135 (mvT hZ135 (kw51 hw)) (mvT hZ135 (kw52 hw)) (notFace_of_selects (args := #[]) (mvT hZ135 (kw54 hw))) (mvT hZ135 (kw54 hw)) (mvT hZ135 (kw53 hw)) (by decide) (backOf (W := 0) (rm_ui1 l Z a0 hw [] o134 b37_c41_c135 v14 T140.heap n0 Z140 P135_8_t140 P135_6_t140 P135_7_t140 ((own_fc (own_fb hv14) own_f0))) hZ135 (kw55 hw) (kw3 hw) (by decide) (by decide)) q142a q142c (g := (mkF m 194 #[.val (.int xlaw_1), .val (.int xlaw_2), .val (.int xlaw_3), .val (.int xlaw_4), .val (.int xlaw_5), .val (.int (2 : Int32)), .val (.int (1 : Int32)), .val (.int v14), .val (.int v18), .val (.int v22), .val (.ref b120), .val (.ref b132), .val .null, .val (.ref o134), .val (.ref b69_c136), .unset] [(.ref o134)])) rfl (by rw [hml]; rfl) (Steps.refl _) (argsL := []) (rest := []) (lenOf pd7 rfl) rfl (by show 2 * 0 + _ ≤ _; exact Nat.le_of_eq rfl) (hb hby at_194) (fun _ _ => ⟨rfl, e140, (by decide : 8 + 1 ≤ _), (by decide : 75 + 1 ≤ _)⟩)
      dsimp only [Pt.U, Pt.locs, Pt.cells, Pt.slots] at X142 l142 y142 z142 st142 hQ142
      subst l142 y142 z142
      obtain ⟨b69_c142, rfl, Nq142, Kq142, szq_b69_c142, P142_0, P142_1⟩ := hQ142
      have g_b69_c142 : n0 ≤ b69_c142 := Nat.le_trans Z140 szq_b69_c142
      have sz_b69_c142 : h0.size ≤ b69_c142 := Nat.le_trans K140.1 szq_b69_c142
      have ne_uNONE_b69_c142 : uNONE ≠ b69_c142 := Nat.ne_of_lt (Nat.lt_of_lt_of_le E_uNONE_t140.lt szq_b69_c142)
      have ne_ucl_b69_c142 : ucl ≠ b69_c142 := Nat.ne_of_lt (Nat.lt_of_lt_of_le V_ucl_t140.lt szq_b69_c142)
      have ne_b120_b69_c142 : b120 ≠ b69_c142 := Nat.ne_of_lt (Nat.lt_of_lt_of_le Ex120_t140.lt szq_b69_c142)
      have ne_b132_b69_c142 : b132 ≠ b69_c142 := Nat.ne_of_lt (Nat.lt_of_lt_of_le Ex132_t140.lt szq_b69_c142)
      have ne_o134_b69_c142 : o134 ≠ b69_c142 := Nat.ne_of_lt (Nat.lt_of_lt_of_le A134_t140.lt szq_b69_c142)
      have ne_b33_c41_c135_b69_c142 : b33_c41_c135 ≠ b69_c142 := Nat.ne_of_lt (Nat.lt_of_lt_of_le P135_2_t140.lt szq_b69_c142)
      have ne_b37_c41_c135_b69_c142 : b37_c41_c135 ≠ b69_c142 := Nat.ne_of_lt (Nat.lt_of_lt_of_le P135_6_t140.lt szq_b69_c142)
      have ne_b69_c136_b69_c142 : b69_c136 ≠ b69_c142 := Nat.ne_of_lt (Nat.lt_of_lt_of_le P136_1_t140.lt szq_b69_c142)
      have N142 := Fr.app N140 Nq142
      have hk142 := Nat.le_trans hk140 Kq142.1
      have K142 : Keep h0 T142.heap [] := K140.trans Kq142 all0
      have Z142 : n0 ≤ T142.heap.size := Nat.le_trans Z140 Kq142.1
      have S_NONE_t142 := Jvm.OwnW.Sta.keepN S_NONE_t140 Kq142 all0
      have E_uNONE_t142 := E_uNONE_t140.keep Kq142
      have S_high_t142 := Jvm.OwnW.Sta.keepN S_high_t140 Kq142 all0
      have S_cache_t142 := Jvm.OwnW.Sta.keepN S_cache_t140 Kq142 all0
      have V_ucl_t142 := V_ucl_t140.keep Kq142 nin0
      have Ex120_t142 := Ex120_t140.keep Kq142
      have V_b120_t142 := V_b120_t140.keep Kq142 nin0
      have Ex132_t142 := Ex132_t140.keep Kq142
      have A134_t142 := A134_t140.keep Kq142
      have P135_1_t142 := P135_1_t140.keep Kq142 nin0
      have P135_2_t142 := P135_2_t140.keep Kq142 nin0
      have P135_3_t142 := P135_3_t140.keep Kq142
      have P135_4_t142 := P135_4_t140.keep Kq142 nin0
      have P135_5_t142 := P135_5_t140.keep Kq142 nin0
      have P135_6_t142 := P135_6_t140.keep Kq142 nin0
      have P135_7_t142 := P135_7_t140.keep Kq142
      have P135_8_t142 := P135_8_t140.keep Kq142 nin0
      have P136_1_t142 := P136_1_t140.keep Kq142
      have P138_0_t142 := P138_0_t140.keep Kq142 nin0
      have P140_0_t142 := P140_0.keep Kq142 nin0
      have e142 : T142.heap = T142.heap := rfl
      refine Wq.steps st142 ?_
      show Wq _ _ _ _ _ (T142.setTop (mkF m 197 #[.val (.int xlaw_1), .val (.int xlaw_2), .val (.int xlaw_3), .val (.int xlaw_4), .val (.int xlaw_5), .val (.int (2 : Int32)), .val (.int (1 : Int32)), .val (.int v14), .val (.int v18), .val (.int v22), .val (.ref b120), .val (.ref b132), .val .null, .val (.ref o134), .val (.ref b69_c136), .unset] [(.ref b69_c142)]))
      refine Ow.astore X142 hx (pc' := 199) (hb hby at_197) rfl (l' := #[.val (.int xlaw_1), .val (.int xlaw_2), .val (.int xlaw_3), .val (.int xlaw_4), .val (.int xlaw_5), .val (.int (2 : Int32)), .val (.int (1 : Int32)), .val (.int v14), .val (.int v18), .val (.int v22), .val (.ref b120), .val (.ref b132), .val .null, .val (.ref o134), .val (.ref b69_c136), .val (.ref b69_c142)]) rfl ?_
      refine Ow.aload X142 hx (pc' := 201) (hb hby at_199) rfl rfl ?_
      refine Ow.ifnullNo X142 hx (pc' := 204) (hb hby at_201)  ?_
      refine Ow.aload X142 hx (pc' := 206) (hb hby at_204) rfl rfl ?_
      refine Ow.aload X142 hx (pc' := 208) (hb hby at_206) rfl rfl ?_
      refine Ow.acmp X142 hx (pc' := 211) (hb hby at_208) rfl rfl (same := false) (decide_eq_false fun q => (Ne.symm ne_b69_c136_b69_c142) (Value.ref.inj q)) (by decide) (by decide) ?_
      refine Ow.aload X142 hx (pc' := 213) (hb hby at_211) rfl rfl ?_
      refine Ow.aload X142 hx (pc' := 215) (hb hby at_213) rfl rfl ?_
      refine Ow.acmp X142 hx (pc' := 218) (hb hby at_215) rfl rfl (same := false) (decide_eq_false fun q => (Ne.symm ne_b132_b69_c142) (Value.ref.inj q)) (by decide) (by decide) ?_
      refine Ow.aload X142 hx (pc' := 220) (hb hby at_218) rfl rfl ?_
      refine Ow.iload X142 hx (pc' := 222) (hb hby at_220) rfl ?_
      refine Ow.iload X142 hx (pc' := 224) (hb hby at_222) rfl ?_
      refine Ow.iload X142 hx (pc' := 226) (hb hby at_224) rfl ?_
      refine Ow.iload X142 hx (pc' := 228) (hb hby at_226) rfl ?_
      obtain ⟨_, _, ⟨T143, L143, k143, n143⟩, -, X143, ⟨Lc143, hQ143, l143, y143, z143⟩, st143⟩ := Jvm.LawKit.callS X142 hx (y := mt6) hown135 (mvT hZ135 (kw56 hw)) (mvT hZ135 (kw57 hw)) (mvT hZ135 (kw58 hw)) (mvT hZ135 (kw59 hw)) (by decide) (backOf (W := 0) (rm_sm1 l Z a0 hw [] b69_c142 v14 v18 v22 v14 T142.heap n0 Z142 P142_0) hZ135 (kw59 hw) (kw58 hw) (by decide) (by decide)) (g := (mkF m 228 #[.val (.int xlaw_1), .val (.int xlaw_2), .val (.int xlaw_3), .val (.int xlaw_4), .val (.int xlaw_5), .val (.int (2 : Int32)), .val (.int (1 : Int32)), .val (.int v14), .val (.int v18), .val (.int v22), .val (.ref b120), .val (.ref b132), .val .null, .val (.ref o134), .val (.ref b69_c136), .val (.ref b69_c142)] [(.int v22), (.int v18), (.int v14), (.int (1 : Int32)), (.ref b69_c142)])) rfl (by rw [hml]; rfl) (argsL := [(.ref b69_c142), (.int (1 : Int32)), (.int v14), (.int v18), (.int v22)]) (rest := []) (lenOf pd9 rfl) rfl (by show 2 * 0 + _ ≤ _; exact Nat.le_of_eq rfl) (hb hby at_228) (fun _ _ => ⟨rfl, e142, (by decide : 9 + 0 ≤ _), (by decide : 76 + 0 ≤ _)⟩)
      dsimp only [Pt.U, Pt.locs, Pt.cells, Pt.slots] at X143 l143 y143 z143 st143 hQ143
      subst l143 y143 z143
      obtain ⟨rfl, Nq143, e143⟩ := hQ143
      have N143 := Fr.app N142 Nq143
      refine Wq.step st143 ?_
      show Wq _ _ _ _ _ (T143.setTop (mkF m 231 #[.val (.int xlaw_1), .val (.int xlaw_2), .val (.int xlaw_3), .val (.int xlaw_4), .val (.int xlaw_5), .val (.int (2 : Int32)), .val (.int (1 : Int32)), .val (.int v14), .val (.int v18), .val (.int v22), .val (.ref b120), .val (.ref b132), .val .null, .val (.ref o134), .val (.ref b69_c136), .val (.ref b69_c142)] [(.int (f_sm1 v14 v18 v22 v14))]))
      generalize hv228 : (f_sm1 v14 v18 v22 v14) = v228
      show Wq _ _ _ _ _ (T143.setTop (mkF m 231 #[.val (.int xlaw_1), .val (.int xlaw_2), .val (.int xlaw_3), .val (.int xlaw_4), .val (.int xlaw_5), .val (.int (2 : Int32)), .val (.int (1 : Int32)), .val (.int v14), .val (.int v18), .val (.int v22), .val (.ref b120), .val (.ref b132), .val .null, .val (.ref o134), .val (.ref b69_c136), .val (.ref b69_c142)] [(.int v228)]))
      refine Ow.ifNo X143 hx (pc' := 234) (hb hby at_231) ((if0 _ _).trans (feq (by subst hv228; simp [f_sm1] : ¬ (v228 = (0 : Int32)))).1) ?_
      refine Ow.iconst X143 hx (pc' := 235) (hb hby at_234) (z := (1 : Int32)) rfl ?_
      refine Ow.goto X143 hx (pc' := 239) (hb hby at_235) (by decide) (by decide) ?_
      exact Wq.retW X143 hS135 (by rw [e143]; exact hk142) (BodyLoose.notSynchronized Bd) (rv := some (.int (1 : Int32))) (fun h => by rw [Bd.returns] at h; cases h) (fun _ hr => retN X143 hx (t := .boolean) Bd.returns (by simp) (hb hby at_239) hr) (by decide) (by decide) ⟨rfl, N143⟩
    · skip
      show Wq _ _ _ _ _ (T122.setTop (mkF m 48 #[.val (.int xlaw_1), .val (.int xlaw_2), .val (.int xlaw_3), .val (.int xlaw_4), .val (.int xlaw_5), .val (.int (2 : Int32)), .val (.int (2 : Int32)), .val (.int v14), .val (.int v18), .val (.int v22), .val (.ref b120), .val .null, .unset, .unset, .unset, .unset] []))
      refine Ow.iload X122 hx (pc' := 50) (hb hby at_48) rfl ?_
      obtain ⟨T144, h144, k144, X144, e144, E144, A144, Ex144, st144⟩ := newPE X122 hx hZ (aty := .byte) (kw0 hw) e122 (g := (mkF m 50 #[.val (.int xlaw_1), .val (.int xlaw_2), .val (.int xlaw_3), .val (.int xlaw_4), .val (.int xlaw_5), .val (.int (2 : Int32)), .val (.int (2 : Int32)), .val (.int v14), .val (.int v18), .val (.int v22), .val (.ref b120), .val .null, .unset, .unset, .unset, .unset] [(.int (2 : Int32))])) rfl (hb hby at_50) rfl (by decide) (cap := 2) (by decide) (by decide) (by decide) (by decide) (ad := "[B") (by decide)
      obtain ⟨b144, gz144⟩ : ∃ z, z = h122.size := ⟨_, rfl⟩
      rw [← gz144] at A144 Ex144 st144
      have g_b144 : n0 ≤ b144 := Nat.le_trans Z122 (Nat.le_of_eq gz144.symm)
      have sz_b144 : h0.size ≤ b144 := Nat.le_trans K122.1 (Nat.le_of_eq gz144.symm)
      have ne_uNONE_b144 : uNONE ≠ b144 := Nat.ne_of_lt (Nat.lt_of_lt_of_le E_uNONE_t122.lt (Nat.le_of_eq gz144.symm))
      have ne_ucl_b144 : ucl ≠ b144 := Nat.ne_of_lt (Nat.lt_of_lt_of_le V_ucl_t122.lt (Nat.le_of_eq gz144.symm))
      have ne_b120_b144 : b120 ≠ b144 := Nat.ne_of_lt (Nat.lt_of_lt_of_le Ex120_t122.lt (Nat.le_of_eq gz144.symm))
      have K144 : Keep h0 h144 [] := K122.ext E144
      have Z144 : n0 ≤ h144.size := Nat.le_trans Z122 E144.1
      have hk144 := Nat.le_trans hk122 E144.1
      have S_NONE_t144 := S_NONE_t122.ext E144
      have E_uNONE_t144 := E_uNONE_t122.ext E144
      have S_high_t144 := S_high_t122.ext E144
      have S_cache_t144 := S_cache_t122.ext E144
      have V_ucl_t144 := V_ucl_t122.ext E144
      have Ex120_t144 := Ex120_t122.ext E144
      have V_b120_t144 := V_b120_t122.ext E144
      have V_b144 : Al Z h144 b144 .byte [(.int (0 : Int32)), (.int (0 : Int32))] := Al.new A144 (k := 2) (rfl) rfl
      refine Wq.step st144 ?_
      show Wq _ _ _ _ _ (T144.setTop (mkF m 52 #[.val (.int xlaw_1), .val (.int xlaw_2), .val (.int xlaw_3), .val (.int xlaw_4), .val (.int xlaw_5), .val (.int (2 : Int32)), .val (.int (2 : Int32)), .val (.int v14), .val (.int v18), .val (.int v22), .val (.ref b120), .val .null, .unset, .unset, .unset, .unset] [(.ref b144)]))
      refine Ow.astore X144 hx (pc' := 54) (hb hby at_52) rfl (l' := #[.val (.int xlaw_1), .val (.int xlaw_2), .val (.int xlaw_3), .val (.int xlaw_4), .val (.int xlaw_5), .val (.int (2 : Int32)), .val (.int (2 : Int32)), .val (.int v14), .val (.int v18), .val (.int v22), .val (.ref b120), .val (.ref b144), .unset, .unset, .unset, .unset]) rfl ?_
      refine Ow.iload X144 hx (pc' := 56) (hb hby at_54) rfl ?_
      refine Ow.ifNo X144 hx (pc' := 59) (hb hby at_56) ((if0 _ _).trans (tlt (by decide : (0 : Int32) < (2 : Int32))).2.2.2) ?_
      refine Ow.aload X144 hx (pc' := 61) (hb hby at_59) rfl rfl ?_
      refine Ow.iconst X144 hx (pc' := 62) (hb hby at_61) (z := (0 : Int32)) rfl ?_
      refine Ow.iload X144 hx (pc' := 64) (hb hby at_62) rfl ?_
      obtain ⟨T145, h145, X145, e145, W145, Vr145, st145⟩ := asB X144 hx hZ e144 V_b144 (j := (0 : Int32)) (i := 0) (by decide) rfl (Nat.le_of_ble_eq_true rfl) (y := v14) (own_nar hv14) (g := (mkF m 64 #[.val (.int xlaw_1), .val (.int xlaw_2), .val (.int xlaw_3), .val (.int xlaw_4), .val (.int xlaw_5), .val (.int (2 : Int32)), .val (.int (2 : Int32)), .val (.int v14), .val (.int v18), .val (.int v22), .val (.ref b120), .val (.ref b144), .unset, .unset, .unset, .unset] [(.int v14), (.int (0 : Int32)), (.ref b144)])) rfl rfl (hb hby at_64)
      refine Wq.step st145 ?_
      have N145 := Fr.snoc X145 N122 g_b144
      have K145 : Keep h0 h145 [] := K144.wr W145 (Or.inr sz_b144)
      have Z145 : n0 ≤ h145.size := Nat.le_trans Z144 (Keep.of_wr W145).1
      have hk145 := Nat.le_trans hk144 (Keep.of_wr W145).1
      have S_NONE_t145 := S_NONE_t144.wr W145
      have E_uNONE_t145 := E_uNONE_t144.wr W145
      have S_high_t145 := S_high_t144.wr W145
      have S_cache_t145 := S_cache_t144.wr W145
      have V_ucl_t145 := V_ucl_t144.other W145 ne_ucl_b144
      have Ex120_t145 := Ex120_t144.wr W145
      have V_b120_t145 := V_b120_t144.other W145 ne_b120_b144
      have Ex144_t145 := Ex144.wr W145
      have V_b144_t145 : Al Z h145 b144 .byte [(.int v14), (.int (0 : Int32))] := Vr145
      show Wq _ _ _ _ _ (T145.setTop (mkF m 65 #[.val (.int xlaw_1), .val (.int xlaw_2), .val (.int xlaw_3), .val (.int xlaw_4), .val (.int xlaw_5), .val (.int (2 : Int32)), .val (.int (2 : Int32)), .val (.int v14), .val (.int v18), .val (.int v22), .val (.ref b120), .val (.ref b144), .unset, .unset, .unset, .unset] []))
      refine Ow.iload X145 hx (pc' := 67) (hb hby at_65) rfl ?_
      refine Ow.iconst X145 hx (pc' := 68) (hb hby at_67) (z := (1 : Int32)) rfl ?_
      refine Ow.icmpNo X145 hx (pc' := 71) (hb hby at_68) (tlt (by decide : (1 : Int32) < (2 : Int32))).2.2.2 ?_
      refine Ow.aload X145 hx (pc' := 73) (hb hby at_71) rfl rfl ?_
      refine Ow.iconst X145 hx (pc' := 74) (hb hby at_73) (z := (1 : Int32)) rfl ?_
      refine Ow.iload X145 hx (pc' := 76) (hb hby at_74) rfl ?_
      obtain ⟨T146, h146, X146, e146, W146, Vr146, st146⟩ := asB X145 hx hZ e145 V_b144_t145 (j := (1 : Int32)) (i := 1) (by decide) rfl (Nat.le_of_ble_eq_true rfl) (y := v18) (own_nar hv18) (g := (mkF m 76 #[.val (.int xlaw_1), .val (.int xlaw_2), .val (.int xlaw_3), .val (.int xlaw_4), .val (.int xlaw_5), .val (.int (2 : Int32)), .val (.int (2 : Int32)), .val (.int v14), .val (.int v18), .val (.int v22), .val (.ref b120), .val (.ref b144), .unset, .unset, .unset, .unset] [(.int v18), (.int (1 : Int32)), (.ref b144)])) rfl rfl (hb hby at_76)
      refine Wq.step st146 ?_
      have N146 := Fr.snoc X146 N145 g_b144
      have K146 : Keep h0 h146 [] := K145.wr W146 (Or.inr sz_b144)
      have Z146 : n0 ≤ h146.size := Nat.le_trans Z145 (Keep.of_wr W146).1
      have hk146 := Nat.le_trans hk145 (Keep.of_wr W146).1
      have S_NONE_t146 := S_NONE_t145.wr W146
      have E_uNONE_t146 := E_uNONE_t145.wr W146
      have S_high_t146 := S_high_t145.wr W146
      have S_cache_t146 := S_cache_t145.wr W146
      have V_ucl_t146 := V_ucl_t145.other W146 ne_ucl_b144
      have Ex120_t146 := Ex120_t145.wr W146
      have V_b120_t146 := V_b120_t145.other W146 ne_b120_b144
      have Ex144_t146 := Ex144_t145.wr W146
      have V_b144_t146 : Al Z h146 b144 .byte [(.int v14), (.int v18)] := Vr146
      show Wq _ _ _ _ _ (T146.setTop (mkF m 77 #[.val (.int xlaw_1), .val (.int xlaw_2), .val (.int xlaw_3), .val (.int xlaw_4), .val (.int xlaw_5), .val (.int (2 : Int32)), .val (.int (2 : Int32)), .val (.int v14), .val (.int v18), .val (.int v22), .val (.ref b120), .val (.ref b144), .unset, .unset, .unset, .unset] []))
      refine Ow.iload X146 hx (pc' := 79) (hb hby at_77) rfl ?_
      refine Ow.iconst X146 hx (pc' := 80) (hb hby at_79) (z := (2 : Int32)) rfl ?_
      refine Ow.icmpYes X146 hx (pc' := 89) (hb hby at_80) (flt (by decide : ¬ ((2 : Int32) < (2 : Int32)))).2.2.2 (by decide) (by decide) ?_
      refine Ow.iload X146 hx (pc' := 91) (hb hby at_89) rfl ?_
      refine Ow.iconst X146 hx (pc' := 92) (hb hby at_91) (z := (1 : Int32)) rfl ?_
      refine Ow.icmpYes X146 hx (pc' := 103) (hb hby at_92) (feq (by decide : ¬ ((2 : Int32) = (1 : Int32)))).2 (by decide) (by decide) ?_
      refine Ow.aconstNull X146 hx (pc' := 104) (hb hby at_103)  ?_
      refine Ow.astore X146 hx (pc' := 106) (hb hby at_104) rfl (l' := #[.val (.int xlaw_1), .val (.int xlaw_2), .val (.int xlaw_3), .val (.int xlaw_4), .val (.int xlaw_5), .val (.int (2 : Int32)), .val (.int (2 : Int32)), .val (.int v14), .val (.int v18), .val (.int v22), .val (.ref b120), .val (.ref b144), .val .null, .unset, .unset, .unset]) rfl ?_
      obtain ⟨T147, h147, X147, e147, E147, A147, D147, -, st147⟩ := newO X146 hx hZ hown (kw1 hw) (kw2 hw) (kw3 hw) e146 (g := (mkF m 106 #[.val (.int xlaw_1), .val (.int xlaw_2), .val (.int xlaw_3), .val (.int xlaw_4), .val (.int xlaw_5), .val (.int (2 : Int32)), .val (.int (2 : Int32)), .val (.int v14), .val (.int v18), .val (.int v22), .val (.ref b120), .val (.ref b144), .val .null, .unset, .unset, .unset] [])) rfl (hb hby at_106) (by decide) (by decide)
      obtain ⟨o147, gz147⟩ : ∃ z, z = h146.size := ⟨_, rfl⟩
      rw [← gz147] at A147 D147 st147
      have g_o147 : n0 ≤ o147 := Nat.le_trans Z146 (Nat.le_of_eq gz147.symm)
      have sz_o147 : h0.size ≤ o147 := Nat.le_trans K146.1 (Nat.le_of_eq gz147.symm)
      have ne_uNONE_o147 : uNONE ≠ o147 := Nat.ne_of_lt (Nat.lt_of_lt_of_le E_uNONE_t146.lt (Nat.le_of_eq gz147.symm))
      have ne_ucl_o147 : ucl ≠ o147 := Nat.ne_of_lt (Nat.lt_of_lt_of_le V_ucl_t146.lt (Nat.le_of_eq gz147.symm))
      have ne_b120_o147 : b120 ≠ o147 := Nat.ne_of_lt (Nat.lt_of_lt_of_le Ex120_t146.lt (Nat.le_of_eq gz147.symm))
      have ne_b144_o147 : b144 ≠ o147 := Nat.ne_of_lt (Nat.lt_of_lt_of_le Ex144_t146.lt (Nat.le_of_eq gz147.symm))
      have K147 : Keep h0 h147 [] := K146.ext E147
      have Z147 : n0 ≤ h147.size := Nat.le_trans Z146 E147.1
      have hk147 := Nat.le_trans hk146 E147.1
      have S_NONE_t147 := S_NONE_t146.ext E147
      have E_uNONE_t147 := E_uNONE_t146.ext E147
      have S_high_t147 := S_high_t146.ext E147
      have S_cache_t147 := S_cache_t146.ext E147
      have V_ucl_t147 := V_ucl_t146.ext E147
      have Ex120_t147 := Ex120_t146.ext E147
      have V_b120_t147 := V_b120_t146.ext E147
      have Ex144_t147 := Ex144_t146.ext E147
      have V_b144_t147 := V_b144_t146.ext E147
      refine Wq.step st147 ?_
      have F_o147_unknownElements : Fld Z h147 o147 "com/example/opwire/opwire/codec/tcap/TcapMessage" "unknownElements" "Lcom/example/opwire/opwire/codec/ber/UnknownElements;" .null := D147 (Or.inr (kw35 hw)) (ty := (.object "com/example/opwire/opwire/codec/ber/UnknownElements")) (by decide)
      have F_o147_destinationTransactionId : Fld Z h147 o147 "com/example/opwire/opwire/codec/tcap/Abort" "destinationTransactionId" "[B" .null := D147 (Or.inr (kw46 hw)) (ty := (.array .byte)) (by decide)
      have F_o147_pAbortCause : Fld Z h147 o147 "com/example/opwire/opwire/codec/tcap/Abort" "pAbortCause" "Ljava/lang/Integer;" .null := D147 (Or.inr (kw48 hw)) (ty := (.object "java/lang/Integer")) (by decide)
      have F_o147_userAbortInformation : Fld Z h147 o147 "com/example/opwire/opwire/codec/tcap/Abort" "userAbortInformation" "[B" .null := D147 (Or.inr (kw50 hw)) (ty := (.array .byte)) (by decide)
      show Wq _ _ _ _ _ (T147.setTop (mkF m 109 #[.val (.int xlaw_1), .val (.int xlaw_2), .val (.int xlaw_3), .val (.int xlaw_4), .val (.int xlaw_5), .val (.int (2 : Int32)), .val (.int (2 : Int32)), .val (.int v14), .val (.int v18), .val (.int v22), .val (.ref b120), .val (.ref b144), .val .null, .unset, .unset, .unset] [(.ref o147)]))
      refine Ow.dup X147 hx (pc' := 110) (hb hby at_109) rfl ?_
      refine Ow.aload X147 hx (pc' := 112) (hb hby at_110) rfl rfl ?_
      refine Ow.aload X147 hx (pc' := 114) (hb hby at_112) rfl rfl ?_
      refine Ow.aload X147 hx (pc' := 116) (hb hby at_114) rfl rfl ?_
      obtain ⟨_, _, ⟨T148, L148, k148, n148⟩, -, Xr148, hSr148, hgr148, ⟨Lc148, hQ148, l148, y148, z148⟩, st148⟩ := X147.specialBackS hx (y := mt4) rfl hown (mvT hZ (kw4 hw)) (mvT hZ (kw5 hw)) (mvT hZ (kw6 hw)) (by decide) (backOfS (W := 1) (rm_a2 l Z a0 hw [] o147 b120 b144 v22 v14 v14 v18 uNONE h147 n0 Z147 A147 F_o147_unknownElements F_o147_destinationTransactionId F_o147_pAbortCause F_o147_userAbortInformation g_o147 V_b120_t147 Ex120_t147 ne_b120_o147 (own_fc (own_fb hv22) (own_fc (own_fb hv14) own_f0)) V_b144_t147 Ex144_t147 ne_b144_o147 ((own_fc (own_fb hv14) (own_fc (own_fb hv18) own_f0))) S_NONE_t147 E_uNONE_t147) hZ (kw6 hw) (kw3 hw) (by decide) (by decide)) (g := (mkF m 116 #[.val (.int xlaw_1), .val (.int xlaw_2), .val (.int xlaw_3), .val (.int xlaw_4), .val (.int xlaw_5), .val (.int (2 : Int32)), .val (.int (2 : Int32)), .val (.int v14), .val (.int v18), .val (.int v22), .val (.ref b120), .val (.ref b144), .val .null, .unset, .unset, .unset] [(.ref b144), .null, (.ref b120), (.ref o147), (.ref o147)])) rfl (by rw [hml]; rfl) (Steps.refl _) (a := o147) (argsL := [(.ref b120), .null, (.ref b144)]) (rest := [(.ref o147)]) (lenOf pd6 rfl) rfl (by show 2 * 0 + _ ≤ _; exact Nat.le_of_eq rfl) (hb hby at_116) (fun _ _ => ⟨rfl, e147, (by decide : 3 + 4 ≤ _), (by decide : 8 + 68 ≤ _)⟩)
      dsimp only [Pt.U, Pt.locs, Pt.cells, Pt.slots] at Xr148 hSr148 hgr148 l148 y148 z148 st148 hQ148
      subst l148 y148 z148
      obtain ⟨X148, hS148, hZ148, hown148⟩ := rebS hS0 (by rw [e147]; exact hk147) Xr148 hSr148 hgr148 hZ hown
      have hk148 := Nat.le_refl T148.heap.size
      obtain ⟨b43_c51_c148, b47_c51_c148, rfl, Nq148, Kq148, szq_b43_c51_c148, szq_b47_c51_c148, ne_b43_c51_c148_b47_c51_c148, P148_0, P148_1, P148_2, P148_3, P148_4, P148_5, P148_6, P148_7, P148_8⟩ := hQ148
      have g_b43_c51_c148 : n0 ≤ b43_c51_c148 := Nat.le_trans Z147 szq_b43_c51_c148
      have sz_b43_c51_c148 : h0.size ≤ b43_c51_c148 := Nat.le_trans K147.1 szq_b43_c51_c148
      have ne_uNONE_b43_c51_c148 : uNONE ≠ b43_c51_c148 := Nat.ne_of_lt (Nat.lt_of_lt_of_le E_uNONE_t147.lt szq_b43_c51_c148)
      have ne_ucl_b43_c51_c148 : ucl ≠ b43_c51_c148 := Nat.ne_of_lt (Nat.lt_of_lt_of_le V_ucl_t147.lt szq_b43_c51_c148)
      have ne_b120_b43_c51_c148 : b120 ≠ b43_c51_c148 := Nat.ne_of_lt (Nat.lt_of_lt_of_le Ex120_t147.lt szq_b43_c51_c148)
      have ne_b144_b43_c51_c148 : b144 ≠ b43_c51_c148 := Nat.ne_of_lt (Nat.lt_of_lt_of_le Ex144_t147.lt szq_b43_c51_c148)
      have ne_o147_b43_c51_c148 : o147 ≠ b43_c51_c148 := Nat.ne_of_lt (Nat.lt_of_lt_of_le A147.lt szq_b43_c51_c148)
      have g_b47_c51_c148 : n0 ≤ b47_c51_c148 := Nat.le_trans Z147 szq_b47_c51_c148
      have sz_b47_c51_c148 : h0.size ≤ b47_c51_c148 := Nat.le_trans K147.1 szq_b47_c51_c148
      have ne_uNONE_b47_c51_c148 : uNONE ≠ b47_c51_c148 := Nat.ne_of_lt (Nat.lt_of_lt_of_le E_uNONE_t147.lt szq_b47_c51_c148)
      have ne_ucl_b47_c51_c148 : ucl ≠ b47_c51_c148 := Nat.ne_of_lt (Nat.lt_of_lt_of_le V_ucl_t147.lt szq_b47_c51_c148)
      have ne_b120_b47_c51_c148 : b120 ≠ b47_c51_c148 := Nat.ne_of_lt (Nat.lt_of_lt_of_le Ex120_t147.lt szq_b47_c51_c148)
      have ne_b144_b47_c51_c148 : b144 ≠ b47_c51_c148 := Nat.ne_of_lt (Nat.lt_of_lt_of_le Ex144_t147.lt szq_b47_c51_c148)
      have ne_o147_b47_c51_c148 : o147 ≠ b47_c51_c148 := Nat.ne_of_lt (Nat.lt_of_lt_of_le A147.lt szq_b47_c51_c148)
      have N148 := Fr.app N146 Nq148
      have K148 : Keep h0 T148.heap [] := K147.trans Kq148 (allS (P := fun x => x ∈ [] ∨ h0.size ≤ x) (Or.inr sz_o147) all0)
      have Z148 : n0 ≤ T148.heap.size := Nat.le_trans Z147 Kq148.1
      have S_NONE_t148 := Jvm.OwnW.Sta.keepN S_NONE_t147 Kq148 (allS (P := fun w => ∀ cell : Cell, h147[w]? = some cell → cell.vm.isStatics = false) (Jvm.OwnW.Exa.ns A147) all0)
      have E_uNONE_t148 := E_uNONE_t147.keep Kq148
      have S_high_t148 := Jvm.OwnW.Sta.keepN S_high_t147 Kq148 (allS (P := fun w => ∀ cell : Cell, h147[w]? = some cell → cell.vm.isStatics = false) (Jvm.OwnW.Exa.ns A147) all0)
      have S_cache_t148 := Jvm.OwnW.Sta.keepN S_cache_t147 Kq148 (allS (P := fun w => ∀ cell : Cell, h147[w]? = some cell → cell.vm.isStatics = false) (Jvm.OwnW.Exa.ns A147) all0)
      have V_ucl_t148 := V_ucl_t147.keep Kq148 (ninS ne_ucl_o147 nin0)
      have Ex120_t148 := Ex120_t147.keep Kq148
      have V_b120_t148 := V_b120_t147.keep Kq148 (ninS ne_b120_o147 nin0)
      have Ex144_t148 := Ex144_t147.keep Kq148
      have V_b144_t148 := V_b144_t147.keep Kq148 (ninS ne_b144_o147 nin0)
      have A147_t148 := A147.keep Kq148
      have e148 : T148.heap = T148.heap := rfl
      refine Wq.steps st148 ?_
      show Wq _ _ _ _ _ (T148.setTop (mkF m 119 #[.val (.int xlaw_1), .val (.int xlaw_2), .val (.int xlaw_3), .val (.int xlaw_4), .val (.int xlaw_5), .val (.int (2 : Int32)), .val (.int (2 : Int32)), .val (.int v14), .val (.int v18), .val (.int v22), .val (.ref b120), .val (.ref b144), .val .null, .unset, .unset, .unset] [(.ref o147)]))
      refine Ow.astore X148 hx (pc' := 121) (hb hby at_119) rfl (l' := #[.val (.int xlaw_1), .val (.int xlaw_2), .val (.int xlaw_3), .val (.int xlaw_4), .val (.int xlaw_5), .val (.int (2 : Int32)), .val (.int (2 : Int32)), .val (.int v14), .val (.int v18), .val (.int v22), .val (.ref b120), .val (.ref b144), .val .null, .val (.ref o147), .unset, .unset]) rfl ?_
      refine Ow.aload X148 hx (pc' := 123) (hb hby at_121) rfl rfl ?_
      obtain ⟨cq149, kq149, q149a, q149b, q149c⟩ := isOf hZ148 e148 A147_t148
      obtain ⟨_, _, ⟨T149, L149, k149, n149⟩, -, X149, ⟨Lc149, hQ149, l149, y149, z149⟩, st149⟩ := X148.virtualBack hx (y := mt5) (z := mt5) hown148 (mvT hZ148 (kw51 hw)) (mvT hZ148 (kw52 hw)) (notFace_of_selects (args := #[]) (mvT hZ148 (kw54 hw))) (mvT hZ148 (kw54 hw)) (mvT hZ148 (kw53 hw)) (by decide) (backOf (W := 0) (rm_ui2 l Z a0 hw [] o147 b47_c51_c148 v14 v18 T148.heap n0 Z148 P148_8 P148_6 P148_7 ((own_fc (own_fb hv14) (own_fc (own_fb hv18) own_f0)))) hZ148 (kw55 hw) (kw3 hw) (by decide) (by decide)) q149a q149c (g := (mkF m 123 #[.val (.int xlaw_1), .val (.int xlaw_2), .val (.int xlaw_3), .val (.int xlaw_4), .val (.int xlaw_5), .val (.int (2 : Int32)), .val (.int (2 : Int32)), .val (.int v14), .val (.int v18), .val (.int v22), .val (.ref b120), .val (.ref b144), .val .null, .val (.ref o147), .unset, .unset] [(.ref o147)])) rfl (by rw [hml]; rfl) (Steps.refl _) (argsL := []) (rest := []) (lenOf pd7 rfl) rfl (by show 2 * 0 + _ ≤ _; exact Nat.le_of_eq rfl) (hb hby at_123) (fun _ _ => ⟨rfl, e148, (by decide : 7 + 1 ≤ _), (by decide : 76 + 2 ≤ _)⟩)
      dsimp only [Pt.U, Pt.locs, Pt.cells, Pt.slots] at X149 l149 y149 z149 st149 hQ149
      subst l149 y149 z149
      obtain ⟨b74_c149, rfl, Nq149, Kq149, szq_b74_c149, P149_0, P149_1⟩ := hQ149
      have g_b74_c149 : n0 ≤ b74_c149 := Nat.le_trans Z148 szq_b74_c149
      have sz_b74_c149 : h0.size ≤ b74_c149 := Nat.le_trans K148.1 szq_b74_c149
      have ne_uNONE_b74_c149 : uNONE ≠ b74_c149 := Nat.ne_of_lt (Nat.lt_of_lt_of_le E_uNONE_t148.lt szq_b74_c149)
      have ne_ucl_b74_c149 : ucl ≠ b74_c149 := Nat.ne_of_lt (Nat.lt_of_lt_of_le V_ucl_t148.lt szq_b74_c149)
      have ne_b120_b74_c149 : b120 ≠ b74_c149 := Nat.ne_of_lt (Nat.lt_of_lt_of_le Ex120_t148.lt szq_b74_c149)
      have ne_b144_b74_c149 : b144 ≠ b74_c149 := Nat.ne_of_lt (Nat.lt_of_lt_of_le Ex144_t148.lt szq_b74_c149)
      have ne_o147_b74_c149 : o147 ≠ b74_c149 := Nat.ne_of_lt (Nat.lt_of_lt_of_le A147_t148.lt szq_b74_c149)
      have ne_b43_c51_c148_b74_c149 : b43_c51_c148 ≠ b74_c149 := Nat.ne_of_lt (Nat.lt_of_lt_of_le P148_2.lt szq_b74_c149)
      have ne_b47_c51_c148_b74_c149 : b47_c51_c148 ≠ b74_c149 := Nat.ne_of_lt (Nat.lt_of_lt_of_le P148_6.lt szq_b74_c149)
      have N149 := Fr.app N148 Nq149
      have hk149 := Nat.le_trans hk148 Kq149.1
      have K149 : Keep h0 T149.heap [] := K148.trans Kq149 all0
      have Z149 : n0 ≤ T149.heap.size := Nat.le_trans Z148 Kq149.1
      have S_NONE_t149 := Jvm.OwnW.Sta.keepN S_NONE_t148 Kq149 all0
      have E_uNONE_t149 := E_uNONE_t148.keep Kq149
      have S_high_t149 := Jvm.OwnW.Sta.keepN S_high_t148 Kq149 all0
      have S_cache_t149 := Jvm.OwnW.Sta.keepN S_cache_t148 Kq149 all0
      have V_ucl_t149 := V_ucl_t148.keep Kq149 nin0
      have Ex120_t149 := Ex120_t148.keep Kq149
      have V_b120_t149 := V_b120_t148.keep Kq149 nin0
      have Ex144_t149 := Ex144_t148.keep Kq149
      have V_b144_t149 := V_b144_t148.keep Kq149 nin0
      have A147_t149 := A147_t148.keep Kq149
      have P148_1_t149 := P148_1.keep Kq149 nin0
      have P148_2_t149 := P148_2.keep Kq149 nin0
      have P148_3_t149 := P148_3.keep Kq149
      have P148_4_t149 := P148_4.keep Kq149 nin0
      have P148_5_t149 := P148_5.keep Kq149 nin0
      have P148_6_t149 := P148_6.keep Kq149 nin0
      have P148_7_t149 := P148_7.keep Kq149
      have P148_8_t149 := P148_8.keep Kq149 nin0
      have e149 : T149.heap = T149.heap := rfl
      refine Wq.steps st149 ?_
      show Wq _ _ _ _ _ (T149.setTop (mkF m 126 #[.val (.int xlaw_1), .val (.int xlaw_2), .val (.int xlaw_3), .val (.int xlaw_4), .val (.int xlaw_5), .val (.int (2 : Int32)), .val (.int (2 : Int32)), .val (.int v14), .val (.int v18), .val (.int v22), .val (.ref b120), .val (.ref b144), .val .null, .val (.ref o147), .unset, .unset] [(.ref b74_c149)]))
      refine Ow.astore X149 hx (pc' := 128) (hb hby at_126) rfl (l' := #[.val (.int xlaw_1), .val (.int xlaw_2), .val (.int xlaw_3), .val (.int xlaw_4), .val (.int xlaw_5), .val (.int (2 : Int32)), .val (.int (2 : Int32)), .val (.int v14), .val (.int v18), .val (.int v22), .val (.ref b120), .val (.ref b144), .val .null, .val (.ref o147), .val (.ref b74_c149), .unset]) rfl ?_
      refine Ow.aload X149 hx (pc' := 130) (hb hby at_128) rfl rfl ?_
      refine Ow.ifnonnullYes X149 hx (pc' := 152) (hb hby at_130) (by decide) (by decide) ?_
      refine Ow.aload X149 hx (pc' := 154) (hb hby at_152) rfl rfl ?_
      refine Ow.ifnullNo X149 hx (pc' := 157) (hb hby at_154)  ?_
      refine Ow.aload X149 hx (pc' := 159) (hb hby at_157) rfl rfl ?_
      refine Ow.aload X149 hx (pc' := 161) (hb hby at_159) rfl rfl ?_
      refine Ow.acmp X149 hx (pc' := 164) (hb hby at_161) rfl rfl (same := false) (decide_eq_false fun q => (Ne.symm ne_b144_b74_c149) (Value.ref.inj q)) (by decide) (by decide) ?_
      refine Ow.aload X149 hx (pc' := 166) (hb hby at_164) rfl rfl ?_
      refine Ow.iload X149 hx (pc' := 168) (hb hby at_166) rfl ?_
      refine Ow.iload X149 hx (pc' := 170) (hb hby at_168) rfl ?_
      refine Ow.iload X149 hx (pc' := 172) (hb hby at_170) rfl ?_
      refine Ow.iload X149 hx (pc' := 174) (hb hby at_172) rfl ?_
      obtain ⟨_, _, ⟨T150, L150, k150, n150⟩, -, X150, ⟨Lc150, hQ150, l150, y150, z150⟩, st150⟩ := Jvm.LawKit.callS X149 hx (y := mt6) hown148 (mvT hZ148 (kw56 hw)) (mvT hZ148 (kw57 hw)) (mvT hZ148 (kw58 hw)) (mvT hZ148 (kw59 hw)) (by decide) (backOf (W := 0) (rm_sm2 l Z a0 hw [] b74_c149 v14 v18 v22 v14 v18 T149.heap n0 Z149 P149_0) hZ148 (kw59 hw) (kw58 hw) (by decide) (by decide)) (g := (mkF m 174 #[.val (.int xlaw_1), .val (.int xlaw_2), .val (.int xlaw_3), .val (.int xlaw_4), .val (.int xlaw_5), .val (.int (2 : Int32)), .val (.int (2 : Int32)), .val (.int v14), .val (.int v18), .val (.int v22), .val (.ref b120), .val (.ref b144), .val .null, .val (.ref o147), .val (.ref b74_c149), .unset] [(.int v22), (.int v18), (.int v14), (.int (2 : Int32)), (.ref b74_c149)])) rfl (by rw [hml]; rfl) (argsL := [(.ref b74_c149), (.int (2 : Int32)), (.int v14), (.int v18), (.int v22)]) (rest := []) (lenOf pd9 rfl) rfl (by show 2 * 0 + _ ≤ _; exact Nat.le_of_eq rfl) (hb hby at_174) (fun _ _ => ⟨rfl, e149, (by decide : 8 + 0 ≤ _), (by decide : 78 + 0 ≤ _)⟩)
      dsimp only [Pt.U, Pt.locs, Pt.cells, Pt.slots] at X150 l150 y150 z150 st150 hQ150
      subst l150 y150 z150
      obtain ⟨rfl, Nq150, e150⟩ := hQ150
      have N150 := Fr.app N149 Nq150
      refine Wq.step st150 ?_
      show Wq _ _ _ _ _ (T150.setTop (mkF m 177 #[.val (.int xlaw_1), .val (.int xlaw_2), .val (.int xlaw_3), .val (.int xlaw_4), .val (.int xlaw_5), .val (.int (2 : Int32)), .val (.int (2 : Int32)), .val (.int v14), .val (.int v18), .val (.int v22), .val (.ref b120), .val (.ref b144), .val .null, .val (.ref o147), .val (.ref b74_c149), .unset] [(.int (f_sm2 v14 v18 v22 v14 v18))]))
      generalize hv174 : (f_sm2 v14 v18 v22 v14 v18) = v174
      show Wq _ _ _ _ _ (T150.setTop (mkF m 177 #[.val (.int xlaw_1), .val (.int xlaw_2), .val (.int xlaw_3), .val (.int xlaw_4), .val (.int xlaw_5), .val (.int (2 : Int32)), .val (.int (2 : Int32)), .val (.int v14), .val (.int v18), .val (.int v22), .val (.ref b120), .val (.ref b144), .val .null, .val (.ref o147), .val (.ref b74_c149), .unset] [(.int v174)]))
      refine Ow.ifYes X150 hx (pc' := 182) (hb hby at_177) ((if0 _ _).trans (feq (by subst hv174; simp [f_sm2] : ¬ (v174 = (0 : Int32)))).2) (by decide) (by decide) ?_
      refine Ow.aload X150 hx (pc' := 184) (hb hby at_182) rfl rfl ?_
      obtain ⟨_, _, ⟨T151, L151, k151, n151⟩, -, X151, ⟨Lc151, hQ151, l151, y151, z151⟩, st151⟩ := Jvm.LawKit.callS X150 hx (y := mt7) hown148 (mvT hZ148 (kw60 hw)) (mvT hZ148 (kw61 hw)) (mvT hZ148 (kw58 hw)) (mvT hZ148 (kw62 hw)) (by decide) (backOf (W := 0) (rm_fl2 l Z a0 hw [] b144 v14 v18 T149.heap n0 Z149 V_b144_t149 g_b144) hZ148 (kw62 hw) (kw58 hw) (by decide) (by decide)) (g := (mkF m 184 #[.val (.int xlaw_1), .val (.int xlaw_2), .val (.int xlaw_3), .val (.int xlaw_4), .val (.int xlaw_5), .val (.int (2 : Int32)), .val (.int (2 : Int32)), .val (.int v14), .val (.int v18), .val (.int v22), .val (.ref b120), .val (.ref b144), .val .null, .val (.ref o147), .val (.ref b74_c149), .unset] [(.ref b144)])) rfl (by rw [hml]; rfl) (argsL := [(.ref b144)]) (rest := []) (lenOf pd10 rfl) rfl (by show 2 * 0 + _ ≤ _; exact Nat.le_of_eq rfl) (hb hby at_184) (fun _ _ => ⟨rfl, e150, (by decide : 8 + 0 ≤ _), (by decide : 78 + 0 ≤ _)⟩)
      dsimp only [Pt.U, Pt.locs, Pt.cells, Pt.slots] at X151 l151 y151 z151 st151 hQ151
      subst l151 y151 z151
      obtain ⟨rfl, Nq151, Kq151, P151_0⟩ := hQ151
      have N151 := Fr.app N150 Nq151
      have hk151 := Nat.le_trans hk149 Kq151.1
      have K151 : Keep h0 T151.heap [] := K149.trans Kq151 (allS (P := fun x => x ∈ [] ∨ h0.size ≤ x) (Or.inr sz_b144) all0)
      have Z151 : n0 ≤ T151.heap.size := Nat.le_trans Z149 Kq151.1
      have S_NONE_t151 := Jvm.OwnW.Sta.keepN S_NONE_t149 Kq151 (allS (P := fun w => ∀ cell : Cell, T149.heap[w]? = some cell → cell.vm.isStatics = false) (Jvm.OwnW.Exa.ns Ex144_t149) all0)
      have E_uNONE_t151 := E_uNONE_t149.keep Kq151
      have S_high_t151 := Jvm.OwnW.Sta.keepN S_high_t149 Kq151 (allS (P := fun w => ∀ cell : Cell, T149.heap[w]? = some cell → cell.vm.isStatics = false) (Jvm.OwnW.Exa.ns Ex144_t149) all0)
      have S_cache_t151 := Jvm.OwnW.Sta.keepN S_cache_t149 Kq151 (allS (P := fun w => ∀ cell : Cell, T149.heap[w]? = some cell → cell.vm.isStatics = false) (Jvm.OwnW.Exa.ns Ex144_t149) all0)
      have V_ucl_t151 := V_ucl_t149.keep Kq151 (ninS ne_ucl_b144 nin0)
      have Ex120_t151 := Ex120_t149.keep Kq151
      have V_b120_t151 := V_b120_t149.keep Kq151 (ninS ne_b120_b144 nin0)
      have Ex144_t151 := Ex144_t149.keep Kq151
      have A147_t151 := A147_t149.keep Kq151
      have P148_1_t151 := P148_1_t149.keep Kq151 (ninS (Ne.symm ne_b144_o147) nin0)
      have P148_2_t151 := P148_2_t149.keep Kq151 (ninS (Ne.symm ne_b144_b43_c51_c148) nin0)
      have P148_3_t151 := P148_3_t149.keep Kq151
      have P148_4_t151 := P148_4_t149.keep Kq151 (ninS (Ne.symm ne_b144_o147) nin0)
      have P148_5_t151 := P148_5_t149.keep Kq151 (ninS (Ne.symm ne_b144_o147) nin0)
      have P148_6_t151 := P148_6_t149.keep Kq151 (ninS (Ne.symm ne_b144_b47_c51_c148) nin0)
      have P148_7_t151 := P148_7_t149.keep Kq151
      have P148_8_t151 := P148_8_t149.keep Kq151 (ninS (Ne.symm ne_b144_o147) nin0)
      have P149_0_t151 := P149_0.keep Kq151 (ninS (Ne.symm ne_b144_b74_c149) nin0)
      have P149_1_t151 := P149_1.keep Kq151
      have e151 : T151.heap = T151.heap := rfl
      obtain ⟨q152, hq152⟩ : ∃ z : Int32, z = (((v14 ^^^ (-1 : Int32)).toInt8.toInt32).toInt8.toInt32) := ⟨_, rfl⟩
      rw [← hq152] at P151_0
      obtain ⟨q153, hq153⟩ : ∃ z : Int32, z = (((v18 ^^^ (-1 : Int32)).toInt8.toInt32).toInt8.toInt32) := ⟨_, rfl⟩
      rw [← hq153] at P151_0
      refine Wq.step st151 ?_
      show Wq _ _ _ _ _ (T151.setTop (mkF m 187 #[.val (.int xlaw_1), .val (.int xlaw_2), .val (.int xlaw_3), .val (.int xlaw_4), .val (.int xlaw_5), .val (.int (2 : Int32)), .val (.int (2 : Int32)), .val (.int v14), .val (.int v18), .val (.int v22), .val (.ref b120), .val (.ref b144), .val .null, .val (.ref o147), .val (.ref b74_c149), .unset] []))
      refine Ow.aload X151 hx (pc' := 189) (hb hby at_187) rfl rfl ?_
      obtain ⟨_, _, ⟨T154, L154, k154, n154⟩, -, X154, ⟨Lc154, hQ154, l154, y154, z154⟩, st154⟩ := Jvm.LawKit.callS X151 hx (y := mt7) hown148 (mvT hZ148 (kw60 hw)) (mvT hZ148 (kw61 hw)) (mvT hZ148 (kw58 hw)) (mvT hZ148 (kw62 hw)) (by decide) (backOf (W := 0) (rm_fl2 l Z a0 hw [] b74_c149 v14 v18 T151.heap n0 Z151 P149_0_t151 g_b74_c149) hZ148 (kw62 hw) (kw58 hw) (by decide) (by decide)) (g := (mkF m 189 #[.val (.int xlaw_1), .val (.int xlaw_2), .val (.int xlaw_3), .val (.int xlaw_4), .val (.int xlaw_5), .val (.int (2 : Int32)), .val (.int (2 : Int32)), .val (.int v14), .val (.int v18), .val (.int v22), .val (.ref b120), .val (.ref b144), .val .null, .val (.ref o147), .val (.ref b74_c149), .unset] [(.ref b74_c149)])) rfl (by rw [hml]; rfl) (argsL := [(.ref b74_c149)]) (rest := []) (lenOf pd10 rfl) rfl (by show 2 * 0 + _ ≤ _; exact Nat.le_of_eq rfl) (hb hby at_189) (fun _ _ => ⟨rfl, e151, (by decide : 8 + 0 ≤ _), (by decide : 78 + 0 ≤ _)⟩)
      dsimp only [Pt.U, Pt.locs, Pt.cells, Pt.slots] at X154 l154 y154 z154 st154 hQ154
      subst l154 y154 z154
      obtain ⟨rfl, Nq154, Kq154, P154_0⟩ := hQ154
      have N154 := Fr.app N151 Nq154
      have hk154 := Nat.le_trans hk151 Kq154.1
      have K154 : Keep h0 T154.heap [] := K151.trans Kq154 (allS (P := fun x => x ∈ [] ∨ h0.size ≤ x) (Or.inr sz_b74_c149) all0)
      have Z154 : n0 ≤ T154.heap.size := Nat.le_trans Z151 Kq154.1
      have S_NONE_t154 := Jvm.OwnW.Sta.keepN S_NONE_t151 Kq154 (allS (P := fun w => ∀ cell : Cell, T151.heap[w]? = some cell → cell.vm.isStatics = false) (Jvm.OwnW.Exa.ns P149_1_t151) all0)
      have E_uNONE_t154 := E_uNONE_t151.keep Kq154
      have S_high_t154 := Jvm.OwnW.Sta.keepN S_high_t151 Kq154 (allS (P := fun w => ∀ cell : Cell, T151.heap[w]? = some cell → cell.vm.isStatics = false) (Jvm.OwnW.Exa.ns P149_1_t151) all0)
      have S_cache_t154 := Jvm.OwnW.Sta.keepN S_cache_t151 Kq154 (allS (P := fun w => ∀ cell : Cell, T151.heap[w]? = some cell → cell.vm.isStatics = false) (Jvm.OwnW.Exa.ns P149_1_t151) all0)
      have V_ucl_t154 := V_ucl_t151.keep Kq154 (ninS ne_ucl_b74_c149 nin0)
      have Ex120_t154 := Ex120_t151.keep Kq154
      have V_b120_t154 := V_b120_t151.keep Kq154 (ninS ne_b120_b74_c149 nin0)
      have Ex144_t154 := Ex144_t151.keep Kq154
      have A147_t154 := A147_t151.keep Kq154
      have P148_1_t154 := P148_1_t151.keep Kq154 (ninS ne_o147_b74_c149 nin0)
      have P148_2_t154 := P148_2_t151.keep Kq154 (ninS ne_b43_c51_c148_b74_c149 nin0)
      have P148_3_t154 := P148_3_t151.keep Kq154
      have P148_4_t154 := P148_4_t151.keep Kq154 (ninS ne_o147_b74_c149 nin0)
      have P148_5_t154 := P148_5_t151.keep Kq154 (ninS ne_o147_b74_c149 nin0)
      have P148_6_t154 := P148_6_t151.keep Kq154 (ninS ne_b47_c51_c148_b74_c149 nin0)
      have P148_7_t154 := P148_7_t151.keep Kq154
      have P148_8_t154 := P148_8_t151.keep Kq154 (ninS ne_o147_b74_c149 nin0)
      have P149_1_t154 := P149_1_t151.keep Kq154
      have P151_0_t154 := P151_0.keep Kq154 (ninS ne_b144_b74_c149 nin0)
      have e154 : T154.heap = T154.heap := rfl
      obtain ⟨q155, hq155⟩ : ∃ z : Int32, z = (((v14 ^^^ (-1 : Int32)).toInt8.toInt32).toInt8.toInt32) := ⟨_, rfl⟩
      rw [← hq155] at P154_0
      obtain ⟨q156, hq156⟩ : ∃ z : Int32, z = (((v18 ^^^ (-1 : Int32)).toInt8.toInt32).toInt8.toInt32) := ⟨_, rfl⟩
      rw [← hq156] at P154_0
      refine Wq.step st154 ?_
      show Wq _ _ _ _ _ (T154.setTop (mkF m 192 #[.val (.int xlaw_1), .val (.int xlaw_2), .val (.int xlaw_3), .val (.int xlaw_4), .val (.int xlaw_5), .val (.int (2 : Int32)), .val (.int (2 : Int32)), .val (.int v14), .val (.int v18), .val (.int v22), .val (.ref b120), .val (.ref b144), .val .null, .val (.ref o147), .val (.ref b74_c149), .unset] []))
      refine Ow.aload X154 hx (pc' := 194) (hb hby at_192) rfl rfl ?_
      obtain ⟨cq157, kq157, q157a, q157b, q157c⟩ := isOf hZ148 e154 A147_t154
      obtain ⟨_, _, ⟨T157, L157, k157, n157⟩, -, X157, ⟨Lc157, hQ157, l157, y157, z157⟩, st157⟩ := X154.virtualBack hx (y := mt5) (z := mt5) hown148 (mvT hZ148 (kw51 hw)) (mvT hZ148 (kw52 hw)) (notFace_of_selects (args := #[]) (mvT hZ148 (kw54 hw))) (mvT hZ148 (kw54 hw)) (mvT hZ148 (kw53 hw)) (by decide) (backOf (W := 0) (rm_ui2 l Z a0 hw [] o147 b47_c51_c148 v14 v18 T154.heap n0 Z154 P148_8_t154 P148_6_t154 P148_7_t154 ((own_fc (own_fb hv14) (own_fc (own_fb hv18) own_f0)))) hZ148 (kw55 hw) (kw3 hw) (by decide) (by decide)) q157a q157c (g := (mkF m 194 #[.val (.int xlaw_1), .val (.int xlaw_2), .val (.int xlaw_3), .val (.int xlaw_4), .val (.int xlaw_5), .val (.int (2 : Int32)), .val (.int (2 : Int32)), .val (.int v14), .val (.int v18), .val (.int v22), .val (.ref b120), .val (.ref b144), .val .null, .val (.ref o147), .val (.ref b74_c149), .unset] [(.ref o147)])) rfl (by rw [hml]; rfl) (Steps.refl _) (argsL := []) (rest := []) (lenOf pd7 rfl) rfl (by show 2 * 0 + _ ≤ _; exact Nat.le_of_eq rfl) (hb hby at_194) (fun _ _ => ⟨rfl, e154, (by decide : 8 + 1 ≤ _), (by decide : 78 + 2 ≤ _)⟩)
      dsimp only [Pt.U, Pt.locs, Pt.cells, Pt.slots] at X157 l157 y157 z157 st157 hQ157
      subst l157 y157 z157
      obtain ⟨b74_c157, rfl, Nq157, Kq157, szq_b74_c157, P157_0, P157_1⟩ := hQ157
      have g_b74_c157 : n0 ≤ b74_c157 := Nat.le_trans Z154 szq_b74_c157
      have sz_b74_c157 : h0.size ≤ b74_c157 := Nat.le_trans K154.1 szq_b74_c157
      have ne_uNONE_b74_c157 : uNONE ≠ b74_c157 := Nat.ne_of_lt (Nat.lt_of_lt_of_le E_uNONE_t154.lt szq_b74_c157)
      have ne_ucl_b74_c157 : ucl ≠ b74_c157 := Nat.ne_of_lt (Nat.lt_of_lt_of_le V_ucl_t154.lt szq_b74_c157)
      have ne_b120_b74_c157 : b120 ≠ b74_c157 := Nat.ne_of_lt (Nat.lt_of_lt_of_le Ex120_t154.lt szq_b74_c157)
      have ne_b144_b74_c157 : b144 ≠ b74_c157 := Nat.ne_of_lt (Nat.lt_of_lt_of_le Ex144_t154.lt szq_b74_c157)
      have ne_o147_b74_c157 : o147 ≠ b74_c157 := Nat.ne_of_lt (Nat.lt_of_lt_of_le A147_t154.lt szq_b74_c157)
      have ne_b43_c51_c148_b74_c157 : b43_c51_c148 ≠ b74_c157 := Nat.ne_of_lt (Nat.lt_of_lt_of_le P148_2_t154.lt szq_b74_c157)
      have ne_b47_c51_c148_b74_c157 : b47_c51_c148 ≠ b74_c157 := Nat.ne_of_lt (Nat.lt_of_lt_of_le P148_6_t154.lt szq_b74_c157)
      have ne_b74_c149_b74_c157 : b74_c149 ≠ b74_c157 := Nat.ne_of_lt (Nat.lt_of_lt_of_le P149_1_t154.lt szq_b74_c157)
      have N157 := Fr.app N154 Nq157
      have hk157 := Nat.le_trans hk154 Kq157.1
      have K157 : Keep h0 T157.heap [] := K154.trans Kq157 all0
      have Z157 : n0 ≤ T157.heap.size := Nat.le_trans Z154 Kq157.1
      have S_NONE_t157 := Jvm.OwnW.Sta.keepN S_NONE_t154 Kq157 all0
      have E_uNONE_t157 := E_uNONE_t154.keep Kq157
      have S_high_t157 := Jvm.OwnW.Sta.keepN S_high_t154 Kq157 all0
      have S_cache_t157 := Jvm.OwnW.Sta.keepN S_cache_t154 Kq157 all0
      have V_ucl_t157 := V_ucl_t154.keep Kq157 nin0
      have Ex120_t157 := Ex120_t154.keep Kq157
      have V_b120_t157 := V_b120_t154.keep Kq157 nin0
      have Ex144_t157 := Ex144_t154.keep Kq157
      have A147_t157 := A147_t154.keep Kq157
      have P148_1_t157 := P148_1_t154.keep Kq157 nin0
      have P148_2_t157 := P148_2_t154.keep Kq157 nin0
      have P148_3_t157 := P148_3_t154.keep Kq157
      have P148_4_t157 := P148_4_t154.keep Kq157 nin0
      have P148_5_t157 := P148_5_t154.keep Kq157 nin0
      have P148_6_t157 := P148_6_t154.keep Kq157 nin0
      have P148_7_t157 := P148_7_t154.keep Kq157
      have P148_8_t157 := P148_8_t154.keep Kq157 nin0
      have P149_1_t157 := P149_1_t154.keep Kq157
      have P151_0_t157 := P151_0_t154.keep Kq157 nin0
      have P154_0_t157 := P154_0.keep Kq157 nin0
      have e157 : T157.heap = T157.heap := rfl
      refine Wq.steps st157 ?_
      show Wq _ _ _ _ _ (T157.setTop (mkF m 197 #[.val (.int xlaw_1), .val (.int xlaw_2), .val (.int xlaw_3), .val (.int xlaw_4), .val (.int xlaw_5), .val (.int (2 : Int32)), .val (.int (2 : Int32)), .val (.int v14), .val (.int v18), .val (.int v22), .val (.ref b120), .val (.ref b144), .val .null, .val (.ref o147), .val (.ref b74_c149), .unset] [(.ref b74_c157)]))
      refine Ow.astore X157 hx (pc' := 199) (hb hby at_197) rfl (l' := #[.val (.int xlaw_1), .val (.int xlaw_2), .val (.int xlaw_3), .val (.int xlaw_4), .val (.int xlaw_5), .val (.int (2 : Int32)), .val (.int (2 : Int32)), .val (.int v14), .val (.int v18), .val (.int v22), .val (.ref b120), .val (.ref b144), .val .null, .val (.ref o147), .val (.ref b74_c149), .val (.ref b74_c157)]) rfl ?_
      refine Ow.aload X157 hx (pc' := 201) (hb hby at_199) rfl rfl ?_
      refine Ow.ifnullNo X157 hx (pc' := 204) (hb hby at_201)  ?_
      refine Ow.aload X157 hx (pc' := 206) (hb hby at_204) rfl rfl ?_
      refine Ow.aload X157 hx (pc' := 208) (hb hby at_206) rfl rfl ?_
      refine Ow.acmp X157 hx (pc' := 211) (hb hby at_208) rfl rfl (same := false) (decide_eq_false fun q => (Ne.symm ne_b74_c149_b74_c157) (Value.ref.inj q)) (by decide) (by decide) ?_
      refine Ow.aload X157 hx (pc' := 213) (hb hby at_211) rfl rfl ?_
      refine Ow.aload X157 hx (pc' := 215) (hb hby at_213) rfl rfl ?_
      refine Ow.acmp X157 hx (pc' := 218) (hb hby at_215) rfl rfl (same := false) (decide_eq_false fun q => (Ne.symm ne_b144_b74_c157) (Value.ref.inj q)) (by decide) (by decide) ?_
      refine Ow.aload X157 hx (pc' := 220) (hb hby at_218) rfl rfl ?_
      refine Ow.iload X157 hx (pc' := 222) (hb hby at_220) rfl ?_
      refine Ow.iload X157 hx (pc' := 224) (hb hby at_222) rfl ?_
      refine Ow.iload X157 hx (pc' := 226) (hb hby at_224) rfl ?_
      refine Ow.iload X157 hx (pc' := 228) (hb hby at_226) rfl ?_
      obtain ⟨_, _, ⟨T158, L158, k158, n158⟩, -, X158, ⟨Lc158, hQ158, l158, y158, z158⟩, st158⟩ := Jvm.LawKit.callS X157 hx (y := mt6) hown148 (mvT hZ148 (kw56 hw)) (mvT hZ148 (kw57 hw)) (mvT hZ148 (kw58 hw)) (mvT hZ148 (kw59 hw)) (by decide) (backOf (W := 0) (rm_sm2 l Z a0 hw [] b74_c157 v14 v18 v22 v14 v18 T157.heap n0 Z157 P157_0) hZ148 (kw59 hw) (kw58 hw) (by decide) (by decide)) (g := (mkF m 228 #[.val (.int xlaw_1), .val (.int xlaw_2), .val (.int xlaw_3), .val (.int xlaw_4), .val (.int xlaw_5), .val (.int (2 : Int32)), .val (.int (2 : Int32)), .val (.int v14), .val (.int v18), .val (.int v22), .val (.ref b120), .val (.ref b144), .val .null, .val (.ref o147), .val (.ref b74_c149), .val (.ref b74_c157)] [(.int v22), (.int v18), (.int v14), (.int (2 : Int32)), (.ref b74_c157)])) rfl (by rw [hml]; rfl) (argsL := [(.ref b74_c157), (.int (2 : Int32)), (.int v14), (.int v18), (.int v22)]) (rest := []) (lenOf pd9 rfl) rfl (by show 2 * 0 + _ ≤ _; exact Nat.le_of_eq rfl) (hb hby at_228) (fun _ _ => ⟨rfl, e157, (by decide : 9 + 0 ≤ _), (by decide : 80 + 0 ≤ _)⟩)
      dsimp only [Pt.U, Pt.locs, Pt.cells, Pt.slots] at X158 l158 y158 z158 st158 hQ158
      subst l158 y158 z158
      obtain ⟨rfl, Nq158, e158⟩ := hQ158
      have N158 := Fr.app N157 Nq158
      refine Wq.step st158 ?_
      show Wq _ _ _ _ _ (T158.setTop (mkF m 231 #[.val (.int xlaw_1), .val (.int xlaw_2), .val (.int xlaw_3), .val (.int xlaw_4), .val (.int xlaw_5), .val (.int (2 : Int32)), .val (.int (2 : Int32)), .val (.int v14), .val (.int v18), .val (.int v22), .val (.ref b120), .val (.ref b144), .val .null, .val (.ref o147), .val (.ref b74_c149), .val (.ref b74_c157)] [(.int (f_sm2 v14 v18 v22 v14 v18))]))
      generalize hv228 : (f_sm2 v14 v18 v22 v14 v18) = v228
      show Wq _ _ _ _ _ (T158.setTop (mkF m 231 #[.val (.int xlaw_1), .val (.int xlaw_2), .val (.int xlaw_3), .val (.int xlaw_4), .val (.int xlaw_5), .val (.int (2 : Int32)), .val (.int (2 : Int32)), .val (.int v14), .val (.int v18), .val (.int v22), .val (.ref b120), .val (.ref b144), .val .null, .val (.ref o147), .val (.ref b74_c149), .val (.ref b74_c157)] [(.int v228)]))
      refine Ow.ifNo X158 hx (pc' := 234) (hb hby at_231) ((if0 _ _).trans (feq (by subst hv228; simp [f_sm2] : ¬ (v228 = (0 : Int32)))).1) ?_
      refine Ow.iconst X158 hx (pc' := 235) (hb hby at_234) (z := (1 : Int32)) rfl ?_
      refine Ow.goto X158 hx (pc' := 239) (hb hby at_235) (by decide) (by decide) ?_
      exact Wq.retW X158 hS148 (by rw [e158]; exact hk157) (BodyLoose.notSynchronized Bd) (rv := some (.int (1 : Int32))) (fun h => by rw [Bd.returns] at h; cases h) (fun _ hr => retN X158 hx (t := .boolean) Bd.returns (by simp) (hb hby at_239) hr) (by decide) (by decide) ⟨rfl, N158⟩
    · skip
      show Wq _ _ _ _ _ (T122.setTop (mkF m 48 #[.val (.int xlaw_1), .val (.int xlaw_2), .val (.int xlaw_3), .val (.int xlaw_4), .val (.int xlaw_5), .val (.int (2 : Int32)), .val (.int (3 : Int32)), .val (.int v14), .val (.int v18), .val (.int v22), .val (.ref b120), .val .null, .unset, .unset, .unset, .unset] []))
      refine Ow.iload X122 hx (pc' := 50) (hb hby at_48) rfl ?_
      obtain ⟨T159, h159, k159, X159, e159, E159, A159, Ex159, st159⟩ := newPE X122 hx hZ (aty := .byte) (kw0 hw) e122 (g := (mkF m 50 #[.val (.int xlaw_1), .val (.int xlaw_2), .val (.int xlaw_3), .val (.int xlaw_4), .val (.int xlaw_5), .val (.int (2 : Int32)), .val (.int (3 : Int32)), .val (.int v14), .val (.int v18), .val (.int v22), .val (.ref b120), .val .null, .unset, .unset, .unset, .unset] [(.int (3 : Int32))])) rfl (hb hby at_50) rfl (by decide) (cap := 3) (by decide) (by decide) (by decide) (by decide) (ad := "[B") (by decide)
      obtain ⟨b159, gz159⟩ : ∃ z, z = h122.size := ⟨_, rfl⟩
      rw [← gz159] at A159 Ex159 st159
      have g_b159 : n0 ≤ b159 := Nat.le_trans Z122 (Nat.le_of_eq gz159.symm)
      have sz_b159 : h0.size ≤ b159 := Nat.le_trans K122.1 (Nat.le_of_eq gz159.symm)
      have ne_uNONE_b159 : uNONE ≠ b159 := Nat.ne_of_lt (Nat.lt_of_lt_of_le E_uNONE_t122.lt (Nat.le_of_eq gz159.symm))
      have ne_ucl_b159 : ucl ≠ b159 := Nat.ne_of_lt (Nat.lt_of_lt_of_le V_ucl_t122.lt (Nat.le_of_eq gz159.symm))
      have ne_b120_b159 : b120 ≠ b159 := Nat.ne_of_lt (Nat.lt_of_lt_of_le Ex120_t122.lt (Nat.le_of_eq gz159.symm))
      have K159 : Keep h0 h159 [] := K122.ext E159
      have Z159 : n0 ≤ h159.size := Nat.le_trans Z122 E159.1
      have hk159 := Nat.le_trans hk122 E159.1
      have S_NONE_t159 := S_NONE_t122.ext E159
      have E_uNONE_t159 := E_uNONE_t122.ext E159
      have S_high_t159 := S_high_t122.ext E159
      have S_cache_t159 := S_cache_t122.ext E159
      have V_ucl_t159 := V_ucl_t122.ext E159
      have Ex120_t159 := Ex120_t122.ext E159
      have V_b120_t159 := V_b120_t122.ext E159
      have V_b159 : Al Z h159 b159 .byte [(.int (0 : Int32)), (.int (0 : Int32)), (.int (0 : Int32))] := Al.new A159 (k := 3) (rfl) rfl
      refine Wq.step st159 ?_
      show Wq _ _ _ _ _ (T159.setTop (mkF m 52 #[.val (.int xlaw_1), .val (.int xlaw_2), .val (.int xlaw_3), .val (.int xlaw_4), .val (.int xlaw_5), .val (.int (2 : Int32)), .val (.int (3 : Int32)), .val (.int v14), .val (.int v18), .val (.int v22), .val (.ref b120), .val .null, .unset, .unset, .unset, .unset] [(.ref b159)]))
      refine Ow.astore X159 hx (pc' := 54) (hb hby at_52) rfl (l' := #[.val (.int xlaw_1), .val (.int xlaw_2), .val (.int xlaw_3), .val (.int xlaw_4), .val (.int xlaw_5), .val (.int (2 : Int32)), .val (.int (3 : Int32)), .val (.int v14), .val (.int v18), .val (.int v22), .val (.ref b120), .val (.ref b159), .unset, .unset, .unset, .unset]) rfl ?_
      refine Ow.iload X159 hx (pc' := 56) (hb hby at_54) rfl ?_
      refine Ow.ifNo X159 hx (pc' := 59) (hb hby at_56) ((if0 _ _).trans (tlt (by decide : (0 : Int32) < (3 : Int32))).2.2.2) ?_
      refine Ow.aload X159 hx (pc' := 61) (hb hby at_59) rfl rfl ?_
      refine Ow.iconst X159 hx (pc' := 62) (hb hby at_61) (z := (0 : Int32)) rfl ?_
      refine Ow.iload X159 hx (pc' := 64) (hb hby at_62) rfl ?_
      obtain ⟨T160, h160, X160, e160, W160, Vr160, st160⟩ := asB X159 hx hZ e159 V_b159 (j := (0 : Int32)) (i := 0) (by decide) rfl (Nat.le_of_ble_eq_true rfl) (y := v14) (own_nar hv14) (g := (mkF m 64 #[.val (.int xlaw_1), .val (.int xlaw_2), .val (.int xlaw_3), .val (.int xlaw_4), .val (.int xlaw_5), .val (.int (2 : Int32)), .val (.int (3 : Int32)), .val (.int v14), .val (.int v18), .val (.int v22), .val (.ref b120), .val (.ref b159), .unset, .unset, .unset, .unset] [(.int v14), (.int (0 : Int32)), (.ref b159)])) rfl rfl (hb hby at_64)
      refine Wq.step st160 ?_
      have N160 := Fr.snoc X160 N122 g_b159
      have K160 : Keep h0 h160 [] := K159.wr W160 (Or.inr sz_b159)
      have Z160 : n0 ≤ h160.size := Nat.le_trans Z159 (Keep.of_wr W160).1
      have hk160 := Nat.le_trans hk159 (Keep.of_wr W160).1
      have S_NONE_t160 := S_NONE_t159.wr W160
      have E_uNONE_t160 := E_uNONE_t159.wr W160
      have S_high_t160 := S_high_t159.wr W160
      have S_cache_t160 := S_cache_t159.wr W160
      have V_ucl_t160 := V_ucl_t159.other W160 ne_ucl_b159
      have Ex120_t160 := Ex120_t159.wr W160
      have V_b120_t160 := V_b120_t159.other W160 ne_b120_b159
      have Ex159_t160 := Ex159.wr W160
      have V_b159_t160 : Al Z h160 b159 .byte [(.int v14), (.int (0 : Int32)), (.int (0 : Int32))] := Vr160
      show Wq _ _ _ _ _ (T160.setTop (mkF m 65 #[.val (.int xlaw_1), .val (.int xlaw_2), .val (.int xlaw_3), .val (.int xlaw_4), .val (.int xlaw_5), .val (.int (2 : Int32)), .val (.int (3 : Int32)), .val (.int v14), .val (.int v18), .val (.int v22), .val (.ref b120), .val (.ref b159), .unset, .unset, .unset, .unset] []))
      refine Ow.iload X160 hx (pc' := 67) (hb hby at_65) rfl ?_
      refine Ow.iconst X160 hx (pc' := 68) (hb hby at_67) (z := (1 : Int32)) rfl ?_
      refine Ow.icmpNo X160 hx (pc' := 71) (hb hby at_68) (tlt (by decide : (1 : Int32) < (3 : Int32))).2.2.2 ?_
      refine Ow.aload X160 hx (pc' := 73) (hb hby at_71) rfl rfl ?_
      refine Ow.iconst X160 hx (pc' := 74) (hb hby at_73) (z := (1 : Int32)) rfl ?_
      refine Ow.iload X160 hx (pc' := 76) (hb hby at_74) rfl ?_
      obtain ⟨T161, h161, X161, e161, W161, Vr161, st161⟩ := asB X160 hx hZ e160 V_b159_t160 (j := (1 : Int32)) (i := 1) (by decide) rfl (Nat.le_of_ble_eq_true rfl) (y := v18) (own_nar hv18) (g := (mkF m 76 #[.val (.int xlaw_1), .val (.int xlaw_2), .val (.int xlaw_3), .val (.int xlaw_4), .val (.int xlaw_5), .val (.int (2 : Int32)), .val (.int (3 : Int32)), .val (.int v14), .val (.int v18), .val (.int v22), .val (.ref b120), .val (.ref b159), .unset, .unset, .unset, .unset] [(.int v18), (.int (1 : Int32)), (.ref b159)])) rfl rfl (hb hby at_76)
      refine Wq.step st161 ?_
      have N161 := Fr.snoc X161 N160 g_b159
      have K161 : Keep h0 h161 [] := K160.wr W161 (Or.inr sz_b159)
      have Z161 : n0 ≤ h161.size := Nat.le_trans Z160 (Keep.of_wr W161).1
      have hk161 := Nat.le_trans hk160 (Keep.of_wr W161).1
      have S_NONE_t161 := S_NONE_t160.wr W161
      have E_uNONE_t161 := E_uNONE_t160.wr W161
      have S_high_t161 := S_high_t160.wr W161
      have S_cache_t161 := S_cache_t160.wr W161
      have V_ucl_t161 := V_ucl_t160.other W161 ne_ucl_b159
      have Ex120_t161 := Ex120_t160.wr W161
      have V_b120_t161 := V_b120_t160.other W161 ne_b120_b159
      have Ex159_t161 := Ex159_t160.wr W161
      have V_b159_t161 : Al Z h161 b159 .byte [(.int v14), (.int v18), (.int (0 : Int32))] := Vr161
      show Wq _ _ _ _ _ (T161.setTop (mkF m 77 #[.val (.int xlaw_1), .val (.int xlaw_2), .val (.int xlaw_3), .val (.int xlaw_4), .val (.int xlaw_5), .val (.int (2 : Int32)), .val (.int (3 : Int32)), .val (.int v14), .val (.int v18), .val (.int v22), .val (.ref b120), .val (.ref b159), .unset, .unset, .unset, .unset] []))
      refine Ow.iload X161 hx (pc' := 79) (hb hby at_77) rfl ?_
      refine Ow.iconst X161 hx (pc' := 80) (hb hby at_79) (z := (2 : Int32)) rfl ?_
      refine Ow.icmpNo X161 hx (pc' := 83) (hb hby at_80) (tlt (by decide : (2 : Int32) < (3 : Int32))).2.2.2 ?_
      refine Ow.aload X161 hx (pc' := 85) (hb hby at_83) rfl rfl ?_
      refine Ow.iconst X161 hx (pc' := 86) (hb hby at_85) (z := (2 : Int32)) rfl ?_
      refine Ow.iload X161 hx (pc' := 88) (hb hby at_86) rfl ?_
      obtain ⟨T162, h162, X162, e162, W162, Vr162, st162⟩ := asB X161 hx hZ e161 V_b159_t161 (j := (2 : Int32)) (i := 2) (by decide) rfl (Nat.le_of_ble_eq_true rfl) (y := v22) (own_nar hv22) (g := (mkF m 88 #[.val (.int xlaw_1), .val (.int xlaw_2), .val (.int xlaw_3), .val (.int xlaw_4), .val (.int xlaw_5), .val (.int (2 : Int32)), .val (.int (3 : Int32)), .val (.int v14), .val (.int v18), .val (.int v22), .val (.ref b120), .val (.ref b159), .unset, .unset, .unset, .unset] [(.int v22), (.int (2 : Int32)), (.ref b159)])) rfl rfl (hb hby at_88)
      refine Wq.step st162 ?_
      have N162 := Fr.snoc X162 N161 g_b159
      have K162 : Keep h0 h162 [] := K161.wr W162 (Or.inr sz_b159)
      have Z162 : n0 ≤ h162.size := Nat.le_trans Z161 (Keep.of_wr W162).1
      have hk162 := Nat.le_trans hk161 (Keep.of_wr W162).1
      have S_NONE_t162 := S_NONE_t161.wr W162
      have E_uNONE_t162 := E_uNONE_t161.wr W162
      have S_high_t162 := S_high_t161.wr W162
      have S_cache_t162 := S_cache_t161.wr W162
      have V_ucl_t162 := V_ucl_t161.other W162 ne_ucl_b159
      have Ex120_t162 := Ex120_t161.wr W162
      have V_b120_t162 := V_b120_t161.other W162 ne_b120_b159
      have Ex159_t162 := Ex159_t161.wr W162
      have V_b159_t162 : Al Z h162 b159 .byte [(.int v14), (.int v18), (.int v22)] := Vr162
      show Wq _ _ _ _ _ (T162.setTop (mkF m 89 #[.val (.int xlaw_1), .val (.int xlaw_2), .val (.int xlaw_3), .val (.int xlaw_4), .val (.int xlaw_5), .val (.int (2 : Int32)), .val (.int (3 : Int32)), .val (.int v14), .val (.int v18), .val (.int v22), .val (.ref b120), .val (.ref b159), .unset, .unset, .unset, .unset] []))
      refine Ow.iload X162 hx (pc' := 91) (hb hby at_89) rfl ?_
      refine Ow.iconst X162 hx (pc' := 92) (hb hby at_91) (z := (1 : Int32)) rfl ?_
      refine Ow.icmpYes X162 hx (pc' := 103) (hb hby at_92) (feq (by decide : ¬ ((2 : Int32) = (1 : Int32)))).2 (by decide) (by decide) ?_
      refine Ow.aconstNull X162 hx (pc' := 104) (hb hby at_103)  ?_
      refine Ow.astore X162 hx (pc' := 106) (hb hby at_104) rfl (l' := #[.val (.int xlaw_1), .val (.int xlaw_2), .val (.int xlaw_3), .val (.int xlaw_4), .val (.int xlaw_5), .val (.int (2 : Int32)), .val (.int (3 : Int32)), .val (.int v14), .val (.int v18), .val (.int v22), .val (.ref b120), .val (.ref b159), .val .null, .unset, .unset, .unset]) rfl ?_
      obtain ⟨T163, h163, X163, e163, E163, A163, D163, -, st163⟩ := newO X162 hx hZ hown (kw1 hw) (kw2 hw) (kw3 hw) e162 (g := (mkF m 106 #[.val (.int xlaw_1), .val (.int xlaw_2), .val (.int xlaw_3), .val (.int xlaw_4), .val (.int xlaw_5), .val (.int (2 : Int32)), .val (.int (3 : Int32)), .val (.int v14), .val (.int v18), .val (.int v22), .val (.ref b120), .val (.ref b159), .val .null, .unset, .unset, .unset] [])) rfl (hb hby at_106) (by decide) (by decide)
      obtain ⟨o163, gz163⟩ : ∃ z, z = h162.size := ⟨_, rfl⟩
      rw [← gz163] at A163 D163 st163
      have g_o163 : n0 ≤ o163 := Nat.le_trans Z162 (Nat.le_of_eq gz163.symm)
      have sz_o163 : h0.size ≤ o163 := Nat.le_trans K162.1 (Nat.le_of_eq gz163.symm)
      have ne_uNONE_o163 : uNONE ≠ o163 := Nat.ne_of_lt (Nat.lt_of_lt_of_le E_uNONE_t162.lt (Nat.le_of_eq gz163.symm))
      have ne_ucl_o163 : ucl ≠ o163 := Nat.ne_of_lt (Nat.lt_of_lt_of_le V_ucl_t162.lt (Nat.le_of_eq gz163.symm))
      have ne_b120_o163 : b120 ≠ o163 := Nat.ne_of_lt (Nat.lt_of_lt_of_le Ex120_t162.lt (Nat.le_of_eq gz163.symm))
      have ne_b159_o163 : b159 ≠ o163 := Nat.ne_of_lt (Nat.lt_of_lt_of_le Ex159_t162.lt (Nat.le_of_eq gz163.symm))
      have K163 : Keep h0 h163 [] := K162.ext E163
      have Z163 : n0 ≤ h163.size := Nat.le_trans Z162 E163.1
      have hk163 := Nat.le_trans hk162 E163.1
      have S_NONE_t163 := S_NONE_t162.ext E163
      have E_uNONE_t163 := E_uNONE_t162.ext E163
      have S_high_t163 := S_high_t162.ext E163
      have S_cache_t163 := S_cache_t162.ext E163
      have V_ucl_t163 := V_ucl_t162.ext E163
      have Ex120_t163 := Ex120_t162.ext E163
      have V_b120_t163 := V_b120_t162.ext E163
      have Ex159_t163 := Ex159_t162.ext E163
      have V_b159_t163 := V_b159_t162.ext E163
      refine Wq.step st163 ?_
      have F_o163_unknownElements : Fld Z h163 o163 "com/example/opwire/opwire/codec/tcap/TcapMessage" "unknownElements" "Lcom/example/opwire/opwire/codec/ber/UnknownElements;" .null := D163 (Or.inr (kw35 hw)) (ty := (.object "com/example/opwire/opwire/codec/ber/UnknownElements")) (by decide)
      have F_o163_destinationTransactionId : Fld Z h163 o163 "com/example/opwire/opwire/codec/tcap/Abort" "destinationTransactionId" "[B" .null := D163 (Or.inr (kw46 hw)) (ty := (.array .byte)) (by decide)
      have F_o163_pAbortCause : Fld Z h163 o163 "com/example/opwire/opwire/codec/tcap/Abort" "pAbortCause" "Ljava/lang/Integer;" .null := D163 (Or.inr (kw48 hw)) (ty := (.object "java/lang/Integer")) (by decide)
      have F_o163_userAbortInformation : Fld Z h163 o163 "com/example/opwire/opwire/codec/tcap/Abort" "userAbortInformation" "[B" .null := D163 (Or.inr (kw50 hw)) (ty := (.array .byte)) (by decide)
      show Wq _ _ _ _ _ (T163.setTop (mkF m 109 #[.val (.int xlaw_1), .val (.int xlaw_2), .val (.int xlaw_3), .val (.int xlaw_4), .val (.int xlaw_5), .val (.int (2 : Int32)), .val (.int (3 : Int32)), .val (.int v14), .val (.int v18), .val (.int v22), .val (.ref b120), .val (.ref b159), .val .null, .unset, .unset, .unset] [(.ref o163)]))
      refine Ow.dup X163 hx (pc' := 110) (hb hby at_109) rfl ?_
      refine Ow.aload X163 hx (pc' := 112) (hb hby at_110) rfl rfl ?_
      refine Ow.aload X163 hx (pc' := 114) (hb hby at_112) rfl rfl ?_
      refine Ow.aload X163 hx (pc' := 116) (hb hby at_114) rfl rfl ?_
      obtain ⟨_, _, ⟨T164, L164, k164, n164⟩, -, Xr164, hSr164, hgr164, ⟨Lc164, hQ164, l164, y164, z164⟩, st164⟩ := X163.specialBackS hx (y := mt4) rfl hown (mvT hZ (kw4 hw)) (mvT hZ (kw5 hw)) (mvT hZ (kw6 hw)) (by decide) (backOfS (W := 1) (rm_a3 l Z a0 hw [] o163 b120 b159 v22 v14 v14 v18 v22 uNONE h163 n0 Z163 A163 F_o163_unknownElements F_o163_destinationTransactionId F_o163_pAbortCause F_o163_userAbortInformation g_o163 V_b120_t163 Ex120_t163 ne_b120_o163 (own_fc (own_fb hv22) (own_fc (own_fb hv14) own_f0)) V_b159_t163 Ex159_t163 ne_b159_o163 ((own_fc (own_fb hv14) (own_fc (own_fb hv18) (own_fc (own_fb hv22) own_f0)))) S_NONE_t163 E_uNONE_t163) hZ (kw6 hw) (kw3 hw) (by decide) (by decide)) (g := (mkF m 116 #[.val (.int xlaw_1), .val (.int xlaw_2), .val (.int xlaw_3), .val (.int xlaw_4), .val (.int xlaw_5), .val (.int (2 : Int32)), .val (.int (3 : Int32)), .val (.int v14), .val (.int v18), .val (.int v22), .val (.ref b120), .val (.ref b159), .val .null, .unset, .unset, .unset] [(.ref b159), .null, (.ref b120), (.ref o163), (.ref o163)])) rfl (by rw [hml]; rfl) (Steps.refl _) (a := o163) (argsL := [(.ref b120), .null, (.ref b159)]) (rest := [(.ref o163)]) (lenOf pd6 rfl) rfl (by show 2 * 0 + _ ≤ _; exact Nat.le_of_eq rfl) (hb hby at_116) (fun _ _ => ⟨rfl, e163, (by decide : 3 + 4 ≤ _), (by decide : 9 + 69 ≤ _)⟩)
      dsimp only [Pt.U, Pt.locs, Pt.cells, Pt.slots] at Xr164 hSr164 hgr164 l164 y164 z164 st164 hQ164
      subst l164 y164 z164
      obtain ⟨X164, hS164, hZ164, hown164⟩ := rebS hS0 (by rw [e163]; exact hk163) Xr164 hSr164 hgr164 hZ hown
      have hk164 := Nat.le_refl T164.heap.size
      obtain ⟨b53_c61_c164, b57_c61_c164, rfl, Nq164, Kq164, szq_b53_c61_c164, szq_b57_c61_c164, ne_b53_c61_c164_b57_c61_c164, P164_0, P164_1, P164_2, P164_3, P164_4, P164_5, P164_6, P164_7, P164_8⟩ := hQ164
      have g_b53_c61_c164 : n0 ≤ b53_c61_c164 := Nat.le_trans Z163 szq_b53_c61_c164
      have sz_b53_c61_c164 : h0.size ≤ b53_c61_c164 := Nat.le_trans K163.1 szq_b53_c61_c164
      have ne_uNONE_b53_c61_c164 : uNONE ≠ b53_c61_c164 := Nat.ne_of_lt (Nat.lt_of_lt_of_le E_uNONE_t163.lt szq_b53_c61_c164)
      have ne_ucl_b53_c61_c164 : ucl ≠ b53_c61_c164 := Nat.ne_of_lt (Nat.lt_of_lt_of_le V_ucl_t163.lt szq_b53_c61_c164)
      have ne_b120_b53_c61_c164 : b120 ≠ b53_c61_c164 := Nat.ne_of_lt (Nat.lt_of_lt_of_le Ex120_t163.lt szq_b53_c61_c164)
      have ne_b159_b53_c61_c164 : b159 ≠ b53_c61_c164 := Nat.ne_of_lt (Nat.lt_of_lt_of_le Ex159_t163.lt szq_b53_c61_c164)
      have ne_o163_b53_c61_c164 : o163 ≠ b53_c61_c164 := Nat.ne_of_lt (Nat.lt_of_lt_of_le A163.lt szq_b53_c61_c164)
      have g_b57_c61_c164 : n0 ≤ b57_c61_c164 := Nat.le_trans Z163 szq_b57_c61_c164
      have sz_b57_c61_c164 : h0.size ≤ b57_c61_c164 := Nat.le_trans K163.1 szq_b57_c61_c164
      have ne_uNONE_b57_c61_c164 : uNONE ≠ b57_c61_c164 := Nat.ne_of_lt (Nat.lt_of_lt_of_le E_uNONE_t163.lt szq_b57_c61_c164)
      have ne_ucl_b57_c61_c164 : ucl ≠ b57_c61_c164 := Nat.ne_of_lt (Nat.lt_of_lt_of_le V_ucl_t163.lt szq_b57_c61_c164)
      have ne_b120_b57_c61_c164 : b120 ≠ b57_c61_c164 := Nat.ne_of_lt (Nat.lt_of_lt_of_le Ex120_t163.lt szq_b57_c61_c164)
      have ne_b159_b57_c61_c164 : b159 ≠ b57_c61_c164 := Nat.ne_of_lt (Nat.lt_of_lt_of_le Ex159_t163.lt szq_b57_c61_c164)
      have ne_o163_b57_c61_c164 : o163 ≠ b57_c61_c164 := Nat.ne_of_lt (Nat.lt_of_lt_of_le A163.lt szq_b57_c61_c164)
      have N164 := Fr.app N162 Nq164
      have K164 : Keep h0 T164.heap [] := K163.trans Kq164 (allS (P := fun x => x ∈ [] ∨ h0.size ≤ x) (Or.inr sz_o163) all0)
      have Z164 : n0 ≤ T164.heap.size := Nat.le_trans Z163 Kq164.1
      have S_NONE_t164 := Jvm.OwnW.Sta.keepN S_NONE_t163 Kq164 (allS (P := fun w => ∀ cell : Cell, h163[w]? = some cell → cell.vm.isStatics = false) (Jvm.OwnW.Exa.ns A163) all0)
      have E_uNONE_t164 := E_uNONE_t163.keep Kq164
      have S_high_t164 := Jvm.OwnW.Sta.keepN S_high_t163 Kq164 (allS (P := fun w => ∀ cell : Cell, h163[w]? = some cell → cell.vm.isStatics = false) (Jvm.OwnW.Exa.ns A163) all0)
      have S_cache_t164 := Jvm.OwnW.Sta.keepN S_cache_t163 Kq164 (allS (P := fun w => ∀ cell : Cell, h163[w]? = some cell → cell.vm.isStatics = false) (Jvm.OwnW.Exa.ns A163) all0)
      have V_ucl_t164 := V_ucl_t163.keep Kq164 (ninS ne_ucl_o163 nin0)
      have Ex120_t164 := Ex120_t163.keep Kq164
      have V_b120_t164 := V_b120_t163.keep Kq164 (ninS ne_b120_o163 nin0)
      have Ex159_t164 := Ex159_t163.keep Kq164
      have V_b159_t164 := V_b159_t163.keep Kq164 (ninS ne_b159_o163 nin0)
      have A163_t164 := A163.keep Kq164
      have e164 : T164.heap = T164.heap := rfl
      refine Wq.steps st164 ?_
      show Wq _ _ _ _ _ (T164.setTop (mkF m 119 #[.val (.int xlaw_1), .val (.int xlaw_2), .val (.int xlaw_3), .val (.int xlaw_4), .val (.int xlaw_5), .val (.int (2 : Int32)), .val (.int (3 : Int32)), .val (.int v14), .val (.int v18), .val (.int v22), .val (.ref b120), .val (.ref b159), .val .null, .unset, .unset, .unset] [(.ref o163)]))
      refine Ow.astore X164 hx (pc' := 121) (hb hby at_119) rfl (l' := #[.val (.int xlaw_1), .val (.int xlaw_2), .val (.int xlaw_3), .val (.int xlaw_4), .val (.int xlaw_5), .val (.int (2 : Int32)), .val (.int (3 : Int32)), .val (.int v14), .val (.int v18), .val (.int v22), .val (.ref b120), .val (.ref b159), .val .null, .val (.ref o163), .unset, .unset]) rfl ?_
      refine Ow.aload X164 hx (pc' := 123) (hb hby at_121) rfl rfl ?_
      obtain ⟨cq165, kq165, q165a, q165b, q165c⟩ := isOf hZ164 e164 A163_t164
      obtain ⟨_, _, ⟨T165, L165, k165, n165⟩, -, X165, ⟨Lc165, hQ165, l165, y165, z165⟩, st165⟩ := X164.virtualBack hx (y := mt5) (z := mt5) hown164 (mvT hZ164 (kw51 hw)) (mvT hZ164 (kw52 hw)) (notFace_of_selects (args := #[]) (mvT hZ164 (kw54 hw))) (mvT hZ164 (kw54 hw)) (mvT hZ164 (kw53 hw)) (by decide) (backOf (W := 0) (rm_ui3 l Z a0 hw [] o163 b57_c61_c164 v14 v18 v22 T164.heap n0 Z164 P164_8 P164_6 P164_7 ((own_fc (own_fb hv14) (own_fc (own_fb hv18) (own_fc (own_fb hv22) own_f0))))) hZ164 (kw55 hw) (kw3 hw) (by decide) (by decide)) q165a q165c (g := (mkF m 123 #[.val (.int xlaw_1), .val (.int xlaw_2), .val (.int xlaw_3), .val (.int xlaw_4), .val (.int xlaw_5), .val (.int (2 : Int32)), .val (.int (3 : Int32)), .val (.int v14), .val (.int v18), .val (.int v22), .val (.ref b120), .val (.ref b159), .val .null, .val (.ref o163), .unset, .unset] [(.ref o163)])) rfl (by rw [hml]; rfl) (Steps.refl _) (argsL := []) (rest := []) (lenOf pd7 rfl) rfl (by show 2 * 0 + _ ≤ _; exact Nat.le_of_eq rfl) (hb hby at_123) (fun _ _ => ⟨rfl, e164, (by decide : 7 + 1 ≤ _), (by decide : 78 + 3 ≤ _)⟩)
      dsimp only [Pt.U, Pt.locs, Pt.cells, Pt.slots] at X165 l165 y165 z165 st165 hQ165
      subst l165 y165 z165
      obtain ⟨b80_c165, rfl, Nq165, Kq165, szq_b80_c165, P165_0, P165_1⟩ := hQ165
      have g_b80_c165 : n0 ≤ b80_c165 := Nat.le_trans Z164 szq_b80_c165
      have sz_b80_c165 : h0.size ≤ b80_c165 := Nat.le_trans K164.1 szq_b80_c165
      have ne_uNONE_b80_c165 : uNONE ≠ b80_c165 := Nat.ne_of_lt (Nat.lt_of_lt_of_le E_uNONE_t164.lt szq_b80_c165)
      have ne_ucl_b80_c165 : ucl ≠ b80_c165 := Nat.ne_of_lt (Nat.lt_of_lt_of_le V_ucl_t164.lt szq_b80_c165)
      have ne_b120_b80_c165 : b120 ≠ b80_c165 := Nat.ne_of_lt (Nat.lt_of_lt_of_le Ex120_t164.lt szq_b80_c165)
      have ne_b159_b80_c165 : b159 ≠ b80_c165 := Nat.ne_of_lt (Nat.lt_of_lt_of_le Ex159_t164.lt szq_b80_c165)
      have ne_o163_b80_c165 : o163 ≠ b80_c165 := Nat.ne_of_lt (Nat.lt_of_lt_of_le A163_t164.lt szq_b80_c165)
      have ne_b53_c61_c164_b80_c165 : b53_c61_c164 ≠ b80_c165 := Nat.ne_of_lt (Nat.lt_of_lt_of_le P164_2.lt szq_b80_c165)
      have ne_b57_c61_c164_b80_c165 : b57_c61_c164 ≠ b80_c165 := Nat.ne_of_lt (Nat.lt_of_lt_of_le P164_6.lt szq_b80_c165)
      have N165 := Fr.app N164 Nq165
      have hk165 := Nat.le_trans hk164 Kq165.1
      have K165 : Keep h0 T165.heap [] := K164.trans Kq165 all0
      have Z165 : n0 ≤ T165.heap.size := Nat.le_trans Z164 Kq165.1
      have S_NONE_t165 := Jvm.OwnW.Sta.keepN S_NONE_t164 Kq165 all0
      have E_uNONE_t165 := E_uNONE_t164.keep Kq165
      have S_high_t165 := Jvm.OwnW.Sta.keepN S_high_t164 Kq165 all0
      have S_cache_t165 := Jvm.OwnW.Sta.keepN S_cache_t164 Kq165 all0
      have V_ucl_t165 := V_ucl_t164.keep Kq165 nin0
      have Ex120_t165 := Ex120_t164.keep Kq165
      have V_b120_t165 := V_b120_t164.keep Kq165 nin0
      have Ex159_t165 := Ex159_t164.keep Kq165
      have V_b159_t165 := V_b159_t164.keep Kq165 nin0
      have A163_t165 := A163_t164.keep Kq165
      have P164_1_t165 := P164_1.keep Kq165 nin0
      have P164_2_t165 := P164_2.keep Kq165 nin0
      have P164_3_t165 := P164_3.keep Kq165
      have P164_4_t165 := P164_4.keep Kq165 nin0
      have P164_5_t165 := P164_5.keep Kq165 nin0
      have P164_6_t165 := P164_6.keep Kq165 nin0
      have P164_7_t165 := P164_7.keep Kq165
      have P164_8_t165 := P164_8.keep Kq165 nin0
      have e165 : T165.heap = T165.heap := rfl
      refine Wq.steps st165 ?_
      show Wq _ _ _ _ _ (T165.setTop (mkF m 126 #[.val (.int xlaw_1), .val (.int xlaw_2), .val (.int xlaw_3), .val (.int xlaw_4), .val (.int xlaw_5), .val (.int (2 : Int32)), .val (.int (3 : Int32)), .val (.int v14), .val (.int v18), .val (.int v22), .val (.ref b120), .val (.ref b159), .val .null, .val (.ref o163), .unset, .unset] [(.ref b80_c165)]))
      refine Ow.astore X165 hx (pc' := 128) (hb hby at_126) rfl (l' := #[.val (.int xlaw_1), .val (.int xlaw_2), .val (.int xlaw_3), .val (.int xlaw_4), .val (.int xlaw_5), .val (.int (2 : Int32)), .val (.int (3 : Int32)), .val (.int v14), .val (.int v18), .val (.int v22), .val (.ref b120), .val (.ref b159), .val .null, .val (.ref o163), .val (.ref b80_c165), .unset]) rfl ?_
      refine Ow.aload X165 hx (pc' := 130) (hb hby at_128) rfl rfl ?_
      refine Ow.ifnonnullYes X165 hx (pc' := 152) (hb hby at_130) (by decide) (by decide) ?_
      refine Ow.aload X165 hx (pc' := 154) (hb hby at_152) rfl rfl ?_
      refine Ow.ifnullNo X165 hx (pc' := 157) (hb hby at_154)  ?_
      refine Ow.aload X165 hx (pc' := 159) (hb hby at_157) rfl rfl ?_
      refine Ow.aload X165 hx (pc' := 161) (hb hby at_159) rfl rfl ?_
      refine Ow.acmp X165 hx (pc' := 164) (hb hby at_161) rfl rfl (same := false) (decide_eq_false fun q => (Ne.symm ne_b159_b80_c165) (Value.ref.inj q)) (by decide) (by decide) ?_
      refine Ow.aload X165 hx (pc' := 166) (hb hby at_164) rfl rfl ?_
      refine Ow.iload X165 hx (pc' := 168) (hb hby at_166) rfl ?_
      refine Ow.iload X165 hx (pc' := 170) (hb hby at_168) rfl ?_
      refine Ow.iload X165 hx (pc' := 172) (hb hby at_170) rfl ?_
      refine Ow.iload X165 hx (pc' := 174) (hb hby at_172) rfl ?_
      obtain ⟨_, _, ⟨T166, L166, k166, n166⟩, -, X166, ⟨Lc166, hQ166, l166, y166, z166⟩, st166⟩ := Jvm.LawKit.callS X165 hx (y := mt6) hown164 (mvT hZ164 (kw56 hw)) (mvT hZ164 (kw57 hw)) (mvT hZ164 (kw58 hw)) (mvT hZ164 (kw59 hw)) (by decide) (backOf (W := 0) (rm_sm3 l Z a0 hw [] b80_c165 v14 v18 v22 v14 v18 v22 T165.heap n0 Z165 P165_0) hZ164 (kw59 hw) (kw58 hw) (by decide) (by decide)) (g := (mkF m 174 #[.val (.int xlaw_1), .val (.int xlaw_2), .val (.int xlaw_3), .val (.int xlaw_4), .val (.int xlaw_5), .val (.int (2 : Int32)), .val (.int (3 : Int32)), .val (.int v14), .val (.int v18), .val (.int v22), .val (.ref b120), .val (.ref b159), .val .null, .val (.ref o163), .val (.ref b80_c165), .unset] [(.int v22), (.int v18), (.int v14), (.int (3 : Int32)), (.ref b80_c165)])) rfl (by rw [hml]; rfl) (argsL := [(.ref b80_c165), (.int (3 : Int32)), (.int v14), (.int v18), (.int v22)]) (rest := []) (lenOf pd9 rfl) rfl (by show 2 * 0 + _ ≤ _; exact Nat.le_of_eq rfl) (hb hby at_174) (fun _ _ => ⟨rfl, e165, (by decide : 8 + 0 ≤ _), (by decide : 81 + 0 ≤ _)⟩)
      dsimp only [Pt.U, Pt.locs, Pt.cells, Pt.slots] at X166 l166 y166 z166 st166 hQ166
      subst l166 y166 z166
      obtain ⟨rfl, Nq166, e166⟩ := hQ166
      have N166 := Fr.app N165 Nq166
      refine Wq.step st166 ?_
      show Wq _ _ _ _ _ (T166.setTop (mkF m 177 #[.val (.int xlaw_1), .val (.int xlaw_2), .val (.int xlaw_3), .val (.int xlaw_4), .val (.int xlaw_5), .val (.int (2 : Int32)), .val (.int (3 : Int32)), .val (.int v14), .val (.int v18), .val (.int v22), .val (.ref b120), .val (.ref b159), .val .null, .val (.ref o163), .val (.ref b80_c165), .unset] [(.int (f_sm3 v14 v18 v22 v14 v18 v22))]))
      generalize hv174 : (f_sm3 v14 v18 v22 v14 v18 v22) = v174
      show Wq _ _ _ _ _ (T166.setTop (mkF m 177 #[.val (.int xlaw_1), .val (.int xlaw_2), .val (.int xlaw_3), .val (.int xlaw_4), .val (.int xlaw_5), .val (.int (2 : Int32)), .val (.int (3 : Int32)), .val (.int v14), .val (.int v18), .val (.int v22), .val (.ref b120), .val (.ref b159), .val .null, .val (.ref o163), .val (.ref b80_c165), .unset] [(.int v174)]))
      refine Ow.ifYes X166 hx (pc' := 182) (hb hby at_177) ((if0 _ _).trans (feq (by subst hv174; simp [f_sm3] : ¬ (v174 = (0 : Int32)))).2) (by decide) (by decide) ?_
      refine Ow.aload X166 hx (pc' := 184) (hb hby at_182) rfl rfl ?_
      obtain ⟨_, _, ⟨T167, L167, k167, n167⟩, -, X167, ⟨Lc167, hQ167, l167, y167, z167⟩, st167⟩ := Jvm.LawKit.callS X166 hx (y := mt7) hown164 (mvT hZ164 (kw60 hw)) (mvT hZ164 (kw61 hw)) (mvT hZ164 (kw58 hw)) (mvT hZ164 (kw62 hw)) (by decide) (backOf (W := 0) (rm_fl3 l Z a0 hw [] b159 v14 v18 v22 T165.heap n0 Z165 V_b159_t165 g_b159) hZ164 (kw62 hw) (kw58 hw) (by decide) (by decide)) (g := (mkF m 184 #[.val (.int xlaw_1), .val (.int xlaw_2), .val (.int xlaw_3), .val (.int xlaw_4), .val (.int xlaw_5), .val (.int (2 : Int32)), .val (.int (3 : Int32)), .val (.int v14), .val (.int v18), .val (.int v22), .val (.ref b120), .val (.ref b159), .val .null, .val (.ref o163), .val (.ref b80_c165), .unset] [(.ref b159)])) rfl (by rw [hml]; rfl) (argsL := [(.ref b159)]) (rest := []) (lenOf pd10 rfl) rfl (by show 2 * 0 + _ ≤ _; exact Nat.le_of_eq rfl) (hb hby at_184) (fun _ _ => ⟨rfl, e166, (by decide : 8 + 0 ≤ _), (by decide : 81 + 0 ≤ _)⟩)
      dsimp only [Pt.U, Pt.locs, Pt.cells, Pt.slots] at X167 l167 y167 z167 st167 hQ167
      subst l167 y167 z167
      obtain ⟨rfl, Nq167, Kq167, P167_0⟩ := hQ167
      have N167 := Fr.app N166 Nq167
      have hk167 := Nat.le_trans hk165 Kq167.1
      have K167 : Keep h0 T167.heap [] := K165.trans Kq167 (allS (P := fun x => x ∈ [] ∨ h0.size ≤ x) (Or.inr sz_b159) all0)
      have Z167 : n0 ≤ T167.heap.size := Nat.le_trans Z165 Kq167.1
      have S_NONE_t167 := Jvm.OwnW.Sta.keepN S_NONE_t165 Kq167 (allS (P := fun w => ∀ cell : Cell, T165.heap[w]? = some cell → cell.vm.isStatics = false) (Jvm.OwnW.Exa.ns Ex159_t165) all0)
      have E_uNONE_t167 := E_uNONE_t165.keep Kq167
      have S_high_t167 := Jvm.OwnW.Sta.keepN S_high_t165 Kq167 (allS (P := fun w => ∀ cell : Cell, T165.heap[w]? = some cell → cell.vm.isStatics = false) (Jvm.OwnW.Exa.ns Ex159_t165) all0)
      have S_cache_t167 := Jvm.OwnW.Sta.keepN S_cache_t165 Kq167 (allS (P := fun w => ∀ cell : Cell, T165.heap[w]? = some cell → cell.vm.isStatics = false) (Jvm.OwnW.Exa.ns Ex159_t165) all0)
      have V_ucl_t167 := V_ucl_t165.keep Kq167 (ninS ne_ucl_b159 nin0)
      have Ex120_t167 := Ex120_t165.keep Kq167
      have V_b120_t167 := V_b120_t165.keep Kq167 (ninS ne_b120_b159 nin0)
      have Ex159_t167 := Ex159_t165.keep Kq167
      have A163_t167 := A163_t165.keep Kq167
      have P164_1_t167 := P164_1_t165.keep Kq167 (ninS (Ne.symm ne_b159_o163) nin0)
      have P164_2_t167 := P164_2_t165.keep Kq167 (ninS (Ne.symm ne_b159_b53_c61_c164) nin0)
      have P164_3_t167 := P164_3_t165.keep Kq167
      have P164_4_t167 := P164_4_t165.keep Kq167 (ninS (Ne.symm ne_b159_o163) nin0)
      have P164_5_t167 := P164_5_t165.keep Kq167 (ninS (Ne.symm ne_b159_o163) nin0)
      have P164_6_t167 := P164_6_t165.keep Kq167 (ninS (Ne.symm ne_b159_b57_c61_c164) nin0)
      have P164_7_t167 := P164_7_t165.keep Kq167
      have P164_8_t167 := P164_8_t165.keep Kq167 (ninS (Ne.symm ne_b159_o163) nin0)
      have P165_0_t167 := P165_0.keep Kq167 (ninS (Ne.symm ne_b159_b80_c165) nin0)
      have P165_1_t167 := P165_1.keep Kq167
      have e167 : T167.heap = T167.heap := rfl
      obtain ⟨q168, hq168⟩ : ∃ z : Int32, z = (((v14 ^^^ (-1 : Int32)).toInt8.toInt32).toInt8.toInt32) := ⟨_, rfl⟩
      rw [← hq168] at P167_0
      obtain ⟨q169, hq169⟩ : ∃ z : Int32, z = (((v18 ^^^ (-1 : Int32)).toInt8.toInt32).toInt8.toInt32) := ⟨_, rfl⟩
      rw [← hq169] at P167_0
      obtain ⟨q170, hq170⟩ : ∃ z : Int32, z = (((v22 ^^^ (-1 : Int32)).toInt8.toInt32).toInt8.toInt32) := ⟨_, rfl⟩
      rw [← hq170] at P167_0
      refine Wq.step st167 ?_
      show Wq _ _ _ _ _ (T167.setTop (mkF m 187 #[.val (.int xlaw_1), .val (.int xlaw_2), .val (.int xlaw_3), .val (.int xlaw_4), .val (.int xlaw_5), .val (.int (2 : Int32)), .val (.int (3 : Int32)), .val (.int v14), .val (.int v18), .val (.int v22), .val (.ref b120), .val (.ref b159), .val .null, .val (.ref o163), .val (.ref b80_c165), .unset] []))
      refine Ow.aload X167 hx (pc' := 189) (hb hby at_187) rfl rfl ?_
      obtain ⟨_, _, ⟨T171, L171, k171, n171⟩, -, X171, ⟨Lc171, hQ171, l171, y171, z171⟩, st171⟩ := Jvm.LawKit.callS X167 hx (y := mt7) hown164 (mvT hZ164 (kw60 hw)) (mvT hZ164 (kw61 hw)) (mvT hZ164 (kw58 hw)) (mvT hZ164 (kw62 hw)) (by decide) (backOf (W := 0) (rm_fl3 l Z a0 hw [] b80_c165 v14 v18 v22 T167.heap n0 Z167 P165_0_t167 g_b80_c165) hZ164 (kw62 hw) (kw58 hw) (by decide) (by decide)) (g := (mkF m 189 #[.val (.int xlaw_1), .val (.int xlaw_2), .val (.int xlaw_3), .val (.int xlaw_4), .val (.int xlaw_5), .val (.int (2 : Int32)), .val (.int (3 : Int32)), .val (.int v14), .val (.int v18), .val (.int v22), .val (.ref b120), .val (.ref b159), .val .null, .val (.ref o163), .val (.ref b80_c165), .unset] [(.ref b80_c165)])) rfl (by rw [hml]; rfl) (argsL := [(.ref b80_c165)]) (rest := []) (lenOf pd10 rfl) rfl (by show 2 * 0 + _ ≤ _; exact Nat.le_of_eq rfl) (hb hby at_189) (fun _ _ => ⟨rfl, e167, (by decide : 8 + 0 ≤ _), (by decide : 81 + 0 ≤ _)⟩)
      dsimp only [Pt.U, Pt.locs, Pt.cells, Pt.slots] at X171 l171 y171 z171 st171 hQ171
      subst l171 y171 z171
      obtain ⟨rfl, Nq171, Kq171, P171_0⟩ := hQ171
      have N171 := Fr.app N167 Nq171
      have hk171 := Nat.le_trans hk167 Kq171.1
      have K171 : Keep h0 T171.heap [] := K167.trans Kq171 (allS (P := fun x => x ∈ [] ∨ h0.size ≤ x) (Or.inr sz_b80_c165) all0)
      have Z171 : n0 ≤ T171.heap.size := Nat.le_trans Z167 Kq171.1
      have S_NONE_t171 := Jvm.OwnW.Sta.keepN S_NONE_t167 Kq171 (allS (P := fun w => ∀ cell : Cell, T167.heap[w]? = some cell → cell.vm.isStatics = false) (Jvm.OwnW.Exa.ns P165_1_t167) all0)
      have E_uNONE_t171 := E_uNONE_t167.keep Kq171
      have S_high_t171 := Jvm.OwnW.Sta.keepN S_high_t167 Kq171 (allS (P := fun w => ∀ cell : Cell, T167.heap[w]? = some cell → cell.vm.isStatics = false) (Jvm.OwnW.Exa.ns P165_1_t167) all0)
      have S_cache_t171 := Jvm.OwnW.Sta.keepN S_cache_t167 Kq171 (allS (P := fun w => ∀ cell : Cell, T167.heap[w]? = some cell → cell.vm.isStatics = false) (Jvm.OwnW.Exa.ns P165_1_t167) all0)
      have V_ucl_t171 := V_ucl_t167.keep Kq171 (ninS ne_ucl_b80_c165 nin0)
      have Ex120_t171 := Ex120_t167.keep Kq171
      have V_b120_t171 := V_b120_t167.keep Kq171 (ninS ne_b120_b80_c165 nin0)
      have Ex159_t171 := Ex159_t167.keep Kq171
      have A163_t171 := A163_t167.keep Kq171
      have P164_1_t171 := P164_1_t167.keep Kq171 (ninS ne_o163_b80_c165 nin0)
      have P164_2_t171 := P164_2_t167.keep Kq171 (ninS ne_b53_c61_c164_b80_c165 nin0)
      have P164_3_t171 := P164_3_t167.keep Kq171
      have P164_4_t171 := P164_4_t167.keep Kq171 (ninS ne_o163_b80_c165 nin0)
      have P164_5_t171 := P164_5_t167.keep Kq171 (ninS ne_o163_b80_c165 nin0)
      have P164_6_t171 := P164_6_t167.keep Kq171 (ninS ne_b57_c61_c164_b80_c165 nin0)
      have P164_7_t171 := P164_7_t167.keep Kq171
      have P164_8_t171 := P164_8_t167.keep Kq171 (ninS ne_o163_b80_c165 nin0)
      have P165_1_t171 := P165_1_t167.keep Kq171
      have P167_0_t171 := P167_0.keep Kq171 (ninS ne_b159_b80_c165 nin0)
      have e171 : T171.heap = T171.heap := rfl
      obtain ⟨q172, hq172⟩ : ∃ z : Int32, z = (((v14 ^^^ (-1 : Int32)).toInt8.toInt32).toInt8.toInt32) := ⟨_, rfl⟩
      rw [← hq172] at P171_0
      obtain ⟨q173, hq173⟩ : ∃ z : Int32, z = (((v18 ^^^ (-1 : Int32)).toInt8.toInt32).toInt8.toInt32) := ⟨_, rfl⟩
      rw [← hq173] at P171_0
      obtain ⟨q174, hq174⟩ : ∃ z : Int32, z = (((v22 ^^^ (-1 : Int32)).toInt8.toInt32).toInt8.toInt32) := ⟨_, rfl⟩
      rw [← hq174] at P171_0
      refine Wq.step st171 ?_
      show Wq _ _ _ _ _ (T171.setTop (mkF m 192 #[.val (.int xlaw_1), .val (.int xlaw_2), .val (.int xlaw_3), .val (.int xlaw_4), .val (.int xlaw_5), .val (.int (2 : Int32)), .val (.int (3 : Int32)), .val (.int v14), .val (.int v18), .val (.int v22), .val (.ref b120), .val (.ref b159), .val .null, .val (.ref o163), .val (.ref b80_c165), .unset] []))
      refine Ow.aload X171 hx (pc' := 194) (hb hby at_192) rfl rfl ?_
      obtain ⟨cq175, kq175, q175a, q175b, q175c⟩ := isOf hZ164 e171 A163_t171
      obtain ⟨_, _, ⟨T175, L175, k175, n175⟩, -, X175, ⟨Lc175, hQ175, l175, y175, z175⟩, st175⟩ := X171.virtualBack hx (y := mt5) (z := mt5) hown164 (mvT hZ164 (kw51 hw)) (mvT hZ164 (kw52 hw)) (notFace_of_selects (args := #[]) (mvT hZ164 (kw54 hw))) (mvT hZ164 (kw54 hw)) (mvT hZ164 (kw53 hw)) (by decide) (backOf (W := 0) (rm_ui3 l Z a0 hw [] o163 b57_c61_c164 v14 v18 v22 T171.heap n0 Z171 P164_8_t171 P164_6_t171 P164_7_t171 ((own_fc (own_fb hv14) (own_fc (own_fb hv18) (own_fc (own_fb hv22) own_f0))))) hZ164 (kw55 hw) (kw3 hw) (by decide) (by decide)) q175a q175c (g := (mkF m 194 #[.val (.int xlaw_1), .val (.int xlaw_2), .val (.int xlaw_3), .val (.int xlaw_4), .val (.int xlaw_5), .val (.int (2 : Int32)), .val (.int (3 : Int32)), .val (.int v14), .val (.int v18), .val (.int v22), .val (.ref b120), .val (.ref b159), .val .null, .val (.ref o163), .val (.ref b80_c165), .unset] [(.ref o163)])) rfl (by rw [hml]; rfl) (Steps.refl _) (argsL := []) (rest := []) (lenOf pd7 rfl) rfl (by show 2 * 0 + _ ≤ _; exact Nat.le_of_eq rfl) (hb hby at_194) (fun _ _ => ⟨rfl, e171, (by decide : 8 + 1 ≤ _), (by decide : 81 + 3 ≤ _)⟩)
      dsimp only [Pt.U, Pt.locs, Pt.cells, Pt.slots] at X175 l175 y175 z175 st175 hQ175
      subst l175 y175 z175
      obtain ⟨b80_c175, rfl, Nq175, Kq175, szq_b80_c175, P175_0, P175_1⟩ := hQ175
      have g_b80_c175 : n0 ≤ b80_c175 := Nat.le_trans Z171 szq_b80_c175
      have sz_b80_c175 : h0.size ≤ b80_c175 := Nat.le_trans K171.1 szq_b80_c175
      have ne_uNONE_b80_c175 : uNONE ≠ b80_c175 := Nat.ne_of_lt (Nat.lt_of_lt_of_le E_uNONE_t171.lt szq_b80_c175)
      have ne_ucl_b80_c175 : ucl ≠ b80_c175 := Nat.ne_of_lt (Nat.lt_of_lt_of_le V_ucl_t171.lt szq_b80_c175)
      have ne_b120_b80_c175 : b120 ≠ b80_c175 := Nat.ne_of_lt (Nat.lt_of_lt_of_le Ex120_t171.lt szq_b80_c175)
      have ne_b159_b80_c175 : b159 ≠ b80_c175 := Nat.ne_of_lt (Nat.lt_of_lt_of_le Ex159_t171.lt szq_b80_c175)
      have ne_o163_b80_c175 : o163 ≠ b80_c175 := Nat.ne_of_lt (Nat.lt_of_lt_of_le A163_t171.lt szq_b80_c175)
      have ne_b53_c61_c164_b80_c175 : b53_c61_c164 ≠ b80_c175 := Nat.ne_of_lt (Nat.lt_of_lt_of_le P164_2_t171.lt szq_b80_c175)
      have ne_b57_c61_c164_b80_c175 : b57_c61_c164 ≠ b80_c175 := Nat.ne_of_lt (Nat.lt_of_lt_of_le P164_6_t171.lt szq_b80_c175)
      have ne_b80_c165_b80_c175 : b80_c165 ≠ b80_c175 := Nat.ne_of_lt (Nat.lt_of_lt_of_le P165_1_t171.lt szq_b80_c175)
      have N175 := Fr.app N171 Nq175
      have hk175 := Nat.le_trans hk171 Kq175.1
      have K175 : Keep h0 T175.heap [] := K171.trans Kq175 all0
      have Z175 : n0 ≤ T175.heap.size := Nat.le_trans Z171 Kq175.1
      have S_NONE_t175 := Jvm.OwnW.Sta.keepN S_NONE_t171 Kq175 all0
      have E_uNONE_t175 := E_uNONE_t171.keep Kq175
      have S_high_t175 := Jvm.OwnW.Sta.keepN S_high_t171 Kq175 all0
      have S_cache_t175 := Jvm.OwnW.Sta.keepN S_cache_t171 Kq175 all0
      have V_ucl_t175 := V_ucl_t171.keep Kq175 nin0
      have Ex120_t175 := Ex120_t171.keep Kq175
      have V_b120_t175 := V_b120_t171.keep Kq175 nin0
      have Ex159_t175 := Ex159_t171.keep Kq175
      have A163_t175 := A163_t171.keep Kq175
      have P164_1_t175 := P164_1_t171.keep Kq175 nin0
      have P164_2_t175 := P164_2_t171.keep Kq175 nin0
      have P164_3_t175 := P164_3_t171.keep Kq175
      have P164_4_t175 := P164_4_t171.keep Kq175 nin0
      have P164_5_t175 := P164_5_t171.keep Kq175 nin0
      have P164_6_t175 := P164_6_t171.keep Kq175 nin0
      have P164_7_t175 := P164_7_t171.keep Kq175
      have P164_8_t175 := P164_8_t171.keep Kq175 nin0
      have P165_1_t175 := P165_1_t171.keep Kq175
      have P167_0_t175 := P167_0_t171.keep Kq175 nin0
      have P171_0_t175 := P171_0.keep Kq175 nin0
      have e175 : T175.heap = T175.heap := rfl
      refine Wq.steps st175 ?_
      show Wq _ _ _ _ _ (T175.setTop (mkF m 197 #[.val (.int xlaw_1), .val (.int xlaw_2), .val (.int xlaw_3), .val (.int xlaw_4), .val (.int xlaw_5), .val (.int (2 : Int32)), .val (.int (3 : Int32)), .val (.int v14), .val (.int v18), .val (.int v22), .val (.ref b120), .val (.ref b159), .val .null, .val (.ref o163), .val (.ref b80_c165), .unset] [(.ref b80_c175)]))
      refine Ow.astore X175 hx (pc' := 199) (hb hby at_197) rfl (l' := #[.val (.int xlaw_1), .val (.int xlaw_2), .val (.int xlaw_3), .val (.int xlaw_4), .val (.int xlaw_5), .val (.int (2 : Int32)), .val (.int (3 : Int32)), .val (.int v14), .val (.int v18), .val (.int v22), .val (.ref b120), .val (.ref b159), .val .null, .val (.ref o163), .val (.ref b80_c165), .val (.ref b80_c175)]) rfl ?_
      refine Ow.aload X175 hx (pc' := 201) (hb hby at_199) rfl rfl ?_
      refine Ow.ifnullNo X175 hx (pc' := 204) (hb hby at_201)  ?_
      refine Ow.aload X175 hx (pc' := 206) (hb hby at_204) rfl rfl ?_
      refine Ow.aload X175 hx (pc' := 208) (hb hby at_206) rfl rfl ?_
      refine Ow.acmp X175 hx (pc' := 211) (hb hby at_208) rfl rfl (same := false) (decide_eq_false fun q => (Ne.symm ne_b80_c165_b80_c175) (Value.ref.inj q)) (by decide) (by decide) ?_
      refine Ow.aload X175 hx (pc' := 213) (hb hby at_211) rfl rfl ?_
      refine Ow.aload X175 hx (pc' := 215) (hb hby at_213) rfl rfl ?_
      refine Ow.acmp X175 hx (pc' := 218) (hb hby at_215) rfl rfl (same := false) (decide_eq_false fun q => (Ne.symm ne_b159_b80_c175) (Value.ref.inj q)) (by decide) (by decide) ?_
      refine Ow.aload X175 hx (pc' := 220) (hb hby at_218) rfl rfl ?_
      refine Ow.iload X175 hx (pc' := 222) (hb hby at_220) rfl ?_
      refine Ow.iload X175 hx (pc' := 224) (hb hby at_222) rfl ?_
      refine Ow.iload X175 hx (pc' := 226) (hb hby at_224) rfl ?_
      refine Ow.iload X175 hx (pc' := 228) (hb hby at_226) rfl ?_
      obtain ⟨_, _, ⟨T176, L176, k176, n176⟩, -, X176, ⟨Lc176, hQ176, l176, y176, z176⟩, st176⟩ := Jvm.LawKit.callS X175 hx (y := mt6) hown164 (mvT hZ164 (kw56 hw)) (mvT hZ164 (kw57 hw)) (mvT hZ164 (kw58 hw)) (mvT hZ164 (kw59 hw)) (by decide) (backOf (W := 0) (rm_sm3 l Z a0 hw [] b80_c175 v14 v18 v22 v14 v18 v22 T175.heap n0 Z175 P175_0) hZ164 (kw59 hw) (kw58 hw) (by decide) (by decide)) (g := (mkF m 228 #[.val (.int xlaw_1), .val (.int xlaw_2), .val (.int xlaw_3), .val (.int xlaw_4), .val (.int xlaw_5), .val (.int (2 : Int32)), .val (.int (3 : Int32)), .val (.int v14), .val (.int v18), .val (.int v22), .val (.ref b120), .val (.ref b159), .val .null, .val (.ref o163), .val (.ref b80_c165), .val (.ref b80_c175)] [(.int v22), (.int v18), (.int v14), (.int (3 : Int32)), (.ref b80_c175)])) rfl (by rw [hml]; rfl) (argsL := [(.ref b80_c175), (.int (3 : Int32)), (.int v14), (.int v18), (.int v22)]) (rest := []) (lenOf pd9 rfl) rfl (by show 2 * 0 + _ ≤ _; exact Nat.le_of_eq rfl) (hb hby at_228) (fun _ _ => ⟨rfl, e175, (by decide : 9 + 0 ≤ _), (by decide : 84 + 0 ≤ _)⟩)
      dsimp only [Pt.U, Pt.locs, Pt.cells, Pt.slots] at X176 l176 y176 z176 st176 hQ176
      subst l176 y176 z176
      obtain ⟨rfl, Nq176, e176⟩ := hQ176
      have N176 := Fr.app N175 Nq176
      refine Wq.step st176 ?_
      show Wq _ _ _ _ _ (T176.setTop (mkF m 231 #[.val (.int xlaw_1), .val (.int xlaw_2), .val (.int xlaw_3), .val (.int xlaw_4), .val (.int xlaw_5), .val (.int (2 : Int32)), .val (.int (3 : Int32)), .val (.int v14), .val (.int v18), .val (.int v22), .val (.ref b120), .val (.ref b159), .val .null, .val (.ref o163), .val (.ref b80_c165), .val (.ref b80_c175)] [(.int (f_sm3 v14 v18 v22 v14 v18 v22))]))
      generalize hv228 : (f_sm3 v14 v18 v22 v14 v18 v22) = v228
      show Wq _ _ _ _ _ (T176.setTop (mkF m 231 #[.val (.int xlaw_1), .val (.int xlaw_2), .val (.int xlaw_3), .val (.int xlaw_4), .val (.int xlaw_5), .val (.int (2 : Int32)), .val (.int (3 : Int32)), .val (.int v14), .val (.int v18), .val (.int v22), .val (.ref b120), .val (.ref b159), .val .null, .val (.ref o163), .val (.ref b80_c165), .val (.ref b80_c175)] [(.int v228)]))
      refine Ow.ifNo X176 hx (pc' := 234) (hb hby at_231) ((if0 _ _).trans (feq (by subst hv228; simp [f_sm3] : ¬ (v228 = (0 : Int32)))).1) ?_
      refine Ow.iconst X176 hx (pc' := 235) (hb hby at_234) (z := (1 : Int32)) rfl ?_
      refine Ow.goto X176 hx (pc' := 239) (hb hby at_235) (by decide) (by decide) ?_
      exact Wq.retW X176 hS164 (by rw [e176]; exact hk175) (BodyLoose.notSynchronized Bd) (rv := some (.int (1 : Int32))) (fun h => by rw [Bd.returns] at h; cases h) (fun _ hr => retN X176 hx (t := .boolean) Bd.returns (by simp) (hb hby at_239) hr) (by decide) (by decide) ⟨rfl, N176⟩
  · skip
    show Wq _ _ _ _ _ (s₁.setTop (mkF m 24 #[.val (.int xlaw_1), .val (.int xlaw_2), .val (.int xlaw_3), .val (.int xlaw_4), .val (.int xlaw_5), .val (.int (3 : Int32)), .val (.int v10), .val (.int v14), .val (.int v18), .val (.int v22), .unset, .unset, .unset, .unset, .unset, .unset] []))
    refine Ow.iconst X0 hx (pc' := 25) (hb hby at_24) (z := (2 : Int32)) rfl ?_
    obtain ⟨T177, h177, k177, X177, e177, E177, A177, Ex177, st177⟩ := newPE X0 hx hZ (aty := .byte) (kw0 hw) e0 (g := (mkF m 25 #[.val (.int xlaw_1), .val (.int xlaw_2), .val (.int xlaw_3), .val (.int xlaw_4), .val (.int xlaw_5), .val (.int (3 : Int32)), .val (.int v10), .val (.int v14), .val (.int v18), .val (.int v22), .unset, .unset, .unset, .unset, .unset, .unset] [(.int (2 : Int32))])) rfl (hb hby at_25) rfl (by decide) (cap := 2) (by decide) (by decide) (by decide) (by decide) (ad := "[B") (by decide)
    obtain ⟨b177, gz177⟩ : ∃ z, z = h0.size := ⟨_, rfl⟩
    rw [← gz177] at A177 Ex177 st177
    have g_b177 : n0 ≤ b177 := Nat.le_trans Z0 (Nat.le_of_eq gz177.symm)
    have sz_b177 : h0.size ≤ b177 := Nat.le_of_eq gz177.symm
    have ne_uNONE_b177 : uNONE ≠ b177 := Nat.ne_of_lt (Nat.lt_of_lt_of_le E_uNONE.lt (Nat.le_of_eq gz177.symm))
    have ne_ucl_b177 : ucl ≠ b177 := Nat.ne_of_lt (Nat.lt_of_lt_of_le V_ucl.lt (Nat.le_of_eq gz177.symm))
    have K177 : Keep h0 h177 [] := (Keep.refl h0 []).ext E177
    have Z177 : n0 ≤ h177.size := Nat.le_trans Z0 E177.1
    have hk177 := Nat.le_trans hk0 E177.1
    have S_NONE_t177 := S_NONE.ext E177
    have E_uNONE_t177 := E_uNONE.ext E177
    have S_high_t177 := S_high.ext E177
    have S_cache_t177 := S_cache.ext E177
    have V_ucl_t177 := V_ucl.ext E177
    have V_b177 : Al Z h177 b177 .byte [(.int (0 : Int32)), (.int (0 : Int32))] := Al.new A177 (k := 2) (rfl) rfl
    refine Wq.step st177 ?_
    show Wq _ _ _ _ _ (T177.setTop (mkF m 27 #[.val (.int xlaw_1), .val (.int xlaw_2), .val (.int xlaw_3), .val (.int xlaw_4), .val (.int xlaw_5), .val (.int (3 : Int32)), .val (.int v10), .val (.int v14), .val (.int v18), .val (.int v22), .unset, .unset, .unset, .unset, .unset, .unset] [(.ref b177)]))
    refine Ow.dup X177 hx (pc' := 28) (hb hby at_27) rfl ?_
    refine Ow.iconst X177 hx (pc' := 29) (hb hby at_28) (z := (0 : Int32)) rfl ?_
    refine Ow.iload X177 hx (pc' := 31) (hb hby at_29) rfl ?_
    obtain ⟨T178, h178, X178, e178, W178, Vr178, st178⟩ := asB X177 hx hZ e177 V_b177 (j := (0 : Int32)) (i := 0) (by decide) rfl (Nat.le_of_ble_eq_true rfl) (y := v22) (own_nar hv22) (g := (mkF m 31 #[.val (.int xlaw_1), .val (.int xlaw_2), .val (.int xlaw_3), .val (.int xlaw_4), .val (.int xlaw_5), .val (.int (3 : Int32)), .val (.int v10), .val (.int v14), .val (.int v18), .val (.int v22), .unset, .unset, .unset, .unset, .unset, .unset] [(.int v22), (.int (0 : Int32)), (.ref b177), (.ref b177)])) rfl rfl (hb hby at_31)
    refine Wq.step st178 ?_
    have N178 := Fr.snoc X178 N0 g_b177
    have K178 : Keep h0 h178 [] := K177.wr W178 (Or.inr sz_b177)
    have Z178 : n0 ≤ h178.size := Nat.le_trans Z177 (Keep.of_wr W178).1
    have hk178 := Nat.le_trans hk177 (Keep.of_wr W178).1
    have S_NONE_t178 := S_NONE_t177.wr W178
    have E_uNONE_t178 := E_uNONE_t177.wr W178
    have S_high_t178 := S_high_t177.wr W178
    have S_cache_t178 := S_cache_t177.wr W178
    have V_ucl_t178 := V_ucl_t177.other W178 ne_ucl_b177
    have Ex177_t178 := Ex177.wr W178
    have V_b177_t178 : Al Z h178 b177 .byte [(.int v22), (.int (0 : Int32))] := Vr178
    show Wq _ _ _ _ _ (T178.setTop (mkF m 32 #[.val (.int xlaw_1), .val (.int xlaw_2), .val (.int xlaw_3), .val (.int xlaw_4), .val (.int xlaw_5), .val (.int (3 : Int32)), .val (.int v10), .val (.int v14), .val (.int v18), .val (.int v22), .unset, .unset, .unset, .unset, .unset, .unset] [(.ref b177)]))
    refine Ow.dup X178 hx (pc' := 33) (hb hby at_32) rfl ?_
    refine Ow.iconst X178 hx (pc' := 34) (hb hby at_33) (z := (1 : Int32)) rfl ?_
    refine Ow.iload X178 hx (pc' := 36) (hb hby at_34) rfl ?_
    obtain ⟨T179, h179, X179, e179, W179, Vr179, st179⟩ := asB X178 hx hZ e178 V_b177_t178 (j := (1 : Int32)) (i := 1) (by decide) rfl (Nat.le_of_ble_eq_true rfl) (y := v14) (own_nar hv14) (g := (mkF m 36 #[.val (.int xlaw_1), .val (.int xlaw_2), .val (.int xlaw_3), .val (.int xlaw_4), .val (.int xlaw_5), .val (.int (3 : Int32)), .val (.int v10), .val (.int v14), .val (.int v18), .val (.int v22), .unset, .unset, .unset, .unset, .unset, .unset] [(.int v14), (.int (1 : Int32)), (.ref b177), (.ref b177)])) rfl rfl (hb hby at_36)
    refine Wq.step st179 ?_
    have N179 := Fr.snoc X179 N178 g_b177
    have K179 : Keep h0 h179 [] := K178.wr W179 (Or.inr sz_b177)
    have Z179 : n0 ≤ h179.size := Nat.le_trans Z178 (Keep.of_wr W179).1
    have hk179 := Nat.le_trans hk178 (Keep.of_wr W179).1
    have S_NONE_t179 := S_NONE_t178.wr W179
    have E_uNONE_t179 := E_uNONE_t178.wr W179
    have S_high_t179 := S_high_t178.wr W179
    have S_cache_t179 := S_cache_t178.wr W179
    have V_ucl_t179 := V_ucl_t178.other W179 ne_ucl_b177
    have Ex177_t179 := Ex177_t178.wr W179
    have V_b177_t179 : Al Z h179 b177 .byte [(.int v22), (.int v14)] := Vr179
    show Wq _ _ _ _ _ (T179.setTop (mkF m 37 #[.val (.int xlaw_1), .val (.int xlaw_2), .val (.int xlaw_3), .val (.int xlaw_4), .val (.int xlaw_5), .val (.int (3 : Int32)), .val (.int v10), .val (.int v14), .val (.int v18), .val (.int v22), .unset, .unset, .unset, .unset, .unset, .unset] [(.ref b177)]))
    refine Ow.astore X179 hx (pc' := 39) (hb hby at_37) rfl (l' := #[.val (.int xlaw_1), .val (.int xlaw_2), .val (.int xlaw_3), .val (.int xlaw_4), .val (.int xlaw_5), .val (.int (3 : Int32)), .val (.int v10), .val (.int v14), .val (.int v18), .val (.int v22), .val (.ref b177), .unset, .unset, .unset, .unset, .unset]) rfl ?_
    refine Ow.aconstNull X179 hx (pc' := 40) (hb hby at_39)  ?_
    refine Ow.astore X179 hx (pc' := 42) (hb hby at_40) rfl (l' := #[.val (.int xlaw_1), .val (.int xlaw_2), .val (.int xlaw_3), .val (.int xlaw_4), .val (.int xlaw_5), .val (.int (3 : Int32)), .val (.int v10), .val (.int v14), .val (.int v18), .val (.int v22), .val (.ref b177), .val .null, .unset, .unset, .unset, .unset]) rfl ?_
    refine Ow.iload X179 hx (pc' := 44) (hb hby at_42) rfl ?_
    refine Ow.iconst X179 hx (pc' := 45) (hb hby at_44) (z := (2 : Int32)) rfl ?_
    refine Ow.icmpNo X179 hx (pc' := 48) (hb hby at_45) (flt (by decide : ¬ ((3 : Int32) < (2 : Int32)))).1 ?_
    rcases own_m4 hv10 with rfl | rfl | rfl | rfl
    · skip
      show Wq _ _ _ _ _ (T179.setTop (mkF m 48 #[.val (.int xlaw_1), .val (.int xlaw_2), .val (.int xlaw_3), .val (.int xlaw_4), .val (.int xlaw_5), .val (.int (3 : Int32)), .val (.int (0 : Int32)), .val (.int v14), .val (.int v18), .val (.int v22), .val (.ref b177), .val .null, .unset, .unset, .unset, .unset] []))
      refine Ow.iload X179 hx (pc' := 50) (hb hby at_48) rfl ?_
      obtain ⟨T180, h180, k180, X180, e180, E180, A180, Ex180, st180⟩ := newPE X179 hx hZ (aty := .byte) (kw0 hw) e179 (g := (mkF m 50 #[.val (.int xlaw_1), .val (.int xlaw_2), .val (.int xlaw_3), .val (.int xlaw_4), .val (.int xlaw_5), .val (.int (3 : Int32)), .val (.int (0 : Int32)), .val (.int v14), .val (.int v18), .val (.int v22), .val (.ref b177), .val .null, .unset, .unset, .unset, .unset] [(.int (0 : Int32))])) rfl (hb hby at_50) rfl (by decide) (cap := 0) (by decide) (by decide) (by decide) (by decide) (ad := "[B") (by decide)
      obtain ⟨b180, gz180⟩ : ∃ z, z = h179.size := ⟨_, rfl⟩
      rw [← gz180] at A180 Ex180 st180
      have g_b180 : n0 ≤ b180 := Nat.le_trans Z179 (Nat.le_of_eq gz180.symm)
      have sz_b180 : h0.size ≤ b180 := Nat.le_trans K179.1 (Nat.le_of_eq gz180.symm)
      have ne_uNONE_b180 : uNONE ≠ b180 := Nat.ne_of_lt (Nat.lt_of_lt_of_le E_uNONE_t179.lt (Nat.le_of_eq gz180.symm))
      have ne_ucl_b180 : ucl ≠ b180 := Nat.ne_of_lt (Nat.lt_of_lt_of_le V_ucl_t179.lt (Nat.le_of_eq gz180.symm))
      have ne_b177_b180 : b177 ≠ b180 := Nat.ne_of_lt (Nat.lt_of_lt_of_le Ex177_t179.lt (Nat.le_of_eq gz180.symm))
      have K180 : Keep h0 h180 [] := K179.ext E180
      have Z180 : n0 ≤ h180.size := Nat.le_trans Z179 E180.1
      have hk180 := Nat.le_trans hk179 E180.1
      have S_NONE_t180 := S_NONE_t179.ext E180
      have E_uNONE_t180 := E_uNONE_t179.ext E180
      have S_high_t180 := S_high_t179.ext E180
      have S_cache_t180 := S_cache_t179.ext E180
      have V_ucl_t180 := V_ucl_t179.ext E180
      have Ex177_t180 := Ex177_t179.ext E180
      have V_b177_t180 := V_b177_t179.ext E180
      have V_b180 : Al Z h180 b180 .byte [] := Al.new A180 (k := 0) (rfl) rfl
      refine Wq.step st180 ?_
      show Wq _ _ _ _ _ (T180.setTop (mkF m 52 #[.val (.int xlaw_1), .val (.int xlaw_2), .val (.int xlaw_3), .val (.int xlaw_4), .val (.int xlaw_5), .val (.int (3 : Int32)), .val (.int (0 : Int32)), .val (.int v14), .val (.int v18), .val (.int v22), .val (.ref b177), .val .null, .unset, .unset, .unset, .unset] [(.ref b180)]))
      refine Ow.astore X180 hx (pc' := 54) (hb hby at_52) rfl (l' := #[.val (.int xlaw_1), .val (.int xlaw_2), .val (.int xlaw_3), .val (.int xlaw_4), .val (.int xlaw_5), .val (.int (3 : Int32)), .val (.int (0 : Int32)), .val (.int v14), .val (.int v18), .val (.int v22), .val (.ref b177), .val (.ref b180), .unset, .unset, .unset, .unset]) rfl ?_
      refine Ow.iload X180 hx (pc' := 56) (hb hby at_54) rfl ?_
      refine Ow.ifYes X180 hx (pc' := 65) (hb hby at_56) ((if0 _ _).trans (flt (by decide : ¬ ((0 : Int32) < (0 : Int32)))).2.2.2) (by decide) (by decide) ?_
      refine Ow.iload X180 hx (pc' := 67) (hb hby at_65) rfl ?_
      refine Ow.iconst X180 hx (pc' := 68) (hb hby at_67) (z := (1 : Int32)) rfl ?_
      refine Ow.icmpYes X180 hx (pc' := 77) (hb hby at_68) (flt (by decide : ¬ ((1 : Int32) < (0 : Int32)))).2.2.2 (by decide) (by decide) ?_
      refine Ow.iload X180 hx (pc' := 79) (hb hby at_77) rfl ?_
      refine Ow.iconst X180 hx (pc' := 80) (hb hby at_79) (z := (2 : Int32)) rfl ?_
      refine Ow.icmpYes X180 hx (pc' := 89) (hb hby at_80) (flt (by decide : ¬ ((2 : Int32) < (0 : Int32)))).2.2.2 (by decide) (by decide) ?_
      refine Ow.iload X180 hx (pc' := 91) (hb hby at_89) rfl ?_
      refine Ow.iconst X180 hx (pc' := 92) (hb hby at_91) (z := (1 : Int32)) rfl ?_
      refine Ow.icmpYes X180 hx (pc' := 103) (hb hby at_92) (feq (by decide : ¬ ((3 : Int32) = (1 : Int32)))).2 (by decide) (by decide) ?_
      refine Ow.aconstNull X180 hx (pc' := 104) (hb hby at_103)  ?_
      refine Ow.astore X180 hx (pc' := 106) (hb hby at_104) rfl (l' := #[.val (.int xlaw_1), .val (.int xlaw_2), .val (.int xlaw_3), .val (.int xlaw_4), .val (.int xlaw_5), .val (.int (3 : Int32)), .val (.int (0 : Int32)), .val (.int v14), .val (.int v18), .val (.int v22), .val (.ref b177), .val (.ref b180), .val .null, .unset, .unset, .unset]) rfl ?_
      obtain ⟨T181, h181, X181, e181, E181, A181, D181, -, st181⟩ := newO X180 hx hZ hown (kw1 hw) (kw2 hw) (kw3 hw) e180 (g := (mkF m 106 #[.val (.int xlaw_1), .val (.int xlaw_2), .val (.int xlaw_3), .val (.int xlaw_4), .val (.int xlaw_5), .val (.int (3 : Int32)), .val (.int (0 : Int32)), .val (.int v14), .val (.int v18), .val (.int v22), .val (.ref b177), .val (.ref b180), .val .null, .unset, .unset, .unset] [])) rfl (hb hby at_106) (by decide) (by decide)
      obtain ⟨o181, gz181⟩ : ∃ z, z = h180.size := ⟨_, rfl⟩
      rw [← gz181] at A181 D181 st181
      have g_o181 : n0 ≤ o181 := Nat.le_trans Z180 (Nat.le_of_eq gz181.symm)
      have sz_o181 : h0.size ≤ o181 := Nat.le_trans K180.1 (Nat.le_of_eq gz181.symm)
      have ne_uNONE_o181 : uNONE ≠ o181 := Nat.ne_of_lt (Nat.lt_of_lt_of_le E_uNONE_t180.lt (Nat.le_of_eq gz181.symm))
      have ne_ucl_o181 : ucl ≠ o181 := Nat.ne_of_lt (Nat.lt_of_lt_of_le V_ucl_t180.lt (Nat.le_of_eq gz181.symm))
      have ne_b177_o181 : b177 ≠ o181 := Nat.ne_of_lt (Nat.lt_of_lt_of_le Ex177_t180.lt (Nat.le_of_eq gz181.symm))
      have ne_b180_o181 : b180 ≠ o181 := Nat.ne_of_lt (Nat.lt_of_lt_of_le Ex180.lt (Nat.le_of_eq gz181.symm))
      have K181 : Keep h0 h181 [] := K180.ext E181
      have Z181 : n0 ≤ h181.size := Nat.le_trans Z180 E181.1
      have hk181 := Nat.le_trans hk180 E181.1
      have S_NONE_t181 := S_NONE_t180.ext E181
      have E_uNONE_t181 := E_uNONE_t180.ext E181
      have S_high_t181 := S_high_t180.ext E181
      have S_cache_t181 := S_cache_t180.ext E181
      have V_ucl_t181 := V_ucl_t180.ext E181
      have Ex177_t181 := Ex177_t180.ext E181
      have V_b177_t181 := V_b177_t180.ext E181
      have Ex180_t181 := Ex180.ext E181
      have V_b180_t181 := V_b180.ext E181
      refine Wq.step st181 ?_
      have F_o181_unknownElements : Fld Z h181 o181 "com/example/opwire/opwire/codec/tcap/TcapMessage" "unknownElements" "Lcom/example/opwire/opwire/codec/ber/UnknownElements;" .null := D181 (Or.inr (kw35 hw)) (ty := (.object "com/example/opwire/opwire/codec/ber/UnknownElements")) (by decide)
      have F_o181_destinationTransactionId : Fld Z h181 o181 "com/example/opwire/opwire/codec/tcap/Abort" "destinationTransactionId" "[B" .null := D181 (Or.inr (kw46 hw)) (ty := (.array .byte)) (by decide)
      have F_o181_pAbortCause : Fld Z h181 o181 "com/example/opwire/opwire/codec/tcap/Abort" "pAbortCause" "Ljava/lang/Integer;" .null := D181 (Or.inr (kw48 hw)) (ty := (.object "java/lang/Integer")) (by decide)
      have F_o181_userAbortInformation : Fld Z h181 o181 "com/example/opwire/opwire/codec/tcap/Abort" "userAbortInformation" "[B" .null := D181 (Or.inr (kw50 hw)) (ty := (.array .byte)) (by decide)
      show Wq _ _ _ _ _ (T181.setTop (mkF m 109 #[.val (.int xlaw_1), .val (.int xlaw_2), .val (.int xlaw_3), .val (.int xlaw_4), .val (.int xlaw_5), .val (.int (3 : Int32)), .val (.int (0 : Int32)), .val (.int v14), .val (.int v18), .val (.int v22), .val (.ref b177), .val (.ref b180), .val .null, .unset, .unset, .unset] [(.ref o181)]))
      refine Ow.dup X181 hx (pc' := 110) (hb hby at_109) rfl ?_
      refine Ow.aload X181 hx (pc' := 112) (hb hby at_110) rfl rfl ?_
      refine Ow.aload X181 hx (pc' := 114) (hb hby at_112) rfl rfl ?_
      refine Ow.aload X181 hx (pc' := 116) (hb hby at_114) rfl rfl ?_
      obtain ⟨_, _, ⟨T182, L182, k182, n182⟩, -, Xr182, hSr182, hgr182, ⟨Lc182, hQ182, l182, y182, z182⟩, st182⟩ := X181.specialBackS hx (y := mt4) rfl hown (mvT hZ (kw4 hw)) (mvT hZ (kw5 hw)) (mvT hZ (kw6 hw)) (by decide) (backOfS (W := 1) (rm_a0 l Z a0 hw [] o181 b177 b180 v22 v14 uNONE h181 n0 Z181 A181 F_o181_unknownElements F_o181_destinationTransactionId F_o181_pAbortCause F_o181_userAbortInformation g_o181 V_b177_t181 Ex177_t181 ne_b177_o181 (own_fc (own_fb hv22) (own_fc (own_fb hv14) own_f0)) V_b180_t181 Ex180_t181 ne_b180_o181 (own_f0) S_NONE_t181 E_uNONE_t181) hZ (kw6 hw) (kw3 hw) (by decide) (by decide)) (g := (mkF m 116 #[.val (.int xlaw_1), .val (.int xlaw_2), .val (.int xlaw_3), .val (.int xlaw_4), .val (.int xlaw_5), .val (.int (3 : Int32)), .val (.int (0 : Int32)), .val (.int v14), .val (.int v18), .val (.int v22), .val (.ref b177), .val (.ref b180), .val .null, .unset, .unset, .unset] [(.ref b180), .null, (.ref b177), (.ref o181), (.ref o181)])) rfl (by rw [hml]; rfl) (Steps.refl _) (a := o181) (argsL := [(.ref b177), .null, (.ref b180)]) (rest := [(.ref o181)]) (lenOf pd6 rfl) rfl (by show 2 * 0 + _ ≤ _; exact Nat.le_of_eq rfl) (hb hby at_116) (fun _ _ => ⟨rfl, e181, (by decide : 3 + 4 ≤ _), (by decide : 6 + 66 ≤ _)⟩)
      dsimp only [Pt.U, Pt.locs, Pt.cells, Pt.slots] at Xr182 hSr182 hgr182 l182 y182 z182 st182 hQ182
      subst l182 y182 z182
      obtain ⟨X182, hS182, hZ182, hown182⟩ := rebS hS0 (by rw [e181]; exact hk181) Xr182 hSr182 hgr182 hZ hown
      have hk182 := Nat.le_refl T182.heap.size
      obtain ⟨b23_c31_c182, b27_c31_c182, rfl, Nq182, Kq182, szq_b23_c31_c182, szq_b27_c31_c182, ne_b23_c31_c182_b27_c31_c182, P182_0, P182_1, P182_2, P182_3, P182_4, P182_5, P182_6, P182_7, P182_8⟩ := hQ182
      have g_b23_c31_c182 : n0 ≤ b23_c31_c182 := Nat.le_trans Z181 szq_b23_c31_c182
      have sz_b23_c31_c182 : h0.size ≤ b23_c31_c182 := Nat.le_trans K181.1 szq_b23_c31_c182
      have ne_uNONE_b23_c31_c182 : uNONE ≠ b23_c31_c182 := Nat.ne_of_lt (Nat.lt_of_lt_of_le E_uNONE_t181.lt szq_b23_c31_c182)
      have ne_ucl_b23_c31_c182 : ucl ≠ b23_c31_c182 := Nat.ne_of_lt (Nat.lt_of_lt_of_le V_ucl_t181.lt szq_b23_c31_c182)
      have ne_b177_b23_c31_c182 : b177 ≠ b23_c31_c182 := Nat.ne_of_lt (Nat.lt_of_lt_of_le Ex177_t181.lt szq_b23_c31_c182)
      have ne_b180_b23_c31_c182 : b180 ≠ b23_c31_c182 := Nat.ne_of_lt (Nat.lt_of_lt_of_le Ex180_t181.lt szq_b23_c31_c182)
      have ne_o181_b23_c31_c182 : o181 ≠ b23_c31_c182 := Nat.ne_of_lt (Nat.lt_of_lt_of_le A181.lt szq_b23_c31_c182)
      have g_b27_c31_c182 : n0 ≤ b27_c31_c182 := Nat.le_trans Z181 szq_b27_c31_c182
      have sz_b27_c31_c182 : h0.size ≤ b27_c31_c182 := Nat.le_trans K181.1 szq_b27_c31_c182
      have ne_uNONE_b27_c31_c182 : uNONE ≠ b27_c31_c182 := Nat.ne_of_lt (Nat.lt_of_lt_of_le E_uNONE_t181.lt szq_b27_c31_c182)
      have ne_ucl_b27_c31_c182 : ucl ≠ b27_c31_c182 := Nat.ne_of_lt (Nat.lt_of_lt_of_le V_ucl_t181.lt szq_b27_c31_c182)
      have ne_b177_b27_c31_c182 : b177 ≠ b27_c31_c182 := Nat.ne_of_lt (Nat.lt_of_lt_of_le Ex177_t181.lt szq_b27_c31_c182)
      have ne_b180_b27_c31_c182 : b180 ≠ b27_c31_c182 := Nat.ne_of_lt (Nat.lt_of_lt_of_le Ex180_t181.lt szq_b27_c31_c182)
      have ne_o181_b27_c31_c182 : o181 ≠ b27_c31_c182 := Nat.ne_of_lt (Nat.lt_of_lt_of_le A181.lt szq_b27_c31_c182)
      have N182 := Fr.app N179 Nq182
      have K182 : Keep h0 T182.heap [] := K181.trans Kq182 (allS (P := fun x => x ∈ [] ∨ h0.size ≤ x) (Or.inr sz_o181) all0)
      have Z182 : n0 ≤ T182.heap.size := Nat.le_trans Z181 Kq182.1
      have S_NONE_t182 := Jvm.OwnW.Sta.keepN S_NONE_t181 Kq182 (allS (P := fun w => ∀ cell : Cell, h181[w]? = some cell → cell.vm.isStatics = false) (Jvm.OwnW.Exa.ns A181) all0)
      have E_uNONE_t182 := E_uNONE_t181.keep Kq182
      have S_high_t182 := Jvm.OwnW.Sta.keepN S_high_t181 Kq182 (allS (P := fun w => ∀ cell : Cell, h181[w]? = some cell → cell.vm.isStatics = false) (Jvm.OwnW.Exa.ns A181) all0)
      have S_cache_t182 := Jvm.OwnW.Sta.keepN S_cache_t181 Kq182 (allS (P := fun w => ∀ cell : Cell, h181[w]? = some cell → cell.vm.isStatics = false) (Jvm.OwnW.Exa.ns A181) all0)
      have V_ucl_t182 := V_ucl_t181.keep Kq182 (ninS ne_ucl_o181 nin0)
      have Ex177_t182 := Ex177_t181.keep Kq182
      have V_b177_t182 := V_b177_t181.keep Kq182 (ninS ne_b177_o181 nin0)
      have Ex180_t182 := Ex180_t181.keep Kq182
      have V_b180_t182 := V_b180_t181.keep Kq182 (ninS ne_b180_o181 nin0)
      have A181_t182 := A181.keep Kq182
      have e182 : T182.heap = T182.heap := rfl
      refine Wq.steps st182 ?_
      show Wq _ _ _ _ _ (T182.setTop (mkF m 119 #[.val (.int xlaw_1), .val (.int xlaw_2), .val (.int xlaw_3), .val (.int xlaw_4), .val (.int xlaw_5), .val (.int (3 : Int32)), .val (.int (0 : Int32)), .val (.int v14), .val (.int v18), .val (.int v22), .val (.ref b177), .val (.ref b180), .val .null, .unset, .unset, .unset] [(.ref o181)]))
      refine Ow.astore X182 hx (pc' := 121) (hb hby at_119) rfl (l' := #[.val (.int xlaw_1), .val (.int xlaw_2), .val (.int xlaw_3), .val (.int xlaw_4), .val (.int xlaw_5), .val (.int (3 : Int32)), .val (.int (0 : Int32)), .val (.int v14), .val (.int v18), .val (.int v22), .val (.ref b177), .val (.ref b180), .val .null, .val (.ref o181), .unset, .unset]) rfl ?_
      refine Ow.aload X182 hx (pc' := 123) (hb hby at_121) rfl rfl ?_
      obtain ⟨cq183, kq183, q183a, q183b, q183c⟩ := isOf hZ182 e182 A181_t182
      obtain ⟨_, _, ⟨T183, L183, k183, n183⟩, -, X183, ⟨Lc183, hQ183, l183, y183, z183⟩, st183⟩ := X182.virtualBack hx (y := mt5) (z := mt5) hown182 (mvT hZ182 (kw51 hw)) (mvT hZ182 (kw52 hw)) (notFace_of_selects (args := #[]) (mvT hZ182 (kw54 hw))) (mvT hZ182 (kw54 hw)) (mvT hZ182 (kw53 hw)) (by decide) (backOf (W := 0) (rm_ui0 l Z a0 hw [] o181 b27_c31_c182 T182.heap n0 Z182 P182_8 P182_6 P182_7 (own_f0)) hZ182 (kw55 hw) (kw3 hw) (by decide) (by decide)) q183a q183c (g := (mkF m 123 #[.val (.int xlaw_1), .val (.int xlaw_2), .val (.int xlaw_3), .val (.int xlaw_4), .val (.int xlaw_5), .val (.int (3 : Int32)), .val (.int (0 : Int32)), .val (.int v14), .val (.int v18), .val (.int v22), .val (.ref b177), .val (.ref b180), .val .null, .val (.ref o181), .unset, .unset] [(.ref o181)])) rfl (by rw [hml]; rfl) (Steps.refl _) (argsL := []) (rest := []) (lenOf pd7 rfl) rfl (by show 2 * 0 + _ ≤ _; exact Nat.le_of_eq rfl) (hb hby at_123) (fun _ _ => ⟨rfl, e182, (by decide : 7 + 1 ≤ _), (by decide : 72 + 0 ≤ _)⟩)
      dsimp only [Pt.U, Pt.locs, Pt.cells, Pt.slots] at X183 l183 y183 z183 st183 hQ183
      subst l183 y183 z183
      obtain ⟨b65_c183, rfl, Nq183, Kq183, szq_b65_c183, P183_0, P183_1⟩ := hQ183
      have g_b65_c183 : n0 ≤ b65_c183 := Nat.le_trans Z182 szq_b65_c183
      have sz_b65_c183 : h0.size ≤ b65_c183 := Nat.le_trans K182.1 szq_b65_c183
      have ne_uNONE_b65_c183 : uNONE ≠ b65_c183 := Nat.ne_of_lt (Nat.lt_of_lt_of_le E_uNONE_t182.lt szq_b65_c183)
      have ne_ucl_b65_c183 : ucl ≠ b65_c183 := Nat.ne_of_lt (Nat.lt_of_lt_of_le V_ucl_t182.lt szq_b65_c183)
      have ne_b177_b65_c183 : b177 ≠ b65_c183 := Nat.ne_of_lt (Nat.lt_of_lt_of_le Ex177_t182.lt szq_b65_c183)
      have ne_b180_b65_c183 : b180 ≠ b65_c183 := Nat.ne_of_lt (Nat.lt_of_lt_of_le Ex180_t182.lt szq_b65_c183)
      have ne_o181_b65_c183 : o181 ≠ b65_c183 := Nat.ne_of_lt (Nat.lt_of_lt_of_le A181_t182.lt szq_b65_c183)
      have ne_b23_c31_c182_b65_c183 : b23_c31_c182 ≠ b65_c183 := Nat.ne_of_lt (Nat.lt_of_lt_of_le P182_2.lt szq_b65_c183)
      have ne_b27_c31_c182_b65_c183 : b27_c31_c182 ≠ b65_c183 := Nat.ne_of_lt (Nat.lt_of_lt_of_le P182_6.lt szq_b65_c183)
      have N183 := Fr.app N182 Nq183
      have hk183 := Nat.le_trans hk182 Kq183.1
      have K183 : Keep h0 T183.heap [] := K182.trans Kq183 all0
      have Z183 : n0 ≤ T183.heap.size := Nat.le_trans Z182 Kq183.1
      have S_NONE_t183 := Jvm.OwnW.Sta.keepN S_NONE_t182 Kq183 all0
      have E_uNONE_t183 := E_uNONE_t182.keep Kq183
      have S_high_t183 := Jvm.OwnW.Sta.keepN S_high_t182 Kq183 all0
      have S_cache_t183 := Jvm.OwnW.Sta.keepN S_cache_t182 Kq183 all0
      have V_ucl_t183 := V_ucl_t182.keep Kq183 nin0
      have Ex177_t183 := Ex177_t182.keep Kq183
      have V_b177_t183 := V_b177_t182.keep Kq183 nin0
      have Ex180_t183 := Ex180_t182.keep Kq183
      have V_b180_t183 := V_b180_t182.keep Kq183 nin0
      have A181_t183 := A181_t182.keep Kq183
      have P182_1_t183 := P182_1.keep Kq183 nin0
      have P182_2_t183 := P182_2.keep Kq183 nin0
      have P182_3_t183 := P182_3.keep Kq183
      have P182_4_t183 := P182_4.keep Kq183 nin0
      have P182_5_t183 := P182_5.keep Kq183 nin0
      have P182_6_t183 := P182_6.keep Kq183 nin0
      have P182_7_t183 := P182_7.keep Kq183
      have P182_8_t183 := P182_8.keep Kq183 nin0
      have e183 : T183.heap = T183.heap := rfl
      refine Wq.steps st183 ?_
      show Wq _ _ _ _ _ (T183.setTop (mkF m 126 #[.val (.int xlaw_1), .val (.int xlaw_2), .val (.int xlaw_3), .val (.int xlaw_4), .val (.int xlaw_5), .val (.int (3 : Int32)), .val (.int (0 : Int32)), .val (.int v14), .val (.int v18), .val (.int v22), .val (.ref b177), .val (.ref b180), .val .null, .val (.ref o181), .unset, .unset] [(.ref b65_c183)]))
      refine Ow.astore X183 hx (pc' := 128) (hb hby at_126) rfl (l' := #[.val (.int xlaw_1), .val (.int xlaw_2), .val (.int xlaw_3), .val (.int xlaw_4), .val (.int xlaw_5), .val (.int (3 : Int32)), .val (.int (0 : Int32)), .val (.int v14), .val (.int v18), .val (.int v22), .val (.ref b177), .val (.ref b180), .val .null, .val (.ref o181), .val (.ref b65_c183), .unset]) rfl ?_
      refine Ow.aload X183 hx (pc' := 130) (hb hby at_128) rfl rfl ?_
      refine Ow.ifnonnullYes X183 hx (pc' := 152) (hb hby at_130) (by decide) (by decide) ?_
      refine Ow.aload X183 hx (pc' := 154) (hb hby at_152) rfl rfl ?_
      refine Ow.ifnullNo X183 hx (pc' := 157) (hb hby at_154)  ?_
      refine Ow.aload X183 hx (pc' := 159) (hb hby at_157) rfl rfl ?_
      refine Ow.aload X183 hx (pc' := 161) (hb hby at_159) rfl rfl ?_
      refine Ow.acmp X183 hx (pc' := 164) (hb hby at_161) rfl rfl (same := false) (decide_eq_false fun q => (Ne.symm ne_b180_b65_c183) (Value.ref.inj q)) (by decide) (by decide) ?_
      refine Ow.aload X183 hx (pc' := 166) (hb hby at_164) rfl rfl ?_
      refine Ow.iload X183 hx (pc' := 168) (hb hby at_166) rfl ?_
      refine Ow.iload X183 hx (pc' := 170) (hb hby at_168) rfl ?_
      refine Ow.iload X183 hx (pc' := 172) (hb hby at_170) rfl ?_
      refine Ow.iload X183 hx (pc' := 174) (hb hby at_172) rfl ?_
      obtain ⟨_, _, ⟨T184, L184, k184, n184⟩, -, X184, ⟨Lc184, hQ184, l184, y184, z184⟩, st184⟩ := Jvm.LawKit.callS X183 hx (y := mt6) hown182 (mvT hZ182 (kw56 hw)) (mvT hZ182 (kw57 hw)) (mvT hZ182 (kw58 hw)) (mvT hZ182 (kw59 hw)) (by decide) (backOf (W := 0) (rm_sm0 l Z a0 hw [] b65_c183 v14 v18 v22 T183.heap n0 Z183 P183_0) hZ182 (kw59 hw) (kw58 hw) (by decide) (by decide)) (g := (mkF m 174 #[.val (.int xlaw_1), .val (.int xlaw_2), .val (.int xlaw_3), .val (.int xlaw_4), .val (.int xlaw_5), .val (.int (3 : Int32)), .val (.int (0 : Int32)), .val (.int v14), .val (.int v18), .val (.int v22), .val (.ref b177), .val (.ref b180), .val .null, .val (.ref o181), .val (.ref b65_c183), .unset] [(.int v22), (.int v18), (.int v14), (.int (0 : Int32)), (.ref b65_c183)])) rfl (by rw [hml]; rfl) (argsL := [(.ref b65_c183), (.int (0 : Int32)), (.int v14), (.int v18), (.int v22)]) (rest := []) (lenOf pd9 rfl) rfl (by show 2 * 0 + _ ≤ _; exact Nat.le_of_eq rfl) (hb hby at_174) (fun _ _ => ⟨rfl, e183, (by decide : 8 + 0 ≤ _), (by decide : 72 + 0 ≤ _)⟩)
      dsimp only [Pt.U, Pt.locs, Pt.cells, Pt.slots] at X184 l184 y184 z184 st184 hQ184
      subst l184 y184 z184
      obtain ⟨rfl, Nq184, e184⟩ := hQ184
      have N184 := Fr.app N183 Nq184
      refine Wq.step st184 ?_
      show Wq _ _ _ _ _ (T184.setTop (mkF m 177 #[.val (.int xlaw_1), .val (.int xlaw_2), .val (.int xlaw_3), .val (.int xlaw_4), .val (.int xlaw_5), .val (.int (3 : Int32)), .val (.int (0 : Int32)), .val (.int v14), .val (.int v18), .val (.int v22), .val (.ref b177), .val (.ref b180), .val .null, .val (.ref o181), .val (.ref b65_c183), .unset] [(.int (1 : Int32))]))
      show Wq _ _ _ _ _ (T184.setTop (mkF m 177 #[.val (.int xlaw_1), .val (.int xlaw_2), .val (.int xlaw_3), .val (.int xlaw_4), .val (.int xlaw_5), .val (.int (3 : Int32)), .val (.int (0 : Int32)), .val (.int v14), .val (.int v18), .val (.int v22), .val (.ref b177), .val (.ref b180), .val .null, .val (.ref o181), .val (.ref b65_c183), .unset] [(.int (1 : Int32))]))
      refine Ow.ifYes X184 hx (pc' := 182) (hb hby at_177) ((if0 _ _).trans (feq (by decide : ¬ ((1 : Int32) = (0 : Int32)))).2) (by decide) (by decide) ?_
      refine Ow.aload X184 hx (pc' := 184) (hb hby at_182) rfl rfl ?_
      obtain ⟨_, _, ⟨T185, L185, k185, n185⟩, -, X185, ⟨Lc185, hQ185, l185, y185, z185⟩, st185⟩ := Jvm.LawKit.callS X184 hx (y := mt7) hown182 (mvT hZ182 (kw60 hw)) (mvT hZ182 (kw61 hw)) (mvT hZ182 (kw58 hw)) (mvT hZ182 (kw62 hw)) (by decide) (backOf (W := 0) (rm_fl0 l Z a0 hw [] b180 T183.heap n0 Z183 V_b180_t183 g_b180) hZ182 (kw62 hw) (kw58 hw) (by decide) (by decide)) (g := (mkF m 184 #[.val (.int xlaw_1), .val (.int xlaw_2), .val (.int xlaw_3), .val (.int xlaw_4), .val (.int xlaw_5), .val (.int (3 : Int32)), .val (.int (0 : Int32)), .val (.int v14), .val (.int v18), .val (.int v22), .val (.ref b177), .val (.ref b180), .val .null, .val (.ref o181), .val (.ref b65_c183), .unset] [(.ref b180)])) rfl (by rw [hml]; rfl) (argsL := [(.ref b180)]) (rest := []) (lenOf pd10 rfl) rfl (by show 2 * 0 + _ ≤ _; exact Nat.le_of_eq rfl) (hb hby at_184) (fun _ _ => ⟨rfl, e184, (by decide : 8 + 0 ≤ _), (by decide : 72 + 0 ≤ _)⟩)
      dsimp only [Pt.U, Pt.locs, Pt.cells, Pt.slots] at X185 l185 y185 z185 st185 hQ185
      subst l185 y185 z185
      obtain ⟨rfl, Nq185, e185⟩ := hQ185
      have N185 := Fr.app N184 Nq185
      refine Wq.step st185 ?_
      show Wq _ _ _ _ _ (T185.setTop (mkF m 187 #[.val (.int xlaw_1), .val (.int xlaw_2), .val (.int xlaw_3), .val (.int xlaw_4), .val (.int xlaw_5), .val (.int (3 : Int32)), .val (.int (0 : Int32)), .val (.int v14), .val (.int v18), .val (.int v22), .val (.ref b177), .val (.ref b180), .val .null, .val (.ref o181), .val (.ref b65_c183), .unset] []))
      refine Ow.aload X185 hx (pc' := 189) (hb hby at_187) rfl rfl ?_
      obtain ⟨_, _, ⟨T186, L186, k186, n186⟩, -, X186, ⟨Lc186, hQ186, l186, y186, z186⟩, st186⟩ := Jvm.LawKit.callS X185 hx (y := mt7) hown182 (mvT hZ182 (kw60 hw)) (mvT hZ182 (kw61 hw)) (mvT hZ182 (kw58 hw)) (mvT hZ182 (kw62 hw)) (by decide) (backOf (W := 0) (rm_fl0 l Z a0 hw [] b65_c183 T183.heap n0 Z183 P183_0 g_b65_c183) hZ182 (kw62 hw) (kw58 hw) (by decide) (by decide)) (g := (mkF m 189 #[.val (.int xlaw_1), .val (.int xlaw_2), .val (.int xlaw_3), .val (.int xlaw_4), .val (.int xlaw_5), .val (.int (3 : Int32)), .val (.int (0 : Int32)), .val (.int v14), .val (.int v18), .val (.int v22), .val (.ref b177), .val (.ref b180), .val .null, .val (.ref o181), .val (.ref b65_c183), .unset] [(.ref b65_c183)])) rfl (by rw [hml]; rfl) (argsL := [(.ref b65_c183)]) (rest := []) (lenOf pd10 rfl) rfl (by show 2 * 0 + _ ≤ _; exact Nat.le_of_eq rfl) (hb hby at_189) (fun _ _ => ⟨rfl, e185, (by decide : 8 + 0 ≤ _), (by decide : 72 + 0 ≤ _)⟩)
      dsimp only [Pt.U, Pt.locs, Pt.cells, Pt.slots] at X186 l186 y186 z186 st186 hQ186
      subst l186 y186 z186
      obtain ⟨rfl, Nq186, e186⟩ := hQ186
      have N186 := Fr.app N185 Nq186
      refine Wq.step st186 ?_
      show Wq _ _ _ _ _ (T186.setTop (mkF m 192 #[.val (.int xlaw_1), .val (.int xlaw_2), .val (.int xlaw_3), .val (.int xlaw_4), .val (.int xlaw_5), .val (.int (3 : Int32)), .val (.int (0 : Int32)), .val (.int v14), .val (.int v18), .val (.int v22), .val (.ref b177), .val (.ref b180), .val .null, .val (.ref o181), .val (.ref b65_c183), .unset] []))
      refine Ow.aload X186 hx (pc' := 194) (hb hby at_192) rfl rfl ?_
      obtain ⟨cq187, kq187, q187a, q187b, q187c⟩ := isOf hZ182 e186 A181_t183
      obtain ⟨_, _, ⟨T187, L187, k187, n187⟩, -, X187, ⟨Lc187, hQ187, l187, y187, z187⟩, st187⟩ := X186.virtualBack hx (y := mt5) (z := mt5) hown182 (mvT hZ182 (kw51 hw)) (mvT hZ182 (kw52 hw)) (notFace_of_selects (args := #[]) (mvT hZ182 (kw54 hw))) (mvT hZ182 (kw54 hw)) (mvT hZ182 (kw53 hw)) (by decide) (backOf (W := 0) (rm_ui0 l Z a0 hw [] o181 b27_c31_c182 T183.heap n0 Z183 P182_8_t183 P182_6_t183 P182_7_t183 (own_f0)) hZ182 (kw55 hw) (kw3 hw) (by decide) (by decide)) q187a q187c (g := (mkF m 194 #[.val (.int xlaw_1), .val (.int xlaw_2), .val (.int xlaw_3), .val (.int xlaw_4), .val (.int xlaw_5), .val (.int (3 : Int32)), .val (.int (0 : Int32)), .val (.int v14), .val (.int v18), .val (.int v22), .val (.ref b177), .val (.ref b180), .val .null, .val (.ref o181), .val (.ref b65_c183), .unset] [(.ref o181)])) rfl (by rw [hml]; rfl) (Steps.refl _) (argsL := []) (rest := []) (lenOf pd7 rfl) rfl (by show 2 * 0 + _ ≤ _; exact Nat.le_of_eq rfl) (hb hby at_194) (fun _ _ => ⟨rfl, e186, (by decide : 8 + 1 ≤ _), (by decide : 72 + 0 ≤ _)⟩)
      dsimp only [Pt.U, Pt.locs, Pt.cells, Pt.slots] at X187 l187 y187 z187 st187 hQ187
      subst l187 y187 z187
      obtain ⟨b65_c187, rfl, Nq187, Kq187, szq_b65_c187, P187_0, P187_1⟩ := hQ187
      have g_b65_c187 : n0 ≤ b65_c187 := Nat.le_trans Z183 szq_b65_c187
      have sz_b65_c187 : h0.size ≤ b65_c187 := Nat.le_trans K183.1 szq_b65_c187
      have ne_uNONE_b65_c187 : uNONE ≠ b65_c187 := Nat.ne_of_lt (Nat.lt_of_lt_of_le E_uNONE_t183.lt szq_b65_c187)
      have ne_ucl_b65_c187 : ucl ≠ b65_c187 := Nat.ne_of_lt (Nat.lt_of_lt_of_le V_ucl_t183.lt szq_b65_c187)
      have ne_b177_b65_c187 : b177 ≠ b65_c187 := Nat.ne_of_lt (Nat.lt_of_lt_of_le Ex177_t183.lt szq_b65_c187)
      have ne_b180_b65_c187 : b180 ≠ b65_c187 := Nat.ne_of_lt (Nat.lt_of_lt_of_le Ex180_t183.lt szq_b65_c187)
      have ne_o181_b65_c187 : o181 ≠ b65_c187 := Nat.ne_of_lt (Nat.lt_of_lt_of_le A181_t183.lt szq_b65_c187)
      have ne_b23_c31_c182_b65_c187 : b23_c31_c182 ≠ b65_c187 := Nat.ne_of_lt (Nat.lt_of_lt_of_le P182_2_t183.lt szq_b65_c187)
      have ne_b27_c31_c182_b65_c187 : b27_c31_c182 ≠ b65_c187 := Nat.ne_of_lt (Nat.lt_of_lt_of_le P182_6_t183.lt szq_b65_c187)
      have ne_b65_c183_b65_c187 : b65_c183 ≠ b65_c187 := Nat.ne_of_lt (Nat.lt_of_lt_of_le P183_0.lt szq_b65_c187)
      have N187 := Fr.app N186 Nq187
      have hk187 := Nat.le_trans hk183 Kq187.1
      have K187 : Keep h0 T187.heap [] := K183.trans Kq187 all0
      have Z187 : n0 ≤ T187.heap.size := Nat.le_trans Z183 Kq187.1
      have S_NONE_t187 := Jvm.OwnW.Sta.keepN S_NONE_t183 Kq187 all0
      have E_uNONE_t187 := E_uNONE_t183.keep Kq187
      have S_high_t187 := Jvm.OwnW.Sta.keepN S_high_t183 Kq187 all0
      have S_cache_t187 := Jvm.OwnW.Sta.keepN S_cache_t183 Kq187 all0
      have V_ucl_t187 := V_ucl_t183.keep Kq187 nin0
      have Ex177_t187 := Ex177_t183.keep Kq187
      have V_b177_t187 := V_b177_t183.keep Kq187 nin0
      have Ex180_t187 := Ex180_t183.keep Kq187
      have V_b180_t187 := V_b180_t183.keep Kq187 nin0
      have A181_t187 := A181_t183.keep Kq187
      have P182_1_t187 := P182_1_t183.keep Kq187 nin0
      have P182_2_t187 := P182_2_t183.keep Kq187 nin0
      have P182_3_t187 := P182_3_t183.keep Kq187
      have P182_4_t187 := P182_4_t183.keep Kq187 nin0
      have P182_5_t187 := P182_5_t183.keep Kq187 nin0
      have P182_6_t187 := P182_6_t183.keep Kq187 nin0
      have P182_7_t187 := P182_7_t183.keep Kq187
      have P182_8_t187 := P182_8_t183.keep Kq187 nin0
      have P183_0_t187 := P183_0.keep Kq187 nin0
      have P183_1_t187 := P183_1.keep Kq187
      have e187 : T187.heap = T187.heap := rfl
      refine Wq.steps st187 ?_
      show Wq _ _ _ _ _ (T187.setTop (mkF m 197 #[.val (.int xlaw_1), .val (.int xlaw_2), .val (.int xlaw_3), .val (.int xlaw_4), .val (.int xlaw_5), .val (.int (3 : Int32)), .val (.int (0 : Int32)), .val (.int v14), .val (.int v18), .val (.int v22), .val (.ref b177), .val (.ref b180), .val .null, .val (.ref o181), .val (.ref b65_c183), .unset] [(.ref b65_c187)]))
      refine Ow.astore X187 hx (pc' := 199) (hb hby at_197) rfl (l' := #[.val (.int xlaw_1), .val (.int xlaw_2), .val (.int xlaw_3), .val (.int xlaw_4), .val (.int xlaw_5), .val (.int (3 : Int32)), .val (.int (0 : Int32)), .val (.int v14), .val (.int v18), .val (.int v22), .val (.ref b177), .val (.ref b180), .val .null, .val (.ref o181), .val (.ref b65_c183), .val (.ref b65_c187)]) rfl ?_
      refine Ow.aload X187 hx (pc' := 201) (hb hby at_199) rfl rfl ?_
      refine Ow.ifnullNo X187 hx (pc' := 204) (hb hby at_201)  ?_
      refine Ow.aload X187 hx (pc' := 206) (hb hby at_204) rfl rfl ?_
      refine Ow.aload X187 hx (pc' := 208) (hb hby at_206) rfl rfl ?_
      refine Ow.acmp X187 hx (pc' := 211) (hb hby at_208) rfl rfl (same := false) (decide_eq_false fun q => (Ne.symm ne_b65_c183_b65_c187) (Value.ref.inj q)) (by decide) (by decide) ?_
      refine Ow.aload X187 hx (pc' := 213) (hb hby at_211) rfl rfl ?_
      refine Ow.aload X187 hx (pc' := 215) (hb hby at_213) rfl rfl ?_
      refine Ow.acmp X187 hx (pc' := 218) (hb hby at_215) rfl rfl (same := false) (decide_eq_false fun q => (Ne.symm ne_b180_b65_c187) (Value.ref.inj q)) (by decide) (by decide) ?_
      refine Ow.aload X187 hx (pc' := 220) (hb hby at_218) rfl rfl ?_
      refine Ow.iload X187 hx (pc' := 222) (hb hby at_220) rfl ?_
      refine Ow.iload X187 hx (pc' := 224) (hb hby at_222) rfl ?_
      refine Ow.iload X187 hx (pc' := 226) (hb hby at_224) rfl ?_
      refine Ow.iload X187 hx (pc' := 228) (hb hby at_226) rfl ?_
      obtain ⟨_, _, ⟨T188, L188, k188, n188⟩, -, X188, ⟨Lc188, hQ188, l188, y188, z188⟩, st188⟩ := Jvm.LawKit.callS X187 hx (y := mt6) hown182 (mvT hZ182 (kw56 hw)) (mvT hZ182 (kw57 hw)) (mvT hZ182 (kw58 hw)) (mvT hZ182 (kw59 hw)) (by decide) (backOf (W := 0) (rm_sm0 l Z a0 hw [] b65_c187 v14 v18 v22 T187.heap n0 Z187 P187_0) hZ182 (kw59 hw) (kw58 hw) (by decide) (by decide)) (g := (mkF m 228 #[.val (.int xlaw_1), .val (.int xlaw_2), .val (.int xlaw_3), .val (.int xlaw_4), .val (.int xlaw_5), .val (.int (3 : Int32)), .val (.int (0 : Int32)), .val (.int v14), .val (.int v18), .val (.int v22), .val (.ref b177), .val (.ref b180), .val .null, .val (.ref o181), .val (.ref b65_c183), .val (.ref b65_c187)] [(.int v22), (.int v18), (.int v14), (.int (0 : Int32)), (.ref b65_c187)])) rfl (by rw [hml]; rfl) (argsL := [(.ref b65_c187), (.int (0 : Int32)), (.int v14), (.int v18), (.int v22)]) (rest := []) (lenOf pd9 rfl) rfl (by show 2 * 0 + _ ≤ _; exact Nat.le_of_eq rfl) (hb hby at_228) (fun _ _ => ⟨rfl, e187, (by decide : 9 + 0 ≤ _), (by decide : 72 + 0 ≤ _)⟩)
      dsimp only [Pt.U, Pt.locs, Pt.cells, Pt.slots] at X188 l188 y188 z188 st188 hQ188
      subst l188 y188 z188
      obtain ⟨rfl, Nq188, e188⟩ := hQ188
      have N188 := Fr.app N187 Nq188
      refine Wq.step st188 ?_
      show Wq _ _ _ _ _ (T188.setTop (mkF m 231 #[.val (.int xlaw_1), .val (.int xlaw_2), .val (.int xlaw_3), .val (.int xlaw_4), .val (.int xlaw_5), .val (.int (3 : Int32)), .val (.int (0 : Int32)), .val (.int v14), .val (.int v18), .val (.int v22), .val (.ref b177), .val (.ref b180), .val .null, .val (.ref o181), .val (.ref b65_c183), .val (.ref b65_c187)] [(.int (1 : Int32))]))
      show Wq _ _ _ _ _ (T188.setTop (mkF m 231 #[.val (.int xlaw_1), .val (.int xlaw_2), .val (.int xlaw_3), .val (.int xlaw_4), .val (.int xlaw_5), .val (.int (3 : Int32)), .val (.int (0 : Int32)), .val (.int v14), .val (.int v18), .val (.int v22), .val (.ref b177), .val (.ref b180), .val .null, .val (.ref o181), .val (.ref b65_c183), .val (.ref b65_c187)] [(.int (1 : Int32))]))
      refine Ow.ifNo X188 hx (pc' := 234) (hb hby at_231) ((if0 _ _).trans (feq (by decide : ¬ ((1 : Int32) = (0 : Int32)))).1) ?_
      refine Ow.iconst X188 hx (pc' := 235) (hb hby at_234) (z := (1 : Int32)) rfl ?_
      refine Ow.goto X188 hx (pc' := 239) (hb hby at_235) (by decide) (by decide) ?_
      exact Wq.retW X188 hS182 (by rw [e188]; exact hk187) (BodyLoose.notSynchronized Bd) (rv := some (.int (1 : Int32))) (fun h => by rw [Bd.returns] at h; cases h) (fun _ hr => retN X188 hx (t := .boolean) Bd.returns (by simp) (hb hby at_239) hr) (by decide) (by decide) ⟨rfl, N188⟩
    · skip
      show Wq _ _ _ _ _ (T179.setTop (mkF m 48 #[.val (.int xlaw_1), .val (.int xlaw_2), .val (.int xlaw_3), .val (.int xlaw_4), .val (.int xlaw_5), .val (.int (3 : Int32)), .val (.int (1 : Int32)), .val (.int v14), .val (.int v18), .val (.int v22), .val (.ref b177), .val .null, .unset, .unset, .unset, .unset] []))
      refine Ow.iload X179 hx (pc' := 50) (hb hby at_48) rfl ?_
      obtain ⟨T189, h189, k189, X189, e189, E189, A189, Ex189, st189⟩ := newPE X179 hx hZ (aty := .byte) (kw0 hw) e179 (g := (mkF m 50 #[.val (.int xlaw_1), .val (.int xlaw_2), .val (.int xlaw_3), .val (.int xlaw_4), .val (.int xlaw_5), .val (.int (3 : Int32)), .val (.int (1 : Int32)), .val (.int v14), .val (.int v18), .val (.int v22), .val (.ref b177), .val .null, .unset, .unset, .unset, .unset] [(.int (1 : Int32))])) rfl (hb hby at_50) rfl (by decide) (cap := 1) (by decide) (by decide) (by decide) (by decide) (ad := "[B") (by decide)
      obtain ⟨b189, gz189⟩ : ∃ z, z = h179.size := ⟨_, rfl⟩
      rw [← gz189] at A189 Ex189 st189
      have g_b189 : n0 ≤ b189 := Nat.le_trans Z179 (Nat.le_of_eq gz189.symm)
      have sz_b189 : h0.size ≤ b189 := Nat.le_trans K179.1 (Nat.le_of_eq gz189.symm)
      have ne_uNONE_b189 : uNONE ≠ b189 := Nat.ne_of_lt (Nat.lt_of_lt_of_le E_uNONE_t179.lt (Nat.le_of_eq gz189.symm))
      have ne_ucl_b189 : ucl ≠ b189 := Nat.ne_of_lt (Nat.lt_of_lt_of_le V_ucl_t179.lt (Nat.le_of_eq gz189.symm))
      have ne_b177_b189 : b177 ≠ b189 := Nat.ne_of_lt (Nat.lt_of_lt_of_le Ex177_t179.lt (Nat.le_of_eq gz189.symm))
      have K189 : Keep h0 h189 [] := K179.ext E189
      have Z189 : n0 ≤ h189.size := Nat.le_trans Z179 E189.1
      have hk189 := Nat.le_trans hk179 E189.1
      have S_NONE_t189 := S_NONE_t179.ext E189
      have E_uNONE_t189 := E_uNONE_t179.ext E189
      have S_high_t189 := S_high_t179.ext E189
      have S_cache_t189 := S_cache_t179.ext E189
      have V_ucl_t189 := V_ucl_t179.ext E189
      have Ex177_t189 := Ex177_t179.ext E189
      have V_b177_t189 := V_b177_t179.ext E189
      have V_b189 : Al Z h189 b189 .byte [(.int (0 : Int32))] := Al.new A189 (k := 1) (rfl) rfl
      refine Wq.step st189 ?_
      show Wq _ _ _ _ _ (T189.setTop (mkF m 52 #[.val (.int xlaw_1), .val (.int xlaw_2), .val (.int xlaw_3), .val (.int xlaw_4), .val (.int xlaw_5), .val (.int (3 : Int32)), .val (.int (1 : Int32)), .val (.int v14), .val (.int v18), .val (.int v22), .val (.ref b177), .val .null, .unset, .unset, .unset, .unset] [(.ref b189)]))
      refine Ow.astore X189 hx (pc' := 54) (hb hby at_52) rfl (l' := #[.val (.int xlaw_1), .val (.int xlaw_2), .val (.int xlaw_3), .val (.int xlaw_4), .val (.int xlaw_5), .val (.int (3 : Int32)), .val (.int (1 : Int32)), .val (.int v14), .val (.int v18), .val (.int v22), .val (.ref b177), .val (.ref b189), .unset, .unset, .unset, .unset]) rfl ?_
      refine Ow.iload X189 hx (pc' := 56) (hb hby at_54) rfl ?_
      refine Ow.ifNo X189 hx (pc' := 59) (hb hby at_56) ((if0 _ _).trans (tlt (by decide : (0 : Int32) < (1 : Int32))).2.2.2) ?_
      refine Ow.aload X189 hx (pc' := 61) (hb hby at_59) rfl rfl ?_
      refine Ow.iconst X189 hx (pc' := 62) (hb hby at_61) (z := (0 : Int32)) rfl ?_
      refine Ow.iload X189 hx (pc' := 64) (hb hby at_62) rfl ?_
      obtain ⟨T190, h190, X190, e190, W190, Vr190, st190⟩ := asB X189 hx hZ e189 V_b189 (j := (0 : Int32)) (i := 0) (by decide) rfl (Nat.le_of_ble_eq_true rfl) (y := v14) (own_nar hv14) (g := (mkF m 64 #[.val (.int xlaw_1), .val (.int xlaw_2), .val (.int xlaw_3), .val (.int xlaw_4), .val (.int xlaw_5), .val (.int (3 : Int32)), .val (.int (1 : Int32)), .val (.int v14), .val (.int v18), .val (.int v22), .val (.ref b177), .val (.ref b189), .unset, .unset, .unset, .unset] [(.int v14), (.int (0 : Int32)), (.ref b189)])) rfl rfl (hb hby at_64)
      refine Wq.step st190 ?_
      have N190 := Fr.snoc X190 N179 g_b189
      have K190 : Keep h0 h190 [] := K189.wr W190 (Or.inr sz_b189)
      have Z190 : n0 ≤ h190.size := Nat.le_trans Z189 (Keep.of_wr W190).1
      have hk190 := Nat.le_trans hk189 (Keep.of_wr W190).1
      have S_NONE_t190 := S_NONE_t189.wr W190
      have E_uNONE_t190 := E_uNONE_t189.wr W190
      have S_high_t190 := S_high_t189.wr W190
      have S_cache_t190 := S_cache_t189.wr W190
      have V_ucl_t190 := V_ucl_t189.other W190 ne_ucl_b189
      have Ex177_t190 := Ex177_t189.wr W190
      have V_b177_t190 := V_b177_t189.other W190 ne_b177_b189
      have Ex189_t190 := Ex189.wr W190
      have V_b189_t190 : Al Z h190 b189 .byte [(.int v14)] := Vr190
      show Wq _ _ _ _ _ (T190.setTop (mkF m 65 #[.val (.int xlaw_1), .val (.int xlaw_2), .val (.int xlaw_3), .val (.int xlaw_4), .val (.int xlaw_5), .val (.int (3 : Int32)), .val (.int (1 : Int32)), .val (.int v14), .val (.int v18), .val (.int v22), .val (.ref b177), .val (.ref b189), .unset, .unset, .unset, .unset] []))
      refine Ow.iload X190 hx (pc' := 67) (hb hby at_65) rfl ?_
      refine Ow.iconst X190 hx (pc' := 68) (hb hby at_67) (z := (1 : Int32)) rfl ?_
      refine Ow.icmpYes X190 hx (pc' := 77) (hb hby at_68) (flt (by decide : ¬ ((1 : Int32) < (1 : Int32)))).2.2.2 (by decide) (by decide) ?_
      refine Ow.iload X190 hx (pc' := 79) (hb hby at_77) rfl ?_
      refine Ow.iconst X190 hx (pc' := 80) (hb hby at_79) (z := (2 : Int32)) rfl ?_
      refine Ow.icmpYes X190 hx (pc' := 89) (hb hby at_80) (flt (by decide : ¬ ((2 : Int32) < (1 : Int32)))).2.2.2 (by decide) (by decide) ?_
      refine Ow.iload X190 hx (pc' := 91) (hb hby at_89) rfl ?_
      refine Ow.iconst X190 hx (pc' := 92) (hb hby at_91) (z := (1 : Int32)) rfl ?_
      refine Ow.icmpYes X190 hx (pc' := 103) (hb hby at_92) (feq (by decide : ¬ ((3 : Int32) = (1 : Int32)))).2 (by decide) (by decide) ?_
      refine Ow.aconstNull X190 hx (pc' := 104) (hb hby at_103)  ?_
      refine Ow.astore X190 hx (pc' := 106) (hb hby at_104) rfl (l' := #[.val (.int xlaw_1), .val (.int xlaw_2), .val (.int xlaw_3), .val (.int xlaw_4), .val (.int xlaw_5), .val (.int (3 : Int32)), .val (.int (1 : Int32)), .val (.int v14), .val (.int v18), .val (.int v22), .val (.ref b177), .val (.ref b189), .val .null, .unset, .unset, .unset]) rfl ?_
      obtain ⟨T191, h191, X191, e191, E191, A191, D191, -, st191⟩ := newO X190 hx hZ hown (kw1 hw) (kw2 hw) (kw3 hw) e190 (g := (mkF m 106 #[.val (.int xlaw_1), .val (.int xlaw_2), .val (.int xlaw_3), .val (.int xlaw_4), .val (.int xlaw_5), .val (.int (3 : Int32)), .val (.int (1 : Int32)), .val (.int v14), .val (.int v18), .val (.int v22), .val (.ref b177), .val (.ref b189), .val .null, .unset, .unset, .unset] [])) rfl (hb hby at_106) (by decide) (by decide)
      obtain ⟨o191, gz191⟩ : ∃ z, z = h190.size := ⟨_, rfl⟩
      rw [← gz191] at A191 D191 st191
      have g_o191 : n0 ≤ o191 := Nat.le_trans Z190 (Nat.le_of_eq gz191.symm)
      have sz_o191 : h0.size ≤ o191 := Nat.le_trans K190.1 (Nat.le_of_eq gz191.symm)
      have ne_uNONE_o191 : uNONE ≠ o191 := Nat.ne_of_lt (Nat.lt_of_lt_of_le E_uNONE_t190.lt (Nat.le_of_eq gz191.symm))
      have ne_ucl_o191 : ucl ≠ o191 := Nat.ne_of_lt (Nat.lt_of_lt_of_le V_ucl_t190.lt (Nat.le_of_eq gz191.symm))
      have ne_b177_o191 : b177 ≠ o191 := Nat.ne_of_lt (Nat.lt_of_lt_of_le Ex177_t190.lt (Nat.le_of_eq gz191.symm))
      have ne_b189_o191 : b189 ≠ o191 := Nat.ne_of_lt (Nat.lt_of_lt_of_le Ex189_t190.lt (Nat.le_of_eq gz191.symm))
      have K191 : Keep h0 h191 [] := K190.ext E191
      have Z191 : n0 ≤ h191.size := Nat.le_trans Z190 E191.1
      have hk191 := Nat.le_trans hk190 E191.1
      have S_NONE_t191 := S_NONE_t190.ext E191
      have E_uNONE_t191 := E_uNONE_t190.ext E191
      have S_high_t191 := S_high_t190.ext E191
      have S_cache_t191 := S_cache_t190.ext E191
      have V_ucl_t191 := V_ucl_t190.ext E191
      have Ex177_t191 := Ex177_t190.ext E191
      have V_b177_t191 := V_b177_t190.ext E191
      have Ex189_t191 := Ex189_t190.ext E191
      have V_b189_t191 := V_b189_t190.ext E191
      refine Wq.step st191 ?_
      have F_o191_unknownElements : Fld Z h191 o191 "com/example/opwire/opwire/codec/tcap/TcapMessage" "unknownElements" "Lcom/example/opwire/opwire/codec/ber/UnknownElements;" .null := D191 (Or.inr (kw35 hw)) (ty := (.object "com/example/opwire/opwire/codec/ber/UnknownElements")) (by decide)
      have F_o191_destinationTransactionId : Fld Z h191 o191 "com/example/opwire/opwire/codec/tcap/Abort" "destinationTransactionId" "[B" .null := D191 (Or.inr (kw46 hw)) (ty := (.array .byte)) (by decide)
      have F_o191_pAbortCause : Fld Z h191 o191 "com/example/opwire/opwire/codec/tcap/Abort" "pAbortCause" "Ljava/lang/Integer;" .null := D191 (Or.inr (kw48 hw)) (ty := (.object "java/lang/Integer")) (by decide)
      have F_o191_userAbortInformation : Fld Z h191 o191 "com/example/opwire/opwire/codec/tcap/Abort" "userAbortInformation" "[B" .null := D191 (Or.inr (kw50 hw)) (ty := (.array .byte)) (by decide)
      show Wq _ _ _ _ _ (T191.setTop (mkF m 109 #[.val (.int xlaw_1), .val (.int xlaw_2), .val (.int xlaw_3), .val (.int xlaw_4), .val (.int xlaw_5), .val (.int (3 : Int32)), .val (.int (1 : Int32)), .val (.int v14), .val (.int v18), .val (.int v22), .val (.ref b177), .val (.ref b189), .val .null, .unset, .unset, .unset] [(.ref o191)]))
      refine Ow.dup X191 hx (pc' := 110) (hb hby at_109) rfl ?_
      refine Ow.aload X191 hx (pc' := 112) (hb hby at_110) rfl rfl ?_
      refine Ow.aload X191 hx (pc' := 114) (hb hby at_112) rfl rfl ?_
      refine Ow.aload X191 hx (pc' := 116) (hb hby at_114) rfl rfl ?_
      obtain ⟨_, _, ⟨T192, L192, k192, n192⟩, -, Xr192, hSr192, hgr192, ⟨Lc192, hQ192, l192, y192, z192⟩, st192⟩ := X191.specialBackS hx (y := mt4) rfl hown (mvT hZ (kw4 hw)) (mvT hZ (kw5 hw)) (mvT hZ (kw6 hw)) (by decide) (backOfS (W := 1) (rm_a1 l Z a0 hw [] o191 b177 b189 v22 v14 v14 uNONE h191 n0 Z191 A191 F_o191_unknownElements F_o191_destinationTransactionId F_o191_pAbortCause F_o191_userAbortInformation g_o191 V_b177_t191 Ex177_t191 ne_b177_o191 (own_fc (own_fb hv22) (own_fc (own_fb hv14) own_f0)) V_b189_t191 Ex189_t191 ne_b189_o191 ((own_fc (own_fb hv14) own_f0)) S_NONE_t191 E_uNONE_t191) hZ (kw6 hw) (kw3 hw) (by decide) (by decide)) (g := (mkF m 116 #[.val (.int xlaw_1), .val (.int xlaw_2), .val (.int xlaw_3), .val (.int xlaw_4), .val (.int xlaw_5), .val (.int (3 : Int32)), .val (.int (1 : Int32)), .val (.int v14), .val (.int v18), .val (.int v22), .val (.ref b177), .val (.ref b189), .val .null, .unset, .unset, .unset] [(.ref b189), .null, (.ref b177), (.ref o191), (.ref o191)])) rfl (by rw [hml]; rfl) (Steps.refl _) (a := o191) (argsL := [(.ref b177), .null, (.ref b189)]) (rest := [(.ref o191)]) (lenOf pd6 rfl) rfl (by show 2 * 0 + _ ≤ _; exact Nat.le_of_eq rfl) (hb hby at_116) (fun _ _ => ⟨rfl, e191, (by decide : 3 + 4 ≤ _), (by decide : 7 + 67 ≤ _)⟩)
      dsimp only [Pt.U, Pt.locs, Pt.cells, Pt.slots] at Xr192 hSr192 hgr192 l192 y192 z192 st192 hQ192
      subst l192 y192 z192
      obtain ⟨X192, hS192, hZ192, hown192⟩ := rebS hS0 (by rw [e191]; exact hk191) Xr192 hSr192 hgr192 hZ hown
      have hk192 := Nat.le_refl T192.heap.size
      obtain ⟨b33_c41_c192, b37_c41_c192, rfl, Nq192, Kq192, szq_b33_c41_c192, szq_b37_c41_c192, ne_b33_c41_c192_b37_c41_c192, P192_0, P192_1, P192_2, P192_3, P192_4, P192_5, P192_6, P192_7, P192_8⟩ := hQ192
      have g_b33_c41_c192 : n0 ≤ b33_c41_c192 := Nat.le_trans Z191 szq_b33_c41_c192
      have sz_b33_c41_c192 : h0.size ≤ b33_c41_c192 := Nat.le_trans K191.1 szq_b33_c41_c192
      have ne_uNONE_b33_c41_c192 : uNONE ≠ b33_c41_c192 := Nat.ne_of_lt (Nat.lt_of_lt_of_le E_uNONE_t191.lt szq_b33_c41_c192)
      have ne_ucl_b33_c41_c192 : ucl ≠ b33_c41_c192 := Nat.ne_of_lt (Nat.lt_of_lt_of_le V_ucl_t191.lt szq_b33_c41_c192)
      have ne_b177_b33_c41_c192 : b177 ≠ b33_c41_c192 := Nat.ne_of_lt (Nat.lt_of_lt_of_le Ex177_t191.lt szq_b33_c41_c192)
      have ne_b189_b33_c41_c192 : b189 ≠ b33_c41_c192 := Nat.ne_of_lt (Nat.lt_of_lt_of_le Ex189_t191.lt szq_b33_c41_c192)
      have ne_o191_b33_c41_c192 : o191 ≠ b33_c41_c192 := Nat.ne_of_lt (Nat.lt_of_lt_of_le A191.lt szq_b33_c41_c192)
      have g_b37_c41_c192 : n0 ≤ b37_c41_c192 := Nat.le_trans Z191 szq_b37_c41_c192
      have sz_b37_c41_c192 : h0.size ≤ b37_c41_c192 := Nat.le_trans K191.1 szq_b37_c41_c192
      have ne_uNONE_b37_c41_c192 : uNONE ≠ b37_c41_c192 := Nat.ne_of_lt (Nat.lt_of_lt_of_le E_uNONE_t191.lt szq_b37_c41_c192)
      have ne_ucl_b37_c41_c192 : ucl ≠ b37_c41_c192 := Nat.ne_of_lt (Nat.lt_of_lt_of_le V_ucl_t191.lt szq_b37_c41_c192)
      have ne_b177_b37_c41_c192 : b177 ≠ b37_c41_c192 := Nat.ne_of_lt (Nat.lt_of_lt_of_le Ex177_t191.lt szq_b37_c41_c192)
      have ne_b189_b37_c41_c192 : b189 ≠ b37_c41_c192 := Nat.ne_of_lt (Nat.lt_of_lt_of_le Ex189_t191.lt szq_b37_c41_c192)
      have ne_o191_b37_c41_c192 : o191 ≠ b37_c41_c192 := Nat.ne_of_lt (Nat.lt_of_lt_of_le A191.lt szq_b37_c41_c192)
      have N192 := Fr.app N190 Nq192
      have K192 : Keep h0 T192.heap [] := K191.trans Kq192 (allS (P := fun x => x ∈ [] ∨ h0.size ≤ x) (Or.inr sz_o191) all0)
      have Z192 : n0 ≤ T192.heap.size := Nat.le_trans Z191 Kq192.1
      have S_NONE_t192 := Jvm.OwnW.Sta.keepN S_NONE_t191 Kq192 (allS (P := fun w => ∀ cell : Cell, h191[w]? = some cell → cell.vm.isStatics = false) (Jvm.OwnW.Exa.ns A191) all0)
      have E_uNONE_t192 := E_uNONE_t191.keep Kq192
      have S_high_t192 := Jvm.OwnW.Sta.keepN S_high_t191 Kq192 (allS (P := fun w => ∀ cell : Cell, h191[w]? = some cell → cell.vm.isStatics = false) (Jvm.OwnW.Exa.ns A191) all0)
      have S_cache_t192 := Jvm.OwnW.Sta.keepN S_cache_t191 Kq192 (allS (P := fun w => ∀ cell : Cell, h191[w]? = some cell → cell.vm.isStatics = false) (Jvm.OwnW.Exa.ns A191) all0)
      have V_ucl_t192 := V_ucl_t191.keep Kq192 (ninS ne_ucl_o191 nin0)
      have Ex177_t192 := Ex177_t191.keep Kq192
      have V_b177_t192 := V_b177_t191.keep Kq192 (ninS ne_b177_o191 nin0)
      have Ex189_t192 := Ex189_t191.keep Kq192
      have V_b189_t192 := V_b189_t191.keep Kq192 (ninS ne_b189_o191 nin0)
      have A191_t192 := A191.keep Kq192
      have e192 : T192.heap = T192.heap := rfl
      refine Wq.steps st192 ?_
      show Wq _ _ _ _ _ (T192.setTop (mkF m 119 #[.val (.int xlaw_1), .val (.int xlaw_2), .val (.int xlaw_3), .val (.int xlaw_4), .val (.int xlaw_5), .val (.int (3 : Int32)), .val (.int (1 : Int32)), .val (.int v14), .val (.int v18), .val (.int v22), .val (.ref b177), .val (.ref b189), .val .null, .unset, .unset, .unset] [(.ref o191)]))
      refine Ow.astore X192 hx (pc' := 121) (hb hby at_119) rfl (l' := #[.val (.int xlaw_1), .val (.int xlaw_2), .val (.int xlaw_3), .val (.int xlaw_4), .val (.int xlaw_5), .val (.int (3 : Int32)), .val (.int (1 : Int32)), .val (.int v14), .val (.int v18), .val (.int v22), .val (.ref b177), .val (.ref b189), .val .null, .val (.ref o191), .unset, .unset]) rfl ?_
      refine Ow.aload X192 hx (pc' := 123) (hb hby at_121) rfl rfl ?_
      obtain ⟨cq193, kq193, q193a, q193b, q193c⟩ := isOf hZ192 e192 A191_t192
      obtain ⟨_, _, ⟨T193, L193, k193, n193⟩, -, X193, ⟨Lc193, hQ193, l193, y193, z193⟩, st193⟩ := X192.virtualBack hx (y := mt5) (z := mt5) hown192 (mvT hZ192 (kw51 hw)) (mvT hZ192 (kw52 hw)) (notFace_of_selects (args := #[]) (mvT hZ192 (kw54 hw))) (mvT hZ192 (kw54 hw)) (mvT hZ192 (kw53 hw)) (by decide) (backOf (W := 0) (rm_ui1 l Z a0 hw [] o191 b37_c41_c192 v14 T192.heap n0 Z192 P192_8 P192_6 P192_7 ((own_fc (own_fb hv14) own_f0))) hZ192 (kw55 hw) (kw3 hw) (by decide) (by decide)) q193a q193c (g := (mkF m 123 #[.val (.int xlaw_1), .val (.int xlaw_2), .val (.int xlaw_3), .val (.int xlaw_4), .val (.int xlaw_5), .val (.int (3 : Int32)), .val (.int (1 : Int32)), .val (.int v14), .val (.int v18), .val (.int v22), .val (.ref b177), .val (.ref b189), .val .null, .val (.ref o191), .unset, .unset] [(.ref o191)])) rfl (by rw [hml]; rfl) (Steps.refl _) (argsL := []) (rest := []) (lenOf pd7 rfl) rfl (by show 2 * 0 + _ ≤ _; exact Nat.le_of_eq rfl) (hb hby at_123) (fun _ _ => ⟨rfl, e192, (by decide : 7 + 1 ≤ _), (by decide : 74 + 1 ≤ _)⟩)
      dsimp only [Pt.U, Pt.locs, Pt.cells, Pt.slots] at X193 l193 y193 z193 st193 hQ193
      subst l193 y193 z193
      obtain ⟨b69_c193, rfl, Nq193, Kq193, szq_b69_c193, P193_0, P193_1⟩ := hQ193
      have g_b69_c193 : n0 ≤ b69_c193 := Nat.le_trans Z192 szq_b69_c193
      have sz_b69_c193 : h0.size ≤ b69_c193 := Nat.le_trans K192.1 szq_b69_c193
      have ne_uNONE_b69_c193 : uNONE ≠ b69_c193 := Nat.ne_of_lt (Nat.lt_of_lt_of_le E_uNONE_t192.lt szq_b69_c193)
      have ne_ucl_b69_c193 : ucl ≠ b69_c193 := Nat.ne_of_lt (Nat.lt_of_lt_of_le V_ucl_t192.lt szq_b69_c193)
      have ne_b177_b69_c193 : b177 ≠ b69_c193 := Nat.ne_of_lt (Nat.lt_of_lt_of_le Ex177_t192.lt szq_b69_c193)
      have ne_b189_b69_c193 : b189 ≠ b69_c193 := Nat.ne_of_lt (Nat.lt_of_lt_of_le Ex189_t192.lt szq_b69_c193)
      have ne_o191_b69_c193 : o191 ≠ b69_c193 := Nat.ne_of_lt (Nat.lt_of_lt_of_le A191_t192.lt szq_b69_c193)
      have ne_b33_c41_c192_b69_c193 : b33_c41_c192 ≠ b69_c193 := Nat.ne_of_lt (Nat.lt_of_lt_of_le P192_2.lt szq_b69_c193)
      have ne_b37_c41_c192_b69_c193 : b37_c41_c192 ≠ b69_c193 := Nat.ne_of_lt (Nat.lt_of_lt_of_le P192_6.lt szq_b69_c193)
      have N193 := Fr.app N192 Nq193
      have hk193 := Nat.le_trans hk192 Kq193.1
      have K193 : Keep h0 T193.heap [] := K192.trans Kq193 all0
      have Z193 : n0 ≤ T193.heap.size := Nat.le_trans Z192 Kq193.1
      have S_NONE_t193 := Jvm.OwnW.Sta.keepN S_NONE_t192 Kq193 all0
      have E_uNONE_t193 := E_uNONE_t192.keep Kq193
      have S_high_t193 := Jvm.OwnW.Sta.keepN S_high_t192 Kq193 all0
      have S_cache_t193 := Jvm.OwnW.Sta.keepN S_cache_t192 Kq193 all0
      have V_ucl_t193 := V_ucl_t192.keep Kq193 nin0
      have Ex177_t193 := Ex177_t192.keep Kq193
      have V_b177_t193 := V_b177_t192.keep Kq193 nin0
      have Ex189_t193 := Ex189_t192.keep Kq193
      have V_b189_t193 := V_b189_t192.keep Kq193 nin0
      have A191_t193 := A191_t192.keep Kq193
      have P192_1_t193 := P192_1.keep Kq193 nin0
      have P192_2_t193 := P192_2.keep Kq193 nin0
      have P192_3_t193 := P192_3.keep Kq193
      have P192_4_t193 := P192_4.keep Kq193 nin0
      have P192_5_t193 := P192_5.keep Kq193 nin0
      have P192_6_t193 := P192_6.keep Kq193 nin0
      have P192_7_t193 := P192_7.keep Kq193
      have P192_8_t193 := P192_8.keep Kq193 nin0
      have e193 : T193.heap = T193.heap := rfl
      refine Wq.steps st193 ?_
      show Wq _ _ _ _ _ (T193.setTop (mkF m 126 #[.val (.int xlaw_1), .val (.int xlaw_2), .val (.int xlaw_3), .val (.int xlaw_4), .val (.int xlaw_5), .val (.int (3 : Int32)), .val (.int (1 : Int32)), .val (.int v14), .val (.int v18), .val (.int v22), .val (.ref b177), .val (.ref b189), .val .null, .val (.ref o191), .unset, .unset] [(.ref b69_c193)]))
      refine Ow.astore X193 hx (pc' := 128) (hb hby at_126) rfl (l' := #[.val (.int xlaw_1), .val (.int xlaw_2), .val (.int xlaw_3), .val (.int xlaw_4), .val (.int xlaw_5), .val (.int (3 : Int32)), .val (.int (1 : Int32)), .val (.int v14), .val (.int v18), .val (.int v22), .val (.ref b177), .val (.ref b189), .val .null, .val (.ref o191), .val (.ref b69_c193), .unset]) rfl ?_
      refine Ow.aload X193 hx (pc' := 130) (hb hby at_128) rfl rfl ?_
      refine Ow.ifnonnullYes X193 hx (pc' := 152) (hb hby at_130) (by decide) (by decide) ?_
      refine Ow.aload X193 hx (pc' := 154) (hb hby at_152) rfl rfl ?_
      refine Ow.ifnullNo X193 hx (pc' := 157) (hb hby at_154)  ?_
      refine Ow.aload X193 hx (pc' := 159) (hb hby at_157) rfl rfl ?_
      refine Ow.aload X193 hx (pc' := 161) (hb hby at_159) rfl rfl ?_
      refine Ow.acmp X193 hx (pc' := 164) (hb hby at_161) rfl rfl (same := false) (decide_eq_false fun q => (Ne.symm ne_b189_b69_c193) (Value.ref.inj q)) (by decide) (by decide) ?_
      refine Ow.aload X193 hx (pc' := 166) (hb hby at_164) rfl rfl ?_
      refine Ow.iload X193 hx (pc' := 168) (hb hby at_166) rfl ?_
      refine Ow.iload X193 hx (pc' := 170) (hb hby at_168) rfl ?_
      refine Ow.iload X193 hx (pc' := 172) (hb hby at_170) rfl ?_
      refine Ow.iload X193 hx (pc' := 174) (hb hby at_172) rfl ?_
      obtain ⟨_, _, ⟨T194, L194, k194, n194⟩, -, X194, ⟨Lc194, hQ194, l194, y194, z194⟩, st194⟩ := Jvm.LawKit.callS X193 hx (y := mt6) hown192 (mvT hZ192 (kw56 hw)) (mvT hZ192 (kw57 hw)) (mvT hZ192 (kw58 hw)) (mvT hZ192 (kw59 hw)) (by decide) (backOf (W := 0) (rm_sm1 l Z a0 hw [] b69_c193 v14 v18 v22 v14 T193.heap n0 Z193 P193_0) hZ192 (kw59 hw) (kw58 hw) (by decide) (by decide)) (g := (mkF m 174 #[.val (.int xlaw_1), .val (.int xlaw_2), .val (.int xlaw_3), .val (.int xlaw_4), .val (.int xlaw_5), .val (.int (3 : Int32)), .val (.int (1 : Int32)), .val (.int v14), .val (.int v18), .val (.int v22), .val (.ref b177), .val (.ref b189), .val .null, .val (.ref o191), .val (.ref b69_c193), .unset] [(.int v22), (.int v18), (.int v14), (.int (1 : Int32)), (.ref b69_c193)])) rfl (by rw [hml]; rfl) (argsL := [(.ref b69_c193), (.int (1 : Int32)), (.int v14), (.int v18), (.int v22)]) (rest := []) (lenOf pd9 rfl) rfl (by show 2 * 0 + _ ≤ _; exact Nat.le_of_eq rfl) (hb hby at_174) (fun _ _ => ⟨rfl, e193, (by decide : 8 + 0 ≤ _), (by decide : 75 + 0 ≤ _)⟩)
      dsimp only [Pt.U, Pt.locs, Pt.cells, Pt.slots] at X194 l194 y194 z194 st194 hQ194
      subst l194 y194 z194
      obtain ⟨rfl, Nq194, e194⟩ := hQ194
      have N194 := Fr.app N193 Nq194
      refine Wq.step st194 ?_
      show Wq _ _ _ _ _ (T194.setTop (mkF m 177 #[.val (.int xlaw_1), .val (.int xlaw_2), .val (.int xlaw_3), .val (.int xlaw_4), .val (.int xlaw_5), .val (.int (3 : Int32)), .val (.int (1 : Int32)), .val (.int v14), .val (.int v18), .val (.int v22), .val (.ref b177), .val (.ref b189), .val .null, .val (.ref o191), .val (.ref b69_c193), .unset] [(.int (f_sm1 v14 v18 v22 v14))]))
      generalize hv174 : (f_sm1 v14 v18 v22 v14) = v174
      show Wq _ _ _ _ _ (T194.setTop (mkF m 177 #[.val (.int xlaw_1), .val (.int xlaw_2), .val (.int xlaw_3), .val (.int xlaw_4), .val (.int xlaw_5), .val (.int (3 : Int32)), .val (.int (1 : Int32)), .val (.int v14), .val (.int v18), .val (.int v22), .val (.ref b177), .val (.ref b189), .val .null, .val (.ref o191), .val (.ref b69_c193), .unset] [(.int v174)]))
      refine Ow.ifYes X194 hx (pc' := 182) (hb hby at_177) ((if0 _ _).trans (feq (by subst hv174; simp [f_sm1] : ¬ (v174 = (0 : Int32)))).2) (by decide) (by decide) ?_
      refine Ow.aload X194 hx (pc' := 184) (hb hby at_182) rfl rfl ?_
      obtain ⟨_, _, ⟨T195, L195, k195, n195⟩, -, X195, ⟨Lc195, hQ195, l195, y195, z195⟩, st195⟩ := Jvm.LawKit.callS X194 hx (y := mt7) hown192 (mvT hZ192 (kw60 hw)) (mvT hZ192 (kw61 hw)) (mvT hZ192 (kw58 hw)) (mvT hZ192 (kw62 hw)) (by decide) (backOf (W := 0) (rm_fl1 l Z a0 hw [] b189 v14 T193.heap n0 Z193 V_b189_t193 g_b189) hZ192 (kw62 hw) (kw58 hw) (by decide) (by decide)) (g := (mkF m 184 #[.val (.int xlaw_1), .val (.int xlaw_2), .val (.int xlaw_3), .val (.int xlaw_4), .val (.int xlaw_5), .val (.int (3 : Int32)), .val (.int (1 : Int32)), .val (.int v14), .val (.int v18), .val (.int v22), .val (.ref b177), .val (.ref b189), .val .null, .val (.ref o191), .val (.ref b69_c193), .unset] [(.ref b189)])) rfl (by rw [hml]; rfl) (argsL := [(.ref b189)]) (rest := []) (lenOf pd10 rfl) rfl (by show 2 * 0 + _ ≤ _; exact Nat.le_of_eq rfl) (hb hby at_184) (fun _ _ => ⟨rfl, e194, (by decide : 8 + 0 ≤ _), (by decide : 75 + 0 ≤ _)⟩)
      dsimp only [Pt.U, Pt.locs, Pt.cells, Pt.slots] at X195 l195 y195 z195 st195 hQ195
      subst l195 y195 z195
      obtain ⟨rfl, Nq195, Kq195, P195_0⟩ := hQ195
      have N195 := Fr.app N194 Nq195
      have hk195 := Nat.le_trans hk193 Kq195.1
      have K195 : Keep h0 T195.heap [] := K193.trans Kq195 (allS (P := fun x => x ∈ [] ∨ h0.size ≤ x) (Or.inr sz_b189) all0)
      have Z195 : n0 ≤ T195.heap.size := Nat.le_trans Z193 Kq195.1
      have S_NONE_t195 := Jvm.OwnW.Sta.keepN S_NONE_t193 Kq195 (allS (P := fun w => ∀ cell : Cell, T193.heap[w]? = some cell → cell.vm.isStatics = false) (Jvm.OwnW.Exa.ns Ex189_t193) all0)
      have E_uNONE_t195 := E_uNONE_t193.keep Kq195
      have S_high_t195 := Jvm.OwnW.Sta.keepN S_high_t193 Kq195 (allS (P := fun w => ∀ cell : Cell, T193.heap[w]? = some cell → cell.vm.isStatics = false) (Jvm.OwnW.Exa.ns Ex189_t193) all0)
      have S_cache_t195 := Jvm.OwnW.Sta.keepN S_cache_t193 Kq195 (allS (P := fun w => ∀ cell : Cell, T193.heap[w]? = some cell → cell.vm.isStatics = false) (Jvm.OwnW.Exa.ns Ex189_t193) all0)
      have V_ucl_t195 := V_ucl_t193.keep Kq195 (ninS ne_ucl_b189 nin0)
      have Ex177_t195 := Ex177_t193.keep Kq195
      have V_b177_t195 := V_b177_t193.keep Kq195 (ninS ne_b177_b189 nin0)
      have Ex189_t195 := Ex189_t193.keep Kq195
      have A191_t195 := A191_t193.keep Kq195
      have P192_1_t195 := P192_1_t193.keep Kq195 (ninS (Ne.symm ne_b189_o191) nin0)
      have P192_2_t195 := P192_2_t193.keep Kq195 (ninS (Ne.symm ne_b189_b33_c41_c192) nin0)
      have P192_3_t195 := P192_3_t193.keep Kq195
      have P192_4_t195 := P192_4_t193.keep Kq195 (ninS (Ne.symm ne_b189_o191) nin0)
      have P192_5_t195 := P192_5_t193.keep Kq195 (ninS (Ne.symm ne_b189_o191) nin0)
      have P192_6_t195 := P192_6_t193.keep Kq195 (ninS (Ne.symm ne_b189_b37_c41_c192) nin0)
      have P192_7_t195 := P192_7_t193.keep Kq195
      have P192_8_t195 := P192_8_t193.keep Kq195 (ninS (Ne.symm ne_b189_o191) nin0)
      have P193_0_t195 := P193_0.keep Kq195 (ninS (Ne.symm ne_b189_b69_c193) nin0)
      have P193_1_t195 := P193_1.keep Kq195
      have e195 : T195.heap = T195.heap := rfl
      obtain ⟨q196, hq196⟩ : ∃ z : Int32, z = (((v14 ^^^ (-1 : Int32)).toInt8.toInt32).toInt8.toInt32) := ⟨_, rfl⟩
      rw [← hq196] at P195_0
      refine Wq.step st195 ?_
      show Wq _ _ _ _ _ (T195.setTop (mkF m 187 #[.val (.int xlaw_1), .val (.int xlaw_2), .val (.int xlaw_3), .val (.int xlaw_4), .val (.int xlaw_5), .val (.int (3 : Int32)), .val (.int (1 : Int32)), .val (.int v14), .val (.int v18), .val (.int v22), .val (.ref b177), .val (.ref b189), .val .null, .val (.ref o191), .val (.ref b69_c193), .unset] []))
      refine Ow.aload X195 hx (pc' := 189) (hb hby at_187) rfl rfl ?_
      obtain ⟨_, _, ⟨T197, L197, k197, n197⟩, -, X197, ⟨Lc197, hQ197, l197, y197, z197⟩, st197⟩ := Jvm.LawKit.callS X195 hx (y := mt7) hown192 (mvT hZ192 (kw60 hw)) (mvT hZ192 (kw61 hw)) (mvT hZ192 (kw58 hw)) (mvT hZ192 (kw62 hw)) (by decide) (backOf (W := 0) (rm_fl1 l Z a0 hw [] b69_c193 v14 T195.heap n0 Z195 P193_0_t195 g_b69_c193) hZ192 (kw62 hw) (kw58 hw) (by decide) (by decide)) (g := (mkF m 189 #[.val (.int xlaw_1), .val (.int xlaw_2), .val (.int xlaw_3), .val (.int xlaw_4), .val (.int xlaw_5), .val (.int (3 : Int32)), .val (.int (1 : Int32)), .val (.int v14), .val (.int v18), .val (.int v22), .val (.ref b177), .val (.ref b189), .val .null, .val (.ref o191), .val (.ref b69_c193), .unset] [(.ref b69_c193)])) rfl (by rw [hml]; rfl) (argsL := [(.ref b69_c193)]) (rest := []) (lenOf pd10 rfl) rfl (by show 2 * 0 + _ ≤ _; exact Nat.le_of_eq rfl) (hb hby at_189) (fun _ _ => ⟨rfl, e195, (by decide : 8 + 0 ≤ _), (by decide : 75 + 0 ≤ _)⟩)
      dsimp only [Pt.U, Pt.locs, Pt.cells, Pt.slots] at X197 l197 y197 z197 st197 hQ197
      subst l197 y197 z197
      obtain ⟨rfl, Nq197, Kq197, P197_0⟩ := hQ197
      have N197 := Fr.app N195 Nq197
      have hk197 := Nat.le_trans hk195 Kq197.1
      have K197 : Keep h0 T197.heap [] := K195.trans Kq197 (allS (P := fun x => x ∈ [] ∨ h0.size ≤ x) (Or.inr sz_b69_c193) all0)
      have Z197 : n0 ≤ T197.heap.size := Nat.le_trans Z195 Kq197.1
      have S_NONE_t197 := Jvm.OwnW.Sta.keepN S_NONE_t195 Kq197 (allS (P := fun w => ∀ cell : Cell, T195.heap[w]? = some cell → cell.vm.isStatics = false) (Jvm.OwnW.Exa.ns P193_1_t195) all0)
      have E_uNONE_t197 := E_uNONE_t195.keep Kq197
      have S_high_t197 := Jvm.OwnW.Sta.keepN S_high_t195 Kq197 (allS (P := fun w => ∀ cell : Cell, T195.heap[w]? = some cell → cell.vm.isStatics = false) (Jvm.OwnW.Exa.ns P193_1_t195) all0)
      have S_cache_t197 := Jvm.OwnW.Sta.keepN S_cache_t195 Kq197 (allS (P := fun w => ∀ cell : Cell, T195.heap[w]? = some cell → cell.vm.isStatics = false) (Jvm.OwnW.Exa.ns P193_1_t195) all0)
      have V_ucl_t197 := V_ucl_t195.keep Kq197 (ninS ne_ucl_b69_c193 nin0)
      have Ex177_t197 := Ex177_t195.keep Kq197
      have V_b177_t197 := V_b177_t195.keep Kq197 (ninS ne_b177_b69_c193 nin0)
      have Ex189_t197 := Ex189_t195.keep Kq197
      have A191_t197 := A191_t195.keep Kq197
      have P192_1_t197 := P192_1_t195.keep Kq197 (ninS ne_o191_b69_c193 nin0)
      have P192_2_t197 := P192_2_t195.keep Kq197 (ninS ne_b33_c41_c192_b69_c193 nin0)
      have P192_3_t197 := P192_3_t195.keep Kq197
      have P192_4_t197 := P192_4_t195.keep Kq197 (ninS ne_o191_b69_c193 nin0)
      have P192_5_t197 := P192_5_t195.keep Kq197 (ninS ne_o191_b69_c193 nin0)
      have P192_6_t197 := P192_6_t195.keep Kq197 (ninS ne_b37_c41_c192_b69_c193 nin0)
      have P192_7_t197 := P192_7_t195.keep Kq197
      have P192_8_t197 := P192_8_t195.keep Kq197 (ninS ne_o191_b69_c193 nin0)
      have P193_1_t197 := P193_1_t195.keep Kq197
      have P195_0_t197 := P195_0.keep Kq197 (ninS ne_b189_b69_c193 nin0)
      have e197 : T197.heap = T197.heap := rfl
      obtain ⟨q198, hq198⟩ : ∃ z : Int32, z = (((v14 ^^^ (-1 : Int32)).toInt8.toInt32).toInt8.toInt32) := ⟨_, rfl⟩
      rw [← hq198] at P197_0
      refine Wq.step st197 ?_
      show Wq _ _ _ _ _ (T197.setTop (mkF m 192 #[.val (.int xlaw_1), .val (.int xlaw_2), .val (.int xlaw_3), .val (.int xlaw_4), .val (.int xlaw_5), .val (.int (3 : Int32)), .val (.int (1 : Int32)), .val (.int v14), .val (.int v18), .val (.int v22), .val (.ref b177), .val (.ref b189), .val .null, .val (.ref o191), .val (.ref b69_c193), .unset] []))
      refine Ow.aload X197 hx (pc' := 194) (hb hby at_192) rfl rfl ?_
      obtain ⟨cq199, kq199, q199a, q199b, q199c⟩ := isOf hZ192 e197 A191_t197
      obtain ⟨_, _, ⟨T199, L199, k199, n199⟩, -, X199, ⟨Lc199, hQ199, l199, y199, z199⟩, st199⟩ := X197.virtualBack hx (y := mt5) (z := mt5) hown192 (mvT hZ192 (kw51 hw)) (mvT hZ192 (kw52 hw)) (notFace_of_selects (args := #[]) (mvT hZ192 (kw54 hw))) (mvT hZ192 (kw54 hw)) (mvT hZ192 (kw53 hw)) (by decide) (backOf (W := 0) (rm_ui1 l Z a0 hw [] o191 b37_c41_c192 v14 T197.heap n0 Z197 P192_8_t197 P192_6_t197 P192_7_t197 ((own_fc (own_fb hv14) own_f0))) hZ192 (kw55 hw) (kw3 hw) (by decide) (by decide)) q199a q199c (g := (mkF m 194 #[.val (.int xlaw_1), .val (.int xlaw_2), .val (.int xlaw_3), .val (.int xlaw_4), .val (.int xlaw_5), .val (.int (3 : Int32)), .val (.int (1 : Int32)), .val (.int v14), .val (.int v18), .val (.int v22), .val (.ref b177), .val (.ref b189), .val .null, .val (.ref o191), .val (.ref b69_c193), .unset] [(.ref o191)])) rfl (by rw [hml]; rfl) (Steps.refl _) (argsL := []) (rest := []) (lenOf pd7 rfl) rfl (by show 2 * 0 + _ ≤ _; exact Nat.le_of_eq rfl) (hb hby at_194) (fun _ _ => ⟨rfl, e197, (by decide : 8 + 1 ≤ _), (by decide : 75 + 1 ≤ _)⟩)
      dsimp only [Pt.U, Pt.locs, Pt.cells, Pt.slots] at X199 l199 y199 z199 st199 hQ199
      subst l199 y199 z199
      obtain ⟨b69_c199, rfl, Nq199, Kq199, szq_b69_c199, P199_0, P199_1⟩ := hQ199
      have g_b69_c199 : n0 ≤ b69_c199 := Nat.le_trans Z197 szq_b69_c199
      have sz_b69_c199 : h0.size ≤ b69_c199 := Nat.le_trans K197.1 szq_b69_c199
      have ne_uNONE_b69_c199 : uNONE ≠ b69_c199 := Nat.ne_of_lt (Nat.lt_of_lt_of_le E_uNONE_t197.lt szq_b69_c199)
      have ne_ucl_b69_c199 : ucl ≠ b69_c199 := Nat.ne_of_lt (Nat.lt_of_lt_of_le V_ucl_t197.lt szq_b69_c199)
      have ne_b177_b69_c199 : b177 ≠ b69_c199 := Nat.ne_of_lt (Nat.lt_of_lt_of_le Ex177_t197.lt szq_b69_c199)
      have ne_b189_b69_c199 : b189 ≠ b69_c199 := Nat.ne_of_lt (Nat.lt_of_lt_of_le Ex189_t197.lt szq_b69_c199)
      have ne_o191_b69_c199 : o191 ≠ b69_c199 := Nat.ne_of_lt (Nat.lt_of_lt_of_le A191_t197.lt szq_b69_c199)
      have ne_b33_c41_c192_b69_c199 : b33_c41_c192 ≠ b69_c199 := Nat.ne_of_lt (Nat.lt_of_lt_of_le P192_2_t197.lt szq_b69_c199)
      have ne_b37_c41_c192_b69_c199 : b37_c41_c192 ≠ b69_c199 := Nat.ne_of_lt (Nat.lt_of_lt_of_le P192_6_t197.lt szq_b69_c199)
      have ne_b69_c193_b69_c199 : b69_c193 ≠ b69_c199 := Nat.ne_of_lt (Nat.lt_of_lt_of_le P193_1_t197.lt szq_b69_c199)
      have N199 := Fr.app N197 Nq199
      have hk199 := Nat.le_trans hk197 Kq199.1
      have K199 : Keep h0 T199.heap [] := K197.trans Kq199 all0
      have Z199 : n0 ≤ T199.heap.size := Nat.le_trans Z197 Kq199.1
      have S_NONE_t199 := Jvm.OwnW.Sta.keepN S_NONE_t197 Kq199 all0
      have E_uNONE_t199 := E_uNONE_t197.keep Kq199
      have S_high_t199 := Jvm.OwnW.Sta.keepN S_high_t197 Kq199 all0
      have S_cache_t199 := Jvm.OwnW.Sta.keepN S_cache_t197 Kq199 all0
      have V_ucl_t199 := V_ucl_t197.keep Kq199 nin0
      have Ex177_t199 := Ex177_t197.keep Kq199
      have V_b177_t199 := V_b177_t197.keep Kq199 nin0
      have Ex189_t199 := Ex189_t197.keep Kq199
      have A191_t199 := A191_t197.keep Kq199
      have P192_1_t199 := P192_1_t197.keep Kq199 nin0
      have P192_2_t199 := P192_2_t197.keep Kq199 nin0
      have P192_3_t199 := P192_3_t197.keep Kq199
      have P192_4_t199 := P192_4_t197.keep Kq199 nin0
      have P192_5_t199 := P192_5_t197.keep Kq199 nin0
      have P192_6_t199 := P192_6_t197.keep Kq199 nin0
      have P192_7_t199 := P192_7_t197.keep Kq199
      have P192_8_t199 := P192_8_t197.keep Kq199 nin0
      have P193_1_t199 := P193_1_t197.keep Kq199
      have P195_0_t199 := P195_0_t197.keep Kq199 nin0
      have P197_0_t199 := P197_0.keep Kq199 nin0
      have e199 : T199.heap = T199.heap := rfl
      refine Wq.steps st199 ?_
      show Wq _ _ _ _ _ (T199.setTop (mkF m 197 #[.val (.int xlaw_1), .val (.int xlaw_2), .val (.int xlaw_3), .val (.int xlaw_4), .val (.int xlaw_5), .val (.int (3 : Int32)), .val (.int (1 : Int32)), .val (.int v14), .val (.int v18), .val (.int v22), .val (.ref b177), .val (.ref b189), .val .null, .val (.ref o191), .val (.ref b69_c193), .unset] [(.ref b69_c199)]))
      refine Ow.astore X199 hx (pc' := 199) (hb hby at_197) rfl (l' := #[.val (.int xlaw_1), .val (.int xlaw_2), .val (.int xlaw_3), .val (.int xlaw_4), .val (.int xlaw_5), .val (.int (3 : Int32)), .val (.int (1 : Int32)), .val (.int v14), .val (.int v18), .val (.int v22), .val (.ref b177), .val (.ref b189), .val .null, .val (.ref o191), .val (.ref b69_c193), .val (.ref b69_c199)]) rfl ?_
      refine Ow.aload X199 hx (pc' := 201) (hb hby at_199) rfl rfl ?_
      refine Ow.ifnullNo X199 hx (pc' := 204) (hb hby at_201)  ?_
      refine Ow.aload X199 hx (pc' := 206) (hb hby at_204) rfl rfl ?_
      refine Ow.aload X199 hx (pc' := 208) (hb hby at_206) rfl rfl ?_
      refine Ow.acmp X199 hx (pc' := 211) (hb hby at_208) rfl rfl (same := false) (decide_eq_false fun q => (Ne.symm ne_b69_c193_b69_c199) (Value.ref.inj q)) (by decide) (by decide) ?_
      refine Ow.aload X199 hx (pc' := 213) (hb hby at_211) rfl rfl ?_
      refine Ow.aload X199 hx (pc' := 215) (hb hby at_213) rfl rfl ?_
      refine Ow.acmp X199 hx (pc' := 218) (hb hby at_215) rfl rfl (same := false) (decide_eq_false fun q => (Ne.symm ne_b189_b69_c199) (Value.ref.inj q)) (by decide) (by decide) ?_
      refine Ow.aload X199 hx (pc' := 220) (hb hby at_218) rfl rfl ?_
      refine Ow.iload X199 hx (pc' := 222) (hb hby at_220) rfl ?_
      refine Ow.iload X199 hx (pc' := 224) (hb hby at_222) rfl ?_
      refine Ow.iload X199 hx (pc' := 226) (hb hby at_224) rfl ?_
      refine Ow.iload X199 hx (pc' := 228) (hb hby at_226) rfl ?_
      obtain ⟨_, _, ⟨T200, L200, k200, n200⟩, -, X200, ⟨Lc200, hQ200, l200, y200, z200⟩, st200⟩ := Jvm.LawKit.callS X199 hx (y := mt6) hown192 (mvT hZ192 (kw56 hw)) (mvT hZ192 (kw57 hw)) (mvT hZ192 (kw58 hw)) (mvT hZ192 (kw59 hw)) (by decide) (backOf (W := 0) (rm_sm1 l Z a0 hw [] b69_c199 v14 v18 v22 v14 T199.heap n0 Z199 P199_0) hZ192 (kw59 hw) (kw58 hw) (by decide) (by decide)) (g := (mkF m 228 #[.val (.int xlaw_1), .val (.int xlaw_2), .val (.int xlaw_3), .val (.int xlaw_4), .val (.int xlaw_5), .val (.int (3 : Int32)), .val (.int (1 : Int32)), .val (.int v14), .val (.int v18), .val (.int v22), .val (.ref b177), .val (.ref b189), .val .null, .val (.ref o191), .val (.ref b69_c193), .val (.ref b69_c199)] [(.int v22), (.int v18), (.int v14), (.int (1 : Int32)), (.ref b69_c199)])) rfl (by rw [hml]; rfl) (argsL := [(.ref b69_c199), (.int (1 : Int32)), (.int v14), (.int v18), (.int v22)]) (rest := []) (lenOf pd9 rfl) rfl (by show 2 * 0 + _ ≤ _; exact Nat.le_of_eq rfl) (hb hby at_228) (fun _ _ => ⟨rfl, e199, (by decide : 9 + 0 ≤ _), (by decide : 76 + 0 ≤ _)⟩)
      dsimp only [Pt.U, Pt.locs, Pt.cells, Pt.slots] at X200 l200 y200 z200 st200 hQ200
      subst l200 y200 z200
      obtain ⟨rfl, Nq200, e200⟩ := hQ200
      have N200 := Fr.app N199 Nq200
      refine Wq.step st200 ?_
      show Wq _ _ _ _ _ (T200.setTop (mkF m 231 #[.val (.int xlaw_1), .val (.int xlaw_2), .val (.int xlaw_3), .val (.int xlaw_4), .val (.int xlaw_5), .val (.int (3 : Int32)), .val (.int (1 : Int32)), .val (.int v14), .val (.int v18), .val (.int v22), .val (.ref b177), .val (.ref b189), .val .null, .val (.ref o191), .val (.ref b69_c193), .val (.ref b69_c199)] [(.int (f_sm1 v14 v18 v22 v14))]))
      generalize hv228 : (f_sm1 v14 v18 v22 v14) = v228
      show Wq _ _ _ _ _ (T200.setTop (mkF m 231 #[.val (.int xlaw_1), .val (.int xlaw_2), .val (.int xlaw_3), .val (.int xlaw_4), .val (.int xlaw_5), .val (.int (3 : Int32)), .val (.int (1 : Int32)), .val (.int v14), .val (.int v18), .val (.int v22), .val (.ref b177), .val (.ref b189), .val .null, .val (.ref o191), .val (.ref b69_c193), .val (.ref b69_c199)] [(.int v228)]))
      refine Ow.ifNo X200 hx (pc' := 234) (hb hby at_231) ((if0 _ _).trans (feq (by subst hv228; simp [f_sm1] : ¬ (v228 = (0 : Int32)))).1) ?_
      refine Ow.iconst X200 hx (pc' := 235) (hb hby at_234) (z := (1 : Int32)) rfl ?_
      refine Ow.goto X200 hx (pc' := 239) (hb hby at_235) (by decide) (by decide) ?_
      exact Wq.retW X200 hS192 (by rw [e200]; exact hk199) (BodyLoose.notSynchronized Bd) (rv := some (.int (1 : Int32))) (fun h => by rw [Bd.returns] at h; cases h) (fun _ hr => retN X200 hx (t := .boolean) Bd.returns (by simp) (hb hby at_239) hr) (by decide) (by decide) ⟨rfl, N200⟩
    · skip
      show Wq _ _ _ _ _ (T179.setTop (mkF m 48 #[.val (.int xlaw_1), .val (.int xlaw_2), .val (.int xlaw_3), .val (.int xlaw_4), .val (.int xlaw_5), .val (.int (3 : Int32)), .val (.int (2 : Int32)), .val (.int v14), .val (.int v18), .val (.int v22), .val (.ref b177), .val .null, .unset, .unset, .unset, .unset] []))
      refine Ow.iload X179 hx (pc' := 50) (hb hby at_48) rfl ?_
      obtain ⟨T201, h201, k201, X201, e201, E201, A201, Ex201, st201⟩ := newPE X179 hx hZ (aty := .byte) (kw0 hw) e179 (g := (mkF m 50 #[.val (.int xlaw_1), .val (.int xlaw_2), .val (.int xlaw_3), .val (.int xlaw_4), .val (.int xlaw_5), .val (.int (3 : Int32)), .val (.int (2 : Int32)), .val (.int v14), .val (.int v18), .val (.int v22), .val (.ref b177), .val .null, .unset, .unset, .unset, .unset] [(.int (2 : Int32))])) rfl (hb hby at_50) rfl (by decide) (cap := 2) (by decide) (by decide) (by decide) (by decide) (ad := "[B") (by decide)
      obtain ⟨b201, gz201⟩ : ∃ z, z = h179.size := ⟨_, rfl⟩
      rw [← gz201] at A201 Ex201 st201
      have g_b201 : n0 ≤ b201 := Nat.le_trans Z179 (Nat.le_of_eq gz201.symm)
      have sz_b201 : h0.size ≤ b201 := Nat.le_trans K179.1 (Nat.le_of_eq gz201.symm)
      have ne_uNONE_b201 : uNONE ≠ b201 := Nat.ne_of_lt (Nat.lt_of_lt_of_le E_uNONE_t179.lt (Nat.le_of_eq gz201.symm))
      have ne_ucl_b201 : ucl ≠ b201 := Nat.ne_of_lt (Nat.lt_of_lt_of_le V_ucl_t179.lt (Nat.le_of_eq gz201.symm))
      have ne_b177_b201 : b177 ≠ b201 := Nat.ne_of_lt (Nat.lt_of_lt_of_le Ex177_t179.lt (Nat.le_of_eq gz201.symm))
      have K201 : Keep h0 h201 [] := K179.ext E201
      have Z201 : n0 ≤ h201.size := Nat.le_trans Z179 E201.1
      have hk201 := Nat.le_trans hk179 E201.1
      have S_NONE_t201 := S_NONE_t179.ext E201
      have E_uNONE_t201 := E_uNONE_t179.ext E201
      have S_high_t201 := S_high_t179.ext E201
      have S_cache_t201 := S_cache_t179.ext E201
      have V_ucl_t201 := V_ucl_t179.ext E201
      have Ex177_t201 := Ex177_t179.ext E201
      have V_b177_t201 := V_b177_t179.ext E201
      have V_b201 : Al Z h201 b201 .byte [(.int (0 : Int32)), (.int (0 : Int32))] := Al.new A201 (k := 2) (rfl) rfl
      refine Wq.step st201 ?_
      show Wq _ _ _ _ _ (T201.setTop (mkF m 52 #[.val (.int xlaw_1), .val (.int xlaw_2), .val (.int xlaw_3), .val (.int xlaw_4), .val (.int xlaw_5), .val (.int (3 : Int32)), .val (.int (2 : Int32)), .val (.int v14), .val (.int v18), .val (.int v22), .val (.ref b177), .val .null, .unset, .unset, .unset, .unset] [(.ref b201)]))
      refine Ow.astore X201 hx (pc' := 54) (hb hby at_52) rfl (l' := #[.val (.int xlaw_1), .val (.int xlaw_2), .val (.int xlaw_3), .val (.int xlaw_4), .val (.int xlaw_5), .val (.int (3 : Int32)), .val (.int (2 : Int32)), .val (.int v14), .val (.int v18), .val (.int v22), .val (.ref b177), .val (.ref b201), .unset, .unset, .unset, .unset]) rfl ?_
      refine Ow.iload X201 hx (pc' := 56) (hb hby at_54) rfl ?_
      refine Ow.ifNo X201 hx (pc' := 59) (hb hby at_56) ((if0 _ _).trans (tlt (by decide : (0 : Int32) < (2 : Int32))).2.2.2) ?_
      refine Ow.aload X201 hx (pc' := 61) (hb hby at_59) rfl rfl ?_
      refine Ow.iconst X201 hx (pc' := 62) (hb hby at_61) (z := (0 : Int32)) rfl ?_
      refine Ow.iload X201 hx (pc' := 64) (hb hby at_62) rfl ?_
      obtain ⟨T202, h202, X202, e202, W202, Vr202, st202⟩ := asB X201 hx hZ e201 V_b201 (j := (0 : Int32)) (i := 0) (by decide) rfl (Nat.le_of_ble_eq_true rfl) (y := v14) (own_nar hv14) (g := (mkF m 64 #[.val (.int xlaw_1), .val (.int xlaw_2), .val (.int xlaw_3), .val (.int xlaw_4), .val (.int xlaw_5), .val (.int (3 : Int32)), .val (.int (2 : Int32)), .val (.int v14), .val (.int v18), .val (.int v22), .val (.ref b177), .val (.ref b201), .unset, .unset, .unset, .unset] [(.int v14), (.int (0 : Int32)), (.ref b201)])) rfl rfl (hb hby at_64)
      refine Wq.step st202 ?_
      have N202 := Fr.snoc X202 N179 g_b201
      have K202 : Keep h0 h202 [] := K201.wr W202 (Or.inr sz_b201)
      have Z202 : n0 ≤ h202.size := Nat.le_trans Z201 (Keep.of_wr W202).1
      have hk202 := Nat.le_trans hk201 (Keep.of_wr W202).1
      have S_NONE_t202 := S_NONE_t201.wr W202
      have E_uNONE_t202 := E_uNONE_t201.wr W202
      have S_high_t202 := S_high_t201.wr W202
      have S_cache_t202 := S_cache_t201.wr W202
      have V_ucl_t202 := V_ucl_t201.other W202 ne_ucl_b201
      have Ex177_t202 := Ex177_t201.wr W202
      have V_b177_t202 := V_b177_t201.other W202 ne_b177_b201
      have Ex201_t202 := Ex201.wr W202
      have V_b201_t202 : Al Z h202 b201 .byte [(.int v14), (.int (0 : Int32))] := Vr202
      show Wq _ _ _ _ _ (T202.setTop (mkF m 65 #[.val (.int xlaw_1), .val (.int xlaw_2), .val (.int xlaw_3), .val (.int xlaw_4), .val (.int xlaw_5), .val (.int (3 : Int32)), .val (.int (2 : Int32)), .val (.int v14), .val (.int v18), .val (.int v22), .val (.ref b177), .val (.ref b201), .unset, .unset, .unset, .unset] []))
      refine Ow.iload X202 hx (pc' := 67) (hb hby at_65) rfl ?_
      refine Ow.iconst X202 hx (pc' := 68) (hb hby at_67) (z := (1 : Int32)) rfl ?_
      refine Ow.icmpNo X202 hx (pc' := 71) (hb hby at_68) (tlt (by decide : (1 : Int32) < (2 : Int32))).2.2.2 ?_
      refine Ow.aload X202 hx (pc' := 73) (hb hby at_71) rfl rfl ?_
      refine Ow.iconst X202 hx (pc' := 74) (hb hby at_73) (z := (1 : Int32)) rfl ?_
      refine Ow.iload X202 hx (pc' := 76) (hb hby at_74) rfl ?_
      obtain ⟨T203, h203, X203, e203, W203, Vr203, st203⟩ := asB X202 hx hZ e202 V_b201_t202 (j := (1 : Int32)) (i := 1) (by decide) rfl (Nat.le_of_ble_eq_true rfl) (y := v18) (own_nar hv18) (g := (mkF m 76 #[.val (.int xlaw_1), .val (.int xlaw_2), .val (.int xlaw_3), .val (.int xlaw_4), .val (.int xlaw_5), .val (.int (3 : Int32)), .val (.int (2 : Int32)), .val (.int v14), .val (.int v18), .val (.int v22), .val (.ref b177), .val (.ref b201), .unset, .unset, .unset, .unset] [(.int v18), (.int (1 : Int32)), (.ref b201)])) rfl rfl (hb hby at_76)
      refine Wq.step st203 ?_
      have N203 := Fr.snoc X203 N202 g_b201
      have K203 : Keep h0 h203 [] := K202.wr W203 (Or.inr sz_b201)
      have Z203 : n0 ≤ h203.size := Nat.le_trans Z202 (Keep.of_wr W203).1
      have hk203 := Nat.le_trans hk202 (Keep.of_wr W203).1
      have S_NONE_t203 := S_NONE_t202.wr W203
      have E_uNONE_t203 := E_uNONE_t202.wr W203
      have S_high_t203 := S_high_t202.wr W203
      have S_cache_t203 := S_cache_t202.wr W203
      have V_ucl_t203 := V_ucl_t202.other W203 ne_ucl_b201
      have Ex177_t203 := Ex177_t202.wr W203
      have V_b177_t203 := V_b177_t202.other W203 ne_b177_b201
      have Ex201_t203 := Ex201_t202.wr W203
      have V_b201_t203 : Al Z h203 b201 .byte [(.int v14), (.int v18)] := Vr203
      show Wq _ _ _ _ _ (T203.setTop (mkF m 77 #[.val (.int xlaw_1), .val (.int xlaw_2), .val (.int xlaw_3), .val (.int xlaw_4), .val (.int xlaw_5), .val (.int (3 : Int32)), .val (.int (2 : Int32)), .val (.int v14), .val (.int v18), .val (.int v22), .val (.ref b177), .val (.ref b201), .unset, .unset, .unset, .unset] []))
      refine Ow.iload X203 hx (pc' := 79) (hb hby at_77) rfl ?_
      refine Ow.iconst X203 hx (pc' := 80) (hb hby at_79) (z := (2 : Int32)) rfl ?_
      refine Ow.icmpYes X203 hx (pc' := 89) (hb hby at_80) (flt (by decide : ¬ ((2 : Int32) < (2 : Int32)))).2.2.2 (by decide) (by decide) ?_
      refine Ow.iload X203 hx (pc' := 91) (hb hby at_89) rfl ?_
      refine Ow.iconst X203 hx (pc' := 92) (hb hby at_91) (z := (1 : Int32)) rfl ?_
      refine Ow.icmpYes X203 hx (pc' := 103) (hb hby at_92) (feq (by decide : ¬ ((3 : Int32) = (1 : Int32)))).2 (by decide) (by decide) ?_
      refine Ow.aconstNull X203 hx (pc' := 104) (hb hby at_103)  ?_
      refine Ow.astore X203 hx (pc' := 106) (hb hby at_104) rfl (l' := #[.val (.int xlaw_1), .val (.int xlaw_2), .val (.int xlaw_3), .val (.int xlaw_4), .val (.int xlaw_5), .val (.int (3 : Int32)), .val (.int (2 : Int32)), .val (.int v14), .val (.int v18), .val (.int v22), .val (.ref b177), .val (.ref b201), .val .null, .unset, .unset, .unset]) rfl ?_
      obtain ⟨T204, h204, X204, e204, E204, A204, D204, -, st204⟩ := newO X203 hx hZ hown (kw1 hw) (kw2 hw) (kw3 hw) e203 (g := (mkF m 106 #[.val (.int xlaw_1), .val (.int xlaw_2), .val (.int xlaw_3), .val (.int xlaw_4), .val (.int xlaw_5), .val (.int (3 : Int32)), .val (.int (2 : Int32)), .val (.int v14), .val (.int v18), .val (.int v22), .val (.ref b177), .val (.ref b201), .val .null, .unset, .unset, .unset] [])) rfl (hb hby at_106) (by decide) (by decide)
      obtain ⟨o204, gz204⟩ : ∃ z, z = h203.size := ⟨_, rfl⟩
      rw [← gz204] at A204 D204 st204
      have g_o204 : n0 ≤ o204 := Nat.le_trans Z203 (Nat.le_of_eq gz204.symm)
      have sz_o204 : h0.size ≤ o204 := Nat.le_trans K203.1 (Nat.le_of_eq gz204.symm)
      have ne_uNONE_o204 : uNONE ≠ o204 := Nat.ne_of_lt (Nat.lt_of_lt_of_le E_uNONE_t203.lt (Nat.le_of_eq gz204.symm))
      have ne_ucl_o204 : ucl ≠ o204 := Nat.ne_of_lt (Nat.lt_of_lt_of_le V_ucl_t203.lt (Nat.le_of_eq gz204.symm))
      have ne_b177_o204 : b177 ≠ o204 := Nat.ne_of_lt (Nat.lt_of_lt_of_le Ex177_t203.lt (Nat.le_of_eq gz204.symm))
      have ne_b201_o204 : b201 ≠ o204 := Nat.ne_of_lt (Nat.lt_of_lt_of_le Ex201_t203.lt (Nat.le_of_eq gz204.symm))
      have K204 : Keep h0 h204 [] := K203.ext E204
      have Z204 : n0 ≤ h204.size := Nat.le_trans Z203 E204.1
      have hk204 := Nat.le_trans hk203 E204.1
      have S_NONE_t204 := S_NONE_t203.ext E204
      have E_uNONE_t204 := E_uNONE_t203.ext E204
      have S_high_t204 := S_high_t203.ext E204
      have S_cache_t204 := S_cache_t203.ext E204
      have V_ucl_t204 := V_ucl_t203.ext E204
      have Ex177_t204 := Ex177_t203.ext E204
      have V_b177_t204 := V_b177_t203.ext E204
      have Ex201_t204 := Ex201_t203.ext E204
      have V_b201_t204 := V_b201_t203.ext E204
      refine Wq.step st204 ?_
      have F_o204_unknownElements : Fld Z h204 o204 "com/example/opwire/opwire/codec/tcap/TcapMessage" "unknownElements" "Lcom/example/opwire/opwire/codec/ber/UnknownElements;" .null := D204 (Or.inr (kw35 hw)) (ty := (.object "com/example/opwire/opwire/codec/ber/UnknownElements")) (by decide)
      have F_o204_destinationTransactionId : Fld Z h204 o204 "com/example/opwire/opwire/codec/tcap/Abort" "destinationTransactionId" "[B" .null := D204 (Or.inr (kw46 hw)) (ty := (.array .byte)) (by decide)
      have F_o204_pAbortCause : Fld Z h204 o204 "com/example/opwire/opwire/codec/tcap/Abort" "pAbortCause" "Ljava/lang/Integer;" .null := D204 (Or.inr (kw48 hw)) (ty := (.object "java/lang/Integer")) (by decide)
      have F_o204_userAbortInformation : Fld Z h204 o204 "com/example/opwire/opwire/codec/tcap/Abort" "userAbortInformation" "[B" .null := D204 (Or.inr (kw50 hw)) (ty := (.array .byte)) (by decide)
      show Wq _ _ _ _ _ (T204.setTop (mkF m 109 #[.val (.int xlaw_1), .val (.int xlaw_2), .val (.int xlaw_3), .val (.int xlaw_4), .val (.int xlaw_5), .val (.int (3 : Int32)), .val (.int (2 : Int32)), .val (.int v14), .val (.int v18), .val (.int v22), .val (.ref b177), .val (.ref b201), .val .null, .unset, .unset, .unset] [(.ref o204)]))
      refine Ow.dup X204 hx (pc' := 110) (hb hby at_109) rfl ?_
      refine Ow.aload X204 hx (pc' := 112) (hb hby at_110) rfl rfl ?_
      refine Ow.aload X204 hx (pc' := 114) (hb hby at_112) rfl rfl ?_
      refine Ow.aload X204 hx (pc' := 116) (hb hby at_114) rfl rfl ?_
      obtain ⟨_, _, ⟨T205, L205, k205, n205⟩, -, Xr205, hSr205, hgr205, ⟨Lc205, hQ205, l205, y205, z205⟩, st205⟩ := X204.specialBackS hx (y := mt4) rfl hown (mvT hZ (kw4 hw)) (mvT hZ (kw5 hw)) (mvT hZ (kw6 hw)) (by decide) (backOfS (W := 1) (rm_a2 l Z a0 hw [] o204 b177 b201 v22 v14 v14 v18 uNONE h204 n0 Z204 A204 F_o204_unknownElements F_o204_destinationTransactionId F_o204_pAbortCause F_o204_userAbortInformation g_o204 V_b177_t204 Ex177_t204 ne_b177_o204 (own_fc (own_fb hv22) (own_fc (own_fb hv14) own_f0)) V_b201_t204 Ex201_t204 ne_b201_o204 ((own_fc (own_fb hv14) (own_fc (own_fb hv18) own_f0))) S_NONE_t204 E_uNONE_t204) hZ (kw6 hw) (kw3 hw) (by decide) (by decide)) (g := (mkF m 116 #[.val (.int xlaw_1), .val (.int xlaw_2), .val (.int xlaw_3), .val (.int xlaw_4), .val (.int xlaw_5), .val (.int (3 : Int32)), .val (.int (2 : Int32)), .val (.int v14), .val (.int v18), .val (.int v22), .val (.ref b177), .val (.ref b201), .val .null, .unset, .unset, .unset] [(.ref b201), .null, (.ref b177), (.ref o204), (.ref o204)])) rfl (by rw [hml]; rfl) (Steps.refl _) (a := o204) (argsL := [(.ref b177), .null, (.ref b201)]) (rest := [(.ref o204)]) (lenOf pd6 rfl) rfl (by show 2 * 0 + _ ≤ _; exact Nat.le_of_eq rfl) (hb hby at_116) (fun _ _ => ⟨rfl, e204, (by decide : 3 + 4 ≤ _), (by decide : 8 + 68 ≤ _)⟩)
      dsimp only [Pt.U, Pt.locs, Pt.cells, Pt.slots] at Xr205 hSr205 hgr205 l205 y205 z205 st205 hQ205
      subst l205 y205 z205
      obtain ⟨X205, hS205, hZ205, hown205⟩ := rebS hS0 (by rw [e204]; exact hk204) Xr205 hSr205 hgr205 hZ hown
      have hk205 := Nat.le_refl T205.heap.size
      obtain ⟨b43_c51_c205, b47_c51_c205, rfl, Nq205, Kq205, szq_b43_c51_c205, szq_b47_c51_c205, ne_b43_c51_c205_b47_c51_c205, P205_0, P205_1, P205_2, P205_3, P205_4, P205_5, P205_6, P205_7, P205_8⟩ := hQ205
      have g_b43_c51_c205 : n0 ≤ b43_c51_c205 := Nat.le_trans Z204 szq_b43_c51_c205
      have sz_b43_c51_c205 : h0.size ≤ b43_c51_c205 := Nat.le_trans K204.1 szq_b43_c51_c205
      have ne_uNONE_b43_c51_c205 : uNONE ≠ b43_c51_c205 := Nat.ne_of_lt (Nat.lt_of_lt_of_le E_uNONE_t204.lt szq_b43_c51_c205)
      have ne_ucl_b43_c51_c205 : ucl ≠ b43_c51_c205 := Nat.ne_of_lt (Nat.lt_of_lt_of_le V_ucl_t204.lt szq_b43_c51_c205)
      have ne_b177_b43_c51_c205 : b177 ≠ b43_c51_c205 := Nat.ne_of_lt (Nat.lt_of_lt_of_le Ex177_t204.lt szq_b43_c51_c205)
      have ne_b201_b43_c51_c205 : b201 ≠ b43_c51_c205 := Nat.ne_of_lt (Nat.lt_of_lt_of_le Ex201_t204.lt szq_b43_c51_c205)
      have ne_o204_b43_c51_c205 : o204 ≠ b43_c51_c205 := Nat.ne_of_lt (Nat.lt_of_lt_of_le A204.lt szq_b43_c51_c205)
      have g_b47_c51_c205 : n0 ≤ b47_c51_c205 := Nat.le_trans Z204 szq_b47_c51_c205
      have sz_b47_c51_c205 : h0.size ≤ b47_c51_c205 := Nat.le_trans K204.1 szq_b47_c51_c205
      have ne_uNONE_b47_c51_c205 : uNONE ≠ b47_c51_c205 := Nat.ne_of_lt (Nat.lt_of_lt_of_le E_uNONE_t204.lt szq_b47_c51_c205)
      have ne_ucl_b47_c51_c205 : ucl ≠ b47_c51_c205 := Nat.ne_of_lt (Nat.lt_of_lt_of_le V_ucl_t204.lt szq_b47_c51_c205)
      have ne_b177_b47_c51_c205 : b177 ≠ b47_c51_c205 := Nat.ne_of_lt (Nat.lt_of_lt_of_le Ex177_t204.lt szq_b47_c51_c205)
      have ne_b201_b47_c51_c205 : b201 ≠ b47_c51_c205 := Nat.ne_of_lt (Nat.lt_of_lt_of_le Ex201_t204.lt szq_b47_c51_c205)
      have ne_o204_b47_c51_c205 : o204 ≠ b47_c51_c205 := Nat.ne_of_lt (Nat.lt_of_lt_of_le A204.lt szq_b47_c51_c205)
      have N205 := Fr.app N203 Nq205
      have K205 : Keep h0 T205.heap [] := K204.trans Kq205 (allS (P := fun x => x ∈ [] ∨ h0.size ≤ x) (Or.inr sz_o204) all0)
      have Z205 : n0 ≤ T205.heap.size := Nat.le_trans Z204 Kq205.1
      have S_NONE_t205 := Jvm.OwnW.Sta.keepN S_NONE_t204 Kq205 (allS (P := fun w => ∀ cell : Cell, h204[w]? = some cell → cell.vm.isStatics = false) (Jvm.OwnW.Exa.ns A204) all0)
      have E_uNONE_t205 := E_uNONE_t204.keep Kq205
      have S_high_t205 := Jvm.OwnW.Sta.keepN S_high_t204 Kq205 (allS (P := fun w => ∀ cell : Cell, h204[w]? = some cell → cell.vm.isStatics = false) (Jvm.OwnW.Exa.ns A204) all0)
      have S_cache_t205 := Jvm.OwnW.Sta.keepN S_cache_t204 Kq205 (allS (P := fun w => ∀ cell : Cell, h204[w]? = some cell → cell.vm.isStatics = false) (Jvm.OwnW.Exa.ns A204) all0)
      have V_ucl_t205 := V_ucl_t204.keep Kq205 (ninS ne_ucl_o204 nin0)
      have Ex177_t205 := Ex177_t204.keep Kq205
      have V_b177_t205 := V_b177_t204.keep Kq205 (ninS ne_b177_o204 nin0)
      have Ex201_t205 := Ex201_t204.keep Kq205
      have V_b201_t205 := V_b201_t204.keep Kq205 (ninS ne_b201_o204 nin0)
      have A204_t205 := A204.keep Kq205
      have e205 : T205.heap = T205.heap := rfl
      refine Wq.steps st205 ?_
      show Wq _ _ _ _ _ (T205.setTop (mkF m 119 #[.val (.int xlaw_1), .val (.int xlaw_2), .val (.int xlaw_3), .val (.int xlaw_4), .val (.int xlaw_5), .val (.int (3 : Int32)), .val (.int (2 : Int32)), .val (.int v14), .val (.int v18), .val (.int v22), .val (.ref b177), .val (.ref b201), .val .null, .unset, .unset, .unset] [(.ref o204)]))
      refine Ow.astore X205 hx (pc' := 121) (hb hby at_119) rfl (l' := #[.val (.int xlaw_1), .val (.int xlaw_2), .val (.int xlaw_3), .val (.int xlaw_4), .val (.int xlaw_5), .val (.int (3 : Int32)), .val (.int (2 : Int32)), .val (.int v14), .val (.int v18), .val (.int v22), .val (.ref b177), .val (.ref b201), .val .null, .val (.ref o204), .unset, .unset]) rfl ?_
      refine Ow.aload X205 hx (pc' := 123) (hb hby at_121) rfl rfl ?_
      obtain ⟨cq206, kq206, q206a, q206b, q206c⟩ := isOf hZ205 e205 A204_t205
      obtain ⟨_, _, ⟨T206, L206, k206, n206⟩, -, X206, ⟨Lc206, hQ206, l206, y206, z206⟩, st206⟩ := X205.virtualBack hx (y := mt5) (z := mt5) hown205 (mvT hZ205 (kw51 hw)) (mvT hZ205 (kw52 hw)) (notFace_of_selects (args := #[]) (mvT hZ205 (kw54 hw))) (mvT hZ205 (kw54 hw)) (mvT hZ205 (kw53 hw)) (by decide) (backOf (W := 0) (rm_ui2 l Z a0 hw [] o204 b47_c51_c205 v14 v18 T205.heap n0 Z205 P205_8 P205_6 P205_7 ((own_fc (own_fb hv14) (own_fc (own_fb hv18) own_f0)))) hZ205 (kw55 hw) (kw3 hw) (by decide) (by decide)) q206a q206c (g := (mkF m 123 #[.val (.int xlaw_1), .val (.int xlaw_2), .val (.int xlaw_3), .val (.int xlaw_4), .val (.int xlaw_5), .val (.int (3 : Int32)), .val (.int (2 : Int32)), .val (.int v14), .val (.int v18), .val (.int v22), .val (.ref b177), .val (.ref b201), .val .null, .val (.ref o204), .unset, .unset] [(.ref o204)])) rfl (by rw [hml]; rfl) (Steps.refl _) (argsL := []) (rest := []) (lenOf pd7 rfl) rfl (by show 2 * 0 + _ ≤ _; exact Nat.le_of_eq rfl) (hb hby at_123) (fun _ _ => ⟨rfl, e205, (by decide : 7 + 1 ≤ _), (by decide : 76 + 2 ≤ _)⟩)
      dsimp only [Pt.U, Pt.locs, Pt.cells, Pt.slots] at X206 l206 y206 z206 st206 hQ206
      subst l206 y206 z206
      obtain ⟨b74_c206, rfl, Nq206, Kq206, szq_b74_c206, P206_0, P206_1⟩ := hQ206
      have g_b74_c206 : n0 ≤ b74_c206 := Nat.le_trans Z205 szq_b74_c206
      have sz_b74_c206 : h0.size ≤ b74_c206 := Nat.le_trans K205.1 szq_b74_c206
      have ne_uNONE_b74_c206 : uNONE ≠ b74_c206 := Nat.ne_of_lt (Nat.lt_of_lt_of_le E_uNONE_t205.lt szq_b74_c206)
      have ne_ucl_b74_c206 : ucl ≠ b74_c206 := Nat.ne_of_lt (Nat.lt_of_lt_of_le V_ucl_t205.lt szq_b74_c206)
      have ne_b177_b74_c206 : b177 ≠ b74_c206 := Nat.ne_of_lt (Nat.lt_of_lt_of_le Ex177_t205.lt szq_b74_c206)
      have ne_b201_b74_c206 : b201 ≠ b74_c206 := Nat.ne_of_lt (Nat.lt_of_lt_of_le Ex201_t205.lt szq_b74_c206)
      have ne_o204_b74_c206 : o204 ≠ b74_c206 := Nat.ne_of_lt (Nat.lt_of_lt_of_le A204_t205.lt szq_b74_c206)
      have ne_b43_c51_c205_b74_c206 : b43_c51_c205 ≠ b74_c206 := Nat.ne_of_lt (Nat.lt_of_lt_of_le P205_2.lt szq_b74_c206)
      have ne_b47_c51_c205_b74_c206 : b47_c51_c205 ≠ b74_c206 := Nat.ne_of_lt (Nat.lt_of_lt_of_le P205_6.lt szq_b74_c206)
      have N206 := Fr.app N205 Nq206
      have hk206 := Nat.le_trans hk205 Kq206.1
      have K206 : Keep h0 T206.heap [] := K205.trans Kq206 all0
      have Z206 : n0 ≤ T206.heap.size := Nat.le_trans Z205 Kq206.1
      have S_NONE_t206 := Jvm.OwnW.Sta.keepN S_NONE_t205 Kq206 all0
      have E_uNONE_t206 := E_uNONE_t205.keep Kq206
      have S_high_t206 := Jvm.OwnW.Sta.keepN S_high_t205 Kq206 all0
      have S_cache_t206 := Jvm.OwnW.Sta.keepN S_cache_t205 Kq206 all0
      have V_ucl_t206 := V_ucl_t205.keep Kq206 nin0
      have Ex177_t206 := Ex177_t205.keep Kq206
      have V_b177_t206 := V_b177_t205.keep Kq206 nin0
      have Ex201_t206 := Ex201_t205.keep Kq206
      have V_b201_t206 := V_b201_t205.keep Kq206 nin0
      have A204_t206 := A204_t205.keep Kq206
      have P205_1_t206 := P205_1.keep Kq206 nin0
      have P205_2_t206 := P205_2.keep Kq206 nin0
      have P205_3_t206 := P205_3.keep Kq206
      have P205_4_t206 := P205_4.keep Kq206 nin0
      have P205_5_t206 := P205_5.keep Kq206 nin0
      have P205_6_t206 := P205_6.keep Kq206 nin0
      have P205_7_t206 := P205_7.keep Kq206
      have P205_8_t206 := P205_8.keep Kq206 nin0
      have e206 : T206.heap = T206.heap := rfl
      refine Wq.steps st206 ?_
      show Wq _ _ _ _ _ (T206.setTop (mkF m 126 #[.val (.int xlaw_1), .val (.int xlaw_2), .val (.int xlaw_3), .val (.int xlaw_4), .val (.int xlaw_5), .val (.int (3 : Int32)), .val (.int (2 : Int32)), .val (.int v14), .val (.int v18), .val (.int v22), .val (.ref b177), .val (.ref b201), .val .null, .val (.ref o204), .unset, .unset] [(.ref b74_c206)]))
      refine Ow.astore X206 hx (pc' := 128) (hb hby at_126) rfl (l' := #[.val (.int xlaw_1), .val (.int xlaw_2), .val (.int xlaw_3), .val (.int xlaw_4), .val (.int xlaw_5), .val (.int (3 : Int32)), .val (.int (2 : Int32)), .val (.int v14), .val (.int v18), .val (.int v22), .val (.ref b177), .val (.ref b201), .val .null, .val (.ref o204), .val (.ref b74_c206), .unset]) rfl ?_
      refine Ow.aload X206 hx (pc' := 130) (hb hby at_128) rfl rfl ?_
      refine Ow.ifnonnullYes X206 hx (pc' := 152) (hb hby at_130) (by decide) (by decide) ?_
      refine Ow.aload X206 hx (pc' := 154) (hb hby at_152) rfl rfl ?_
      refine Ow.ifnullNo X206 hx (pc' := 157) (hb hby at_154)  ?_
      refine Ow.aload X206 hx (pc' := 159) (hb hby at_157) rfl rfl ?_
      refine Ow.aload X206 hx (pc' := 161) (hb hby at_159) rfl rfl ?_
      refine Ow.acmp X206 hx (pc' := 164) (hb hby at_161) rfl rfl (same := false) (decide_eq_false fun q => (Ne.symm ne_b201_b74_c206) (Value.ref.inj q)) (by decide) (by decide) ?_
      refine Ow.aload X206 hx (pc' := 166) (hb hby at_164) rfl rfl ?_
      refine Ow.iload X206 hx (pc' := 168) (hb hby at_166) rfl ?_
      refine Ow.iload X206 hx (pc' := 170) (hb hby at_168) rfl ?_
      refine Ow.iload X206 hx (pc' := 172) (hb hby at_170) rfl ?_
      refine Ow.iload X206 hx (pc' := 174) (hb hby at_172) rfl ?_
      obtain ⟨_, _, ⟨T207, L207, k207, n207⟩, -, X207, ⟨Lc207, hQ207, l207, y207, z207⟩, st207⟩ := Jvm.LawKit.callS X206 hx (y := mt6) hown205 (mvT hZ205 (kw56 hw)) (mvT hZ205 (kw57 hw)) (mvT hZ205 (kw58 hw)) (mvT hZ205 (kw59 hw)) (by decide) (backOf (W := 0) (rm_sm2 l Z a0 hw [] b74_c206 v14 v18 v22 v14 v18 T206.heap n0 Z206 P206_0) hZ205 (kw59 hw) (kw58 hw) (by decide) (by decide)) (g := (mkF m 174 #[.val (.int xlaw_1), .val (.int xlaw_2), .val (.int xlaw_3), .val (.int xlaw_4), .val (.int xlaw_5), .val (.int (3 : Int32)), .val (.int (2 : Int32)), .val (.int v14), .val (.int v18), .val (.int v22), .val (.ref b177), .val (.ref b201), .val .null, .val (.ref o204), .val (.ref b74_c206), .unset] [(.int v22), (.int v18), (.int v14), (.int (2 : Int32)), (.ref b74_c206)])) rfl (by rw [hml]; rfl) (argsL := [(.ref b74_c206), (.int (2 : Int32)), (.int v14), (.int v18), (.int v22)]) (rest := []) (lenOf pd9 rfl) rfl (by show 2 * 0 + _ ≤ _; exact Nat.le_of_eq rfl) (hb hby at_174) (fun _ _ => ⟨rfl, e206, (by decide : 8 + 0 ≤ _), (by decide : 78 + 0 ≤ _)⟩)
      dsimp only [Pt.U, Pt.locs, Pt.cells, Pt.slots] at X207 l207 y207 z207 st207 hQ207
      subst l207 y207 z207
      obtain ⟨rfl, Nq207, e207⟩ := hQ207
      have N207 := Fr.app N206 Nq207
      refine Wq.step st207 ?_
      show Wq _ _ _ _ _ (T207.setTop (mkF m 177 #[.val (.int xlaw_1), .val (.int xlaw_2), .val (.int xlaw_3), .val (.int xlaw_4), .val (.int xlaw_5), .val (.int (3 : Int32)), .val (.int (2 : Int32)), .val (.int v14), .val (.int v18), .val (.int v22), .val (.ref b177), .val (.ref b201), .val .null, .val (.ref o204), .val (.ref b74_c206), .unset] [(.int (f_sm2 v14 v18 v22 v14 v18))]))
      generalize hv174 : (f_sm2 v14 v18 v22 v14 v18) = v174
      show Wq _ _ _ _ _ (T207.setTop (mkF m 177 #[.val (.int xlaw_1), .val (.int xlaw_2), .val (.int xlaw_3), .val (.int xlaw_4), .val (.int xlaw_5), .val (.int (3 : Int32)), .val (.int (2 : Int32)), .val (.int v14), .val (.int v18), .val (.int v22), .val (.ref b177), .val (.ref b201), .val .null, .val (.ref o204), .val (.ref b74_c206), .unset] [(.int v174)]))
      refine Ow.ifYes X207 hx (pc' := 182) (hb hby at_177) ((if0 _ _).trans (feq (by subst hv174; simp [f_sm2] : ¬ (v174 = (0 : Int32)))).2) (by decide) (by decide) ?_
      refine Ow.aload X207 hx (pc' := 184) (hb hby at_182) rfl rfl ?_
      obtain ⟨_, _, ⟨T208, L208, k208, n208⟩, -, X208, ⟨Lc208, hQ208, l208, y208, z208⟩, st208⟩ := Jvm.LawKit.callS X207 hx (y := mt7) hown205 (mvT hZ205 (kw60 hw)) (mvT hZ205 (kw61 hw)) (mvT hZ205 (kw58 hw)) (mvT hZ205 (kw62 hw)) (by decide) (backOf (W := 0) (rm_fl2 l Z a0 hw [] b201 v14 v18 T206.heap n0 Z206 V_b201_t206 g_b201) hZ205 (kw62 hw) (kw58 hw) (by decide) (by decide)) (g := (mkF m 184 #[.val (.int xlaw_1), .val (.int xlaw_2), .val (.int xlaw_3), .val (.int xlaw_4), .val (.int xlaw_5), .val (.int (3 : Int32)), .val (.int (2 : Int32)), .val (.int v14), .val (.int v18), .val (.int v22), .val (.ref b177), .val (.ref b201), .val .null, .val (.ref o204), .val (.ref b74_c206), .unset] [(.ref b201)])) rfl (by rw [hml]; rfl) (argsL := [(.ref b201)]) (rest := []) (lenOf pd10 rfl) rfl (by show 2 * 0 + _ ≤ _; exact Nat.le_of_eq rfl) (hb hby at_184) (fun _ _ => ⟨rfl, e207, (by decide : 8 + 0 ≤ _), (by decide : 78 + 0 ≤ _)⟩)
      dsimp only [Pt.U, Pt.locs, Pt.cells, Pt.slots] at X208 l208 y208 z208 st208 hQ208
      subst l208 y208 z208
      obtain ⟨rfl, Nq208, Kq208, P208_0⟩ := hQ208
      have N208 := Fr.app N207 Nq208
      have hk208 := Nat.le_trans hk206 Kq208.1
      have K208 : Keep h0 T208.heap [] := K206.trans Kq208 (allS (P := fun x => x ∈ [] ∨ h0.size ≤ x) (Or.inr sz_b201) all0)
      have Z208 : n0 ≤ T208.heap.size := Nat.le_trans Z206 Kq208.1
      have S_NONE_t208 := Jvm.OwnW.Sta.keepN S_NONE_t206 Kq208 (allS (P := fun w => ∀ cell : Cell, T206.heap[w]? = some cell → cell.vm.isStatics = false) (Jvm.OwnW.Exa.ns Ex201_t206) all0)
      have E_uNONE_t208 := E_uNONE_t206.keep Kq208
      have S_high_t208 := Jvm.OwnW.Sta.keepN S_high_t206 Kq208 (allS (P := fun w => ∀ cell : Cell, T206.heap[w]? = some cell → cell.vm.isStatics = false) (Jvm.OwnW.Exa.ns Ex201_t206) all0)
      have S_cache_t208 := Jvm.OwnW.Sta.keepN S_cache_t206 Kq208 (allS (P := fun w => ∀ cell : Cell, T206.heap[w]? = some cell → cell.vm.isStatics = false) (Jvm.OwnW.Exa.ns Ex201_t206) all0)
      have V_ucl_t208 := V_ucl_t206.keep Kq208 (ninS ne_ucl_b201 nin0)
      have Ex177_t208 := Ex177_t206.keep Kq208
      have V_b177_t208 := V_b177_t206.keep Kq208 (ninS ne_b177_b201 nin0)
      have Ex201_t208 := Ex201_t206.keep Kq208
      have A204_t208 := A204_t206.keep Kq208
      have P205_1_t208 := P205_1_t206.keep Kq208 (ninS (Ne.symm ne_b201_o204) nin0)
      have P205_2_t208 := P205_2_t206.keep Kq208 (ninS (Ne.symm ne_b201_b43_c51_c205) nin0)
      have P205_3_t208 := P205_3_t206.keep Kq208
      have P205_4_t208 := P205_4_t206.keep Kq208 (ninS (Ne.symm ne_b201_o204) nin0)
      have P205_5_t208 := P205_5_t206.keep Kq208 (ninS (Ne.symm ne_b201_o204) nin0)
      have P205_6_t208 := P205_6_t206.keep Kq208 (ninS (Ne.symm ne_b201_b47_c51_c205) nin0)
      have P205_7_t208 := P205_7_t206.keep Kq208
      have P205_8_t208 := P205_8_t206.keep Kq208 (ninS (Ne.symm ne_b201_o204) nin0)
      have P206_0_t208 := P206_0.keep Kq208 (ninS (Ne.symm ne_b201_b74_c206) nin0)
      have P206_1_t208 := P206_1.keep Kq208
      have e208 : T208.heap = T208.heap := rfl
      obtain ⟨q209, hq209⟩ : ∃ z : Int32, z = (((v14 ^^^ (-1 : Int32)).toInt8.toInt32).toInt8.toInt32) := ⟨_, rfl⟩
      rw [← hq209] at P208_0
      obtain ⟨q210, hq210⟩ : ∃ z : Int32, z = (((v18 ^^^ (-1 : Int32)).toInt8.toInt32).toInt8.toInt32) := ⟨_, rfl⟩
      rw [← hq210] at P208_0
      refine Wq.step st208 ?_
      show Wq _ _ _ _ _ (T208.setTop (mkF m 187 #[.val (.int xlaw_1), .val (.int xlaw_2), .val (.int xlaw_3), .val (.int xlaw_4), .val (.int xlaw_5), .val (.int (3 : Int32)), .val (.int (2 : Int32)), .val (.int v14), .val (.int v18), .val (.int v22), .val (.ref b177), .val (.ref b201), .val .null, .val (.ref o204), .val (.ref b74_c206), .unset] []))
      refine Ow.aload X208 hx (pc' := 189) (hb hby at_187) rfl rfl ?_
      obtain ⟨_, _, ⟨T211, L211, k211, n211⟩, -, X211, ⟨Lc211, hQ211, l211, y211, z211⟩, st211⟩ := Jvm.LawKit.callS X208 hx (y := mt7) hown205 (mvT hZ205 (kw60 hw)) (mvT hZ205 (kw61 hw)) (mvT hZ205 (kw58 hw)) (mvT hZ205 (kw62 hw)) (by decide) (backOf (W := 0) (rm_fl2 l Z a0 hw [] b74_c206 v14 v18 T208.heap n0 Z208 P206_0_t208 g_b74_c206) hZ205 (kw62 hw) (kw58 hw) (by decide) (by decide)) (g := (mkF m 189 #[.val (.int xlaw_1), .val (.int xlaw_2), .val (.int xlaw_3), .val (.int xlaw_4), .val (.int xlaw_5), .val (.int (3 : Int32)), .val (.int (2 : Int32)), .val (.int v14), .val (.int v18), .val (.int v22), .val (.ref b177), .val (.ref b201), .val .null, .val (.ref o204), .val (.ref b74_c206), .unset] [(.ref b74_c206)])) rfl (by rw [hml]; rfl) (argsL := [(.ref b74_c206)]) (rest := []) (lenOf pd10 rfl) rfl (by show 2 * 0 + _ ≤ _; exact Nat.le_of_eq rfl) (hb hby at_189) (fun _ _ => ⟨rfl, e208, (by decide : 8 + 0 ≤ _), (by decide : 78 + 0 ≤ _)⟩)
      dsimp only [Pt.U, Pt.locs, Pt.cells, Pt.slots] at X211 l211 y211 z211 st211 hQ211
      subst l211 y211 z211
      obtain ⟨rfl, Nq211, Kq211, P211_0⟩ := hQ211
      have N211 := Fr.app N208 Nq211
      have hk211 := Nat.le_trans hk208 Kq211.1
      have K211 : Keep h0 T211.heap [] := K208.trans Kq211 (allS (P := fun x => x ∈ [] ∨ h0.size ≤ x) (Or.inr sz_b74_c206) all0)
      have Z211 : n0 ≤ T211.heap.size := Nat.le_trans Z208 Kq211.1
      have S_NONE_t211 := Jvm.OwnW.Sta.keepN S_NONE_t208 Kq211 (allS (P := fun w => ∀ cell : Cell, T208.heap[w]? = some cell → cell.vm.isStatics = false) (Jvm.OwnW.Exa.ns P206_1_t208) all0)
      have E_uNONE_t211 := E_uNONE_t208.keep Kq211
      have S_high_t211 := Jvm.OwnW.Sta.keepN S_high_t208 Kq211 (allS (P := fun w => ∀ cell : Cell, T208.heap[w]? = some cell → cell.vm.isStatics = false) (Jvm.OwnW.Exa.ns P206_1_t208) all0)
      have S_cache_t211 := Jvm.OwnW.Sta.keepN S_cache_t208 Kq211 (allS (P := fun w => ∀ cell : Cell, T208.heap[w]? = some cell → cell.vm.isStatics = false) (Jvm.OwnW.Exa.ns P206_1_t208) all0)
      have V_ucl_t211 := V_ucl_t208.keep Kq211 (ninS ne_ucl_b74_c206 nin0)
      have Ex177_t211 := Ex177_t208.keep Kq211
      have V_b177_t211 := V_b177_t208.keep Kq211 (ninS ne_b177_b74_c206 nin0)
      have Ex201_t211 := Ex201_t208.keep Kq211
      have A204_t211 := A204_t208.keep Kq211
      have P205_1_t211 := P205_1_t208.keep Kq211 (ninS ne_o204_b74_c206 nin0)
      have P205_2_t211 := P205_2_t208.keep Kq211 (ninS ne_b43_c51_c205_b74_c206 nin0)
      have P205_3_t211 := P205_3_t208.keep Kq211
      have P205_4_t211 := P205_4_t208.keep Kq211 (ninS ne_o204_b74_c206 nin0)
      have P205_5_t211 := P205_5_t208.keep Kq211 (ninS ne_o204_b74_c206 nin0)
      have P205_6_t211 := P205_6_t208.keep Kq211 (ninS ne_b47_c51_c205_b74_c206 nin0)
      have P205_7_t211 := P205_7_t208.keep Kq211
      have P205_8_t211 := P205_8_t208.keep Kq211 (ninS ne_o204_b74_c206 nin0)
      have P206_1_t211 := P206_1_t208.keep Kq211
      have P208_0_t211 := P208_0.keep Kq211 (ninS ne_b201_b74_c206 nin0)
      have e211 : T211.heap = T211.heap := rfl
      obtain ⟨q212, hq212⟩ : ∃ z : Int32, z = (((v14 ^^^ (-1 : Int32)).toInt8.toInt32).toInt8.toInt32) := ⟨_, rfl⟩
      rw [← hq212] at P211_0
      obtain ⟨q213, hq213⟩ : ∃ z : Int32, z = (((v18 ^^^ (-1 : Int32)).toInt8.toInt32).toInt8.toInt32) := ⟨_, rfl⟩
      rw [← hq213] at P211_0
      refine Wq.step st211 ?_
      show Wq _ _ _ _ _ (T211.setTop (mkF m 192 #[.val (.int xlaw_1), .val (.int xlaw_2), .val (.int xlaw_3), .val (.int xlaw_4), .val (.int xlaw_5), .val (.int (3 : Int32)), .val (.int (2 : Int32)), .val (.int v14), .val (.int v18), .val (.int v22), .val (.ref b177), .val (.ref b201), .val .null, .val (.ref o204), .val (.ref b74_c206), .unset] []))
      refine Ow.aload X211 hx (pc' := 194) (hb hby at_192) rfl rfl ?_
      obtain ⟨cq214, kq214, q214a, q214b, q214c⟩ := isOf hZ205 e211 A204_t211
      obtain ⟨_, _, ⟨T214, L214, k214, n214⟩, -, X214, ⟨Lc214, hQ214, l214, y214, z214⟩, st214⟩ := X211.virtualBack hx (y := mt5) (z := mt5) hown205 (mvT hZ205 (kw51 hw)) (mvT hZ205 (kw52 hw)) (notFace_of_selects (args := #[]) (mvT hZ205 (kw54 hw))) (mvT hZ205 (kw54 hw)) (mvT hZ205 (kw53 hw)) (by decide) (backOf (W := 0) (rm_ui2 l Z a0 hw [] o204 b47_c51_c205 v14 v18 T211.heap n0 Z211 P205_8_t211 P205_6_t211 P205_7_t211 ((own_fc (own_fb hv14) (own_fc (own_fb hv18) own_f0)))) hZ205 (kw55 hw) (kw3 hw) (by decide) (by decide)) q214a q214c (g := (mkF m 194 #[.val (.int xlaw_1), .val (.int xlaw_2), .val (.int xlaw_3), .val (.int xlaw_4), .val (.int xlaw_5), .val (.int (3 : Int32)), .val (.int (2 : Int32)), .val (.int v14), .val (.int v18), .val (.int v22), .val (.ref b177), .val (.ref b201), .val .null, .val (.ref o204), .val (.ref b74_c206), .unset] [(.ref o204)])) rfl (by rw [hml]; rfl) (Steps.refl _) (argsL := []) (rest := []) (lenOf pd7 rfl) rfl (by show 2 * 0 + _ ≤ _; exact Nat.le_of_eq rfl) (hb hby at_194) (fun _ _ => ⟨rfl, e211, (by decide : 8 + 1 ≤ _), (by decide : 78 + 2 ≤ _)⟩)
      dsimp only [Pt.U, Pt.locs, Pt.cells, Pt.slots] at X214 l214 y214 z214 st214 hQ214
      subst l214 y214 z214
      obtain ⟨b74_c214, rfl, Nq214, Kq214, szq_b74_c214, P214_0, P214_1⟩ := hQ214
      have g_b74_c214 : n0 ≤ b74_c214 := Nat.le_trans Z211 szq_b74_c214
      have sz_b74_c214 : h0.size ≤ b74_c214 := Nat.le_trans K211.1 szq_b74_c214
      have ne_uNONE_b74_c214 : uNONE ≠ b74_c214 := Nat.ne_of_lt (Nat.lt_of_lt_of_le E_uNONE_t211.lt szq_b74_c214)
      have ne_ucl_b74_c214 : ucl ≠ b74_c214 := Nat.ne_of_lt (Nat.lt_of_lt_of_le V_ucl_t211.lt szq_b74_c214)
      have ne_b177_b74_c214 : b177 ≠ b74_c214 := Nat.ne_of_lt (Nat.lt_of_lt_of_le Ex177_t211.lt szq_b74_c214)
      have ne_b201_b74_c214 : b201 ≠ b74_c214 := Nat.ne_of_lt (Nat.lt_of_lt_of_le Ex201_t211.lt szq_b74_c214)
      have ne_o204_b74_c214 : o204 ≠ b74_c214 := Nat.ne_of_lt (Nat.lt_of_lt_of_le A204_t211.lt szq_b74_c214)
      have ne_b43_c51_c205_b74_c214 : b43_c51_c205 ≠ b74_c214 := Nat.ne_of_lt (Nat.lt_of_lt_of_le P205_2_t211.lt szq_b74_c214)
      have ne_b47_c51_c205_b74_c214 : b47_c51_c205 ≠ b74_c214 := Nat.ne_of_lt (Nat.lt_of_lt_of_le P205_6_t211.lt szq_b74_c214)
      have ne_b74_c206_b74_c214 : b74_c206 ≠ b74_c214 := Nat.ne_of_lt (Nat.lt_of_lt_of_le P206_1_t211.lt szq_b74_c214)
      have N214 := Fr.app N211 Nq214
      have hk214 := Nat.le_trans hk211 Kq214.1
      have K214 : Keep h0 T214.heap [] := K211.trans Kq214 all0
      have Z214 : n0 ≤ T214.heap.size := Nat.le_trans Z211 Kq214.1
      have S_NONE_t214 := Jvm.OwnW.Sta.keepN S_NONE_t211 Kq214 all0
      have E_uNONE_t214 := E_uNONE_t211.keep Kq214
      have S_high_t214 := Jvm.OwnW.Sta.keepN S_high_t211 Kq214 all0
      have S_cache_t214 := Jvm.OwnW.Sta.keepN S_cache_t211 Kq214 all0
      have V_ucl_t214 := V_ucl_t211.keep Kq214 nin0
      have Ex177_t214 := Ex177_t211.keep Kq214
      have V_b177_t214 := V_b177_t211.keep Kq214 nin0
      have Ex201_t214 := Ex201_t211.keep Kq214
      have A204_t214 := A204_t211.keep Kq214
      have P205_1_t214 := P205_1_t211.keep Kq214 nin0
      have P205_2_t214 := P205_2_t211.keep Kq214 nin0
      have P205_3_t214 := P205_3_t211.keep Kq214
      have P205_4_t214 := P205_4_t211.keep Kq214 nin0
      have P205_5_t214 := P205_5_t211.keep Kq214 nin0
      have P205_6_t214 := P205_6_t211.keep Kq214 nin0
      have P205_7_t214 := P205_7_t211.keep Kq214
      have P205_8_t214 := P205_8_t211.keep Kq214 nin0
      have P206_1_t214 := P206_1_t211.keep Kq214
      have P208_0_t214 := P208_0_t211.keep Kq214 nin0
      have P211_0_t214 := P211_0.keep Kq214 nin0
      have e214 : T214.heap = T214.heap := rfl
      refine Wq.steps st214 ?_
      show Wq _ _ _ _ _ (T214.setTop (mkF m 197 #[.val (.int xlaw_1), .val (.int xlaw_2), .val (.int xlaw_3), .val (.int xlaw_4), .val (.int xlaw_5), .val (.int (3 : Int32)), .val (.int (2 : Int32)), .val (.int v14), .val (.int v18), .val (.int v22), .val (.ref b177), .val (.ref b201), .val .null, .val (.ref o204), .val (.ref b74_c206), .unset] [(.ref b74_c214)]))
      refine Ow.astore X214 hx (pc' := 199) (hb hby at_197) rfl (l' := #[.val (.int xlaw_1), .val (.int xlaw_2), .val (.int xlaw_3), .val (.int xlaw_4), .val (.int xlaw_5), .val (.int (3 : Int32)), .val (.int (2 : Int32)), .val (.int v14), .val (.int v18), .val (.int v22), .val (.ref b177), .val (.ref b201), .val .null, .val (.ref o204), .val (.ref b74_c206), .val (.ref b74_c214)]) rfl ?_
      refine Ow.aload X214 hx (pc' := 201) (hb hby at_199) rfl rfl ?_
      refine Ow.ifnullNo X214 hx (pc' := 204) (hb hby at_201)  ?_
      refine Ow.aload X214 hx (pc' := 206) (hb hby at_204) rfl rfl ?_
      refine Ow.aload X214 hx (pc' := 208) (hb hby at_206) rfl rfl ?_
      refine Ow.acmp X214 hx (pc' := 211) (hb hby at_208) rfl rfl (same := false) (decide_eq_false fun q => (Ne.symm ne_b74_c206_b74_c214) (Value.ref.inj q)) (by decide) (by decide) ?_
      refine Ow.aload X214 hx (pc' := 213) (hb hby at_211) rfl rfl ?_
      refine Ow.aload X214 hx (pc' := 215) (hb hby at_213) rfl rfl ?_
      refine Ow.acmp X214 hx (pc' := 218) (hb hby at_215) rfl rfl (same := false) (decide_eq_false fun q => (Ne.symm ne_b201_b74_c214) (Value.ref.inj q)) (by decide) (by decide) ?_
      refine Ow.aload X214 hx (pc' := 220) (hb hby at_218) rfl rfl ?_
      refine Ow.iload X214 hx (pc' := 222) (hb hby at_220) rfl ?_
      refine Ow.iload X214 hx (pc' := 224) (hb hby at_222) rfl ?_
      refine Ow.iload X214 hx (pc' := 226) (hb hby at_224) rfl ?_
      refine Ow.iload X214 hx (pc' := 228) (hb hby at_226) rfl ?_
      obtain ⟨_, _, ⟨T215, L215, k215, n215⟩, -, X215, ⟨Lc215, hQ215, l215, y215, z215⟩, st215⟩ := Jvm.LawKit.callS X214 hx (y := mt6) hown205 (mvT hZ205 (kw56 hw)) (mvT hZ205 (kw57 hw)) (mvT hZ205 (kw58 hw)) (mvT hZ205 (kw59 hw)) (by decide) (backOf (W := 0) (rm_sm2 l Z a0 hw [] b74_c214 v14 v18 v22 v14 v18 T214.heap n0 Z214 P214_0) hZ205 (kw59 hw) (kw58 hw) (by decide) (by decide)) (g := (mkF m 228 #[.val (.int xlaw_1), .val (.int xlaw_2), .val (.int xlaw_3), .val (.int xlaw_4), .val (.int xlaw_5), .val (.int (3 : Int32)), .val (.int (2 : Int32)), .val (.int v14), .val (.int v18), .val (.int v22), .val (.ref b177), .val (.ref b201), .val .null, .val (.ref o204), .val (.ref b74_c206), .val (.ref b74_c214)] [(.int v22), (.int v18), (.int v14), (.int (2 : Int32)), (.ref b74_c214)])) rfl (by rw [hml]; rfl) (argsL := [(.ref b74_c214), (.int (2 : Int32)), (.int v14), (.int v18), (.int v22)]) (rest := []) (lenOf pd9 rfl) rfl (by show 2 * 0 + _ ≤ _; exact Nat.le_of_eq rfl) (hb hby at_228) (fun _ _ => ⟨rfl, e214, (by decide : 9 + 0 ≤ _), (by decide : 80 + 0 ≤ _)⟩)
      dsimp only [Pt.U, Pt.locs, Pt.cells, Pt.slots] at X215 l215 y215 z215 st215 hQ215
      subst l215 y215 z215
      obtain ⟨rfl, Nq215, e215⟩ := hQ215
      have N215 := Fr.app N214 Nq215
      refine Wq.step st215 ?_
      show Wq _ _ _ _ _ (T215.setTop (mkF m 231 #[.val (.int xlaw_1), .val (.int xlaw_2), .val (.int xlaw_3), .val (.int xlaw_4), .val (.int xlaw_5), .val (.int (3 : Int32)), .val (.int (2 : Int32)), .val (.int v14), .val (.int v18), .val (.int v22), .val (.ref b177), .val (.ref b201), .val .null, .val (.ref o204), .val (.ref b74_c206), .val (.ref b74_c214)] [(.int (f_sm2 v14 v18 v22 v14 v18))]))
      generalize hv228 : (f_sm2 v14 v18 v22 v14 v18) = v228
      show Wq _ _ _ _ _ (T215.setTop (mkF m 231 #[.val (.int xlaw_1), .val (.int xlaw_2), .val (.int xlaw_3), .val (.int xlaw_4), .val (.int xlaw_5), .val (.int (3 : Int32)), .val (.int (2 : Int32)), .val (.int v14), .val (.int v18), .val (.int v22), .val (.ref b177), .val (.ref b201), .val .null, .val (.ref o204), .val (.ref b74_c206), .val (.ref b74_c214)] [(.int v228)]))
      refine Ow.ifNo X215 hx (pc' := 234) (hb hby at_231) ((if0 _ _).trans (feq (by subst hv228; simp [f_sm2] : ¬ (v228 = (0 : Int32)))).1) ?_
      refine Ow.iconst X215 hx (pc' := 235) (hb hby at_234) (z := (1 : Int32)) rfl ?_
      refine Ow.goto X215 hx (pc' := 239) (hb hby at_235) (by decide) (by decide) ?_
      exact Wq.retW X215 hS205 (by rw [e215]; exact hk214) (BodyLoose.notSynchronized Bd) (rv := some (.int (1 : Int32))) (fun h => by rw [Bd.returns] at h; cases h) (fun _ hr => retN X215 hx (t := .boolean) Bd.returns (by simp) (hb hby at_239) hr) (by decide) (by decide) ⟨rfl, N215⟩
    · skip
      show Wq _ _ _ _ _ (T179.setTop (mkF m 48 #[.val (.int xlaw_1), .val (.int xlaw_2), .val (.int xlaw_3), .val (.int xlaw_4), .val (.int xlaw_5), .val (.int (3 : Int32)), .val (.int (3 : Int32)), .val (.int v14), .val (.int v18), .val (.int v22), .val (.ref b177), .val .null, .unset, .unset, .unset, .unset] []))
      refine Ow.iload X179 hx (pc' := 50) (hb hby at_48) rfl ?_
      obtain ⟨T216, h216, k216, X216, e216, E216, A216, Ex216, st216⟩ := newPE X179 hx hZ (aty := .byte) (kw0 hw) e179 (g := (mkF m 50 #[.val (.int xlaw_1), .val (.int xlaw_2), .val (.int xlaw_3), .val (.int xlaw_4), .val (.int xlaw_5), .val (.int (3 : Int32)), .val (.int (3 : Int32)), .val (.int v14), .val (.int v18), .val (.int v22), .val (.ref b177), .val .null, .unset, .unset, .unset, .unset] [(.int (3 : Int32))])) rfl (hb hby at_50) rfl (by decide) (cap := 3) (by decide) (by decide) (by decide) (by decide) (ad := "[B") (by decide)
      obtain ⟨b216, gz216⟩ : ∃ z, z = h179.size := ⟨_, rfl⟩
      rw [← gz216] at A216 Ex216 st216
      have g_b216 : n0 ≤ b216 := Nat.le_trans Z179 (Nat.le_of_eq gz216.symm)
      have sz_b216 : h0.size ≤ b216 := Nat.le_trans K179.1 (Nat.le_of_eq gz216.symm)
      have ne_uNONE_b216 : uNONE ≠ b216 := Nat.ne_of_lt (Nat.lt_of_lt_of_le E_uNONE_t179.lt (Nat.le_of_eq gz216.symm))
      have ne_ucl_b216 : ucl ≠ b216 := Nat.ne_of_lt (Nat.lt_of_lt_of_le V_ucl_t179.lt (Nat.le_of_eq gz216.symm))
      have ne_b177_b216 : b177 ≠ b216 := Nat.ne_of_lt (Nat.lt_of_lt_of_le Ex177_t179.lt (Nat.le_of_eq gz216.symm))
      have K216 : Keep h0 h216 [] := K179.ext E216
      have Z216 : n0 ≤ h216.size := Nat.le_trans Z179 E216.1
      have hk216 := Nat.le_trans hk179 E216.1
      have S_NONE_t216 := S_NONE_t179.ext E216
      have E_uNONE_t216 := E_uNONE_t179.ext E216
      have S_high_t216 := S_high_t179.ext E216
      have S_cache_t216 := S_cache_t179.ext E216
      have V_ucl_t216 := V_ucl_t179.ext E216
      have Ex177_t216 := Ex177_t179.ext E216
      have V_b177_t216 := V_b177_t179.ext E216
      have V_b216 : Al Z h216 b216 .byte [(.int (0 : Int32)), (.int (0 : Int32)), (.int (0 : Int32))] := Al.new A216 (k := 3) (rfl) rfl
      refine Wq.step st216 ?_
      show Wq _ _ _ _ _ (T216.setTop (mkF m 52 #[.val (.int xlaw_1), .val (.int xlaw_2), .val (.int xlaw_3), .val (.int xlaw_4), .val (.int xlaw_5), .val (.int (3 : Int32)), .val (.int (3 : Int32)), .val (.int v14), .val (.int v18), .val (.int v22), .val (.ref b177), .val .null, .unset, .unset, .unset, .unset] [(.ref b216)]))
      refine Ow.astore X216 hx (pc' := 54) (hb hby at_52) rfl (l' := #[.val (.int xlaw_1), .val (.int xlaw_2), .val (.int xlaw_3), .val (.int xlaw_4), .val (.int xlaw_5), .val (.int (3 : Int32)), .val (.int (3 : Int32)), .val (.int v14), .val (.int v18), .val (.int v22), .val (.ref b177), .val (.ref b216), .unset, .unset, .unset, .unset]) rfl ?_
      refine Ow.iload X216 hx (pc' := 56) (hb hby at_54) rfl ?_
      refine Ow.ifNo X216 hx (pc' := 59) (hb hby at_56) ((if0 _ _).trans (tlt (by decide : (0 : Int32) < (3 : Int32))).2.2.2) ?_
      refine Ow.aload X216 hx (pc' := 61) (hb hby at_59) rfl rfl ?_
      refine Ow.iconst X216 hx (pc' := 62) (hb hby at_61) (z := (0 : Int32)) rfl ?_
      refine Ow.iload X216 hx (pc' := 64) (hb hby at_62) rfl ?_
      obtain ⟨T217, h217, X217, e217, W217, Vr217, st217⟩ := asB X216 hx hZ e216 V_b216 (j := (0 : Int32)) (i := 0) (by decide) rfl (Nat.le_of_ble_eq_true rfl) (y := v14) (own_nar hv14) (g := (mkF m 64 #[.val (.int xlaw_1), .val (.int xlaw_2), .val (.int xlaw_3), .val (.int xlaw_4), .val (.int xlaw_5), .val (.int (3 : Int32)), .val (.int (3 : Int32)), .val (.int v14), .val (.int v18), .val (.int v22), .val (.ref b177), .val (.ref b216), .unset, .unset, .unset, .unset] [(.int v14), (.int (0 : Int32)), (.ref b216)])) rfl rfl (hb hby at_64)
      refine Wq.step st217 ?_
      have N217 := Fr.snoc X217 N179 g_b216
      have K217 : Keep h0 h217 [] := K216.wr W217 (Or.inr sz_b216)
      have Z217 : n0 ≤ h217.size := Nat.le_trans Z216 (Keep.of_wr W217).1
      have hk217 := Nat.le_trans hk216 (Keep.of_wr W217).1
      have S_NONE_t217 := S_NONE_t216.wr W217
      have E_uNONE_t217 := E_uNONE_t216.wr W217
      have S_high_t217 := S_high_t216.wr W217
      have S_cache_t217 := S_cache_t216.wr W217
      have V_ucl_t217 := V_ucl_t216.other W217 ne_ucl_b216
      have Ex177_t217 := Ex177_t216.wr W217
      have V_b177_t217 := V_b177_t216.other W217 ne_b177_b216
      have Ex216_t217 := Ex216.wr W217
      have V_b216_t217 : Al Z h217 b216 .byte [(.int v14), (.int (0 : Int32)), (.int (0 : Int32))] := Vr217
      show Wq _ _ _ _ _ (T217.setTop (mkF m 65 #[.val (.int xlaw_1), .val (.int xlaw_2), .val (.int xlaw_3), .val (.int xlaw_4), .val (.int xlaw_5), .val (.int (3 : Int32)), .val (.int (3 : Int32)), .val (.int v14), .val (.int v18), .val (.int v22), .val (.ref b177), .val (.ref b216), .unset, .unset, .unset, .unset] []))
      refine Ow.iload X217 hx (pc' := 67) (hb hby at_65) rfl ?_
      refine Ow.iconst X217 hx (pc' := 68) (hb hby at_67) (z := (1 : Int32)) rfl ?_
      refine Ow.icmpNo X217 hx (pc' := 71) (hb hby at_68) (tlt (by decide : (1 : Int32) < (3 : Int32))).2.2.2 ?_
      refine Ow.aload X217 hx (pc' := 73) (hb hby at_71) rfl rfl ?_
      refine Ow.iconst X217 hx (pc' := 74) (hb hby at_73) (z := (1 : Int32)) rfl ?_
      refine Ow.iload X217 hx (pc' := 76) (hb hby at_74) rfl ?_
      obtain ⟨T218, h218, X218, e218, W218, Vr218, st218⟩ := asB X217 hx hZ e217 V_b216_t217 (j := (1 : Int32)) (i := 1) (by decide) rfl (Nat.le_of_ble_eq_true rfl) (y := v18) (own_nar hv18) (g := (mkF m 76 #[.val (.int xlaw_1), .val (.int xlaw_2), .val (.int xlaw_3), .val (.int xlaw_4), .val (.int xlaw_5), .val (.int (3 : Int32)), .val (.int (3 : Int32)), .val (.int v14), .val (.int v18), .val (.int v22), .val (.ref b177), .val (.ref b216), .unset, .unset, .unset, .unset] [(.int v18), (.int (1 : Int32)), (.ref b216)])) rfl rfl (hb hby at_76)
      refine Wq.step st218 ?_
      have N218 := Fr.snoc X218 N217 g_b216
      have K218 : Keep h0 h218 [] := K217.wr W218 (Or.inr sz_b216)
      have Z218 : n0 ≤ h218.size := Nat.le_trans Z217 (Keep.of_wr W218).1
      have hk218 := Nat.le_trans hk217 (Keep.of_wr W218).1
      have S_NONE_t218 := S_NONE_t217.wr W218
      have E_uNONE_t218 := E_uNONE_t217.wr W218
      have S_high_t218 := S_high_t217.wr W218
      have S_cache_t218 := S_cache_t217.wr W218
      have V_ucl_t218 := V_ucl_t217.other W218 ne_ucl_b216
      have Ex177_t218 := Ex177_t217.wr W218
      have V_b177_t218 := V_b177_t217.other W218 ne_b177_b216
      have Ex216_t218 := Ex216_t217.wr W218
      have V_b216_t218 : Al Z h218 b216 .byte [(.int v14), (.int v18), (.int (0 : Int32))] := Vr218
      show Wq _ _ _ _ _ (T218.setTop (mkF m 77 #[.val (.int xlaw_1), .val (.int xlaw_2), .val (.int xlaw_3), .val (.int xlaw_4), .val (.int xlaw_5), .val (.int (3 : Int32)), .val (.int (3 : Int32)), .val (.int v14), .val (.int v18), .val (.int v22), .val (.ref b177), .val (.ref b216), .unset, .unset, .unset, .unset] []))
      refine Ow.iload X218 hx (pc' := 79) (hb hby at_77) rfl ?_
      refine Ow.iconst X218 hx (pc' := 80) (hb hby at_79) (z := (2 : Int32)) rfl ?_
      refine Ow.icmpNo X218 hx (pc' := 83) (hb hby at_80) (tlt (by decide : (2 : Int32) < (3 : Int32))).2.2.2 ?_
      refine Ow.aload X218 hx (pc' := 85) (hb hby at_83) rfl rfl ?_
      refine Ow.iconst X218 hx (pc' := 86) (hb hby at_85) (z := (2 : Int32)) rfl ?_
      refine Ow.iload X218 hx (pc' := 88) (hb hby at_86) rfl ?_
      obtain ⟨T219, h219, X219, e219, W219, Vr219, st219⟩ := asB X218 hx hZ e218 V_b216_t218 (j := (2 : Int32)) (i := 2) (by decide) rfl (Nat.le_of_ble_eq_true rfl) (y := v22) (own_nar hv22) (g := (mkF m 88 #[.val (.int xlaw_1), .val (.int xlaw_2), .val (.int xlaw_3), .val (.int xlaw_4), .val (.int xlaw_5), .val (.int (3 : Int32)), .val (.int (3 : Int32)), .val (.int v14), .val (.int v18), .val (.int v22), .val (.ref b177), .val (.ref b216), .unset, .unset, .unset, .unset] [(.int v22), (.int (2 : Int32)), (.ref b216)])) rfl rfl (hb hby at_88)
      refine Wq.step st219 ?_
      have N219 := Fr.snoc X219 N218 g_b216
      have K219 : Keep h0 h219 [] := K218.wr W219 (Or.inr sz_b216)
      have Z219 : n0 ≤ h219.size := Nat.le_trans Z218 (Keep.of_wr W219).1
      have hk219 := Nat.le_trans hk218 (Keep.of_wr W219).1
      have S_NONE_t219 := S_NONE_t218.wr W219
      have E_uNONE_t219 := E_uNONE_t218.wr W219
      have S_high_t219 := S_high_t218.wr W219
      have S_cache_t219 := S_cache_t218.wr W219
      have V_ucl_t219 := V_ucl_t218.other W219 ne_ucl_b216
      have Ex177_t219 := Ex177_t218.wr W219
      have V_b177_t219 := V_b177_t218.other W219 ne_b177_b216
      have Ex216_t219 := Ex216_t218.wr W219
      have V_b216_t219 : Al Z h219 b216 .byte [(.int v14), (.int v18), (.int v22)] := Vr219
      show Wq _ _ _ _ _ (T219.setTop (mkF m 89 #[.val (.int xlaw_1), .val (.int xlaw_2), .val (.int xlaw_3), .val (.int xlaw_4), .val (.int xlaw_5), .val (.int (3 : Int32)), .val (.int (3 : Int32)), .val (.int v14), .val (.int v18), .val (.int v22), .val (.ref b177), .val (.ref b216), .unset, .unset, .unset, .unset] []))
      refine Ow.iload X219 hx (pc' := 91) (hb hby at_89) rfl ?_
      refine Ow.iconst X219 hx (pc' := 92) (hb hby at_91) (z := (1 : Int32)) rfl ?_
      refine Ow.icmpYes X219 hx (pc' := 103) (hb hby at_92) (feq (by decide : ¬ ((3 : Int32) = (1 : Int32)))).2 (by decide) (by decide) ?_
      refine Ow.aconstNull X219 hx (pc' := 104) (hb hby at_103)  ?_
      refine Ow.astore X219 hx (pc' := 106) (hb hby at_104) rfl (l' := #[.val (.int xlaw_1), .val (.int xlaw_2), .val (.int xlaw_3), .val (.int xlaw_4), .val (.int xlaw_5), .val (.int (3 : Int32)), .val (.int (3 : Int32)), .val (.int v14), .val (.int v18), .val (.int v22), .val (.ref b177), .val (.ref b216), .val .null, .unset, .unset, .unset]) rfl ?_
      obtain ⟨T220, h220, X220, e220, E220, A220, D220, -, st220⟩ := newO X219 hx hZ hown (kw1 hw) (kw2 hw) (kw3 hw) e219 (g := (mkF m 106 #[.val (.int xlaw_1), .val (.int xlaw_2), .val (.int xlaw_3), .val (.int xlaw_4), .val (.int xlaw_5), .val (.int (3 : Int32)), .val (.int (3 : Int32)), .val (.int v14), .val (.int v18), .val (.int v22), .val (.ref b177), .val (.ref b216), .val .null, .unset, .unset, .unset] [])) rfl (hb hby at_106) (by decide) (by decide)
      obtain ⟨o220, gz220⟩ : ∃ z, z = h219.size := ⟨_, rfl⟩
      rw [← gz220] at A220 D220 st220
      have g_o220 : n0 ≤ o220 := Nat.le_trans Z219 (Nat.le_of_eq gz220.symm)
      have sz_o220 : h0.size ≤ o220 := Nat.le_trans K219.1 (Nat.le_of_eq gz220.symm)
      have ne_uNONE_o220 : uNONE ≠ o220 := Nat.ne_of_lt (Nat.lt_of_lt_of_le E_uNONE_t219.lt (Nat.le_of_eq gz220.symm))
      have ne_ucl_o220 : ucl ≠ o220 := Nat.ne_of_lt (Nat.lt_of_lt_of_le V_ucl_t219.lt (Nat.le_of_eq gz220.symm))
      have ne_b177_o220 : b177 ≠ o220 := Nat.ne_of_lt (Nat.lt_of_lt_of_le Ex177_t219.lt (Nat.le_of_eq gz220.symm))
      have ne_b216_o220 : b216 ≠ o220 := Nat.ne_of_lt (Nat.lt_of_lt_of_le Ex216_t219.lt (Nat.le_of_eq gz220.symm))
      have K220 : Keep h0 h220 [] := K219.ext E220
      have Z220 : n0 ≤ h220.size := Nat.le_trans Z219 E220.1
      have hk220 := Nat.le_trans hk219 E220.1
      have S_NONE_t220 := S_NONE_t219.ext E220
      have E_uNONE_t220 := E_uNONE_t219.ext E220
      have S_high_t220 := S_high_t219.ext E220
      have S_cache_t220 := S_cache_t219.ext E220
      have V_ucl_t220 := V_ucl_t219.ext E220
      have Ex177_t220 := Ex177_t219.ext E220
      have V_b177_t220 := V_b177_t219.ext E220
      have Ex216_t220 := Ex216_t219.ext E220
      have V_b216_t220 := V_b216_t219.ext E220
      refine Wq.step st220 ?_
      have F_o220_unknownElements : Fld Z h220 o220 "com/example/opwire/opwire/codec/tcap/TcapMessage" "unknownElements" "Lcom/example/opwire/opwire/codec/ber/UnknownElements;" .null := D220 (Or.inr (kw35 hw)) (ty := (.object "com/example/opwire/opwire/codec/ber/UnknownElements")) (by decide)
      have F_o220_destinationTransactionId : Fld Z h220 o220 "com/example/opwire/opwire/codec/tcap/Abort" "destinationTransactionId" "[B" .null := D220 (Or.inr (kw46 hw)) (ty := (.array .byte)) (by decide)
      have F_o220_pAbortCause : Fld Z h220 o220 "com/example/opwire/opwire/codec/tcap/Abort" "pAbortCause" "Ljava/lang/Integer;" .null := D220 (Or.inr (kw48 hw)) (ty := (.object "java/lang/Integer")) (by decide)
      have F_o220_userAbortInformation : Fld Z h220 o220 "com/example/opwire/opwire/codec/tcap/Abort" "userAbortInformation" "[B" .null := D220 (Or.inr (kw50 hw)) (ty := (.array .byte)) (by decide)
      show Wq _ _ _ _ _ (T220.setTop (mkF m 109 #[.val (.int xlaw_1), .val (.int xlaw_2), .val (.int xlaw_3), .val (.int xlaw_4), .val (.int xlaw_5), .val (.int (3 : Int32)), .val (.int (3 : Int32)), .val (.int v14), .val (.int v18), .val (.int v22), .val (.ref b177), .val (.ref b216), .val .null, .unset, .unset, .unset] [(.ref o220)]))
      refine Ow.dup X220 hx (pc' := 110) (hb hby at_109) rfl ?_
      refine Ow.aload X220 hx (pc' := 112) (hb hby at_110) rfl rfl ?_
      refine Ow.aload X220 hx (pc' := 114) (hb hby at_112) rfl rfl ?_
      refine Ow.aload X220 hx (pc' := 116) (hb hby at_114) rfl rfl ?_
      obtain ⟨_, _, ⟨T221, L221, k221, n221⟩, -, Xr221, hSr221, hgr221, ⟨Lc221, hQ221, l221, y221, z221⟩, st221⟩ := X220.specialBackS hx (y := mt4) rfl hown (mvT hZ (kw4 hw)) (mvT hZ (kw5 hw)) (mvT hZ (kw6 hw)) (by decide) (backOfS (W := 1) (rm_a3 l Z a0 hw [] o220 b177 b216 v22 v14 v14 v18 v22 uNONE h220 n0 Z220 A220 F_o220_unknownElements F_o220_destinationTransactionId F_o220_pAbortCause F_o220_userAbortInformation g_o220 V_b177_t220 Ex177_t220 ne_b177_o220 (own_fc (own_fb hv22) (own_fc (own_fb hv14) own_f0)) V_b216_t220 Ex216_t220 ne_b216_o220 ((own_fc (own_fb hv14) (own_fc (own_fb hv18) (own_fc (own_fb hv22) own_f0)))) S_NONE_t220 E_uNONE_t220) hZ (kw6 hw) (kw3 hw) (by decide) (by decide)) (g := (mkF m 116 #[.val (.int xlaw_1), .val (.int xlaw_2), .val (.int xlaw_3), .val (.int xlaw_4), .val (.int xlaw_5), .val (.int (3 : Int32)), .val (.int (3 : Int32)), .val (.int v14), .val (.int v18), .val (.int v22), .val (.ref b177), .val (.ref b216), .val .null, .unset, .unset, .unset] [(.ref b216), .null, (.ref b177), (.ref o220), (.ref o220)])) rfl (by rw [hml]; rfl) (Steps.refl _) (a := o220) (argsL := [(.ref b177), .null, (.ref b216)]) (rest := [(.ref o220)]) (lenOf pd6 rfl) rfl (by show 2 * 0 + _ ≤ _; exact Nat.le_of_eq rfl) (hb hby at_116) (fun _ _ => ⟨rfl, e220, (by decide : 3 + 4 ≤ _), (by decide : 9 + 69 ≤ _)⟩)
      dsimp only [Pt.U, Pt.locs, Pt.cells, Pt.slots] at Xr221 hSr221 hgr221 l221 y221 z221 st221 hQ221
      subst l221 y221 z221
      obtain ⟨X221, hS221, hZ221, hown221⟩ := rebS hS0 (by rw [e220]; exact hk220) Xr221 hSr221 hgr221 hZ hown
      have hk221 := Nat.le_refl T221.heap.size
      obtain ⟨b53_c61_c221, b57_c61_c221, rfl, Nq221, Kq221, szq_b53_c61_c221, szq_b57_c61_c221, ne_b53_c61_c221_b57_c61_c221, P221_0, P221_1, P221_2, P221_3, P221_4, P221_5, P221_6, P221_7, P221_8⟩ := hQ221
      have g_b53_c61_c221 : n0 ≤ b53_c61_c221 := Nat.le_trans Z220 szq_b53_c61_c221
      have sz_b53_c61_c221 : h0.size ≤ b53_c61_c221 := Nat.le_trans K220.1 szq_b53_c61_c221
      have ne_uNONE_b53_c61_c221 : uNONE ≠ b53_c61_c221 := Nat.ne_of_lt (Nat.lt_of_lt_of_le E_uNONE_t220.lt szq_b53_c61_c221)
      have ne_ucl_b53_c61_c221 : ucl ≠ b53_c61_c221 := Nat.ne_of_lt (Nat.lt_of_lt_of_le V_ucl_t220.lt szq_b53_c61_c221)
      have ne_b177_b53_c61_c221 : b177 ≠ b53_c61_c221 := Nat.ne_of_lt (Nat.lt_of_lt_of_le Ex177_t220.lt szq_b53_c61_c221)
      have ne_b216_b53_c61_c221 : b216 ≠ b53_c61_c221 := Nat.ne_of_lt (Nat.lt_of_lt_of_le Ex216_t220.lt szq_b53_c61_c221)
      have ne_o220_b53_c61_c221 : o220 ≠ b53_c61_c221 := Nat.ne_of_lt (Nat.lt_of_lt_of_le A220.lt szq_b53_c61_c221)
      have g_b57_c61_c221 : n0 ≤ b57_c61_c221 := Nat.le_trans Z220 szq_b57_c61_c221
      have sz_b57_c61_c221 : h0.size ≤ b57_c61_c221 := Nat.le_trans K220.1 szq_b57_c61_c221
      have ne_uNONE_b57_c61_c221 : uNONE ≠ b57_c61_c221 := Nat.ne_of_lt (Nat.lt_of_lt_of_le E_uNONE_t220.lt szq_b57_c61_c221)
      have ne_ucl_b57_c61_c221 : ucl ≠ b57_c61_c221 := Nat.ne_of_lt (Nat.lt_of_lt_of_le V_ucl_t220.lt szq_b57_c61_c221)
      have ne_b177_b57_c61_c221 : b177 ≠ b57_c61_c221 := Nat.ne_of_lt (Nat.lt_of_lt_of_le Ex177_t220.lt szq_b57_c61_c221)
      have ne_b216_b57_c61_c221 : b216 ≠ b57_c61_c221 := Nat.ne_of_lt (Nat.lt_of_lt_of_le Ex216_t220.lt szq_b57_c61_c221)
      have ne_o220_b57_c61_c221 : o220 ≠ b57_c61_c221 := Nat.ne_of_lt (Nat.lt_of_lt_of_le A220.lt szq_b57_c61_c221)
      have N221 := Fr.app N219 Nq221
      have K221 : Keep h0 T221.heap [] := K220.trans Kq221 (allS (P := fun x => x ∈ [] ∨ h0.size ≤ x) (Or.inr sz_o220) all0)
      have Z221 : n0 ≤ T221.heap.size := Nat.le_trans Z220 Kq221.1
      have S_NONE_t221 := Jvm.OwnW.Sta.keepN S_NONE_t220 Kq221 (allS (P := fun w => ∀ cell : Cell, h220[w]? = some cell → cell.vm.isStatics = false) (Jvm.OwnW.Exa.ns A220) all0)
      have E_uNONE_t221 := E_uNONE_t220.keep Kq221
      have S_high_t221 := Jvm.OwnW.Sta.keepN S_high_t220 Kq221 (allS (P := fun w => ∀ cell : Cell, h220[w]? = some cell → cell.vm.isStatics = false) (Jvm.OwnW.Exa.ns A220) all0)
      have S_cache_t221 := Jvm.OwnW.Sta.keepN S_cache_t220 Kq221 (allS (P := fun w => ∀ cell : Cell, h220[w]? = some cell → cell.vm.isStatics = false) (Jvm.OwnW.Exa.ns A220) all0)
      have V_ucl_t221 := V_ucl_t220.keep Kq221 (ninS ne_ucl_o220 nin0)
      have Ex177_t221 := Ex177_t220.keep Kq221
      have V_b177_t221 := V_b177_t220.keep Kq221 (ninS ne_b177_o220 nin0)
      have Ex216_t221 := Ex216_t220.keep Kq221
      have V_b216_t221 := V_b216_t220.keep Kq221 (ninS ne_b216_o220 nin0)
      have A220_t221 := A220.keep Kq221
      have e221 : T221.heap = T221.heap := rfl
      refine Wq.steps st221 ?_
      show Wq _ _ _ _ _ (T221.setTop (mkF m 119 #[.val (.int xlaw_1), .val (.int xlaw_2), .val (.int xlaw_3), .val (.int xlaw_4), .val (.int xlaw_5), .val (.int (3 : Int32)), .val (.int (3 : Int32)), .val (.int v14), .val (.int v18), .val (.int v22), .val (.ref b177), .val (.ref b216), .val .null, .unset, .unset, .unset] [(.ref o220)]))
      refine Ow.astore X221 hx (pc' := 121) (hb hby at_119) rfl (l' := #[.val (.int xlaw_1), .val (.int xlaw_2), .val (.int xlaw_3), .val (.int xlaw_4), .val (.int xlaw_5), .val (.int (3 : Int32)), .val (.int (3 : Int32)), .val (.int v14), .val (.int v18), .val (.int v22), .val (.ref b177), .val (.ref b216), .val .null, .val (.ref o220), .unset, .unset]) rfl ?_
      refine Ow.aload X221 hx (pc' := 123) (hb hby at_121) rfl rfl ?_
      obtain ⟨cq222, kq222, q222a, q222b, q222c⟩ := isOf hZ221 e221 A220_t221
      obtain ⟨_, _, ⟨T222, L222, k222, n222⟩, -, X222, ⟨Lc222, hQ222, l222, y222, z222⟩, st222⟩ := X221.virtualBack hx (y := mt5) (z := mt5) hown221 (mvT hZ221 (kw51 hw)) (mvT hZ221 (kw52 hw)) (notFace_of_selects (args := #[]) (mvT hZ221 (kw54 hw))) (mvT hZ221 (kw54 hw)) (mvT hZ221 (kw53 hw)) (by decide) (backOf (W := 0) (rm_ui3 l Z a0 hw [] o220 b57_c61_c221 v14 v18 v22 T221.heap n0 Z221 P221_8 P221_6 P221_7 ((own_fc (own_fb hv14) (own_fc (own_fb hv18) (own_fc (own_fb hv22) own_f0))))) hZ221 (kw55 hw) (kw3 hw) (by decide) (by decide)) q222a q222c (g := (mkF m 123 #[.val (.int xlaw_1), .val (.int xlaw_2), .val (.int xlaw_3), .val (.int xlaw_4), .val (.int xlaw_5), .val (.int (3 : Int32)), .val (.int (3 : Int32)), .val (.int v14), .val (.int v18), .val (.int v22), .val (.ref b177), .val (.ref b216), .val .null, .val (.ref o220), .unset, .unset] [(.ref o220)])) rfl (by rw [hml]; rfl) (Steps.refl _) (argsL := []) (rest := []) (lenOf pd7 rfl) rfl (by show 2 * 0 + _ ≤ _; exact Nat.le_of_eq rfl) (hb hby at_123) (fun _ _ => ⟨rfl, e221, (by decide : 7 + 1 ≤ _), (by decide : 78 + 3 ≤ _)⟩)
      dsimp only [Pt.U, Pt.locs, Pt.cells, Pt.slots] at X222 l222 y222 z222 st222 hQ222
      subst l222 y222 z222
      obtain ⟨b80_c222, rfl, Nq222, Kq222, szq_b80_c222, P222_0, P222_1⟩ := hQ222
      have g_b80_c222 : n0 ≤ b80_c222 := Nat.le_trans Z221 szq_b80_c222
      have sz_b80_c222 : h0.size ≤ b80_c222 := Nat.le_trans K221.1 szq_b80_c222
      have ne_uNONE_b80_c222 : uNONE ≠ b80_c222 := Nat.ne_of_lt (Nat.lt_of_lt_of_le E_uNONE_t221.lt szq_b80_c222)
      have ne_ucl_b80_c222 : ucl ≠ b80_c222 := Nat.ne_of_lt (Nat.lt_of_lt_of_le V_ucl_t221.lt szq_b80_c222)
      have ne_b177_b80_c222 : b177 ≠ b80_c222 := Nat.ne_of_lt (Nat.lt_of_lt_of_le Ex177_t221.lt szq_b80_c222)
      have ne_b216_b80_c222 : b216 ≠ b80_c222 := Nat.ne_of_lt (Nat.lt_of_lt_of_le Ex216_t221.lt szq_b80_c222)
      have ne_o220_b80_c222 : o220 ≠ b80_c222 := Nat.ne_of_lt (Nat.lt_of_lt_of_le A220_t221.lt szq_b80_c222)
      have ne_b53_c61_c221_b80_c222 : b53_c61_c221 ≠ b80_c222 := Nat.ne_of_lt (Nat.lt_of_lt_of_le P221_2.lt szq_b80_c222)
      have ne_b57_c61_c221_b80_c222 : b57_c61_c221 ≠ b80_c222 := Nat.ne_of_lt (Nat.lt_of_lt_of_le P221_6.lt szq_b80_c222)
      have N222 := Fr.app N221 Nq222
      have hk222 := Nat.le_trans hk221 Kq222.1
      have K222 : Keep h0 T222.heap [] := K221.trans Kq222 all0
      have Z222 : n0 ≤ T222.heap.size := Nat.le_trans Z221 Kq222.1
      have S_NONE_t222 := Jvm.OwnW.Sta.keepN S_NONE_t221 Kq222 all0
      have E_uNONE_t222 := E_uNONE_t221.keep Kq222
      have S_high_t222 := Jvm.OwnW.Sta.keepN S_high_t221 Kq222 all0
      have S_cache_t222 := Jvm.OwnW.Sta.keepN S_cache_t221 Kq222 all0
      have V_ucl_t222 := V_ucl_t221.keep Kq222 nin0
      have Ex177_t222 := Ex177_t221.keep Kq222
      have V_b177_t222 := V_b177_t221.keep Kq222 nin0
      have Ex216_t222 := Ex216_t221.keep Kq222
      have V_b216_t222 := V_b216_t221.keep Kq222 nin0
      have A220_t222 := A220_t221.keep Kq222
      have P221_1_t222 := P221_1.keep Kq222 nin0
      have P221_2_t222 := P221_2.keep Kq222 nin0
      have P221_3_t222 := P221_3.keep Kq222
      have P221_4_t222 := P221_4.keep Kq222 nin0
      have P221_5_t222 := P221_5.keep Kq222 nin0
      have P221_6_t222 := P221_6.keep Kq222 nin0
      have P221_7_t222 := P221_7.keep Kq222
      have P221_8_t222 := P221_8.keep Kq222 nin0
      have e222 : T222.heap = T222.heap := rfl
      refine Wq.steps st222 ?_
      show Wq _ _ _ _ _ (T222.setTop (mkF m 126 #[.val (.int xlaw_1), .val (.int xlaw_2), .val (.int xlaw_3), .val (.int xlaw_4), .val (.int xlaw_5), .val (.int (3 : Int32)), .val (.int (3 : Int32)), .val (.int v14), .val (.int v18), .val (.int v22), .val (.ref b177), .val (.ref b216), .val .null, .val (.ref o220), .unset, .unset] [(.ref b80_c222)]))
      refine Ow.astore X222 hx (pc' := 128) (hb hby at_126) rfl (l' := #[.val (.int xlaw_1), .val (.int xlaw_2), .val (.int xlaw_3), .val (.int xlaw_4), .val (.int xlaw_5), .val (.int (3 : Int32)), .val (.int (3 : Int32)), .val (.int v14), .val (.int v18), .val (.int v22), .val (.ref b177), .val (.ref b216), .val .null, .val (.ref o220), .val (.ref b80_c222), .unset]) rfl ?_
      refine Ow.aload X222 hx (pc' := 130) (hb hby at_128) rfl rfl ?_
      refine Ow.ifnonnullYes X222 hx (pc' := 152) (hb hby at_130) (by decide) (by decide) ?_
      refine Ow.aload X222 hx (pc' := 154) (hb hby at_152) rfl rfl ?_
      refine Ow.ifnullNo X222 hx (pc' := 157) (hb hby at_154)  ?_
      refine Ow.aload X222 hx (pc' := 159) (hb hby at_157) rfl rfl ?_
      refine Ow.aload X222 hx (pc' := 161) (hb hby at_159) rfl rfl ?_
      refine Ow.acmp X222 hx (pc' := 164) (hb hby at_161) rfl rfl (same := false) (decide_eq_false fun q => (Ne.symm ne_b216_b80_c222) (Value.ref.inj q)) (by decide) (by decide) ?_
      refine Ow.aload X222 hx (pc' := 166) (hb hby at_164) rfl rfl ?_
      refine Ow.iload X222 hx (pc' := 168) (hb hby at_166) rfl ?_
      refine Ow.iload X222 hx (pc' := 170) (hb hby at_168) rfl ?_
      refine Ow.iload X222 hx (pc' := 172) (hb hby at_170) rfl ?_
      refine Ow.iload X222 hx (pc' := 174) (hb hby at_172) rfl ?_
      obtain ⟨_, _, ⟨T223, L223, k223, n223⟩, -, X223, ⟨Lc223, hQ223, l223, y223, z223⟩, st223⟩ := Jvm.LawKit.callS X222 hx (y := mt6) hown221 (mvT hZ221 (kw56 hw)) (mvT hZ221 (kw57 hw)) (mvT hZ221 (kw58 hw)) (mvT hZ221 (kw59 hw)) (by decide) (backOf (W := 0) (rm_sm3 l Z a0 hw [] b80_c222 v14 v18 v22 v14 v18 v22 T222.heap n0 Z222 P222_0) hZ221 (kw59 hw) (kw58 hw) (by decide) (by decide)) (g := (mkF m 174 #[.val (.int xlaw_1), .val (.int xlaw_2), .val (.int xlaw_3), .val (.int xlaw_4), .val (.int xlaw_5), .val (.int (3 : Int32)), .val (.int (3 : Int32)), .val (.int v14), .val (.int v18), .val (.int v22), .val (.ref b177), .val (.ref b216), .val .null, .val (.ref o220), .val (.ref b80_c222), .unset] [(.int v22), (.int v18), (.int v14), (.int (3 : Int32)), (.ref b80_c222)])) rfl (by rw [hml]; rfl) (argsL := [(.ref b80_c222), (.int (3 : Int32)), (.int v14), (.int v18), (.int v22)]) (rest := []) (lenOf pd9 rfl) rfl (by show 2 * 0 + _ ≤ _; exact Nat.le_of_eq rfl) (hb hby at_174) (fun _ _ => ⟨rfl, e222, (by decide : 8 + 0 ≤ _), (by decide : 81 + 0 ≤ _)⟩)
      dsimp only [Pt.U, Pt.locs, Pt.cells, Pt.slots] at X223 l223 y223 z223 st223 hQ223
      subst l223 y223 z223
      obtain ⟨rfl, Nq223, e223⟩ := hQ223
      have N223 := Fr.app N222 Nq223
      refine Wq.step st223 ?_
      show Wq _ _ _ _ _ (T223.setTop (mkF m 177 #[.val (.int xlaw_1), .val (.int xlaw_2), .val (.int xlaw_3), .val (.int xlaw_4), .val (.int xlaw_5), .val (.int (3 : Int32)), .val (.int (3 : Int32)), .val (.int v14), .val (.int v18), .val (.int v22), .val (.ref b177), .val (.ref b216), .val .null, .val (.ref o220), .val (.ref b80_c222), .unset] [(.int (f_sm3 v14 v18 v22 v14 v18 v22))]))
      generalize hv174 : (f_sm3 v14 v18 v22 v14 v18 v22) = v174
      show Wq _ _ _ _ _ (T223.setTop (mkF m 177 #[.val (.int xlaw_1), .val (.int xlaw_2), .val (.int xlaw_3), .val (.int xlaw_4), .val (.int xlaw_5), .val (.int (3 : Int32)), .val (.int (3 : Int32)), .val (.int v14), .val (.int v18), .val (.int v22), .val (.ref b177), .val (.ref b216), .val .null, .val (.ref o220), .val (.ref b80_c222), .unset] [(.int v174)]))
      refine Ow.ifYes X223 hx (pc' := 182) (hb hby at_177) ((if0 _ _).trans (feq (by subst hv174; simp [f_sm3] : ¬ (v174 = (0 : Int32)))).2) (by decide) (by decide) ?_
      refine Ow.aload X223 hx (pc' := 184) (hb hby at_182) rfl rfl ?_
      obtain ⟨_, _, ⟨T224, L224, k224, n224⟩, -, X224, ⟨Lc224, hQ224, l224, y224, z224⟩, st224⟩ := Jvm.LawKit.callS X223 hx (y := mt7) hown221 (mvT hZ221 (kw60 hw)) (mvT hZ221 (kw61 hw)) (mvT hZ221 (kw58 hw)) (mvT hZ221 (kw62 hw)) (by decide) (backOf (W := 0) (rm_fl3 l Z a0 hw [] b216 v14 v18 v22 T222.heap n0 Z222 V_b216_t222 g_b216) hZ221 (kw62 hw) (kw58 hw) (by decide) (by decide)) (g := (mkF m 184 #[.val (.int xlaw_1), .val (.int xlaw_2), .val (.int xlaw_3), .val (.int xlaw_4), .val (.int xlaw_5), .val (.int (3 : Int32)), .val (.int (3 : Int32)), .val (.int v14), .val (.int v18), .val (.int v22), .val (.ref b177), .val (.ref b216), .val .null, .val (.ref o220), .val (.ref b80_c222), .unset] [(.ref b216)])) rfl (by rw [hml]; rfl) (argsL := [(.ref b216)]) (rest := []) (lenOf pd10 rfl) rfl (by show 2 * 0 + _ ≤ _; exact Nat.le_of_eq rfl) (hb hby at_184) (fun _ _ => ⟨rfl, e223, (by decide : 8 + 0 ≤ _), (by decide : 81 + 0 ≤ _)⟩)
      dsimp only [Pt.U, Pt.locs, Pt.cells, Pt.slots] at X224 l224 y224 z224 st224 hQ224
      subst l224 y224 z224
      obtain ⟨rfl, Nq224, Kq224, P224_0⟩ := hQ224
      have N224 := Fr.app N223 Nq224
      have hk224 := Nat.le_trans hk222 Kq224.1
      have K224 : Keep h0 T224.heap [] := K222.trans Kq224 (allS (P := fun x => x ∈ [] ∨ h0.size ≤ x) (Or.inr sz_b216) all0)
      have Z224 : n0 ≤ T224.heap.size := Nat.le_trans Z222 Kq224.1
      have S_NONE_t224 := Jvm.OwnW.Sta.keepN S_NONE_t222 Kq224 (allS (P := fun w => ∀ cell : Cell, T222.heap[w]? = some cell → cell.vm.isStatics = false) (Jvm.OwnW.Exa.ns Ex216_t222) all0)
      have E_uNONE_t224 := E_uNONE_t222.keep Kq224
      have S_high_t224 := Jvm.OwnW.Sta.keepN S_high_t222 Kq224 (allS (P := fun w => ∀ cell : Cell, T222.heap[w]? = some cell → cell.vm.isStatics = false) (Jvm.OwnW.Exa.ns Ex216_t222) all0)
      have S_cache_t224 := Jvm.OwnW.Sta.keepN S_cache_t222 Kq224 (allS (P := fun w => ∀ cell : Cell, T222.heap[w]? = some cell → cell.vm.isStatics = false) (Jvm.OwnW.Exa.ns Ex216_t222) all0)
      have V_ucl_t224 := V_ucl_t222.keep Kq224 (ninS ne_ucl_b216 nin0)
      have Ex177_t224 := Ex177_t222.keep Kq224
      have V_b177_t224 := V_b177_t222.keep Kq224 (ninS ne_b177_b216 nin0)
      have Ex216_t224 := Ex216_t222.keep Kq224
      have A220_t224 := A220_t222.keep Kq224
      have P221_1_t224 := P221_1_t222.keep Kq224 (ninS (Ne.symm ne_b216_o220) nin0)
      have P221_2_t224 := P221_2_t222.keep Kq224 (ninS (Ne.symm ne_b216_b53_c61_c221) nin0)
      have P221_3_t224 := P221_3_t222.keep Kq224
      have P221_4_t224 := P221_4_t222.keep Kq224 (ninS (Ne.symm ne_b216_o220) nin0)
      have P221_5_t224 := P221_5_t222.keep Kq224 (ninS (Ne.symm ne_b216_o220) nin0)
      have P221_6_t224 := P221_6_t222.keep Kq224 (ninS (Ne.symm ne_b216_b57_c61_c221) nin0)
      have P221_7_t224 := P221_7_t222.keep Kq224
      have P221_8_t224 := P221_8_t222.keep Kq224 (ninS (Ne.symm ne_b216_o220) nin0)
      have P222_0_t224 := P222_0.keep Kq224 (ninS (Ne.symm ne_b216_b80_c222) nin0)
      have P222_1_t224 := P222_1.keep Kq224
      have e224 : T224.heap = T224.heap := rfl
      obtain ⟨q225, hq225⟩ : ∃ z : Int32, z = (((v14 ^^^ (-1 : Int32)).toInt8.toInt32).toInt8.toInt32) := ⟨_, rfl⟩
      rw [← hq225] at P224_0
      obtain ⟨q226, hq226⟩ : ∃ z : Int32, z = (((v18 ^^^ (-1 : Int32)).toInt8.toInt32).toInt8.toInt32) := ⟨_, rfl⟩
      rw [← hq226] at P224_0
      obtain ⟨q227, hq227⟩ : ∃ z : Int32, z = (((v22 ^^^ (-1 : Int32)).toInt8.toInt32).toInt8.toInt32) := ⟨_, rfl⟩
      rw [← hq227] at P224_0
      refine Wq.step st224 ?_
      show Wq _ _ _ _ _ (T224.setTop (mkF m 187 #[.val (.int xlaw_1), .val (.int xlaw_2), .val (.int xlaw_3), .val (.int xlaw_4), .val (.int xlaw_5), .val (.int (3 : Int32)), .val (.int (3 : Int32)), .val (.int v14), .val (.int v18), .val (.int v22), .val (.ref b177), .val (.ref b216), .val .null, .val (.ref o220), .val (.ref b80_c222), .unset] []))
      refine Ow.aload X224 hx (pc' := 189) (hb hby at_187) rfl rfl ?_
      obtain ⟨_, _, ⟨T228, L228, k228, n228⟩, -, X228, ⟨Lc228, hQ228, l228, y228, z228⟩, st228⟩ := Jvm.LawKit.callS X224 hx (y := mt7) hown221 (mvT hZ221 (kw60 hw)) (mvT hZ221 (kw61 hw)) (mvT hZ221 (kw58 hw)) (mvT hZ221 (kw62 hw)) (by decide) (backOf (W := 0) (rm_fl3 l Z a0 hw [] b80_c222 v14 v18 v22 T224.heap n0 Z224 P222_0_t224 g_b80_c222) hZ221 (kw62 hw) (kw58 hw) (by decide) (by decide)) (g := (mkF m 189 #[.val (.int xlaw_1), .val (.int xlaw_2), .val (.int xlaw_3), .val (.int xlaw_4), .val (.int xlaw_5), .val (.int (3 : Int32)), .val (.int (3 : Int32)), .val (.int v14), .val (.int v18), .val (.int v22), .val (.ref b177), .val (.ref b216), .val .null, .val (.ref o220), .val (.ref b80_c222), .unset] [(.ref b80_c222)])) rfl (by rw [hml]; rfl) (argsL := [(.ref b80_c222)]) (rest := []) (lenOf pd10 rfl) rfl (by show 2 * 0 + _ ≤ _; exact Nat.le_of_eq rfl) (hb hby at_189) (fun _ _ => ⟨rfl, e224, (by decide : 8 + 0 ≤ _), (by decide : 81 + 0 ≤ _)⟩)
      dsimp only [Pt.U, Pt.locs, Pt.cells, Pt.slots] at X228 l228 y228 z228 st228 hQ228
      subst l228 y228 z228
      obtain ⟨rfl, Nq228, Kq228, P228_0⟩ := hQ228
      have N228 := Fr.app N224 Nq228
      have hk228 := Nat.le_trans hk224 Kq228.1
      have K228 : Keep h0 T228.heap [] := K224.trans Kq228 (allS (P := fun x => x ∈ [] ∨ h0.size ≤ x) (Or.inr sz_b80_c222) all0)
      have Z228 : n0 ≤ T228.heap.size := Nat.le_trans Z224 Kq228.1
      have S_NONE_t228 := Jvm.OwnW.Sta.keepN S_NONE_t224 Kq228 (allS (P := fun w => ∀ cell : Cell, T224.heap[w]? = some cell → cell.vm.isStatics = false) (Jvm.OwnW.Exa.ns P222_1_t224) all0)
      have E_uNONE_t228 := E_uNONE_t224.keep Kq228
      have S_high_t228 := Jvm.OwnW.Sta.keepN S_high_t224 Kq228 (allS (P := fun w => ∀ cell : Cell, T224.heap[w]? = some cell → cell.vm.isStatics = false) (Jvm.OwnW.Exa.ns P222_1_t224) all0)
      have S_cache_t228 := Jvm.OwnW.Sta.keepN S_cache_t224 Kq228 (allS (P := fun w => ∀ cell : Cell, T224.heap[w]? = some cell → cell.vm.isStatics = false) (Jvm.OwnW.Exa.ns P222_1_t224) all0)
      have V_ucl_t228 := V_ucl_t224.keep Kq228 (ninS ne_ucl_b80_c222 nin0)
      have Ex177_t228 := Ex177_t224.keep Kq228
      have V_b177_t228 := V_b177_t224.keep Kq228 (ninS ne_b177_b80_c222 nin0)
      have Ex216_t228 := Ex216_t224.keep Kq228
      have A220_t228 := A220_t224.keep Kq228
      have P221_1_t228 := P221_1_t224.keep Kq228 (ninS ne_o220_b80_c222 nin0)
      have P221_2_t228 := P221_2_t224.keep Kq228 (ninS ne_b53_c61_c221_b80_c222 nin0)
      have P221_3_t228 := P221_3_t224.keep Kq228
      have P221_4_t228 := P221_4_t224.keep Kq228 (ninS ne_o220_b80_c222 nin0)
      have P221_5_t228 := P221_5_t224.keep Kq228 (ninS ne_o220_b80_c222 nin0)
      have P221_6_t228 := P221_6_t224.keep Kq228 (ninS ne_b57_c61_c221_b80_c222 nin0)
      have P221_7_t228 := P221_7_t224.keep Kq228
      have P221_8_t228 := P221_8_t224.keep Kq228 (ninS ne_o220_b80_c222 nin0)
      have P222_1_t228 := P222_1_t224.keep Kq228
      have P224_0_t228 := P224_0.keep Kq228 (ninS ne_b216_b80_c222 nin0)
      have e228 : T228.heap = T228.heap := rfl
      obtain ⟨q229, hq229⟩ : ∃ z : Int32, z = (((v14 ^^^ (-1 : Int32)).toInt8.toInt32).toInt8.toInt32) := ⟨_, rfl⟩
      rw [← hq229] at P228_0
      obtain ⟨q230, hq230⟩ : ∃ z : Int32, z = (((v18 ^^^ (-1 : Int32)).toInt8.toInt32).toInt8.toInt32) := ⟨_, rfl⟩
      rw [← hq230] at P228_0
      obtain ⟨q231, hq231⟩ : ∃ z : Int32, z = (((v22 ^^^ (-1 : Int32)).toInt8.toInt32).toInt8.toInt32) := ⟨_, rfl⟩
      rw [← hq231] at P228_0
      refine Wq.step st228 ?_
      show Wq _ _ _ _ _ (T228.setTop (mkF m 192 #[.val (.int xlaw_1), .val (.int xlaw_2), .val (.int xlaw_3), .val (.int xlaw_4), .val (.int xlaw_5), .val (.int (3 : Int32)), .val (.int (3 : Int32)), .val (.int v14), .val (.int v18), .val (.int v22), .val (.ref b177), .val (.ref b216), .val .null, .val (.ref o220), .val (.ref b80_c222), .unset] []))
      refine Ow.aload X228 hx (pc' := 194) (hb hby at_192) rfl rfl ?_
      obtain ⟨cq232, kq232, q232a, q232b, q232c⟩ := isOf hZ221 e228 A220_t228
      obtain ⟨_, _, ⟨T232, L232, k232, n232⟩, -, X232, ⟨Lc232, hQ232, l232, y232, z232⟩, st232⟩ := X228.virtualBack hx (y := mt5) (z := mt5) hown221 (mvT hZ221 (kw51 hw)) (mvT hZ221 (kw52 hw)) (notFace_of_selects (args := #[]) (mvT hZ221 (kw54 hw))) (mvT hZ221 (kw54 hw)) (mvT hZ221 (kw53 hw)) (by decide) (backOf (W := 0) (rm_ui3 l Z a0 hw [] o220 b57_c61_c221 v14 v18 v22 T228.heap n0 Z228 P221_8_t228 P221_6_t228 P221_7_t228 ((own_fc (own_fb hv14) (own_fc (own_fb hv18) (own_fc (own_fb hv22) own_f0))))) hZ221 (kw55 hw) (kw3 hw) (by decide) (by decide)) q232a q232c (g := (mkF m 194 #[.val (.int xlaw_1), .val (.int xlaw_2), .val (.int xlaw_3), .val (.int xlaw_4), .val (.int xlaw_5), .val (.int (3 : Int32)), .val (.int (3 : Int32)), .val (.int v14), .val (.int v18), .val (.int v22), .val (.ref b177), .val (.ref b216), .val .null, .val (.ref o220), .val (.ref b80_c222), .unset] [(.ref o220)])) rfl (by rw [hml]; rfl) (Steps.refl _) (argsL := []) (rest := []) (lenOf pd7 rfl) rfl (by show 2 * 0 + _ ≤ _; exact Nat.le_of_eq rfl) (hb hby at_194) (fun _ _ => ⟨rfl, e228, (by decide : 8 + 1 ≤ _), (by decide : 81 + 3 ≤ _)⟩)
      dsimp only [Pt.U, Pt.locs, Pt.cells, Pt.slots] at X232 l232 y232 z232 st232 hQ232
      subst l232 y232 z232
      obtain ⟨b80_c232, rfl, Nq232, Kq232, szq_b80_c232, P232_0, P232_1⟩ := hQ232
      have g_b80_c232 : n0 ≤ b80_c232 := Nat.le_trans Z228 szq_b80_c232
      have sz_b80_c232 : h0.size ≤ b80_c232 := Nat.le_trans K228.1 szq_b80_c232
      have ne_uNONE_b80_c232 : uNONE ≠ b80_c232 := Nat.ne_of_lt (Nat.lt_of_lt_of_le E_uNONE_t228.lt szq_b80_c232)
      have ne_ucl_b80_c232 : ucl ≠ b80_c232 := Nat.ne_of_lt (Nat.lt_of_lt_of_le V_ucl_t228.lt szq_b80_c232)
      have ne_b177_b80_c232 : b177 ≠ b80_c232 := Nat.ne_of_lt (Nat.lt_of_lt_of_le Ex177_t228.lt szq_b80_c232)
      have ne_b216_b80_c232 : b216 ≠ b80_c232 := Nat.ne_of_lt (Nat.lt_of_lt_of_le Ex216_t228.lt szq_b80_c232)
      have ne_o220_b80_c232 : o220 ≠ b80_c232 := Nat.ne_of_lt (Nat.lt_of_lt_of_le A220_t228.lt szq_b80_c232)
      have ne_b53_c61_c221_b80_c232 : b53_c61_c221 ≠ b80_c232 := Nat.ne_of_lt (Nat.lt_of_lt_of_le P221_2_t228.lt szq_b80_c232)
      have ne_b57_c61_c221_b80_c232 : b57_c61_c221 ≠ b80_c232 := Nat.ne_of_lt (Nat.lt_of_lt_of_le P221_6_t228.lt szq_b80_c232)
      have ne_b80_c222_b80_c232 : b80_c222 ≠ b80_c232 := Nat.ne_of_lt (Nat.lt_of_lt_of_le P222_1_t228.lt szq_b80_c232)
      have N232 := Fr.app N228 Nq232
      have hk232 := Nat.le_trans hk228 Kq232.1
      have K232 : Keep h0 T232.heap [] := K228.trans Kq232 all0
      have Z232 : n0 ≤ T232.heap.size := Nat.le_trans Z228 Kq232.1
      have S_NONE_t232 := Jvm.OwnW.Sta.keepN S_NONE_t228 Kq232 all0
      have E_uNONE_t232 := E_uNONE_t228.keep Kq232
      have S_high_t232 := Jvm.OwnW.Sta.keepN S_high_t228 Kq232 all0
      have S_cache_t232 := Jvm.OwnW.Sta.keepN S_cache_t228 Kq232 all0
      have V_ucl_t232 := V_ucl_t228.keep Kq232 nin0
      have Ex177_t232 := Ex177_t228.keep Kq232
      have V_b177_t232 := V_b177_t228.keep Kq232 nin0
      have Ex216_t232 := Ex216_t228.keep Kq232
      have A220_t232 := A220_t228.keep Kq232
      have P221_1_t232 := P221_1_t228.keep Kq232 nin0
      have P221_2_t232 := P221_2_t228.keep Kq232 nin0
      have P221_3_t232 := P221_3_t228.keep Kq232
      have P221_4_t232 := P221_4_t228.keep Kq232 nin0
      have P221_5_t232 := P221_5_t228.keep Kq232 nin0
      have P221_6_t232 := P221_6_t228.keep Kq232 nin0
      have P221_7_t232 := P221_7_t228.keep Kq232
      have P221_8_t232 := P221_8_t228.keep Kq232 nin0
      have P222_1_t232 := P222_1_t228.keep Kq232
      have P224_0_t232 := P224_0_t228.keep Kq232 nin0
      have P228_0_t232 := P228_0.keep Kq232 nin0
      have e232 : T232.heap = T232.heap := rfl
      refine Wq.steps st232 ?_
      show Wq _ _ _ _ _ (T232.setTop (mkF m 197 #[.val (.int xlaw_1), .val (.int xlaw_2), .val (.int xlaw_3), .val (.int xlaw_4), .val (.int xlaw_5), .val (.int (3 : Int32)), .val (.int (3 : Int32)), .val (.int v14), .val (.int v18), .val (.int v22), .val (.ref b177), .val (.ref b216), .val .null, .val (.ref o220), .val (.ref b80_c222), .unset] [(.ref b80_c232)]))
      refine Ow.astore X232 hx (pc' := 199) (hb hby at_197) rfl (l' := #[.val (.int xlaw_1), .val (.int xlaw_2), .val (.int xlaw_3), .val (.int xlaw_4), .val (.int xlaw_5), .val (.int (3 : Int32)), .val (.int (3 : Int32)), .val (.int v14), .val (.int v18), .val (.int v22), .val (.ref b177), .val (.ref b216), .val .null, .val (.ref o220), .val (.ref b80_c222), .val (.ref b80_c232)]) rfl ?_
      refine Ow.aload X232 hx (pc' := 201) (hb hby at_199) rfl rfl ?_
      refine Ow.ifnullNo X232 hx (pc' := 204) (hb hby at_201)  ?_
      refine Ow.aload X232 hx (pc' := 206) (hb hby at_204) rfl rfl ?_
      refine Ow.aload X232 hx (pc' := 208) (hb hby at_206) rfl rfl ?_
      refine Ow.acmp X232 hx (pc' := 211) (hb hby at_208) rfl rfl (same := false) (decide_eq_false fun q => (Ne.symm ne_b80_c222_b80_c232) (Value.ref.inj q)) (by decide) (by decide) ?_
      refine Ow.aload X232 hx (pc' := 213) (hb hby at_211) rfl rfl ?_
      refine Ow.aload X232 hx (pc' := 215) (hb hby at_213) rfl rfl ?_
      refine Ow.acmp X232 hx (pc' := 218) (hb hby at_215) rfl rfl (same := false) (decide_eq_false fun q => (Ne.symm ne_b216_b80_c232) (Value.ref.inj q)) (by decide) (by decide) ?_
      refine Ow.aload X232 hx (pc' := 220) (hb hby at_218) rfl rfl ?_
      refine Ow.iload X232 hx (pc' := 222) (hb hby at_220) rfl ?_
      refine Ow.iload X232 hx (pc' := 224) (hb hby at_222) rfl ?_
      refine Ow.iload X232 hx (pc' := 226) (hb hby at_224) rfl ?_
      refine Ow.iload X232 hx (pc' := 228) (hb hby at_226) rfl ?_
      obtain ⟨_, _, ⟨T233, L233, k233, n233⟩, -, X233, ⟨Lc233, hQ233, l233, y233, z233⟩, st233⟩ := Jvm.LawKit.callS X232 hx (y := mt6) hown221 (mvT hZ221 (kw56 hw)) (mvT hZ221 (kw57 hw)) (mvT hZ221 (kw58 hw)) (mvT hZ221 (kw59 hw)) (by decide) (backOf (W := 0) (rm_sm3 l Z a0 hw [] b80_c232 v14 v18 v22 v14 v18 v22 T232.heap n0 Z232 P232_0) hZ221 (kw59 hw) (kw58 hw) (by decide) (by decide)) (g := (mkF m 228 #[.val (.int xlaw_1), .val (.int xlaw_2), .val (.int xlaw_3), .val (.int xlaw_4), .val (.int xlaw_5), .val (.int (3 : Int32)), .val (.int (3 : Int32)), .val (.int v14), .val (.int v18), .val (.int v22), .val (.ref b177), .val (.ref b216), .val .null, .val (.ref o220), .val (.ref b80_c222), .val (.ref b80_c232)] [(.int v22), (.int v18), (.int v14), (.int (3 : Int32)), (.ref b80_c232)])) rfl (by rw [hml]; rfl) (argsL := [(.ref b80_c232), (.int (3 : Int32)), (.int v14), (.int v18), (.int v22)]) (rest := []) (lenOf pd9 rfl) rfl (by show 2 * 0 + _ ≤ _; exact Nat.le_of_eq rfl) (hb hby at_228) (fun _ _ => ⟨rfl, e232, (by decide : 9 + 0 ≤ _), (by decide : 84 + 0 ≤ _)⟩)
      dsimp only [Pt.U, Pt.locs, Pt.cells, Pt.slots] at X233 l233 y233 z233 st233 hQ233
      subst l233 y233 z233
      obtain ⟨rfl, Nq233, e233⟩ := hQ233
      have N233 := Fr.app N232 Nq233
      refine Wq.step st233 ?_
      show Wq _ _ _ _ _ (T233.setTop (mkF m 231 #[.val (.int xlaw_1), .val (.int xlaw_2), .val (.int xlaw_3), .val (.int xlaw_4), .val (.int xlaw_5), .val (.int (3 : Int32)), .val (.int (3 : Int32)), .val (.int v14), .val (.int v18), .val (.int v22), .val (.ref b177), .val (.ref b216), .val .null, .val (.ref o220), .val (.ref b80_c222), .val (.ref b80_c232)] [(.int (f_sm3 v14 v18 v22 v14 v18 v22))]))
      generalize hv228 : (f_sm3 v14 v18 v22 v14 v18 v22) = v228
      show Wq _ _ _ _ _ (T233.setTop (mkF m 231 #[.val (.int xlaw_1), .val (.int xlaw_2), .val (.int xlaw_3), .val (.int xlaw_4), .val (.int xlaw_5), .val (.int (3 : Int32)), .val (.int (3 : Int32)), .val (.int v14), .val (.int v18), .val (.int v22), .val (.ref b177), .val (.ref b216), .val .null, .val (.ref o220), .val (.ref b80_c222), .val (.ref b80_c232)] [(.int v228)]))
      refine Ow.ifNo X233 hx (pc' := 234) (hb hby at_231) ((if0 _ _).trans (feq (by subst hv228; simp [f_sm3] : ¬ (v228 = (0 : Int32)))).1) ?_
      refine Ow.iconst X233 hx (pc' := 235) (hb hby at_234) (z := (1 : Int32)) rfl ?_
      refine Ow.goto X233 hx (pc' := 239) (hb hby at_235) (by decide) (by decide) ?_
      exact Wq.retW X233 hS221 (by rw [e233]; exact hk232) (BodyLoose.notSynchronized Bd) (rv := some (.int (1 : Int32))) (fun h => by rw [Bd.returns] at h; cases h) (fun _ hr => retN X233 hx (t := .boolean) Bd.returns (by simp) (hb hby at_239) hr) (by decide) (by decide) ⟨rfl, N233⟩
theorem own_initFor {s : State} {args : Array Value} {C n d n' d' : String} (h1 : (Cond.laysStatic C n d).before args s = true) (h2 : (Cond.laysStatic C n' d').before args s = true) (h3 : (Cond.initializedFor C n d).before args s = true) : (Cond.initializedFor C n' d').before args s = true := by
  obtain ⟨c, k, i, f, -, -, a1, a2, -⟩ := Cond.laysStatic_spec h1
  obtain ⟨c', k', i', f', -, -, b1, b2, -⟩ := Cond.laysStatic_spec h2
  cases a1.symm.trans b1
  cases (State.fieldFound?_class a2).symm.trans (State.fieldFound?_class b2)
  have q := Cond.initializedFor_spec a2 h3
  simp [Cond.before, Cond.holds, Cond.value, b2, q]
theorem own_boxes {s : State} {args : Array Value} {a : Addr} {cl : Cell} {B : Jvm.Cond} (ev : (Term.static "java/lang/Integer$IntegerCache" "cache" "[Ljava/lang/Integer;").eval args s none [] s = some (.ref a)) (A : Arr s s.heap a cl (.object "java/lang/Integer"))
    (hl : (Cond.eq (.length (.static "java/lang/Integer$IntegerCache" "cache" "[Ljava/lang/Integer;")) (.int (256 : Int32))).value args s none s [] = some true)
    (ha : (Cond.all (.static "java/lang/Integer$IntegerCache" "cache" "[Ljava/lang/Integer;") (.and (.exactly (.elem (.static "java/lang/Integer$IntegerCache" "cache" "[Ljava/lang/Integer;") (.index 0)) "java/lang/Integer") B)).value args s none s [] = some true) : own_box cl.slots.toList := by
  have et : ∀ idx, (Term.static "java/lang/Integer$IntegerCache" "cache" "[Ljava/lang/Integer;").eval args s none idx s = some (.ref a) := fun idx => by
    simpa only [Term.eval] using ev
  have hq := eqv_i (Term.int_eval _) hl
  obtain ⟨a', cl', q1, q2, q3⟩ := Term.length_spec hq
  cases ev.symm.trans q1
  cases (A.fin (Vm.Alike.refl _)).symm.trans q2
  have q4 : (256 : Int32) = cl.slots.size.toInt32 := Value.int.inj q3
  have hsz : 256 ≤ cl.slots.size := by
    by_cases q : cl.slots.size < 256
    · have r := len_toInt (n := cl.slots.size) (by omega)
      rw [← q4] at r
      have e : (256 : Int32).toInt = 256 := by decide
      omega
    · omega
  intro x h1 h2
  have e1 : (-128 : Int32).toInt = -128 := by decide
  have e2 : (127 : Int32).toInt = 127 := by decide
  have e3 : (128 : Int32).toInt = 128 := by decide
  have e0 : (0 : Int32).toInt = 0 := by decide
  rw [Int32.lt_iff_toInt_lt] at h1 h2
  have s1 := c_iadd x 128
  have r1 := rng32 (x + 128)
  have v1 : (x + 128).toInt = x.toInt + 128 := by omega
  have nn : ¬ (x + (128 : Int32)) < 0 := by rw [Int32.lt_iff_toInt_lt]; omega
  have lt : (x + (128 : Int32)).toNatClampNeg < cl.slots.size := by
    show (x + (128 : Int32)).toInt.toNat < cl.slots.size
    omega
  obtain ⟨u1, u2⟩ := and_e (Cond.all_elim (et []) (A.fin (Vm.Alike.refl _)) ha (x + (128 : Int32)).toNatClampNeg lt)
  obtain ⟨box, eb⟩ := exa_v u1
  have f1 := (elem_f (et _) (idx_at nn) (A.fin (Vm.Alike.refl _)) nn).symm.trans eb
  exact ⟨nn, box, by simpa using f1⟩
set_option maxRecDepth 65536 in
set_option maxHeartbeats 40000000 in
theorem comes_1 {Post : Tables → Env → Array Value → State → Outcome → State → Prop} (hpost : ∀ tb e args s v u, (limb_1_1.after args s (.returned v) u = true ∧ limb_1_2.after args s (.returned v) u = true ∧ True) → ReturnedEndW s (.returned v) u (Jvm.fieldLocs frame_1_writes args s ++ Jvm.arrayLocs frame_1_arrays args s ++ Jvm.staticLocs frame_1_statics s) 24 1152 → Post tb e args s (.returned v) u) :
    ArmFor flags0 classFile x code maxLocals ret World_1 tables_1 room_1 Calls_1 rest_1 Pre_1 Post := by
  intro l hfl _ _ p e ha hc hk s m args below hf hA hF happ hP
  obtain ⟨hcalls, hrest, hpre⟩ := hP
  obtain ⟨-, -, -, hnamed, -, -, -, hat⟩ := (Spec.applies_iff hf).mp happ
  obtain ⟨hg, hn⟩ := and_e (Cond.before_iff.mp (show (Jvm.Cond.and given_1 narrow_1).before args s = true from hpre))
  obtain ⟨hg1, hg2⟩ := and_e hg
  obtain ⟨ha0, hb0⟩ := and_e hg2
  obtain ⟨ha1, hb1⟩ := and_e hb0
  obtain ⟨ha2, hb2⟩ := and_e hb1
  obtain ⟨ha3, hb3⟩ := and_e hb2
  obtain ⟨w0, w1, w2, w3, w4, rfl⟩ : ∃ w0 w1 w2 w3 w4 : Value, args = #[w0, w1, w2, w3, w4] := by
    have hs : args.size = 5 := by simpa [Cond.value, given_1] using hg1
    obtain ⟨L⟩ := args
    match L, hs with
    | [w0, w1, w2, w3, w4], _ => exact ⟨w0, w1, w2, w3, w4, rfl⟩
  have hw := fun d (hd : d ∈ tables_1) => atoms_spec (ws := Jvm.Cond.code x code maxLocals ret :: tables_1) hat d (List.mem_cons_of_mem _ hd)
  have hfit : Fit s := fun {y c} hc i hi => by
    obtain ⟨ha, rfl⟩ := Array.getElem?_eq_some_iff.mp hc
    have q := List.all_eq_true.mp ((Array.all_eq_true_iff_forall_mem.mp hF) _ (Array.getElem_mem ha)) i (List.mem_range.mpr hi)
    simpa [Array.getElem?_eq_getElem hi] using q
  obtain ⟨i0, ei0⟩ := is_v ha0
  obtain rfl : w0 = (.int i0) := Option.some.inj ei0
  obtain ⟨i1, ei1⟩ := is_v ha1
  obtain rfl : w1 = (.int i1) := Option.some.inj ei1
  obtain ⟨i2, ei2⟩ := is_v ha2
  obtain rfl : w2 = (.int i2) := Option.some.inj ei2
  obtain ⟨i3, ei3⟩ := is_v ha3
  obtain rfl : w3 = (.int i3) := Option.some.inj ei3
  obtain ⟨i4, ei4⟩ := is_v hb3
  obtain rfl : w4 = (.int i4) := Option.some.inj ei4
  obtain ⟨uNONE, evuNONE⟩ := exa_v hn
  have SuNONE : Sta s s.heap "com/example/opwire/opwire/codec/ber/UnknownElements" "NONE" "Lcom/example/opwire/opwire/codec/ber/UnknownElements;" (.ref uNONE) := Sta.start evuNONE (Or.inr ⟨(kw8 hw), (kw9 hw)⟩)
  have EuNONE : Exa s s.heap uNONE "com/example/opwire/opwire/codec/ber/UnknownElements" := Exa.start evuNONE hn
  obtain ⟨hsets, hown0⟩ := atoms_of _ (rest_1_c_eq ▸ (show rest_1_c.before _ s = true from hrest))
  have SH : Sta s s.heap "java/lang/Integer$IntegerCache" "high" "I" (.int (127 : Int32)) := Sta.start (eqv_i (Term.int_eval _) (Cond.before_iff.mp (hsets _ (List.mem_of_getElem? (i := 3) rfl)))) (Or.inl (hsets _ (List.mem_of_getElem? (i := 1) rfl)))
  obtain ⟨ucl, evc⟩ := arr_v (Cond.before_iff.mp (hsets _ (List.mem_of_getElem? (i := 4) rfl)))
  have SC : Sta s s.heap "java/lang/Integer$IntegerCache" "cache" "[Ljava/lang/Integer;" (.ref ucl) := Sta.start evc (Or.inl (own_initFor (hsets _ (List.mem_of_getElem? (i := 0) rfl)) (hsets _ (List.mem_of_getElem? (i := 2) rfl)) (hsets _ (List.mem_of_getElem? (i := 1) rfl))))
  obtain ⟨clC, AC⟩ := Arr.start evc (Cond.before_iff.mp (hsets _ (List.mem_of_getElem? (i := 4) rfl)))
  have VC : Al s s.heap ucl (.object "java/lang/Integer") clC.slots.toList := ⟨clC, AC, rfl⟩
  have HB : own_box clC.slots.toList := own_boxes evc AC (Cond.before_iff.mp (hsets _ (List.mem_of_getElem? (i := 6) rfl))) (Cond.before_iff.mp (hsets _ (List.mem_of_getElem? (i := 7) rfl)))
  obtain ⟨n, o, h1, h2, h3, _, L, rfl, ⟨rfl, N⟩, hq⟩ := rm_law l s _ hw tables_1 i0 i1 i2 i3 i4 uNONE ucl clC.slots.toList s.heap s.heap.size (Nat.le_refl _) SuNONE EuNONE SH SC VC HB p e ha hc hk s m _ below hf ((Spec.applies_iff_loose hf).mp happ).1 ⟨rfl, State.Warmed39.refl s, rfl⟩ trivial
  refine ⟨n, _, h1, h2, h3, hpost _ _ _ _ _ _ ⟨Cond.after_iff.mpr rfl, Cond.after_iff.mpr (eq_i res_at (Term.int_eval (1)) rfl), trivial⟩ ⟨hq.1, hq.2.1, hq.2.2.1, (hq.2.2.2.sift fun y hy => Or.inr (N y hy)).mono (by decide) (by decide)⟩⟩
theorem main_1_1 : Claimed_1_1 := comes_1 fun _ _ _ _ _ _ h hF => ⟨h.1, hF⟩
theorem main_1_2 : Claimed_1_2 := comes_1 fun _ _ _ _ _ _ h hF => ⟨h.2.1, hF⟩
end Jvm.Pilot.@@N@@
namespace Jvm.Pilot.@@N@@
open Jvm Jvm.ClassFile Sem Op Lib Jvm.Free Jvm.Stand Jvm.Pilot.@@N@@.Jvm.D
/-! MADE BY PROGRAM (witnessworld.py) out of the Statement's table words and the real class files: 21 classes; the members and pool entries that the words name. The judged class is class 1, her method 1. -/
namespace start1
open Jvm.ClassFile
def u (s : String) : CpInfo := .utf8 (stringToUtf16 s)
/-- a pool by its gaps: so many unusable entries, then the entry; so many at the end -/
def gap : Nat → List CpInfo → List CpInfo
  | 0, r => r
  | n + 1, r => .unusable :: gap n r
def poolList (es : List (Nat × CpInfo)) (last : Nat) : List CpInfo := es.foldr (fun e r => gap e.1 (e.2 :: r)) (gap last [])
def pool (es : List (Nat × CpInfo)) (last : Nat) : Array CpInfo := ⟨poolList es last⟩
def fileOf (pool : Array CpInfo) (this : Nat) (attrs : Array Attribute := #[]) (ms : Array MethodInfo := #[]) (fl : Nat := 33) (sup : Nat := 0) (ifs : Array Nat := #[]) (fds : Array FieldInfo := #[]) : ClassFile where
  minorVersion := 0
  majorVersion := 65
  constantPool := pool
  accessFlags := fl
  thisClass := this
  superClass := sup
  interfaces := ifs
  fields := fds
  methods := ms
  attributes := attrs
def plain (name : String) (sup : Option ClassId) : Class where
  name := name
  kind := .ordinary
  loader := none
  accessFlags := 33
  super := sup
  interfaces := #[]
  cf := none
  fields := #[]
  methods := #[]
  instanceTypes := #[]
  staticTypes := #[]
  resolved := #[]
  callSites := []
  init := .initialized
  statics := none
  mirror := none

def pool0 : Array CpInfo := pool [(5, u "<init>"), (0, u "()V"), (1, .class_ 10), (1, u "java/lang/Object"), (85, u "clone"), (0, u "()Ljava/lang/Object;")] 26

def k0c0 : Code := { maxStack := 0, maxLocals := 1, code := object_method_1_code, exceptionTable := #[], attributes := #[] }
def k0m0 : Method := { name := "<init>", desc := "()V", sig := { parameters := [], returnType := none }, accessFlags := 1, code := some k0c0 }
def k0m1 : Method := { name := "clone", desc := "()Ljava/lang/Object;", sig := { parameters := [], returnType := some (.object "java/lang/Object") }, accessFlags := 260, code := none }
/-- java/lang/Object -/
def k0 : Class := { plain "java/lang/Object" none with
  accessFlags := 33
  interfaces := #[]
  cf := some (fileOf pool0 8 #[] #[{ accessFlags := 1, nameIndex := 5, descriptorIndex := 6, attributes := #[] }, { accessFlags := 260, nameIndex := 96, descriptorIndex := 97, attributes := #[] }] 33 0 #[] #[])
  fields := #[]
  methods := #[k0m0, k0m1]
  instanceTypes := #[]
  staticTypes := #[]
  resolved := Array.replicate 124 none
  statics := none }

def pool1 : Array CpInfo := pool [(2, .class_ 4), (1, u "java/lang/Object"), (0, u "<init>"), (0, u "()V"), (0, .methodref 8 9), (0, .class_ 10), (0, .nameAndType 11 12), (0, u "java/lang/Integer"), (0, u "valueOf"), (0, u "(I)Ljava/lang/Integer;"), (0, .class_ 14), (0, u "com/example/opwire/opwire/codec/tcap/Abort"), (0, .methodref 13 16), (0, .nameAndType 5 17), (0, u "([BLjava/lang/Integer;[B)V"), (0, .methodref 13 19), (0, .nameAndType 20 21), (0, u "userAbortInformation"), (0, u "()[B"), (0, .methodref 23 24), (0, .class_ 25), (0, .nameAndType 26 27), (0, u "com/example/opwire/opwire/codec/tcap/AbortUserAbortInformationPinLaw"), (0, u "same"), (0, u "([BIBBB)Z"), (0, .methodref 23 29), (0, .nameAndType 30 31), (0, u "flip"), (0, u "([B)V"), (2, u "law"), (0, u "(IIIII)Z")] 5

def k1m0 : Method := { name := "<init>", desc := "()V", sig := { parameters := [], returnType := none }, accessFlags := 1, code := none }
def k1c1 : Code := { maxStack := 5, maxLocals := 16, code := code, exceptionTable := #[], attributes := #[] }
def k1m1 : Method := { name := "law", desc := "(IIIII)Z", sig := { parameters := [.int, .int, .int, .int, .int], returnType := some .boolean }, accessFlags := 9, code := some k1c1 }
def k1c2 : Code := { maxStack := 2, maxLocals := 5, code := method_3_code, exceptionTable := #[], attributes := #[] }
def k1m2 : Method := { name := "same", desc := "([BIBBB)Z", sig := { parameters := [(.array .byte), .int, .byte, .byte, .byte], returnType := some .boolean }, accessFlags := 10, code := some k1c2 }
def k1c3 : Code := { maxStack := 4, maxLocals := 1, code := method_4_code, exceptionTable := #[], attributes := #[] }
def k1m3 : Method := { name := "flip", desc := "([B)V", sig := { parameters := [(.array .byte)], returnType := none }, accessFlags := 10, code := some k1c3 }
/-- com/example/opwire/opwire/codec/tcap/AbortUserAbortInformationPinLaw -/
def k1 : Class := { plain "com/example/opwire/opwire/codec/tcap/AbortUserAbortInformationPinLaw" (some 0) with
  accessFlags := 49
  interfaces := #[]
  cf := some (fileOf pool1 23 #[] #[{ accessFlags := 1, nameIndex := 5, descriptorIndex := 6, attributes := #[] }, { accessFlags := 9, nameIndex := 34, descriptorIndex := 35, attributes := #[] }, { accessFlags := 10, nameIndex := 26, descriptorIndex := 27, attributes := #[] }, { accessFlags := 10, nameIndex := 30, descriptorIndex := 31, attributes := #[] }] 49 2 #[] #[])
  fields := #[]
  methods := #[k1m0, k1m1, k1m2, k1m3]
  instanceTypes := #[]
  staticTypes := #[]
  resolved := Array.replicate 41 none
  statics := none }

def pool2 : Array CpInfo := pool [(1, .methodref 2 3), (0, .class_ 4), (0, .nameAndType 5 6), (0, u "java/lang/Object"), (0, u "<init>"), (0, u "()V"), (0, .string 8), (0, u "unknownElements"), (0, .methodref 10 11), (0, .class_ 12), (0, .nameAndType 13 14), (0, u "java/util/Objects"), (0, u "requireNonNull"), (0, u "(Ljava/lang/Object;Ljava/lang/String;)Ljava/lang/Object;"), (0, .class_ 16), (0, u "com/example/opwire/opwire/codec/ber/UnknownElements"), (0, .fieldref 18 19), (0, .class_ 20), (0, .nameAndType 8 21), (0, u "com/example/opwire/opwire/codec/tcap/TcapMessage"), (0, u "Lcom/example/opwire/opwire/codec/ber/UnknownElements;"), (16, u "(Lcom/example/opwire/opwire/codec/ber/UnknownElements;)V")] 28

def k2c0 : Code := { maxStack := 3, maxLocals := 2, code := prog_35_method_1_code, exceptionTable := #[], attributes := #[] }
def k2m0 : Method := { name := "<init>", desc := "(Lcom/example/opwire/opwire/codec/ber/UnknownElements;)V", sig := { parameters := [(.object "com/example/opwire/opwire/codec/ber/UnknownElements")], returnType := none }, accessFlags := 0, code := some k2c0 }
/-- com/example/opwire/opwire/codec/tcap/TcapMessage -/
def k2 : Class := { plain "com/example/opwire/opwire/codec/tcap/TcapMessage" (some 0) with
  accessFlags := 1057
  interfaces := #[]
  cf := some (fileOf pool2 18 #[] #[{ accessFlags := 0, nameIndex := 5, descriptorIndex := 38, attributes := #[] }] 1057 2 #[] #[{ accessFlags := 18, nameIndex := 8, descriptorIndex := 21, attributes := #[] }])
  fields := #[{ name := "unknownElements", type := (.object "com/example/opwire/opwire/codec/ber/UnknownElements"), accessFlags := 18, slot := 0, constantValue := 0 }]
  methods := #[k2m0]
  instanceTypes := #[(.object "com/example/opwire/opwire/codec/ber/UnknownElements")]
  staticTypes := #[]
  resolved := Array.replicate 67 none
  statics := none }

def pool3 : Array CpInfo := pool [(1, .fieldref 2 3), (0, .class_ 4), (0, .nameAndType 5 6), (0, u "com/example/opwire/opwire/codec/ber/UnknownElements"), (0, u "NONE"), (0, u "Lcom/example/opwire/opwire/codec/ber/UnknownElements;"), (0, .methodref 8 9), (0, .class_ 10), (0, .nameAndType 11 12), (0, u "com/example/opwire/opwire/codec/tcap/Abort"), (0, u "<init>"), (0, u "([BLjava/lang/Integer;[BLcom/example/opwire/opwire/codec/ber/UnknownElements;)V"), (0, .methodref 14 15), (0, .class_ 16), (0, .nameAndType 11 17), (0, u "com/example/opwire/opwire/codec/tcap/TcapMessage"), (0, u "(Lcom/example/opwire/opwire/codec/ber/UnknownElements;)V"), (7, .methodref 26 27), (0, .class_ 28), (0, .nameAndType 29 30), (0, u "[B"), (0, u "clone"), (0, u "()Ljava/lang/Object;"), (0, .fieldref 8 32), (0, .nameAndType 33 28), (0, u "destinationTransactionId"), (0, .fieldref 8 35), (0, .nameAndType 36 37), (0, u "pAbortCause"), (0, u "Ljava/lang/Integer;"), (0, .fieldref 8 39), (0, .nameAndType 40 28), (0, u "userAbortInformation"), (59, u "([BLjava/lang/Integer;[B)V"), (3, u "()[B")] 28

def k3c0 : Code := { maxStack := 5, maxLocals := 4, code := prog_23_method_1_code, exceptionTable := #[], attributes := #[] }
def k3m0 : Method := { name := "<init>", desc := "([BLjava/lang/Integer;[B)V", sig := { parameters := [(.array .byte), (.object "java/lang/Integer"), (.array .byte)], returnType := none }, accessFlags := 1, code := some k3c0 }
def k3c1 : Code := { maxStack := 3, maxLocals := 5, code := prog_23_method_2_code, exceptionTable := #[], attributes := #[] }
def k3m1 : Method := { name := "<init>", desc := "([BLjava/lang/Integer;[BLcom/example/opwire/opwire/codec/ber/UnknownElements;)V", sig := { parameters := [(.array .byte), (.object "java/lang/Integer"), (.array .byte), (.object "com/example/opwire/opwire/codec/ber/UnknownElements")], returnType := none }, accessFlags := 1, code := some k3c1 }
def k3c2 : Code := { maxStack := 1, maxLocals := 1, code := prog_23_method_5_code, exceptionTable := #[], attributes := #[] }
def k3m2 : Method := { name := "userAbortInformation", desc := "()[B", sig := { parameters := [], returnType := some (.array .byte) }, accessFlags := 1, code := some k3c2 }
/-- com/example/opwire/opwire/codec/tcap/Abort -/
def k3 : Class := { plain "com/example/opwire/opwire/codec/tcap/Abort" (some 2) with
  accessFlags := 49
  interfaces := #[]
  cf := some (fileOf pool3 8 #[] #[{ accessFlags := 1, nameIndex := 11, descriptorIndex := 100, attributes := #[] }, { accessFlags := 1, nameIndex := 11, descriptorIndex := 12, attributes := #[] }, { accessFlags := 1, nameIndex := 40, descriptorIndex := 104, attributes := #[] }] 49 14 #[] #[{ accessFlags := 18, nameIndex := 33, descriptorIndex := 28, attributes := #[] }, { accessFlags := 18, nameIndex := 36, descriptorIndex := 37, attributes := #[] }, { accessFlags := 18, nameIndex := 40, descriptorIndex := 28, attributes := #[] }])
  fields := #[{ name := "destinationTransactionId", type := (.array .byte), accessFlags := 18, slot := 1, constantValue := 0 }, { name := "pAbortCause", type := (.object "java/lang/Integer"), accessFlags := 18, slot := 2, constantValue := 0 }, { name := "userAbortInformation", type := (.array .byte), accessFlags := 18, slot := 3, constantValue := 0 }]
  methods := #[k3m0, k3m1, k3m2]
  instanceTypes := #[(.object "com/example/opwire/opwire/codec/ber/UnknownElements"), (.array .byte), (.object "java/lang/Integer"), (.array .byte)]
  staticTypes := #[]
  resolved := Array.replicate 133 none
  statics := none }

def pool4 : Array CpInfo := pool [(2, .class_ 4), (1, u "java/lang/Object"), (3, .class_ 10), (1, u "com/example/opwire/opwire/codec/ber/UnknownElements"), (0, u "elements"), (0, u "Ljava/util/List;"), (8, u "NONE"), (0, u "Lcom/example/opwire/opwire/codec/ber/UnknownElements;")] 96

/-- com/example/opwire/opwire/codec/ber/UnknownElements -/
def k4 : Class := { plain "com/example/opwire/opwire/codec/ber/UnknownElements" (some 0) with
  accessFlags := 49
  interfaces := #[]
  cf := some (fileOf pool4 8 #[] #[] 49 2 #[] #[{ accessFlags := 25, nameIndex := 21, descriptorIndex := 22, attributes := #[] }, { accessFlags := 18, nameIndex := 11, descriptorIndex := 12, attributes := #[] }])
  fields := #[{ name := "NONE", type := (.object "com/example/opwire/opwire/codec/ber/UnknownElements"), accessFlags := 25, slot := 0, constantValue := 0 }, { name := "elements", type := (.object "java/util/List"), accessFlags := 18, slot := 0, constantValue := 0 }]
  methods := #[]
  instanceTypes := #[(.object "java/util/List")]
  staticTypes := #[(.object "com/example/opwire/opwire/codec/ber/UnknownElements")]
  resolved := Array.replicate 119 none
  statics := some 0 }

def pool5 : Array CpInfo := pool [(1, .class_ 2), (0, u "java/io/Serializable"), (0, .class_ 4), (0, u "java/lang/Object")] 2

/-- java/io/Serializable -/
def k5 : Class := { plain "java/io/Serializable" (some 0) with
  accessFlags := 1537
  interfaces := #[]
  cf := some (fileOf pool5 1 #[] #[] 1537 3 #[] #[])
  fields := #[]
  methods := #[]
  instanceTypes := #[]
  staticTypes := #[]
  resolved := Array.replicate 7 none
  statics := none }

def pool6 : Array CpInfo := pool [(1, .class_ 2), (0, u "java/lang/Comparable"), (0, .class_ 4), (0, u "java/lang/Object")] 7

/-- java/lang/Comparable -/
def k6 : Class := { plain "java/lang/Comparable" (some 0) with
  accessFlags := 1537
  interfaces := #[]
  cf := some (fileOf pool6 1 #[] #[] 1537 3 #[] #[])
  fields := #[]
  methods := #[]
  instanceTypes := #[]
  staticTypes := #[]
  resolved := Array.replicate 12 none
  statics := none }

def pool7 : Array CpInfo := pool [(2, .class_ 4), (1, u "java/lang/CharSequence"), (42, .class_ 48), (0, u "java/lang/CharSequence$1CodePointIterator"), (10, .class_ 60), (0, u "java/lang/CharSequence$1CharIterator"), (5, .class_ 67), (0, u "java/lang/Object")] 63

/-- java/lang/CharSequence -/
def k7 : Class := { plain "java/lang/CharSequence" (some 0) with
  accessFlags := 1537
  interfaces := #[]
  cf := some (fileOf pool7 2 #[.nestMembers #[47, 59]] #[] 1537 66 #[] #[])
  fields := #[]
  methods := #[]
  instanceTypes := #[]
  staticTypes := #[]
  resolved := Array.replicate 131 none
  statics := none }

def pool8 : Array CpInfo := pool [(1, .class_ 2), (0, u "java/lang/constant/Constable"), (0, .class_ 4), (0, u "java/lang/Object")] 6

/-- java/lang/constant/Constable -/
def k8 : Class := { plain "java/lang/constant/Constable" (some 0) with
  accessFlags := 1537
  interfaces := #[]
  cf := some (fileOf pool8 1 #[] #[] 1537 3 #[] #[])
  fields := #[]
  methods := #[]
  instanceTypes := #[]
  staticTypes := #[]
  resolved := Array.replicate 11 none
  statics := none }

def pool9 : Array CpInfo := pool [(1, .class_ 2), (0, u "java/lang/constant/ConstantDesc"), (0, .class_ 4), (0, u "java/lang/Object")] 32

/-- java/lang/constant/ConstantDesc -/
def k9 : Class := { plain "java/lang/constant/ConstantDesc" (some 0) with
  accessFlags := 1537
  interfaces := #[]
  cf := some (fileOf pool9 1 #[] #[] 1537 3 #[] #[])
  fields := #[]
  methods := #[]
  instanceTypes := #[]
  staticTypes := #[]
  resolved := Array.replicate 37 none
  statics := none }

def pool10 : Array CpInfo := pool [(2, .class_ 4), (1, u "java/lang/Object"), (0, u "<init>"), (0, u "()V"), (3, .class_ 12), (1, u "java/lang/String"), (0, u "value"), (0, u "[B"), (2, u "coder"), (0, u "B"), (2, u "hash"), (0, u "I"), (2, u "hashIsZero"), (0, u "Z"), (13, u "COMPACT_STRINGS"), (534, .class_ 576), (0, u "java/lang/CharSequence"), (22, u "CASE_INSENSITIVE_ORDER"), (0, u "Ljava/util/Comparator;"), (500, u "serialPersistentFields"), (0, u "[Ljava/io/ObjectStreamField;"), (0, .class_ 1104), (0, u "java/lang/String$CaseInsensitiveComparator"), (1, .class_ 1107), (0, u "java/io/Serializable"), (0, .class_ 1109), (0, u "java/lang/Comparable"), (0, .class_ 1111), (0, u "java/lang/constant/Constable"), (0, .class_ 1113), (0, u "java/lang/constant/ConstantDesc"), (2, u "serialVersionUID"), (0, u "J"), (3, u "REPL"), (0, u "C"), (2, u "LATIN1"), (1, u "UTF16")] 323

def k10m0 : Method := { name := "<init>", desc := "()V", sig := { parameters := [], returnType := none }, accessFlags := 1, code := none }
/-- java/lang/String -/
def k10 : Class := { plain "java/lang/String" (some 0) with
  accessFlags := 49
  interfaces := #[5, 6, 7, 8, 9]
  cf := some (fileOf pool10 10 #[.nestMembers #[1103]] #[{ accessFlags := 1, nameIndex := 5, descriptorIndex := 6, attributes := #[] }] 49 2 #[1106, 1108, 575, 1110, 1112] #[{ accessFlags := 18, nameIndex := 13, descriptorIndex := 14, attributes := #[] }, { accessFlags := 18, nameIndex := 17, descriptorIndex := 18, attributes := #[] }, { accessFlags := 2, nameIndex := 21, descriptorIndex := 22, attributes := #[] }, { accessFlags := 2, nameIndex := 25, descriptorIndex := 26, attributes := #[] }, { accessFlags := 26, nameIndex := 1116, descriptorIndex := 1117, attributes := #[] }, { accessFlags := 24, nameIndex := 40, descriptorIndex := 26, attributes := #[] }, { accessFlags := 26, nameIndex := 1101, descriptorIndex := 1102, attributes := #[] }, { accessFlags := 26, nameIndex := 1121, descriptorIndex := 1122, attributes := #[] }, { accessFlags := 25, nameIndex := 599, descriptorIndex := 600, attributes := #[] }, { accessFlags := 24, nameIndex := 1125, descriptorIndex := 18, attributes := #[] }, { accessFlags := 24, nameIndex := 1127, descriptorIndex := 18, attributes := #[] }])
  fields := #[{ name := "value", type := (.array .byte), accessFlags := 18, slot := 0, constantValue := 0 }, { name := "coder", type := .byte, accessFlags := 18, slot := 1, constantValue := 0 }, { name := "hash", type := .int, accessFlags := 2, slot := 2, constantValue := 0 }, { name := "hashIsZero", type := .boolean, accessFlags := 2, slot := 3, constantValue := 0 }, { name := "serialVersionUID", type := .long, accessFlags := 26, slot := 0, constantValue := 0 }, { name := "COMPACT_STRINGS", type := .boolean, accessFlags := 24, slot := 1, constantValue := 0 }, { name := "serialPersistentFields", type := (.array (.object "java/io/ObjectStreamField")), accessFlags := 26, slot := 2, constantValue := 0 }, { name := "REPL", type := .char, accessFlags := 26, slot := 3, constantValue := 0 }, { name := "CASE_INSENSITIVE_ORDER", type := (.object "java/util/Comparator"), accessFlags := 25, slot := 4, constantValue := 0 }, { name := "LATIN1", type := .byte, accessFlags := 24, slot := 5, constantValue := 0 }, { name := "UTF16", type := .byte, accessFlags := 24, slot := 6, constantValue := 0 }]
  methods := #[k10m0]
  instanceTypes := #[(.array .byte), .byte, .int, .boolean]
  staticTypes := #[.long, .boolean, (.array (.object "java/io/ObjectStreamField")), .char, (.object "java/util/Comparator"), .byte, .byte]
  resolved := Array.replicate 1451 none
  statics := none }

def pool11 : Array CpInfo := pool [(2, .class_ 4), (1, u "java/lang/Object"), (0, u "<init>"), (0, u "()V"), (35, .class_ 44), (1, u "java/util/Objects"), (0, u "requireNonNull"), (48, u "(Ljava/lang/Object;Ljava/lang/String;)Ljava/lang/Object;")] 89

def k11m0 : Method := { name := "<init>", desc := "()V", sig := { parameters := [], returnType := none }, accessFlags := 2, code := none }
def k11c1 : Code := { maxStack := 3, maxLocals := 2, code := jdk_31_method_11_code, exceptionTable := #[], attributes := #[] }
def k11m1 : Method := { name := "requireNonNull", desc := "(Ljava/lang/Object;Ljava/lang/String;)Ljava/lang/Object;", sig := { parameters := [(.object "java/lang/Object"), (.object "java/lang/String")], returnType := some (.object "java/lang/Object") }, accessFlags := 9, code := some k11c1 }
/-- java/util/Objects -/
def k11 : Class := { plain "java/util/Objects" (some 0) with
  accessFlags := 49
  interfaces := #[]
  cf := some (fileOf pool11 42 #[] #[{ accessFlags := 2, nameIndex := 5, descriptorIndex := 6, attributes := #[] }, { accessFlags := 9, nameIndex := 45, descriptorIndex := 94, attributes := #[] }] 49 2 #[] #[])
  fields := #[]
  methods := #[k11m0, k11m1]
  instanceTypes := #[]
  staticTypes := #[]
  resolved := Array.replicate 184 none
  statics := none }

def pool12 : Array CpInfo := pool [(1, .class_ 2), (0, u "java/lang/Cloneable"), (0, .class_ 4), (0, u "java/lang/Object")] 2

/-- java/lang/Cloneable -/
def k12 : Class := { plain "java/lang/Cloneable" (some 0) with
  accessFlags := 1537
  interfaces := #[]
  cf := some (fileOf pool12 1 #[] #[] 1537 3 #[] #[])
  fields := #[]
  methods := #[]
  instanceTypes := #[]
  staticTypes := #[]
  resolved := Array.replicate 7 none
  statics := none }

def pool13 : Array CpInfo := pool [(1, .methodref 2 3), (0, .class_ 4), (0, .nameAndType 5 6), (0, u "java/lang/Object"), (0, u "<init>"), (0, u "()V"), (1, .class_ 10), (1, u "java/lang/Number"), (2, .class_ 14), (0, u "java/io/Serializable"), (0, u "serialVersionUID"), (0, u "J")] 20

def k13c0 : Code := { maxStack := 1, maxLocals := 1, code := jdk_18_method_1_code, exceptionTable := #[], attributes := #[] }
def k13m0 : Method := { name := "<init>", desc := "()V", sig := { parameters := [], returnType := none }, accessFlags := 1, code := some k13c0 }
/-- java/lang/Number -/
def k13 : Class := { plain "java/lang/Number" (some 0) with
  accessFlags := 1057
  interfaces := #[5]
  cf := some (fileOf pool13 8 #[] #[{ accessFlags := 1, nameIndex := 5, descriptorIndex := 6, attributes := #[] }] 1057 2 #[13] #[{ accessFlags := 26, nameIndex := 15, descriptorIndex := 16, attributes := #[] }])
  fields := #[{ name := "serialVersionUID", type := .long, accessFlags := 26, slot := 0, constantValue := 0 }]
  methods := #[k13m0]
  instanceTypes := #[]
  staticTypes := #[.long]
  resolved := Array.replicate 37 none
  statics := none }

def pool14 : Array CpInfo := pool [(1, .class_ 2), (0, u "java/lang/Integer"), (16, u "digits"), (0, u "[C"), (46, u "<init>"), (17, u "DigitOnes"), (0, u "[B"), (2, u "DigitTens"), (10, .nameAndType 67 101), (0, u "()V"), (85, u "valueOf"), (0, u "(I)Ljava/lang/Integer;"), (0, .class_ 190), (0, u "java/lang/Integer$IntegerCache"), (0, .fieldref 189 192), (0, .nameAndType 193 194), (0, u "high"), (0, u "I"), (0, .fieldref 189 196), (0, .nameAndType 197 198), (0, u "cache"), (0, u "[Ljava/lang/Integer;"), (0, .methodref 1 200), (0, .nameAndType 67 201), (0, u "(I)V"), (0, .methodref 203 100), (0, .class_ 204), (0, u "java/lang/Number"), (0, .fieldref 1 206), (0, .nameAndType 207 194), (0, u "value"), (94, u "TYPE"), (0, u "Ljava/lang/Class;"), (0, .class_ 305), (0, u "java/lang/Comparable"), (0, .class_ 307), (0, u "java/lang/constant/Constable"), (0, .class_ 309), (0, u "java/lang/constant/ConstantDesc"), (0, u "MIN_VALUE"), (1, u "MAX_VALUE"), (3, u "SIZE"), (1, u "BYTES"), (1, u "serialVersionUID"), (0, u "J")] 131

def k14c0 : Code := { maxStack := 3, maxLocals := 1, code := jdk_33_method_22_code, exceptionTable := #[], attributes := #[] }
def k14m0 : Method := { name := "valueOf", desc := "(I)Ljava/lang/Integer;", sig := { parameters := [.int], returnType := some (.object "java/lang/Integer") }, accessFlags := 9, code := some k14c0 }
def k14c1 : Code := { maxStack := 2, maxLocals := 2, code := jdk_33_method_23_code, exceptionTable := #[], attributes := #[] }
def k14m1 : Method := { name := "<init>", desc := "(I)V", sig := { parameters := [.int], returnType := none }, accessFlags := 1, code := some k14c1 }
/-- java/lang/Integer -/
def k14 : Class := { plain "java/lang/Integer" (some 13) with
  accessFlags := 49
  interfaces := #[6, 8, 9]
  cf := some (fileOf pool14 1 #[.nestMembers #[189]] #[{ accessFlags := 9, nameIndex := 187, descriptorIndex := 188, attributes := #[] }, { accessFlags := 1, nameIndex := 67, descriptorIndex := 201, attributes := #[] }] 49 203 #[304, 306, 308] #[{ accessFlags := 25, nameIndex := 310, descriptorIndex := 194, attributes := #[] }, { accessFlags := 25, nameIndex := 312, descriptorIndex := 194, attributes := #[] }, { accessFlags := 25, nameIndex := 302, descriptorIndex := 303, attributes := #[] }, { accessFlags := 24, nameIndex := 19, descriptorIndex := 20, attributes := #[] }, { accessFlags := 24, nameIndex := 89, descriptorIndex := 86, attributes := #[] }, { accessFlags := 24, nameIndex := 85, descriptorIndex := 86, attributes := #[] }, { accessFlags := 18, nameIndex := 207, descriptorIndex := 194, attributes := #[] }, { accessFlags := 25, nameIndex := 316, descriptorIndex := 194, attributes := #[] }, { accessFlags := 25, nameIndex := 318, descriptorIndex := 194, attributes := #[] }, { accessFlags := 26, nameIndex := 320, descriptorIndex := 321, attributes := #[] }])
  fields := #[{ name := "MIN_VALUE", type := .int, accessFlags := 25, slot := 0, constantValue := 0 }, { name := "MAX_VALUE", type := .int, accessFlags := 25, slot := 1, constantValue := 0 }, { name := "TYPE", type := (.object "java/lang/Class"), accessFlags := 25, slot := 2, constantValue := 0 }, { name := "digits", type := (.array .char), accessFlags := 24, slot := 3, constantValue := 0 }, { name := "DigitTens", type := (.array .byte), accessFlags := 24, slot := 4, constantValue := 0 }, { name := "DigitOnes", type := (.array .byte), accessFlags := 24, slot := 5, constantValue := 0 }, { name := "value", type := .int, accessFlags := 18, slot := 0, constantValue := 0 }, { name := "SIZE", type := .int, accessFlags := 25, slot := 6, constantValue := 0 }, { name := "BYTES", type := .int, accessFlags := 25, slot := 7, constantValue := 0 }, { name := "serialVersionUID", type := .long, accessFlags := 26, slot := 8, constantValue := 0 }]
  methods := #[k14m0, k14m1]
  instanceTypes := #[.int]
  staticTypes := #[.int, .int, (.object "java/lang/Class"), (.array .char), (.array .byte), (.array .byte), .int, .int, .long]
  resolved := Array.replicate 453 none
  statics := none }

def pool15 : Array CpInfo := pool [(2, .class_ 4), (1, u "java/lang/Object"), (0, u "<init>"), (0, u "()V"), (0, .class_ 8), (0, u "java/lang/Integer"), (7, .class_ 18), (1, u "java/lang/Integer$IntegerCache"), (0, u "$assertionsDisabled"), (0, u "Z"), (26, u "high"), (0, u "I"), (8, u "archivedCache"), (0, u "[Ljava/lang/Integer;"), (12, u "cache"), (0, u "low")] 27

def k15m0 : Method := { name := "<init>", desc := "()V", sig := { parameters := [], returnType := none }, accessFlags := 2, code := none }
/-- java/lang/Integer$IntegerCache -/
def k15 : Class := { plain "java/lang/Integer$IntegerCache" (some 0) with
  accessFlags := 48
  interfaces := #[]
  cf := some (fileOf pool15 16 #[.nestHost 7] #[{ accessFlags := 2, nameIndex := 5, descriptorIndex := 6, attributes := #[] }] 48 2 #[] #[{ accessFlags := 24, nameIndex := 72, descriptorIndex := 48, attributes := #[] }, { accessFlags := 24, nameIndex := 47, descriptorIndex := 48, attributes := #[] }, { accessFlags := 24, nameIndex := 71, descriptorIndex := 58, attributes := #[] }, { accessFlags := 8, nameIndex := 57, descriptorIndex := 58, attributes := #[] }, { accessFlags := 4120, nameIndex := 19, descriptorIndex := 20, attributes := #[] }])
  fields := #[{ name := "low", type := .int, accessFlags := 24, slot := 0, constantValue := 0 }, { name := "high", type := .int, accessFlags := 24, slot := 1, constantValue := 0 }, { name := "cache", type := (.array (.object "java/lang/Integer")), accessFlags := 24, slot := 2, constantValue := 0 }, { name := "archivedCache", type := (.array (.object "java/lang/Integer")), accessFlags := 8, slot := 3, constantValue := 0 }, { name := "$assertionsDisabled", type := .boolean, accessFlags := 4120, slot := 4, constantValue := 0 }]
  methods := #[k15m0]
  instanceTypes := #[]
  staticTypes := #[.int, .int, (.array (.object "java/lang/Integer")), (.array (.object "java/lang/Integer")), .boolean]
  resolved := Array.replicate 100 none
  statics := some 1 }

/-- the primitive byte -/
def k16 : Class := { plain "byte" none with kind := .primitive 'B', accessFlags := 0x411 }
/-- [B -/
def k17 : Class := { plain "[B" (some 0) with kind := .array 16 .byte, interfaces := #[12, 5], accessFlags := 1041 }

/-- the primitive int -/
def k18 : Class := { plain "int" none with kind := .primitive 'I', accessFlags := 0x411 }
/-- [I -/
def k19 : Class := { plain "[I" (some 0) with kind := .array 18 .int, interfaces := #[12, 5], accessFlags := 1041 }

/-- [Ljava/lang/Integer; -/
def k20 : Class := { plain "[Ljava/lang/Integer;" (some 0) with kind := .array 14 (.object "java/lang/Integer"), interfaces := #[12, 5], accessFlags := 1041 }

def heap : Heap := #[{ cls := 4, slots := #[.ref 259], vm := .statics 4 },
  { cls := 15, slots := #[.int 0, .int 127, .ref 2, .null, .int 0], vm := .statics 15 },
  { cls := 20, slots := #[.ref 3, .ref 4, .ref 5, .ref 6, .ref 7, .ref 8, .ref 9, .ref 10, .ref 11, .ref 12, .ref 13, .ref 14, .ref 15, .ref 16, .ref 17, .ref 18, .ref 19, .ref 20, .ref 21, .ref 22, .ref 23, .ref 24, .ref 25, .ref 26, .ref 27, .ref 28, .ref 29, .ref 30, .ref 31, .ref 32, .ref 33, .ref 34, .ref 35, .ref 36, .ref 37, .ref 38, .ref 39, .ref 40, .ref 41, .ref 42, .ref 43, .ref 44, .ref 45, .ref 46, .ref 47, .ref 48, .ref 49, .ref 50, .ref 51, .ref 52, .ref 53, .ref 54, .ref 55, .ref 56, .ref 57, .ref 58, .ref 59, .ref 60, .ref 61, .ref 62, .ref 63, .ref 64, .ref 65, .ref 66, .ref 67, .ref 68, .ref 69, .ref 70, .ref 71, .ref 72, .ref 73, .ref 74, .ref 75, .ref 76, .ref 77, .ref 78, .ref 79, .ref 80, .ref 81, .ref 82, .ref 83, .ref 84, .ref 85, .ref 86, .ref 87, .ref 88, .ref 89, .ref 90, .ref 91, .ref 92, .ref 93, .ref 94, .ref 95, .ref 96, .ref 97, .ref 98, .ref 99, .ref 100, .ref 101, .ref 102, .ref 103, .ref 104, .ref 105, .ref 106, .ref 107, .ref 108, .ref 109, .ref 110, .ref 111, .ref 112, .ref 113, .ref 114, .ref 115, .ref 116, .ref 117, .ref 118, .ref 119, .ref 120, .ref 121, .ref 122, .ref 123, .ref 124, .ref 125, .ref 126, .ref 127, .ref 128, .ref 129, .ref 130, .ref 131, .ref 132, .ref 133, .ref 134, .ref 135, .ref 136, .ref 137, .ref 138, .ref 139, .ref 140, .ref 141, .ref 142, .ref 143, .ref 144, .ref 145, .ref 146, .ref 147, .ref 148, .ref 149, .ref 150, .ref 151, .ref 152, .ref 153, .ref 154, .ref 155, .ref 156, .ref 157, .ref 158, .ref 159, .ref 160, .ref 161, .ref 162, .ref 163, .ref 164, .ref 165, .ref 166, .ref 167, .ref 168, .ref 169, .ref 170, .ref 171, .ref 172, .ref 173, .ref 174, .ref 175, .ref 176, .ref 177, .ref 178, .ref 179, .ref 180, .ref 181, .ref 182, .ref 183, .ref 184, .ref 185, .ref 186, .ref 187, .ref 188, .ref 189, .ref 190, .ref 191, .ref 192, .ref 193, .ref 194, .ref 195, .ref 196, .ref 197, .ref 198, .ref 199, .ref 200, .ref 201, .ref 202, .ref 203, .ref 204, .ref 205, .ref 206, .ref 207, .ref 208, .ref 209, .ref 210, .ref 211, .ref 212, .ref 213, .ref 214, .ref 215, .ref 216, .ref 217, .ref 218, .ref 219, .ref 220, .ref 221, .ref 222, .ref 223, .ref 224, .ref 225, .ref 226, .ref 227, .ref 228, .ref 229, .ref 230, .ref 231, .ref 232, .ref 233, .ref 234, .ref 235, .ref 236, .ref 237, .ref 238, .ref 239, .ref 240, .ref 241, .ref 242, .ref 243, .ref 244, .ref 245, .ref 246, .ref 247, .ref 248, .ref 249, .ref 250, .ref 251, .ref 252, .ref 253, .ref 254, .ref 255, .ref 256, .ref 257, .ref 258], vm := .none },
  { cls := 14, slots := #[.int (-128)], vm := .none },
  { cls := 14, slots := #[.int (-127)], vm := .none },
  { cls := 14, slots := #[.int (-126)], vm := .none },
  { cls := 14, slots := #[.int (-125)], vm := .none },
  { cls := 14, slots := #[.int (-124)], vm := .none },
  { cls := 14, slots := #[.int (-123)], vm := .none },
  { cls := 14, slots := #[.int (-122)], vm := .none },
  { cls := 14, slots := #[.int (-121)], vm := .none },
  { cls := 14, slots := #[.int (-120)], vm := .none },
  { cls := 14, slots := #[.int (-119)], vm := .none },
  { cls := 14, slots := #[.int (-118)], vm := .none },
  { cls := 14, slots := #[.int (-117)], vm := .none },
  { cls := 14, slots := #[.int (-116)], vm := .none },
  { cls := 14, slots := #[.int (-115)], vm := .none },
  { cls := 14, slots := #[.int (-114)], vm := .none },
  { cls := 14, slots := #[.int (-113)], vm := .none },
  { cls := 14, slots := #[.int (-112)], vm := .none },
  { cls := 14, slots := #[.int (-111)], vm := .none },
  { cls := 14, slots := #[.int (-110)], vm := .none },
  { cls := 14, slots := #[.int (-109)], vm := .none },
  { cls := 14, slots := #[.int (-108)], vm := .none },
  { cls := 14, slots := #[.int (-107)], vm := .none },
  { cls := 14, slots := #[.int (-106)], vm := .none },
  { cls := 14, slots := #[.int (-105)], vm := .none },
  { cls := 14, slots := #[.int (-104)], vm := .none },
  { cls := 14, slots := #[.int (-103)], vm := .none },
  { cls := 14, slots := #[.int (-102)], vm := .none },
  { cls := 14, slots := #[.int (-101)], vm := .none },
  { cls := 14, slots := #[.int (-100)], vm := .none },
  { cls := 14, slots := #[.int (-99)], vm := .none },
  { cls := 14, slots := #[.int (-98)], vm := .none },
  { cls := 14, slots := #[.int (-97)], vm := .none },
  { cls := 14, slots := #[.int (-96)], vm := .none },
  { cls := 14, slots := #[.int (-95)], vm := .none },
  { cls := 14, slots := #[.int (-94)], vm := .none },
  { cls := 14, slots := #[.int (-93)], vm := .none },
  { cls := 14, slots := #[.int (-92)], vm := .none },
  { cls := 14, slots := #[.int (-91)], vm := .none },
  { cls := 14, slots := #[.int (-90)], vm := .none },
  { cls := 14, slots := #[.int (-89)], vm := .none },
  { cls := 14, slots := #[.int (-88)], vm := .none },
  { cls := 14, slots := #[.int (-87)], vm := .none },
  { cls := 14, slots := #[.int (-86)], vm := .none },
  { cls := 14, slots := #[.int (-85)], vm := .none },
  { cls := 14, slots := #[.int (-84)], vm := .none },
  { cls := 14, slots := #[.int (-83)], vm := .none },
  { cls := 14, slots := #[.int (-82)], vm := .none },
  { cls := 14, slots := #[.int (-81)], vm := .none },
  { cls := 14, slots := #[.int (-80)], vm := .none },
  { cls := 14, slots := #[.int (-79)], vm := .none },
  { cls := 14, slots := #[.int (-78)], vm := .none },
  { cls := 14, slots := #[.int (-77)], vm := .none },
  { cls := 14, slots := #[.int (-76)], vm := .none },
  { cls := 14, slots := #[.int (-75)], vm := .none },
  { cls := 14, slots := #[.int (-74)], vm := .none },
  { cls := 14, slots := #[.int (-73)], vm := .none },
  { cls := 14, slots := #[.int (-72)], vm := .none },
  { cls := 14, slots := #[.int (-71)], vm := .none },
  { cls := 14, slots := #[.int (-70)], vm := .none },
  { cls := 14, slots := #[.int (-69)], vm := .none },
  { cls := 14, slots := #[.int (-68)], vm := .none },
  { cls := 14, slots := #[.int (-67)], vm := .none },
  { cls := 14, slots := #[.int (-66)], vm := .none },
  { cls := 14, slots := #[.int (-65)], vm := .none },
  { cls := 14, slots := #[.int (-64)], vm := .none },
  { cls := 14, slots := #[.int (-63)], vm := .none },
  { cls := 14, slots := #[.int (-62)], vm := .none },
  { cls := 14, slots := #[.int (-61)], vm := .none },
  { cls := 14, slots := #[.int (-60)], vm := .none },
  { cls := 14, slots := #[.int (-59)], vm := .none },
  { cls := 14, slots := #[.int (-58)], vm := .none },
  { cls := 14, slots := #[.int (-57)], vm := .none },
  { cls := 14, slots := #[.int (-56)], vm := .none },
  { cls := 14, slots := #[.int (-55)], vm := .none },
  { cls := 14, slots := #[.int (-54)], vm := .none },
  { cls := 14, slots := #[.int (-53)], vm := .none },
  { cls := 14, slots := #[.int (-52)], vm := .none },
  { cls := 14, slots := #[.int (-51)], vm := .none },
  { cls := 14, slots := #[.int (-50)], vm := .none },
  { cls := 14, slots := #[.int (-49)], vm := .none },
  { cls := 14, slots := #[.int (-48)], vm := .none },
  { cls := 14, slots := #[.int (-47)], vm := .none },
  { cls := 14, slots := #[.int (-46)], vm := .none },
  { cls := 14, slots := #[.int (-45)], vm := .none },
  { cls := 14, slots := #[.int (-44)], vm := .none },
  { cls := 14, slots := #[.int (-43)], vm := .none },
  { cls := 14, slots := #[.int (-42)], vm := .none },
  { cls := 14, slots := #[.int (-41)], vm := .none },
  { cls := 14, slots := #[.int (-40)], vm := .none },
  { cls := 14, slots := #[.int (-39)], vm := .none },
  { cls := 14, slots := #[.int (-38)], vm := .none },
  { cls := 14, slots := #[.int (-37)], vm := .none },
  { cls := 14, slots := #[.int (-36)], vm := .none },
  { cls := 14, slots := #[.int (-35)], vm := .none },
  { cls := 14, slots := #[.int (-34)], vm := .none },
  { cls := 14, slots := #[.int (-33)], vm := .none },
  { cls := 14, slots := #[.int (-32)], vm := .none },
  { cls := 14, slots := #[.int (-31)], vm := .none },
  { cls := 14, slots := #[.int (-30)], vm := .none },
  { cls := 14, slots := #[.int (-29)], vm := .none },
  { cls := 14, slots := #[.int (-28)], vm := .none },
  { cls := 14, slots := #[.int (-27)], vm := .none },
  { cls := 14, slots := #[.int (-26)], vm := .none },
  { cls := 14, slots := #[.int (-25)], vm := .none },
  { cls := 14, slots := #[.int (-24)], vm := .none },
  { cls := 14, slots := #[.int (-23)], vm := .none },
  { cls := 14, slots := #[.int (-22)], vm := .none },
  { cls := 14, slots := #[.int (-21)], vm := .none },
  { cls := 14, slots := #[.int (-20)], vm := .none },
  { cls := 14, slots := #[.int (-19)], vm := .none },
  { cls := 14, slots := #[.int (-18)], vm := .none },
  { cls := 14, slots := #[.int (-17)], vm := .none },
  { cls := 14, slots := #[.int (-16)], vm := .none },
  { cls := 14, slots := #[.int (-15)], vm := .none },
  { cls := 14, slots := #[.int (-14)], vm := .none },
  { cls := 14, slots := #[.int (-13)], vm := .none },
  { cls := 14, slots := #[.int (-12)], vm := .none },
  { cls := 14, slots := #[.int (-11)], vm := .none },
  { cls := 14, slots := #[.int (-10)], vm := .none },
  { cls := 14, slots := #[.int (-9)], vm := .none },
  { cls := 14, slots := #[.int (-8)], vm := .none },
  { cls := 14, slots := #[.int (-7)], vm := .none },
  { cls := 14, slots := #[.int (-6)], vm := .none },
  { cls := 14, slots := #[.int (-5)], vm := .none },
  { cls := 14, slots := #[.int (-4)], vm := .none },
  { cls := 14, slots := #[.int (-3)], vm := .none },
  { cls := 14, slots := #[.int (-2)], vm := .none },
  { cls := 14, slots := #[.int (-1)], vm := .none },
  { cls := 14, slots := #[.int 0], vm := .none },
  { cls := 14, slots := #[.int 1], vm := .none },
  { cls := 14, slots := #[.int 2], vm := .none },
  { cls := 14, slots := #[.int 3], vm := .none },
  { cls := 14, slots := #[.int 4], vm := .none },
  { cls := 14, slots := #[.int 5], vm := .none },
  { cls := 14, slots := #[.int 6], vm := .none },
  { cls := 14, slots := #[.int 7], vm := .none },
  { cls := 14, slots := #[.int 8], vm := .none },
  { cls := 14, slots := #[.int 9], vm := .none },
  { cls := 14, slots := #[.int 10], vm := .none },
  { cls := 14, slots := #[.int 11], vm := .none },
  { cls := 14, slots := #[.int 12], vm := .none },
  { cls := 14, slots := #[.int 13], vm := .none },
  { cls := 14, slots := #[.int 14], vm := .none },
  { cls := 14, slots := #[.int 15], vm := .none },
  { cls := 14, slots := #[.int 16], vm := .none },
  { cls := 14, slots := #[.int 17], vm := .none },
  { cls := 14, slots := #[.int 18], vm := .none },
  { cls := 14, slots := #[.int 19], vm := .none },
  { cls := 14, slots := #[.int 20], vm := .none },
  { cls := 14, slots := #[.int 21], vm := .none },
  { cls := 14, slots := #[.int 22], vm := .none },
  { cls := 14, slots := #[.int 23], vm := .none },
  { cls := 14, slots := #[.int 24], vm := .none },
  { cls := 14, slots := #[.int 25], vm := .none },
  { cls := 14, slots := #[.int 26], vm := .none },
  { cls := 14, slots := #[.int 27], vm := .none },
  { cls := 14, slots := #[.int 28], vm := .none },
  { cls := 14, slots := #[.int 29], vm := .none },
  { cls := 14, slots := #[.int 30], vm := .none },
  { cls := 14, slots := #[.int 31], vm := .none },
  { cls := 14, slots := #[.int 32], vm := .none },
  { cls := 14, slots := #[.int 33], vm := .none },
  { cls := 14, slots := #[.int 34], vm := .none },
  { cls := 14, slots := #[.int 35], vm := .none },
  { cls := 14, slots := #[.int 36], vm := .none },
  { cls := 14, slots := #[.int 37], vm := .none },
  { cls := 14, slots := #[.int 38], vm := .none },
  { cls := 14, slots := #[.int 39], vm := .none },
  { cls := 14, slots := #[.int 40], vm := .none },
  { cls := 14, slots := #[.int 41], vm := .none },
  { cls := 14, slots := #[.int 42], vm := .none },
  { cls := 14, slots := #[.int 43], vm := .none },
  { cls := 14, slots := #[.int 44], vm := .none },
  { cls := 14, slots := #[.int 45], vm := .none },
  { cls := 14, slots := #[.int 46], vm := .none },
  { cls := 14, slots := #[.int 47], vm := .none },
  { cls := 14, slots := #[.int 48], vm := .none },
  { cls := 14, slots := #[.int 49], vm := .none },
  { cls := 14, slots := #[.int 50], vm := .none },
  { cls := 14, slots := #[.int 51], vm := .none },
  { cls := 14, slots := #[.int 52], vm := .none },
  { cls := 14, slots := #[.int 53], vm := .none },
  { cls := 14, slots := #[.int 54], vm := .none },
  { cls := 14, slots := #[.int 55], vm := .none },
  { cls := 14, slots := #[.int 56], vm := .none },
  { cls := 14, slots := #[.int 57], vm := .none },
  { cls := 14, slots := #[.int 58], vm := .none },
  { cls := 14, slots := #[.int 59], vm := .none },
  { cls := 14, slots := #[.int 60], vm := .none },
  { cls := 14, slots := #[.int 61], vm := .none },
  { cls := 14, slots := #[.int 62], vm := .none },
  { cls := 14, slots := #[.int 63], vm := .none },
  { cls := 14, slots := #[.int 64], vm := .none },
  { cls := 14, slots := #[.int 65], vm := .none },
  { cls := 14, slots := #[.int 66], vm := .none },
  { cls := 14, slots := #[.int 67], vm := .none },
  { cls := 14, slots := #[.int 68], vm := .none },
  { cls := 14, slots := #[.int 69], vm := .none },
  { cls := 14, slots := #[.int 70], vm := .none },
  { cls := 14, slots := #[.int 71], vm := .none },
  { cls := 14, slots := #[.int 72], vm := .none },
  { cls := 14, slots := #[.int 73], vm := .none },
  { cls := 14, slots := #[.int 74], vm := .none },
  { cls := 14, slots := #[.int 75], vm := .none },
  { cls := 14, slots := #[.int 76], vm := .none },
  { cls := 14, slots := #[.int 77], vm := .none },
  { cls := 14, slots := #[.int 78], vm := .none },
  { cls := 14, slots := #[.int 79], vm := .none },
  { cls := 14, slots := #[.int 80], vm := .none },
  { cls := 14, slots := #[.int 81], vm := .none },
  { cls := 14, slots := #[.int 82], vm := .none },
  { cls := 14, slots := #[.int 83], vm := .none },
  { cls := 14, slots := #[.int 84], vm := .none },
  { cls := 14, slots := #[.int 85], vm := .none },
  { cls := 14, slots := #[.int 86], vm := .none },
  { cls := 14, slots := #[.int 87], vm := .none },
  { cls := 14, slots := #[.int 88], vm := .none },
  { cls := 14, slots := #[.int 89], vm := .none },
  { cls := 14, slots := #[.int 90], vm := .none },
  { cls := 14, slots := #[.int 91], vm := .none },
  { cls := 14, slots := #[.int 92], vm := .none },
  { cls := 14, slots := #[.int 93], vm := .none },
  { cls := 14, slots := #[.int 94], vm := .none },
  { cls := 14, slots := #[.int 95], vm := .none },
  { cls := 14, slots := #[.int 96], vm := .none },
  { cls := 14, slots := #[.int 97], vm := .none },
  { cls := 14, slots := #[.int 98], vm := .none },
  { cls := 14, slots := #[.int 99], vm := .none },
  { cls := 14, slots := #[.int 100], vm := .none },
  { cls := 14, slots := #[.int 101], vm := .none },
  { cls := 14, slots := #[.int 102], vm := .none },
  { cls := 14, slots := #[.int 103], vm := .none },
  { cls := 14, slots := #[.int 104], vm := .none },
  { cls := 14, slots := #[.int 105], vm := .none },
  { cls := 14, slots := #[.int 106], vm := .none },
  { cls := 14, slots := #[.int 107], vm := .none },
  { cls := 14, slots := #[.int 108], vm := .none },
  { cls := 14, slots := #[.int 109], vm := .none },
  { cls := 14, slots := #[.int 110], vm := .none },
  { cls := 14, slots := #[.int 111], vm := .none },
  { cls := 14, slots := #[.int 112], vm := .none },
  { cls := 14, slots := #[.int 113], vm := .none },
  { cls := 14, slots := #[.int 114], vm := .none },
  { cls := 14, slots := #[.int 115], vm := .none },
  { cls := 14, slots := #[.int 116], vm := .none },
  { cls := 14, slots := #[.int 117], vm := .none },
  { cls := 14, slots := #[.int 118], vm := .none },
  { cls := 14, slots := #[.int 119], vm := .none },
  { cls := 14, slots := #[.int 120], vm := .none },
  { cls := 14, slots := #[.int 121], vm := .none },
  { cls := 14, slots := #[.int 122], vm := .none },
  { cls := 14, slots := #[.int 123], vm := .none },
  { cls := 14, slots := #[.int 124], vm := .none },
  { cls := 14, slots := #[.int 125], vm := .none },
  { cls := 14, slots := #[.int 126], vm := .none },
  { cls := 14, slots := #[.int 127], vm := .none },
  { cls := 4, slots := #[.null], vm := .none }]
def classes : Array Class := #[k0, k1, k2, k3, k4, k5, k6, k7, k8, k9, k10, k11, k12, k13, k14, k15, k16, k17, k18, k19, k20]
def interned : List (Array UInt16 × Addr) := []
def slotsUsed : Nat := 519
def theMethod : MethodId := ⟨1, 1⟩
def args0 : Array Value := #[.int 5, .int 7, .int 9, .int 11, .int 3]
def aboutOver (below : List Frame) : State where
  vm := { classes := classes, interned := interned.toArray }
  heap := heap
  slotsUsed := slotsUsed
  threads := #[{ frames := .invoking theMethod args0 :: below }]
def below0 : List Frame := [.native { method := ⟨0, 0⟩, args := #[] }]
def about1 : State := aboutOver below0
def p0 : Program := .bare "" "" ""
def e0 : Env := launch0.env 0 0 0
theorem w_frames : about1.frames = Frame.invoking theMethod args0 :: below0 := rfl
set_option maxRecDepth 65536 in
theorem w_args : argsFit about1.vm theMethod args0 = true := by decide +kernel
set_option maxRecDepth 65536 in
theorem w_heap : heapFits about1 = true := by decide +kernel
set_option maxRecDepth 65536 in
theorem w_runnable : about1.curStatus? = some .runnable := by decide +kernel
set_option maxRecDepth 65536 in
theorem w_alone : about1.alone = true := by decide +kernel
set_option maxRecDepth 65536 in
theorem w_named : about1.methodNamed? x = some theMethod := by decide +kernel
set_option maxRecDepth 65536 in
theorem w_hears : about1.hears theMethod below0 = true := by decide +kernel
set_option maxRecDepth 65536 in
theorem w_ripe : about1.ripe theMethod args0 below0 = true := by decide +kernel
theorem w_running : about1.status = .running := rfl
set_option maxRecDepth 65536 in
theorem w_room : about1.hasRoom e0.platform room_1 = true :=
  launch0.hasRoom_least _ room_1 (by decide +kernel) (by decide +kernel) (by decide +kernel) (by decide +kernel) (by decide +kernel) (by decide +kernel)
theorem allAtoms_all (ts : List Jvm.Cond) (a : Array Jvm.Value) (st : Jvm.State) : (allAtoms ts).before a st = ts.all (fun c => c.before a st) := by
  induction ts with
  | nil => rfl
  | cons c t ih =>
    show (Jvm.Cond.and c (allAtoms t)).before a st = _
    rw [Jvm.Cond.before_and, ih, List.all_cons]
def words1 : List Jvm.Cond := Jvm.Cond.code x code maxLocals ret :: tables_1
/-- a 'code' word, met by the world's own term for the bytes: nothing is compared byte by byte -/
theorem code_word {y : MethodName} {bytes : ByteArray} {mx : Nat} {rt : Option FieldType} {a : Array Value} {s : State} {m : MethodId} {meth : Method} {c : Code} (h1 : s.methodNamed? y = some m) (h2 : s.vm.method? m = some meth) (h3 : meth.code = some c) (h4 : c.code = bytes)
    (h5 : (c.maxLocals == mx && c.exceptionTable.isEmpty && decide (c.maxStack ≤ mostOperands) && decide (meth.sig.returnType = rt) && !meth.locks && decide (parseMethodDescriptor y.desc = some meth.sig)) = true) : (Jvm.Cond.code y bytes mx rt).before a s = true := by
  simp only [Bool.and_eq_true, beq_iff_eq, Bool.not_eq_true', decide_eq_true_eq] at h5
  obtain ⟨⟨⟨⟨⟨g1, g2⟩, g3⟩, g4⟩, g5⟩, g6⟩ := h5
  simp [Cond.before, Cond.holds, Cond.value, h1, h2, h3, h4, g1, g2, g3, g4, g5, g6]
def isCode : Jvm.Cond → Bool
  | .code _ _ _ _ => true
  | _ => false
theorem all_split {L : List Jvm.Cond} {P : Jvm.Cond → Bool} (h1 : L.all (fun c => isCode c || P c) = true) (h2 : ∀ c ∈ L.filter isCode, P c = true) : L.all P = true := by
  refine List.all_eq_true.mpr fun c hc => ?_
  have h := List.all_eq_true.mp h1 c hc
  rcases Bool.eq_false_or_eq_true (isCode c) with hi | hi
  · exact h2 c (List.mem_filter.mpr ⟨hc, hi⟩)
  · simpa [hi] using h
set_option maxRecDepth 65536 in
theorem w_c0 : (Jvm.Cond.code x code maxLocals ret).before args0 about1 = true := code_word (m := ⟨1, 1⟩) (meth := k1m1) (c := k1c1) (by decide +kernel) rfl rfl rfl (by decide +kernel)
set_option maxRecDepth 65536 in
theorem w_c1 : (Jvm.Cond.code ({ cls := "com/example/opwire/opwire/codec/tcap/Abort", name := "<init>", desc := "([BLjava/lang/Integer;[B)V" } : Jvm.MethodName) prog_23_method_1_code (4 : Nat) (Option.none : Option Jvm.ClassFile.FieldType)).before args0 about1 = true := code_word (m := ⟨3, 0⟩) (meth := k3m0) (c := k3c0) (by decide +kernel) rfl rfl rfl (by decide +kernel)
set_option maxRecDepth 65536 in
theorem w_c2 : (Jvm.Cond.code ({ cls := "com/example/opwire/opwire/codec/tcap/Abort", name := "<init>", desc := "([BLjava/lang/Integer;[BLcom/example/opwire/opwire/codec/ber/UnknownElements;)V" } : Jvm.MethodName) prog_23_method_2_code (5 : Nat) (Option.none : Option Jvm.ClassFile.FieldType)).before args0 about1 = true := code_word (m := ⟨3, 1⟩) (meth := k3m1) (c := k3c1) (by decide +kernel) rfl rfl rfl (by decide +kernel)
set_option maxRecDepth 65536 in
theorem w_c3 : (Jvm.Cond.code ({ cls := "com/example/opwire/opwire/codec/tcap/TcapMessage", name := "<init>", desc := "(Lcom/example/opwire/opwire/codec/ber/UnknownElements;)V" } : Jvm.MethodName) prog_35_method_1_code (2 : Nat) (Option.none : Option Jvm.ClassFile.FieldType)).before args0 about1 = true := code_word (m := ⟨2, 0⟩) (meth := k2m0) (c := k2c0) (by decide +kernel) rfl rfl rfl (by decide +kernel)
set_option maxRecDepth 65536 in
theorem w_c4 : (Jvm.Cond.code ({ cls := "java/lang/Object", name := "<init>", desc := "()V" } : Jvm.MethodName) object_method_1_code (1 : Nat) (Option.none : Option Jvm.ClassFile.FieldType)).before args0 about1 = true := code_word (m := ⟨0, 0⟩) (meth := k0m0) (c := k0c0) (by decide +kernel) rfl rfl rfl (by decide +kernel)
set_option maxRecDepth 65536 in
theorem w_c5 : (Jvm.Cond.code ({ cls := "java/util/Objects", name := "requireNonNull", desc := "(Ljava/lang/Object;Ljava/lang/String;)Ljava/lang/Object;" } : Jvm.MethodName) jdk_31_method_11_code (2 : Nat) (Option.some (Jvm.ClassFile.FieldType.object "java/lang/Object"))).before args0 about1 = true := code_word (m := ⟨11, 1⟩) (meth := k11m1) (c := k11c1) (by decide +kernel) rfl rfl rfl (by decide +kernel)
set_option maxRecDepth 65536 in
theorem w_c6 : (Jvm.Cond.code ({ cls := "com/example/opwire/opwire/codec/tcap/Abort", name := "userAbortInformation", desc := "()[B" } : Jvm.MethodName) prog_23_method_5_code (1 : Nat) (Option.some (Jvm.ClassFile.FieldType.array Jvm.ClassFile.FieldType.byte))).before args0 about1 = true := code_word (m := ⟨3, 2⟩) (meth := k3m2) (c := k3c2) (by decide +kernel) rfl rfl rfl (by decide +kernel)
set_option maxRecDepth 65536 in
theorem w_c7 : (Jvm.Cond.code ({ cls := "com/example/opwire/opwire/codec/tcap/AbortUserAbortInformationPinLaw", name := "same", desc := "([BIBBB)Z" } : Jvm.MethodName) method_3_code (5 : Nat) (Option.some Jvm.ClassFile.FieldType.boolean)).before args0 about1 = true := code_word (m := ⟨1, 2⟩) (meth := k1m2) (c := k1c2) (by decide +kernel) rfl rfl rfl (by decide +kernel)
set_option maxRecDepth 65536 in
theorem w_c8 : (Jvm.Cond.code ({ cls := "com/example/opwire/opwire/codec/tcap/AbortUserAbortInformationPinLaw", name := "flip", desc := "([B)V" } : Jvm.MethodName) method_4_code (1 : Nat) (Option.none : Option Jvm.ClassFile.FieldType)).before args0 about1 = true := code_word (m := ⟨1, 3⟩) (meth := k1m3) (c := k1c3) (by decide +kernel) rfl rfl rfl (by decide +kernel)
set_option maxRecDepth 65536 in
theorem w_c9 : (Jvm.Cond.code ({ cls := "java/lang/Integer", name := "valueOf", desc := "(I)Ljava/lang/Integer;" } : Jvm.MethodName) jdk_33_method_22_code (1 : Nat) (Option.some (Jvm.ClassFile.FieldType.object "java/lang/Integer"))).before args0 about1 = true := code_word (m := ⟨14, 0⟩) (meth := k14m0) (c := k14c0) (by decide +kernel) rfl rfl rfl (by decide +kernel)
set_option maxRecDepth 65536 in
theorem w_c10 : (Jvm.Cond.code ({ cls := "java/lang/Integer", name := "<init>", desc := "(I)V" } : Jvm.MethodName) jdk_33_method_23_code (2 : Nat) (Option.none : Option Jvm.ClassFile.FieldType)).before args0 about1 = true := code_word (m := ⟨14, 1⟩) (meth := k14m1) (c := k14c1) (by decide +kernel) rfl rfl rfl (by decide +kernel)
set_option maxRecDepth 65536 in
theorem w_c11 : (Jvm.Cond.code ({ cls := "java/lang/Number", name := "<init>", desc := "()V" } : Jvm.MethodName) jdk_18_method_1_code (1 : Nat) (Option.none : Option Jvm.ClassFile.FieldType)).before args0 about1 = true := code_word (m := ⟨13, 0⟩) (meth := k13m0) (c := k13c0) (by decide +kernel) rfl rfl rfl (by decide +kernel)
def codes1 : List Jvm.Cond := [Jvm.Cond.code x code maxLocals ret, Jvm.Cond.code ({ cls := "com/example/opwire/opwire/codec/tcap/Abort", name := "<init>", desc := "([BLjava/lang/Integer;[B)V" } : Jvm.MethodName) prog_23_method_1_code (4 : Nat) (Option.none : Option Jvm.ClassFile.FieldType), Jvm.Cond.code ({ cls := "com/example/opwire/opwire/codec/tcap/Abort", name := "<init>", desc := "([BLjava/lang/Integer;[BLcom/example/opwire/opwire/codec/ber/UnknownElements;)V" } : Jvm.MethodName) prog_23_method_2_code (5 : Nat) (Option.none : Option Jvm.ClassFile.FieldType), Jvm.Cond.code ({ cls := "com/example/opwire/opwire/codec/tcap/TcapMessage", name := "<init>", desc := "(Lcom/example/opwire/opwire/codec/ber/UnknownElements;)V" } : Jvm.MethodName) prog_35_method_1_code (2 : Nat) (Option.none : Option Jvm.ClassFile.FieldType), Jvm.Cond.code ({ cls := "java/lang/Object", name := "<init>", desc := "()V" } : Jvm.MethodName) object_method_1_code (1 : Nat) (Option.none : Option Jvm.ClassFile.FieldType), Jvm.Cond.code ({ cls := "java/util/Objects", name := "requireNonNull", desc := "(Ljava/lang/Object;Ljava/lang/String;)Ljava/lang/Object;" } : Jvm.MethodName) jdk_31_method_11_code (2 : Nat) (Option.some (Jvm.ClassFile.FieldType.object "java/lang/Object")), Jvm.Cond.code ({ cls := "com/example/opwire/opwire/codec/tcap/Abort", name := "userAbortInformation", desc := "()[B" } : Jvm.MethodName) prog_23_method_5_code (1 : Nat) (Option.some (Jvm.ClassFile.FieldType.array Jvm.ClassFile.FieldType.byte)), Jvm.Cond.code ({ cls := "com/example/opwire/opwire/codec/tcap/AbortUserAbortInformationPinLaw", name := "same", desc := "([BIBBB)Z" } : Jvm.MethodName) method_3_code (5 : Nat) (Option.some Jvm.ClassFile.FieldType.boolean), Jvm.Cond.code ({ cls := "com/example/opwire/opwire/codec/tcap/AbortUserAbortInformationPinLaw", name := "flip", desc := "([B)V" } : Jvm.MethodName) method_4_code (1 : Nat) (Option.none : Option Jvm.ClassFile.FieldType), Jvm.Cond.code ({ cls := "java/lang/Integer", name := "valueOf", desc := "(I)Ljava/lang/Integer;" } : Jvm.MethodName) jdk_33_method_22_code (1 : Nat) (Option.some (Jvm.ClassFile.FieldType.object "java/lang/Integer")), Jvm.Cond.code ({ cls := "java/lang/Integer", name := "<init>", desc := "(I)V" } : Jvm.MethodName) jdk_33_method_23_code (2 : Nat) (Option.none : Option Jvm.ClassFile.FieldType), Jvm.Cond.code ({ cls := "java/lang/Number", name := "<init>", desc := "()V" } : Jvm.MethodName) jdk_18_method_1_code (1 : Nat) (Option.none : Option Jvm.ClassFile.FieldType)]
set_option maxRecDepth 65536 in
theorem codes_eq : words1.filter isCode = codes1 := rfl
theorem w_codes : ∀ c ∈ words1.filter isCode, c.before args0 about1 = true := by
  rw [codes_eq]
  intro c hc
  simp only [codes1, List.mem_cons, List.not_mem_nil, or_false] at hc
  rcases hc with rfl | rfl | rfl | rfl | rfl | rfl | rfl | rfl | rfl | rfl | rfl | rfl
  · exact w_c0
  · exact w_c1
  · exact w_c2
  · exact w_c3
  · exact w_c4
  · exact w_c5
  · exact w_c6
  · exact w_c7
  · exact w_c8
  · exact w_c9
  · exact w_c10
  · exact w_c11
set_option maxRecDepth 65536 in
theorem w_t1 : (words1.take 24).all (fun c => isCode c || c.before args0 about1) = true := by decide +kernel
set_option maxRecDepth 65536 in
theorem w_t2 : ((words1.drop 24).take 24).all (fun c => isCode c || c.before args0 about1) = true := by decide +kernel
set_option maxRecDepth 65536 in
theorem w_t3 : (((words1.drop 24).drop 24).take 24).all (fun c => isCode c || c.before args0 about1) = true := by decide +kernel
set_option maxRecDepth 65536 in
theorem w_t4 : (((words1.drop 24).drop 24).drop 24).all (fun c => isCode c || c.before args0 about1) = true := by decide +kernel
theorem w_tables : (allAtoms (Jvm.Cond.code x code maxLocals ret :: tables_1)).before args0 about1 = true := by
  rw [allAtoms_all]
  show words1.all (fun c => c.before args0 about1) = true
  refine all_split ?_ w_codes
  rw [← List.take_append_drop 24 words1, List.all_append, w_t1, ← List.take_append_drop 24 (words1.drop 24), List.all_append, w_t2, ← List.take_append_drop 24 ((words1.drop 24).drop 24), List.all_append, w_t3, w_t4]
  rfl
set_option maxRecDepth 65536 in
theorem w_rest : rest_1_c.before args0 about1 = true := by decide +kernel
set_option maxRecDepth 65536 in
theorem w_case : (Jvm.Cond.and given_1 narrow_1).before args0 about1 = true := by decide +kernel
theorem w_applies : (headSpec (Jvm.Cond.code x code maxLocals ret :: tables_1) room_1).applies x e0.platform about1 = true :=
  (Spec.applies_iff w_frames).mpr ⟨w_running, w_runnable, w_alone, w_named, w_hears, w_ripe, w_room, w_tables⟩
theorem atStart : AtStart classFile x code maxLocals ret World_1 tables_1 room_1 Calls_1 rest_1 Pre_1 launch0 p0 e0 about1 theMethod args0 below0 :=
  ⟨lists_1, trivial, launch0.admits_env _ _ _, launch0.least_env, fairChoices_fair.cas, fairChoices_fair.clock, w_frames, w_args, w_heap, w_applies, trivial, w_rest, w_case⟩
end start1
theorem witness_1 : WitnessClaimed_1 := ⟨start1.p0, start1.e0, start1.about1, start1.theMethod, start1.args0, start1.below0, start1.atStart⟩
end Jvm.Pilot.@@N@@
