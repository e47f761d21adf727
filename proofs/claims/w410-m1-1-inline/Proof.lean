import JvmDerived
import JvmDerived.Pilot.@@N@@Statement
import JvmDerived.Pilot.@@N@@Code
set_option linter.unusedVariables false
set_option linter.unusedSimpArgs false
namespace Jvm.OwnF
open Sem ClassFile Op Lib Jvm.Stand Jvm.Free Jvm.LawKit Jvm.RoadKit
/-! Gar Z h a ty N f: at a there is an array of ty, N long, with f i at every place i < N. -/
def Gar (Z : State) (h : Heap) (a : Addr) (ty : FieldType) (N : Nat) (f : Nat → Value) : Prop := ∃ c : Cell, Arr Z h a c ty ∧ c.slots.size = N ∧ ∀ i, i < N → c.slots[i]? = some (f i)
section
variable {Z : State} {h h' : Heap} {a b : Addr} {ty : FieldType} {N : Nat} {f g : Nat → Value} {sl : Nat} {v : Value} {ws : List Addr}
theorem Gar.lt (F : Gar Z h a ty N f) : a < h.size := by obtain ⟨c, A, -⟩ := F; exact A.lt
theorem Gar.ext (F : Gar Z h a ty N f) (E : Ext h h') : Gar Z h' a ty N f := by obtain ⟨c, A, r⟩ := F; exact ⟨c, A.ext E, r⟩
theorem Gar.other (F : Gar Z h b ty N f) (W : Wr h h' a sl v) (q : b ≠ a) : Gar Z h' b ty N f := by obtain ⟨c, A, r⟩ := F; exact ⟨c, A.other W q, r⟩
theorem Gar.keep (F : Gar Z h a ty N f) (K : Keep h h' ws) (q : a ∉ ws) : Gar Z h' a ty N f := by obtain ⟨c, A, r⟩ := F; exact ⟨c, ⟨K.2.1 a c A.1 q, A.2⟩, r⟩
theorem Gar.congr (F : Gar Z h a ty N f) (q : ∀ i, i < N → f i = g i) : Gar Z h a ty N g := by obtain ⟨c, A, S, H⟩ := F; exact ⟨c, A, S, fun i hi => by rw [H i hi, q i hi]⟩
theorem Gar.len (F : Gar Z h a ty N f) {M : Nat} (q : N = M) : Gar Z h a ty M f := q ▸ F
theorem Gar.new {k : ClassId} {z : Int32} (A : Arr Z h a (newA k ty z) ty) : Gar Z h a ty z.toNatClampNeg (fun _ => defaultValue ty) :=
  ⟨_, A, sz_new _ _ _, fun i hi => by simp [newA, hi]⟩
theorem Gar.set (F : Gar Z h a ty N f) (W : Wr h h' a sl v) : Gar Z h' a ty N (fun i => if i = sl then v else f i) := by
  obtain ⟨c, A, S, H⟩ := F
  obtain ⟨c', q1, q2, q3, q4, q5, q6, q7⟩ := wr_at W A.1
  obtain ⟨r1, r2, r3⟩ := q7 rfl
  have A' := Arr.same W A
  have e : c' = c.setSlot sl v := r1
  refine ⟨c', by rw [e]; exact A', by rw [q4]; exact S, fun i hi => ?_⟩
  show c'.slots[i]? = some (if i = sl then v else f i)
  by_cases z : i = sl
  · rw [if_pos z, z]; exact r2
  · rw [if_neg z, q6 i z]; exact H i hi
theorem Gar.ne {N' : Nat} {f' : Nat → Value} {ty' : FieldType} (F : Gar Z h a ty N f) (G : Gar Z h b ty' N' f') (q : N ≠ N') : a ≠ b := fun e => by
  obtain ⟨c, A, S, -⟩ := F
  obtain ⟨c', A', S', -⟩ := G
  subst e
  have := A.1.symm.trans A'.1
  cases this
  omega
end
section
variable {p : Program} {l : Launch} {e : Env} {R : Room} {s : State} {m : MethodId} {args : Array Value} {below : List Frame} {meth : Method} {c : Code} {T : State} {locs : List Loc} {cells slots : Nat} {Z : State} {h : Heap} {a : Addr} {N : Nat} {f : Nat → Value}
theorem in_of {c : Cell} {j : Int32} (S : c.slots.size = N) (hj : ¬ j < 0) (hN : j.toNatClampNeg < N) : ¬ (j < 0 ∨ c.slots.size ≤ j.toNatClampNeg) := fun q => q.elim hj fun z => by omega
theorem ldD (X : Stand p l e R s m args below meth c T locs cells slots) (hx : p.tables.exec = Jvm.exec) (hZ : Z.Warmed39 s.vm) (eT : T.heap = h) (A : Gar Z h a .double N f) {j : Int32} (hj : ¬ j < 0) (hN : j.toNatClampNeg < N) {v : Value} (hv : f j.toNatClampNeg = v) {g : JFrame} (hg : g.method = m) {rest : List Value} (hs : g.stack = .int j :: .ref a :: rest) (hd : decode c.code g.pc = .ok (.daload, 1)) (target : State)
    (hr : Steps p.tables e below (T.setTop { g with pc := g.pc + 1, stack := v :: rest }) target) : Steps p.tables e below (T.setTop g) target := by
  obtain ⟨cl, Ar, S, H⟩ := A
  exact X.daload hx (by rw [eT]; exact Ar.1) (State.isArrayOf_alike hZ.alike Ar.2.1) Ar.2.2 (in_of S hj hN) (by rw [H _ hN, hv]) hg hs hd target hr
theorem ldI (X : Stand p l e R s m args below meth c T locs cells slots) (hx : p.tables.exec = Jvm.exec) (hZ : Z.Warmed39 s.vm) (eT : T.heap = h) (A : Gar Z h a .int N f) {j : Int32} (hj : ¬ j < 0) (hN : j.toNatClampNeg < N) {v : Value} (hv : f j.toNatClampNeg = v) {g : JFrame} (hg : g.method = m) {rest : List Value} (hs : g.stack = .int j :: .ref a :: rest) (hd : decode c.code g.pc = .ok (.iaload, 1)) (target : State)
    (hr : Steps p.tables e below (T.setTop { g with pc := g.pc + 1, stack := v :: rest }) target) : Steps p.tables e below (T.setTop g) target := by
  obtain ⟨cl, Ar, S, H⟩ := A
  exact X.iaload hx (by rw [eT]; exact Ar.1) (State.isArrayOf_alike hZ.alike Ar.2.1) Ar.2.2 (in_of S hj hN) (by rw [H _ hN, hv]) hg hs hd target hr
theorem lnG {ty : FieldType} (X : Stand p l e R s m args below meth c T locs cells slots) (hx : p.tables.exec = Jvm.exec) (hZ : Z.Warmed39 s.vm) (eT : T.heap = h) (A : Gar Z h a ty N f) {z : Int32} (hz : N.toInt32 = z) {g : JFrame} (hg : g.method = m) {rest : List Value} (hs : g.stack = .ref a :: rest) (hd : decode c.code g.pc = .ok (.arraylength, 1)) (target : State)
    (hr : Steps p.tables e below (T.setTop { g with pc := g.pc + 1, stack := .int z :: rest }) target) : Steps p.tables e below (T.setTop g) target := by
  obtain ⟨cl, Ar, S, H⟩ := A
  refine X.arraylength hx (by rw [eT]; exact Ar.1) (State.isArrayOf_alike hZ.alike Ar.2.1) hg hs hd target ?_
  rw [S, hz]; exact hr
theorem stDG (X : Stand p l e R s m args below meth c T locs cells slots) (hx : p.tables.exec = Jvm.exec) (hZ : Z.Warmed39 s.vm) (eT : T.heap = h) (A : Gar Z h a .double N f) {j : Int32} {x : UInt64} (hj : ¬ j < 0) (hN : j.toNatClampNeg < N) {g : JFrame} (hg : g.method = m) {rest : List Value} (hs : g.stack = .double x :: .int j :: .ref a :: rest) (hd : decode c.code g.pc = .ok (.dastore, 1)) :
    ∃ T' h', Stand p l e R s m args below meth c T' (locs ++ [⟨a, j.toNatClampNeg⟩]) cells slots ∧ T'.heap = h' ∧ Wr h h' a j.toNatClampNeg (.double x) ∧ ∀ target, Steps p.tables e below (T'.setTop { g with pc := g.pc + 1, stack := rest }) target → Steps p.tables e below (T.setTop g) target := by
  obtain ⟨cl, Ar, S, H⟩ := A
  exact stD X hx hZ eT Ar (in_of S hj hN) hg hs hd
theorem stIG (X : Stand p l e R s m args below meth c T locs cells slots) (hx : p.tables.exec = Jvm.exec) (hZ : Z.Warmed39 s.vm) (eT : T.heap = h) (A : Gar Z h a .int N f) {j : Int32} {x : Int32} (hj : ¬ j < 0) (hN : j.toNatClampNeg < N) {g : JFrame} (hg : g.method = m) {rest : List Value} (hs : g.stack = .int x :: .int j :: .ref a :: rest) (hd : decode c.code g.pc = .ok (.iastore, 1)) :
    ∃ T' h', Stand p l e R s m args below meth c T' (locs ++ [⟨a, j.toNatClampNeg⟩]) cells slots ∧ T'.heap = h' ∧ Wr h h' a j.toNatClampNeg (.int x) ∧ ∀ target, Steps p.tables e below (T'.setTop { g with pc := g.pc + 1, stack := rest }) target → Steps p.tables e below (T.setTop g) target := by
  obtain ⟨cl, Ar, S, H⟩ := A
  exact stI X hx hZ eT Ar (in_of S hj hN) hg hs hd
theorem clG {ty : FieldType} (X : Stand p l e R s m args below meth c T locs cells slots) (hx : p.tables.exec = Jvm.exec) (hZ : Z.Warmed39 s.vm) {a0 : Array Value} {own ad : String} {index : Nat} (hown : s.vm.findClass own = some m.cls)
    (w1 : (Cond.methodLink own index ⟨ad, "clone", "()Ljava/lang/Object;"⟩).before a0 Z = true) (w2 : (Cond.sameMethod ad "java/lang/Object" "clone" "()Ljava/lang/Object;").before a0 Z = true) (w3 : (Cond.native ⟨"java/lang/Object", "clone", "()Ljava/lang/Object;"⟩).before a0 Z = true)
    (w4 : (Cond.instanceMethod ⟨"java/lang/Object", "clone", "()Ljava/lang/Object;"⟩).before a0 Z = true) (w5 : (Cond.selects ad ⟨ad, "clone", "()Ljava/lang/Object;"⟩ ⟨"java/lang/Object", "clone", "()Ljava/lang/Object;"⟩).before a0 Z = true) (w6 : (Cond.castable ad "java/lang/Cloneable").before a0 Z = true)
    (eT : T.heap = h) (A : Gar Z h a ty N f) (E : Exa Z h a ad) (hfit : ∀ i, i < N → fits ty (f i) = true) {g : JFrame} (hg : g.method = m) (hsize : g.locals.size = c.maxLocals) {rest : List Value} (hst : g.stack = .ref a :: rest) (hd : decode c.code g.pc = .ok (.invokevirtual index, 3))
    (hf : 1 ≤ R.frames) {W cap : Nat} (hW : 2 * g.monitorRoom + (rest.map fun v => v.category).sum ≤ W) (hl : W + 14 ≤ R.locals) (hcap : N ≤ cap) (hc : cells + 1 ≤ R.cells) (hsl : slots + cap ≤ R.slots) :
    ∃ T' h', Stand p l e R s m args below meth c T' locs (cells + 1) (slots + cap) ∧ T'.heap = h' ∧ Ext h h' ∧ Gar Z h' h.size ty N f ∧ Exa Z h' h.size ad ∧
      ∀ target, Steps p.tables e below (T'.setTop { g with pc := g.pc + 3, stack := .ref h.size :: rest }) target → Steps p.tables e below (T.setTop g) target := by
  obtain ⟨cl, Ar, S, H⟩ := A
  have FC : FitC Z cl := fitC_of Ar fun i hi v hv => by rw [H i (by omega)] at hv; cases hv; exact hfit i (by omega)
  obtain ⟨T', h', X', e', ex, A', E', st⟩ := cloneA X hx hZ hown w1 w2 w3 w4 w5 w6 eT Ar E FC hg hsize hst hd hf hW hl (by rw [S]; exact hcap) hc hsl
  exact ⟨T', h', X', e', ex, ⟨cloneOf cl, A', S, H⟩, E', st⟩
end
end Jvm.OwnF
namespace Jvm.RoadKit
open Sem ClassFile Op Lib Jvm.Stand Jvm.Free Jvm.LawKit
section New
variable {p : Program} {l : Launch} {e : Env} {R : Room} {s : State} {m : MethodId} {args : Array Value} {below : List Frame} {meth : Method} {c : Code} {T : State} {locs : List Loc} {cells slots : Nat}
theorem retI (X : Stand p l e R s m args below meth c T locs cells slots) (hx : p.tables.exec = Jvm.exec) {pc : Nat} {Ls : Array Slot} {z : Int32} {rest : List Value} (hret : meth.sig.returnType = some .int) (hd : decode c.code pc = .ok (.ireturn, 1)) {fs : List Frame}
    (hl : ∀ (f : JFrame) (acts : List Action), f.method = m → f.locked = none → f.entered = [] → (doReturn e (T.setTop f) acts (some (.int z))).1 = T.setFrames fs) : Steps p.tables e below (T.setTop (mkF m pc Ls (.int z :: rest))) (T.setFrames fs) := by
  have hm' : T.vm.method? m = some meth := X.method'
  have hn : narrow .int (.int z) = .int z := rfl
  show Steps p.tables e below (T.setTop { method := m, pc := pc, locals := Ls, stack := _ :: rest, locked := none }) _
  jvm_step X.here [X.here.top, hx, hd, hm', hret, hn]
  first | (intro acts; rw [hl _ acts rfl rfl rfl]) | rw [hl _ _ rfl rfl rfl]
  exact Steps.refl _
theorem retD (X : Stand p l e R s m args below meth c T locs cells slots) (hx : p.tables.exec = Jvm.exec) {pc : Nat} {Ls : Array Slot} {z : UInt64} {rest : List Value} (hret : meth.sig.returnType = some .double) (hd : decode c.code pc = .ok (.dreturn, 1)) {fs : List Frame}
    (hl : ∀ (f : JFrame) (acts : List Action), f.method = m → f.locked = none → f.entered = [] → (doReturn e (T.setTop f) acts (some (.double z))).1 = T.setFrames fs) : Steps p.tables e below (T.setTop (mkF m pc Ls (.double z :: rest))) (T.setFrames fs) := by
  have hm' : T.vm.method? m = some meth := X.method'
  have hn : narrow .double (.double z) = .double z := rfl
  show Steps p.tables e below (T.setTop { method := m, pc := pc, locals := Ls, stack := _ :: rest, locked := none }) _
  jvm_step X.here [X.here.top, hx, hd, hm', hret, hn]
  first | (intro acts; rw [hl _ acts rfl rfl rfl]) | rw [hl _ _ rfl rfl rfl]
  exact Steps.refl _
theorem retB (X : Stand p l e R s m args below meth c T locs cells slots) (hx : p.tables.exec = Jvm.exec) {pc : Nat} {Ls : Array Slot} {z : Int32} {rest : List Value} (hret : meth.sig.returnType = some .boolean) (hz : z = 0 ∨ z = 1) (hd : decode c.code pc = .ok (.ireturn, 1)) {fs : List Frame}
    (hl : ∀ (f : JFrame) (acts : List Action), f.method = m → f.locked = none → f.entered = [] → (doReturn e (T.setTop f) acts (some (.int z))).1 = T.setFrames fs) : Steps p.tables e below (T.setTop (mkF m pc Ls (.int z :: rest))) (T.setFrames fs) := by
  have q : nar .boolean z = z := by rcases hz with rfl | rfl <;> rfl
  refine retN X hx hret (Or.inl rfl) hd ?_
  rw [q]; exact hl
end New
end Jvm.RoadKit
namespace Jvm.OwnF
open Sem ClassFile Op Lib Bundle Jvm.Stand Jvm.Free Jvm.LawKit Jvm.RoadKit
section
variable {p : Program} {l : Launch} {e : Env} {R : Room} {s : State} {m : MethodId} {args : Array Value} {below : List Frame} {meth : Method} {c : Code} {T : State} {locs : List Loc} {cells slots : Nat} {Z : State} {a0 : Array Value} {h h' : Heap} {a b : Addr} {k : ClassId} {z : Int32} {vs : List Value} {d : Value}
theorem declOf {y : MethodName} {bytes : ByteArray} {maxL : Nat} {ret : Option FieldType} (wi : (Cond.instanceMethod y).before a0 Z = true) (wc : (Cond.code y bytes maxL ret).before a0 Z = true) : (Cond.declares y).before a0 Z = true := by
  obtain ⟨mk, mt, hn, hm, hst, -⟩ := Cond.instanceMethod_spec wi
  obtain ⟨m2, cM, q1, -, -, -, -, -, -, hsig⟩ := Cond.code_spec hn wc
  cases hm.symm.trans q1
  simp [Cond.before, Cond.holds, Cond.value, hn, hm, hst, hsig]
theorem sameOf {K : String} {x y w : MethodName} (wi : (Cond.instanceMethod y).before a0 Z = true) (ws : (Cond.selects K x w).before a0 Z = true) (hz : w.cls = y.cls) (hy : y.cls ≠ "java/lang/invoke/MethodHandle" ∧ y.cls ≠ "java/lang/invoke/VarHandle") : (Cond.sameMethod y.cls y.cls y.name y.desc).before a0 Z = true := by
  obtain ⟨mk, mt, hn, hm, -, -⟩ := Cond.instanceMethod_spec wi
  obtain ⟨c2, r2, m2, q1, q2, q3, q4, kP, hkP, hkPi⟩ := Cond.selects_spec ws
  have hf := State.methodFound?_of_named hn hy
  have hc := findClass_of_methodNamed hn
  have hc2 := findClass_of_methodNamed q3
  have e1 : m2.cls = mk.cls := by rw [hz] at hc2; exact Option.some.inj (hc2.symm.trans hc)
  rw [e1] at hkP
  simp [Cond.before, Cond.holds, Cond.value, hc, hf, hn, hkP, hkPi]
theorem nfOf {K : String} {x y w : MethodName} (ws : (Cond.selects K x w).before args s = true) (hz : w.cls = y.cls) : NotFace s y := fun r0 h0 => by
  obtain ⟨c2, r2, m2, q1, q2, q3, q4, kP, hkP, hkPi⟩ := Cond.selects_spec ws
  have hc := findClass_of_methodNamed h0
  have hc2 := findClass_of_methodNamed q3
  have e1 : m2.cls = r0.cls := by rw [hz] at hc2; exact Option.some.inj (hc2.symm.trans hc)
  exact ⟨kP, by rw [← e1]; exact hkP, hkPi⟩
theorem afterS {vm0 : Vm} {k0 : Nat} {T U : State} {own : String} {cc : ClassId} (hZ : Z.Warmed39 vm0) (hown : vm0.findClass own = some cc) (hS : s.Since vm0 k0) (hk : k0 ≤ T.heap.size) (h2 : (s.setVm vm0).Since U.vm U.heap.size) (g : T.heap.size ≤ U.heap.size) :
    s.Since U.vm U.heap.size ∧ Z.Warmed39 (s.setVm U.vm).vm ∧ (s.setVm U.vm).vm.findClass own = some cc :=
  ⟨hS.trans h2 (Nat.le_trans hk g), State.Warmed39.trans (t := s.setVm vm0) hZ h2.1, by rw [show (s.setVm U.vm).vm = U.vm from rfl, h2.1.alike.findClass]; exact hown⟩
theorem Arv.gar {ty : FieldType} (F : Arv Z h a k ty z vs d) : Gar Z h a ty z.toNatClampNeg (fun i => vs.getD i d) ∧ ¬ z < 0 := by
  obtain ⟨cl, A, q1, S, q3, H, G⟩ := F
  exact ⟨⟨cl, A, S, fun i hi => H i (by omega)⟩, q3⟩
theorem lnV {ty : FieldType} (X : Stand p l e R s m args below meth c T locs cells slots) (hx : p.tables.exec = Jvm.exec) (hZ : Z.Warmed39 s.vm) (eT : T.heap = h) (A : Arv Z h a k ty z vs d) {g : JFrame} (hg : g.method = m) {rest : List Value} (hs : g.stack = .ref a :: rest) (hd : decode c.code g.pc = .ok (.arraylength, 1)) (target : State)
    (hr : Steps p.tables e below (T.setTop { g with pc := g.pc + 1, stack := .int z :: rest }) target) : Steps p.tables e below (T.setTop g) target := by
  obtain ⟨G, q⟩ := Arv.gar A
  exact lnG X hx hZ eT G (back32 q).1 hg hs hd target hr
theorem stBA (X : Stand p l e R s m args below meth c T locs cells slots) (hx : p.tables.exec = Jvm.exec) (hZ : Z.Warmed39 s.vm) (eT : T.heap = h) (A : Arv Z h a k .byte z vs d) {j x : Int32} {i : Nat} (hj : ¬ j < 0) (hi : j.toNatClampNeg = i) (hl : i < vs.length) (hz : i < z.toNatClampNeg) {g : JFrame} (hg : g.method = m) {rest : List Value} (hs : g.stack = .int x :: .int j :: .ref a :: rest) (hd : decode c.code g.pc = .ok (.bastore, 1)) :
    ∃ T' h', Stand p l e R s m args below meth c T' (locs ++ [⟨a, j.toNatClampNeg⟩]) cells slots ∧ T'.heap = h' ∧ Wr h h' a j.toNatClampNeg (.int (nar .byte x)) ∧ Arv Z h' a k .byte z (vs.set i (.int (nar .byte x))) d ∧ ∀ target, Steps p.tables e below (T'.setTop { g with pc := g.pc + 1, stack := rest }) target → Steps p.tables e below (T.setTop g) target := by
  obtain ⟨cl, Ar, q1, S, q3, H, G⟩ := A
  obtain ⟨T', h', X', e', W, st⟩ := stB X hx hZ eT Ar (j := j) (x := x) (fun q => q.elim hj fun y => by omega) hg hs hd
  exact ⟨T', h', X', e', W, Arv.set Ar q1 S q3 H G (fits_nar_byte x) W i hi hl, st⟩
theorem stCA (X : Stand p l e R s m args below meth c T locs cells slots) (hx : p.tables.exec = Jvm.exec) (hZ : Z.Warmed39 s.vm) (eT : T.heap = h) (A : Arv Z h a k .char z vs d) {j x : Int32} {i : Nat} (hj : ¬ j < 0) (hi : j.toNatClampNeg = i) (hl : i < vs.length) (hz : i < z.toNatClampNeg) {g : JFrame} (hg : g.method = m) {rest : List Value} (hs : g.stack = .int x :: .int j :: .ref a :: rest) (hd : decode c.code g.pc = .ok (.castore, 1)) :
    ∃ T' h', Stand p l e R s m args below meth c T' (locs ++ [⟨a, j.toNatClampNeg⟩]) cells slots ∧ T'.heap = h' ∧ Wr h h' a j.toNatClampNeg (.int (nar .char x)) ∧ Arv Z h' a k .char z (vs.set i (.int (nar .char x))) d ∧ ∀ target, Steps p.tables e below (T'.setTop { g with pc := g.pc + 1, stack := rest }) target → Steps p.tables e below (T.setTop g) target := by
  obtain ⟨cl, Ar, q1, S, q3, H, G⟩ := A
  obtain ⟨T', h', X', e', W, st⟩ := stC X hx hZ eT Ar (j := j) (x := x) (fun q => q.elim hj fun y => by omega) hg hs hd
  exact ⟨T', h', X', e', W, Arv.set Ar q1 S q3 H G (fits_nar_char x) W i hi hl, st⟩
theorem retY0 (X : Stand p l e R s m args below meth c T locs cells slots) (hx : p.tables.exec = Jvm.exec) {pc : Nat} {Ls : Array Slot} {rest : List Value} (hret : meth.sig.returnType = some .byte) (hd : decode c.code pc = .ok (.ireturn, 1)) {fs : List Frame}
    (hl : ∀ (f : JFrame) (acts : List Action), f.method = m → f.locked = none → f.entered = [] → (doReturn e (T.setTop f) acts (some (.int (0 : Int32)))).1 = T.setFrames fs) : Steps p.tables e below (T.setTop (mkF m pc Ls (.int (0 : Int32) :: rest))) (T.setFrames fs) := by
  have q : nar .byte (0 : Int32) = 0 := by decide
  refine retN X hx hret (Or.inr (Or.inl rfl)) hd ?_
  rw [q]; exact hl
/-- the bytes of chars -/
def bv (cs : List Int32) : List Value := (cs.map fun c => c.toInt8.toInt32).map Value.int
theorem bv_len (cs : List Int32) : (bv cs).length = cs.length := by simp [bv]
/-- a compact String of the chars cs -/
def StrAt (Z : State) (h : Heap) (a b : Addr) (k : ClassId) (cs : List Int32) : Prop :=
  Exa Z h a "java/lang/String" ∧ Fld Z h a "java/lang/String" "coder" "B" (.int 0) ∧ Fld Z h a "java/lang/String" "value" "[B" (.ref b) ∧ Arv Z h b k .byte (Int32.ofNat cs.length) (bv cs) (.int 0)
def nulls : List Int32 := [110, 117, 108, 108]
/-- null, or such a String -/
def NS (Z : State) (h : Heap) (v : Value) (b : Addr) (k : ClassId) (cs : List Int32) : Prop := (v = .null ∧ cs = nulls) ∨ ∃ a, v = .ref a ∧ StrAt Z h a b k cs
def LatN (n : Nat) (cs : List Int32) : Prop := cs.length ≤ n ∧ ∀ c ∈ cs, ¬ c < 0 ∧ ¬ (255 : Int32) < c
theorem StrAt.later {cs : List Int32} {ws : List Addr} (F : StrAt Z h a b k cs) (K : Keep h h' ws) (q : ∀ x ∈ ws, h.size ≤ x) : StrAt Z h' a b k cs := by
  obtain ⟨E, C, V, A⟩ := F
  have na : a ∉ ws := fun z => absurd E.lt (Nat.not_lt.mpr (q _ z))
  have nb : b ∉ ws := fun z => absurd A.lt (Nat.not_lt.mpr (q _ z))
  exact ⟨E.keep K, C.keep K na, V.keep K na, A.keep K nb⟩
theorem NS.later {v : Value} {cs : List Int32} {ws : List Addr} (F : NS Z h v b k cs) (K : Keep h h' ws) (q : ∀ x ∈ ws, h.size ≤ x) : NS Z h' v b k cs := by
  rcases F with F | ⟨a, e, F⟩
  · exact Or.inl F
  · exact Or.inr ⟨a, e, F.later K q⟩
theorem NS.isRef {v : Value} {cs : List Int32} (F : NS Z h v b k cs) : v.isRef = true := by
  rcases F with ⟨rfl, -⟩ | ⟨a, rfl, -⟩ <;> rfl
theorem NS.fit {v : Value} {cs : List Int32} (F : NS Z h v b k cs) {C : String} : fits (.object C) v = true := by
  rcases F with ⟨rfl, -⟩ | ⟨a, rfl, -⟩ <;> rfl
theorem NS.nar {v : Value} {cs : List Int32} (F : NS Z h v b k cs) {C : String} : narrow (.object C) v = v := by
  rcases F with ⟨rfl, -⟩ | ⟨a, rfl, -⟩ <;> rfl
/-- a StringBuilder of room 16, n bytes of vs in use -/
def BV (Z : State) (h : Heap) (a vb : Addr) (k : ClassId) (n : Nat) (vs : List Value) : Prop :=
  Exa Z h a "java/lang/StringBuilder" ∧ Fld Z h a "java/lang/AbstractStringBuilder" "value" "[B" (.ref vb) ∧ Fld Z h a "java/lang/AbstractStringBuilder" "coder" "B" (.int 0) ∧ Fld Z h a "java/lang/AbstractStringBuilder" "count" "I" (.int (Int32.ofNat n)) ∧ Arv Z h vb k .byte 16 vs (.int 0) ∧ vs.length = 16 ∧ a ≠ vb
theorem i_cl : ∀ n : Nat, n < 17 → (Int32.ofNat n).toNatClampNeg = n ∧ ¬ Int32.ofNat n < 0 ∧ ¬ (0 : Int32) < (Int32.ofNat n - ((16 : Int32) >>> ((0 : Int32) &&& 31))) ∧ (Int32.ofNat n <<< ((0 : Int32) &&& 31)) = Int32.ofNat n := by decide +kernel
theorem i_add (a b : Nat) : Int32.ofNat a + Int32.ofNat b = Int32.ofNat (a + b) := (Int32.ofNat_add a b).symm
end
end Jvm.OwnF
/- laws to paste: Road.backV, Road.lenW, Road.chN (cut by pick.py; bodies as the Statement names them) -/
namespace Jvm.Pilot.@@N@@
namespace StrChars
open Jvm Sem ClassFile Op Lib Jvm.Stand Jvm.Free.XT Jvm.Free.ALB Jvm.Free.JM Jvm.Free
open Jvm.Lib.Cold (StaticIs)
/-- a char array whose places are chars -/
def Ch (a : Addr) (A : Cell) (U : State) : Prop := Arr .char a A U ∧ Typed .char A
theorem Ch.mv {a : Addr} {A : Cell} {U U' : State} (h : Ch a A U) (hal : U.vm.Alike U'.vm) (hh : U'.heap = U.heap) : Ch a A U' := ⟨h.1.mv hal hh, h.2⟩
theorem Ch.keep {a : Addr} {A : Cell} {U U' : State} (h : Ch a A U) (hal : U.vm.Alike U'.vm) (hk : U'.heap[a]? = some A) : Ch a A U' := ⟨h.1.keep hal hk, h.2⟩
/-- what place i of a char[]'s cell holds -/
def cv (A : Cell) (i : Nat) : Int32 := match A.slots[i]? with | some (.int x) => x | _ => 0
theorem Ch.get {a : Addr} {A : Cell} {U : State} (h : Ch a A U) {i : Nat} (hi : i < A.slots.size) : A.slots[i]? = some (.int (cv A i)) := by
  have e := Array.getElem?_eq_getElem hi
  have f := h.2 i _ e
  unfold cv; rw [e]
  generalize A.slots[i] = v at f
  cases v <;> simp [fits] at f ⊢
/-- the byte that i2b leaves of a char -/
def lo8 (x : Int32) : Int32 := x.toInt8.toInt32
theorem fits_lo8 (y : Int32) : fits .byte (.int (lo8 y)) = true := by
  have h1 := y.toInt8.le_toInt
  have h2 := y.toInt8.toInt_lt
  simp only [lo8, fits, Bool.and_eq_true, decide_eq_true_eq, Int32.le_iff_toInt_le, Int8.toInt_toInt32, show (-128 : Int32).toInt = -128 from by decide, show (127 : Int32).toInt = 127 from by decide]
  omega
/-- A' is A but that each place j of lo .. hi - 1 holds f j -/
def Laid (A A' : Cell) (lo hi : Nat) (f : Nat → Value) : Prop := A'.cls = A.cls ∧ A'.vm = A.vm ∧ A'.slots.size = A.slots.size ∧ ∀ i, A'.slots[i]? = if lo ≤ i ∧ i < hi then some (f i) else A.slots[i]?
theorem Laid.zero (A : Cell) (lo : Nat) (f : Nat → Value) : Laid A A lo (lo + 0) f := ⟨rfl, rfl, rfl, fun i => by rw [if_neg (by omega)]⟩
theorem Laid.step {A Ak : Cell} {lo k : Nat} {f : Nat → Value} {v : Value} (h : Laid A Ak lo k f) (hlo : lo ≤ k) (hk : k < Ak.slots.size) (hv : v = f k) : Laid A (Ak.setSlot k v) lo (k + 1) f := by
  refine ⟨h.1, h.2.1, by simpa [Cell.setSlot] using h.2.2.1, fun i => ?_⟩
  by_cases e : k = i
  · subst e; rw [Cell.slots_setSlot_self v hk, if_pos (by omega), hv]
  · rw [Cell.slots_setSlot_ne v e, h.2.2.2 i]
    by_cases q : lo ≤ i ∧ i < k
    · rw [if_pos q, if_pos (by omega)]
    · rw [if_neg q, if_neg (by omega)]
def U16 : String := "java/lang/StringUTF16"
namespace Cmp5
def yN : MethodName := ⟨"java/lang/StringUTF16", "compress", "([CI[BII)I"⟩
abbrev yB : ByteArray := jdk_52_method_21_code
theorem d0 : decode yB 0 = .ok (.iconst 0, 1) := by decide +kernel
theorem d1 : decode yB 1 = .ok (.istore 5, 2) := by decide +kernel
theorem d3 : decode yB 3 = .ok (.iload 5, 2) := by decide +kernel
theorem d5 : decode yB 5 = .ok (.iload 4, 2) := by decide +kernel
theorem d7 : decode yB 7 = .ok (.if_icmp (.ge) 37, 3) := by decide +kernel
theorem d10 : decode yB 10 = .ok (.aload_n 0, 1) := by decide +kernel
theorem d11 : decode yB 11 = .ok (.iload_n 1, 1) := by decide +kernel
theorem d12 : decode yB 12 = .ok (.caload, 1) := by decide +kernel
theorem d13 : decode yB 13 = .ok (.istore 6, 2) := by decide +kernel
theorem d15 : decode yB 15 = .ok (.iload 6, 2) := by decide +kernel
theorem d17 : decode yB 17 = .ok (.sipush 255, 3) := by decide +kernel
theorem d20 : decode yB 20 = .ok (.if_icmp (.le) 6, 3) := by decide +kernel
theorem d26 : decode yB 26 = .ok (.aload_n 2, 1) := by decide +kernel
theorem d27 : decode yB 27 = .ok (.iload_n 3, 1) := by decide +kernel
theorem d28 : decode yB 28 = .ok (.iload 6, 2) := by decide +kernel
theorem d30 : decode yB 30 = .ok (.i2b, 1) := by decide +kernel
theorem d31 : decode yB 31 = .ok (.bastore, 1) := by decide +kernel
theorem d32 : decode yB 32 = .ok (.iinc 1 1, 3) := by decide +kernel
theorem d35 : decode yB 35 = .ok (.iinc 3 1, 3) := by decide +kernel
theorem d38 : decode yB 38 = .ok (.iinc 5 1, 3) := by decide +kernel
theorem d41 : decode yB 41 = .ok (.goto (-38), 3) := by decide +kernel
theorem d44 : decode yB 44 = .ok (.iload 4, 2) := by decide +kernel
theorem d46 : decode yB 46 = .ok (.ireturn, 1) := by decide +kernel
def site : List Cond := []
def tab : Cond := tabOf yN yB 7 (some .int) site
def P (b : Addr) (A : Cell) (d : Addr) (B : Cell) (o q len : Nat) (args : Array Value) (s : State) : Prop := args = #[.ref b, .int (Int32.ofNat o), .ref d, .int (Int32.ofNat q), .int (Int32.ofNat len)] ∧ Ch b A s ∧ Arr .byte d B s ∧ b ≠ d ∧ o + len ≤ A.slots.size ∧ q + len ≤ B.slots.size ∧ ∀ i, i < len → ¬ 255 < cv A (o + i)
def E (b : Addr) (A : Cell) (d : Addr) (B : Cell) (o q len : Nat) (r : Option Value) (s u : State) : Prop := r = some (.int (Int32.ofNat len)) ∧ ∃ B', Put d B' s u ∧ Laid B B' q (q + len) (fun j => Value.int (lo8 (cv A (o + (j - q)))))
/-- no char of the range above 255: len; the places written hold each char's low byte -/
theorem law (l : Launch) (b : Addr) (A : Cell) (d : Addr) (B : Cell) (o q len : Nat) : Law l yN 5 5 0 0 yB 7 (some .int) site (P b A d B o q len) (E b A d B o q len) (copyLocs d q len) 0 0 := by
  refine Law.of_walk (plainFor_of_name (by decide +kernel)) (by decide +kernel) (by decide +kernel) (by decide) (fun _ _ h => by rw [h.1]; rfl) (fun _ U U' hal hh h => ⟨h.1, h.2.1.mv hal hh, h.2.2.1.mv hal hh, h.2.2.2⟩) (fun r U U' V V' h1 hal h2 h => ⟨h.1, h.2.elim fun B' q => ⟨B', q.1.mv h1 h2, q.2⟩⟩) ?_
  intro p e s m args below meth c s₁ X0 hexec hbytes hml hret hlk hnm hown hh0 W hP
  obtain ⟨rfl, hA, hB, hne, l1, l2, hp⟩ := hP
  have c1 : Steps p.tables e below (s₁.setTop (entryFrame m #[.ref b, .int (Int32.ofNat o), .ref d, .int (Int32.ofNat q), .int (Int32.ofNat len)] 7)) (s₁.setTop (mkF m 0 #[.val (.ref b), .val (.int (Int32.ofNat o)), .val (.ref d), .val (.int (Int32.ofNat q)), .val (.int (Int32.ofNat len)), .unset, .unset] [])) := entry rfl
  have hA0 := hA.1.mv X0.warmed.alike hh0
  have hB0 := hB.mv X0.warmed.alike hh0
  have a31 := hA.1.2.2.2
  have c2 : Steps p.tables e below (s₁.setTop (entryFrame m #[.ref b, .int (Int32.ofNat o), .ref d, .int (Int32.ofNat q), .int (Int32.ofNat len)] 7)) (s₁.setTop (mkF m 3 #[.val (.ref b), .val (.int (Int32.ofNat o)), .val (.ref d), .val (.int (Int32.ofNat q)), .val (.int (Int32.ofNat len)), .val (.int 0), .unset] [])) := c1.trans (by
    refine iconstV X0.here hexec rfl 0 (hb hbytes d0) (by decide) ?_
    refine XS.istore X0.here hexec rfl (hb hbytes d1) rfl rfl ?_
    exact Steps.refl _)
  have loop : ∀ (r i : Nat), i + r = len → ∀ (z : Slot), (z = .unset ∨ ∃ w, z = .val w ∧ w.category = 1) → ∀ (Tl : State) (Bk : Cell), Stand p l e { frames := 0, locals := 0, cells := 0, slots := 0 } s m #[.ref b, .int (Int32.ofNat o), .ref d, .int (Int32.ofNat q), .int (Int32.ofNat len)] below meth c Tl ([] ++ copyLocs d q i) 0 0 → Put d Bk s₁ Tl → Laid B Bk q (q + i) (fun j => Value.int (lo8 (cv A (o + (j - q))))) →
      Steps p.tables e below (s₁.setTop (entryFrame m #[.ref b, .int (Int32.ofNat o), .ref d, .int (Int32.ofNat q), .int (Int32.ofNat len)] 7)) (Tl.setTop (mkF m 3 #[.val (.ref b), .val (.int (Int32.ofNat (o + i))), .val (.ref d), .val (.int (Int32.ofNat (q + i))), .val (.int (Int32.ofNat len)), .val (.int (Int32.ofNat i)), z] [])) → ∃ (T' : State) (B' : Cell) (z' : Slot), Stand p l e { frames := 0, locals := 0, cells := 0, slots := 0 } s m #[.ref b, .int (Int32.ofNat o), .ref d, .int (Int32.ofNat q), .int (Int32.ofNat len)] below meth c T' ([] ++ copyLocs d q len) 0 0 ∧ Put d B' s₁ T' ∧ Laid B B' q (q + len) (fun j => Value.int (lo8 (cv A (o + (j - q))))) ∧
      Steps p.tables e below (s₁.setTop (entryFrame m #[.ref b, .int (Int32.ofNat o), .ref d, .int (Int32.ofNat q), .int (Int32.ofNat len)] 7)) (T'.setTop (mkF m 3 #[.val (.ref b), .val (.int (Int32.ofNat (o + len))), .val (.ref d), .val (.int (Int32.ofNat (q + len))), .val (.int (Int32.ofNat len)), .val (.int (Int32.ofNat len)), z'] [])) := by
    intro r
    induction r with
    | zero =>
      intro i hi z hz Tl Bk Xl pl fl cl
      have hil : i = len := by omega
      rw [hil] at Xl fl cl
      exact ⟨Tl, Bk, z, Xl, pl, fl, cl⟩
    | succ r ih =>
      intro i hi z hz Tl Bk Xl pl fl cl
      have all := X0.warmed.alike.symm.trans Xl.warmed.alike
      have hAl := hA0.keep all (pl.other hne hA0.1)
      have hBk := hB0.like all pl.1 fl.1 fl.2.1 fl.2.2.1
      have hlt : q + i < Bk.slots.size := by rw [fl.2.2.1]; omega
      have c3 : Steps p.tables e below (s₁.setTop (entryFrame m #[.ref b, .int (Int32.ofNat o), .ref d, .int (Int32.ofNat q), .int (Int32.ofNat len)] 7)) (Tl.setTop (mkF m 12 #[.val (.ref b), .val (.int (Int32.ofNat (o + i))), .val (.ref d), .val (.int (Int32.ofNat (q + i))), .val (.int (Int32.ofNat len)), .val (.int (Int32.ofNat i)), z] [.int (Int32.ofNat (o + i)), .ref b])) := cl.trans (by
        refine XS.iload Xl.here hexec rfl (hb hbytes d3) rfl ?_
        refine XS.iload Xl.here hexec rfl (hb hbytes d5) rfl ?_
        refine XS.icmpNo Xl.here hexec rfl (hb hbytes d7) rfl (ii_ge_f (lt32 (by omega) (by omega))) ?_
        refine XS.aloadN Xl.here hexec rfl (hb hbytes d10) rfl rfl ?_
        refine XS.iloadN Xl.here hexec rfl (hb hbytes d11) rfl ?_
        exact Steps.refl _)
      have c4 : Steps p.tables e below (s₁.setTop (entryFrame m #[.ref b, .int (Int32.ofNat o), .ref d, .int (Int32.ofNat q), .int (Int32.ofNat len)] 7)) (Tl.setTop (mkF m 13 #[.val (.ref b), .val (.int (Int32.ofNat (o + i))), .val (.ref d), .val (.int (Int32.ofNat (q + i))), .val (.int (Int32.ofNat len)), .val (.int (Int32.ofNat i)), z] [.int (cv A (o + i))])) := c3.trans (by
        refine Xl.aget hexec hAl rfl (hA.get (i := o + i) (by omega)) rfl rfl (hb hbytes d12) ?_
        exact Steps.refl _)
      have c5 : Steps p.tables e below (s₁.setTop (entryFrame m #[.ref b, .int (Int32.ofNat o), .ref d, .int (Int32.ofNat q), .int (Int32.ofNat len)] 7)) (Tl.setTop (mkF m 15 #[.val (.ref b), .val (.int (Int32.ofNat (o + i))), .val (.ref d), .val (.int (Int32.ofNat (q + i))), .val (.int (Int32.ofNat len)), .val (.int (Int32.ofNat i)), .val (.int (cv A (o + i)))] [])) := c4.trans (by
        refine XS.istoreS Xl.here hexec rfl (hb hbytes d13) rfl rfl hz ?_
        exact Steps.refl _)
      have c6 : Steps p.tables e below (s₁.setTop (entryFrame m #[.ref b, .int (Int32.ofNat o), .ref d, .int (Int32.ofNat q), .int (Int32.ofNat len)] 7)) (Tl.setTop (mkF m 31 #[.val (.ref b), .val (.int (Int32.ofNat (o + i))), .val (.ref d), .val (.int (Int32.ofNat (q + i))), .val (.int (Int32.ofNat len)), .val (.int (Int32.ofNat i)), .val (.int (cv A (o + i)))] [.int (lo8 (cv A (o + i))), .int (Int32.ofNat (q + i)), .ref d])) := c5.trans (by
        refine XS.iload Xl.here hexec rfl (hb hbytes d15) rfl ?_
        refine sipushV Xl.here hexec rfl 255 (hb hbytes d17) (by decide) ?_
        refine XS.icmpYes Xl.here hexec rfl (pc0 := 20) rfl (hb hbytes d20) rfl (ii_le_t (hp i (by omega))) (by decide) rfl ?_
        refine XS.aloadN Xl.here hexec rfl (hb hbytes d26) rfl rfl ?_
        refine XS.iloadN Xl.here hexec rfl (hb hbytes d27) rfl ?_
        refine XS.iload Xl.here hexec rfl (hb hbytes d28) rfl ?_
        refine i2b Xl.here hexec rfl (hb hbytes d30) rfl ?_
        exact Steps.refl _)
      obtain ⟨T7, X7, p7, st7⟩ := Xl.aput hexec hBk rfl hlt rfl (fits_lo8 (cv A (o + i))) (g := (mkF m 31 #[.val (.ref b), .val (.int (Int32.ofNat (o + i))), .val (.ref d), .val (.int (Int32.ofNat (q + i))), .val (.int (Int32.ofNat len)), .val (.int (Int32.ofNat i)), .val (.int (cv A (o + i)))] [.int (lo8 (cv A (o + i))), .int (Int32.ofNat (q + i)), .ref d])) rfl (rest := []) rfl (hb hbytes d31)
      have c8 : Steps p.tables e below (s₁.setTop (entryFrame m #[.ref b, .int (Int32.ofNat o), .ref d, .int (Int32.ofNat q), .int (Int32.ofNat len)] 7)) (T7.setTop (mkF m 32 #[.val (.ref b), .val (.int (Int32.ofNat (o + i))), .val (.ref d), .val (.int (Int32.ofNat (q + i))), .val (.int (Int32.ofNat len)), .val (.int (Int32.ofNat i)), .val (.int (cv A (o + i)))] [])) := c6.trans (st7 _ (Steps.refl _))
      have c9 : Steps p.tables e below (s₁.setTop (entryFrame m #[.ref b, .int (Int32.ofNat o), .ref d, .int (Int32.ofNat q), .int (Int32.ofNat len)] 7)) (T7.setTop (mkF m 3 #[.val (.ref b), .val (.int (Int32.ofNat (o + i) + 1)), .val (.ref d), .val (.int (Int32.ofNat (q + i) + 1)), .val (.int (Int32.ofNat len)), .val (.int (Int32.ofNat i + 1)), .val (.int (cv A (o + i)))] [])) := c8.trans (by
        refine iincV X7.here hexec rfl 1 (hb hbytes d32) (by decide) rfl rfl ?_
        refine iincV X7.here hexec rfl 1 (hb hbytes d35) (by decide) rfl rfl ?_
        refine iincV X7.here hexec rfl 1 (hb hbytes d38) (by decide) rfl rfl ?_
        refine XS.goto X7.here hexec rfl (pc0 := 41) rfl (hb hbytes d41) (by decide) rfl ?_
        exact Steps.refl _)
      have c10 : Steps p.tables e below (s₁.setTop (entryFrame m #[.ref b, .int (Int32.ofNat o), .ref d, .int (Int32.ofNat q), .int (Int32.ofNat len)] 7)) (T7.setTop (mkF m 3 #[.val (.ref b), .val (.int (Int32.ofNat (o + (i + 1)))), .val (.ref d), .val (.int (Int32.ofNat (q + (i + 1)))), .val (.int (Int32.ofNat len)), .val (.int (Int32.ofNat (i + 1))), .val (.int (cv A (o + i)))] [])) := by
        have := c9
        rw [succ32, succ32, succ32] at this
        exact this
      exact ih (i + 1) (by omega) _ (Or.inr ⟨_, rfl, rfl⟩) T7 _ (by rw [copyLocs_step, ← List.append_assoc]; exact X7) (pl.trans p7) (fl.step (by omega) hlt (by simp)) c10
  obtain ⟨T9, B9, z9, X9, p9, f9, g9⟩ := loop len 0 (by omega) .unset (Or.inl rfl) s₁ B (by simpa [copyLocs] using X0) ⟨hB0.1, fun _ _ => rfl, rfl⟩ (Laid.zero _ _ _) c2
  have c11 : Steps p.tables e below (s₁.setTop (entryFrame m #[.ref b, .int (Int32.ofNat o), .ref d, .int (Int32.ofNat q), .int (Int32.ofNat len)] 7)) (T9.setTop (mkF m 46 #[.val (.ref b), .val (.int (Int32.ofNat (o + len))), .val (.ref d), .val (.int (Int32.ofNat (q + len))), .val (.int (Int32.ofNat len)), .val (.int (Int32.ofNat len)), z9] [.int (Int32.ofNat len)])) := g9.trans (by
    refine XS.iload X9.here hexec rfl (hb hbytes d3) rfl ?_
    refine XS.iload X9.here hexec rfl (hb hbytes d5) rfl ?_
    refine XS.icmpYes X9.here hexec rfl (pc0 := 7) rfl (hb hbytes d7) rfl (ii_ge_t (nlt32 (by omega) (Nat.le_refl _))) (by decide) rfl ?_
    refine XS.iload X9.here hexec rfl (hb hbytes d44) rfl ?_
    exact Steps.refl _)
  exact ⟨T9, some (.int (Int32.ofNat len)), _, _, _, X9, by simp, rfl, rfl, (fun h => by cases h), ⟨rfl, B9, p9.from hh0, f9⟩, fun fs hl => c11.trans (X9.ireturnOut hexec hret rfl (Or.inl rfl) (hb hbytes d46) hl)⟩
end Cmp5
namespace Cmp3
def yN : MethodName := ⟨"java/lang/StringUTF16", "compress", "([CII)[B"⟩
abbrev yB : ByteArray := jdk_52_method_16_code
theorem d0 : decode yB 0 = .ok (.iload_n 2, 1) := by decide +kernel
theorem d1 : decode yB 1 = .ok (.newarray .byte, 2) := by decide +kernel
theorem d3 : decode yB 3 = .ok (.astore_n 3, 1) := by decide +kernel
theorem d4 : decode yB 4 = .ok (.aload_n 0, 1) := by decide +kernel
theorem d5 : decode yB 5 = .ok (.iload_n 1, 1) := by decide +kernel
theorem d6 : decode yB 6 = .ok (.aload_n 3, 1) := by decide +kernel
theorem d7 : decode yB 7 = .ok (.iconst 0, 1) := by decide +kernel
theorem d8 : decode yB 8 = .ok (.iload_n 2, 1) := by decide +kernel
theorem d9 : decode yB 9 = .ok (.invokestatic 115, 3) := by decide +kernel
theorem d12 : decode yB 12 = .ok (.istore 4, 2) := by decide +kernel
theorem d14 : decode yB 14 = .ok (.iload 4, 2) := by decide +kernel
theorem d16 : decode yB 16 = .ok (.iload_n 2, 1) := by decide +kernel
theorem d17 : decode yB 17 = .ok (.if_icmp (.eq) 40, 3) := by decide +kernel
theorem d57 : decode yB 57 = .ok (.aload_n 3, 1) := by decide +kernel
theorem d58 : decode yB 58 = .ok (.areturn, 1) := by decide +kernel
def site : List Cond := [.arrayClass .byte, Cmp5.tab] ++ staticW U16 115 Cmp5.yN
def tab : Cond := tabOf yN yB 6 (some (.array .byte)) site
def P (b : Addr) (A : Cell) (o len : Nat) (args : Array Value) (s : State) : Prop := args = #[.ref b, .int (Int32.ofNat o), .int (Int32.ofNat len)] ∧ Ch b A s ∧ o + len ≤ A.slots.size ∧ len ≤ 536870912 ∧ ∀ i, i < len → ¬ 255 < cv A (o + i)
def E (b : Addr) (A : Cell) (o len : Nat) (r : Option Value) (s u : State) : Prop := NewArr .byte "[B" len (fun j => .int (lo8 (cv A (o + j)))) r s u ∧ u.heap.size = s.heap.size + 1
/-- no char of the range above 255: a new byte[] of their low bytes -/
theorem law (l : Launch) (b : Addr) (A : Cell) (o len : Nat) : Law l yN 3 3 1 18 yB 6 (some (.array .byte)) site (P b A o len) (E b A o len) [] 1 len := by
  refine Law.of_walk (plainFor_of_name (by decide +kernel)) (by decide +kernel) (by decide +kernel) (by decide) (fun _ _ h => by rw [h.1]; rfl) (fun _ U U' hal hh h => ⟨h.1, h.2.1.mv hal hh, h.2.2⟩) (fun r U U' V V' h1 hal h2 h => ⟨NewArr.mv r U U' V V' h1 hal h2 h.1, by rw [h1, h2]; exact h.2⟩) ?_
  intro p e s m args below meth c s₁ X0 hexec hbytes hml hret hlk hnm hown hh0 W hP
  obtain ⟨rfl, hA, l1, l2, hp⟩ := hP
  have a31 := hA.1.2.2.2
  have c1 : Steps p.tables e below (s₁.setTop (entryFrame m #[.ref b, .int (Int32.ofNat o), .int (Int32.ofNat len)] 6)) (s₁.setTop (mkF m 0 #[.val (.ref b), .val (.int (Int32.ofNat o)), .val (.int (Int32.ofNat len)), .unset, .unset, .unset] [])) := entry rfl
  have c2 : Steps p.tables e below (s₁.setTop (entryFrame m #[.ref b, .int (Int32.ofNat o), .int (Int32.ofNat len)] 6)) (s₁.setTop (mkF m 1 #[.val (.ref b), .val (.int (Int32.ofNat o)), .val (.int (Int32.ofNat len)), .unset, .unset, .unset] [.int (Int32.ofNat len)])) := c1.trans (by
    refine XS.iloadN X0.here hexec rfl (hb hbytes d0) rfl ?_
    exact Steps.refl _)
  obtain ⟨T3, B3, X3, ba3, bs3, bv3, bh3, bf3, st3⟩ := X0.anew hexec (atype := .byte) (wk W (.arrayClass .byte)) rfl (by show len * 1 ≤ _; omega) (by omega) (g := (mkF m 1 #[.val (.ref b), .val (.int (Int32.ofNat o)), .val (.int (Int32.ofNat len)), .unset, .unset, .unset] [.int (Int32.ofNat len)])) rfl (hb hbytes d1) (rest := []) rfl (Nat.le_refl _) (by show 0 + len ≤ len; omega)
  rw [hh0] at ba3 st3
  have kp3 : XT.Kept s T3 := (XT.Kept.of_eq hh0).push bh3
  have hA3 := hA.keep X3.warmed.alike (kp3 _ _ hA.1.1)
  have hne : b ≠ s.heap.size := hA.1.ne
  have c4 : Steps p.tables e below (s₁.setTop (entryFrame m #[.ref b, .int (Int32.ofNat o), .int (Int32.ofNat len)] 6)) (T3.setTop (mkF m 3 #[.val (.ref b), .val (.int (Int32.ofNat o)), .val (.int (Int32.ofNat len)), .unset, .unset, .unset] [.ref s.heap.size])) := c2.trans (st3 _ (Steps.refl _))
  have c5 : Steps p.tables e below (s₁.setTop (entryFrame m #[.ref b, .int (Int32.ofNat o), .int (Int32.ofNat len)] 6)) (T3.setTop (mkF m 9 #[.val (.ref b), .val (.int (Int32.ofNat o)), .val (.int (Int32.ofNat len)), .val (.ref s.heap.size), .unset, .unset] [.int (Int32.ofNat len), .int 0, .ref s.heap.size, .int (Int32.ofNat o), .ref b])) := c4.trans (by
    refine XS.astoreN X3.here hexec rfl (hb hbytes d3) rfl rfl rfl ?_
    refine XS.aloadN X3.here hexec rfl (hb hbytes d4) rfl rfl ?_
    refine XS.iloadN X3.here hexec rfl (hb hbytes d5) rfl ?_
    refine XS.aloadN X3.here hexec rfl (hb hbytes d6) rfl rfl ?_
    refine iconstV X3.here hexec rfl 0 (hb hbytes d7) (by decide) ?_
    refine XS.iloadN X3.here hexec rfl (hb hbytes d8) rfl ?_
    exact Steps.refl _)
  obtain ⟨v6, T6, X6, E6, g6⟩ := X3.callS hexec (Cmp5.law l b A s.heap.size B3 o 0 len) hown (wks W (staticW U16 115 Cmp5.yN)) (wk W Cmp5.tab) (W := 0) (Nat.le_of_ble_eq_true rfl) (Nat.le_of_ble_eq_true rfl) (Nat.le_refl _) (by show 0 + len + 0 ≤ len; omega) (g := (mkF m 9 #[.val (.ref b), .val (.int (Int32.ofNat o)), .val (.int (Int32.ofNat len)), .val (.ref s.heap.size), .unset, .unset] [.int (Int32.ofNat len), .int (Int32.ofNat 0), .ref s.heap.size, .int (Int32.ofNat o), .ref b])) rfl (by rw [hml]; rfl) c5 (argsL := [.ref b, .int (Int32.ofNat o), .ref s.heap.size, .int (Int32.ofNat 0), .int (Int32.ofNat len)]) (rest := []) rfl rfl (by show 2 * 0 + 0 ≤ _; decide) (hb hbytes d9) (⟨rfl, hA3, ba3, hne, l1, by rw [bs3]; simp, hp⟩)
  obtain ⟨rfl, B6, p6, f6⟩ := E6
  have c7 : Steps p.tables e below (s₁.setTop (entryFrame m #[.ref b, .int (Int32.ofNat o), .int (Int32.ofNat len)] 6)) (T6.setTop (mkF m 12 #[.val (.ref b), .val (.int (Int32.ofNat o)), .val (.int (Int32.ofNat len)), .val (.ref s.heap.size), .unset, .unset] [.int (Int32.ofNat len)])) := g6
  have c8 : Steps p.tables e below (s₁.setTop (entryFrame m #[.ref b, .int (Int32.ofNat o), .int (Int32.ofNat len)] 6)) (T6.setTop (mkF m 58 #[.val (.ref b), .val (.int (Int32.ofNat o)), .val (.int (Int32.ofNat len)), .val (.ref s.heap.size), .val (.int (Int32.ofNat len)), .unset] [.ref s.heap.size])) := c7.trans (by
    refine XS.istore X6.here hexec rfl (hb hbytes d12) rfl rfl ?_
    refine XS.iload X6.here hexec rfl (hb hbytes d14) rfl ?_
    refine XS.iloadN X6.here hexec rfl (hb hbytes d16) rfl ?_
    refine XS.icmpYes X6.here hexec rfl (pc0 := 17) rfl (hb hbytes d17) rfl (ii_eq_t rfl) (by decide) rfl ?_
    refine XS.aloadN X6.here hexec rfl (hb hbytes d57) rfl rfl ?_
    exact Steps.refl _)
  have X8 := X6.wide (L' := []) (cells' := 1) (slots' := len) (fun x hx hlt => by
    simp only [List.nil_append, copyLocs, List.mem_map, List.mem_range] at hx
    obtain ⟨i, -, rfl⟩ := hx
    exact absurd hlt (Nat.lt_irrefl _)) (Nat.le_refl _) (by omega)
  exact ⟨T6, some (.ref s.heap.size), _, _, _, X8, rfl, rfl, rfl, (fun h => by cases h), ⟨⟨rfl, B6, ba3.like (X3.warmed.alike.symm.trans X6.warmed.alike) p6.1 f6.1 f6.2.1 f6.2.2.1, f6.2.1.trans bv3, by rw [X6.warmed.alike.findClass, f6.1]; exact bf3, by rw [f6.2.2.1, bs3]; simp, fun j hj => by rw [f6.2.2.2 j, if_pos (by omega)]; rfl, kp3.put p6 (Nat.le_refl _)⟩, by rw [p6.2.2, bh3, hh0]; simp⟩, fun fs hl => c8.trans (X8.areturnOut hexec rfl hret rfl (hb hbytes d58) hl)⟩
end Cmp3
namespace CodL
def yN : MethodName := ⟨"java/lang/StringUTF16", "coderFromArrayLen", "([BI)B"⟩
abbrev yB : ByteArray := jdk_52_method_15_code
theorem d0 : decode yB 0 = .ok (.iload_n 1, 1) := by decide +kernel
theorem d1 : decode yB 1 = .ok (.aload_n 0, 1) := by decide +kernel
theorem d2 : decode yB 2 = .ok (.arraylength, 1) := by decide +kernel
theorem d3 : decode yB 3 = .ok (.isub, 1) := by decide +kernel
theorem d4 : decode yB 4 = .ok (.bipush 31, 2) := by decide +kernel
theorem d6 : decode yB 6 = .ok (.iushr, 1) := by decide +kernel
theorem d7 : decode yB 7 = .ok (.i2b, 1) := by decide +kernel
theorem d8 : decode yB 8 = .ok (.ireturn, 1) := by decide +kernel
def site : List Cond := []
def tab : Cond := tabOf yN yB 2 (some .byte) site
def P (d : Addr) (B : Cell) (args : Array Value) (s : State) : Prop := args = #[.ref d, .int (Int32.ofNat B.slots.size)] ∧ Arr .byte d B s
def E (r : Option Value) (s u : State) : Prop := XT.PureE (some (.int 0)) r s u
/-- an array as long as the number of chars: LATIN1 -/
theorem law (l : Launch) (d : Addr) (B : Cell) : Law l yN 2 2 0 0 yB 2 (some .byte) site (P d B) E [] 0 0 := by
  refine Law.of_walk (plainFor_of_name (by decide +kernel)) (by decide +kernel) (by decide +kernel) (by decide) (fun _ _ h => by rw [h.1]; rfl) (fun _ U U' hal hh h => ⟨h.1, h.2.mv hal hh⟩) (fun r U U' V V' h1 hal h2 h => XT.PureE.mv r U U' V V' h1 hal h2 h) ?_
  intro p e s m args below meth c s₁ X0 hexec hbytes hml hret hlk hnm hown hh0 W hP
  obtain ⟨rfl, hB⟩ := hP
  have hB0 := hB.mv X0.warmed.alike hh0
  have c1 : Steps p.tables e below (s₁.setTop (entryFrame m #[.ref d, .int (Int32.ofNat B.slots.size)] 2)) (s₁.setTop (mkF m 0 #[.val (.ref d), .val (.int (Int32.ofNat B.slots.size))] [])) := entry rfl
  have c2 : Steps p.tables e below (s₁.setTop (entryFrame m #[.ref d, .int (Int32.ofNat B.slots.size)] 2)) (s₁.setTop (mkF m 2 #[.val (.ref d), .val (.int (Int32.ofNat B.slots.size))] [.ref d, .int (Int32.ofNat B.slots.size)])) := c1.trans (by
    refine XS.iloadN X0.here hexec rfl (hb hbytes d0) rfl ?_
    refine XS.aloadN X0.here hexec rfl (hb hbytes d1) rfl rfl ?_
    exact Steps.refl _)
  have c3 : Steps p.tables e below (s₁.setTop (entryFrame m #[.ref d, .int (Int32.ofNat B.slots.size)] 2)) (s₁.setTop (mkF m 8 #[.val (.ref d), .val (.int (Int32.ofNat B.slots.size))] [.int (lo8 (ushr (Int32.ofNat B.slots.size - Int32.ofNat B.slots.size) 31))])) := c2.trans (by
    refine X0.alen hexec hB0 rfl rfl (hb hbytes d2) ?_
    refine XS.isub X0.here hexec rfl (hb hbytes d3) rfl ?_
    refine bipushV X0.here hexec rfl 31 (hb hbytes d4) (by decide) ?_
    refine iushr X0.here hexec rfl (hb hbytes d6) rfl ?_
    refine i2b X0.here hexec rfl (hb hbytes d7) rfl ?_
    exact Steps.refl _)
  have e0 : lo8 (ushr (Int32.ofNat B.slots.size - Int32.ofNat B.slots.size) 31) = 0 := by rw [Int32.sub_self]; decide
  rw [e0] at c3
  exact ⟨s₁, some (.int 0), _, _, _, X0, rfl, rfl, rfl, (fun h => by cases h), ⟨rfl, hh0⟩, fun fs hl => c3.trans (X0.ireturnOut hexec hret rfl (Or.inr (Or.inr (Or.inl rfl))) (hb hbytes d8) hl)⟩
end CodL
/-- the String at a is Latin-1 over a new byte[] (the heap's one new cell): the low bytes of the len chars of A from o on; every cell but a is kept -/
def Got (a : Addr) (D : Cell) (fV fC : Field) (A : Cell) (o len : Nat) (r : Option Value) (s u : State) : Prop := r = none ∧ ∃ D' V : Cell, Blank "java/lang/String" a D' u ∧ Same D D' [fV.slot, fC.slot] ∧ D'.slots[fV.slot]? = some (.ref s.heap.size) ∧ D'.slots[fC.slot]? = some (.int 0) ∧ Arr .byte s.heap.size V u ∧ V.vm = .none ∧ u.vm.findClass "[B" = some V.cls ∧ V.slots.size = len ∧ (∀ j, j < len → V.slots[j]? = some (.int (lo8 (cv A (o + j))))) ∧ (∀ (y : Addr) (c : Cell), y ≠ a → s.heap[y]? = some c → u.heap[y]? = some c) ∧ u.heap.size = s.heap.size + 1
theorem Got.mv {a : Addr} {D A : Cell} {fV fC : Field} {o len : Nat} : ∀ r (U U' V V' : State), U'.heap = U.heap → V.vm.Alike V'.vm → V'.heap = V.heap → Got a D fV fC A o len r U V → Got a D fV fC A o len r U' V' :=
  fun r U U' V V' h1 hal h2 ⟨e0, D', X, a1, a2, a3, a4, a5, a6, a7, a8, a9, a10, a11⟩ => ⟨e0, D', X, a1.mv hal h2, a2, by rw [h1]; exact a3, a4, by rw [h1]; exact a5.mv hal h2, a6, by rw [hal.findClass]; exact a7, a8, a9, by rw [h1, h2]; exact a10, by rw [h1, h2]; exact a11⟩
namespace New4
def yN : MethodName := ⟨"java/lang/String", "<init>", "([CIILjava/lang/Void;)V"⟩
abbrev yB : ByteArray := jdk_42_method_149_code
theorem d0 : decode yB 0 = .ok (.aload_n 0, 1) := by decide +kernel
theorem d1 : decode yB 1 = .ok (.invokespecial 1, 3) := by decide +kernel
theorem d4 : decode yB 4 = .ok (.iload_n 3, 1) := by decide +kernel
theorem d5 : decode yB 5 = .ok (.ifCond (.ne) 22, 3) := by decide +kernel
theorem d27 : decode yB 27 = .ok (.getstatic 38, 3) := by decide +kernel
theorem d30 : decode yB 30 = .ok (.ifCond (.eq) 28, 3) := by decide +kernel
theorem d33 : decode yB 33 = .ok (.aload_n 1, 1) := by decide +kernel
theorem d34 : decode yB 34 = .ok (.iload_n 2, 1) := by decide +kernel
theorem d35 : decode yB 35 = .ok (.iload_n 3, 1) := by decide +kernel
theorem d36 : decode yB 36 = .ok (.invokestatic 177, 3) := by decide +kernel
theorem d39 : decode yB 39 = .ok (.astore 5, 2) := by decide +kernel
theorem d41 : decode yB 41 = .ok (.aload_n 0, 1) := by decide +kernel
theorem d42 : decode yB 42 = .ok (.aload 5, 2) := by decide +kernel
theorem d44 : decode yB 44 = .ok (.iload_n 3, 1) := by decide +kernel
theorem d45 : decode yB 45 = .ok (.invokestatic 47, 3) := by decide +kernel
theorem d48 : decode yB 48 = .ok (.putfield 15, 3) := by decide +kernel
theorem d51 : decode yB 51 = .ok (.aload_n 0, 1) := by decide +kernel
theorem d52 : decode yB 52 = .ok (.aload 5, 2) := by decide +kernel
theorem d54 : decode yB 54 = .ok (.putfield 9, 3) := by decide +kernel
theorem d57 : decode yB 57 = .ok (.return_, 1) := by decide +kernel
def site : List Cond := [.fieldLink "java/lang/String" 38 "java/lang/String" "COMPACT_STRINGS" "Z", Cmp3.tab, CodL.tab, .laysFinal "java/lang/String" "java/lang/String" "value" "[B", .fieldLink "java/lang/String" 9 "java/lang/String" "value" "[B", .laysFinal "java/lang/String" "java/lang/String" "coder" "B", .fieldLink "java/lang/String" 15 "java/lang/String" "coder" "B"] ++ objW "java/lang/String" 1 ++ staticW "java/lang/String" 177 Cmp3.yN ++ staticW "java/lang/String" 47 CodL.yN
def tab : Cond := tabOf yN yB 6 none site
def P (a : Addr) (D : Cell) (fV fC : Field) (b : Addr) (A : Cell) (z : Int32) (o len : Nat) (args : Array Value) (s : State) : Prop := args = #[.ref a, .ref b, .int (Int32.ofNat o), .int (Int32.ofNat len), .null] ∧ Blank "java/lang/String" a D s ∧ Found "java/lang/String" "value" "[B" fV s ∧ Found "java/lang/String" "coder" "B" fC s ∧ Ch b A s ∧ StaticIs s "java/lang/String" "COMPACT_STRINGS" "Z" (.int z) ∧ ¬ z = 0 ∧ 0 < len ∧ o + len ≤ A.slots.size ∧ len ≤ 536870912 ∧ ∀ i, i < len → ¬ 255 < cv A (o + i)
def E (a : Addr) (D : Cell) (fV fC : Field) (A : Cell) (o len : Nat) (r : Option Value) (s u : State) : Prop := Got a D fV fC A o len r s u
/-- len > 0, no char of the range above 255: a Latin-1 String of their low bytes -/
theorem law (l : Launch) (a : Addr) (D : Cell) (fV fC : Field) (b : Addr) (A : Cell) (z : Int32) (o len : Nat) : Law l yN 5 4 2 35 yB 6 none site (P a D fV fC b A z o len) (E a D fV fC A o len) [⟨a, fC.slot⟩, ⟨a, fV.slot⟩] 1 len := by
  refine Law.of_walk (plainFor_of_name (by decide +kernel)) (by decide +kernel) (by decide +kernel) (by decide) (fun _ _ h => by rw [h.1]; rfl) (fun _ U U' hal hh h => ⟨h.1, h.2.1.mv hal hh, h.2.2.1.al hal, h.2.2.2.1.al hal, h.2.2.2.2.1.mv hal hh, h.2.2.2.2.2.1.there hal hh, h.2.2.2.2.2.2⟩) (fun r U U' V V' h1 hal h2 h => Got.mv r U U' V V' h1 hal h2 h) ?_
  intro p e s m args below meth c s₁ X0 hexec hbytes hml hret hlk hnm hown hh0 W hP
  obtain ⟨rfl, hB, f1, f2, hA, s1, hz, l0, l1, l2, hp⟩ := hP
  have a31 := hA.1.2.2.2
  have c1 : Steps p.tables e below (s₁.setTop (entryFrame m #[.ref a, .ref b, .int (Int32.ofNat o), .int (Int32.ofNat len), .null] 6)) (s₁.setTop (mkF m 0 #[.val (.ref a), .val (.ref b), .val (.int (Int32.ofNat o)), .val (.int (Int32.ofNat len)), .val .null, .unset] [])) := entry rfl
  have c2 : Steps p.tables e below (s₁.setTop (entryFrame m #[.ref a, .ref b, .int (Int32.ofNat o), .int (Int32.ofNat len), .null] 6)) (s₁.setTop (mkF m 1 #[.val (.ref a), .val (.ref b), .val (.int (Int32.ofNat o)), .val (.int (Int32.ofNat len)), .val .null, .unset] [.ref a])) := c1.trans (by
    refine XS.aloadN X0.here hexec rfl (hb hbytes d0) rfl rfl ?_
    exact Steps.refl _)
  obtain ⟨T3, X3, q3, st3⟩ := X0.oinit hexec hown (wks W (objW "java/lang/String" 1)) (g := (mkF m 1 #[.val (.ref a), .val (.ref b), .val (.int (Int32.ofNat o)), .val (.int (Int32.ofNat len)), .val .null, .unset] [.ref a])) rfl (by rw [hml]; rfl) (rest := []) rfl (hb hbytes d1) (W := 0) (by show 2 * 0 + 0 ≤ _; decide) (Nat.le_of_ble_eq_true rfl) (Nat.le_of_ble_eq_true rfl)
  have hh3 := q3.trans hh0
  have c4 : Steps p.tables e below (s₁.setTop (entryFrame m #[.ref a, .ref b, .int (Int32.ofNat o), .int (Int32.ofNat len), .null] 6)) (T3.setTop (mkF m 27 #[.val (.ref a), .val (.ref b), .val (.int (Int32.ofNat o)), .val (.int (Int32.ofNat len)), .val .null, .unset] [])) := (c2.trans (st3 _ (Steps.refl _))).trans (by
    refine XS.iloadN X3.here hexec rfl (hb hbytes d4) rfl ?_
    refine XS.ifYes X3.here hexec rfl (pc0 := 5) rfl (hb hbytes d5) rfl (i0_ne_t (nz32 (by omega) l0)) (by decide) rfl ?_
    exact Steps.refl _)
  obtain ⟨T5, X5, q5, st5⟩ := X3.sget hexec hown (wk W (.fieldLink "java/lang/String" 38 "java/lang/String" "COMPACT_STRINGS" "Z")) s1 (fun _ _ h => by rw [hh3]; exact h) (g := (mkF m 27 #[.val (.ref a), .val (.ref b), .val (.int (Int32.ofNat o)), .val (.int (Int32.ofNat len)), .val .null, .unset] [])) rfl (hb hbytes d27)
  have hh5 := q5.trans hh3
  have c6 : Steps p.tables e below (s₁.setTop (entryFrame m #[.ref a, .ref b, .int (Int32.ofNat o), .int (Int32.ofNat len), .null] 6)) (T5.setTop (mkF m 30 #[.val (.ref a), .val (.ref b), .val (.int (Int32.ofNat o)), .val (.int (Int32.ofNat len)), .val .null, .unset] [.int z])) := c4.trans (st5 _ (Steps.refl _))
  have c7 : Steps p.tables e below (s₁.setTop (entryFrame m #[.ref a, .ref b, .int (Int32.ofNat o), .int (Int32.ofNat len), .null] 6)) (T5.setTop (mkF m 36 #[.val (.ref a), .val (.ref b), .val (.int (Int32.ofNat o)), .val (.int (Int32.ofNat len)), .val .null, .unset] [.int (Int32.ofNat len), .int (Int32.ofNat o), .ref b])) := c6.trans (by
    refine XS.ifNo X5.here hexec rfl (hb hbytes d30) rfl (i0_eq_f hz) ?_
    refine XS.aloadN X5.here hexec rfl (hb hbytes d33) rfl rfl ?_
    refine XS.iloadN X5.here hexec rfl (hb hbytes d34) rfl ?_
    refine XS.iloadN X5.here hexec rfl (hb hbytes d35) rfl ?_
    exact Steps.refl _)
  obtain ⟨v8, T8, X8, E8, g8⟩ := X5.callS hexec (Cmp3.law l b A o len) hown (wks W (staticW "java/lang/String" 177 Cmp3.yN)) (wk W Cmp3.tab) (W := 0) (Nat.le_of_ble_eq_true rfl) (Nat.le_of_ble_eq_true rfl) (Nat.le_refl _) (by show 0 + len ≤ len; omega) (g := (mkF m 36 #[.val (.ref a), .val (.ref b), .val (.int (Int32.ofNat o)), .val (.int (Int32.ofNat len)), .val .null, .unset] [.int (Int32.ofNat len), .int (Int32.ofNat o), .ref b])) rfl (by rw [hml]; rfl) c7 (argsL := [.ref b, .int (Int32.ofNat o), .int (Int32.ofNat len)]) (rest := []) rfl rfl (by show 2 * 0 + 0 ≤ _; decide) (hb hbytes d36) (⟨rfl, hA.mv X5.warmed.alike hh5, l1, l2, hp⟩)
  obtain ⟨e8, z8⟩ := E8
  obtain ⟨rfl, N, n1, n2, n3, n4, n5, n6⟩ := NewArr.mv _ T5 s _ _ hh5.symm (Vm.Alike.refl _) rfl e8
  rw [hh5] at z8
  have hB1 := hB.keep X8.warmed.alike (n6 _ _ hB.1)
  have hne : s.heap.size ≠ a := (Nat.ne_of_lt (Array.getElem?_eq_some_iff.mp hB.1).1).symm
  have c9 : Steps p.tables e below (s₁.setTop (entryFrame m #[.ref a, .ref b, .int (Int32.ofNat o), .int (Int32.ofNat len), .null] 6)) (T8.setTop (mkF m 39 #[.val (.ref a), .val (.ref b), .val (.int (Int32.ofNat o)), .val (.int (Int32.ofNat len)), .val .null, .unset] [.ref s.heap.size])) := g8
  have c10 : Steps p.tables e below (s₁.setTop (entryFrame m #[.ref a, .ref b, .int (Int32.ofNat o), .int (Int32.ofNat len), .null] 6)) (T8.setTop (mkF m 45 #[.val (.ref a), .val (.ref b), .val (.int (Int32.ofNat o)), .val (.int (Int32.ofNat len)), .val .null, .val (.ref s.heap.size)] [.int (Int32.ofNat N.slots.size), .ref s.heap.size, .ref a])) := by
    have hc : Steps p.tables e below (s₁.setTop (entryFrame m #[.ref a, .ref b, .int (Int32.ofNat o), .int (Int32.ofNat len), .null] 6)) (T8.setTop (mkF m 45 #[.val (.ref a), .val (.ref b), .val (.int (Int32.ofNat o)), .val (.int (Int32.ofNat len)), .val .null, .val (.ref s.heap.size)] [.int (Int32.ofNat len), .ref s.heap.size, .ref a])) := c9.trans (by
      refine XS.astore X8.here hexec rfl (hb hbytes d39) rfl rfl rfl ?_
      refine XS.aloadN X8.here hexec rfl (hb hbytes d41) rfl rfl ?_
      refine XS.aload X8.here hexec rfl (hb hbytes d42) rfl rfl ?_
      refine XS.iloadN X8.here hexec rfl (hb hbytes d44) rfl ?_
      exact Steps.refl _)
    rw [n4]; exact hc
  obtain ⟨v11, T11, X11, E11, g11⟩ := X8.callS hexec (CodL.law l s.heap.size N) hown (wks W (staticW "java/lang/String" 47 CodL.yN)) (wk W CodL.tab) (W := 1) (Nat.le_of_ble_eq_true rfl) (Nat.le_of_ble_eq_true rfl) (Nat.le_refl _) (by show 0 + len + 0 ≤ len; omega) (g := (mkF m 45 #[.val (.ref a), .val (.ref b), .val (.int (Int32.ofNat o)), .val (.int (Int32.ofNat len)), .val .null, .val (.ref s.heap.size)] [.int (Int32.ofNat N.slots.size), .ref s.heap.size, .ref a])) rfl (by rw [hml]; rfl) c10 (argsL := [.ref s.heap.size, .int (Int32.ofNat N.slots.size)]) (rest := [.ref a]) rfl rfl (by show 2 * 0 + (1 + 0) ≤ _; decide) (hb hbytes d45) (⟨rfl, n1⟩)
  obtain ⟨rfl, q11⟩ := E11
  have hB11 := hB1.mv (X8.warmed.alike.symm.trans X11.warmed.alike) q11
  have c12 : Steps p.tables e below (s₁.setTop (entryFrame m #[.ref a, .ref b, .int (Int32.ofNat o), .int (Int32.ofNat len), .null] 6)) (T11.setTop (mkF m 48 #[.val (.ref a), .val (.ref b), .val (.int (Int32.ofNat o)), .val (.int (Int32.ofNat len)), .val .null, .val (.ref s.heap.size)] [.int 0, .ref a])) := g11
  obtain ⟨T13, X13, p13, bl13, sl13, st13⟩ := X11.finit hexec hown (wk W (.fieldLink "java/lang/String" 15 "java/lang/String" "coder" "B")) (Or.inr ⟨_, (wk W (.laysFinal "java/lang/String" "java/lang/String" "coder" "B"))⟩) (Or.inl ⟨rfl, hnm⟩) f2 (Or.inl rfl) hB11 (t := .byte) (by decide +kernel) rfl (g := (mkF m 48 #[.val (.ref a), .val (.ref b), .val (.int (Int32.ofNat o)), .val (.int (Int32.ofNat len)), .val .null, .val (.ref s.heap.size)] [.int 0, .ref a])) rfl (rest := []) rfl (hb hbytes d48)
  have c14 : Steps p.tables e below (s₁.setTop (entryFrame m #[.ref a, .ref b, .int (Int32.ofNat o), .int (Int32.ofNat len), .null] 6)) (T13.setTop (mkF m 54 #[.val (.ref a), .val (.ref b), .val (.int (Int32.ofNat o)), .val (.int (Int32.ofNat len)), .val .null, .val (.ref s.heap.size)] [.ref s.heap.size, .ref a])) := (c12.trans (st13 _ (Steps.refl _))).trans (by
    refine XS.aloadN X13.here hexec rfl (hb hbytes d51) rfl rfl ?_
    refine XS.aload X13.here hexec rfl (hb hbytes d52) rfl rfl ?_
    exact Steps.refl _)
  obtain ⟨T15, X15, p15, bl15, sl15, st15⟩ := X13.finit hexec hown (wk W (.fieldLink "java/lang/String" 9 "java/lang/String" "value" "[B")) (Or.inr ⟨_, (wk W (.laysFinal "java/lang/String" "java/lang/String" "value" "[B"))⟩) (Or.inl ⟨rfl, hnm⟩) f1 (Or.inl rfl) bl13 (t := (.array .byte)) (by decide +kernel) rfl (g := (mkF m 54 #[.val (.ref a), .val (.ref b), .val (.int (Int32.ofNat o)), .val (.int (Int32.ofNat len)), .val .null, .val (.ref s.heap.size)] [.ref s.heap.size, .ref a])) rfl (rest := []) rfl (hb hbytes d54)
  have c16 : Steps p.tables e below (s₁.setTop (entryFrame m #[.ref a, .ref b, .int (Int32.ofNat o), .int (Int32.ofNat len), .null] 6)) (T15.setTop (mkF m 57 #[.val (.ref a), .val (.ref b), .val (.int (Int32.ofNat o)), .val (.int (Int32.ofNat len)), .val .null, .val (.ref s.heap.size)] [])) := c14.trans (st15 _ (Steps.refl _))
  have ap := apart (Or.inr ⟨_, (wk W (.laysFinal "java/lang/String" "java/lang/String" "value" "[B"))⟩) (Or.inr ⟨_, (wk W (.laysFinal "java/lang/String" "java/lang/String" "coder" "B"))⟩) f1 f2 (t₁ := .array .byte) (t₂ := .byte) (by decide +kernel) (by decide +kernel) (by decide)
  have al := X8.warmed.alike.symm.trans X15.warmed.alike
  have n7 : T11.heap[s.heap.size]? = some N := by rw [q11]; exact n1.1
  exact ⟨T15, none, _, _, _, X15, by simp, rfl, by omega, (fun _ => rfl), ⟨rfl, _, N, bl15, ((Same.refl D _).set _ (by simp)).set _ (by simp), sl15, (Cell.slots_setSlot_ne _ ap).trans sl13, n1.keep al (p15.other hne (p13.other hne n7)), n2, by rw [al.findClass]; exact n3, n4, n5, fun y c h1 h2 => p15.other h1 (p13.other h1 (by rw [q11]; exact n6 y c h2)), by rw [p15.2.2, p13.2.2, q11]; exact z8⟩, fun fs hl => c16.trans (X15.returnOut hexec hret (hb hbytes d57) hl)⟩
end New4
namespace New1
def yN : MethodName := ⟨"java/lang/String", "<init>", "([C)V"⟩
abbrev yB : ByteArray := jdk_42_method_3_code
theorem d0 : decode yB 0 = .ok (.aload_n 0, 1) := by decide +kernel
theorem d1 : decode yB 1 = .ok (.aload_n 1, 1) := by decide +kernel
theorem d2 : decode yB 2 = .ok (.iconst 0, 1) := by decide +kernel
theorem d3 : decode yB 3 = .ok (.aload_n 1, 1) := by decide +kernel
theorem d4 : decode yB 4 = .ok (.arraylength, 1) := by decide +kernel
theorem d5 : decode yB 5 = .ok (.aconst_null, 1) := by decide +kernel
theorem d6 : decode yB 6 = .ok (.invokespecial 27, 3) := by decide +kernel
theorem d9 : decode yB 9 = .ok (.return_, 1) := by decide +kernel
def site : List Cond := [New4.tab] ++ initW "java/lang/String" 27 New4.yN
def tab : Cond := tabOf yN yB 2 none site
def P (a : Addr) (D : Cell) (fV fC : Field) (b : Addr) (A : Cell) (z : Int32) (args : Array Value) (s : State) : Prop := args = #[.ref a, .ref b] ∧ Blank "java/lang/String" a D s ∧ Found "java/lang/String" "value" "[B" fV s ∧ Found "java/lang/String" "coder" "B" fC s ∧ Ch b A s ∧ StaticIs s "java/lang/String" "COMPACT_STRINGS" "Z" (.int z) ∧ ¬ z = 0 ∧ 0 < A.slots.size ∧ A.slots.size ≤ 536870912 ∧ ∀ i, i < A.slots.size → ¬ 255 < cv A i
def E (a : Addr) (D : Cell) (fV fC : Field) (A : Cell) (r : Option Value) (s u : State) : Prop := Got a D fV fC A 0 A.slots.size r s u
/-- new String(chars), not empty, no char above 255: a Latin-1 String of their low bytes -/
theorem law (l : Launch) (a : Addr) (D : Cell) (fV fC : Field) (b : Addr) (A : Cell) (z : Int32) : Law l yN 2 1 3 52 yB 2 none site (P a D fV fC b A z) (E a D fV fC A) [⟨a, fC.slot⟩, ⟨a, fV.slot⟩] 1 A.slots.size := by
  refine Law.of_walk (plainFor_of_name (by decide +kernel)) (by decide +kernel) (by decide +kernel) (by decide) (fun _ _ h => by rw [h.1]; rfl) (fun _ U U' hal hh h => ⟨h.1, h.2.1.mv hal hh, h.2.2.1.al hal, h.2.2.2.1.al hal, h.2.2.2.2.1.mv hal hh, h.2.2.2.2.2.1.there hal hh, h.2.2.2.2.2.2⟩) (fun r U U' V V' h1 hal h2 h => Got.mv r U U' V V' h1 hal h2 h) ?_
  intro p e s m args below meth c s₁ X0 hexec hbytes hml hret hlk hnm hown hh0 W hP
  obtain ⟨rfl, hB, f1, f2, hA, s1, hz, l0, l2, hp⟩ := hP
  have c1 : Steps p.tables e below (s₁.setTop (entryFrame m #[.ref a, .ref b] 2)) (s₁.setTop (mkF m 0 #[.val (.ref a), .val (.ref b)] [])) := entry rfl
  have c2 : Steps p.tables e below (s₁.setTop (entryFrame m #[.ref a, .ref b] 2)) (s₁.setTop (mkF m 6 #[.val (.ref a), .val (.ref b)] [.null, .int (Int32.ofNat A.slots.size), .int 0, .ref b, .ref a])) := c1.trans (by
    refine XS.aloadN X0.here hexec rfl (hb hbytes d0) rfl rfl ?_
    refine XS.aloadN X0.here hexec rfl (hb hbytes d1) rfl rfl ?_
    refine iconstV X0.here hexec rfl 0 (hb hbytes d2) (by decide) ?_
    refine XS.aloadN X0.here hexec rfl (hb hbytes d3) rfl rfl ?_
    refine X0.alen hexec (hA.1.mv X0.warmed.alike hh0) rfl rfl (hb hbytes d4) ?_
    refine XS.aconstNull X0.here hexec rfl (hb hbytes d5) ?_
    exact Steps.refl _)
  obtain ⟨v3, T3, X3, E3, g3⟩ := X0.callN hexec (New4.law l a D fV fC b A z 0 A.slots.size) rfl hown (wks W (initW "java/lang/String" 27 New4.yN)) (W New4.tab (by simp only [site, List.mem_cons, List.mem_append, true_or, or_true])) (W := 0) (Nat.le_of_ble_eq_true rfl) (Nat.le_of_ble_eq_true rfl) (Nat.le_refl _) (by show 0 + A.slots.size ≤ A.slots.size; omega) (g := (mkF m 6 #[.val (.ref a), .val (.ref b)] [.null, .int (Int32.ofNat A.slots.size), .int (Int32.ofNat 0), .ref b, .ref a])) rfl (by rw [hml]; rfl) c2 (argsL := [.ref b, .int (Int32.ofNat 0), .int (Int32.ofNat A.slots.size), .null]) (rest := []) rfl rfl (by show 2 * 0 + 0 ≤ _; decide) (hb hbytes d6) (⟨rfl, hB.mv X0.warmed.alike hh0, f1.al X0.warmed.alike, f2.al X0.warmed.alike, hA.mv X0.warmed.alike hh0, s1.there X0.warmed.alike hh0, hz, l0, by omega, l2, fun i hi => by rw [Nat.zero_add]; exact hp i hi⟩)
  have e0 := Got.mv _ s₁ s _ _ hh0.symm (Vm.Alike.refl _) rfl E3
  obtain rfl := e0.1
  have c4 : Steps p.tables e below (s₁.setTop (entryFrame m #[.ref a, .ref b] 2)) (T3.setTop (mkF m 9 #[.val (.ref a), .val (.ref b)] [])) := g3
  exact ⟨T3, none, _, _, _, X3, by simp, rfl, by omega, (fun _ => rfl), e0, fun fs hl => c4.trans (X3.returnOut hexec hret (hb hbytes d9) hl)⟩
theorem pays {l : Launch} {R : Room} {p : Program} {e : Env} {below : List Frame} {s : State} {sargs : Array Value} {len W : Nat} (a : Addr) (D : Cell) (fV fC : Field) (b : Addr) (A : Cell) (z : Int32) (htab : tab.before sargs s = true) (hfr : 4 ≤ R.frames) (hlo : W + 65 ≤ R.locals) :
    Back l R p e below s sargs yN len W (fun A₁ a₁ => A₁.cells + 1 ≤ R.cells ∧ A₁.slots + A.slots.size ≤ R.slots ∧ P a D fV fC b A z a₁ A₁.U) (fun A₁ _ v₁ B₁ => E a D fV fC A v₁ A₁.U B₁.U ∧ B₁.locs = A₁.locs ++ [⟨a, fC.slot⟩, ⟨a, fV.slot⟩] ∧ B₁.cells = A₁.cells + 1 ∧ B₁.slots = A₁.slots + A.slots.size) :=
  (law l a D fV fC b A z).pays htab hfr (by omega)
end New1
/-- the byte, read back as charAt reads it, is the char -/
theorem lo8_mask {x : Int32} (h0 : ¬ x < 0) (h1 : ¬ 255 < x) : lo8 x &&& 255 = x := by
  have t : ∀ k : Fin 256, lo8 (Int32.ofNat k.val) &&& 255 = Int32.ofNat k.val := by decide +kernel
  rw [Int32.lt_iff_toInt_lt] at h0 h1
  have e0 : (0 : Int32).toInt = 0 := rfl
  have e1 : (255 : Int32).toInt = 255 := rfl
  obtain ⟨k, hk⟩ : ∃ k : Nat, x.toInt = k := ⟨x.toInt.toNat, by omega⟩
  have hx : x = Int32.ofNat k := Int32.toInt_inj.mp (by rw [hk, Int32.toInt_ofNat_small (by omega)])
  rw [hx]
  exact t ⟨k, by omega⟩
end StrChars
namespace StrChars.Road
open Jvm Sem ClassFile Op Lib Jvm.Stand Jvm.Free Jvm.Free.XT
open Jvm.Lib.Cold (StaticIs)
abbrev ST : String := "java/lang/String"
/-- every table word that New1's law asks, flat -/
abbrev words : List Jvm.Cond := [.code New1.yN New1.yB 2 none, .initialized ST, .methodLink ST 27 New4.yN, .instanceMethod New4.yN,
  .code New4.yN New4.yB 6 none, .fieldLink ST 38 ST "COMPACT_STRINGS" "Z", .laysFinal ST ST "value" "[B", .fieldLink ST 9 ST "value" "[B", .laysFinal ST ST "coder" "B", .fieldLink ST 15 ST "coder" "B",
  .methodLink ST 1 Lib.objectInit, .instanceMethod Lib.objectInit, .code Lib.objectInit ⟨#[0xb1]⟩ 1 none, .methodLink ST 177 Cmp3.yN, .static Cmp3.yN, .methodLink ST 47 CodL.yN, .static CodL.yN,
  .code Cmp3.yN Cmp3.yB 6 (some (.array .byte)), .initialized U16, .arrayClass .byte, .methodLink U16 115 Cmp5.yN, .static Cmp5.yN, .code Cmp5.yN Cmp5.yB 7 (some .int), .code CodL.yN CodL.yB 2 (some .byte)]
theorem tab_of {a : Array Value} {s : State} (h : ∀ w ∈ words, w.before a s = true) : New1.tab.before a s = true := by
  have h5 : Cmp5.tab.before a s = true := unparts (wk h (.code Cmp5.yN Cmp5.yB 7 (some .int))) (wks h (.initialized Cmp5.yN.cls :: Cmp5.site))
  have hc : CodL.tab.before a s = true := unparts (wk h (.code CodL.yN CodL.yB 2 (some .byte))) (wks h (.initialized CodL.yN.cls :: CodL.site))
  have q5 : ∀ w ∈ Cmp5.tab :: words, w.before a s = true := fun w hw => (List.mem_cons.mp hw).elim (fun e => e ▸ h5) (h w)
  have h3 : Cmp3.tab.before a s = true := unparts (wk q5 (.code Cmp3.yN Cmp3.yB 6 (some (.array .byte)))) (wks q5 (.initialized Cmp3.yN.cls :: Cmp3.site))
  have q3 : ∀ w ∈ Cmp3.tab :: CodL.tab :: words, w.before a s = true := fun w hw => (List.mem_cons.mp hw).elim (fun e => e ▸ h3) fun hw => (List.mem_cons.mp hw).elim (fun e => e ▸ hc) (h w)
  have h4 : New4.tab.before a s = true := unparts (wk q3 (.code New4.yN New4.yB 6 none)) (wks q3 (.initialized New4.yN.cls :: New4.site))
  have q4 : ∀ w ∈ New4.tab :: words, w.before a s = true := fun w hw => (List.mem_cons.mp hw).elim (fun e => e ▸ h4) (h w)
  exact unparts (wk q4 (.code New1.yN New1.yB 2 none)) (wks q4 (.initialized New1.yN.cls :: New1.site))
/-- the words ride from the start Z to the walk's own state -/
theorem moved {Z s : State} {a0 args : Array Value} (hZ : Z.Warmed39 s.vm) (hw : ∀ d ∈ words, d.before a0 Z = true) : ∀ d ∈ words, d.before args s = true := fun d hd => by
  have q := hw d hd
  have t : ∀ d ∈ words, d = .arrayClass .byte ∨ (d.onTables && d.keepsFace) = true := by decide +kernel
  rcases t d hd with rfl | t
  · exact RoadKit.mvA hZ q
  · exact RoadKit.mv hZ q t
/-- WHAT COMES BACK, over the tables of the start Z: h the heap at the call, h' behind it -/
def Q (Z : State) (x : Addr) (A : Cell) (h : Heap) (v : Option Value) (h' : Heap) (L : List Loc) : Prop := v = none ∧ (∀ y ∈ L, y.base = x) ∧ RoadKit.Keep h h' [x] ∧ h'.size = h.size + 1 ∧ RoadKit.Exa Z h' x ST ∧ RoadKit.Fld Z h' x ST "value" "[B" (.ref h.size) ∧ RoadKit.Fld Z h' x ST "coder" "B" (.int 0) ∧
  (∃ V : Cell, RoadKit.Arr Z h' h.size V .byte ∧ V.vm = .none ∧ Z.vm.findClass "[B" = some V.cls ∧ V.slots.size = A.slots.size ∧ ∀ j, j < A.slots.size → V.slots[j]? = some (.int (lo8 (cv A j)))) ∧
  ∀ (O n d : String) (w : Value), RoadKit.Fld Z h x O n d w → RoadKit.slotOf Z O n d ≠ RoadKit.slotOf Z ST "value" "[B" → RoadKit.slotOf Z O n d ≠ RoadKit.slotOf Z ST "coder" "B" → RoadKit.Fld Z h' x O n d w
/-- **new String(chars) AT A CALL, IN THE ROAD'S FORM**: for specialBack behind newO: x the fresh String, b the char[] with the cell A -/
theorem back {p : Program} {l : Launch} {e : Env} {R : Room} {s : State} {args : Array Value} {below : List Frame} {len W : Nat} {Z : State} {a0 : Array Value} {h : Heap} (hZ : Z.Warmed39 s.vm) (hw : ∀ d ∈ words, d.before a0 Z = true) {kI : Nat} (wi : (Jvm.Cond.instantiable ST kI).before a0 Z = true)
    {x b : Addr} {A : Cell} {z : Int32} {v0 c0 : Value} (E : RoadKit.Exa Z h x ST) (V : RoadKit.Fld Z h x ST "value" "[B" v0) (C : RoadKit.Fld Z h x ST "coder" "B" c0) (K : RoadKit.Arr Z h b A .char) (hty : Typed .char A) (S : RoadKit.Sta Z h ST "COMPACT_STRINGS" "Z" (.int z)) (hz : ¬ z = 0)
    (l0 : 0 < A.slots.size) (l2 : A.slots.size ≤ 536870912) (hp : ∀ i, i < A.slots.size → ¬ 255 < cv A i) (hfr : 4 ≤ R.frames) (hlo : W + 65 ≤ R.locals) :
    Back l R p e below s args New1.yN len W (fun P a => a = #[.ref x, .ref b] ∧ P.U.heap = h ∧ P.cells + 1 ≤ R.cells ∧ P.slots + A.slots.size ≤ R.slots)
      (fun P _ v B => ∃ L, Q Z x A h v B.U.heap L ∧ B.locs = P.locs ++ L ∧ B.cells = P.cells + 1 ∧ B.slots = P.slots + A.slots.size) := by
  intro m meth c P g ig mk a X hg hsize hdg hW hn hp'
  obtain ⟨rfl, rfl, r1, r2⟩ := hp'
  have al : Z.vm.Alike P.U.vm := hZ.alike.trans X.warmed.alike
  obtain ⟨D, cfV, kV, iV, fV, hD, gV, stV, knV, obV, asV, slV⟩ := id V
  obtain ⟨D', cfC, kC, iC, fC, hD', gC, stC, -, -, asC, slC⟩ := id C
  cases hD.symm.trans hD'
  obtain ⟨D2, kD, e1, e2, e3, e4, e5⟩ := id E
  cases hD.symm.trans e1
  obtain ⟨c2, k2, i1, i2, i3, -⟩ := Cond.instantiable_spec wi
  cases e2.symm.trans i1
  cases e3.symm.trans i2
  obtain ⟨kU, u1, u2⟩ := al.2.2 _ _ e3
  have hB : Blank ST x D P.U := ⟨hD, ⟨knV, fun q hq => by rw [hq] at obV; cases obV⟩, by rw [al.findClass]; exact e2, kU, u1, by rw [u2]; exact i3, by rw [u2]; exact e5 i3⟩
  have F1 : Found ST "value" "[B" fV P.U := ⟨SBG.found_only al ⟨cfV, kV, iV, gV⟩, stV⟩
  have F2 : Found ST "coder" "B" fC P.U := ⟨SBG.found_only al ⟨cfC, kC, iC, gC⟩, stC⟩
  have hA : Ch b A P.U := ⟨⟨K.1, State.isArrayOf_alike al K.2.1, K.2.2, by omega⟩, hty⟩
  have hS : StaticIs P.U ST "COMPACT_STRINGS" "Z" (.int z) := by
    obtain ⟨cfS, iS, kS, fS, st, cS, t1, t2, t3, t4, t5, t6, t7⟩ := S
    exact StaticIs.there (s := { Z with heap := P.U.heap }) ⟨cfS, iS, kS, fS, st, cS, t1, t2, t3, t4, t5, (fun q => by rw [q] at t6; cases t6), t7⟩ al rfl
  obtain ⟨v, B, X', ⟨⟨hv, E', V', q1, q2, q3, q4, q5, q6, q7, q8, q9, q10, q11⟩, hl, hc, hs⟩, st⟩ := New1.pays x D fV fC b A z (tab_of (moved hZ hw)) hfr hlo m meth c P g ig mk _ X hg hsize hdg hW hn ⟨r1, r2, rfl, hB, F1, F2, hA, hS, hz, l0, l2, hp⟩
  have al' : Z.vm.Alike B.U.vm := hZ.alike.trans X'.warmed.alike
  have hsz : E'.slots.size = D.slots.size := by
    obtain ⟨-, -, -, kB, w1, w2, w3⟩ := q1
    obtain ⟨kB', y1, y2⟩ := al'.2.2 _ _ e3
    rw [q2.2.1] at w1
    cases w1.symm.trans y1
    rw [w3, e5 i3, y2]
  refine ⟨v, B, X', ⟨_, ⟨hv, ?_, ⟨by omega, fun y cy hy hn' => q10 y cy (by simpa using hn') hy, fun y cy hy => ?_⟩, q11, ⟨E', _, q1.1, by rw [q2.2.1]; exact e2, by rw [q2.2.1]; exact e3, by rw [q2.1]; exact obV, fun _ => by rw [hsz]; exact e5 i3⟩,
    ⟨E', cfV, kV, iV, fV, q1.1, gV, stV, by rw [q2.1]; exact knV, by rw [q2.1]; exact obV, by rw [q2.2.1]; exact asV, q3⟩, ⟨E', cfC, kC, iC, fC, q1.1, gC, stC, by rw [q2.1]; exact knV, by rw [q2.1]; exact obV, by rw [q2.2.1]; exact asC, q4⟩,
    ⟨V', ⟨q5.1, State.isArrayOf_alike al'.symm q5.2.1, q5.2.2.1⟩, q6, by rw [← al'.findClass]; exact q7, q8, fun j hj => by have := q9 j hj; rwa [Nat.zero_add] at this⟩, fun O n d w F n1 n2 => ?_⟩, hl, hc, hs⟩, st⟩
  · intro y hy
    simp only [List.mem_cons, List.not_mem_nil, or_false] at hy
    rcases hy with rfl | rfl <;> rfl
  · by_cases q : y = x
    · subst q
      cases hD.symm.trans hy
      exact ⟨E', q1.1, q2.2.1, q2.1, hsz⟩
    · exact ⟨cy, q10 y cy q hy, rfl, rfl, rfl⟩
  · obtain ⟨D3, cf, k, i, f, g1, g2, g3, g4, g5, g6, g7⟩ := F
    cases hD.symm.trans g1
    simp only [RoadKit.slotOf, g2, gV, gC, Option.map_some, Option.getD_some] at n1 n2
    exact ⟨E', cf, k, i, f, q1.1, g2, g3, by rw [q2.1]; exact g4, by rw [q2.1]; exact g5, by rw [q2.2.1]; exact g6, by rw [q2.2.2 f.slot (by simp [n1, n2])]; exact g7⟩
end StrChars.Road
namespace StrChars.Road
open Jvm Sem ClassFile Op Lib Jvm.Stand Jvm.Free Jvm.Free.XT
/-- WHAT COMES BACK, the byte[] as a list of values -/
def QA (Z : State) (x : Addr) (zn : Int32) (cs : List Int32) (h : Heap) (v : Option Value) (h' : Heap) (L : List Loc) : Prop := v = none ∧ (∀ y ∈ L, y.base = x) ∧ RoadKit.Keep h h' [x] ∧ h'.size = h.size + 1 ∧ RoadKit.Exa Z h' x ST ∧ RoadKit.Fld Z h' x ST "value" "[B" (.ref h.size) ∧ RoadKit.Fld Z h' x ST "coder" "B" (.int 0) ∧
  (∃ kb, Z.vm.findClass "[B" = some kb ∧ RoadKit.Arv Z h' h.size kb .byte zn (cs.map fun c => .int (lo8 c)) (.int 0)) ∧
  ∀ (O n d : String) (w : Value), RoadKit.Fld Z h x O n d w → RoadKit.slotOf Z O n d ≠ RoadKit.slotOf Z ST "value" "[B" → RoadKit.slotOf Z O n d ≠ RoadKit.slotOf Z ST "coder" "B" → RoadKit.Fld Z h' x O n d w
/-- **new String(chars) AT A CALL, THE ARRAYS AS LISTS**: the char[] at b holds cs, not empty, no char above 255 -/
theorem backArv {p : Program} {l : Launch} {e : Env} {R : Room} {s : State} {args : Array Value} {below : List Frame} {len W : Nat} {Z : State} {a0 : Array Value} {h : Heap} (hZ : Z.Warmed39 s.vm) (hw : ∀ d ∈ words, d.before a0 Z = true) {kI : Nat} (wi : (Jvm.Cond.instantiable ST kI).before a0 Z = true)
    {x b : Addr} {k : ClassId} {zn z : Int32} {cs : List Int32} {dv v0 c0 : Value} (E : RoadKit.Exa Z h x ST) (V : RoadKit.Fld Z h x ST "value" "[B" v0) (C : RoadKit.Fld Z h x ST "coder" "B" c0) (K : RoadKit.Arv Z h b k .char zn (cs.map Value.int) dv) (S : RoadKit.Sta Z h ST "COMPACT_STRINGS" "Z" (.int z)) (hz : ¬ z = 0)
    (hlen : zn.toNatClampNeg = cs.length) (h0 : 0 < cs.length) (hbig : cs.length ≤ 536870912) (hall : ∀ c ∈ cs, ¬ 255 < c) (hfr : 4 ≤ R.frames) (hlo : W + 65 ≤ R.locals) :
    Back l R p e below s args New1.yN len W (fun P a => a = #[.ref x, .ref b] ∧ P.U.heap = h ∧ P.cells + 1 ≤ R.cells ∧ P.slots + cs.length ≤ R.slots)
      (fun P _ v B => ∃ L, QA Z x zn cs h v B.U.heap L ∧ B.locs = P.locs ++ L ∧ B.cells = P.cells + 1 ∧ B.slots = P.slots + cs.length) := by
  obtain ⟨A, K1, K2, K3, K4, K5, K6⟩ := K
  have e : A.slots.size = cs.length := K3.trans hlen
  have hat : ∀ (i : Nat) (hi : i < cs.length), A.slots[i]? = some (.int cs[i]) := fun i hi => by rw [K5 i (by omega)]; simp [List.getD_eq_getElem?_getD, hi]
  have hcv : ∀ (i : Nat) (hi : i < cs.length), cv A i = cs[i] := fun i hi => by unfold cv; rw [hat i hi]
  have hty : Typed .char A := fun i v hv => by
    have hi : i < A.slots.size := (Array.getElem?_eq_some_iff.mp hv).1
    have q := K5 i hi
    rw [hv] at q
    rw [Option.some.inj q]
    exact K6 i hi
  refine Back.mono (back hZ hw wi E V C K1 hty S hz (by omega) (by omega) (fun i hi => by rw [hcv i (by omega)]; exact hall _ (List.getElem_mem _)) hfr hlo) (fun P a hp => ⟨hp.1, hp.2.1, hp.2.2.1, by rw [e]; exact hp.2.2.2⟩) (fun P a v B hp hq => ?_)
  obtain ⟨L, ⟨q1, q2, q3, q4, q5, q6, q7, ⟨V', v1, v2, v3, v4, v5⟩, q9⟩, hl, hc, hs⟩ := hq
  refine ⟨L, ⟨q1, q2, q3, q4, q5, q6, q7, ⟨V'.cls, v3, V', v1, rfl, by rw [v4, e, hlen], K4, fun i hi => ?_, fun i hi => ?_⟩, q9⟩, hl, hc, by rw [hs, e]⟩
  · have hi' : i < cs.length := by omega
    rw [v5 i (by omega), hcv i hi']; simp [List.getD_eq_getElem?_getD, hi']
  · have hi' : i < cs.length := by omega
    simp only [List.getD_eq_getElem?_getD, List.getElem?_map, List.getElem?_eq_getElem hi', Option.map_some, Option.getD_some]
    exact fits_lo8 _
end StrChars.Road
namespace StrChars.Road
open Jvm Sem ClassFile Op Lib Jvm.Stand Jvm.Free Jvm.Free.XT
/-- WHAT COMES BACK, in the writer's own shape -/
def QV (Z : State) (x : Addr) (N : Int32) (bs : List Int32) (h : Heap) (n0 : Nat) (v : Option Value) (h' : Heap) (L : List Loc) : Prop := v = none ∧ RoadKit.Fr n0 L ∧ RoadKit.Keep h h' [x] ∧ RoadKit.Exa Z h' x ST ∧ RoadKit.Fld Z h' x ST "coder" "B" (.int 0) ∧
  ∃ (t : Addr) (kb : ClassId), n0 ≤ t ∧ h.size ≤ t ∧ ¬ t = x ∧ RoadKit.Fld Z h' x ST "value" "[B" (.ref t) ∧ RoadKit.Arv Z h' t kb .byte N (bs.map Value.int) (.int 0)
/-- **new String(chars) AT A CALL, FOR THE WRITER**: a char[] of n known ints, each 0 to 255 -/
theorem backV {p : Program} {l : Launch} {e : Env} {R : Room} {s : State} {args : Array Value} {below : List Frame} {len W : Nat} {Z : State} {a0 : Array Value} {h : Heap} (hZ : Z.Warmed39 s.vm) (hw : ∀ d ∈ words, d.before a0 Z = true) {kI : Nat} (wi : (Jvm.Cond.instantiable ST kI).before a0 Z = true)
    {x b : Addr} {kC : ClassId} {cs bs : List Int32} {d v0 c0 : Value} {z N : Int32} {n n0 : Nat} (hx0 : n0 ≤ x) (hh0 : n0 ≤ h.size) (E : RoadKit.Exa Z h x ST) (V : RoadKit.Fld Z h x ST "value" "[B" v0) (C : RoadKit.Fld Z h x ST "coder" "B" c0) (K : RoadKit.Arv Z h b kC .char N (cs.map Value.int) d) (S : RoadKit.Sta Z h ST "COMPACT_STRINGS" "Z" (.int z)) (hz : ¬ z = 0)
    (hn : cs.length = n) (hN : N = Int32.ofNat n) (l0 : 0 < n) (l2 : n ≤ 4000) (hp : ∀ c ∈ cs, ¬ c < 0 ∧ ¬ (255 : Int32) < c) (hb : bs = cs.map (fun c => c.toInt8.toInt32)) (hfr : 4 ≤ R.frames) (hlo : W + 65 ≤ R.locals) :
    Back l R p e below s args (⟨"java/lang/String", "<init>", "([C)V"⟩ : MethodName) len W (fun P a => a = #[.ref x, .ref b] ∧ P.U.heap = h ∧ P.cells + 1 ≤ R.cells ∧ P.slots + n ≤ R.slots)
      (fun P _ v B => ∃ L, QV Z x N bs h n0 v B.U.heap L ∧ B.locs = P.locs ++ L ∧ B.cells = P.cells + 1 ∧ B.slots = P.slots + n) := by
  subst hn hN hb
  refine Back.mono (backArv hZ hw wi E V C K S hz (n32 (by omega)) l0 (by omega) (fun c hc => (hp c hc).2) hfr hlo) (fun P a hp => hp) (fun P a v B hp hq => ?_)
  obtain ⟨L, ⟨q1, q2, q3, q4, q5, q6, q7, ⟨kb, v1, v2⟩, q9⟩, hl, hc, hs⟩ := hq
  exact ⟨L, ⟨q1, fun y hy => by rw [q2 y hy]; exact hx0, q3, q5, q7, h.size, kb, hh0, Nat.le_refl _, Nat.ne_of_gt E.lt, q6, by rw [List.map_map]; exact v2⟩, hl, hc, hs⟩
end StrChars.Road
namespace StrChars
open Jvm Sem ClassFile Op Lib Jvm.Stand Jvm.Free.XT Jvm.Free.ALB Jvm.Free.JM Jvm.Free
open Jvm.Lib.Cold (StaticIs)
def hi8 (x : Int32) : Int32 := lo8 (x >>> ((8 : Int32) &&& 31))
/-- what StringUTF16.getChar makes of two bytes -/
def pairCh (u v : Int32) : Int32 := (((u &&& 255) <<< ((0 : Int32) &&& 31)) ||| ((v &&& 255) <<< ((8 : Int32) &&& 31))).toUInt32.toUInt16.toUInt32.toInt32
theorem shr0 (c : Int32) : c >>> ((0 : Int32) &&& 31) = c := by
  have e : ((0 : Int32) &&& 31) = 0 := by decide
  rw [e]
  apply Int32.toBitVec_inj.mp
  rw [Int32.toBitVec_shiftRight]
  have e1 : ((0 : Int32).toBitVec.smod 32) = 0#32 := by decide
  rw [e1, BitVec.sshiftRight_eq']
  exact BitVec.sshiftRight_zero
theorem lo8_and (x : Int32) : (lo8 x &&& 255).toBitVec.toNat = x.toBitVec.toNat % 256 := by
  have h : (lo8 x).toBitVec = (x.toBitVec.signExtend 8).signExtend 32 := by rw [lo8, Int8.toBitVec_toInt32, Int32.toBitVec_toInt8]
  rw [Int32.toBitVec_and, BitVec.toNat_and, h]
  have e : ((x.toBitVec.signExtend 8).signExtend 32).toNat % 256 = x.toBitVec.toNat % 256 := by
    rw [BitVec.toNat_signExtend]
    have hlt := x.toBitVec.isLt
    simp only [BitVec.toNat_setWidth, BitVec.toNat_signExtend]
    split <;> split <;> omega
  rw [← e]
  exact Nat.and_two_pow_sub_one_eq_mod _ 8
theorem pair_says {c : Int32} (h0 : ¬ c < 0) (h1 : ¬ 65535 < c) : pairCh (lo8 c) (hi8 c) = c := by
  rw [Int32.lt_iff_toInt_lt] at h0 h1
  have e0 : (0 : Int32).toInt = 0 := rfl
  have e1 : (65535 : Int32).toInt = 65535 := rfl
  have hc : c.toInt = c.toBitVec.toNat := by
    have := c.toBitVec.isLt
    have e : c.toInt = c.toBitVec.toInt := rfl
    rw [e] at h0 h1
    rw [e]
    rw [BitVec.toInt_eq_toNat_cond] at h0 h1 ⊢
    split at h0 <;> split <;> omega
  have hn : c.toBitVec.toNat < 65536 := by omega
  have a1 := lo8_and c
  have a2 : (hi8 c &&& 255).toBitVec.toNat = c.toBitVec.toNat / 256 := by
    rw [hi8, lo8_and]
    have e : ((8 : Int32) &&& 31) = 8 := by decide
    rw [e, Int32.toBitVec_shiftRight]
    have e2 : ((8 : Int32).toBitVec.smod 32) = 8#32 := by decide
    rw [e2, BitVec.sshiftRight_eq', BitVec.toNat_sshiftRight_of_msb_false (by rw [BitVec.msb_eq_false_iff_two_mul_lt]; omega)]
    show c.toBitVec.toNat >>> 8 % 256 = _
    rw [Nat.shiftRight_eq_div_pow]
    omega
  unfold pairCh
  apply Int32.toBitVec_inj.mp
  apply BitVec.eq_of_toNat_eq
  have f0 : ((0 : Int32) &&& 31) = 0 := by decide
  have f8 : ((8 : Int32) &&& 31) = 8 := by decide
  rw [f0, f8]
  have g : (((lo8 c &&& 255) <<< (0 : Int32)) ||| ((hi8 c &&& 255) <<< (8 : Int32))).toBitVec.toNat = c.toBitVec.toNat := by
    rw [Int32.toBitVec_or, Int32.toBitVec_shiftLeft, Int32.toBitVec_shiftLeft]
    have s0 : ((0 : Int32).toBitVec.smod 32) = 0#32 := by decide
    have s8 : ((8 : Int32).toBitVec.smod 32) = 8#32 := by decide
    rw [s0, s8, BitVec.toNat_or]
    simp only [BitVec.shiftLeft_eq', BitVec.toNat_shiftLeft, a1, a2]
    show (c.toBitVec.toNat % 256) <<< 0 % 2 ^ 32 ||| (c.toBitVec.toNat / 256) <<< 8 % 2 ^ 32 = _
    rw [Nat.shiftLeft_zero, Nat.mod_eq_of_lt (show c.toBitVec.toNat % 256 < 2 ^ 32 by omega), Nat.mod_eq_of_lt (show (c.toBitVec.toNat / 256) <<< 8 < 2 ^ 32 by rw [Nat.shiftLeft_eq]; omega), Nat.or_comm, ← Nat.shiftLeft_add_eq_or_of_lt (by omega), Nat.shiftLeft_eq]
    omega
  show BitVec.toNat (((((lo8 c &&& 255) <<< (0 : Int32)) ||| ((hi8 c &&& 255) <<< (8 : Int32))).toBitVec.setWidth 16).setWidth 32) = _
  rw [BitVec.toNat_setWidth, BitVec.toNat_setWidth, g]
  omega
end StrChars
namespace StrChars
open Jvm Sem ClassFile Op Lib Jvm.Stand Jvm.Free.XT Jvm.Free.ALB Jvm.Free.JM Jvm.Free
open Jvm.Lib.Cold (StaticIs)
theorem shr1 {n : Nat} (h : 2 * n < 2 ^ 31) : Int32.ofNat (2 * n) >>> ((1 : Int32) &&& 31) = Int32.ofNat n := by
  have e : ((1 : Int32) &&& 31) = 1 := by decide
  rw [e]
  apply Int32.toBitVec_inj.mp
  rw [Int32.toBitVec_shiftRight]
  have e1 : ((1 : Int32).toBitVec.smod 32) = 1#32 := by decide
  have hm : (BitVec.ofNat 32 (2 * n)).toNat = 2 * n := by rw [BitVec.toNat_ofNat, Nat.mod_eq_of_lt (by omega)]
  rw [e1, BitVec.sshiftRight_eq']
  apply BitVec.eq_of_toNat_eq
  show ((BitVec.ofNat 32 (2 * n)).sshiftRight 1).toNat = (BitVec.ofNat 32 n).toNat
  rw [BitVec.toNat_sshiftRight_of_msb_false (by rw [BitVec.msb_eq_false_iff_two_mul_lt, hm]; omega), hm, BitVec.toNat_ofNat, Nat.shiftRight_eq_div_pow]
  omega
/-- charAt's cast of a byte read back -/
def chr8 (u : Int32) : Int32 := (u &&& 255).toUInt32.toUInt16.toUInt32.toInt32
theorem chr8_lo8 {c : Int32} (h0 : ¬ c < 0) (h1 : ¬ 255 < c) : chr8 (lo8 c) = c := by
  have t : ∀ k : Fin 256, (Int32.ofNat k.val).toUInt32.toUInt16.toUInt32.toInt32 = Int32.ofNat k.val := by decide +kernel
  unfold chr8
  rw [lo8_mask h0 h1]
  rw [Int32.lt_iff_toInt_lt] at h0 h1
  have e0 : (0 : Int32).toInt = 0 := rfl
  have e1 : (255 : Int32).toInt = 255 := rfl
  obtain ⟨k, hk⟩ : ∃ k : Nat, c.toInt = k := ⟨c.toInt.toNat, by omega⟩
  have hx : c = Int32.ofNat k := Int32.toInt_inj.mp (by rw [hk, Int32.toInt_ofNat_small (by omega)])
  rw [hx]
  exact t ⟨k, by omega⟩
theorem narrow_ch {c : Int32} (h0 : ¬ c < 0) (h1 : ¬ 65535 < c) : narrow .char (.int c) = .int c := by
  have q : narrow .char (.int (pairCh (lo8 c) (hi8 c))) = .int (pairCh (lo8 c) (hi8 c)) := narrow_c _
  rwa [pair_says h0 h1] at q
/-- the array's cell V codes the n chars f 0 .. f (n - 1) by the coder cd, as the JDK does: coder 1 just where some char is above 255 -/
def Cod (cd : Int32) (n : Nat) (f : Nat → Int32) (V : Cell) : Prop := (cd = 0 ∧ V.slots.size = n ∧ ∀ j, j < n → V.slots[j]? = some (.int (lo8 (f j))) ∧ ¬ 255 < f j) ∨ (cd = 1 ∧ V.slots.size = 2 * n ∧ (∀ j, j < n → V.slots[2 * j]? = some (.int (lo8 (f j))) ∧ V.slots[2 * j + 1]? = some (.int (hi8 (f j)))) ∧ ∃ j, j < n ∧ 255 < f j)
theorem Cod.cd {cd : Int32} {n : Nat} {f : Nat → Int32} {V : Cell} (h : Cod cd n f V) : cd = 0 ∨ cd = 1 := h.imp (fun q => q.1) fun q => q.1
theorem Cod.len {cd : Int32} {n : Nat} {f : Nat → Int32} {V : Cell} (h : Cod cd n f V) (hs : V.slots.size < 2 ^ 31) : Int32.ofNat V.slots.size >>> (cd &&& 31) = Int32.ofNat n := by
  rcases h with ⟨rfl, h, -⟩ | ⟨rfl, h, -⟩
  · rw [shr0, h]
  · rw [h, shr1 (by omega)]
/-- **x is a String of the n chars f 0 .. f (n - 1)**, Latin-1 or UTF-16; its array at t has the cell V -/
def Txt (x t : Addr) (V : Cell) (cd : Int32) (n : Nat) (f : Nat → Int32) (U : State) : Prop := Exact "java/lang/String" x U ∧ Has x "java/lang/String" "value" "[B" (.ref t) U ∧ Has x "java/lang/String" "coder" "B" (.int cd) U ∧ XT.Arr .byte t V U ∧ Cod cd n f V ∧ ∀ j, j < n → ¬ f j < 0 ∧ ¬ 65535 < f j
theorem Txt.mv {x t : Addr} {V : Cell} {cd : Int32} {n : Nat} {f : Nat → Int32} {U U' : State} (h : Txt x t V cd n f U) (hal : U.vm.Alike U'.vm) (hh : U'.heap = U.heap) : Txt x t V cd n f U' := ⟨h.1.mv hal hh, h.2.1.mv hal hh, h.2.2.1.mv hal hh, h.2.2.2.1.mv hal hh, h.2.2.2.2⟩
namespace Cdr
def yN : MethodName := ⟨"java/lang/String", "coder", "()B"⟩
abbrev yB : ByteArray := jdk_42_method_152_code
theorem d0 : decode yB 0 = .ok (.getstatic 38, 3) := by decide +kernel
theorem d3 : decode yB 3 = .ok (.ifCond (.eq) 10, 3) := by decide +kernel
theorem d6 : decode yB 6 = .ok (.aload_n 0, 1) := by decide +kernel
theorem d7 : decode yB 7 = .ok (.getfield 15, 3) := by decide +kernel
theorem d10 : decode yB 10 = .ok (.goto 4, 3) := by decide +kernel
theorem d14 : decode yB 14 = .ok (.ireturn, 1) := by decide +kernel
def site : List Cond := [.fieldLink "java/lang/String" 38 "java/lang/String" "COMPACT_STRINGS" "Z", .fieldLink "java/lang/String" 15 "java/lang/String" "coder" "B"]
def tab : Cond := tabOf yN yB 1 (some .byte) site
def P (x : Addr) (cd z : Int32) (args : Array Value) (s : State) : Prop := args = #[.ref x] ∧ Has x "java/lang/String" "coder" "B" (.int cd) s ∧ (cd = 0 ∨ cd = 1) ∧ StaticIs s "java/lang/String" "COMPACT_STRINGS" "Z" (.int z) ∧ ¬ z = 0
def E (cd : Int32) (r : Option Value) (s u : State) : Prop := XT.PureE (some (.int cd)) r s u
theorem law (l : Launch) (x : Addr) (cd z : Int32) : Law l yN 1 0 0 0 yB 1 (some .byte) site (P x cd z) (E cd) [] 0 0 := by
  refine Law.of_walk (plainFor_of_name (by decide +kernel)) (by decide +kernel) (by decide +kernel) (by decide) (fun _ _ h => by rw [h.1]; rfl) (fun _ U U' hal hh h => ⟨h.1, h.2.1.mv hal hh, h.2.2.1, h.2.2.2.1.there hal hh, h.2.2.2.2⟩) (fun r U U' V V' h1 hal h2 h => XT.PureE.mv r U U' V V' h1 hal h2 h) ?_
  intro p e s m args below meth c s₁ X0 hexec hbytes hml hret hlk hnm hown hh0 W hP
  obtain ⟨rfl, hx, hc, s1, hz⟩ := hP
  have c1 : Steps p.tables e below (s₁.setTop (entryFrame m #[.ref x] 1)) (s₁.setTop (mkF m 0 #[.val (.ref x)] [])) := entry rfl
  obtain ⟨T2, X2, q2, st2⟩ := X0.sget hexec hown (wk W (.fieldLink "java/lang/String" 38 "java/lang/String" "COMPACT_STRINGS" "Z")) s1 (fun _ _ h => by rw [hh0]; exact h) (g := (mkF m 0 #[.val (.ref x)] [])) rfl (hb hbytes d0)
  have hh2 := q2.trans hh0
  have c3 : Steps p.tables e below (s₁.setTop (entryFrame m #[.ref x] 1)) (T2.setTop (mkF m 7 #[.val (.ref x)] [.ref x])) := (c1.trans (st2 _ (Steps.refl _))).trans (by
    refine XS.ifNo X2.here hexec rfl (hb hbytes d3) rfl (i0_eq_f hz) ?_
    refine XS.aloadN X2.here hexec rfl (hb hbytes d6) rfl rfl ?_
    exact Steps.refl _)
  obtain ⟨T4, X4, q4, st4⟩ := X2.hget hexec hown (wk W (.fieldLink "java/lang/String" 15 "java/lang/String" "coder" "B")) (hx.mv X2.warmed.alike hh2) (g := (mkF m 7 #[.val (.ref x)] [.ref x])) rfl (rest := []) rfl (hb hbytes d7)
  have c5 : Steps p.tables e below (s₁.setTop (entryFrame m #[.ref x] 1)) (T4.setTop (mkF m 14 #[.val (.ref x)] [.int cd])) := (c3.trans (st4 _ (Steps.refl _))).trans (by
    refine XS.goto X4.here hexec rfl (pc0 := 10) rfl (hb hbytes d10) (by decide) rfl ?_
    exact Steps.refl _)
  exact ⟨T4, some (.int cd), _, _, _, X4, rfl, rfl, rfl, (fun h => by cases h), ⟨rfl, q4.trans hh2⟩, fun fs hl => c5.trans (X4.ireturnOut hexec hret (by rcases hc with rfl | rfl <;> rfl) (Or.inr (Or.inr (Or.inl rfl))) (hb hbytes d14) hl)⟩
end Cdr
namespace Len
def yN : MethodName := ⟨"java/lang/String", "length", "()I"⟩
abbrev yB : ByteArray := jdk_42_method_54_code
theorem d0 : decode yB 0 = .ok (.aload_n 0, 1) := by decide +kernel
theorem d1 : decode yB 1 = .ok (.getfield 9, 3) := by decide +kernel
theorem d4 : decode yB 4 = .ok (.arraylength, 1) := by decide +kernel
theorem d5 : decode yB 5 = .ok (.aload_n 0, 1) := by decide +kernel
theorem d6 : decode yB 6 = .ok (.invokevirtual 335, 3) := by decide +kernel
theorem d9 : decode yB 9 = .ok (.ishr, 1) := by decide +kernel
theorem d10 : decode yB 10 = .ok (.ireturn, 1) := by decide +kernel
def site : List Cond := [.fieldLink "java/lang/String" 9 "java/lang/String" "value" "[B", Cdr.tab] ++ virtW "java/lang/String" 335 "java/lang/String" Cdr.yN Cdr.yN
def tab : Cond := tabOf yN yB 1 (some .int) site
def P (x t : Addr) (V : Cell) (cd : Int32) (n : Nat) (f : Nat → Int32) (z : Int32) (args : Array Value) (s : State) : Prop := args = #[.ref x] ∧ Txt x t V cd n f s ∧ StaticIs s "java/lang/String" "COMPACT_STRINGS" "Z" (.int z) ∧ ¬ z = 0
def E (n : Nat) (r : Option Value) (s u : State) : Prop := XT.PureE (some (.int (Int32.ofNat n))) r s u
/-- length() of a String of n chars, in either coding -/
theorem law (l : Launch) (x t : Addr) (V : Cell) (cd : Int32) (n : Nat) (f : Nat → Int32) (z : Int32) : Law l yN 1 0 1 13 yB 1 (some .int) site (P x t V cd n f z) (E n) [] 0 0 := by
  refine Law.of_walk (plainFor_of_name (by decide +kernel)) (by decide +kernel) (by decide +kernel) (by decide) (fun _ _ h => by rw [h.1]; rfl) (fun _ U U' hal hh h => ⟨h.1, h.2.1.mv hal hh, h.2.2.1.there hal hh, h.2.2.2⟩) (fun r U U' V V' h1 hal h2 h => XT.PureE.mv r U U' V V' h1 hal h2 h) ?_
  intro p e s m args below meth c s₁ X0 hexec hbytes hml hret hlk hnm hown hh0 W hP
  obtain ⟨rfl, hx, s1, hz⟩ := hP
  have v31 := hx.2.2.2.1.2.2.2
  have c1 : Steps p.tables e below (s₁.setTop (entryFrame m #[.ref x] 1)) (s₁.setTop (mkF m 1 #[.val (.ref x)] [.ref x])) := Steps.trans (entry rfl) (by
    show Steps p.tables e below (s₁.setTop (mkF m 0 #[.val (.ref x)] [])) _
    refine XS.aloadN X0.here hexec rfl (hb hbytes d0) rfl rfl ?_
    exact Steps.refl _)
  obtain ⟨T2, X2, q2, st2⟩ := X0.hget hexec hown (wk W (.fieldLink "java/lang/String" 9 "java/lang/String" "value" "[B")) (hx.mv X0.warmed.alike hh0).2.1 (g := (mkF m 1 #[.val (.ref x)] [.ref x])) rfl (rest := []) rfl (hb hbytes d1)
  have hh2 := q2.trans hh0
  have hx2 := hx.mv X2.warmed.alike hh2
  have c3 : Steps p.tables e below (s₁.setTop (entryFrame m #[.ref x] 1)) (T2.setTop (mkF m 6 #[.val (.ref x)] [.ref x, .int (Int32.ofNat V.slots.size)])) := (c1.trans (st2 _ (Steps.refl _))).trans (by
    refine X2.alen hexec hx2.2.2.2.1 rfl rfl (hb hbytes d4) ?_
    refine XS.aloadN X2.here hexec rfl (hb hbytes d5) rfl rfl ?_
    exact Steps.refl _)
  obtain ⟨v4, T4, X4, E4, g4⟩ := X2.callV hexec (Cdr.law l x cd z) hown (wks W (virtW "java/lang/String" 335 "java/lang/String" Cdr.yN Cdr.yN)) rfl (by decide) (wk W Cdr.tab) (W := 1) (Nat.le_of_ble_eq_true rfl) (Nat.le_of_ble_eq_true rfl) (Nat.le_refl _) (Nat.le_refl _) (hx2.1.fc X2.warmed.alike) hx2.1.is (g := (mkF m 6 #[.val (.ref x)] [.ref x, .int (Int32.ofNat V.slots.size)])) rfl (by rw [hml]; rfl) c3 (argsL := []) (rest := [.int (Int32.ofNat V.slots.size)]) rfl rfl (by show 2 * 0 + (1 + 0) ≤ _; decide) (hb hbytes d6) (⟨rfl, hx2.2.2.1, hx.2.2.2.2.1.cd, s1.there X2.warmed.alike hh2, hz⟩)
  obtain ⟨rfl, q4⟩ := E4
  have c5 : Steps p.tables e below (s₁.setTop (entryFrame m #[.ref x] 1)) (T4.setTop (mkF m 10 #[.val (.ref x)] [.int (Int32.ofNat V.slots.size >>> (cd &&& 31))])) := Steps.trans g4 (by
    refine ishr X4.here hexec rfl (hb hbytes d9) rfl ?_
    exact Steps.refl _)
  rw [hx.2.2.2.2.1.len v31] at c5
  exact ⟨T4, some (.int (Int32.ofNat n)), _, _, _, X4, rfl, rfl, rfl, (fun h => by cases h), ⟨rfl, q4.trans hh2⟩, fun fs hl => c5.trans (X4.ireturnOut hexec hret rfl (Or.inl rfl) (hb hbytes d10) hl)⟩
theorem pays {l : Launch} {R : Room} {p : Program} {e : Env} {below : List Frame} {s : State} {sargs : Array Value} {len W : Nat} (x t : Addr) (V : Cell) (cd : Int32) (n : Nat) (f : Nat → Int32) (z : Int32) (htab : tab.before sargs s = true) (hfr : 2 ≤ R.frames) (hlo : W + 25 ≤ R.locals) :
    Back l R p e below s sargs yN len W (fun A₁ a₁ => A₁.cells + 0 ≤ R.cells ∧ A₁.slots + 0 ≤ R.slots ∧ P x t V cd n f z a₁ A₁.U) (fun A₁ _ v₁ B₁ => E n v₁ A₁.U B₁.U ∧ B₁.locs = A₁.locs ++ [] ∧ B₁.cells = A₁.cells + 0 ∧ B₁.slots = A₁.slots + 0) :=
  (law l x t V cd n f z).pays htab hfr (by omega)
end Len
namespace IsL
def yN : MethodName := ⟨"java/lang/String", "isLatin1", "()Z"⟩
abbrev yB : ByteArray := jdk_42_method_154_code
theorem d0 : decode yB 0 = .ok (.getstatic 38, 3) := by decide +kernel
theorem d3 : decode yB 3 = .ok (.ifCond (.eq) 14, 3) := by decide +kernel
theorem d6 : decode yB 6 = .ok (.aload_n 0, 1) := by decide +kernel
theorem d7 : decode yB 7 = .ok (.getfield 15, 3) := by decide +kernel
theorem d10 : decode yB 10 = .ok (.ifCond (.ne) 7, 3) := by decide +kernel
theorem d13 : decode yB 13 = .ok (.iconst 1, 1) := by decide +kernel
theorem d14 : decode yB 14 = .ok (.goto 4, 3) := by decide +kernel
theorem d17 : decode yB 17 = .ok (.iconst 0, 1) := by decide +kernel
theorem d18 : decode yB 18 = .ok (.ireturn, 1) := by decide +kernel
def site : List Cond := [.fieldLink "java/lang/String" 38 "java/lang/String" "COMPACT_STRINGS" "Z", .fieldLink "java/lang/String" 15 "java/lang/String" "coder" "B"]
def tab : Cond := tabOf yN yB 1 (some .boolean) site
def P (x : Addr) (cd z : Int32) (args : Array Value) (s : State) : Prop := args = #[.ref x] ∧ Has x "java/lang/String" "coder" "B" (.int cd) s ∧ (cd = 0 ∨ cd = 1) ∧ StaticIs s "java/lang/String" "COMPACT_STRINGS" "Z" (.int z) ∧ ¬ z = 0
def E (cd : Int32) (r : Option Value) (s u : State) : Prop := XT.PureE (some (.int (1 - cd))) r s u
theorem law (l : Launch) (x : Addr) (cd z : Int32) : Law l yN 1 0 0 0 yB 1 (some .boolean) site (P x cd z) (E cd) [] 0 0 := by
  refine Law.of_walk (plainFor_of_name (by decide +kernel)) (by decide +kernel) (by decide +kernel) (by decide) (fun _ _ h => by rw [h.1]; rfl) (fun _ U U' hal hh h => ⟨h.1, h.2.1.mv hal hh, h.2.2.1, h.2.2.2.1.there hal hh, h.2.2.2.2⟩) (fun r U U' V V' h1 hal h2 h => XT.PureE.mv r U U' V V' h1 hal h2 h) ?_
  intro p e s m args below meth c s₁ X0 hexec hbytes hml hret hlk hnm hown hh0 W hP
  obtain ⟨rfl, hx, hc, s1, hz⟩ := hP
  have c1 : Steps p.tables e below (s₁.setTop (entryFrame m #[.ref x] 1)) (s₁.setTop (mkF m 0 #[.val (.ref x)] [])) := entry rfl
  obtain ⟨T2, X2, q2, st2⟩ := X0.sget hexec hown (wk W (.fieldLink "java/lang/String" 38 "java/lang/String" "COMPACT_STRINGS" "Z")) s1 (fun _ _ h => by rw [hh0]; exact h) (g := (mkF m 0 #[.val (.ref x)] [])) rfl (hb hbytes d0)
  have hh2 := q2.trans hh0
  have c3 : Steps p.tables e below (s₁.setTop (entryFrame m #[.ref x] 1)) (T2.setTop (mkF m 7 #[.val (.ref x)] [.ref x])) := (c1.trans (st2 _ (Steps.refl _))).trans (by
    refine XS.ifNo X2.here hexec rfl (hb hbytes d3) rfl (i0_eq_f hz) ?_
    refine XS.aloadN X2.here hexec rfl (hb hbytes d6) rfl rfl ?_
    exact Steps.refl _)
  obtain ⟨T4, X4, q4, st4⟩ := X2.hget hexec hown (wk W (.fieldLink "java/lang/String" 15 "java/lang/String" "coder" "B")) (hx.mv X2.warmed.alike hh2) (g := (mkF m 7 #[.val (.ref x)] [.ref x])) rfl (rest := []) rfl (hb hbytes d7)
  have c5 : Steps p.tables e below (s₁.setTop (entryFrame m #[.ref x] 1)) (T4.setTop (mkF m 10 #[.val (.ref x)] [.int cd])) := c3.trans (st4 _ (Steps.refl _))
  have c6 : Steps p.tables e below (s₁.setTop (entryFrame m #[.ref x] 1)) (T4.setTop (mkF m 18 #[.val (.ref x)] [.int (1 - cd)])) := by
    rcases hc with rfl | rfl
    · exact c5.trans (by
        refine XS.ifNo X4.here hexec rfl (hb hbytes d10) rfl (i0_ne_f rfl) ?_
        refine iconstV X4.here hexec rfl 1 (hb hbytes d13) (by decide) ?_
        refine XS.goto X4.here hexec rfl (pc0 := 14) rfl (hb hbytes d14) (by decide) rfl ?_
        exact Steps.refl _)
    · exact c5.trans (by
        refine XS.ifYes X4.here hexec rfl (pc0 := 10) rfl (hb hbytes d10) rfl (i0_ne_t (by decide)) (by decide) rfl ?_
        refine iconstV X4.here hexec rfl 0 (hb hbytes d17) (by decide) ?_
        exact Steps.refl _)
  exact ⟨T4, some (.int (1 - cd)), _, _, _, X4, rfl, rfl, rfl, (fun h => by cases h), ⟨rfl, q4.trans hh2⟩, fun fs hl => c6.trans (X4.ireturnOut hexec hret (by rcases hc with rfl | rfl <;> rfl) (Or.inr (Or.inl rfl)) (hb hbytes d18) hl)⟩
end IsL
namespace LChA
def yN : MethodName := ⟨"java/lang/StringLatin1", "charAt", "([BI)C"⟩
abbrev yB : ByteArray := jdk_43_method_2_code
theorem d0 : decode yB 0 = .ok (.iload_n 1, 1) := by decide +kernel
theorem d1 : decode yB 1 = .ok (.aload_n 0, 1) := by decide +kernel
theorem d2 : decode yB 2 = .ok (.arraylength, 1) := by decide +kernel
theorem d3 : decode yB 3 = .ok (.invokestatic 9, 3) := by decide +kernel
theorem d6 : decode yB 6 = .ok (.aload_n 0, 1) := by decide +kernel
theorem d7 : decode yB 7 = .ok (.iload_n 1, 1) := by decide +kernel
theorem d8 : decode yB 8 = .ok (.baload, 1) := by decide +kernel
theorem d9 : decode yB 9 = .ok (.sipush 255, 3) := by decide +kernel
theorem d12 : decode yB 12 = .ok (.iand, 1) := by decide +kernel
theorem d13 : decode yB 13 = .ok (.i2c, 1) := by decide +kernel
theorem d14 : decode yB 14 = .ok (.ireturn, 1) := by decide +kernel
def site : List Cond := [JO.Str_checkIndex.tab] ++ staticW "java/lang/StringLatin1" 9 JO.Str_checkIndex.yN
def tab : Cond := tabOf yN yB 2 (some .char) site
def P (t : Addr) (V : Cell) (i : Nat) (u : Int32) (fm : Value) (args : Array Value) (s : State) : Prop := args = #[.ref t, .int (Int32.ofNat i)] ∧ XT.Arr .byte t V s ∧ V.slots[i]? = some (.int u) ∧ (StaticIs s "jdk/internal/util/Preconditions" "SIOOBE_FORMATTER" "Ljava/util/function/BiFunction;" fm ∧ fm.isRef = true)
def E (u : Int32) (r : Option Value) (s w : State) : Prop := XT.PureE (some (.int (chr8 u))) r s w
theorem law (l : Launch) (t : Addr) (V : Cell) (i : Nat) (u : Int32) (fm : Value) : Law l yN 2 2 2 27 yB 2 (some .char) site (P t V i u fm) (E u) [] 0 0 := by
  refine Law.of_walk (plainFor_of_name (by decide +kernel)) (by decide +kernel) (by decide +kernel) (by decide) (fun _ _ h => by rw [h.1]; rfl) (fun _ U U' hal hh h => ⟨h.1, h.2.1.mv hal hh, h.2.2.1, h.2.2.2.1.there hal hh, h.2.2.2.2⟩) (fun r U U' V V' h1 hal h2 h => XT.PureE.mv r U U' V V' h1 hal h2 h) ?_
  intro p e s m args below meth c s₁ X0 hexec hbytes hml hret hlk hnm hown hh0 W hP
  obtain ⟨rfl, hV, hu, s1, rf⟩ := hP
  have v31 := hV.2.2.2
  have hi : i < V.slots.size := (Array.getElem?_eq_some_iff.mp hu).1
  have c1 : Steps p.tables e below (s₁.setTop (entryFrame m #[.ref t, .int (Int32.ofNat i)] 2)) (s₁.setTop (mkF m 0 #[.val (.ref t), .val (.int (Int32.ofNat i))] [])) := entry rfl
  have c2 : Steps p.tables e below (s₁.setTop (entryFrame m #[.ref t, .int (Int32.ofNat i)] 2)) (s₁.setTop (mkF m 3 #[.val (.ref t), .val (.int (Int32.ofNat i))] [.int (Int32.ofNat V.slots.size), .int (Int32.ofNat i)])) := c1.trans (by
    refine XS.iloadN X0.here hexec rfl (hb hbytes d0) rfl ?_
    refine XS.aloadN X0.here hexec rfl (hb hbytes d1) rfl rfl ?_
    refine X0.alen hexec (hV.mv X0.warmed.alike hh0) rfl rfl (hb hbytes d2) ?_
    exact Steps.refl _)
  obtain ⟨v3, T3, X3, E3, g3⟩ := X0.callS hexec (JO.Str_checkIndex.law l (Int32.ofNat i) (Int32.ofNat V.slots.size) fm) hown (wks W (staticW "java/lang/StringLatin1" 9 JO.Str_checkIndex.yN)) (wk W JO.Str_checkIndex.tab) (W := 0) (Nat.le_of_ble_eq_true rfl) (Nat.le_of_ble_eq_true rfl) (Nat.le_refl _) (Nat.le_refl _) (g := (mkF m 3 #[.val (.ref t), .val (.int (Int32.ofNat i))] [.int (Int32.ofNat V.slots.size), .int (Int32.ofNat i)])) rfl (by rw [hml]; rfl) c2 (argsL := [.int (Int32.ofNat i), .int (Int32.ofNat V.slots.size)]) (rest := []) rfl rfl (by show 2 * 0 + 0 ≤ _; decide) (hb hbytes d3) (⟨rfl, rf, s1.there X0.warmed.alike hh0, Int32.ofNat_not_neg (by omega), lt32 v31 hi⟩)
  obtain ⟨rfl, q3⟩ := E3
  have hh3 := q3.trans hh0
  have c4 : Steps p.tables e below (s₁.setTop (entryFrame m #[.ref t, .int (Int32.ofNat i)] 2)) (T3.setTop (mkF m 14 #[.val (.ref t), .val (.int (Int32.ofNat i))] [.int (chr8 u)])) := Steps.trans g3 (by
    refine XS.aloadN X3.here hexec rfl (hb hbytes d6) rfl rfl ?_
    refine XS.iloadN X3.here hexec rfl (hb hbytes d7) rfl ?_
    refine X3.aget hexec (hV.mv X3.warmed.alike hh3) rfl hu rfl rfl (hb hbytes d8) ?_
    refine sipushV X3.here hexec rfl 255 (hb hbytes d9) (by decide) ?_
    refine XS.iand X3.here hexec rfl (hb hbytes d12) rfl ?_
    refine i2c X3.here hexec rfl (hb hbytes d13) rfl ?_
    exact Steps.refl _)
  exact ⟨T3, some (.int (chr8 u)), _, _, _, X3, rfl, rfl, rfl, (fun h => by cases h), ⟨rfl, hh3⟩, fun fs hl => c4.trans (X3.ireturnOut hexec hret (narrow_c _) (Or.inr (Or.inr (Or.inr (Or.inl rfl)))) (hb hbytes d14) hl)⟩
end LChA
end StrChars
namespace StrChars.Road
open Jvm Sem ClassFile Op Lib Jvm.Stand Jvm.Free Jvm.Free.XT
open Jvm.Lib.Cold (StaticIs)
theorem consq {a : Array Value} {s : State} {c : Jvm.Cond} {L : List Jvm.Cond} (h0 : c.before a s = true) (h : ∀ w ∈ L, w.before a s = true) : ∀ w ∈ c :: L, w.before a s = true := fun w hw => (List.mem_cons.mp hw).elim (fun e => e ▸ h0) (h w)
/-- the words of String.length(), either coding -/
abbrev wordsLen : List Jvm.Cond := [.code Len.yN Len.yB 1 (some .int), .initialized ST, .fieldLink ST 9 ST "value" "[B", .fieldLink ST 38 ST "COMPACT_STRINGS" "Z", .fieldLink ST 15 ST "coder" "B", .code Cdr.yN Cdr.yB 1 (some .byte), .methodLink ST 335 Cdr.yN, .declares Cdr.yN, .selects ST Cdr.yN Cdr.yN, .instanceMethod Cdr.yN]
theorem tabLen_of {a : Array Value} {s : State} (h : ∀ w ∈ wordsLen, w.before a s = true) : Len.tab.before a s = true := by
  have hc : Cdr.tab.before a s = true := unparts (wk h (.code Cdr.yN Cdr.yB 1 (some .byte))) (wks h (.initialized Cdr.yN.cls :: Cdr.site))
  have q := consq hc h
  exact unparts (wk q (.code Len.yN Len.yB 1 (some .int))) (wks q (.initialized Len.yN.cls :: Len.site))
theorem movedLen {Z s : State} {a0 args : Array Value} (hZ : Z.Warmed39 s.vm) (hw : ∀ d ∈ wordsLen, d.before a0 Z = true) : ∀ d ∈ wordsLen, d.before args s = true := fun d hd => by
  have q := hw d hd
  have t : ∀ d ∈ wordsLen, d = .arrayClass .byte ∨ (d.onTables && d.keepsFace) = true := by decide +kernel
  rcases t d hd with rfl | t
  · exact RoadKit.mvA hZ q
  · exact RoadKit.mv hZ q t
/-- the bytes of the chars cs, low before high -/
def wideBytes : List Int32 → List Value
  | [] => []
  | c :: cs => .int (lo8 c) :: .int (hi8 c) :: wideBytes cs
theorem wide_lo (d : Value) : ∀ (cs : List Int32) (j : Nat), j < cs.length → (wideBytes cs).getD (2 * j) d = .int (lo8 (cs.getD j 0))
  | [], j, h => absurd h (Nat.not_lt_zero j)
  | c :: cs, 0, _ => rfl
  | c :: cs, j + 1, h => by
    have q := wide_lo d cs j (by simpa using h)
    rw [show 2 * (j + 1) = 2 * j + 1 + 1 from by omega]
    simpa [wideBytes] using q
theorem wide_hi (d : Value) : ∀ (cs : List Int32) (j : Nat), j < cs.length → (wideBytes cs).getD (2 * j + 1) d = .int (hi8 (cs.getD j 0))
  | [], j, h => absurd h (Nat.not_lt_zero j)
  | c :: cs, 0, _ => rfl
  | c :: cs, j + 1, h => by
    have q := wide_hi d cs j (by simpa using h)
    rw [show 2 * (j + 1) + 1 = 2 * j + 1 + 1 + 1 from by omega]
    simpa [wideBytes] using q
theorem low_at (d : Value) (cs : List Int32) (j : Nat) (h : j < cs.length) : (cs.map fun c => Value.int (lo8 c)).getD j d = .int (lo8 (cs.getD j 0)) := by
  simp [List.getD_eq_getElem?_getD, h]
/-- an array of N2 bytes vs codes the chars cs by the coder cd -/
def CodA (cs : List Int32) (cd N2 : Int32) (vs : List Value) : Prop := (cd = 0 ∧ N2 = Int32.ofNat cs.length ∧ vs = (cs.map fun c => Value.int (lo8 c)) ∧ ∀ c ∈ cs, ¬ 255 < c) ∨ (cd = 1 ∧ N2 = Int32.ofNat (2 * cs.length) ∧ vs = wideBytes cs ∧ ∃ c ∈ cs, 255 < c)
theorem CodA.cod {cs : List Int32} {cd N2 : Int32} {vs : List Value} {V : Cell} (h : CodA cs cd N2 vs) (hn : 2 * cs.length < 2 ^ 31) (hs : V.slots.size = N2.toNatClampNeg) (hv : RoadKit.Has V vs (.int 0)) : Cod cd cs.length (fun j => cs.getD j 0) V := by
  rcases h with ⟨rfl, rfl, rfl, h⟩ | ⟨rfl, rfl, rfl, c, hc, hw⟩
  · rw [n32 (by omega)] at hs
    exact Or.inl ⟨rfl, hs, fun j hj => ⟨by rw [hv j (by omega), low_at _ _ _ hj], by
      have e : cs.getD j 0 = cs[j] := by simp [List.getD_eq_getElem?_getD, hj]
      show ¬ 255 < cs.getD j 0
      rw [e]; exact h _ (List.getElem_mem _)⟩⟩
  · rw [n32 (by omega)] at hs
    obtain ⟨j, hj, rfl⟩ := List.getElem_of_mem hc
    exact Or.inr ⟨rfl, hs, fun j hj => ⟨by rw [hv _ (by omega), wide_lo _ _ _ hj], by rw [hv _ (by omega), wide_hi _ _ _ hj]⟩, j, hj, by
      have e : cs.getD j 0 = cs[j] := by simp [List.getD_eq_getElem?_getD, hj]
      show 255 < cs.getD j 0
      rw [e]; exact hw⟩
/-- an object of exactly java/lang/String, its two fields found: as the laws ask it -/
theorem strObj {Z U : State} {a0 : Array Value} {kI : Nat} (wi : (Jvm.Cond.instantiable ST kI).before a0 Z = true) (al : Z.vm.Alike U.vm) {x : Addr} {v0 c0 : Value} (E : RoadKit.Exa Z U.heap x ST) (V : RoadKit.Fld Z U.heap x ST "value" "[B" v0) (C : RoadKit.Fld Z U.heap x ST "coder" "B" c0) :
    ∃ (D : Cell) (fV fC : Field), Blank ST x D U ∧ Found ST "value" "[B" fV U ∧ Found ST "coder" "B" fC U ∧ D.slots[fV.slot]? = some v0 ∧ D.slots[fC.slot]? = some c0 ∧ RoadKit.slotOf Z ST "value" "[B" = fV.slot ∧ RoadKit.slotOf Z ST "coder" "B" = fC.slot := by
  obtain ⟨D, cfV, kV, iV, fV, hD, gV, stV, knV, obV, asV, slV⟩ := V
  obtain ⟨D', cfC, kC, iC, fC, hD', gC, stC, -, -, asC, slC⟩ := C
  cases hD.symm.trans hD'
  obtain ⟨D2, kD, e1, e2, e3, e4, e5⟩ := E
  cases hD.symm.trans e1
  obtain ⟨c2, k2, i1, i2, i3, -⟩ := Cond.instantiable_spec wi
  cases e2.symm.trans i1
  cases e3.symm.trans i2
  obtain ⟨kU, u1, u2⟩ := al.2.2 _ _ e3
  exact ⟨D, fV, fC, ⟨hD, ⟨knV, fun q hq => by rw [hq] at obV; cases obV⟩, by rw [al.findClass]; exact e2, kU, u1, by rw [u2]; exact i3, by rw [u2]; exact e5 i3⟩, ⟨SBG.found_only al ⟨cfV, kV, iV, gV⟩, stV⟩, ⟨SBG.found_only al ⟨cfC, kC, iC, gC⟩, stC⟩, slV, slC, by simp [RoadKit.slotOf, gV], by simp [RoadKit.slotOf, gC]⟩
theorem sta_is {Z U : State} (al : Z.vm.Alike U.vm) {C n d : String} {v : Value} (S : RoadKit.Sta Z U.heap C n d v) : StaticIs U C n d v := by
  obtain ⟨cfS, iS, kS, fS, st, cS, t1, t2, t3, t4, t5, t6, t7⟩ := S
  exact StaticIs.there (s := { Z with heap := U.heap }) ⟨cfS, iS, kS, fS, st, cS, t1, t2, t3, t4, t5, (fun q => by rw [q] at t6; cases t6), t7⟩ al rfl
/-- **length() OF SUCH A STRING** -/
theorem lenW {p : Program} {l : Launch} {e : Env} {R : Room} {s : State} {args : Array Value} {below : List Frame} {len W : Nat} {Z : State} {a0 : Array Value} {h : Heap} (hZ : Z.Warmed39 s.vm) (hw : ∀ d ∈ wordsLen, d.before a0 Z = true) {kI : Nat} (wi : (Jvm.Cond.instantiable ST kI).before a0 Z = true)
    {x t : Addr} {kb : ClassId} {cs : List Int32} {cd N2 z : Int32} {vs : List Value} (E : RoadKit.Exa Z h x ST) (V : RoadKit.Fld Z h x ST "value" "[B" (.ref t)) (C : RoadKit.Fld Z h x ST "coder" "B" (.int cd)) (K : RoadKit.Arv Z h t kb .byte N2 vs (.int 0)) (hc : CodA cs cd N2 vs) (hb : ∀ c ∈ cs, ¬ c < 0 ∧ ¬ (65535 : Int32) < c)
    (S : RoadKit.Sta Z h ST "COMPACT_STRINGS" "Z" (.int z)) (hz : ¬ z = 0) (l2 : cs.length ≤ 4000) (hfr : 2 ≤ R.frames) (hlo : W + 25 ≤ R.locals) :
    Back l R p e below s args (⟨"java/lang/String", "length", "()I"⟩ : MethodName) len W (fun P a => a = #[.ref x] ∧ P.U.heap = h ∧ P.cells + 0 ≤ R.cells ∧ P.slots + 0 ≤ R.slots)
      (fun P _ v B => ∃ L, (v = some (.int (Int32.ofNat cs.length)) ∧ L = [] ∧ B.U.heap = h) ∧ B.locs = P.locs ++ L ∧ B.cells = P.cells + 0 ∧ B.slots = P.slots + 0) := by
  obtain ⟨A, K1, K2, K3, K4, K5, K6⟩ := K
  have hcod := hc.cod (by omega) K3 K5
  intro m meth c P g ig mk a X hg hsize hdg hW hn hp'
  obtain ⟨rfl, rfl, r1, r2⟩ := hp'
  have al : Z.vm.Alike P.U.vm := hZ.alike.trans X.warmed.alike
  obtain ⟨D, fV, fC, hB, F1, F2, g1, g2, -, -⟩ := strObj wi al E V C
  have hx : Txt x t A cd cs.length (fun j => cs.getD j 0) P.U := ⟨⟨_, hB.2.2.1, D, hB.1, rfl, by cases q : D.vm <;> first | rfl | exact absurd q (hB.2.1.2 _)⟩, Has.of hB F1 g1, Has.of hB F2 g2, ⟨K1.1, State.isArrayOf_alike al K1.2.1, K1.2.2, by rcases hcod with ⟨-, q, -⟩ | ⟨-, q, -⟩ <;> omega⟩, hcod, fun j hj => by
    have e : cs.getD j 0 = cs[j] := by simp [List.getD_eq_getElem?_getD, hj]
    show ¬ cs.getD j 0 < 0 ∧ ¬ 65535 < cs.getD j 0
    rw [e]; exact hb _ (List.getElem_mem _)⟩
  obtain ⟨v, B, X', ⟨⟨hv, hh⟩, hl, hk, hs⟩, st⟩ := Len.pays x t A cd cs.length (fun j => cs.getD j 0) z (tabLen_of (movedLen hZ hw)) hfr hlo m meth c P g ig mk _ X hg hsize hdg hW hn ⟨r1, r2, rfl, hx, sta_is al S, hz⟩
  exact ⟨v, B, X', ⟨[], ⟨hv, rfl, hh⟩, hl, hk, hs⟩, st⟩
end StrChars.Road
namespace StrChars.Road
open Jvm Sem ClassFile Op Lib Jvm.Stand Jvm.Free Jvm.Free.XT
open Jvm.Lib.Cold (StaticIs)
/-- the road's facts of a String, as the laws ask it -/
theorem txt_of {Z U : State} {a0 : Array Value} {kI : Nat} (wi : (Jvm.Cond.instantiable ST kI).before a0 Z = true) (al : Z.vm.Alike U.vm) {x t : Addr} {kb : ClassId} {cs : List Int32} {cd N2 : Int32} {vs : List Value} (E : RoadKit.Exa Z U.heap x ST) (V : RoadKit.Fld Z U.heap x ST "value" "[B" (.ref t)) (C : RoadKit.Fld Z U.heap x ST "coder" "B" (.int cd)) (K : RoadKit.Arv Z U.heap t kb .byte N2 vs (.int 0)) (hc : CodA cs cd N2 vs) (hb : ∀ c ∈ cs, ¬ c < 0 ∧ ¬ (65535 : Int32) < c) (l2 : cs.length ≤ 4000) :
    ∃ A, Txt x t A cd cs.length (fun j => cs.getD j 0) U := by
  obtain ⟨A, K1, K2, K3, K4, K5, K6⟩ := K
  have hcod := hc.cod (by omega) K3 K5
  obtain ⟨D, fV, fC, hB, F1, F2, g1, g2, -, -⟩ := strObj wi al E V C
  exact ⟨A, ⟨_, hB.2.2.1, D, hB.1, rfl, by cases q : D.vm <;> first | rfl | exact absurd q (hB.2.1.2 _)⟩, Has.of hB F1 g1, Has.of hB F2 g2, ⟨K1.1, State.isArrayOf_alike al K1.2.1, K1.2.2, by rcases hcod with ⟨-, q, -⟩ | ⟨-, q, -⟩ <;> omega⟩, hcod, fun j hj => by
    have e : cs.getD j 0 = cs[j] := by simp [List.getD_eq_getElem?_getD, hj]
    show ¬ cs.getD j 0 < 0 ∧ ¬ 65535 < cs.getD j 0
    rw [e]; exact hb _ (List.getElem_mem _)⟩
end StrChars.Road
namespace StrChars
open Jvm Sem ClassFile Op Lib Jvm.Stand Jvm.Free.XT Jvm.Free.ALB Jvm.Free.JM Jvm.Free
open Jvm.Lib.Cold (StaticIs)
namespace ChN
def yN : MethodName := ⟨"java/lang/String", "charAt", "(I)C"⟩
abbrev yB : ByteArray := jdk_42_method_56_code
theorem d0 : decode yB 0 = .ok (.aload_n 0, 1) := by decide +kernel
theorem d1 : decode yB 1 = .ok (.invokevirtual 492, 3) := by decide +kernel
theorem d4 : decode yB 4 = .ok (.ifCond (.eq) 12, 3) := by decide +kernel
theorem d7 : decode yB 7 = .ok (.aload_n 0, 1) := by decide +kernel
theorem d8 : decode yB 8 = .ok (.getfield 9, 3) := by decide +kernel
theorem d11 : decode yB 11 = .ok (.iload_n 1, 1) := by decide +kernel
theorem d12 : decode yB 12 = .ok (.invokestatic 495, 3) := by decide +kernel
theorem d15 : decode yB 15 = .ok (.ireturn, 1) := by decide +kernel
def site : List Cond := [.fieldLink "java/lang/String" 9 "java/lang/String" "value" "[B", IsL.tab, LChA.tab] ++ virtW "java/lang/String" 492 "java/lang/String" IsL.yN IsL.yN ++ staticW "java/lang/String" 495 LChA.yN
def tab : Cond := tabOf yN yB 2 (some .char) site
def P (x t : Addr) (V : Cell) (n : Nat) (f : Nat → Int32) (z : Int32) (fm : Value) (i : Nat) (args : Array Value) (s : State) : Prop := args = #[.ref x, .int (Int32.ofNat i)] ∧ Txt x t V 0 n f s ∧ i < n ∧ StaticIs s "java/lang/String" "COMPACT_STRINGS" "Z" (.int z) ∧ ¬ z = 0 ∧ StaticIs s "jdk/internal/util/Preconditions" "SIOOBE_FORMATTER" "Ljava/util/function/BiFunction;" fm ∧ fm.isRef = true
def E (f : Nat → Int32) (i : Nat) (r : Option Value) (s u : State) : Prop := XT.PureE (some (.int (f i))) r s u
/-- charAt(i) of a Latin-1 String of n chars, i < n: f i -/
theorem law (l : Launch) (x t : Addr) (V : Cell) (n : Nat) (f : Nat → Int32) (z : Int32) (fm : Value) (i : Nat) : Law l yN 2 1 3 40 yB 2 (some .char) site (P x t V n f z fm i) (E f i) [] 0 0 := by
  refine Law.of_walk (plainFor_of_name (by decide +kernel)) (by decide +kernel) (by decide +kernel) (by decide) (fun _ _ h => by rw [h.1]; rfl) (fun _ U U' hal hh h => ⟨h.1, h.2.1.mv hal hh, h.2.2.1, h.2.2.2.1.there hal hh, h.2.2.2.2.1, h.2.2.2.2.2.1.there hal hh, h.2.2.2.2.2.2⟩) (fun r U U' V V' h1 hal h2 h => XT.PureE.mv r U U' V V' h1 hal h2 h) ?_
  intro p e s m args below meth c s₁ X0 hexec hbytes hml hret hlk hnm hown hh0 W hP
  obtain ⟨rfl, hx, hi, s1, hz, s3, rf⟩ := hP
  have v31 := hx.2.2.2.1.2.2.2
  have hr := hx.2.2.2.2.2 i hi
  have hx0 := hx.mv X0.warmed.alike hh0
  have c1 : Steps p.tables e below (s₁.setTop (entryFrame m #[.ref x, .int (Int32.ofNat i)] 2)) (s₁.setTop (mkF m 1 #[.val (.ref x), .val (.int (Int32.ofNat i))] [.ref x])) := Steps.trans (entry rfl) (by
    show Steps p.tables e below (s₁.setTop (mkF m 0 #[.val (.ref x), .val (.int (Int32.ofNat i))] [])) _
    refine XS.aloadN X0.here hexec rfl (hb hbytes d0) rfl rfl ?_
    exact Steps.refl _)
  obtain ⟨v2, T2, X2, E2, g2⟩ := X0.callV hexec (IsL.law l x 0 z) hown (wks W (virtW "java/lang/String" 492 "java/lang/String" IsL.yN IsL.yN)) rfl (by decide) (wk W IsL.tab) (W := 0) (Nat.le_of_ble_eq_true rfl) (Nat.le_of_ble_eq_true rfl) (Nat.le_refl _) (Nat.le_refl _) (hx0.1.fc X0.warmed.alike) hx0.1.is (g := (mkF m 1 #[.val (.ref x), .val (.int (Int32.ofNat i))] [.ref x])) rfl (by rw [hml]; rfl) c1 (argsL := []) (rest := []) rfl rfl (by show 2 * 0 + 0 ≤ _; decide) (hb hbytes d1) (⟨rfl, hx0.2.2.1, hx.2.2.2.2.1.cd, s1.there X0.warmed.alike hh0, hz⟩)
  obtain ⟨rfl, q2⟩ := E2
  have hh2 := q2.trans hh0
  have hx2 := hx.mv X2.warmed.alike hh2
  obtain ⟨-, k1, k2⟩ | ⟨k0, -⟩ := hx.2.2.2.2.1
  · have c3 : Steps p.tables e below (s₁.setTop (entryFrame m #[.ref x, .int (Int32.ofNat i)] 2)) (T2.setTop (mkF m 8 #[.val (.ref x), .val (.int (Int32.ofNat i))] [.ref x])) := Steps.trans g2 (by
      refine XS.ifNo X2.here hexec rfl (hb hbytes d4) rfl (i0_eq_f (by decide)) ?_
      refine XS.aloadN X2.here hexec rfl (hb hbytes d7) rfl rfl ?_
      exact Steps.refl _)
    obtain ⟨T4, X4, q4, st4⟩ := X2.hget hexec hown (wk W (.fieldLink "java/lang/String" 9 "java/lang/String" "value" "[B")) hx2.2.1 (g := (mkF m 8 #[.val (.ref x), .val (.int (Int32.ofNat i))] [.ref x])) rfl (rest := []) rfl (hb hbytes d8)
    have hh4 := q4.trans hh2
    have c5 : Steps p.tables e below (s₁.setTop (entryFrame m #[.ref x, .int (Int32.ofNat i)] 2)) (T4.setTop (mkF m 12 #[.val (.ref x), .val (.int (Int32.ofNat i))] [.int (Int32.ofNat i), .ref t])) := (c3.trans (st4 _ (Steps.refl _))).trans (by
      refine XS.iloadN X4.here hexec rfl (hb hbytes d11) rfl ?_
      exact Steps.refl _)
    obtain ⟨v6, T6, X6, E6, g6⟩ := X4.callS hexec (LChA.law l t V i (lo8 (f i)) fm) hown (wks W (staticW "java/lang/String" 495 LChA.yN)) (wk W LChA.tab) (W := 0) (Nat.le_of_ble_eq_true rfl) (Nat.le_of_ble_eq_true rfl) (Nat.le_refl _) (Nat.le_refl _) (g := (mkF m 12 #[.val (.ref x), .val (.int (Int32.ofNat i))] [.int (Int32.ofNat i), .ref t])) rfl (by rw [hml]; rfl) c5 (argsL := [.ref t, .int (Int32.ofNat i)]) (rest := []) rfl rfl (by show 2 * 0 + 0 ≤ _; decide) (hb hbytes d12) (⟨rfl, hx.2.2.2.1.mv X4.warmed.alike hh4, (k2 i hi).1, s3.there X4.warmed.alike hh4, rf⟩)
    obtain ⟨rfl, q6⟩ := E6
    rw [chr8_lo8 hr.1 (k2 i hi).2] at g6
    exact ⟨T6, some (.int (f i)), _, _, _, X6, rfl, rfl, rfl, (fun h => by cases h), ⟨rfl, q6.trans hh4⟩, fun fs hl => Steps.trans g6 (X6.ireturnOut hexec hret (narrow_ch hr.1 hr.2) (Or.inr (Or.inr (Or.inr (Or.inl rfl)))) (hb hbytes d15) hl)⟩
  · exact absurd k0 (by decide)
theorem pays {l : Launch} {R : Room} {p : Program} {e : Env} {below : List Frame} {s : State} {sargs : Array Value} {len W : Nat} (x t : Addr) (V : Cell) (n : Nat) (f : Nat → Int32) (z : Int32) (fm : Value) (i : Nat) (htab : tab.before sargs s = true) (hfr : 4 ≤ R.frames) (hlo : W + 53 ≤ R.locals) :
    Back l R p e below s sargs yN len W (fun A₁ a₁ => A₁.cells + 0 ≤ R.cells ∧ A₁.slots + 0 ≤ R.slots ∧ P x t V n f z fm i a₁ A₁.U) (fun A₁ _ v₁ B₁ => E f i v₁ A₁.U B₁.U ∧ B₁.locs = A₁.locs ++ [] ∧ B₁.cells = A₁.cells + 0 ∧ B₁.slots = A₁.slots + 0) :=
  (law l x t V n f z fm i).pays htab hfr (by omega)
end ChN
end StrChars
namespace StrChars.Road
open Jvm Sem ClassFile Op Lib Jvm.Stand Jvm.Free Jvm.Free.XT
open Jvm.Lib.Cold (StaticIs)
/-- the words of String.charAt(int), the Latin-1 road alone -/
abbrev wordsChN : List Jvm.Cond := [.code ChN.yN ChN.yB 2 (some .char), .initialized ST, .fieldLink ST 9 ST "value" "[B", .fieldLink ST 38 ST "COMPACT_STRINGS" "Z", .fieldLink ST 15 ST "coder" "B", .code IsL.yN IsL.yB 1 (some .boolean), .methodLink ST 492 IsL.yN, .declares IsL.yN, .selects ST IsL.yN IsL.yN, .instanceMethod IsL.yN,
  .methodLink ST 495 LChA.yN, .static LChA.yN, .code LChA.yN LChA.yB 2 (some .char), .initialized "java/lang/StringLatin1", .methodLink "java/lang/StringLatin1" 9 JO.Str_checkIndex.yN, .static JO.Str_checkIndex.yN, .code JO.Str_checkIndex.yN JO.Str_checkIndex.yB 2 none,
  .fieldLink ST 1053 "jdk/internal/util/Preconditions" "SIOOBE_FORMATTER" "Ljava/util/function/BiFunction;", .methodLink ST 1059 JC.PreCheck.yN, .static JC.PreCheck.yN, .code JC.PreCheck.yN JC.PreCheck.yB 3 (some .int), .initialized "jdk/internal/util/Preconditions"]
theorem tabChN_of {a : Array Value} {s : State} (h : ∀ w ∈ wordsChN, w.before a s = true) : ChN.tab.before a s = true := by
  have hp : JC.PreCheck.tab.before a s = true := unparts (wk h (.code JC.PreCheck.yN JC.PreCheck.yB 3 (some .int))) (wks h (.initialized JC.PreCheck.yN.cls :: JC.PreCheck.site))
  have qk := consq hp h
  have hk : JO.Str_checkIndex.tab.before a s = true := unparts (wk qk (.code JO.Str_checkIndex.yN JO.Str_checkIndex.yB 2 none)) (wks qk (.initialized JO.Str_checkIndex.yN.cls :: JO.Str_checkIndex.site))
  have ql := consq hk h
  have hl : LChA.tab.before a s = true := unparts (wk ql (.code LChA.yN LChA.yB 2 (some .char))) (wks ql (.initialized LChA.yN.cls :: LChA.site))
  have hi : IsL.tab.before a s = true := unparts (wk h (.code IsL.yN IsL.yB 1 (some .boolean))) (wks h (.initialized IsL.yN.cls :: IsL.site))
  have q := consq hi (consq hl h)
  exact unparts (wk q (.code ChN.yN ChN.yB 2 (some .char))) (wks q (.initialized ChN.yN.cls :: ChN.site))
theorem movedChN {Z s : State} {a0 args : Array Value} (hZ : Z.Warmed39 s.vm) (hw : ∀ d ∈ wordsChN, d.before a0 Z = true) : ∀ d ∈ wordsChN, d.before args s = true := fun d hd => by
  have t : ∀ d ∈ wordsChN, (d.onTables && d.keepsFace) = true := by decide +kernel
  exact RoadKit.mv hZ (hw d hd) (t d hd)
/-- **charAt(i) OF A LATIN-1 STRING**, i < n: the char -/
theorem chN {p : Program} {l : Launch} {e : Env} {R : Room} {s : State} {args : Array Value} {below : List Frame} {len W : Nat} {Z : State} {a0 : Array Value} {h : Heap} (hZ : Z.Warmed39 s.vm) (hw : ∀ d ∈ wordsChN, d.before a0 Z = true) {kI : Nat} (wi : (Jvm.Cond.instantiable ST kI).before a0 Z = true)
    {x t : Addr} {kb : ClassId} {cs : List Int32} {N2 z : Int32} {vs : List Value} {fm : Value} {i : Nat} {j : Int32} (E : RoadKit.Exa Z h x ST) (V : RoadKit.Fld Z h x ST "value" "[B" (.ref t)) (C : RoadKit.Fld Z h x ST "coder" "B" (.int 0)) (K : RoadKit.Arv Z h t kb .byte N2 vs (.int 0)) (hc : CodA cs 0 N2 vs) (hb : ∀ c ∈ cs, ¬ c < 0 ∧ ¬ (65535 : Int32) < c)
    (S : RoadKit.Sta Z h ST "COMPACT_STRINGS" "Z" (.int z)) (hz : ¬ z = 0) (F : RoadKit.Sta Z h "jdk/internal/util/Preconditions" "SIOOBE_FORMATTER" "Ljava/util/function/BiFunction;" fm) (rf : fm.isRef = true) (l2 : cs.length ≤ 4000) (hi : i < cs.length) (hj : j = Int32.ofNat i) (hfr : 4 ≤ R.frames) (hlo : W + 53 ≤ R.locals) :
    Back l R p e below s args (⟨"java/lang/String", "charAt", "(I)C"⟩ : MethodName) len W (fun P a => a = #[.ref x, .int j] ∧ P.U.heap = h ∧ P.cells + 0 ≤ R.cells ∧ P.slots + 0 ≤ R.slots)
      (fun P _ v B => ∃ L, (v = some (.int (cs.getD i 0)) ∧ L = [] ∧ B.U.heap = h) ∧ B.locs = P.locs ++ L ∧ B.cells = P.cells + 0 ∧ B.slots = P.slots + 0) := by
  subst hj
  intro m meth c P g ig mk a X hg hsize hdg hW hn hp'
  obtain ⟨rfl, rfl, r1, r2⟩ := hp'
  have al : Z.vm.Alike P.U.vm := hZ.alike.trans X.warmed.alike
  obtain ⟨A, hx⟩ := txt_of wi al E V C K hc hb l2
  obtain ⟨v, B, X', ⟨⟨hv, hh⟩, hl, hk, hs⟩, st⟩ := ChN.pays x t A cs.length (fun j => cs.getD j 0) z fm i (tabChN_of (movedChN hZ hw)) hfr hlo m meth c P g ig mk _ X hg hsize hdg hW hn ⟨r1, r2, rfl, hx, hi, sta_is al S, hz, sta_is al F, rf⟩
  exact ⟨v, B, X', ⟨[], ⟨hv, rfl, hh⟩, hl, hk, hs⟩, st⟩
end StrChars.Road
end Jvm.Pilot.@@N@@
namespace Jvm.Pilot.@@N@@
open Jvm Jvm.ClassFile Sem Op Lib Jvm.Free Jvm.Stand Jvm.LawKit Jvm.RoadKit Bundle Jvm.Pilot.@@N@@.Jvm.D Jvm.OwnF
theorem Safe.fresh {Z : State} {EL : List (String × Nat)} {vm : Vm} {h : Heap} {x : Addr} (hal : Z.vm.Alike vm) (E : Exa Z h x "java/lang/String") (F : Fld Z h x "java/lang/String" "value" "[B" .null) : Safe Z EL vm h x := fun B => by
  obtain ⟨cell, k, e1, e2, e3, -, -⟩ := E
  have nm : ∀ {n : String} {c : ClassId}, vm.findClass n = some c → c = cell.cls → n = "java/lang/String" := fun {n c} f e => by
    subst e
    rw [hal.findClass] at f
    obtain ⟨k1, q1, q2⟩ := Vm.findClass_spec f
    obtain ⟨k2, q3, q4⟩ := Vm.findClass_spec e2
    cases q1.symm.trans q3
    exact q2.symm.trans q4
  obtain ⟨p, -, u, a, -, q, -, S, rfl | rfl⟩ := B
  · obtain ⟨cF, cc, kc, ic, fF, f1, f2, f3, f4, f5, f6, f7⟩ := F
    obtain ⟨cS, ⟨⟨s1, s2, s3, ⟨cv, kv, iv, s4, s4'⟩, -, s6, s7, s8, -⟩, -⟩, -⟩ := S
    cases (show h[q.sa]? = some q.sC from s1).symm.trans f1
    obtain ⟨kv', z4⟩ := ff_back (U := Wst Z vm h) hal s4
    cases f2.symm.trans z4
    have := f7.symm.trans s8
    cases this
  · cases (show h[q.sd]? = some q.SA from S.hd).symm.trans e1
    obtain ⟨cS, -, -, f, -⟩ := S
    exact absurd (nm f rfl) (by decide)
theorem own_char (x : Int32) : ¬ nar .char ((x &&& (255 : Int32)).toUInt32.toUInt16.toUInt32.toInt32) < 0 ∧ ¬ (255 : Int32) < nar .char ((x &&& (255 : Int32)).toUInt32.toUInt16.toUInt32.toInt32) := by
  have t : ∀ k : Fin 256, ¬ nar .char ((Int32.ofNat k.val).toUInt32.toUInt16.toUInt32.toInt32) < 0 ∧ ¬ (255 : Int32) < nar .char ((Int32.ofNat k.val).toUInt32.toUInt16.toUInt32.toInt32) := by decide +kernel
  have h : (x &&& 255).toBitVec.toNat < 256 := by
    simp only [Int32.toBitVec_and, BitVec.toNat_and]
    exact Nat.lt_succ_of_le Nat.and_le_right
  have e : (x &&& 255) = Int32.ofNat (x &&& 255).toBitVec.toNat := by
    apply Int32.toBitVec_inj.mp
    show _ = BitVec.ofNat 32 _
    rw [BitVec.ofNat_toNat]; simp
  rw [e]
  exact t ⟨_, h⟩
theorem own_m3 (x : Int32) : (x &&& (3 : Int32)).toBitVec.toNat < 4 := by
  simp only [Int32.toBitVec_and, BitVec.toNat_and]
  exact Nat.lt_succ_of_le Nat.and_le_right
theorem own_sel4 (x : Int32) (h : x.toBitVec.toNat < 4) : x = 3 ∨ x = 0 ∨ x = 1 ∨ x = 2 := by
  have e : x = Int32.ofNat x.toBitVec.toNat := by
    apply Int32.toBitVec_inj.mp
    show _ = BitVec.ofNat 32 _
    rw [BitVec.ofNat_toNat]; simp
  have q : x.toBitVec.toNat = 3 ∨ x.toBitVec.toNat = 0 ∨ x.toBitVec.toNat = 1 ∨ x.toBitVec.toNat = 2 := by omega
  rcases q with q | q | q | q <;> rw [q] at e
  · exact Or.inl e
  · exact Or.inr (Or.inl e)
  · exact Or.inr (Or.inr (Or.inl e))
  · exact Or.inr (Or.inr (Or.inr e))
theorem own_up16 {cs : List Int32} (h : LatN 4 cs) : LatN 16 cs := ⟨Nat.le_trans h.1 (by decide), h.2⟩
theorem own_lat45 : LatN 16 [45] := ⟨by decide, by decide⟩
theorem own_latj {c d : List Int32} (h : LatN 4 c) (g : LatN 4 d) : LatN 16 (c ++ 45 :: d) := ⟨by have := h.1; have := g.1; simp; omega, fun x hx => by
  rcases List.mem_append.mp hx with q | q
  · exact h.2 x q
  · rcases List.mem_cons.mp q with rfl | q
    · exact ⟨by decide, by decide⟩
    · exact g.2 x q⟩
theorem own_len (c d : List Int32) : (Int32.ofNat (c ++ 45 :: d).length) = ((Int32.ofNat c.length + (1 : Int32)) + Int32.ofNat d.length) := by
  have e : (c ++ 45 :: d).length = c.length + 1 + d.length := by simp; omega
  rw [e, ← i_add, ← i_add]; rfl
theorem i_cmp : ∀ i j : Nat, i < 17 → j < 17 → (Int32.ofNat i < Int32.ofNat j ↔ i < j) ∧ (Int32.ofNat i = Int32.ofNat j ↔ i = j) := by
  have t : ∀ i : Nat, i < 17 → ∀ j : Nat, j < 17 → (Int32.ofNat i < Int32.ofNat j ↔ i < j) ∧ (Int32.ofNat i = Int32.ofNat j ↔ i = j) := by decide +kernel
  exact fun i j hi hj => t i hi j hj
theorem i_sub (i j : Nat) (hi : i < 17) (hj : j < 17) (h : j < i) : ((Int32.ofNat i - Int32.ofNat j) - (1 : Int32)) = Int32.ofNat (i - j - 1) := by
  have t : ∀ i : Nat, i < 17 → ∀ j : Nat, j < 17 → j < i → ((Int32.ofNat i - Int32.ofNat j) - (1 : Int32)) = Int32.ofNat (i - j - 1) := by decide +kernel
  exact t i hi j hj h
theorem at_l {c d : List Int32} {i : Nat} (h : i < c.length) : (c ++ 45 :: d).getD i 0 = c.getD i 0 := by
  simp only [List.getD_eq_getElem?_getD]; rw [List.getElem?_append_left h]
theorem at_m {c d : List Int32} {i : Nat} (h : i = c.length) : (c ++ 45 :: d).getD i 0 = (45 : Int32) := by
  subst h; simp
theorem at_r {c d : List Int32} {i : Nat} (h : c.length < i) : (c ++ 45 :: d).getD i 0 = d.getD (i - c.length - 1) 0 := by
  simp only [List.getD_eq_getElem?_getD]
  rw [List.getElem?_append_right (by omega)]
  obtain ⟨n, hn⟩ : ∃ n, i - c.length = n + 1 := ⟨i - c.length - 1, by omega⟩
  rw [hn, List.getElem?_cons_succ, Nat.add_sub_cancel]
theorem own_latn : LatN 4 nulls := ⟨by decide, by decide⟩
theorem own_lat0 : LatN 4 [] := ⟨by decide, fun _ h => nomatch h⟩
theorem own_lat1 (x : Int32) : LatN 4 [nar .char ((x &&& (255 : Int32)).toUInt32.toUInt16.toUInt32.toInt32)] := ⟨Nat.le_of_ble_eq_true rfl, fun c h => by cases List.mem_singleton.mp h; exact own_char x⟩
theorem own_lat2 (x : Int32) : LatN 4 [nar .char ((x &&& (255 : Int32)).toUInt32.toUInt16.toUInt32.toInt32), nar .char ((((x.toUInt32 >>> ((8 : Int32) &&& 31).toUInt32).toInt32) &&& (255 : Int32)).toUInt32.toUInt16.toUInt32.toInt32)] := ⟨Nat.le_of_ble_eq_true rfl, fun c h => by
  rcases List.mem_cons.mp h with rfl | h
  · exact own_char x
  · cases List.mem_singleton.mp h; exact own_char _⟩
theorem BV.ext {Z : State} {h h' : Heap} {a vb : Addr} {k : ClassId} {n : Nat} {vs : List Value} (F : BV Z h a vb k n vs) (E : Ext h h') : BV Z h' a vb k n vs := by
  obtain ⟨f1, f2, f3, f4, f5, f6, f7⟩ := F
  exact ⟨f1.ext E, f2.ext E, f3.ext E, f4.ext E, f5.ext E, f6, f7⟩
theorem us_all (cs : List Int32) : bv cs = (List.range cs.length).map fun i => (bv cs).getD (0 + i) (.int 0) := by
  refine List.ext_getElem? fun i => ?_
  by_cases q : i < cs.length
  · simp [bv, q]
  · simp [bv, q]
theorem us_take {vs : List Value} {n : Nat} (h : vs.length = 16) (hn : n ≤ 16) : vs.take n = (List.range n).map fun i => vs.getD (0 + i) (.int 0) := by
  refine List.ext_getElem? fun i => ?_
  by_cases q : i < n
  · simp [q, List.getElem?_take, show i < vs.length by omega]
  · simp [q, List.getElem?_take]
theorem cp_eq {n : Nat} {d : Value} {us : List Value} : (List.replicate n d).take 0 ++ us ++ (List.replicate n d).drop (0 + n) = us := by simp
theorem i_lt : ∀ n : Nat, n < 16 → Int32.ofNat n < (16 : Int32) - 0 ∧ ¬ Int32.ofNat n = 16 := by decide +kernel
theorem tk_len {vs : List Value} {cs : List Int32} {i : Nat} (h : vs.length = 16) (hin : i + cs.length ≤ 16) : (vs.take i ++ bv cs ++ vs.drop (i + cs.length)).length = 16 := by
  simp [bv_len, h]; omega
theorem tk_of {vs : List Value} {cs : List Int32} {i : Nat} (h : vs.length = 16) (hin : i + cs.length ≤ 16) : (vs.take i ++ bv cs ++ vs.drop (i + cs.length)).take (i + cs.length) = vs.take i ++ bv cs := by
  rw [List.take_append_of_le_length (by simp [bv_len, h]; omega)]
  exact List.take_of_length_le (by simp [bv_len, h]; omega)
theorem nul_set {vs : List Value} {n : Nat} (h : vs.length = 16) (hn : n + 4 ≤ 16) : ((((vs.set n (.int (nar .byte (110 : Int32)))).set (n + 1) (.int (nar .byte (117 : Int32)))).set (n + 2) (.int (nar .byte (108 : Int32)))).set (n + 3) (.int (nar .byte (108 : Int32)))) = vs.take n ++ bv nulls ++ vs.drop (n + nulls.length) := by
  match vs, h with
  | [x0, x1, x2, x3, x4, x5, x6, x7, x8, x9, x10, x11, x12, x13, x14, x15], _ =>
    have q : n = 0 ∨ n = 1 ∨ n = 2 ∨ n = 3 ∨ n = 4 ∨ n = 5 ∨ n = 6 ∨ n = 7 ∨ n = 8 ∨ n = 9 ∨ n = 10 ∨ n = 11 ∨ n = 12 := by omega
    rcases q with rfl | rfl | rfl | rfl | rfl | rfl | rfl | rfl | rfl | rfl | rfl | rfl | rfl <;> rfl
theorem own_cod {cs : List Int32} {n : Nat} (h : LatN n cs) : StrChars.Road.CodA cs 0 (Int32.ofNat cs.length) (bv cs) := Or.inl ⟨rfl, rfl, by simp [bv, StrChars.lo8], fun c hc => (h.2 c hc).2⟩
theorem own_up {cs : List Int32} {n : Nat} (h : LatN n cs) : ∀ c ∈ cs, ¬ c < 0 ∧ ¬ (65535 : Int32) < c := fun c hc => ⟨(h.2 c hc).1, fun q => (h.2 c hc).2 (Int32.lt_trans (by decide) q)⟩
theorem own_join {Z : State} {h : Heap} {c : Addr} {k : ClassId} {cs1 cs2 : List Int32} (L1 : LatN 4 cs1) (L2 : LatN 4 cs2) (A : Arv Z h c k .byte (Int32.ofNat (0 + cs1.length + ([45] : List Int32).length + cs2.length)) (((((((((List.replicate 16 (Value.int 0))).take (0) ++ bv cs1 ++ ((List.replicate 16 (Value.int 0))).drop (0 + cs1.length))).take (0 + cs1.length) ++ bv ([45] : List Int32) ++ ((((List.replicate 16 (Value.int 0))).take (0) ++ bv cs1 ++ ((List.replicate 16 (Value.int 0))).drop (0 + cs1.length))).drop (0 + cs1.length + ([45] : List Int32).length))).take (0 + cs1.length + ([45] : List Int32).length) ++ bv cs2 ++ ((((((List.replicate 16 (Value.int 0))).take (0) ++ bv cs1 ++ ((List.replicate 16 (Value.int 0))).drop (0 + cs1.length))).take (0 + cs1.length) ++ bv ([45] : List Int32) ++ ((((List.replicate 16 (Value.int 0))).take (0) ++ bv cs1 ++ ((List.replicate 16 (Value.int 0))).drop (0 + cs1.length))).drop (0 + cs1.length + ([45] : List Int32).length))).drop (0 + cs1.length + ([45] : List Int32).length + cs2.length))).take (0 + cs1.length + ([45] : List Int32).length + cs2.length)) (.int 0)) : Arv Z h c k .byte (Int32.ofNat (cs1 ++ 45 :: cs2).length) (bv (cs1 ++ 45 :: cs2)) (.int 0) := by
  have l1 := L1.1
  have l2 := L2.1
  have e1 : (0 + cs1.length + ([45] : List Int32).length + cs2.length) = (cs1 ++ 45 :: cs2).length := by simp; omega
  rw [tk_of (vs := _) (cs := cs2) (tk_len (cs := [45]) (tk_len (cs := cs1) List.length_replicate (by omega)) (by simp only [List.length_cons, List.length_nil]; omega)) (by simp only [List.length_cons, List.length_nil]; omega), tk_of (cs := [45]) (tk_len (cs := cs1) List.length_replicate (by omega)) (by simp only [List.length_cons, List.length_nil]; omega), tk_of (cs := cs1) List.length_replicate (by omega), e1] at A
  have e2 : (List.replicate 16 (Value.int 0)).take 0 ++ bv cs1 ++ bv [45] ++ bv cs2 = bv (cs1 ++ 45 :: cs2) := by simp [bv]
  rw [e2] at A
  exact A
theorem d1_0 : decode method_2_code 0 = .ok (.iload_n 0, 1) := by decide +kernel
theorem d1_1 : decode method_2_code 1 = .ok (.bipush 16, 2) := by decide +kernel
theorem d1_3 : decode method_2_code 3 = .ok (.iushr, 1) := by decide +kernel
theorem d1_4 : decode method_2_code 4 = .ok (.iconst 3, 1) := by decide +kernel
theorem d1_5 : decode method_2_code 5 = .ok (.iand, 1) := by decide +kernel
theorem d1_6 : decode method_2_code 6 = .ok (.istore_n 1, 1) := by decide +kernel
theorem d1_7 : decode method_2_code 7 = .ok (.iload_n 0, 1) := by decide +kernel
theorem d1_8 : decode method_2_code 8 = .ok (.sipush 255, 3) := by decide +kernel
theorem d1_11 : decode method_2_code 11 = .ok (.iand, 1) := by decide +kernel
theorem d1_12 : decode method_2_code 12 = .ok (.i2c, 1) := by decide +kernel
theorem d1_13 : decode method_2_code 13 = .ok (.istore_n 2, 1) := by decide +kernel
theorem d1_14 : decode method_2_code 14 = .ok (.iload_n 0, 1) := by decide +kernel
theorem d1_15 : decode method_2_code 15 = .ok (.bipush 8, 2) := by decide +kernel
theorem d1_17 : decode method_2_code 17 = .ok (.iushr, 1) := by decide +kernel
theorem d1_18 : decode method_2_code 18 = .ok (.sipush 255, 3) := by decide +kernel
theorem d1_21 : decode method_2_code 21 = .ok (.iand, 1) := by decide +kernel
theorem d1_22 : decode method_2_code 22 = .ok (.i2c, 1) := by decide +kernel
theorem d1_23 : decode method_2_code 23 = .ok (.istore_n 3, 1) := by decide +kernel
theorem d1_24 : decode method_2_code 24 = .ok (.iload_n 1, 1) := by decide +kernel
theorem d1_25 : decode method_2_code 25 = .ok (.iconst 3, 1) := by decide +kernel
theorem d1_26 : decode method_2_code 26 = .ok (.if_icmp .ne 5, 3) := by decide +kernel
theorem d1_29 : decode method_2_code 29 = .ok (.aconst_null, 1) := by decide +kernel
theorem d1_30 : decode method_2_code 30 = .ok (.areturn, 1) := by decide +kernel
theorem d1_31 : decode method_2_code 31 = .ok (.iload_n 1, 1) := by decide +kernel
theorem d1_32 : decode method_2_code 32 = .ok (.ifCond .ne 14, 3) := by decide +kernel
theorem d1_35 : decode method_2_code 35 = .ok (.new 7, 3) := by decide +kernel
theorem d1_38 : decode method_2_code 38 = .ok (.dup, 1) := by decide +kernel
theorem d1_39 : decode method_2_code 39 = .ok (.iconst 0, 1) := by decide +kernel
theorem d1_40 : decode method_2_code 40 = .ok (.newarray .char, 2) := by decide +kernel
theorem d1_42 : decode method_2_code 42 = .ok (.invokespecial 9, 3) := by decide +kernel
theorem d1_45 : decode method_2_code 45 = .ok (.areturn, 1) := by decide +kernel
theorem d1_46 : decode method_2_code 46 = .ok (.iload_n 1, 1) := by decide +kernel
theorem d1_47 : decode method_2_code 47 = .ok (.iconst 1, 1) := by decide +kernel
theorem d1_48 : decode method_2_code 48 = .ok (.if_icmp .ne 18, 3) := by decide +kernel
theorem d1_51 : decode method_2_code 51 = .ok (.new 7, 3) := by decide +kernel
theorem d1_54 : decode method_2_code 54 = .ok (.dup, 1) := by decide +kernel
theorem d1_55 : decode method_2_code 55 = .ok (.iconst 1, 1) := by decide +kernel
theorem d1_56 : decode method_2_code 56 = .ok (.newarray .char, 2) := by decide +kernel
theorem d1_58 : decode method_2_code 58 = .ok (.dup, 1) := by decide +kernel
theorem d1_59 : decode method_2_code 59 = .ok (.iconst 0, 1) := by decide +kernel
theorem d1_60 : decode method_2_code 60 = .ok (.iload_n 2, 1) := by decide +kernel
theorem d1_61 : decode method_2_code 61 = .ok (.castore, 1) := by decide +kernel
theorem d1_62 : decode method_2_code 62 = .ok (.invokespecial 9, 3) := by decide +kernel
theorem d1_65 : decode method_2_code 65 = .ok (.areturn, 1) := by decide +kernel
theorem d1_66 : decode method_2_code 66 = .ok (.new 7, 3) := by decide +kernel
theorem d1_69 : decode method_2_code 69 = .ok (.dup, 1) := by decide +kernel
theorem d1_70 : decode method_2_code 70 = .ok (.iconst 2, 1) := by decide +kernel
theorem d1_71 : decode method_2_code 71 = .ok (.newarray .char, 2) := by decide +kernel
theorem d1_73 : decode method_2_code 73 = .ok (.dup, 1) := by decide +kernel
theorem d1_74 : decode method_2_code 74 = .ok (.iconst 0, 1) := by decide +kernel
theorem d1_75 : decode method_2_code 75 = .ok (.iload_n 2, 1) := by decide +kernel
theorem d1_76 : decode method_2_code 76 = .ok (.castore, 1) := by decide +kernel
theorem d1_77 : decode method_2_code 77 = .ok (.dup, 1) := by decide +kernel
theorem d1_78 : decode method_2_code 78 = .ok (.iconst 1, 1) := by decide +kernel
theorem d1_79 : decode method_2_code 79 = .ok (.iload_n 3, 1) := by decide +kernel
theorem d1_80 : decode method_2_code 80 = .ok (.castore, 1) := by decide +kernel
theorem d1_81 : decode method_2_code 81 = .ok (.invokespecial 9, 3) := by decide +kernel
theorem d1_84 : decode method_2_code 84 = .ok (.areturn, 1) := by decide +kernel
theorem d2_0 : decode jdk_42_method_3_code 0 = .ok (.aload_n 0, 1) := by decide +kernel
theorem d2_1 : decode jdk_42_method_3_code 1 = .ok (.aload_n 1, 1) := by decide +kernel
theorem d2_2 : decode jdk_42_method_3_code 2 = .ok (.iconst 0, 1) := by decide +kernel
theorem d2_3 : decode jdk_42_method_3_code 3 = .ok (.aload_n 1, 1) := by decide +kernel
theorem d2_4 : decode jdk_42_method_3_code 4 = .ok (.arraylength, 1) := by decide +kernel
theorem d2_5 : decode jdk_42_method_3_code 5 = .ok (.aconst_null, 1) := by decide +kernel
theorem d2_6 : decode jdk_42_method_3_code 6 = .ok (.invokespecial 27, 3) := by decide +kernel
theorem d2_9 : decode jdk_42_method_3_code 9 = .ok (.return_, 1) := by decide +kernel
theorem d3_0 : decode jdk_42_method_149_code 0 = .ok (.aload_n 0, 1) := by decide +kernel
theorem d3_1 : decode jdk_42_method_149_code 1 = .ok (.invokespecial 1, 3) := by decide +kernel
theorem d3_4 : decode jdk_42_method_149_code 4 = .ok (.iload_n 3, 1) := by decide +kernel
theorem d3_5 : decode jdk_42_method_149_code 5 = .ok (.ifCond .ne 22, 3) := by decide +kernel
theorem d3_8 : decode jdk_42_method_149_code 8 = .ok (.aload_n 0, 1) := by decide +kernel
theorem d3_9 : decode jdk_42_method_149_code 9 = .ok (.ldc 7, 2) := by decide +kernel
theorem d3_11 : decode jdk_42_method_149_code 11 = .ok (.getfield 9, 3) := by decide +kernel
theorem d3_14 : decode jdk_42_method_149_code 14 = .ok (.putfield 9, 3) := by decide +kernel
theorem d3_17 : decode jdk_42_method_149_code 17 = .ok (.aload_n 0, 1) := by decide +kernel
theorem d3_18 : decode jdk_42_method_149_code 18 = .ok (.ldc 7, 2) := by decide +kernel
theorem d3_20 : decode jdk_42_method_149_code 20 = .ok (.getfield 15, 3) := by decide +kernel
theorem d3_23 : decode jdk_42_method_149_code 23 = .ok (.putfield 15, 3) := by decide +kernel
theorem d3_26 : decode jdk_42_method_149_code 26 = .ok (.return_, 1) := by decide +kernel
theorem d5_0 : decode prog_19_method_1_code 0 = .ok (.aload_n 0, 1) := by decide +kernel
theorem d5_1 : decode prog_19_method_1_code 1 = .ok (.invokespecial 1, 3) := by decide +kernel
theorem d5_4 : decode prog_19_method_1_code 4 = .ok (.aload_n 0, 1) := by decide +kernel
theorem d5_5 : decode prog_19_method_1_code 5 = .ok (.aload_n 1, 1) := by decide +kernel
theorem d5_6 : decode prog_19_method_1_code 6 = .ok (.putfield 7, 3) := by decide +kernel
theorem d5_9 : decode prog_19_method_1_code 9 = .ok (.aload_n 0, 1) := by decide +kernel
theorem d5_10 : decode prog_19_method_1_code 10 = .ok (.aload_n 2, 1) := by decide +kernel
theorem d5_11 : decode prog_19_method_1_code 11 = .ok (.putfield 13, 3) := by decide +kernel
theorem d5_14 : decode prog_19_method_1_code 14 = .ok (.aload_n 0, 1) := by decide +kernel
theorem d5_15 : decode prog_19_method_1_code 15 = .ok (.dload_n 3, 1) := by decide +kernel
theorem d5_16 : decode prog_19_method_1_code 16 = .ok (.putfield 16, 3) := by decide +kernel
theorem d5_19 : decode prog_19_method_1_code 19 = .ok (.return_, 1) := by decide +kernel
theorem d6_0 : decode jdk_30_method_1_code 0 = .ok (.aload_n 0, 1) := by decide +kernel
theorem d6_1 : decode jdk_30_method_1_code 1 = .ok (.invokespecial 1, 3) := by decide +kernel
theorem d6_4 : decode jdk_30_method_1_code 4 = .ok (.return_, 1) := by decide +kernel
theorem d7_0 : decode prog_19_method_2_code 0 = .ok (.new 20, 3) := by decide +kernel
theorem d7_3 : decode prog_19_method_2_code 3 = .ok (.dup, 1) := by decide +kernel
theorem d7_4 : decode prog_19_method_2_code 4 = .ok (.invokespecial 22, 3) := by decide +kernel
theorem d7_7 : decode prog_19_method_2_code 7 = .ok (.aload_n 0, 1) := by decide +kernel
theorem d7_8 : decode prog_19_method_2_code 8 = .ok (.getfield 7, 3) := by decide +kernel
theorem d7_11 : decode prog_19_method_2_code 11 = .ok (.invokevirtual 23, 3) := by decide +kernel
theorem d7_14 : decode prog_19_method_2_code 14 = .ok (.ldc 27, 2) := by decide +kernel
theorem d7_16 : decode prog_19_method_2_code 16 = .ok (.invokevirtual 23, 3) := by decide +kernel
theorem d7_19 : decode prog_19_method_2_code 19 = .ok (.aload_n 0, 1) := by decide +kernel
theorem d7_20 : decode prog_19_method_2_code 20 = .ok (.getfield 13, 3) := by decide +kernel
theorem d7_23 : decode prog_19_method_2_code 23 = .ok (.invokevirtual 23, 3) := by decide +kernel
theorem d7_26 : decode prog_19_method_2_code 26 = .ok (.invokevirtual 29, 3) := by decide +kernel
theorem d7_29 : decode prog_19_method_2_code 29 = .ok (.areturn, 1) := by decide +kernel
theorem d8_0 : decode jdk_67_method_1_code 0 = .ok (.aload_n 0, 1) := by decide +kernel
theorem d8_1 : decode jdk_67_method_1_code 1 = .ok (.bipush 16, 2) := by decide +kernel
theorem d8_3 : decode jdk_67_method_1_code 3 = .ok (.invokespecial 1, 3) := by decide +kernel
theorem d8_6 : decode jdk_67_method_1_code 6 = .ok (.return_, 1) := by decide +kernel
theorem d9_0 : decode jdk_68_method_2_code 0 = .ok (.aload_n 0, 1) := by decide +kernel
theorem d9_1 : decode jdk_68_method_2_code 1 = .ok (.invokespecial 3, 3) := by decide +kernel
theorem d9_4 : decode jdk_68_method_2_code 4 = .ok (.getstatic 18, 3) := by decide +kernel
theorem d9_7 : decode jdk_68_method_2_code 7 = .ok (.ifCond .eq 18, 3) := by decide +kernel
theorem d9_10 : decode jdk_68_method_2_code 10 = .ok (.aload_n 0, 1) := by decide +kernel
theorem d9_11 : decode jdk_68_method_2_code 11 = .ok (.iload_n 1, 1) := by decide +kernel
theorem d9_12 : decode jdk_68_method_2_code 12 = .ok (.newarray .byte, 2) := by decide +kernel
theorem d9_14 : decode jdk_68_method_2_code 14 = .ok (.putfield 15, 3) := by decide +kernel
theorem d9_17 : decode jdk_68_method_2_code 17 = .ok (.aload_n 0, 1) := by decide +kernel
theorem d9_18 : decode jdk_68_method_2_code 18 = .ok (.iconst 0, 1) := by decide +kernel
theorem d9_19 : decode jdk_68_method_2_code 19 = .ok (.putfield 22, 3) := by decide +kernel
theorem d9_22 : decode jdk_68_method_2_code 22 = .ok (.goto 16, 3) := by decide +kernel
theorem d9_38 : decode jdk_68_method_2_code 38 = .ok (.return_, 1) := by decide +kernel
theorem d10_0 : decode jdk_67_method_7_code 0 = .ok (.aload_n 0, 1) := by decide +kernel
theorem d10_1 : decode jdk_67_method_7_code 1 = .ok (.aload_n 1, 1) := by decide +kernel
theorem d10_2 : decode jdk_67_method_7_code 2 = .ok (.invokespecial 29, 3) := by decide +kernel
theorem d10_5 : decode jdk_67_method_7_code 5 = .ok (.pop, 1) := by decide +kernel
theorem d10_6 : decode jdk_67_method_7_code 6 = .ok (.aload_n 0, 1) := by decide +kernel
theorem d10_7 : decode jdk_67_method_7_code 7 = .ok (.areturn, 1) := by decide +kernel
theorem d11_0 : decode jdk_68_method_22_code 0 = .ok (.aload_n 1, 1) := by decide +kernel
theorem d11_1 : decode jdk_68_method_22_code 1 = .ok (.ifnonnull 8, 3) := by decide +kernel
theorem d11_4 : decode jdk_68_method_22_code 4 = .ok (.aload_n 0, 1) := by decide +kernel
theorem d11_5 : decode jdk_68_method_22_code 5 = .ok (.invokevirtual 204, 3) := by decide +kernel
theorem d11_8 : decode jdk_68_method_22_code 8 = .ok (.areturn, 1) := by decide +kernel
theorem d11_9 : decode jdk_68_method_22_code 9 = .ok (.aload_n 1, 1) := by decide +kernel
theorem d11_10 : decode jdk_68_method_22_code 10 = .ok (.invokevirtual 32, 3) := by decide +kernel
theorem d11_13 : decode jdk_68_method_22_code 13 = .ok (.istore_n 2, 1) := by decide +kernel
theorem d11_14 : decode jdk_68_method_22_code 14 = .ok (.aload_n 0, 1) := by decide +kernel
theorem d11_15 : decode jdk_68_method_22_code 15 = .ok (.aload_n 0, 1) := by decide +kernel
theorem d11_16 : decode jdk_68_method_22_code 16 = .ok (.getfield 79, 3) := by decide +kernel
theorem d11_19 : decode jdk_68_method_22_code 19 = .ok (.iload_n 2, 1) := by decide +kernel
theorem d11_20 : decode jdk_68_method_22_code 20 = .ok (.iadd, 1) := by decide +kernel
theorem d11_21 : decode jdk_68_method_22_code 21 = .ok (.invokevirtual 100, 3) := by decide +kernel
theorem d11_24 : decode jdk_68_method_22_code 24 = .ok (.aload_n 0, 1) := by decide +kernel
theorem d11_25 : decode jdk_68_method_22_code 25 = .ok (.aload_n 0, 1) := by decide +kernel
theorem d11_26 : decode jdk_68_method_22_code 26 = .ok (.getfield 79, 3) := by decide +kernel
theorem d11_29 : decode jdk_68_method_22_code 29 = .ok (.aload_n 1, 1) := by decide +kernel
theorem d11_30 : decode jdk_68_method_22_code 30 = .ok (.invokevirtual 208, 3) := by decide +kernel
theorem d11_33 : decode jdk_68_method_22_code 33 = .ok (.aload_n 0, 1) := by decide +kernel
theorem d11_34 : decode jdk_68_method_22_code 34 = .ok (.dup, 1) := by decide +kernel
theorem d11_35 : decode jdk_68_method_22_code 35 = .ok (.getfield 79, 3) := by decide +kernel
theorem d11_38 : decode jdk_68_method_22_code 38 = .ok (.iload_n 2, 1) := by decide +kernel
theorem d11_39 : decode jdk_68_method_22_code 39 = .ok (.iadd, 1) := by decide +kernel
theorem d11_40 : decode jdk_68_method_22_code 40 = .ok (.putfield 79, 3) := by decide +kernel
theorem d11_43 : decode jdk_68_method_22_code 43 = .ok (.aload_n 0, 1) := by decide +kernel
theorem d11_44 : decode jdk_68_method_22_code 44 = .ok (.areturn, 1) := by decide +kernel
theorem d13_0 : decode jdk_42_method_152_code 0 = .ok (.getstatic 38, 3) := by decide +kernel
theorem d13_3 : decode jdk_42_method_152_code 3 = .ok (.ifCond .eq 10, 3) := by decide +kernel
theorem d13_6 : decode jdk_42_method_152_code 6 = .ok (.aload_n 0, 1) := by decide +kernel
theorem d13_7 : decode jdk_42_method_152_code 7 = .ok (.getfield 15, 3) := by decide +kernel
theorem d13_10 : decode jdk_42_method_152_code 10 = .ok (.goto 4, 3) := by decide +kernel
theorem d13_14 : decode jdk_42_method_152_code 14 = .ok (.ireturn, 1) := by decide +kernel
theorem d14_0 : decode jdk_68_method_9_code 0 = .ok (.aload_n 0, 1) := by decide +kernel
theorem d14_1 : decode jdk_68_method_9_code 1 = .ok (.getfield 15, 3) := by decide +kernel
theorem d14_4 : decode jdk_68_method_9_code 4 = .ok (.arraylength, 1) := by decide +kernel
theorem d14_5 : decode jdk_68_method_9_code 5 = .ok (.aload_n 0, 1) := by decide +kernel
theorem d14_6 : decode jdk_68_method_9_code 6 = .ok (.getfield 22, 3) := by decide +kernel
theorem d14_9 : decode jdk_68_method_9_code 9 = .ok (.ishr, 1) := by decide +kernel
theorem d14_10 : decode jdk_68_method_9_code 10 = .ok (.istore_n 2, 1) := by decide +kernel
theorem d14_11 : decode jdk_68_method_9_code 11 = .ok (.iload_n 1, 1) := by decide +kernel
theorem d14_12 : decode jdk_68_method_9_code 12 = .ok (.iload_n 2, 1) := by decide +kernel
theorem d14_13 : decode jdk_68_method_9_code 13 = .ok (.isub, 1) := by decide +kernel
theorem d14_14 : decode jdk_68_method_9_code 14 = .ok (.ifCond .le 24, 3) := by decide +kernel
theorem d14_38 : decode jdk_68_method_9_code 38 = .ok (.return_, 1) := by decide +kernel
theorem d15_0 : decode jdk_68_method_73_code 0 = .ok (.aload_n 0, 1) := by decide +kernel
theorem d15_1 : decode jdk_68_method_73_code 1 = .ok (.aload_n 2, 1) := by decide +kernel
theorem d15_2 : decode jdk_68_method_73_code 2 = .ok (.invokevirtual 397, 3) := by decide +kernel
theorem d15_5 : decode jdk_68_method_73_code 5 = .ok (.aload_n 2, 1) := by decide +kernel
theorem d15_6 : decode jdk_68_method_73_code 6 = .ok (.aload_n 0, 1) := by decide +kernel
theorem d15_7 : decode jdk_68_method_73_code 7 = .ok (.getfield 15, 3) := by decide +kernel
theorem d15_10 : decode jdk_68_method_73_code 10 = .ok (.iload_n 1, 1) := by decide +kernel
theorem d15_11 : decode jdk_68_method_73_code 11 = .ok (.aload_n 0, 1) := by decide +kernel
theorem d15_12 : decode jdk_68_method_73_code 12 = .ok (.getfield 22, 3) := by decide +kernel
theorem d15_15 : decode jdk_68_method_73_code 15 = .ok (.invokevirtual 399, 3) := by decide +kernel
theorem d15_18 : decode jdk_68_method_73_code 18 = .ok (.return_, 1) := by decide +kernel
theorem d16_0 : decode jdk_68_method_71_code 0 = .ok (.getstatic 18, 3) := by decide +kernel
theorem d16_3 : decode jdk_68_method_71_code 3 = .ok (.ifCond .eq 18, 3) := by decide +kernel
theorem d16_6 : decode jdk_68_method_71_code 6 = .ok (.aload_n 0, 1) := by decide +kernel
theorem d16_7 : decode jdk_68_method_71_code 7 = .ok (.getfield 22, 3) := by decide +kernel
theorem d16_10 : decode jdk_68_method_71_code 10 = .ok (.aload_n 1, 1) := by decide +kernel
theorem d16_11 : decode jdk_68_method_71_code 11 = .ok (.invokevirtual 40, 3) := by decide +kernel
theorem d16_14 : decode jdk_68_method_71_code 14 = .ok (.if_icmp .eq 7, 3) := by decide +kernel
theorem d16_21 : decode jdk_68_method_71_code 21 = .ok (.return_, 1) := by decide +kernel
theorem d17_0 : decode jdk_42_method_147_code 0 = .ok (.aload_n 0, 1) := by decide +kernel
theorem d17_1 : decode jdk_42_method_147_code 1 = .ok (.invokevirtual 335, 3) := by decide +kernel
theorem d17_4 : decode jdk_42_method_147_code 4 = .ok (.iload_n 3, 1) := by decide +kernel
theorem d17_5 : decode jdk_42_method_147_code 5 = .ok (.if_icmp .ne 23, 3) := by decide +kernel
theorem d17_8 : decode jdk_42_method_147_code 8 = .ok (.aload_n 0, 1) := by decide +kernel
theorem d17_9 : decode jdk_42_method_147_code 9 = .ok (.getfield 9, 3) := by decide +kernel
theorem d17_12 : decode jdk_42_method_147_code 12 = .ok (.iconst 0, 1) := by decide +kernel
theorem d17_13 : decode jdk_42_method_147_code 13 = .ok (.aload_n 1, 1) := by decide +kernel
theorem d17_14 : decode jdk_42_method_147_code 14 = .ok (.iload_n 2, 1) := by decide +kernel
theorem d17_15 : decode jdk_42_method_147_code 15 = .ok (.iload_n 3, 1) := by decide +kernel
theorem d17_16 : decode jdk_42_method_147_code 16 = .ok (.ishl, 1) := by decide +kernel
theorem d17_17 : decode jdk_42_method_147_code 17 = .ok (.aload_n 0, 1) := by decide +kernel
theorem d17_18 : decode jdk_42_method_147_code 18 = .ok (.getfield 9, 3) := by decide +kernel
theorem d17_21 : decode jdk_42_method_147_code 21 = .ok (.arraylength, 1) := by decide +kernel
theorem d17_22 : decode jdk_42_method_147_code 22 = .ok (.invokestatic 212, 3) := by decide +kernel
theorem d17_25 : decode jdk_42_method_147_code 25 = .ok (.goto 18, 3) := by decide +kernel
theorem d17_43 : decode jdk_42_method_147_code 43 = .ok (.return_, 1) := by decide +kernel
theorem d18_0 : decode jdk_67_method_42_code 0 = .ok (.new 18, 3) := by decide +kernel
theorem d18_3 : decode jdk_67_method_42_code 3 = .ok (.dup, 1) := by decide +kernel
theorem d18_4 : decode jdk_67_method_42_code 4 = .ok (.aload_n 0, 1) := by decide +kernel
theorem d18_5 : decode jdk_67_method_42_code 5 = .ok (.invokespecial 137, 3) := by decide +kernel
theorem d18_8 : decode jdk_67_method_42_code 8 = .ok (.areturn, 1) := by decide +kernel
theorem d19_0 : decode jdk_42_method_53_code 0 = .ok (.aload_n 0, 1) := by decide +kernel
theorem d19_1 : decode jdk_42_method_53_code 1 = .ok (.aload_n 1, 1) := by decide +kernel
theorem d19_2 : decode jdk_42_method_53_code 2 = .ok (.aconst_null, 1) := by decide +kernel
theorem d19_3 : decode jdk_42_method_53_code 3 = .ok (.invokespecial 489, 3) := by decide +kernel
theorem d19_6 : decode jdk_42_method_53_code 6 = .ok (.return_, 1) := by decide +kernel
theorem d20_0 : decode jdk_42_method_150_code 0 = .ok (.aload_n 0, 1) := by decide +kernel
theorem d20_1 : decode jdk_42_method_150_code 1 = .ok (.invokespecial 1, 3) := by decide +kernel
theorem d20_4 : decode jdk_42_method_150_code 4 = .ok (.aload_n 1, 1) := by decide +kernel
theorem d20_5 : decode jdk_42_method_150_code 5 = .ok (.invokevirtual 552, 3) := by decide +kernel
theorem d20_8 : decode jdk_42_method_150_code 8 = .ok (.astore_n 3, 1) := by decide +kernel
theorem d20_9 : decode jdk_42_method_150_code 9 = .ok (.aload_n 1, 1) := by decide +kernel
theorem d20_10 : decode jdk_42_method_150_code 10 = .ok (.invokevirtual 549, 3) := by decide +kernel
theorem d20_13 : decode jdk_42_method_150_code 13 = .ok (.istore 4, 2) := by decide +kernel
theorem d20_15 : decode jdk_42_method_150_code 15 = .ok (.aload_n 1, 1) := by decide +kernel
theorem d20_16 : decode jdk_42_method_150_code 16 = .ok (.invokevirtual 1047, 3) := by decide +kernel
theorem d20_19 : decode jdk_42_method_150_code 19 = .ok (.ifCond .eq 22, 3) := by decide +kernel
theorem d20_22 : decode jdk_42_method_150_code 22 = .ok (.aload_n 0, 1) := by decide +kernel
theorem d20_23 : decode jdk_42_method_150_code 23 = .ok (.iconst 0, 1) := by decide +kernel
theorem d20_24 : decode jdk_42_method_150_code 24 = .ok (.putfield 15, 3) := by decide +kernel
theorem d20_27 : decode jdk_42_method_150_code 27 = .ok (.aload_n 0, 1) := by decide +kernel
theorem d20_28 : decode jdk_42_method_150_code 28 = .ok (.aload_n 3, 1) := by decide +kernel
theorem d20_29 : decode jdk_42_method_150_code 29 = .ok (.iconst 0, 1) := by decide +kernel
theorem d20_30 : decode jdk_42_method_150_code 30 = .ok (.iload 4, 2) := by decide +kernel
theorem d20_32 : decode jdk_42_method_150_code 32 = .ok (.invokestatic 54, 3) := by decide +kernel
theorem d20_35 : decode jdk_42_method_150_code 35 = .ok (.putfield 9, 3) := by decide +kernel
theorem d20_38 : decode jdk_42_method_150_code 38 = .ok (.goto 59, 3) := by decide +kernel
theorem d20_97 : decode jdk_42_method_150_code 97 = .ok (.return_, 1) := by decide +kernel
theorem d21_0 : decode jdk_68_method_64_code 0 = .ok (.aload_n 0, 1) := by decide +kernel
theorem d21_1 : decode jdk_68_method_64_code 1 = .ok (.getfield 15, 3) := by decide +kernel
theorem d21_4 : decode jdk_68_method_64_code 4 = .ok (.areturn, 1) := by decide +kernel
theorem d22_0 : decode jdk_67_method_93_code 0 = .ok (.aload_n 0, 1) := by decide +kernel
theorem d22_1 : decode jdk_67_method_93_code 1 = .ok (.invokespecial 343, 3) := by decide +kernel
theorem d22_4 : decode jdk_67_method_93_code 4 = .ok (.ireturn, 1) := by decide +kernel
theorem d23_0 : decode jdk_68_method_6_code 0 = .ok (.aload_n 0, 1) := by decide +kernel
theorem d23_1 : decode jdk_68_method_6_code 1 = .ok (.getfield 79, 3) := by decide +kernel
theorem d23_4 : decode jdk_68_method_6_code 4 = .ok (.ireturn, 1) := by decide +kernel
theorem d24_0 : decode jdk_68_method_68_code 0 = .ok (.getstatic 18, 3) := by decide +kernel
theorem d24_3 : decode jdk_68_method_68_code 3 = .ok (.ifCond .eq 14, 3) := by decide +kernel
theorem d24_6 : decode jdk_68_method_68_code 6 = .ok (.aload_n 0, 1) := by decide +kernel
theorem d24_7 : decode jdk_68_method_68_code 7 = .ok (.getfield 22, 3) := by decide +kernel
theorem d24_10 : decode jdk_68_method_68_code 10 = .ok (.ifCond .ne 7, 3) := by decide +kernel
theorem d24_13 : decode jdk_68_method_68_code 13 = .ok (.iconst 1, 1) := by decide +kernel
theorem d24_14 : decode jdk_68_method_68_code 14 = .ok (.goto 4, 3) := by decide +kernel
theorem d24_18 : decode jdk_68_method_68_code 18 = .ok (.ireturn, 1) := by decide +kernel
theorem d25_0 : decode jdk_65_method_132_code 0 = .ok (.iload_n 1, 1) := by decide +kernel
theorem d25_1 : decode jdk_65_method_132_code 1 = .ok (.ifCond .ne 9, 3) := by decide +kernel
theorem d25_4 : decode jdk_65_method_132_code 4 = .ok (.iload_n 2, 1) := by decide +kernel
theorem d25_5 : decode jdk_65_method_132_code 5 = .ok (.aload_n 0, 1) := by decide +kernel
theorem d25_6 : decode jdk_65_method_132_code 6 = .ok (.arraylength, 1) := by decide +kernel
theorem d25_7 : decode jdk_65_method_132_code 7 = .ok (.if_icmp .eq 10, 3) := by decide +kernel
theorem d25_10 : decode jdk_65_method_132_code 10 = .ok (.aload_n 0, 1) := by decide +kernel
theorem d25_11 : decode jdk_65_method_132_code 11 = .ok (.iload_n 1, 1) := by decide +kernel
theorem d25_12 : decode jdk_65_method_132_code 12 = .ok (.iload_n 2, 1) := by decide +kernel
theorem d25_13 : decode jdk_65_method_132_code 13 = .ok (.invokestatic 339, 3) := by decide +kernel
theorem d25_16 : decode jdk_65_method_132_code 16 = .ok (.areturn, 1) := by decide +kernel
theorem d26_0 : decode jdk_65_method_133_code 0 = .ok (.iload_n 1, 1) := by decide +kernel
theorem d26_1 : decode jdk_65_method_133_code 1 = .ok (.iload_n 2, 1) := by decide +kernel
theorem d26_2 : decode jdk_65_method_133_code 2 = .ok (.invokestatic 343, 3) := by decide +kernel
theorem d26_5 : decode jdk_65_method_133_code 5 = .ok (.iload_n 2, 1) := by decide +kernel
theorem d26_6 : decode jdk_65_method_133_code 6 = .ok (.iload_n 1, 1) := by decide +kernel
theorem d26_7 : decode jdk_65_method_133_code 7 = .ok (.isub, 1) := by decide +kernel
theorem d26_8 : decode jdk_65_method_133_code 8 = .ok (.istore_n 3, 1) := by decide +kernel
theorem d26_9 : decode jdk_65_method_133_code 9 = .ok (.iload_n 3, 1) := by decide +kernel
theorem d26_10 : decode jdk_65_method_133_code 10 = .ok (.newarray .byte, 2) := by decide +kernel
theorem d26_12 : decode jdk_65_method_133_code 12 = .ok (.astore 4, 2) := by decide +kernel
theorem d26_14 : decode jdk_65_method_133_code 14 = .ok (.aload_n 0, 1) := by decide +kernel
theorem d26_15 : decode jdk_65_method_133_code 15 = .ok (.iload_n 1, 1) := by decide +kernel
theorem d26_16 : decode jdk_65_method_133_code 16 = .ok (.aload 4, 2) := by decide +kernel
theorem d26_18 : decode jdk_65_method_133_code 18 = .ok (.iconst 0, 1) := by decide +kernel
theorem d26_19 : decode jdk_65_method_133_code 19 = .ok (.aload_n 0, 1) := by decide +kernel
theorem d26_20 : decode jdk_65_method_133_code 20 = .ok (.arraylength, 1) := by decide +kernel
theorem d26_21 : decode jdk_65_method_133_code 21 = .ok (.iload_n 1, 1) := by decide +kernel
theorem d26_22 : decode jdk_65_method_133_code 22 = .ok (.isub, 1) := by decide +kernel
theorem d26_23 : decode jdk_65_method_133_code 23 = .ok (.iload_n 3, 1) := by decide +kernel
theorem d26_24 : decode jdk_65_method_133_code 24 = .ok (.invokestatic 304, 3) := by decide +kernel
theorem d26_27 : decode jdk_65_method_133_code 27 = .ok (.invokestatic 150, 3) := by decide +kernel
theorem d26_30 : decode jdk_65_method_133_code 30 = .ok (.aload 4, 2) := by decide +kernel
theorem d26_32 : decode jdk_65_method_133_code 32 = .ok (.areturn, 1) := by decide +kernel
theorem d27_0 : decode jdk_65_method_131_code 0 = .ok (.iload_n 1, 1) := by decide +kernel
theorem d27_1 : decode jdk_65_method_131_code 1 = .ok (.iload_n 0, 1) := by decide +kernel
theorem d27_2 : decode jdk_65_method_131_code 2 = .ok (.if_icmp .ge 35, 3) := by decide +kernel
theorem d27_37 : decode jdk_65_method_131_code 37 = .ok (.return_, 1) := by decide +kernel
theorem d28_0 : decode jdk_29_method_69_code 0 = .ok (.iload_n 0, 1) := by decide +kernel
theorem d28_1 : decode jdk_29_method_69_code 1 = .ok (.iload_n 1, 1) := by decide +kernel
theorem d28_2 : decode jdk_29_method_69_code 2 = .ok (.if_icmp .gt 7, 3) := by decide +kernel
theorem d28_9 : decode jdk_29_method_69_code 9 = .ok (.iload_n 1, 1) := by decide +kernel
theorem d28_10 : decode jdk_29_method_69_code 10 = .ok (.ireturn, 1) := by decide +kernel
theorem d29_0 : decode method_3_code 0 = .ok (.aload_n 0, 1) := by decide +kernel
theorem d29_1 : decode method_3_code 1 = .ok (.ifnonnull 6, 3) := by decide +kernel
theorem d29_4 : decode method_3_code 4 = .ok (.ldc 12, 2) := by decide +kernel
theorem d29_6 : decode method_3_code 6 = .ok (.areturn, 1) := by decide +kernel
theorem d29_7 : decode method_3_code 7 = .ok (.aload_n 0, 1) := by decide +kernel
theorem d29_8 : decode method_3_code 8 = .ok (.areturn, 1) := by decide +kernel
theorem d30_0 : decode method_4_code 0 = .ok (.iload_n 3, 1) := by decide +kernel
theorem d30_1 : decode method_4_code 1 = .ok (.aload_n 0, 1) := by decide +kernel
theorem d30_2 : decode method_4_code 2 = .ok (.invokevirtual 14, 3) := by decide +kernel
theorem d30_5 : decode method_4_code 5 = .ok (.if_icmp .lt 5, 3) := by decide +kernel
theorem d30_8 : decode method_4_code 8 = .ok (.iconst 1, 1) := by decide +kernel
theorem d30_9 : decode method_4_code 9 = .ok (.ireturn, 1) := by decide +kernel
theorem d30_10 : decode method_4_code 10 = .ok (.iload_n 3, 1) := by decide +kernel
theorem d30_11 : decode method_4_code 11 = .ok (.aload_n 1, 1) := by decide +kernel
theorem d30_12 : decode method_4_code 12 = .ok (.invokevirtual 14, 3) := by decide +kernel
theorem d30_15 : decode method_4_code 15 = .ok (.if_icmp .ge 13, 3) := by decide +kernel
theorem d30_18 : decode method_4_code 18 = .ok (.aload_n 1, 1) := by decide +kernel
theorem d30_19 : decode method_4_code 19 = .ok (.iload_n 3, 1) := by decide +kernel
theorem d30_20 : decode method_4_code 20 = .ok (.invokevirtual 18, 3) := by decide +kernel
theorem d30_23 : decode method_4_code 23 = .ok (.istore 4, 2) := by decide +kernel
theorem d30_25 : decode method_4_code 25 = .ok (.goto 32, 3) := by decide +kernel
theorem d30_28 : decode method_4_code 28 = .ok (.iload_n 3, 1) := by decide +kernel
theorem d30_29 : decode method_4_code 29 = .ok (.aload_n 1, 1) := by decide +kernel
theorem d30_30 : decode method_4_code 30 = .ok (.invokevirtual 14, 3) := by decide +kernel
theorem d30_33 : decode method_4_code 33 = .ok (.if_icmp .ne 10, 3) := by decide +kernel
theorem d30_36 : decode method_4_code 36 = .ok (.bipush 45, 2) := by decide +kernel
theorem d30_38 : decode method_4_code 38 = .ok (.istore 4, 2) := by decide +kernel
theorem d30_40 : decode method_4_code 40 = .ok (.goto 17, 3) := by decide +kernel
theorem d30_43 : decode method_4_code 43 = .ok (.aload_n 2, 1) := by decide +kernel
theorem d30_44 : decode method_4_code 44 = .ok (.iload_n 3, 1) := by decide +kernel
theorem d30_45 : decode method_4_code 45 = .ok (.aload_n 1, 1) := by decide +kernel
theorem d30_46 : decode method_4_code 46 = .ok (.invokevirtual 14, 3) := by decide +kernel
theorem d30_49 : decode method_4_code 49 = .ok (.isub, 1) := by decide +kernel
theorem d30_50 : decode method_4_code 50 = .ok (.iconst 1, 1) := by decide +kernel
theorem d30_51 : decode method_4_code 51 = .ok (.isub, 1) := by decide +kernel
theorem d30_52 : decode method_4_code 52 = .ok (.invokevirtual 18, 3) := by decide +kernel
theorem d30_55 : decode method_4_code 55 = .ok (.istore 4, 2) := by decide +kernel
theorem d30_57 : decode method_4_code 57 = .ok (.aload_n 0, 1) := by decide +kernel
theorem d30_58 : decode method_4_code 58 = .ok (.iload_n 3, 1) := by decide +kernel
theorem d30_59 : decode method_4_code 59 = .ok (.invokevirtual 18, 3) := by decide +kernel
theorem d30_62 : decode method_4_code 62 = .ok (.iload 4, 2) := by decide +kernel
theorem d30_64 : decode method_4_code 64 = .ok (.if_icmp .ne 7, 3) := by decide +kernel
theorem d30_67 : decode method_4_code 67 = .ok (.iconst 1, 1) := by decide +kernel
theorem d30_68 : decode method_4_code 68 = .ok (.goto 4, 3) := by decide +kernel
theorem d30_72 : decode method_4_code 72 = .ok (.ireturn, 1) := by decide +kernel
theorem d39_0 : decode jdk_68_method_26_code 0 = .ok (.aload_n 0, 1) := by decide +kernel
theorem d39_1 : decode jdk_68_method_26_code 1 = .ok (.aload_n 0, 1) := by decide +kernel
theorem d39_2 : decode jdk_68_method_26_code 2 = .ok (.getfield 79, 3) := by decide +kernel
theorem d39_5 : decode jdk_68_method_26_code 5 = .ok (.iconst 4, 1) := by decide +kernel
theorem d39_6 : decode jdk_68_method_26_code 6 = .ok (.iadd, 1) := by decide +kernel
theorem d39_7 : decode jdk_68_method_26_code 7 = .ok (.invokevirtual 100, 3) := by decide +kernel
theorem d39_10 : decode jdk_68_method_26_code 10 = .ok (.aload_n 0, 1) := by decide +kernel
theorem d39_11 : decode jdk_68_method_26_code 11 = .ok (.getfield 79, 3) := by decide +kernel
theorem d39_14 : decode jdk_68_method_26_code 14 = .ok (.istore_n 1, 1) := by decide +kernel
theorem d39_15 : decode jdk_68_method_26_code 15 = .ok (.aload_n 0, 1) := by decide +kernel
theorem d39_16 : decode jdk_68_method_26_code 16 = .ok (.getfield 15, 3) := by decide +kernel
theorem d39_19 : decode jdk_68_method_26_code 19 = .ok (.astore_n 2, 1) := by decide +kernel
theorem d39_20 : decode jdk_68_method_26_code 20 = .ok (.aload_n 0, 1) := by decide +kernel
theorem d39_21 : decode jdk_68_method_26_code 21 = .ok (.invokevirtual 83, 3) := by decide +kernel
theorem d39_24 : decode jdk_68_method_26_code 24 = .ok (.ifCond .eq 38, 3) := by decide +kernel
theorem d39_27 : decode jdk_68_method_26_code 27 = .ok (.aload_n 2, 1) := by decide +kernel
theorem d39_28 : decode jdk_68_method_26_code 28 = .ok (.iload_n 1, 1) := by decide +kernel
theorem d39_29 : decode jdk_68_method_26_code 29 = .ok (.iinc 1 1, 3) := by decide +kernel
theorem d39_32 : decode jdk_68_method_26_code 32 = .ok (.bipush 110, 2) := by decide +kernel
theorem d39_34 : decode jdk_68_method_26_code 34 = .ok (.bastore, 1) := by decide +kernel
theorem d39_35 : decode jdk_68_method_26_code 35 = .ok (.aload_n 2, 1) := by decide +kernel
theorem d39_36 : decode jdk_68_method_26_code 36 = .ok (.iload_n 1, 1) := by decide +kernel
theorem d39_37 : decode jdk_68_method_26_code 37 = .ok (.iinc 1 1, 3) := by decide +kernel
theorem d39_40 : decode jdk_68_method_26_code 40 = .ok (.bipush 117, 2) := by decide +kernel
theorem d39_42 : decode jdk_68_method_26_code 42 = .ok (.bastore, 1) := by decide +kernel
theorem d39_43 : decode jdk_68_method_26_code 43 = .ok (.aload_n 2, 1) := by decide +kernel
theorem d39_44 : decode jdk_68_method_26_code 44 = .ok (.iload_n 1, 1) := by decide +kernel
theorem d39_45 : decode jdk_68_method_26_code 45 = .ok (.iinc 1 1, 3) := by decide +kernel
theorem d39_48 : decode jdk_68_method_26_code 48 = .ok (.bipush 108, 2) := by decide +kernel
theorem d39_50 : decode jdk_68_method_26_code 50 = .ok (.bastore, 1) := by decide +kernel
theorem d39_51 : decode jdk_68_method_26_code 51 = .ok (.aload_n 2, 1) := by decide +kernel
theorem d39_52 : decode jdk_68_method_26_code 52 = .ok (.iload_n 1, 1) := by decide +kernel
theorem d39_53 : decode jdk_68_method_26_code 53 = .ok (.iinc 1 1, 3) := by decide +kernel
theorem d39_56 : decode jdk_68_method_26_code 56 = .ok (.bipush 108, 2) := by decide +kernel
theorem d39_58 : decode jdk_68_method_26_code 58 = .ok (.bastore, 1) := by decide +kernel
theorem d39_59 : decode jdk_68_method_26_code 59 = .ok (.goto 17, 3) := by decide +kernel
theorem d39_76 : decode jdk_68_method_26_code 76 = .ok (.aload_n 0, 1) := by decide +kernel
theorem d39_77 : decode jdk_68_method_26_code 77 = .ok (.iload_n 1, 1) := by decide +kernel
theorem d39_78 : decode jdk_68_method_26_code 78 = .ok (.putfield 79, 3) := by decide +kernel
theorem d39_81 : decode jdk_68_method_26_code 81 = .ok (.aload_n 0, 1) := by decide +kernel
theorem d39_82 : decode jdk_68_method_26_code 82 = .ok (.areturn, 1) := by decide +kernel
theorem pd_0 : parseMethodDescriptor "()I" = some ⟨[], some .int⟩ := by decide +kernel
theorem pd_1 : parseMethodDescriptor "()B" = some ⟨[], some .byte⟩ := by decide +kernel
theorem pd_2 : parseMethodDescriptor "(Ljava/lang/String;)V" = some ⟨[(.object "java/lang/String")], none⟩ := by decide +kernel
theorem pd_3 : parseMethodDescriptor "([BIB)V" = some ⟨[(.array .byte), .int, .byte], none⟩ := by decide +kernel
theorem pd_4 : parseMethodDescriptor "(I)V" = some ⟨[.int], none⟩ := by decide +kernel
theorem pd_5 : parseMethodDescriptor "()Z" = some ⟨[], some .boolean⟩ := by decide +kernel
theorem pd_6 : parseMethodDescriptor "()Ljava/lang/AbstractStringBuilder;" = some ⟨[], some (.object "java/lang/AbstractStringBuilder")⟩ := by decide +kernel
theorem pd_7 : parseMethodDescriptor "(ILjava/lang/String;)V" = some ⟨[.int, (.object "java/lang/String")], none⟩ := by decide +kernel
theorem pd_8 : parseMethodDescriptor "(Ljava/lang/String;)Ljava/lang/AbstractStringBuilder;" = some ⟨[(.object "java/lang/String")], some (.object "java/lang/AbstractStringBuilder")⟩ := by decide +kernel
theorem pd_9 : parseMethodDescriptor "()V" = some ⟨[], none⟩ := by decide +kernel
theorem pd_10 : parseMethodDescriptor "(II)V" = some ⟨[.int, .int], none⟩ := by decide +kernel
theorem pd_11 : parseMethodDescriptor "(II)I" = some ⟨[.int, .int], some .int⟩ := by decide +kernel
theorem pd_12 : parseMethodDescriptor "([BII)[B" = some ⟨[(.array .byte), .int, .int], some (.array .byte)⟩ := by decide +kernel
theorem pd_13 : parseMethodDescriptor "()[B" = some ⟨[], some (.array .byte)⟩ := by decide +kernel
theorem pd_14 : parseMethodDescriptor "(Ljava/lang/AbstractStringBuilder;Ljava/lang/Void;)V" = some ⟨[(.object "java/lang/AbstractStringBuilder"), (.object "java/lang/Void")], none⟩ := by decide +kernel
theorem pd_15 : parseMethodDescriptor "(Ljava/lang/StringBuilder;)V" = some ⟨[(.object "java/lang/StringBuilder")], none⟩ := by decide +kernel
theorem pd_16 : parseMethodDescriptor "([CIILjava/lang/Void;)V" = some ⟨[(.array .char), .int, .int, (.object "java/lang/Void")], none⟩ := by decide +kernel
theorem pd_17 : parseMethodDescriptor "([C)V" = some ⟨[(.array .char)], none⟩ := by decide +kernel
theorem pd_18 : parseMethodDescriptor "(Ljava/lang/String;)Ljava/lang/StringBuilder;" = some ⟨[(.object "java/lang/String")], some (.object "java/lang/StringBuilder")⟩ := by decide +kernel
theorem pd_19 : parseMethodDescriptor "()Ljava/lang/String;" = some ⟨[], some (.object "java/lang/String")⟩ := by decide +kernel
theorem pd_20 : parseMethodDescriptor "(I)C" = some ⟨[.int], some .char⟩ := by decide +kernel
theorem pd_21 : parseMethodDescriptor "(I)Ljava/lang/String;" = some ⟨[.int], some (.object "java/lang/String")⟩ := by decide +kernel
theorem pd_22 : parseMethodDescriptor "(Ljava/lang/String;Ljava/lang/String;D)V" = some ⟨[(.object "java/lang/String"), (.object "java/lang/String"), .double], none⟩ := by decide +kernel
theorem pd_23 : parseMethodDescriptor "(Ljava/lang/String;)Ljava/lang/String;" = some ⟨[(.object "java/lang/String")], some (.object "java/lang/String")⟩ := by decide +kernel
theorem pd_24 : parseMethodDescriptor "(Ljava/lang/String;Ljava/lang/String;Ljava/lang/String;I)Z" = some ⟨[(.object "java/lang/String"), (.object "java/lang/String"), (.object "java/lang/String"), .int], some .boolean⟩ := by decide +kernel
theorem pn_13 : plainName "java/lang/String" = true := by first | (simp [plainName, overriddenIn]; done) | decide +kernel
theorem ef_13 (m : MethodId) (x0 : Addr) : entryFrame m #[(.ref x0)] 1 = mkF m 0 #[.val (.ref x0)] [] := by first | (simp [entryFrame, mkF, argsToLocals, Value.category]; done) | rfl
def QmCo (Z : State) (a1 : Addr) (cz : Int32) (h0 : Heap) (n0 : Nat) (v : Option Value) (h : Heap) (L : List Loc) : Prop := v = some (.int (0 : Int32)) ∧ Fr n0 L ∧ h = h0
set_option maxRecDepth 65536 in
set_option maxHeartbeats 40000000 in
theorem rmCo (l : Launch) (Z : State) (a0 : Array Value) (hw : ∀ d ∈ tables_1, d.before a0 Z = true) (ws : List Jvm.Cond) (a1 : Addr) (cz : Int32) (h0 : Heap) (n0 : Nat) (Z0 : n0 ≤ h0.size) (O0 : Old Z n0 h0) (Sc : Sta Z Z.heap "java/lang/String" "COMPACT_STRINGS" "Z" (.int cz)) (hcz : ¬ cz = 0) (Ea : Exa Z h0 a1 "java/lang/String") (Fc : Fld Z h0 a1 "java/lang/String" "coder" "B" (.int (0 : Int32))) :
    MetFree l (⟨"java/lang/String", "coder", "()B"⟩ : MethodName) (head1 (Jvm.Cond.code (⟨"java/lang/String", "coder", "()B"⟩ : MethodName) jdk_42_method_152_code 1 (some .byte) :: ws) ({ frames := 0, cells := 0, slots := 0, locals := 0 } : Room)) (fun a U => a = #[(.ref a1)] ∧ Z.Warmed39 U.vm ∧ U.heap = h0) (fun _ _ _ _ _ => True) (fun _ U o U' => ∃ v L, o = .returned v ∧ QmCo Z a1 cz h0 n0 v U'.heap L ∧ FrameEnd U o U' L ({ frames := 0, cells := 0, slots := 0, locals := 0 } : Room).cells ({ frames := 0, cells := 0, slots := 0, locals := 0 } : Room).slots) := by
  refine MetFree.of_bodySF (plainFor_of_name pn_13) hisR ?_
  intro p e s m args below meth c s₁ Bd hml0 hP hK
  obtain ⟨rfl, hZ, hh⟩ := hP
  have hx := Bd.exec
  have hby := Bd.bytes
  have hml : c.maxLocals = 1 := hml0
  have hown : s.vm.findClass "java/lang/String" = some m.cls := findClass_of_methodNamed Bd.named
  have hnm := (name_of_methodNamed Bd.named Bd.method).1
  have X0 : Stand p l e ({ frames := 0, cells := 0, slots := 0, locals := 0 } : Room) s m #[(.ref a1)] below meth c s₁ [] 0 0 := Stand.of_body Bd
  have e0 : s₁.heap = h0 := by rw [← hh, Bd.state]; rfl
  have N0 := Fr.nil n0
  have pre0 : ∀ t, Steps p.tables e below (s₁.setTop (mkF m 0 #[.val (.ref a1)] [])) t → Steps p.tables e below (s₁.setTop (entryFrame m #[(.ref a1)] 1)) t := fun t_ k_ => castTop (ef_13 m a1) k_
  obtain ⟨S0, hS0⟩ : ∃ z, z = s₁.setTop (mkF m 0 #[.val (.ref a1)] []) := ⟨_, rfl⟩
  have r0 : Steps p.tables e below S0 (s₁.setTop (mkF m 0 #[.val (.ref a1)] [])) := by rw [hS0]; exact Steps.refl _
  obtain ⟨T1, X1, e1, st1⟩ := getS2 X0 hx hZ hown (host := "") (Or.inl (hw _ (List.mem_of_getElem? (i := 87) rfl))) Via.refl e0 (Sc.ext O0.2) (g := (mkF m 0 #[.val (.ref a1)] [])) rfl (hb hby d13_0)
  have r2 : Steps p.tables e below S0 (T1.setTop (mkF m 3 #[.val (.ref a1)] [(.int cz)])) := r0.trans (st1 _ (Steps.refl _))
  have r3 : Steps p.tables e below S0 (T1.setTop (mkF m 7 #[.val (.ref a1)] [(.ref a1)])) := by
    refine r2.trans ?_
    show Steps p.tables e below (T1.setTop (mkF m 3 #[.val (.ref a1)] [(.int cz)])) _
    refine XS.ifNo X1.here hx rfl (hb hby d13_3) rfl ((if0 _ _).trans (feq hcz).1) ?_
    show Steps p.tables e below (T1.setTop (mkF m 6 #[.val (.ref a1)] [])) _
    refine XS.aloadN X1.here hx rfl (hb hby d13_6) rfl rfl ?_
    exact Steps.refl _
  obtain ⟨T4, X4, e4, st4⟩ := getF X1 hx hZ hown (host := "") (Or.inl (hw _ (List.mem_of_getElem? (i := 25) rfl))) Via.refl e1 Fc (g := (mkF m 7 #[.val (.ref a1)] [(.ref a1)])) rfl rfl (hb hby d13_7)
  have r5 : Steps p.tables e below S0 (T4.setTop (mkF m 10 #[.val (.ref a1)] [(.int (0 : Int32))])) := r3.trans (st4 _ (Steps.refl _))
  have r6 : Steps p.tables e below S0 (T4.setTop (mkF m 14 #[.val (.ref a1)] [(.int (0 : Int32))])) := by
    refine r5.trans ?_
    show Steps p.tables e below (T4.setTop (mkF m 10 #[.val (.ref a1)] [(.int (0 : Int32))])) _
    refine XS.goto X4.here hx rfl (pc0 := 10) (pc' := 14) rfl (hb hby d13_10) (by decide) (by decide) ?_
    exact Steps.refl _
  obtain ⟨fs, hr, hrun, hended, hW, hsame⟩ := X4.leave (v := some (.int (0 : Int32))) (fun h => by rw [Bd.returns] at h; cases h)
  refine ⟨_, _, pre0 _ ?_, hrun, hended, _, _, rfl, ?_, ⟨_, rfl⟩, hW, hsame.mono (by decide) (by decide)⟩
  · rw [← hS0]
    refine r6.trans ?_
    show Steps p.tables e below (T4.setTop (mkF m 14 #[.val (.ref a1)] [(.int (0 : Int32))])) _
    exact retY0 X4 hx Bd.returns (hb hby d13_14) hr
  · show QmCo Z a1 cz h0 n0 _ T4.heap _; rw [e4]; exact ⟨rfl, N0, rfl⟩
theorem pn_24 : plainName "java/lang/AbstractStringBuilder" = true := by first | (simp [plainName, overriddenIn]; done) | decide +kernel
theorem ef_24 (m : MethodId) (x0 : Addr) : entryFrame m #[(.ref x0)] 1 = mkF m 0 #[.val (.ref x0)] [] := by first | (simp [entryFrame, mkF, argsToLocals, Value.category]; done) | rfl
def QmIl (Z : State) (a1 : Addr) (cz : Int32) (vb : Addr) (kv : ClassId) (n : Nat) (vs : List Value) (h0 : Heap) (n0 : Nat) (v : Option Value) (h : Heap) (L : List Loc) : Prop := v = some (.int (1 : Int32)) ∧ Fr n0 L ∧ h = h0
set_option maxRecDepth 65536 in
set_option maxHeartbeats 40000000 in
theorem rmIl (l : Launch) (Z : State) (a0 : Array Value) (hw : ∀ d ∈ tables_1, d.before a0 Z = true) (ws : List Jvm.Cond) (a1 : Addr) (cz : Int32) (vb : Addr) (kv : ClassId) (n : Nat) (vs : List Value) (h0 : Heap) (n0 : Nat) (Z0 : n0 ≤ h0.size) (O0 : Old Z n0 h0) (Sc : Sta Z Z.heap "java/lang/String" "COMPACT_STRINGS" "Z" (.int cz)) (hcz : ¬ cz = 0)(hB : BV Z h0 a1 vb kv n vs) :
    MetFree l (⟨"java/lang/AbstractStringBuilder", "isLatin1", "()Z"⟩ : MethodName) (head1 (Jvm.Cond.code (⟨"java/lang/AbstractStringBuilder", "isLatin1", "()Z"⟩ : MethodName) jdk_68_method_68_code 1 (some .boolean) :: ws) ({ frames := 0, cells := 0, slots := 0, locals := 0 } : Room)) (fun a U => a = #[(.ref a1)] ∧ Z.Warmed39 U.vm ∧ U.heap = h0) (fun _ _ _ _ _ => True) (fun _ U o U' => ∃ v L, o = .returned v ∧ QmIl Z a1 cz vb kv n vs h0 n0 v U'.heap L ∧ FrameEnd U o U' L ({ frames := 0, cells := 0, slots := 0, locals := 0 } : Room).cells ({ frames := 0, cells := 0, slots := 0, locals := 0 } : Room).slots) := by
  refine MetFree.of_bodySF (plainFor_of_name pn_24) hisR ?_
  intro p e s m args below meth c s₁ Bd hml0 hP hK
  obtain ⟨rfl, hZ, hh⟩ := hP
  have hx := Bd.exec
  have hby := Bd.bytes
  have hml : c.maxLocals = 1 := hml0
  have hown : s.vm.findClass "java/lang/AbstractStringBuilder" = some m.cls := findClass_of_methodNamed Bd.named
  have hnm := (name_of_methodNamed Bd.named Bd.method).1
  have X0 : Stand p l e ({ frames := 0, cells := 0, slots := 0, locals := 0 } : Room) s m #[(.ref a1)] below meth c s₁ [] 0 0 := Stand.of_body Bd
  have e0 : s₁.heap = h0 := by rw [← hh, Bd.state]; rfl
  have N0 := Fr.nil n0
  have pre0 : ∀ t, Steps p.tables e below (s₁.setTop (mkF m 0 #[.val (.ref a1)] [])) t → Steps p.tables e below (s₁.setTop (entryFrame m #[(.ref a1)] 1)) t := fun t_ k_ => castTop (ef_24 m a1) k_
  obtain ⟨S0, hS0⟩ : ∃ z, z = s₁.setTop (mkF m 0 #[.val (.ref a1)] []) := ⟨_, rfl⟩
  have r0 : Steps p.tables e below S0 (s₁.setTop (mkF m 0 #[.val (.ref a1)] [])) := by rw [hS0]; exact Steps.refl _
  have hB_ := hB
  obtain ⟨Ea, Fv, Fc, Fn, Av, hvl, hav⟩ := hB_
  obtain ⟨T7, X7, e7, st7⟩ := getS2 X0 hx hZ hown (host := "") (Or.inl (hw _ (List.mem_of_getElem? (i := 62) rfl))) Via.refl e0 (Sc.ext O0.2) (g := (mkF m 0 #[.val (.ref a1)] [])) rfl (hb hby d24_0)
  have r8 : Steps p.tables e below S0 (T7.setTop (mkF m 3 #[.val (.ref a1)] [(.int cz)])) := r0.trans (st7 _ (Steps.refl _))
  have r9 : Steps p.tables e below S0 (T7.setTop (mkF m 7 #[.val (.ref a1)] [(.ref a1)])) := by
    refine r8.trans ?_
    show Steps p.tables e below (T7.setTop (mkF m 3 #[.val (.ref a1)] [(.int cz)])) _
    refine XS.ifNo X7.here hx rfl (hb hby d24_3) rfl ((if0 _ _).trans (feq hcz).1) ?_
    show Steps p.tables e below (T7.setTop (mkF m 6 #[.val (.ref a1)] [])) _
    refine XS.aloadN X7.here hx rfl (hb hby d24_6) rfl rfl ?_
    exact Steps.refl _
  obtain ⟨T10, X10, e10, st10⟩ := getF X7 hx hZ hown (host := "") (Or.inl (hw _ (List.mem_of_getElem? (i := 65) rfl))) Via.refl e7 Fc (g := (mkF m 7 #[.val (.ref a1)] [(.ref a1)])) rfl rfl (hb hby d24_7)
  have r11 : Steps p.tables e below S0 (T10.setTop (mkF m 10 #[.val (.ref a1)] [(.int (0 : Int32))])) := r9.trans (st10 _ (Steps.refl _))
  have r12 : Steps p.tables e below S0 (T10.setTop (mkF m 18 #[.val (.ref a1)] [(.int (1 : Int32))])) := by
    refine r11.trans ?_
    show Steps p.tables e below (T10.setTop (mkF m 10 #[.val (.ref a1)] [(.int (0 : Int32))])) _
    refine XS.ifNo X10.here hx rfl (hb hby d24_10) rfl ((if0 _ _).trans (teq rfl).2) ?_
    show Steps p.tables e below (T10.setTop (mkF m 13 #[.val (.ref a1)] [])) _
    refine XS.iconst X10.here hx rfl (hb hby d24_13) ?_
    show Steps p.tables e below (T10.setTop (mkF m 14 #[.val (.ref a1)] [(.int (1 : Int32))])) _
    refine XS.goto X10.here hx rfl (pc0 := 14) (pc' := 18) rfl (hb hby d24_14) (by decide) (by decide) ?_
    exact Steps.refl _
  obtain ⟨fs, hr, hrun, hended, hW, hsame⟩ := X10.leave (v := some (.int (1 : Int32))) (fun h => by rw [Bd.returns] at h; cases h)
  refine ⟨_, _, pre0 _ ?_, hrun, hended, _, _, rfl, ?_, ⟨_, rfl⟩, hW, hsame.mono (by decide) (by decide)⟩
  · rw [← hS0]
    refine r12.trans ?_
    show Steps p.tables e below (T10.setTop (mkF m 18 #[.val (.ref a1)] [(.int (1 : Int32))])) _
    exact retB X10 hx Bd.returns (by first | exact Or.inr rfl | exact Or.inl rfl | (split <;> simp)) (hb hby d24_18) hr
  · show QmIl Z a1 cz vb kv n vs h0 n0 _ T10.heap _; rw [e10]; exact ⟨rfl, N0, rfl⟩
theorem pn_21 : plainName "java/lang/AbstractStringBuilder" = true := by first | (simp [plainName, overriddenIn]; done) | decide +kernel
theorem ef_21 (m : MethodId) (x0 : Addr) : entryFrame m #[(.ref x0)] 1 = mkF m 0 #[.val (.ref x0)] [] := by first | (simp [entryFrame, mkF, argsToLocals, Value.category]; done) | rfl
def QmGv (Z : State) (a1 : Addr) (cz : Int32) (vb : Addr) (kv : ClassId) (n : Nat) (vs : List Value) (h0 : Heap) (n0 : Nat) (v : Option Value) (h : Heap) (L : List Loc) : Prop := v = some (.ref vb) ∧ Fr n0 L ∧ h = h0
set_option maxRecDepth 65536 in
set_option maxHeartbeats 40000000 in
theorem rmGv (l : Launch) (Z : State) (a0 : Array Value) (hw : ∀ d ∈ tables_1, d.before a0 Z = true) (ws : List Jvm.Cond) (a1 : Addr) (cz : Int32) (vb : Addr) (kv : ClassId) (n : Nat) (vs : List Value) (h0 : Heap) (n0 : Nat) (Z0 : n0 ≤ h0.size) (hB : BV Z h0 a1 vb kv n vs) :
    MetFree l (⟨"java/lang/AbstractStringBuilder", "getValue", "()[B"⟩ : MethodName) (head1 (Jvm.Cond.code (⟨"java/lang/AbstractStringBuilder", "getValue", "()[B"⟩ : MethodName) jdk_68_method_64_code 1 (some (.array .byte)) :: ws) ({ frames := 0, cells := 0, slots := 0, locals := 0 } : Room)) (fun a U => a = #[(.ref a1)] ∧ Z.Warmed39 U.vm ∧ U.heap = h0) (fun _ _ _ _ _ => True) (fun _ U o U' => ∃ v L, o = .returned v ∧ QmGv Z a1 cz vb kv n vs h0 n0 v U'.heap L ∧ FrameEnd U o U' L ({ frames := 0, cells := 0, slots := 0, locals := 0 } : Room).cells ({ frames := 0, cells := 0, slots := 0, locals := 0 } : Room).slots) := by
  refine MetFree.of_bodySF (plainFor_of_name pn_21) hisR ?_
  intro p e s m args below meth c s₁ Bd hml0 hP hK
  obtain ⟨rfl, hZ, hh⟩ := hP
  have hx := Bd.exec
  have hby := Bd.bytes
  have hml : c.maxLocals = 1 := hml0
  have hown : s.vm.findClass "java/lang/AbstractStringBuilder" = some m.cls := findClass_of_methodNamed Bd.named
  have hnm := (name_of_methodNamed Bd.named Bd.method).1
  have X0 : Stand p l e ({ frames := 0, cells := 0, slots := 0, locals := 0 } : Room) s m #[(.ref a1)] below meth c s₁ [] 0 0 := Stand.of_body Bd
  have e0 : s₁.heap = h0 := by rw [← hh, Bd.state]; rfl
  have N0 := Fr.nil n0
  have pre0 : ∀ t, Steps p.tables e below (s₁.setTop (mkF m 0 #[.val (.ref a1)] [])) t → Steps p.tables e below (s₁.setTop (entryFrame m #[(.ref a1)] 1)) t := fun t_ k_ => castTop (ef_21 m a1) k_
  obtain ⟨S0, hS0⟩ : ∃ z, z = s₁.setTop (mkF m 0 #[.val (.ref a1)] []) := ⟨_, rfl⟩
  have r0 : Steps p.tables e below S0 (s₁.setTop (mkF m 0 #[.val (.ref a1)] [])) := by rw [hS0]; exact Steps.refl _
  have hB_ := hB
  obtain ⟨Ea, Fv, Fc, Fn, Av, hvl, hav⟩ := hB_
  have r13 : Steps p.tables e below S0 (s₁.setTop (mkF m 1 #[.val (.ref a1)] [(.ref a1)])) := by
    refine r0.trans ?_
    show Steps p.tables e below (s₁.setTop (mkF m 0 #[.val (.ref a1)] [])) _
    refine XS.aloadN X0.here hx rfl (hb hby d21_0) rfl rfl ?_
    exact Steps.refl _
  obtain ⟨T14, X14, e14, st14⟩ := getF X0 hx hZ hown (host := "") (Or.inl (hw _ (List.mem_of_getElem? (i := 63) rfl))) Via.refl e0 Fv (g := (mkF m 1 #[.val (.ref a1)] [(.ref a1)])) rfl rfl (hb hby d21_1)
  have r15 : Steps p.tables e below S0 (T14.setTop (mkF m 4 #[.val (.ref a1)] [(.ref vb)])) := r13.trans (st14 _ (Steps.refl _))
  obtain ⟨fs, hr, hrun, hended, hW, hsame⟩ := X14.leave (v := some (.ref vb)) (fun h => by rw [Bd.returns] at h; cases h)
  refine ⟨_, _, pre0 _ ?_, hrun, hended, _, _, rfl, ?_, ⟨_, rfl⟩, hW, hsame.mono (by decide) (by decide)⟩
  · rw [← hS0]
    refine r15.trans ?_
    show Steps p.tables e below (T14.setTop (mkF m 4 #[.val (.ref a1)] [(.ref vb)])) _
    jvm_step X14.here [X14.here.top, hx, (hb hby d21_4), X14.method', Bd.returns, Value.isRef, FieldType.isReference]
    first | (intro acts; rw [hr _ acts rfl rfl rfl]) | rw [hr _ _ rfl rfl rfl]
    exact Steps.refl _
  · show QmGv Z a1 cz vb kv n vs h0 n0 _ T14.heap _; rw [e14]; exact ⟨rfl, N0, rfl⟩
theorem pn_23 : plainName "java/lang/AbstractStringBuilder" = true := by first | (simp [plainName, overriddenIn]; done) | decide +kernel
theorem ef_23 (m : MethodId) (x0 : Addr) : entryFrame m #[(.ref x0)] 1 = mkF m 0 #[.val (.ref x0)] [] := by first | (simp [entryFrame, mkF, argsToLocals, Value.category]; done) | rfl
def QmLa (Z : State) (a1 : Addr) (cz : Int32) (vb : Addr) (kv : ClassId) (n : Nat) (vs : List Value) (h0 : Heap) (n0 : Nat) (v : Option Value) (h : Heap) (L : List Loc) : Prop := v = some (.int (Int32.ofNat n)) ∧ Fr n0 L ∧ h = h0
set_option maxRecDepth 65536 in
set_option maxHeartbeats 40000000 in
theorem rmLa (l : Launch) (Z : State) (a0 : Array Value) (hw : ∀ d ∈ tables_1, d.before a0 Z = true) (ws : List Jvm.Cond) (a1 : Addr) (cz : Int32) (vb : Addr) (kv : ClassId) (n : Nat) (vs : List Value) (h0 : Heap) (n0 : Nat) (Z0 : n0 ≤ h0.size) (hB : BV Z h0 a1 vb kv n vs) :
    MetFree l (⟨"java/lang/AbstractStringBuilder", "length", "()I"⟩ : MethodName) (head1 (Jvm.Cond.code (⟨"java/lang/AbstractStringBuilder", "length", "()I"⟩ : MethodName) jdk_68_method_6_code 1 (some .int) :: ws) ({ frames := 0, cells := 0, slots := 0, locals := 0 } : Room)) (fun a U => a = #[(.ref a1)] ∧ Z.Warmed39 U.vm ∧ U.heap = h0) (fun _ _ _ _ _ => True) (fun _ U o U' => ∃ v L, o = .returned v ∧ QmLa Z a1 cz vb kv n vs h0 n0 v U'.heap L ∧ FrameEnd U o U' L ({ frames := 0, cells := 0, slots := 0, locals := 0 } : Room).cells ({ frames := 0, cells := 0, slots := 0, locals := 0 } : Room).slots) := by
  refine MetFree.of_bodySF (plainFor_of_name pn_23) hisR ?_
  intro p e s m args below meth c s₁ Bd hml0 hP hK
  obtain ⟨rfl, hZ, hh⟩ := hP
  have hx := Bd.exec
  have hby := Bd.bytes
  have hml : c.maxLocals = 1 := hml0
  have hown : s.vm.findClass "java/lang/AbstractStringBuilder" = some m.cls := findClass_of_methodNamed Bd.named
  have hnm := (name_of_methodNamed Bd.named Bd.method).1
  have X0 : Stand p l e ({ frames := 0, cells := 0, slots := 0, locals := 0 } : Room) s m #[(.ref a1)] below meth c s₁ [] 0 0 := Stand.of_body Bd
  have e0 : s₁.heap = h0 := by rw [← hh, Bd.state]; rfl
  have N0 := Fr.nil n0
  have pre0 : ∀ t, Steps p.tables e below (s₁.setTop (mkF m 0 #[.val (.ref a1)] [])) t → Steps p.tables e below (s₁.setTop (entryFrame m #[(.ref a1)] 1)) t := fun t_ k_ => castTop (ef_23 m a1) k_
  obtain ⟨S0, hS0⟩ : ∃ z, z = s₁.setTop (mkF m 0 #[.val (.ref a1)] []) := ⟨_, rfl⟩
  have r0 : Steps p.tables e below S0 (s₁.setTop (mkF m 0 #[.val (.ref a1)] [])) := by rw [hS0]; exact Steps.refl _
  have hB_ := hB
  obtain ⟨Ea, Fv, Fc, Fn, Av, hvl, hav⟩ := hB_
  have r16 : Steps p.tables e below S0 (s₁.setTop (mkF m 1 #[.val (.ref a1)] [(.ref a1)])) := by
    refine r0.trans ?_
    show Steps p.tables e below (s₁.setTop (mkF m 0 #[.val (.ref a1)] [])) _
    refine XS.aloadN X0.here hx rfl (hb hby d23_0) rfl rfl ?_
    exact Steps.refl _
  obtain ⟨T17, X17, e17, st17⟩ := getF X0 hx hZ hown (host := "") (Or.inl (hw _ (List.mem_of_getElem? (i := 88) rfl))) Via.refl e0 Fn (g := (mkF m 1 #[.val (.ref a1)] [(.ref a1)])) rfl rfl (hb hby d23_1)
  have r18 : Steps p.tables e below S0 (T17.setTop (mkF m 4 #[.val (.ref a1)] [(.int (Int32.ofNat n))])) := r16.trans (st17 _ (Steps.refl _))
  obtain ⟨fs, hr, hrun, hended, hW, hsame⟩ := X17.leave (v := some (.int (Int32.ofNat n))) (fun h => by rw [Bd.returns] at h; cases h)
  refine ⟨_, _, pre0 _ ?_, hrun, hended, _, _, rfl, ?_, ⟨_, rfl⟩, hW, hsame.mono (by decide) (by decide)⟩
  · rw [← hS0]
    refine r18.trans ?_
    show Steps p.tables e below (T17.setTop (mkF m 4 #[.val (.ref a1)] [(.int (Int32.ofNat n))])) _
    exact retI X17 hx Bd.returns (hb hby d23_4) hr
  · show QmLa Z a1 cz vb kv n vs h0 n0 _ T17.heap _; rw [e17]; exact ⟨rfl, N0, rfl⟩
theorem pn_22 : plainName "java/lang/StringBuilder" = true := by first | (simp [plainName, overriddenIn]; done) | decide +kernel
theorem ef_22 (m : MethodId) (x0 : Addr) : entryFrame m #[(.ref x0)] 1 = mkF m 0 #[.val (.ref x0)] [] := by first | (simp [entryFrame, mkF, argsToLocals, Value.category]; done) | rfl
def QmLb (Z : State) (a1 : Addr) (cz : Int32) (vb : Addr) (kv : ClassId) (n : Nat) (vs : List Value) (h0 : Heap) (n0 : Nat) (v : Option Value) (h : Heap) (L : List Loc) : Prop := v = some (.int (Int32.ofNat n)) ∧ Fr n0 L ∧ h = h0
set_option maxRecDepth 65536 in
set_option maxHeartbeats 40000000 in
theorem rmLb (l : Launch) (Z : State) (a0 : Array Value) (hw : ∀ d ∈ tables_1, d.before a0 Z = true) (ws : List Jvm.Cond) (a1 : Addr) (cz : Int32) (vb : Addr) (kv : ClassId) (n : Nat) (vs : List Value) (h0 : Heap) (n0 : Nat) (Z0 : n0 ≤ h0.size) (hB : BV Z h0 a1 vb kv n vs) :
    MetFree l (⟨"java/lang/StringBuilder", "length", "()I"⟩ : MethodName) (head1 (Jvm.Cond.code (⟨"java/lang/StringBuilder", "length", "()I"⟩ : MethodName) jdk_67_method_93_code 1 (some .int) :: ws) ({ frames := 1, cells := 0, slots := 0, locals := 12 } : Room)) (fun a U => a = #[(.ref a1)] ∧ Z.Warmed39 U.vm ∧ U.heap = h0) (fun _ _ _ _ _ => True) (fun _ U o U' => ∃ v L, o = .returned v ∧ QmLb Z a1 cz vb kv n vs h0 n0 v U'.heap L ∧ FrameEnd U o U' L ({ frames := 1, cells := 0, slots := 0, locals := 12 } : Room).cells ({ frames := 1, cells := 0, slots := 0, locals := 12 } : Room).slots) := by
  refine MetFree.of_bodySF (plainFor_of_name pn_22) hisR ?_
  intro p e s m args below meth c s₁ Bd hml0 hP hK
  obtain ⟨rfl, hZ, hh⟩ := hP
  have hx := Bd.exec
  have hby := Bd.bytes
  have hml : c.maxLocals = 1 := hml0
  have hown : s.vm.findClass "java/lang/StringBuilder" = some m.cls := findClass_of_methodNamed Bd.named
  have hnm := (name_of_methodNamed Bd.named Bd.method).1
  have X0 : Stand p l e ({ frames := 1, cells := 0, slots := 0, locals := 12 } : Room) s m #[(.ref a1)] below meth c s₁ [] 0 0 := Stand.of_body Bd
  have e0 : s₁.heap = h0 := by rw [← hh, Bd.state]; rfl
  have N0 := Fr.nil n0
  have pre0 : ∀ t, Steps p.tables e below (s₁.setTop (mkF m 0 #[.val (.ref a1)] [])) t → Steps p.tables e below (s₁.setTop (entryFrame m #[(.ref a1)] 1)) t := fun t_ k_ => castTop (ef_22 m a1) k_
  obtain ⟨S0, hS0⟩ : ∃ z, z = s₁.setTop (mkF m 0 #[.val (.ref a1)] []) := ⟨_, rfl⟩
  have r0 : Steps p.tables e below S0 (s₁.setTop (mkF m 0 #[.val (.ref a1)] [])) := by rw [hS0]; exact Steps.refl _
  have hB_ := hB
  obtain ⟨Ea, Fv, Fc, Fn, Av, hvl, hav⟩ := hB_
  have r19 : Steps p.tables e below S0 (s₁.setTop (mkF m 1 #[.val (.ref a1)] [(.ref a1)])) := by
    refine r0.trans ?_
    show Steps p.tables e below (s₁.setTop (mkF m 0 #[.val (.ref a1)] [])) _
    refine XS.aloadN X0.here hx rfl (hb hby d22_0) rfl rfl ?_
    exact Steps.refl _
  obtain ⟨_, _, ⟨T20, L20, k20, n20⟩, -, X20, ⟨Lc20, hQ20, l20, y20, z20⟩, st20⟩ := superBack X0 hx hZ (y := (⟨"java/lang/AbstractStringBuilder", "length", "()I"⟩ : MethodName)) hown (hw _ (List.mem_of_getElem? (i := 139) rfl)) (sameOf (y := (⟨"java/lang/AbstractStringBuilder", "length", "()I"⟩ : MethodName)) (hw _ (List.mem_of_getElem? (i := 135) rfl)) (hw _ (List.mem_of_getElem? (i := 93) rfl)) rfl (by decide)) (hw _ (List.mem_of_getElem? (i := 135) rfl)) (hw _ (List.mem_of_getElem? (i := 74) rfl)) (by decide) (backOf (W := 0) (rmLa l Z a0 hw [] a1 cz vb kv n vs h0 n0 Z0 hB) hZ (hw _ (List.mem_of_getElem? (i := 140) rfl)) (hw _ (List.mem_of_getElem? (i := 59) rfl)) (by decide) (by decide)) e0 (Ins.self Ea) (g := (mkF m 1 #[.val (.ref a1)] [(.ref a1)])) rfl (by rw [hml]; rfl) (hw _ (List.mem_of_getElem? (i := 140) rfl)) (argsL := []) (rest := []) (lenOf pd_0 rfl) rfl (by show 2 * 0 + _ ≤ _; exact Nat.le_of_eq rfl) (hb hby d22_1) (fun _ _ => ⟨rfl, e0, (by decide : 0 + 0 ≤ _), (by decide : 0 + 0 ≤ _)⟩)
  dsimp only [Pt.U, Pt.locs, Pt.cells, Pt.slots] at X20 l20 y20 z20 st20 hQ20
  subst l20 y20 z20
  obtain ⟨rfl, Nq20, e20⟩ := hQ20
  have N20 := Fr.app N0 Nq20
  have r21 : Steps p.tables e below S0 (T20.setTop (mkF m 4 #[.val (.ref a1)] [(.int (Int32.ofNat n))])) := r19.trans st20
  obtain ⟨fs, hr, hrun, hended, hW, hsame⟩ := X20.leave (v := some (.int (Int32.ofNat n))) (fun h => by rw [Bd.returns] at h; cases h)
  refine ⟨_, _, pre0 _ ?_, hrun, hended, _, _, rfl, ?_, ⟨_, rfl⟩, hW, hsame.mono (by decide) (by decide)⟩
  · rw [← hS0]
    refine r21.trans ?_
    show Steps p.tables e below (T20.setTop (mkF m 4 #[.val (.ref a1)] [(.int (Int32.ofNat n))])) _
    exact retI X20 hx Bd.returns (hb hby d22_4) hr
  · show QmLb Z a1 cz vb kv n vs h0 n0 _ T20.heap _; rw [e20]; exact ⟨rfl, N20, rfl⟩
theorem pn_14 : plainName "java/lang/AbstractStringBuilder" = true := by first | (simp [plainName, overriddenIn]; done) | decide +kernel
theorem ef_14 (m : MethodId) (x0 : Addr) (x1 : Int32) : entryFrame m #[(.ref x0), (.int x1)] 3 = mkF m 0 #[.val (.ref x0), .val (.int x1), .unset] [] := by first | (simp [entryFrame, mkF, argsToLocals, Value.category]; done) | rfl
def QmEn (Z : State) (a1 : Addr) (p1 : Int32) (cz : Int32) (vb : Addr) (kv : ClassId) (n : Nat) (vs : List Value) (mm : Nat) (h0 : Heap) (n0 : Nat) (v : Option Value) (h : Heap) (L : List Loc) : Prop := v = none ∧ Fr n0 L ∧ h = h0
set_option maxRecDepth 65536 in
set_option maxHeartbeats 40000000 in
theorem rmEn (l : Launch) (Z : State) (a0 : Array Value) (hw : ∀ d ∈ tables_1, d.before a0 Z = true) (ws : List Jvm.Cond) (a1 : Addr) (p1 : Int32) (cz : Int32) (vb : Addr) (kv : ClassId) (n : Nat) (vs : List Value) (mm : Nat) (h0 : Heap) (n0 : Nat) (Z0 : n0 ≤ h0.size) (hB : BV Z h0 a1 vb kv n vs) (hp : p1 = Int32.ofNat mm) (hm : mm < 17) :
    MetFree l (⟨"java/lang/AbstractStringBuilder", "ensureCapacityInternal", "(I)V"⟩ : MethodName) (head1 (Jvm.Cond.code (⟨"java/lang/AbstractStringBuilder", "ensureCapacityInternal", "(I)V"⟩ : MethodName) jdk_68_method_9_code 3 none :: ws) ({ frames := 0, cells := 0, slots := 0, locals := 0 } : Room)) (fun a U => a = #[(.ref a1), (.int p1)] ∧ Z.Warmed39 U.vm ∧ U.heap = h0) (fun _ _ _ _ _ => True) (fun _ U o U' => ∃ v L, o = .returned v ∧ QmEn Z a1 p1 cz vb kv n vs mm h0 n0 v U'.heap L ∧ FrameEnd U o U' L ({ frames := 0, cells := 0, slots := 0, locals := 0 } : Room).cells ({ frames := 0, cells := 0, slots := 0, locals := 0 } : Room).slots) := by
  refine MetFree.of_bodySF (plainFor_of_name pn_14) hisR ?_
  intro p e s m args below meth c s₁ Bd hml0 hP hK
  obtain ⟨rfl, hZ, hh⟩ := hP
  have hx := Bd.exec
  have hby := Bd.bytes
  have hml : c.maxLocals = 3 := hml0
  have hown : s.vm.findClass "java/lang/AbstractStringBuilder" = some m.cls := findClass_of_methodNamed Bd.named
  have hnm := (name_of_methodNamed Bd.named Bd.method).1
  have X0 : Stand p l e ({ frames := 0, cells := 0, slots := 0, locals := 0 } : Room) s m #[(.ref a1), (.int p1)] below meth c s₁ [] 0 0 := Stand.of_body Bd
  have e0 : s₁.heap = h0 := by rw [← hh, Bd.state]; rfl
  have N0 := Fr.nil n0
  have pre0 : ∀ t, Steps p.tables e below (s₁.setTop (mkF m 0 #[.val (.ref a1), .val (.int p1), .unset] [])) t → Steps p.tables e below (s₁.setTop (entryFrame m #[(.ref a1), (.int p1)] 3)) t := fun t_ k_ => castTop (ef_14 m a1 p1) k_
  obtain ⟨S0, hS0⟩ : ∃ z, z = s₁.setTop (mkF m 0 #[.val (.ref a1), .val (.int p1), .unset] []) := ⟨_, rfl⟩
  have r0 : Steps p.tables e below S0 (s₁.setTop (mkF m 0 #[.val (.ref a1), .val (.int p1), .unset] [])) := by rw [hS0]; exact Steps.refl _
  have hB_ := hB
  obtain ⟨Ea, Fv, Fc, Fn, Av, hvl, hav⟩ := hB_
  have r22 : Steps p.tables e below S0 (s₁.setTop (mkF m 1 #[.val (.ref a1), .val (.int p1), .unset] [(.ref a1)])) := by
    refine r0.trans ?_
    show Steps p.tables e below (s₁.setTop (mkF m 0 #[.val (.ref a1), .val (.int p1), .unset] [])) _
    refine XS.aloadN X0.here hx rfl (hb hby d14_0) rfl rfl ?_
    exact Steps.refl _
  obtain ⟨T23, X23, e23, st23⟩ := getF X0 hx hZ hown (host := "") (Or.inl (hw _ (List.mem_of_getElem? (i := 63) rfl))) Via.refl e0 Fv (g := (mkF m 1 #[.val (.ref a1), .val (.int p1), .unset] [(.ref a1)])) rfl rfl (hb hby d14_1)
  have r24 : Steps p.tables e below S0 (T23.setTop (mkF m 4 #[.val (.ref a1), .val (.int p1), .unset] [(.ref vb)])) := r22.trans (st23 _ (Steps.refl _))
  have r25 : Steps p.tables e below S0 (T23.setTop (mkF m 6 #[.val (.ref a1), .val (.int p1), .unset] [(.ref a1), (.int (16 : Int32))])) := by
    refine r24.trans ?_
    show Steps p.tables e below (T23.setTop (mkF m 4 #[.val (.ref a1), .val (.int p1), .unset] [(.ref vb)])) _
    refine lnV X23 hx hZ e23 Av (g := (mkF m 4 #[.val (.ref a1), .val (.int p1), .unset] [(.ref vb)])) rfl rfl (hb hby d14_4) _ ?_
    show Steps p.tables e below (T23.setTop (mkF m 5 #[.val (.ref a1), .val (.int p1), .unset] [(.int (16 : Int32))])) _
    refine XS.aloadN X23.here hx rfl (hb hby d14_5) rfl rfl ?_
    exact Steps.refl _
  obtain ⟨T26, X26, e26, st26⟩ := getF X23 hx hZ hown (host := "") (Or.inl (hw _ (List.mem_of_getElem? (i := 65) rfl))) Via.refl e23 Fc (g := (mkF m 6 #[.val (.ref a1), .val (.int p1), .unset] [(.ref a1), (.int (16 : Int32))])) rfl rfl (hb hby d14_6)
  have r27 : Steps p.tables e below S0 (T26.setTop (mkF m 9 #[.val (.ref a1), .val (.int p1), .unset] [(.int (0 : Int32)), (.int (16 : Int32))])) := r25.trans (st26 _ (Steps.refl _))
  have r28 : Steps p.tables e below S0 (T26.setTop (mkF m 14 #[.val (.ref a1), .val (.int p1), .val (.int ((16 : Int32) >>> ((0 : Int32) &&& 31)))] [(.int (p1 - ((16 : Int32) >>> ((0 : Int32) &&& 31))))])) := by
    refine r27.trans ?_
    show Steps p.tables e below (T26.setTop (mkF m 9 #[.val (.ref a1), .val (.int p1), .unset] [(.int (0 : Int32)), (.int (16 : Int32))])) _
    refine XS.ishr X26.here hx rfl (hb hby d14_9) rfl ?_
    show Steps p.tables e below (T26.setTop (mkF m 10 #[.val (.ref a1), .val (.int p1), .unset] [(.int ((16 : Int32) >>> ((0 : Int32) &&& 31)))])) _
    refine XS.istoreN X26.here hx rfl (hb hby d14_10) rfl (l' := #[.val (.ref a1), .val (.int p1), .val (.int ((16 : Int32) >>> ((0 : Int32) &&& 31)))]) rfl ?_
    show Steps p.tables e below (T26.setTop (mkF m 11 #[.val (.ref a1), .val (.int p1), .val (.int ((16 : Int32) >>> ((0 : Int32) &&& 31)))] [])) _
    refine XS.iloadN X26.here hx rfl (hb hby d14_11) rfl ?_
    show Steps p.tables e below (T26.setTop (mkF m 12 #[.val (.ref a1), .val (.int p1), .val (.int ((16 : Int32) >>> ((0 : Int32) &&& 31)))] [(.int p1)])) _
    refine XS.iloadN X26.here hx rfl (hb hby d14_12) rfl ?_
    show Steps p.tables e below (T26.setTop (mkF m 13 #[.val (.ref a1), .val (.int p1), .val (.int ((16 : Int32) >>> ((0 : Int32) &&& 31)))] [(.int ((16 : Int32) >>> ((0 : Int32) &&& 31))), (.int p1)])) _
    refine XS.isub X26.here hx rfl (hb hby d14_13) rfl ?_
    exact Steps.refl _
  have hle : ¬ (0 : Int32) < (p1 - ((16 : Int32) >>> ((0 : Int32) &&& 31))) := by rw [hp]; exact (i_cl mm hm).2.2.1
  have r29 : Steps p.tables e below S0 (T26.setTop (mkF m 38 #[.val (.ref a1), .val (.int p1), .val (.int ((16 : Int32) >>> ((0 : Int32) &&& 31)))] [])) := by
    refine r28.trans ?_
    show Steps p.tables e below (T26.setTop (mkF m 14 #[.val (.ref a1), .val (.int p1), .val (.int ((16 : Int32) >>> ((0 : Int32) &&& 31)))] [(.int (p1 - ((16 : Int32) >>> ((0 : Int32) &&& 31))))])) _
    refine XS.ifYes X26.here hx rfl (pc0 := 14) (pc' := 38) rfl (hb hby d14_14) rfl ((if0 _ _).trans (flt hle).2.2.2) (by decide) (by decide) ?_
    exact Steps.refl _
  obtain ⟨fs, hr, hrun, hended, hW, hsame⟩ := X26.leave (v := none) (fun _ => rfl)
  refine ⟨_, _, pre0 _ ?_, hrun, hended, _, _, rfl, ?_, ⟨_, rfl⟩, hW, hsame.mono (by decide) (by decide)⟩
  · rw [← hS0]
    refine r29.trans ?_
    show Steps p.tables e below (T26.setTop (mkF m 38 #[.val (.ref a1), .val (.int p1), .val (.int ((16 : Int32) >>> ((0 : Int32) &&& 31)))] [])) _
    exact X26.returnOut hx Bd.returns (hb hby d14_38) hr
  · show QmEn Z a1 p1 cz vb kv n vs mm h0 n0 _ T26.heap _; rw [e26]; exact ⟨rfl, N0, rfl⟩
theorem pn_16 : plainName "java/lang/AbstractStringBuilder" = true := by first | (simp [plainName, overriddenIn]; done) | decide +kernel
theorem ef_16 (m : MethodId) (x0 : Addr) (x1 : Addr) : entryFrame m #[(.ref x0), (.ref x1)] 2 = mkF m 0 #[.val (.ref x0), .val (.ref x1)] [] := by first | (simp [entryFrame, mkF, argsToLocals, Value.category]; done) | rfl
def QmIn (Z : State) (a1 : Addr) (a2 : Addr) (cz : Int32) (vb : Addr) (kv : ClassId) (n : Nat) (vs : List Value) (h0 : Heap) (n0 : Nat) (v : Option Value) (h : Heap) (L : List Loc) : Prop := v = none ∧ Fr n0 L ∧ h = h0
set_option maxRecDepth 65536 in
set_option maxHeartbeats 40000000 in
theorem rmIn (l : Launch) (Z : State) (a0 : Array Value) (hw : ∀ d ∈ tables_1, d.before a0 Z = true) (ws : List Jvm.Cond) (a1 : Addr) (a2 : Addr) (cz : Int32) (vb : Addr) (kv : ClassId) (n : Nat) (vs : List Value) (h0 : Heap) (n0 : Nat) (Z0 : n0 ≤ h0.size) (O0 : Old Z n0 h0) (Sc : Sta Z Z.heap "java/lang/String" "COMPACT_STRINGS" "Z" (.int cz)) (hcz : ¬ cz = 0)(hB : BV Z h0 a1 vb kv n vs) (Es : Exa Z h0 a2 "java/lang/String") (Fs : Fld Z h0 a2 "java/lang/String" "coder" "B" (.int (0 : Int32))) :
    MetFree l (⟨"java/lang/AbstractStringBuilder", "inflateIfNeededFor", "(Ljava/lang/String;)V"⟩ : MethodName) (head1 (Jvm.Cond.code (⟨"java/lang/AbstractStringBuilder", "inflateIfNeededFor", "(Ljava/lang/String;)V"⟩ : MethodName) jdk_68_method_71_code 2 none :: ws) ({ frames := 1, cells := 0, slots := 0, locals := 13 } : Room)) (fun a U => a = #[(.ref a1), (.ref a2)] ∧ Z.Warmed39 U.vm ∧ U.heap = h0) (fun _ _ _ _ _ => True) (fun _ U o U' => ∃ v L, o = .returned v ∧ QmIn Z a1 a2 cz vb kv n vs h0 n0 v U'.heap L ∧ FrameEnd U o U' L ({ frames := 1, cells := 0, slots := 0, locals := 13 } : Room).cells ({ frames := 1, cells := 0, slots := 0, locals := 13 } : Room).slots) := by
  refine MetFree.of_bodySF (plainFor_of_name pn_16) hisR ?_
  intro p e s m args below meth c s₁ Bd hml0 hP hK
  obtain ⟨rfl, hZ, hh⟩ := hP
  have hx := Bd.exec
  have hby := Bd.bytes
  have hml : c.maxLocals = 2 := hml0
  have hown : s.vm.findClass "java/lang/AbstractStringBuilder" = some m.cls := findClass_of_methodNamed Bd.named
  have hnm := (name_of_methodNamed Bd.named Bd.method).1
  have X0 : Stand p l e ({ frames := 1, cells := 0, slots := 0, locals := 13 } : Room) s m #[(.ref a1), (.ref a2)] below meth c s₁ [] 0 0 := Stand.of_body Bd
  have e0 : s₁.heap = h0 := by rw [← hh, Bd.state]; rfl
  have N0 := Fr.nil n0
  have pre0 : ∀ t, Steps p.tables e below (s₁.setTop (mkF m 0 #[.val (.ref a1), .val (.ref a2)] [])) t → Steps p.tables e below (s₁.setTop (entryFrame m #[(.ref a1), (.ref a2)] 2)) t := fun t_ k_ => castTop (ef_16 m a1 a2) k_
  obtain ⟨S0, hS0⟩ : ∃ z, z = s₁.setTop (mkF m 0 #[.val (.ref a1), .val (.ref a2)] []) := ⟨_, rfl⟩
  have r0 : Steps p.tables e below S0 (s₁.setTop (mkF m 0 #[.val (.ref a1), .val (.ref a2)] [])) := by rw [hS0]; exact Steps.refl _
  have hB_ := hB
  obtain ⟨Ea, Fv, Fc, Fn, Av, hvl, hav⟩ := hB_
  obtain ⟨T30, X30, e30, st30⟩ := getS2 X0 hx hZ hown (host := "") (Or.inl (hw _ (List.mem_of_getElem? (i := 62) rfl))) Via.refl e0 (Sc.ext O0.2) (g := (mkF m 0 #[.val (.ref a1), .val (.ref a2)] [])) rfl (hb hby d16_0)
  have r31 : Steps p.tables e below S0 (T30.setTop (mkF m 3 #[.val (.ref a1), .val (.ref a2)] [(.int cz)])) := r0.trans (st30 _ (Steps.refl _))
  have r32 : Steps p.tables e below S0 (T30.setTop (mkF m 7 #[.val (.ref a1), .val (.ref a2)] [(.ref a1)])) := by
    refine r31.trans ?_
    show Steps p.tables e below (T30.setTop (mkF m 3 #[.val (.ref a1), .val (.ref a2)] [(.int cz)])) _
    refine XS.ifNo X30.here hx rfl (hb hby d16_3) rfl ((if0 _ _).trans (feq hcz).1) ?_
    show Steps p.tables e below (T30.setTop (mkF m 6 #[.val (.ref a1), .val (.ref a2)] [])) _
    refine XS.aloadN X30.here hx rfl (hb hby d16_6) rfl rfl ?_
    exact Steps.refl _
  obtain ⟨T33, X33, e33, st33⟩ := getF X30 hx hZ hown (host := "") (Or.inl (hw _ (List.mem_of_getElem? (i := 65) rfl))) Via.refl e30 Fc (g := (mkF m 7 #[.val (.ref a1), .val (.ref a2)] [(.ref a1)])) rfl rfl (hb hby d16_7)
  have r34 : Steps p.tables e below S0 (T33.setTop (mkF m 10 #[.val (.ref a1), .val (.ref a2)] [(.int (0 : Int32))])) := r32.trans (st33 _ (Steps.refl _))
  have r35 : Steps p.tables e below S0 (T33.setTop (mkF m 11 #[.val (.ref a1), .val (.ref a2)] [(.ref a2), (.int (0 : Int32))])) := by
    refine r34.trans ?_
    show Steps p.tables e below (T33.setTop (mkF m 10 #[.val (.ref a1), .val (.ref a2)] [(.int (0 : Int32))])) _
    refine XS.aloadN X33.here hx rfl (hb hby d16_10) rfl rfl ?_
    exact Steps.refl _
  obtain ⟨cq36, kq36, q36a, q36b, q36c⟩ := isOf hZ e33 Es
  obtain ⟨_, _, ⟨T36, L36, k36, n36⟩, -, X36, ⟨Lc36, hQ36, l36, y36, z36⟩, st36⟩ := X33.virtualBack hx (y := (⟨"java/lang/String", "coder", "()B"⟩ : MethodName)) (z := (⟨"java/lang/String", "coder", "()B"⟩ : MethodName)) hown (mvT hZ (hw _ (List.mem_of_getElem? (i := 105) rfl))) (mvT hZ (hw _ (List.mem_of_getElem? (i := 83) rfl))) (notFace_of_selects (args := #[]) (mvT hZ (hw _ (List.mem_of_getElem? (i := 85) rfl)))) (mvT hZ (hw _ (List.mem_of_getElem? (i := 85) rfl))) (mvT hZ (hw _ (List.mem_of_getElem? (i := 84) rfl))) (by decide) (backOf (W := 1) (rmCo l Z a0 hw [] a2 cz h0 n0 Z0 O0 Sc hcz Es Fs) hZ (hw _ (List.mem_of_getElem? (i := 86) rfl)) (hw _ (List.mem_of_getElem? (i := 6) rfl)) (by decide) (by decide)) q36a q36c (g := (mkF m 11 #[.val (.ref a1), .val (.ref a2)] [(.ref a2), (.int (0 : Int32))])) rfl (by rw [hml]; rfl) (Steps.refl _) (argsL := []) (rest := [(.int (0 : Int32))]) (lenOf pd_1 rfl) rfl (by show 2 * 0 + _ ≤ _; exact Nat.le_of_eq rfl) (hb hby d16_11) (fun _ _ => ⟨rfl, e33, (by decide : 0 + 0 ≤ _), (by decide : 0 + 0 ≤ _)⟩)
  dsimp only [Pt.U, Pt.locs, Pt.cells, Pt.slots] at X36 l36 y36 z36 st36 hQ36
  subst l36 y36 z36
  obtain ⟨rfl, Nq36, e36⟩ := hQ36
  have N36 := Fr.app N0 Nq36
  have r37 : Steps p.tables e below S0 (T36.setTop (mkF m 14 #[.val (.ref a1), .val (.ref a2)] [(.int (0 : Int32)), (.int (0 : Int32))])) := r35.trans st36
  have r38 : Steps p.tables e below S0 (T36.setTop (mkF m 21 #[.val (.ref a1), .val (.ref a2)] [])) := by
    refine r37.trans ?_
    show Steps p.tables e below (T36.setTop (mkF m 14 #[.val (.ref a1), .val (.ref a2)] [(.int (0 : Int32)), (.int (0 : Int32))])) _
    refine XS.icmpYes X36.here hx rfl (pc0 := 14) (pc' := 21) rfl (hb hby d16_14) rfl (teq rfl).1 (by decide) (by decide) ?_
    exact Steps.refl _
  obtain ⟨fs, hr, hrun, hended, hW, hsame⟩ := X36.leave (v := none) (fun _ => rfl)
  refine ⟨_, _, pre0 _ ?_, hrun, hended, _, _, rfl, ?_, ⟨_, rfl⟩, hW, hsame.mono (by decide) (by decide)⟩
  · rw [← hS0]
    refine r38.trans ?_
    show Steps p.tables e below (T36.setTop (mkF m 21 #[.val (.ref a1), .val (.ref a2)] [])) _
    exact X36.returnOut hx Bd.returns (hb hby d16_21) hr
  · show QmIn Z a1 a2 cz vb kv n vs h0 n0 _ T36.heap _; rw [e36]; exact ⟨rfl, N36, rfl⟩
theorem pn_17 : plainName "java/lang/String" = true := by first | (simp [plainName, overriddenIn]; done) | decide +kernel
theorem ef_17 (m : MethodId) (x0 : Addr) (x1 : Addr) (x2 : Int32) (x3 : Int32) : entryFrame m #[(.ref x0), (.ref x1), (.int x2), (.int x3)] 4 = mkF m 0 #[.val (.ref x0), .val (.ref x1), .val (.int x2), .val (.int x3)] [] := by first | (simp [entryFrame, mkF, argsToLocals, Value.category]; done) | rfl
def QmGb (Z : State) (a1 : Addr) (d1 : Addr) (p1 : Int32) (p2 : Int32) (cz : Int32) (b : Addr) (kb : ClassId) (cs : List Int32) (kv : ClassId) (vd : List Value) (i : Nat) (h0 : Heap) (n0 : Nat) (v : Option Value) (h : Heap) (L : List Loc) : Prop := v = none ∧ Fr n0 L ∧ Keep h0 h [d1] ∧ Arv Z h d1 kv .byte 16 (vd.take i ++ bv cs ++ vd.drop (i + cs.length)) (.int 0)
set_option maxRecDepth 65536 in
set_option maxHeartbeats 40000000 in
theorem rmGb (l : Launch) (Z : State) (a0 : Array Value) (hw : ∀ d ∈ tables_1, d.before a0 Z = true) (ws : List Jvm.Cond) (a1 : Addr) (d1 : Addr) (p1 : Int32) (p2 : Int32) (cz : Int32) (b : Addr) (kb : ClassId) (cs : List Int32) (kv : ClassId) (vd : List Value) (i : Nat) (h0 : Heap) (n0 : Nat) (Z0 : n0 ≤ h0.size) (O0 : Old Z n0 h0) (Sc : Sta Z Z.heap "java/lang/String" "COMPACT_STRINGS" "Z" (.int cz)) (hcz : ¬ cz = 0) (hS : StrAt Z h0 a1 b kb cs) (Ad : Arv Z h0 d1 kv .byte 16 vd (.int 0)) (hvl : vd.length = 16) (hp : p1 = Int32.ofNat i) (h2 : p2 = 0) (hin : i + cs.length ≤ 16) (g_d1 : n0 ≤ d1) :
    MetFree l (⟨"java/lang/String", "getBytes", "([BIB)V"⟩ : MethodName) (head1 (Jvm.Cond.code (⟨"java/lang/String", "getBytes", "([BIB)V"⟩ : MethodName) jdk_42_method_147_code 4 none :: ws) ({ frames := 1, cells := 0, slots := 0, locals := 60 } : Room)) (fun a U => a = #[(.ref a1), (.ref d1), (.int p1), (.int p2)] ∧ Z.Warmed39 U.vm ∧ U.heap = h0) (fun _ _ _ _ _ => True) (fun _ U o U' => ∃ v L, o = .returned v ∧ QmGb Z a1 d1 p1 p2 cz b kb cs kv vd i h0 n0 v U'.heap L ∧ FrameEnd U o U' L ({ frames := 1, cells := 0, slots := 0, locals := 60 } : Room).cells ({ frames := 1, cells := 0, slots := 0, locals := 60 } : Room).slots) := by
  refine MetFree.of_bodySF (plainFor_of_name pn_17) hisR ?_
  intro p e s m args below meth c s₁ Bd hml0 hP hK
  obtain ⟨rfl, hZ, hh⟩ := hP
  have hx := Bd.exec
  have hby := Bd.bytes
  have hml : c.maxLocals = 4 := hml0
  have hown : s.vm.findClass "java/lang/String" = some m.cls := findClass_of_methodNamed Bd.named
  have hnm := (name_of_methodNamed Bd.named Bd.method).1
  have X0 : Stand p l e ({ frames := 1, cells := 0, slots := 0, locals := 60 } : Room) s m #[(.ref a1), (.ref d1), (.int p1), (.int p2)] below meth c s₁ [] 0 0 := Stand.of_body Bd
  have e0 : s₁.heap = h0 := by rw [← hh, Bd.state]; rfl
  have N0 := Fr.nil n0
  have pre0 : ∀ t, Steps p.tables e below (s₁.setTop (mkF m 0 #[.val (.ref a1), .val (.ref d1), .val (.int p1), .val (.int p2)] [])) t → Steps p.tables e below (s₁.setTop (entryFrame m #[(.ref a1), (.ref d1), (.int p1), (.int p2)] 4)) t := fun t_ k_ => castTop (ef_17 m a1 d1 p1 p2) k_
  obtain ⟨S0, hS0⟩ : ∃ z, z = s₁.setTop (mkF m 0 #[.val (.ref a1), .val (.ref d1), .val (.int p1), .val (.int p2)] []) := ⟨_, rfl⟩
  have r0 : Steps p.tables e below S0 (s₁.setTop (mkF m 0 #[.val (.ref a1), .val (.ref d1), .val (.int p1), .val (.int p2)] [])) := by rw [hS0]; exact Steps.refl _
  obtain ⟨Es, Fs, Fv, Ab⟩ := hS
  have K0 := Keep.refl h0 [d1]
  have r39 : Steps p.tables e below S0 (s₁.setTop (mkF m 1 #[.val (.ref a1), .val (.ref d1), .val (.int p1), .val (.int p2)] [(.ref a1)])) := by
    refine r0.trans ?_
    show Steps p.tables e below (s₁.setTop (mkF m 0 #[.val (.ref a1), .val (.ref d1), .val (.int p1), .val (.int p2)] [])) _
    refine XS.aloadN X0.here hx rfl (hb hby d17_0) rfl rfl ?_
    exact Steps.refl _
  obtain ⟨cq40, kq40, q40a, q40b, q40c⟩ := isOf hZ e0 Es
  obtain ⟨_, _, ⟨T40, L40, k40, n40⟩, -, X40, ⟨Lc40, hQ40, l40, y40, z40⟩, st40⟩ := X0.virtualBack hx (y := (⟨"java/lang/String", "coder", "()B"⟩ : MethodName)) (z := (⟨"java/lang/String", "coder", "()B"⟩ : MethodName)) hown (mvT hZ (hw _ (List.mem_of_getElem? (i := 82) rfl))) (mvT hZ (hw _ (List.mem_of_getElem? (i := 83) rfl))) (notFace_of_selects (args := #[]) (mvT hZ (hw _ (List.mem_of_getElem? (i := 85) rfl)))) (mvT hZ (hw _ (List.mem_of_getElem? (i := 85) rfl))) (mvT hZ (hw _ (List.mem_of_getElem? (i := 84) rfl))) (by decide) (backOf (W := 0) (rmCo l Z a0 hw [] a1 cz h0 n0 Z0 O0 Sc hcz Es Fs) hZ (hw _ (List.mem_of_getElem? (i := 86) rfl)) (hw _ (List.mem_of_getElem? (i := 6) rfl)) (by decide) (by decide)) q40a q40c (g := (mkF m 1 #[.val (.ref a1), .val (.ref d1), .val (.int p1), .val (.int p2)] [(.ref a1)])) rfl (by rw [hml]; rfl) (Steps.refl _) (argsL := []) (rest := []) (lenOf pd_1 rfl) rfl (by show 2 * 0 + _ ≤ _; exact Nat.le_of_eq rfl) (hb hby d17_1) (fun _ _ => ⟨rfl, e0, (by decide : 0 + 0 ≤ _), (by decide : 0 + 0 ≤ _)⟩)
  dsimp only [Pt.U, Pt.locs, Pt.cells, Pt.slots] at X40 l40 y40 z40 st40 hQ40
  subst l40 y40 z40
  obtain ⟨rfl, Nq40, e40⟩ := hQ40
  have N40 := Fr.app N0 Nq40
  have r41 : Steps p.tables e below S0 (T40.setTop (mkF m 4 #[.val (.ref a1), .val (.ref d1), .val (.int p1), .val (.int p2)] [(.int (0 : Int32))])) := r39.trans st40
  have r42 : Steps p.tables e below S0 (T40.setTop (mkF m 9 #[.val (.ref a1), .val (.ref d1), .val (.int p1), .val (.int p2)] [(.ref a1)])) := by
    refine r41.trans ?_
    show Steps p.tables e below (T40.setTop (mkF m 4 #[.val (.ref a1), .val (.ref d1), .val (.int p1), .val (.int p2)] [(.int (0 : Int32))])) _
    refine XS.iloadN X40.here hx rfl (hb hby d17_4) rfl ?_
    show Steps p.tables e below (T40.setTop (mkF m 5 #[.val (.ref a1), .val (.ref d1), .val (.int p1), .val (.int p2)] [(.int p2), (.int (0 : Int32))])) _
    refine XS.icmpNo X40.here hx rfl (hb hby d17_5) rfl (teq h2.symm).2 ?_
    show Steps p.tables e below (T40.setTop (mkF m 8 #[.val (.ref a1), .val (.ref d1), .val (.int p1), .val (.int p2)] [])) _
    refine XS.aloadN X40.here hx rfl (hb hby d17_8) rfl rfl ?_
    exact Steps.refl _
  obtain ⟨T43, X43, e43, st43⟩ := getF X40 hx hZ hown (host := "") (Or.inl (hw _ (List.mem_of_getElem? (i := 24) rfl))) Via.refl e40 Fv (g := (mkF m 9 #[.val (.ref a1), .val (.ref d1), .val (.int p1), .val (.int p2)] [(.ref a1)])) rfl rfl (hb hby d17_9)
  have r44 : Steps p.tables e below S0 (T43.setTop (mkF m 12 #[.val (.ref a1), .val (.ref d1), .val (.int p1), .val (.int p2)] [(.ref b)])) := r42.trans (st43 _ (Steps.refl _))
  have r45 : Steps p.tables e below S0 (T43.setTop (mkF m 18 #[.val (.ref a1), .val (.ref d1), .val (.int p1), .val (.int p2)] [(.ref a1), (.int (p1 <<< (p2 &&& 31))), (.ref d1), (.int (0 : Int32)), (.ref b)])) := by
    refine r44.trans ?_
    show Steps p.tables e below (T43.setTop (mkF m 12 #[.val (.ref a1), .val (.ref d1), .val (.int p1), .val (.int p2)] [(.ref b)])) _
    refine XS.iconst X43.here hx rfl (hb hby d17_12) ?_
    show Steps p.tables e below (T43.setTop (mkF m 13 #[.val (.ref a1), .val (.ref d1), .val (.int p1), .val (.int p2)] [(.int (0 : Int32)), (.ref b)])) _
    refine XS.aloadN X43.here hx rfl (hb hby d17_13) rfl rfl ?_
    show Steps p.tables e below (T43.setTop (mkF m 14 #[.val (.ref a1), .val (.ref d1), .val (.int p1), .val (.int p2)] [(.ref d1), (.int (0 : Int32)), (.ref b)])) _
    refine XS.iloadN X43.here hx rfl (hb hby d17_14) rfl ?_
    show Steps p.tables e below (T43.setTop (mkF m 15 #[.val (.ref a1), .val (.ref d1), .val (.int p1), .val (.int p2)] [(.int p1), (.ref d1), (.int (0 : Int32)), (.ref b)])) _
    refine XS.iloadN X43.here hx rfl (hb hby d17_15) rfl ?_
    show Steps p.tables e below (T43.setTop (mkF m 16 #[.val (.ref a1), .val (.ref d1), .val (.int p1), .val (.int p2)] [(.int p2), (.int p1), (.ref d1), (.int (0 : Int32)), (.ref b)])) _
    refine XS.ishl X43.here hx rfl (hb hby d17_16) rfl ?_
    show Steps p.tables e below (T43.setTop (mkF m 17 #[.val (.ref a1), .val (.ref d1), .val (.int p1), .val (.int p2)] [(.int (p1 <<< (p2 &&& 31))), (.ref d1), (.int (0 : Int32)), (.ref b)])) _
    refine XS.aloadN X43.here hx rfl (hb hby d17_17) rfl rfl ?_
    exact Steps.refl _
  obtain ⟨T46, X46, e46, st46⟩ := getF X43 hx hZ hown (host := "") (Or.inl (hw _ (List.mem_of_getElem? (i := 24) rfl))) Via.refl e43 Fv (g := (mkF m 18 #[.val (.ref a1), .val (.ref d1), .val (.int p1), .val (.int p2)] [(.ref a1), (.int (p1 <<< (p2 &&& 31))), (.ref d1), (.int (0 : Int32)), (.ref b)])) rfl rfl (hb hby d17_18)
  have r47 : Steps p.tables e below S0 (T46.setTop (mkF m 21 #[.val (.ref a1), .val (.ref d1), .val (.int p1), .val (.int p2)] [(.ref b), (.int (p1 <<< (p2 &&& 31))), (.ref d1), (.int (0 : Int32)), (.ref b)])) := r45.trans (st46 _ (Steps.refl _))
  have r48 : Steps p.tables e below S0 (T46.setTop (mkF m 22 #[.val (.ref a1), .val (.ref d1), .val (.int p1), .val (.int p2)] [(.int (Int32.ofNat cs.length)), (.int (p1 <<< (p2 &&& 31))), (.ref d1), (.int (0 : Int32)), (.ref b)])) := by
    refine r47.trans ?_
    show Steps p.tables e below (T46.setTop (mkF m 21 #[.val (.ref a1), .val (.ref d1), .val (.int p1), .val (.int p2)] [(.ref b), (.int (p1 <<< (p2 &&& 31))), (.ref d1), (.int (0 : Int32)), (.ref b)])) _
    refine lnV X46 hx hZ e46 Ab (g := (mkF m 21 #[.val (.ref a1), .val (.ref d1), .val (.int p1), .val (.int p2)] [(.ref b), (.int (p1 <<< (p2 &&& 31))), (.ref d1), (.int (0 : Int32)), (.ref b)])) rfl rfl (hb hby d17_21) _ ?_
    exact Steps.refl _
  have hdp : (p1 <<< (p2 &&& 31)) = Int32.ofNat i := by rw [hp, h2]; exact (i_cl i (by omega)).2.2.2
  have ci := i_cl i (by omega)
  have cn := i_cl cs.length (by omega)
  have z16 : (16 : Int32).toNatClampNeg = 16 := by decide
  have z0 : (0 : Int32).toNatClampNeg = 0 := by decide
  obtain ⟨T49, h49, L49, X49, e49, N49, K49, V49, st49⟩ := cpA X46 hx hZ hown (hw _ (List.mem_of_getElem? (i := 111) rfl)) (hw _ (List.mem_of_getElem? (i := 114) rfl)) (hw _ (List.mem_of_getElem? (i := 112) rfl)) (hw _ (List.mem_of_getElem? (i := 113) rfl)) e46 Ab Ad (us := bv cs) (Or.inl ⟨rfl, rfl⟩) (by decide) (by rw [hdp]; exact ci.2.1) cn.2.1 (by rw [z0]; omega) (by rw [hdp, ci.1, cn.1, z16]; exact hin) (by rw [z0, cn.1]; exact us_all cs) (by rw [hdp, ci.1, cn.1, hvl]; exact hin) N40 g_d1 (g := (mkF m 22 #[.val (.ref a1), .val (.ref d1), .val (.int p1), .val (.int p2)] [(.int (Int32.ofNat cs.length)), (.int (p1 <<< (p2 &&& 31))), (.ref d1), (.int (0 : Int32)), (.ref b)])) rfl (by rw [hml]; rfl) (rest := []) rfl (hb hby d17_22) (by decide) (W := 0) (by show 2 * 0 + _ ≤ _; exact Nat.le_of_eq rfl) (by decide)
  have E49_a1 := Es.keep K49
  have Z49 : n0 ≤ h49.size := Nat.le_trans Z0 K49.1
  have K49 := K0.trans K49 (allS (Or.inl (List.mem_of_getElem? (i := 0) rfl)) (all0))
  have O49 := O0.keep K49 (allS g_d1 (all0))
  have r50 : Steps p.tables e below S0 (T49.setTop (mkF m 25 #[.val (.ref a1), .val (.ref d1), .val (.int p1), .val (.int p2)] [])) := r48.trans (st49 _ (Steps.refl _))
  rw [hdp, ci.1, cn.1] at V49
  have r51 : Steps p.tables e below S0 (T49.setTop (mkF m 43 #[.val (.ref a1), .val (.ref d1), .val (.int p1), .val (.int p2)] [])) := by
    refine r50.trans ?_
    show Steps p.tables e below (T49.setTop (mkF m 25 #[.val (.ref a1), .val (.ref d1), .val (.int p1), .val (.int p2)] [])) _
    refine XS.goto X49.here hx rfl (pc0 := 25) (pc' := 43) rfl (hb hby d17_25) (by decide) (by decide) ?_
    exact Steps.refl _
  obtain ⟨fs, hr, hrun, hended, hW, hsame⟩ := X49.leave (v := none) (fun _ => rfl)
  refine ⟨_, _, pre0 _ ?_, hrun, hended, _, _, rfl, ?_, ⟨_, rfl⟩, hW, hsame.mono (by decide) (by decide)⟩
  · rw [← hS0]
    refine r51.trans ?_
    show Steps p.tables e below (T49.setTop (mkF m 43 #[.val (.ref a1), .val (.ref d1), .val (.int p1), .val (.int p2)] [])) _
    exact X49.returnOut hx Bd.returns (hb hby d17_43) hr
  · show QmGb Z a1 d1 p1 p2 cz b kb cs kv vd i h0 n0 _ T49.heap _; rw [e49]; exact ⟨rfl, N49, K49, V49⟩
theorem pn_15 : plainName "java/lang/AbstractStringBuilder" = true := by first | (simp [plainName, overriddenIn]; done) | decide +kernel
theorem ef_15 (m : MethodId) (x0 : Addr) (x1 : Int32) (x2 : Addr) : entryFrame m #[(.ref x0), (.int x1), (.ref x2)] 3 = mkF m 0 #[.val (.ref x0), .val (.int x1), .val (.ref x2)] [] := by first | (simp [entryFrame, mkF, argsToLocals, Value.category]; done) | rfl
def QmPs (Z : State) (a1 : Addr) (p1 : Int32) (a2 : Addr) (cz : Int32) (vb : Addr) (kv : ClassId) (n : Nat) (vs : List Value) (b : Addr) (kb : ClassId) (cs : List Int32) (i : Nat) (h0 : Heap) (n0 : Nat) (v : Option Value) (h : Heap) (L : List Loc) : Prop := v = none ∧ Fr n0 L ∧ Keep h0 h [vb] ∧ BV Z h a1 vb kv n (vs.take i ++ bv cs ++ vs.drop (i + cs.length))
set_option maxRecDepth 65536 in
set_option maxHeartbeats 40000000 in
theorem rmPs (l : Launch) (Z : State) (a0 : Array Value) (hw : ∀ d ∈ tables_1, d.before a0 Z = true) (ws : List Jvm.Cond) (a1 : Addr) (p1 : Int32) (a2 : Addr) (cz : Int32) (vb : Addr) (kv : ClassId) (n : Nat) (vs : List Value) (b : Addr) (kb : ClassId) (cs : List Int32) (i : Nat) (h0 : Heap) (n0 : Nat) (Z0 : n0 ≤ h0.size) (O0 : Old Z n0 h0) (Sc : Sta Z Z.heap "java/lang/String" "COMPACT_STRINGS" "Z" (.int cz)) (hcz : ¬ cz = 0)(hB : BV Z h0 a1 vb kv n vs) (hS : StrAt Z h0 a2 b kb cs) (hp : p1 = Int32.ofNat i) (hin : i + cs.length ≤ 16) (g_vb : n0 ≤ vb) :
    MetFree l (⟨"java/lang/AbstractStringBuilder", "putStringAt", "(ILjava/lang/String;)V"⟩ : MethodName) (head1 (Jvm.Cond.code (⟨"java/lang/AbstractStringBuilder", "putStringAt", "(ILjava/lang/String;)V"⟩ : MethodName) jdk_68_method_73_code 3 none :: ws) ({ frames := 2, cells := 0, slots := 0, locals := 75 } : Room)) (fun a U => a = #[(.ref a1), (.int p1), (.ref a2)] ∧ Z.Warmed39 U.vm ∧ U.heap = h0) (fun _ _ _ _ _ => True) (fun _ U o U' => ∃ v L, o = .returned v ∧ QmPs Z a1 p1 a2 cz vb kv n vs b kb cs i h0 n0 v U'.heap L ∧ FrameEnd U o U' L ({ frames := 2, cells := 0, slots := 0, locals := 75 } : Room).cells ({ frames := 2, cells := 0, slots := 0, locals := 75 } : Room).slots) := by
  refine MetFree.of_bodySF (plainFor_of_name pn_15) hisR ?_
  intro p e s m args below meth c s₁ Bd hml0 hP hK
  obtain ⟨rfl, hZ, hh⟩ := hP
  have hx := Bd.exec
  have hby := Bd.bytes
  have hml : c.maxLocals = 3 := hml0
  have hown : s.vm.findClass "java/lang/AbstractStringBuilder" = some m.cls := findClass_of_methodNamed Bd.named
  have hnm := (name_of_methodNamed Bd.named Bd.method).1
  have X0 : Stand p l e ({ frames := 2, cells := 0, slots := 0, locals := 75 } : Room) s m #[(.ref a1), (.int p1), (.ref a2)] below meth c s₁ [] 0 0 := Stand.of_body Bd
  have e0 : s₁.heap = h0 := by rw [← hh, Bd.state]; rfl
  have N0 := Fr.nil n0
  have pre0 : ∀ t, Steps p.tables e below (s₁.setTop (mkF m 0 #[.val (.ref a1), .val (.int p1), .val (.ref a2)] [])) t → Steps p.tables e below (s₁.setTop (entryFrame m #[(.ref a1), (.int p1), (.ref a2)] 3)) t := fun t_ k_ => castTop (ef_15 m a1 p1 a2) k_
  obtain ⟨S0, hS0⟩ : ∃ z, z = s₁.setTop (mkF m 0 #[.val (.ref a1), .val (.int p1), .val (.ref a2)] []) := ⟨_, rfl⟩
  have r0 : Steps p.tables e below S0 (s₁.setTop (mkF m 0 #[.val (.ref a1), .val (.int p1), .val (.ref a2)] [])) := by rw [hS0]; exact Steps.refl _
  have hB_ := hB
  obtain ⟨Ea, Fv, Fc, Fn, Av, hvl, hav⟩ := hB_
  have hS2 := hS
  obtain ⟨Es, Fs, -, -⟩ := hS2
  have K0 := Keep.refl h0 [vb]
  have r52 : Steps p.tables e below S0 (s₁.setTop (mkF m 2 #[.val (.ref a1), .val (.int p1), .val (.ref a2)] [(.ref a2), (.ref a1)])) := by
    refine r0.trans ?_
    show Steps p.tables e below (s₁.setTop (mkF m 0 #[.val (.ref a1), .val (.int p1), .val (.ref a2)] [])) _
    refine XS.aloadN X0.here hx rfl (hb hby d15_0) rfl rfl ?_
    show Steps p.tables e below (s₁.setTop (mkF m 1 #[.val (.ref a1), .val (.int p1), .val (.ref a2)] [(.ref a1)])) _
    refine XS.aloadN X0.here hx rfl (hb hby d15_1) rfl rfl ?_
    exact Steps.refl _
  obtain ⟨cq53, kq53, q53a, q53b, q53c⟩ := isOf hZ e0 Ea
  obtain ⟨_, _, ⟨T53, L53, k53, n53⟩, -, X53, ⟨Lc53, hQ53, l53, y53, z53⟩, st53⟩ := X0.virtualBack hx (y := (⟨"java/lang/AbstractStringBuilder", "inflateIfNeededFor", "(Ljava/lang/String;)V"⟩ : MethodName)) (z := (⟨"java/lang/AbstractStringBuilder", "inflateIfNeededFor", "(Ljava/lang/String;)V"⟩ : MethodName)) hown (mvT hZ (hw _ (List.mem_of_getElem? (i := 100) rfl))) (mvT hZ (declOf (hw _ (List.mem_of_getElem? (i := 101) rfl)) (hw _ (List.mem_of_getElem? (i := 104) rfl)))) (notFace_of_selects (args := #[]) (mvT hZ (hw _ (List.mem_of_getElem? (i := 103) rfl)))) (mvT hZ (hw _ (List.mem_of_getElem? (i := 103) rfl))) (mvT hZ (hw _ (List.mem_of_getElem? (i := 101) rfl))) (by decide) (backOf (W := 0) (rmIn l Z a0 hw [] a1 a2 cz vb kv n vs h0 n0 Z0 O0 Sc hcz hB Es Fs) hZ (hw _ (List.mem_of_getElem? (i := 104) rfl)) (hw _ (List.mem_of_getElem? (i := 59) rfl)) (by decide) (by decide)) q53a q53c (g := (mkF m 2 #[.val (.ref a1), .val (.int p1), .val (.ref a2)] [(.ref a2), (.ref a1)])) rfl (by rw [hml]; rfl) (Steps.refl _) (argsL := [(.ref a2)]) (rest := []) (lenOf pd_2 rfl) rfl (by show 2 * 0 + _ ≤ _; exact Nat.le_of_eq rfl) (hb hby d15_2) (fun _ _ => ⟨rfl, e0, (by decide : 0 + 0 ≤ _), (by decide : 0 + 0 ≤ _)⟩)
  dsimp only [Pt.U, Pt.locs, Pt.cells, Pt.slots] at X53 l53 y53 z53 st53 hQ53
  subst l53 y53 z53
  obtain ⟨rfl, Nq53, e53⟩ := hQ53
  have N53 := Fr.app N0 Nq53
  have r54 : Steps p.tables e below S0 (T53.setTop (mkF m 5 #[.val (.ref a1), .val (.int p1), .val (.ref a2)] [])) := r52.trans st53
  have r55 : Steps p.tables e below S0 (T53.setTop (mkF m 7 #[.val (.ref a1), .val (.int p1), .val (.ref a2)] [(.ref a1), (.ref a2)])) := by
    refine r54.trans ?_
    show Steps p.tables e below (T53.setTop (mkF m 5 #[.val (.ref a1), .val (.int p1), .val (.ref a2)] [])) _
    refine XS.aloadN X53.here hx rfl (hb hby d15_5) rfl rfl ?_
    show Steps p.tables e below (T53.setTop (mkF m 6 #[.val (.ref a1), .val (.int p1), .val (.ref a2)] [(.ref a2)])) _
    refine XS.aloadN X53.here hx rfl (hb hby d15_6) rfl rfl ?_
    exact Steps.refl _
  obtain ⟨T56, X56, e56, st56⟩ := getF X53 hx hZ hown (host := "") (Or.inl (hw _ (List.mem_of_getElem? (i := 63) rfl))) Via.refl e53 Fv (g := (mkF m 7 #[.val (.ref a1), .val (.int p1), .val (.ref a2)] [(.ref a1), (.ref a2)])) rfl rfl (hb hby d15_7)
  have r57 : Steps p.tables e below S0 (T56.setTop (mkF m 10 #[.val (.ref a1), .val (.int p1), .val (.ref a2)] [(.ref vb), (.ref a2)])) := r55.trans (st56 _ (Steps.refl _))
  have r58 : Steps p.tables e below S0 (T56.setTop (mkF m 12 #[.val (.ref a1), .val (.int p1), .val (.ref a2)] [(.ref a1), (.int p1), (.ref vb), (.ref a2)])) := by
    refine r57.trans ?_
    show Steps p.tables e below (T56.setTop (mkF m 10 #[.val (.ref a1), .val (.int p1), .val (.ref a2)] [(.ref vb), (.ref a2)])) _
    refine XS.iloadN X56.here hx rfl (hb hby d15_10) rfl ?_
    show Steps p.tables e below (T56.setTop (mkF m 11 #[.val (.ref a1), .val (.int p1), .val (.ref a2)] [(.int p1), (.ref vb), (.ref a2)])) _
    refine XS.aloadN X56.here hx rfl (hb hby d15_11) rfl rfl ?_
    exact Steps.refl _
  obtain ⟨T59, X59, e59, st59⟩ := getF X56 hx hZ hown (host := "") (Or.inl (hw _ (List.mem_of_getElem? (i := 65) rfl))) Via.refl e56 Fc (g := (mkF m 12 #[.val (.ref a1), .val (.int p1), .val (.ref a2)] [(.ref a1), (.int p1), (.ref vb), (.ref a2)])) rfl rfl (hb hby d15_12)
  have r60 : Steps p.tables e below S0 (T59.setTop (mkF m 15 #[.val (.ref a1), .val (.int p1), .val (.ref a2)] [(.int (0 : Int32)), (.int p1), (.ref vb), (.ref a2)])) := r58.trans (st59 _ (Steps.refl _))
  obtain ⟨cq61, kq61, q61a, q61b, q61c⟩ := isOf hZ e59 Es
  obtain ⟨_, _, ⟨T61, L61, k61, n61⟩, -, X61, ⟨Lc61, hQ61, l61, y61, z61⟩, st61⟩ := X59.virtualBack hx (y := (⟨"java/lang/String", "getBytes", "([BIB)V"⟩ : MethodName)) (z := (⟨"java/lang/String", "getBytes", "([BIB)V"⟩ : MethodName)) hown (mvT hZ (hw _ (List.mem_of_getElem? (i := 106) rfl))) (mvT hZ (hw _ (List.mem_of_getElem? (i := 107) rfl))) (notFace_of_selects (args := #[]) (mvT hZ (hw _ (List.mem_of_getElem? (i := 109) rfl)))) (mvT hZ (hw _ (List.mem_of_getElem? (i := 109) rfl))) (mvT hZ (hw _ (List.mem_of_getElem? (i := 108) rfl))) (by decide) (backOf (W := 0) (rmGb l Z a0 hw [] a2 vb p1 (0 : Int32) cz b kb cs kv vs i h0 n0 Z0 O0 Sc hcz hS Av hvl hp rfl hin g_vb) hZ (hw _ (List.mem_of_getElem? (i := 110) rfl)) (hw _ (List.mem_of_getElem? (i := 6) rfl)) (by decide) (by decide)) q61a q61c (g := (mkF m 15 #[.val (.ref a1), .val (.int p1), .val (.ref a2)] [(.int (0 : Int32)), (.int p1), (.ref vb), (.ref a2)])) rfl (by rw [hml]; rfl) (Steps.refl _) (argsL := [(.ref vb), (.int p1), (.int (0 : Int32))]) (rest := []) (lenOf pd_3 rfl) rfl (by show 2 * 0 + _ ≤ _; exact Nat.le_of_eq rfl) (hb hby d15_15) (fun _ _ => ⟨rfl, e59, (by decide : (0 + 0) + 0 ≤ _), (by decide : (0 + 0) + 0 ≤ _)⟩)
  dsimp only [Pt.U, Pt.locs, Pt.cells, Pt.slots] at X61 l61 y61 z61 st61 hQ61
  subst l61 y61 z61
  obtain ⟨rfl, Nq61, Kc61, Vc61⟩ := hQ61
  have N61 := Fr.app N53 Nq61
  have r62 : Steps p.tables e below S0 (T61.setTop (mkF m 18 #[.val (.ref a1), .val (.int p1), .val (.ref a2)] [])) := r60.trans st61
  have F61_a1_value := Fv.keep Kc61 (ninS hav nin0)
  have F61_a1_coder := Fc.keep Kc61 (ninS hav nin0)
  have F61_a1_count := Fn.keep Kc61 (ninS hav nin0)
  have E61_a1 := Ea.keep Kc61
  have E61_a2 := Es.keep Kc61
  have Z61 : n0 ≤ T61.heap.size := Nat.le_trans Z0 Kc61.1
  have K61 := K0.trans Kc61 (allS (Or.inl (List.mem_of_getElem? (i := 0) rfl)) (all0))
  have O61 := O0.keep Kc61 (allS g_vb (all0))
  obtain ⟨fs, hr, hrun, hended, hW, hsame⟩ := X61.leave (v := none) (fun _ => rfl)
  refine ⟨_, _, pre0 _ ?_, hrun, hended, _, _, rfl, ?_, ⟨_, rfl⟩, hW, hsame.mono (by decide) (by decide)⟩
  · rw [← hS0]
    refine r62.trans ?_
    show Steps p.tables e below (T61.setTop (mkF m 18 #[.val (.ref a1), .val (.int p1), .val (.ref a2)] [])) _
    exact X61.returnOut hx Bd.returns (hb hby d15_18) hr
  · show QmPs Z a1 p1 a2 cz vb kv n vs b kb cs i h0 n0 _ T61.heap _; exact ⟨rfl, N61, K61, E61_a1, F61_a1_value, F61_a1_coder, F61_a1_count, Vc61, tk_len hvl hin, hav⟩
theorem pn_39 : plainName "java/lang/AbstractStringBuilder" = true := by first | (simp [plainName, overriddenIn]; done) | decide +kernel
theorem ef_39 (m : MethodId) (x0 : Addr) : entryFrame m #[(.ref x0)] 3 = mkF m 0 #[.val (.ref x0), .unset, .unset] [] := by first | (simp [entryFrame, mkF, argsToLocals, Value.category]; done) | rfl
def QmAn (Z : State) (a1 : Addr) (cz : Int32) (vb : Addr) (kv : ClassId) (n : Nat) (vs : List Value) (h0 : Heap) (n0 : Nat) (v : Option Value) (h : Heap) (L : List Loc) : Prop := v = some (.ref a1) ∧ Fr n0 L ∧ Keep h0 h [a1, vb] ∧ BV Z h a1 vb kv (n + nulls.length) (vs.take n ++ bv nulls ++ vs.drop (n + nulls.length))
set_option maxRecDepth 65536 in
set_option maxHeartbeats 40000000 in
theorem rmAn (l : Launch) (Z : State) (a0 : Array Value) (hw : ∀ d ∈ tables_1, d.before a0 Z = true) (ws : List Jvm.Cond) (a1 : Addr) (cz : Int32) (vb : Addr) (kv : ClassId) (n : Nat) (vs : List Value) (h0 : Heap) (n0 : Nat) (Z0 : n0 ≤ h0.size) (O0 : Old Z n0 h0) (Sc : Sta Z Z.heap "java/lang/String" "COMPACT_STRINGS" "Z" (.int cz)) (hcz : ¬ cz = 0)(hB : BV Z h0 a1 vb kv n vs) (hin : n + nulls.length ≤ 16) (g_a1 : n0 ≤ a1) (g_vb : n0 ≤ vb) :
    MetFree l (⟨"java/lang/AbstractStringBuilder", "appendNull", "()Ljava/lang/AbstractStringBuilder;"⟩ : MethodName) (head1 (Jvm.Cond.code (⟨"java/lang/AbstractStringBuilder", "appendNull", "()Ljava/lang/AbstractStringBuilder;"⟩ : MethodName) jdk_68_method_26_code 3 (some (.object "java/lang/AbstractStringBuilder")) :: ws) ({ frames := 1, cells := 0, slots := 0, locals := 14 } : Room)) (fun a U => a = #[(.ref a1)] ∧ Z.Warmed39 U.vm ∧ U.heap = h0) (fun _ _ _ _ _ => True) (fun _ U o U' => ∃ v L, o = .returned v ∧ QmAn Z a1 cz vb kv n vs h0 n0 v U'.heap L ∧ FrameEnd U o U' L ({ frames := 1, cells := 0, slots := 0, locals := 14 } : Room).cells ({ frames := 1, cells := 0, slots := 0, locals := 14 } : Room).slots) := by
  refine MetFree.of_bodySF (plainFor_of_name pn_39) hisR ?_
  intro p e s m args below meth c s₁ Bd hml0 hP hK
  obtain ⟨rfl, hZ, hh⟩ := hP
  have hx := Bd.exec
  have hby := Bd.bytes
  have hml : c.maxLocals = 3 := hml0
  have hown : s.vm.findClass "java/lang/AbstractStringBuilder" = some m.cls := findClass_of_methodNamed Bd.named
  have hnm := (name_of_methodNamed Bd.named Bd.method).1
  have X0 : Stand p l e ({ frames := 1, cells := 0, slots := 0, locals := 14 } : Room) s m #[(.ref a1)] below meth c s₁ [] 0 0 := Stand.of_body Bd
  have e0 : s₁.heap = h0 := by rw [← hh, Bd.state]; rfl
  have N0 := Fr.nil n0
  have pre0 : ∀ t, Steps p.tables e below (s₁.setTop (mkF m 0 #[.val (.ref a1), .unset, .unset] [])) t → Steps p.tables e below (s₁.setTop (entryFrame m #[(.ref a1)] 3)) t := fun t_ k_ => castTop (ef_39 m a1) k_
  obtain ⟨S0, hS0⟩ : ∃ z, z = s₁.setTop (mkF m 0 #[.val (.ref a1), .unset, .unset] []) := ⟨_, rfl⟩
  have r0 : Steps p.tables e below S0 (s₁.setTop (mkF m 0 #[.val (.ref a1), .unset, .unset] [])) := by rw [hS0]; exact Steps.refl _
  have hB_ := hB
  obtain ⟨Ea, Fv, Fc, Fn, Av, hvl, hav⟩ := hB_
  have hin4 : n + 4 ≤ 16 := hin
  have K0 := Keep.refl h0 [a1, vb]
  have r63 : Steps p.tables e below S0 (s₁.setTop (mkF m 2 #[.val (.ref a1), .unset, .unset] [(.ref a1), (.ref a1)])) := by
    refine r0.trans ?_
    show Steps p.tables e below (s₁.setTop (mkF m 0 #[.val (.ref a1), .unset, .unset] [])) _
    refine XS.aloadN X0.here hx rfl (hb hby d39_0) rfl rfl ?_
    show Steps p.tables e below (s₁.setTop (mkF m 1 #[.val (.ref a1), .unset, .unset] [(.ref a1)])) _
    refine XS.aloadN X0.here hx rfl (hb hby d39_1) rfl rfl ?_
    exact Steps.refl _
  obtain ⟨T64, X64, e64, st64⟩ := getF X0 hx hZ hown (host := "") (Or.inl (hw _ (List.mem_of_getElem? (i := 88) rfl))) Via.refl e0 Fn (g := (mkF m 2 #[.val (.ref a1), .unset, .unset] [(.ref a1), (.ref a1)])) rfl rfl (hb hby d39_2)
  have r65 : Steps p.tables e below S0 (T64.setTop (mkF m 5 #[.val (.ref a1), .unset, .unset] [(.int (Int32.ofNat n)), (.ref a1)])) := r63.trans (st64 _ (Steps.refl _))
  have r66 : Steps p.tables e below S0 (T64.setTop (mkF m 7 #[.val (.ref a1), .unset, .unset] [(.int ((Int32.ofNat n) + (4 : Int32))), (.ref a1)])) := by
    refine r65.trans ?_
    show Steps p.tables e below (T64.setTop (mkF m 5 #[.val (.ref a1), .unset, .unset] [(.int (Int32.ofNat n)), (.ref a1)])) _
    refine XS.iconst X64.here hx rfl (hb hby d39_5) ?_
    show Steps p.tables e below (T64.setTop (mkF m 6 #[.val (.ref a1), .unset, .unset] [(.int (4 : Int32)), (.int (Int32.ofNat n)), (.ref a1)])) _
    refine XS.iadd X64.here hx rfl (hb hby d39_6) rfl ?_
    exact Steps.refl _
  obtain ⟨cq67, kq67, q67a, q67b, q67c⟩ := isOf hZ e64 Ea
  obtain ⟨_, _, ⟨T67, L67, k67, n67⟩, -, X67, ⟨Lc67, hQ67, l67, y67, z67⟩, st67⟩ := X64.virtualBack hx (y := (⟨"java/lang/AbstractStringBuilder", "ensureCapacityInternal", "(I)V"⟩ : MethodName)) (z := (⟨"java/lang/AbstractStringBuilder", "ensureCapacityInternal", "(I)V"⟩ : MethodName)) hown (mvT hZ (hw _ (List.mem_of_getElem? (i := 90) rfl))) (mvT hZ (declOf (hw _ (List.mem_of_getElem? (i := 91) rfl)) (hw _ (List.mem_of_getElem? (i := 94) rfl)))) (notFace_of_selects (args := #[]) (mvT hZ (hw _ (List.mem_of_getElem? (i := 93) rfl)))) (mvT hZ (hw _ (List.mem_of_getElem? (i := 93) rfl))) (mvT hZ (hw _ (List.mem_of_getElem? (i := 91) rfl))) (by decide) (backOf (W := 0) (rmEn l Z a0 hw [] a1 ((Int32.ofNat n) + (4 : Int32)) cz vb kv n vs (n + 4) h0 n0 Z0 hB (i_add n 4) (by omega)) hZ (hw _ (List.mem_of_getElem? (i := 94) rfl)) (hw _ (List.mem_of_getElem? (i := 59) rfl)) (by decide) (by decide)) q67a q67c (g := (mkF m 7 #[.val (.ref a1), .unset, .unset] [(.int ((Int32.ofNat n) + (4 : Int32))), (.ref a1)])) rfl (by rw [hml]; rfl) (Steps.refl _) (argsL := [(.int ((Int32.ofNat n) + (4 : Int32)))]) (rest := []) (lenOf pd_4 rfl) rfl (by show 2 * 0 + _ ≤ _; exact Nat.le_of_eq rfl) (hb hby d39_7) (fun _ _ => ⟨rfl, e64, (by decide : 0 + 0 ≤ _), (by decide : 0 + 0 ≤ _)⟩)
  dsimp only [Pt.U, Pt.locs, Pt.cells, Pt.slots] at X67 l67 y67 z67 st67 hQ67
  subst l67 y67 z67
  obtain ⟨rfl, Nq67, e67⟩ := hQ67
  have N67 := Fr.app N0 Nq67
  have r68 : Steps p.tables e below S0 (T67.setTop (mkF m 10 #[.val (.ref a1), .unset, .unset] [])) := r66.trans st67
  have r69 : Steps p.tables e below S0 (T67.setTop (mkF m 11 #[.val (.ref a1), .unset, .unset] [(.ref a1)])) := by
    refine r68.trans ?_
    show Steps p.tables e below (T67.setTop (mkF m 10 #[.val (.ref a1), .unset, .unset] [])) _
    refine XS.aloadN X67.here hx rfl (hb hby d39_10) rfl rfl ?_
    exact Steps.refl _
  obtain ⟨T70, X70, e70, st70⟩ := getF X67 hx hZ hown (host := "") (Or.inl (hw _ (List.mem_of_getElem? (i := 88) rfl))) Via.refl e67 Fn (g := (mkF m 11 #[.val (.ref a1), .unset, .unset] [(.ref a1)])) rfl rfl (hb hby d39_11)
  have r71 : Steps p.tables e below S0 (T70.setTop (mkF m 14 #[.val (.ref a1), .unset, .unset] [(.int (Int32.ofNat n))])) := r69.trans (st70 _ (Steps.refl _))
  have r72 : Steps p.tables e below S0 (T70.setTop (mkF m 16 #[.val (.ref a1), .val (.int (Int32.ofNat n)), .unset] [(.ref a1)])) := by
    refine r71.trans ?_
    show Steps p.tables e below (T70.setTop (mkF m 14 #[.val (.ref a1), .unset, .unset] [(.int (Int32.ofNat n))])) _
    refine XS.istoreN X70.here hx rfl (hb hby d39_14) rfl (l' := #[.val (.ref a1), .val (.int (Int32.ofNat n)), .unset]) rfl ?_
    show Steps p.tables e below (T70.setTop (mkF m 15 #[.val (.ref a1), .val (.int (Int32.ofNat n)), .unset] [])) _
    refine XS.aloadN X70.here hx rfl (hb hby d39_15) rfl rfl ?_
    exact Steps.refl _
  obtain ⟨T73, X73, e73, st73⟩ := getF X70 hx hZ hown (host := "") (Or.inl (hw _ (List.mem_of_getElem? (i := 63) rfl))) Via.refl e70 Fv (g := (mkF m 16 #[.val (.ref a1), .val (.int (Int32.ofNat n)), .unset] [(.ref a1)])) rfl rfl (hb hby d39_16)
  have r74 : Steps p.tables e below S0 (T73.setTop (mkF m 19 #[.val (.ref a1), .val (.int (Int32.ofNat n)), .unset] [(.ref vb)])) := r72.trans (st73 _ (Steps.refl _))
  have r75 : Steps p.tables e below S0 (T73.setTop (mkF m 21 #[.val (.ref a1), .val (.int (Int32.ofNat n)), .val (.ref vb)] [(.ref a1)])) := by
    refine r74.trans ?_
    show Steps p.tables e below (T73.setTop (mkF m 19 #[.val (.ref a1), .val (.int (Int32.ofNat n)), .unset] [(.ref vb)])) _
    refine XS.astoreN X73.here hx rfl (hb hby d39_19) rfl rfl (l' := #[.val (.ref a1), .val (.int (Int32.ofNat n)), .val (.ref vb)]) rfl ?_
    show Steps p.tables e below (T73.setTop (mkF m 20 #[.val (.ref a1), .val (.int (Int32.ofNat n)), .val (.ref vb)] [])) _
    refine XS.aloadN X73.here hx rfl (hb hby d39_20) rfl rfl ?_
    exact Steps.refl _
  obtain ⟨cq76, kq76, q76a, q76b, q76c⟩ := isOf hZ e73 Ea
  obtain ⟨_, _, ⟨T76, L76, k76, n76⟩, -, X76, ⟨Lc76, hQ76, l76, y76, z76⟩, st76⟩ := X73.virtualBack hx (y := (⟨"java/lang/AbstractStringBuilder", "isLatin1", "()Z"⟩ : MethodName)) (z := (⟨"java/lang/AbstractStringBuilder", "isLatin1", "()Z"⟩ : MethodName)) hown (mvT hZ (hw _ (List.mem_of_getElem? (i := 205) rfl))) (mvT hZ (hw _ (List.mem_of_getElem? (i := 142) rfl))) (notFace_of_selects (args := #[]) (mvT hZ (hw _ (List.mem_of_getElem? (i := 144) rfl)))) (mvT hZ (hw _ (List.mem_of_getElem? (i := 144) rfl))) (mvT hZ (hw _ (List.mem_of_getElem? (i := 143) rfl))) (by decide) (backOf (W := 0) (rmIl l Z a0 hw [] a1 cz vb kv n vs h0 n0 Z0 O0 Sc hcz hB) hZ (hw _ (List.mem_of_getElem? (i := 145) rfl)) (hw _ (List.mem_of_getElem? (i := 59) rfl)) (by decide) (by decide)) q76a q76c (g := (mkF m 21 #[.val (.ref a1), .val (.int (Int32.ofNat n)), .val (.ref vb)] [(.ref a1)])) rfl (by rw [hml]; rfl) (Steps.refl _) (argsL := []) (rest := []) (lenOf pd_5 rfl) rfl (by show 2 * 0 + _ ≤ _; exact Nat.le_of_eq rfl) (hb hby d39_21) (fun _ _ => ⟨rfl, e73, (by decide : (0 + 0) + 0 ≤ _), (by decide : (0 + 0) + 0 ≤ _)⟩)
  dsimp only [Pt.U, Pt.locs, Pt.cells, Pt.slots] at X76 l76 y76 z76 st76 hQ76
  subst l76 y76 z76
  obtain ⟨rfl, Nq76, e76⟩ := hQ76
  have N76 := Fr.app N67 Nq76
  have r77 : Steps p.tables e below S0 (T76.setTop (mkF m 24 #[.val (.ref a1), .val (.int (Int32.ofNat n)), .val (.ref vb)] [(.int (1 : Int32))])) := r75.trans st76
  have r78 : Steps p.tables e below S0 (T76.setTop (mkF m 34 #[.val (.ref a1), .val (.int ((Int32.ofNat n) + (1 : Int32))), .val (.ref vb)] [(.int (110 : Int32)), (.int (Int32.ofNat n)), (.ref vb)])) := by
    refine r77.trans ?_
    show Steps p.tables e below (T76.setTop (mkF m 24 #[.val (.ref a1), .val (.int (Int32.ofNat n)), .val (.ref vb)] [(.int (1 : Int32))])) _
    refine XS.ifNo X76.here hx rfl (hb hby d39_24) rfl ((if0 _ _).trans (feq (by decide)).1) ?_
    show Steps p.tables e below (T76.setTop (mkF m 27 #[.val (.ref a1), .val (.int (Int32.ofNat n)), .val (.ref vb)] [])) _
    refine XS.aloadN X76.here hx rfl (hb hby d39_27) rfl rfl ?_
    show Steps p.tables e below (T76.setTop (mkF m 28 #[.val (.ref a1), .val (.int (Int32.ofNat n)), .val (.ref vb)] [(.ref vb)])) _
    refine XS.iloadN X76.here hx rfl (hb hby d39_28) rfl ?_
    show Steps p.tables e below (T76.setTop (mkF m 29 #[.val (.ref a1), .val (.int (Int32.ofNat n)), .val (.ref vb)] [(.int (Int32.ofNat n)), (.ref vb)])) _
    refine XS.iinc X76.here hx rfl (hb hby d39_29) rfl (l' := #[.val (.ref a1), .val (.int ((Int32.ofNat n) + (1 : Int32))), .val (.ref vb)]) rfl ?_
    show Steps p.tables e below (T76.setTop (mkF m 32 #[.val (.ref a1), .val (.int ((Int32.ofNat n) + (1 : Int32))), .val (.ref vb)] [(.int (Int32.ofNat n)), (.ref vb)])) _
    refine XS.bipush X76.here hx rfl (hb hby d39_32) ?_
    exact Steps.refl _
  obtain ⟨T79, h79, X79, e79, W79, V79, st79⟩ := stBA X76 hx hZ e76 Av (j := (Int32.ofNat n)) (i := n) (i_cl n (by omega)).2.1 (i_cl n (by omega)).1 (by first | omega | (simp only [List.length_set]; omega)) (by show n + 0 < 16; omega) (g := (mkF m 34 #[.val (.ref a1), .val (.int ((Int32.ofNat n) + (1 : Int32))), .val (.ref vb)] [(.int (110 : Int32)), (.int (Int32.ofNat n)), (.ref vb)])) rfl rfl (hb hby d39_34)
  have N79 := Fr.snoc X79 N76 g_vb
  have F79_a1_value := Fv.other W79 (Or.inl hav)
  have F79_a1_coder := Fc.other W79 (Or.inl hav)
  have F79_a1_count := Fn.other W79 (Or.inl hav)
  have E79_a1 := Ea.wr W79
  have Z79 : n0 ≤ h79.size := Nat.le_trans Z0 (Nat.le_of_eq W79.size.symm)
  have K79 := K0.wr W79 (Or.inl (List.mem_of_getElem? (i := 1) rfl))
  have O79 := O0.wr W79 g_vb
  have r80 : Steps p.tables e below S0 (T79.setTop (mkF m 35 #[.val (.ref a1), .val (.int ((Int32.ofNat n) + (1 : Int32))), .val (.ref vb)] [])) := r78.trans (st79 _ (Steps.refl _))
  have r81 : Steps p.tables e below S0 (T79.setTop (mkF m 35 #[.val (.ref a1), .val (.int (Int32.ofNat (n + 1))), .val (.ref vb)] [])) := by rw [← (i_add n 1)]; exact r80
  have r82 : Steps p.tables e below S0 (T79.setTop (mkF m 42 #[.val (.ref a1), .val (.int ((Int32.ofNat (n + 1)) + (1 : Int32))), .val (.ref vb)] [(.int (117 : Int32)), (.int (Int32.ofNat (n + 1))), (.ref vb)])) := by
    refine r81.trans ?_
    show Steps p.tables e below (T79.setTop (mkF m 35 #[.val (.ref a1), .val (.int (Int32.ofNat (n + 1))), .val (.ref vb)] [])) _
    refine XS.aloadN X79.here hx rfl (hb hby d39_35) rfl rfl ?_
    show Steps p.tables e below (T79.setTop (mkF m 36 #[.val (.ref a1), .val (.int (Int32.ofNat (n + 1))), .val (.ref vb)] [(.ref vb)])) _
    refine XS.iloadN X79.here hx rfl (hb hby d39_36) rfl ?_
    show Steps p.tables e below (T79.setTop (mkF m 37 #[.val (.ref a1), .val (.int (Int32.ofNat (n + 1))), .val (.ref vb)] [(.int (Int32.ofNat (n + 1))), (.ref vb)])) _
    refine XS.iinc X79.here hx rfl (hb hby d39_37) rfl (l' := #[.val (.ref a1), .val (.int ((Int32.ofNat (n + 1)) + (1 : Int32))), .val (.ref vb)]) rfl ?_
    show Steps p.tables e below (T79.setTop (mkF m 40 #[.val (.ref a1), .val (.int ((Int32.ofNat (n + 1)) + (1 : Int32))), .val (.ref vb)] [(.int (Int32.ofNat (n + 1))), (.ref vb)])) _
    refine XS.bipush X79.here hx rfl (hb hby d39_40) ?_
    exact Steps.refl _
  obtain ⟨T83, h83, X83, e83, W83, V83, st83⟩ := stBA X79 hx hZ e79 V79 (j := (Int32.ofNat (n + 1))) (i := (n + 1)) (i_cl (n + 1) (by omega)).2.1 (i_cl (n + 1) (by omega)).1 (by first | omega | (simp only [List.length_set]; omega)) (by show n + 1 < 16; omega) (g := (mkF m 42 #[.val (.ref a1), .val (.int ((Int32.ofNat (n + 1)) + (1 : Int32))), .val (.ref vb)] [(.int (117 : Int32)), (.int (Int32.ofNat (n + 1))), (.ref vb)])) rfl rfl (hb hby d39_42)
  have N83 := Fr.snoc X83 N79 g_vb
  have F83_a1_value := F79_a1_value.other W83 (Or.inl hav)
  have F83_a1_coder := F79_a1_coder.other W83 (Or.inl hav)
  have F83_a1_count := F79_a1_count.other W83 (Or.inl hav)
  have E83_a1 := E79_a1.wr W83
  have Z83 : n0 ≤ h83.size := Nat.le_trans Z79 (Nat.le_of_eq W83.size.symm)
  have K83 := K79.wr W83 (Or.inl (List.mem_of_getElem? (i := 1) rfl))
  have O83 := O79.wr W83 g_vb
  have r84 : Steps p.tables e below S0 (T83.setTop (mkF m 43 #[.val (.ref a1), .val (.int ((Int32.ofNat (n + 1)) + (1 : Int32))), .val (.ref vb)] [])) := r82.trans (st83 _ (Steps.refl _))
  have r85 : Steps p.tables e below S0 (T83.setTop (mkF m 43 #[.val (.ref a1), .val (.int (Int32.ofNat (n + 2))), .val (.ref vb)] [])) := by rw [← (i_add (n + 1) 1)]; exact r84
  have r86 : Steps p.tables e below S0 (T83.setTop (mkF m 50 #[.val (.ref a1), .val (.int ((Int32.ofNat (n + 2)) + (1 : Int32))), .val (.ref vb)] [(.int (108 : Int32)), (.int (Int32.ofNat (n + 2))), (.ref vb)])) := by
    refine r85.trans ?_
    show Steps p.tables e below (T83.setTop (mkF m 43 #[.val (.ref a1), .val (.int (Int32.ofNat (n + 2))), .val (.ref vb)] [])) _
    refine XS.aloadN X83.here hx rfl (hb hby d39_43) rfl rfl ?_
    show Steps p.tables e below (T83.setTop (mkF m 44 #[.val (.ref a1), .val (.int (Int32.ofNat (n + 2))), .val (.ref vb)] [(.ref vb)])) _
    refine XS.iloadN X83.here hx rfl (hb hby d39_44) rfl ?_
    show Steps p.tables e below (T83.setTop (mkF m 45 #[.val (.ref a1), .val (.int (Int32.ofNat (n + 2))), .val (.ref vb)] [(.int (Int32.ofNat (n + 2))), (.ref vb)])) _
    refine XS.iinc X83.here hx rfl (hb hby d39_45) rfl (l' := #[.val (.ref a1), .val (.int ((Int32.ofNat (n + 2)) + (1 : Int32))), .val (.ref vb)]) rfl ?_
    show Steps p.tables e below (T83.setTop (mkF m 48 #[.val (.ref a1), .val (.int ((Int32.ofNat (n + 2)) + (1 : Int32))), .val (.ref vb)] [(.int (Int32.ofNat (n + 2))), (.ref vb)])) _
    refine XS.bipush X83.here hx rfl (hb hby d39_48) ?_
    exact Steps.refl _
  obtain ⟨T87, h87, X87, e87, W87, V87, st87⟩ := stBA X83 hx hZ e83 V83 (j := (Int32.ofNat (n + 2))) (i := (n + 2)) (i_cl (n + 2) (by omega)).2.1 (i_cl (n + 2) (by omega)).1 (by first | omega | (simp only [List.length_set]; omega)) (by show n + 2 < 16; omega) (g := (mkF m 50 #[.val (.ref a1), .val (.int ((Int32.ofNat (n + 2)) + (1 : Int32))), .val (.ref vb)] [(.int (108 : Int32)), (.int (Int32.ofNat (n + 2))), (.ref vb)])) rfl rfl (hb hby d39_50)
  have N87 := Fr.snoc X87 N83 g_vb
  have F87_a1_value := F83_a1_value.other W87 (Or.inl hav)
  have F87_a1_coder := F83_a1_coder.other W87 (Or.inl hav)
  have F87_a1_count := F83_a1_count.other W87 (Or.inl hav)
  have E87_a1 := E83_a1.wr W87
  have Z87 : n0 ≤ h87.size := Nat.le_trans Z83 (Nat.le_of_eq W87.size.symm)
  have K87 := K83.wr W87 (Or.inl (List.mem_of_getElem? (i := 1) rfl))
  have O87 := O83.wr W87 g_vb
  have r88 : Steps p.tables e below S0 (T87.setTop (mkF m 51 #[.val (.ref a1), .val (.int ((Int32.ofNat (n + 2)) + (1 : Int32))), .val (.ref vb)] [])) := r86.trans (st87 _ (Steps.refl _))
  have r89 : Steps p.tables e below S0 (T87.setTop (mkF m 51 #[.val (.ref a1), .val (.int (Int32.ofNat (n + 3))), .val (.ref vb)] [])) := by rw [← (i_add (n + 2) 1)]; exact r88
  have r90 : Steps p.tables e below S0 (T87.setTop (mkF m 58 #[.val (.ref a1), .val (.int ((Int32.ofNat (n + 3)) + (1 : Int32))), .val (.ref vb)] [(.int (108 : Int32)), (.int (Int32.ofNat (n + 3))), (.ref vb)])) := by
    refine r89.trans ?_
    show Steps p.tables e below (T87.setTop (mkF m 51 #[.val (.ref a1), .val (.int (Int32.ofNat (n + 3))), .val (.ref vb)] [])) _
    refine XS.aloadN X87.here hx rfl (hb hby d39_51) rfl rfl ?_
    show Steps p.tables e below (T87.setTop (mkF m 52 #[.val (.ref a1), .val (.int (Int32.ofNat (n + 3))), .val (.ref vb)] [(.ref vb)])) _
    refine XS.iloadN X87.here hx rfl (hb hby d39_52) rfl ?_
    show Steps p.tables e below (T87.setTop (mkF m 53 #[.val (.ref a1), .val (.int (Int32.ofNat (n + 3))), .val (.ref vb)] [(.int (Int32.ofNat (n + 3))), (.ref vb)])) _
    refine XS.iinc X87.here hx rfl (hb hby d39_53) rfl (l' := #[.val (.ref a1), .val (.int ((Int32.ofNat (n + 3)) + (1 : Int32))), .val (.ref vb)]) rfl ?_
    show Steps p.tables e below (T87.setTop (mkF m 56 #[.val (.ref a1), .val (.int ((Int32.ofNat (n + 3)) + (1 : Int32))), .val (.ref vb)] [(.int (Int32.ofNat (n + 3))), (.ref vb)])) _
    refine XS.bipush X87.here hx rfl (hb hby d39_56) ?_
    exact Steps.refl _
  obtain ⟨T91, h91, X91, e91, W91, V91, st91⟩ := stBA X87 hx hZ e87 V87 (j := (Int32.ofNat (n + 3))) (i := (n + 3)) (i_cl (n + 3) (by omega)).2.1 (i_cl (n + 3) (by omega)).1 (by first | omega | (simp only [List.length_set]; omega)) (by show n + 3 < 16; omega) (g := (mkF m 58 #[.val (.ref a1), .val (.int ((Int32.ofNat (n + 3)) + (1 : Int32))), .val (.ref vb)] [(.int (108 : Int32)), (.int (Int32.ofNat (n + 3))), (.ref vb)])) rfl rfl (hb hby d39_58)
  have N91 := Fr.snoc X91 N87 g_vb
  have F91_a1_value := F87_a1_value.other W91 (Or.inl hav)
  have F91_a1_coder := F87_a1_coder.other W91 (Or.inl hav)
  have F91_a1_count := F87_a1_count.other W91 (Or.inl hav)
  have E91_a1 := E87_a1.wr W91
  have Z91 : n0 ≤ h91.size := Nat.le_trans Z87 (Nat.le_of_eq W91.size.symm)
  have K91 := K87.wr W91 (Or.inl (List.mem_of_getElem? (i := 1) rfl))
  have O91 := O87.wr W91 g_vb
  have r92 : Steps p.tables e below S0 (T91.setTop (mkF m 59 #[.val (.ref a1), .val (.int ((Int32.ofNat (n + 3)) + (1 : Int32))), .val (.ref vb)] [])) := r90.trans (st91 _ (Steps.refl _))
  have r93 : Steps p.tables e below S0 (T91.setTop (mkF m 59 #[.val (.ref a1), .val (.int (Int32.ofNat (n + 4))), .val (.ref vb)] [])) := by rw [← (i_add (n + 3) 1)]; exact r92
  have r94 : Steps p.tables e below S0 (T91.setTop (mkF m 78 #[.val (.ref a1), .val (.int (Int32.ofNat (n + 4))), .val (.ref vb)] [(.int (Int32.ofNat (n + 4))), (.ref a1)])) := by
    refine r93.trans ?_
    show Steps p.tables e below (T91.setTop (mkF m 59 #[.val (.ref a1), .val (.int (Int32.ofNat (n + 4))), .val (.ref vb)] [])) _
    refine XS.goto X91.here hx rfl (pc0 := 59) (pc' := 76) rfl (hb hby d39_59) (by decide) (by decide) ?_
    show Steps p.tables e below (T91.setTop (mkF m 76 #[.val (.ref a1), .val (.int (Int32.ofNat (n + 4))), .val (.ref vb)] [])) _
    refine XS.aloadN X91.here hx rfl (hb hby d39_76) rfl rfl ?_
    show Steps p.tables e below (T91.setTop (mkF m 77 #[.val (.ref a1), .val (.int (Int32.ofNat (n + 4))), .val (.ref vb)] [(.ref a1)])) _
    refine XS.iloadN X91.here hx rfl (hb hby d39_77) rfl ?_
    exact Steps.refl _
  obtain ⟨T95, h95, X95, e95, W95, st95⟩ := putF X91 hx hZ hown (host := "") (Or.inl (hw _ (List.mem_of_getElem? (i := 88) rfl))) Via.refl e91 F91_a1_count E91_a1 (Or.inl (hw _ (List.mem_of_getElem? (i := 89) rfl))) (hw _ (List.mem_of_getElem? (i := 50) rfl)) (ty := .int) (by decide) rfl rfl (g := (mkF m 78 #[.val (.ref a1), .val (.int (Int32.ofNat (n + 4))), .val (.ref vb)] [(.int (Int32.ofNat (n + 4))), (.ref a1)])) rfl rfl (hb hby d39_78)
  have N95 := Fr.snoc X95 N91 g_a1
  have F95_a1_value := F91_a1_value.other W95 (Or.inr (slot_ne (a0 := a0) (Or.inl (hw _ (List.mem_of_getElem? (i := 64) rfl))) (Or.inl (hw _ (List.mem_of_getElem? (i := 89) rfl))) (by decide) (t := (.array .byte)) (t' := .int) (by decide) (by decide)))
  have F95_a1_coder := F91_a1_coder.other W95 (Or.inr (slot_ne (a0 := a0) (Or.inl (hw _ (List.mem_of_getElem? (i := 66) rfl))) (Or.inl (hw _ (List.mem_of_getElem? (i := 89) rfl))) (by decide) (t := .byte) (t' := .int) (by decide) (by decide)))
  have F95_a1_count := F91_a1_count.same W95
  have E95_a1 := E91_a1.wr W95
  have Z95 : n0 ≤ h95.size := Nat.le_trans Z91 (Nat.le_of_eq W95.size.symm)
  have K95 := K91.wr W95 (Or.inl (List.mem_of_getElem? (i := 0) rfl))
  have O95 := O91.wr W95 g_a1
  have V95_vb := V91.other W95 (Ne.symm hav)
  have r96 : Steps p.tables e below S0 (T95.setTop (mkF m 81 #[.val (.ref a1), .val (.int (Int32.ofNat (n + 4))), .val (.ref vb)] [])) := r94.trans (st95 _ (Steps.refl _))
  have r97 : Steps p.tables e below S0 (T95.setTop (mkF m 82 #[.val (.ref a1), .val (.int (Int32.ofNat (n + 4))), .val (.ref vb)] [(.ref a1)])) := by
    refine r96.trans ?_
    show Steps p.tables e below (T95.setTop (mkF m 81 #[.val (.ref a1), .val (.int (Int32.ofNat (n + 4))), .val (.ref vb)] [])) _
    refine XS.aloadN X95.here hx rfl (hb hby d39_81) rfl rfl ?_
    exact Steps.refl _
  obtain ⟨fs, hr, hrun, hended, hW, hsame⟩ := X95.leave (v := some (.ref a1)) (fun h => by rw [Bd.returns] at h; cases h)
  refine ⟨_, _, pre0 _ ?_, hrun, hended, _, _, rfl, ?_, ⟨_, rfl⟩, hW, hsame.mono (by decide) (by decide)⟩
  · rw [← hS0]
    refine r97.trans ?_
    show Steps p.tables e below (T95.setTop (mkF m 82 #[.val (.ref a1), .val (.int (Int32.ofNat (n + 4))), .val (.ref vb)] [(.ref a1)])) _
    jvm_step X95.here [X95.here.top, hx, (hb hby d39_82), X95.method', Bd.returns, Value.isRef, FieldType.isReference]
    first | (intro acts; rw [hr _ acts rfl rfl rfl]) | rw [hr _ _ rfl rfl rfl]
    exact Steps.refl _
  · show QmAn Z a1 cz vb kv n vs h0 n0 _ T95.heap _; rw [e95]; exact ⟨rfl, N95, K95, E95_a1, F95_a1_value, F95_a1_coder, F95_a1_count, by rw [← nul_set hvl hin4]; exact V95_vb, tk_len (cs := nulls) hvl hin, hav⟩
theorem pn_11 : plainName "java/lang/AbstractStringBuilder" = true := by first | (simp [plainName, overriddenIn]; done) | decide +kernel
theorem ef_11n (m : MethodId) (x0 : Addr) : entryFrame m #[(.ref x0), .null] 3 = mkF m 0 #[.val (.ref x0), .val .null, .unset] [] := by first | (simp [entryFrame, mkF, argsToLocals, Value.category]; done) | rfl
def QmAp0 (Z : State) (a1 : Addr) (cz : Int32) (vb : Addr) (kv : ClassId) (n : Nat) (vs : List Value) (h0 : Heap) (n0 : Nat) (v : Option Value) (h : Heap) (L : List Loc) : Prop := v = some (.ref a1) ∧ Fr n0 L ∧ Keep h0 h [a1, vb] ∧ BV Z h a1 vb kv (n + nulls.length) (vs.take n ++ bv nulls ++ vs.drop (n + nulls.length))
set_option maxRecDepth 65536 in
set_option maxHeartbeats 40000000 in
theorem rmAp0 (l : Launch) (Z : State) (a0 : Array Value) (hw : ∀ d ∈ tables_1, d.before a0 Z = true) (ws : List Jvm.Cond) (a1 : Addr) (cz : Int32) (vb : Addr) (kv : ClassId) (n : Nat) (vs : List Value) (h0 : Heap) (n0 : Nat) (Z0 : n0 ≤ h0.size) (O0 : Old Z n0 h0) (Sc : Sta Z Z.heap "java/lang/String" "COMPACT_STRINGS" "Z" (.int cz)) (hcz : ¬ cz = 0)(hB : BV Z h0 a1 vb kv n vs) (hin : n + nulls.length ≤ 16) (g_a1 : n0 ≤ a1) (g_vb : n0 ≤ vb) :
    MetFree l (⟨"java/lang/AbstractStringBuilder", "append", "(Ljava/lang/String;)Ljava/lang/AbstractStringBuilder;"⟩ : MethodName) (head1 (Jvm.Cond.code (⟨"java/lang/AbstractStringBuilder", "append", "(Ljava/lang/String;)Ljava/lang/AbstractStringBuilder;"⟩ : MethodName) jdk_68_method_22_code 3 (some (.object "java/lang/AbstractStringBuilder")) :: ws) ({ frames := 3, cells := 0, slots := 0, locals := 90 } : Room)) (fun a U => a = #[(.ref a1), .null] ∧ Z.Warmed39 U.vm ∧ U.heap = h0) (fun _ _ _ _ _ => True) (fun _ U o U' => ∃ v L, o = .returned v ∧ QmAp0 Z a1 cz vb kv n vs h0 n0 v U'.heap L ∧ FrameEnd U o U' L ({ frames := 3, cells := 0, slots := 0, locals := 90 } : Room).cells ({ frames := 3, cells := 0, slots := 0, locals := 90 } : Room).slots) := by
  refine MetFree.of_bodySF (plainFor_of_name pn_11) hisR ?_
  intro p e s m args below meth c s₁ Bd hml0 hP hK
  obtain ⟨rfl, hZ, hh⟩ := hP
  have hx := Bd.exec
  have hby := Bd.bytes
  have hml : c.maxLocals = 3 := hml0
  have hown : s.vm.findClass "java/lang/AbstractStringBuilder" = some m.cls := findClass_of_methodNamed Bd.named
  have hnm := (name_of_methodNamed Bd.named Bd.method).1
  have X0 : Stand p l e ({ frames := 3, cells := 0, slots := 0, locals := 90 } : Room) s m #[(.ref a1), .null] below meth c s₁ [] 0 0 := Stand.of_body Bd
  have e0 : s₁.heap = h0 := by rw [← hh, Bd.state]; rfl
  have N0 := Fr.nil n0
  have pre0 : ∀ t, Steps p.tables e below (s₁.setTop (mkF m 0 #[.val (.ref a1), .val .null, .unset] [])) t → Steps p.tables e below (s₁.setTop (entryFrame m #[(.ref a1), .null] 3)) t := fun t_ k_ => castTop (ef_11n m a1) k_
  obtain ⟨S0, hS0⟩ : ∃ z, z = s₁.setTop (mkF m 0 #[.val (.ref a1), .val .null, .unset] []) := ⟨_, rfl⟩
  have r0 : Steps p.tables e below S0 (s₁.setTop (mkF m 0 #[.val (.ref a1), .val .null, .unset] [])) := by rw [hS0]; exact Steps.refl _
  have hB_ := hB
  obtain ⟨Ea, Fv, Fc, Fn, Av, hvl, hav⟩ := hB_
  have r98 : Steps p.tables e below S0 (s₁.setTop (mkF m 5 #[.val (.ref a1), .val .null, .unset] [(.ref a1)])) := by
    refine r0.trans ?_
    show Steps p.tables e below (s₁.setTop (mkF m 0 #[.val (.ref a1), .val .null, .unset] [])) _
    refine XS.aloadN X0.here hx rfl (hb hby d11_0) rfl rfl ?_
    show Steps p.tables e below (s₁.setTop (mkF m 1 #[.val (.ref a1), .val .null, .unset] [.null])) _
    refine XS.ifnonnullNo X0.here hx rfl (hb hby d11_1) rfl ?_
    show Steps p.tables e below (s₁.setTop (mkF m 4 #[.val (.ref a1), .val .null, .unset] [])) _
    refine XS.aloadN X0.here hx rfl (hb hby d11_4) rfl rfl ?_
    exact Steps.refl _
  obtain ⟨cq99, kq99, q99a, q99b, q99c⟩ := isOf hZ e0 Ea
  obtain ⟨_, _, ⟨T99, L99, k99, n99⟩, -, X99, ⟨Lc99, hQ99, l99, y99, z99⟩, st99⟩ := X0.virtualBack hx (y := (⟨"java/lang/AbstractStringBuilder", "appendNull", "()Ljava/lang/AbstractStringBuilder;"⟩ : MethodName)) (z := (⟨"java/lang/AbstractStringBuilder", "appendNull", "()Ljava/lang/AbstractStringBuilder;"⟩ : MethodName)) hown (mvT hZ (hw _ (List.mem_of_getElem? (i := 200) rfl))) (mvT hZ (declOf (hw _ (List.mem_of_getElem? (i := 201) rfl)) (hw _ (List.mem_of_getElem? (i := 204) rfl)))) (notFace_of_selects (args := #[]) (mvT hZ (hw _ (List.mem_of_getElem? (i := 203) rfl)))) (mvT hZ (hw _ (List.mem_of_getElem? (i := 203) rfl))) (mvT hZ (hw _ (List.mem_of_getElem? (i := 201) rfl))) (by decide) (backOf (W := 0) (rmAn l Z a0 hw [] a1 cz vb kv n vs h0 n0 Z0 O0 Sc hcz hB hin g_a1 g_vb) hZ (hw _ (List.mem_of_getElem? (i := 204) rfl)) (hw _ (List.mem_of_getElem? (i := 59) rfl)) (by decide) (by decide)) q99a q99c (g := (mkF m 5 #[.val (.ref a1), .val .null, .unset] [(.ref a1)])) rfl (by rw [hml]; rfl) (Steps.refl _) (argsL := []) (rest := []) (lenOf pd_6 rfl) rfl (by show 2 * 0 + _ ≤ _; exact Nat.le_of_eq rfl) (hb hby d11_5) (fun _ _ => ⟨rfl, e0, (by decide : 0 + 0 ≤ _), (by decide : 0 + 0 ≤ _)⟩)
  dsimp only [Pt.U, Pt.locs, Pt.cells, Pt.slots] at X99 l99 y99 z99 st99 hQ99
  subst l99 y99 z99
  obtain ⟨rfl, Nq99, Kc99, hBc99⟩ := hQ99
  have N99 := Fr.app N0 Nq99
  have r100 : Steps p.tables e below S0 (T99.setTop (mkF m 8 #[.val (.ref a1), .val .null, .unset] [(.ref a1)])) := r98.trans st99
  obtain ⟨fs, hr, hrun, hended, hW, hsame⟩ := X99.leave (v := some (.ref a1)) (fun h => by rw [Bd.returns] at h; cases h)
  refine ⟨_, _, pre0 _ ?_, hrun, hended, _, _, rfl, ?_, ⟨_, rfl⟩, hW, hsame.mono (by decide) (by decide)⟩
  · rw [← hS0]
    refine r100.trans ?_
    show Steps p.tables e below (T99.setTop (mkF m 8 #[.val (.ref a1), .val .null, .unset] [(.ref a1)])) _
    jvm_step X99.here [X99.here.top, hx, (hb hby d11_8), X99.method', Bd.returns, Value.isRef, FieldType.isReference]
    first | (intro acts; rw [hr _ acts rfl rfl rfl]) | rw [hr _ _ rfl rfl rfl]
    exact Steps.refl _
  · show QmAp0 Z a1 cz vb kv n vs h0 n0 _ T99.heap _; exact ⟨rfl, N99, Kc99, hBc99⟩
theorem ef_11r (m : MethodId) (x0 : Addr) (x1 : Addr) : entryFrame m #[(.ref x0), (.ref x1)] 3 = mkF m 0 #[.val (.ref x0), .val (.ref x1), .unset] [] := by first | (simp [entryFrame, mkF, argsToLocals, Value.category]; done) | rfl
def QmAp1 (Z : State) (a1 : Addr) (a2 : Addr) (cz : Int32) (vb : Addr) (kv : ClassId) (n : Nat) (vs : List Value) (b : Addr) (kb : ClassId) (cs : List Int32) (h0 : Heap) (n0 : Nat) (v : Option Value) (h : Heap) (L : List Loc) : Prop := v = some (.ref a1) ∧ Fr n0 L ∧ Keep h0 h [a1, vb] ∧ BV Z h a1 vb kv (n + cs.length) (vs.take n ++ bv cs ++ vs.drop (n + cs.length))
set_option maxRecDepth 65536 in
set_option maxHeartbeats 40000000 in
theorem rmAp1 (l : Launch) (Z : State) (a0 : Array Value) (hw : ∀ d ∈ tables_1, d.before a0 Z = true) (ws : List Jvm.Cond) (a1 : Addr) (a2 : Addr) (cz : Int32) (vb : Addr) (kv : ClassId) (n : Nat) (vs : List Value) (b : Addr) (kb : ClassId) (cs : List Int32) (h0 : Heap) (n0 : Nat) (Z0 : n0 ≤ h0.size) (O0 : Old Z n0 h0) (Sc : Sta Z Z.heap "java/lang/String" "COMPACT_STRINGS" "Z" (.int cz)) (hcz : ¬ cz = 0)(hB : BV Z h0 a1 vb kv n vs) (hS : StrAt Z h0 a2 b kb cs) (hl : LatN 16 cs) (hin : n + cs.length ≤ 16) (g_a1 : n0 ≤ a1) (g_vb : n0 ≤ vb) :
    MetFree l (⟨"java/lang/AbstractStringBuilder", "append", "(Ljava/lang/String;)Ljava/lang/AbstractStringBuilder;"⟩ : MethodName) (head1 (Jvm.Cond.code (⟨"java/lang/AbstractStringBuilder", "append", "(Ljava/lang/String;)Ljava/lang/AbstractStringBuilder;"⟩ : MethodName) jdk_68_method_22_code 3 (some (.object "java/lang/AbstractStringBuilder")) :: ws) ({ frames := 3, cells := 0, slots := 0, locals := 90 } : Room)) (fun a U => a = #[(.ref a1), (.ref a2)] ∧ Z.Warmed39 U.vm ∧ U.heap = h0) (fun _ _ _ _ _ => True) (fun _ U o U' => ∃ v L, o = .returned v ∧ QmAp1 Z a1 a2 cz vb kv n vs b kb cs h0 n0 v U'.heap L ∧ FrameEnd U o U' L ({ frames := 3, cells := 0, slots := 0, locals := 90 } : Room).cells ({ frames := 3, cells := 0, slots := 0, locals := 90 } : Room).slots) := by
  refine MetFree.of_bodySF (plainFor_of_name pn_11) hisR ?_
  intro p e s m args below meth c s₁ Bd hml0 hP hK
  obtain ⟨rfl, hZ, hh⟩ := hP
  have hx := Bd.exec
  have hby := Bd.bytes
  have hml : c.maxLocals = 3 := hml0
  have hown : s.vm.findClass "java/lang/AbstractStringBuilder" = some m.cls := findClass_of_methodNamed Bd.named
  have hnm := (name_of_methodNamed Bd.named Bd.method).1
  have X0 : Stand p l e ({ frames := 3, cells := 0, slots := 0, locals := 90 } : Room) s m #[(.ref a1), (.ref a2)] below meth c s₁ [] 0 0 := Stand.of_body Bd
  have e0 : s₁.heap = h0 := by rw [← hh, Bd.state]; rfl
  have N0 := Fr.nil n0
  have pre0 : ∀ t, Steps p.tables e below (s₁.setTop (mkF m 0 #[.val (.ref a1), .val (.ref a2), .unset] [])) t → Steps p.tables e below (s₁.setTop (entryFrame m #[(.ref a1), (.ref a2)] 3)) t := fun t_ k_ => castTop (ef_11r m a1 a2) k_
  obtain ⟨S0, hS0⟩ : ∃ z, z = s₁.setTop (mkF m 0 #[.val (.ref a1), .val (.ref a2), .unset] []) := ⟨_, rfl⟩
  have r0 : Steps p.tables e below S0 (s₁.setTop (mkF m 0 #[.val (.ref a1), .val (.ref a2), .unset] [])) := by rw [hS0]; exact Steps.refl _
  have hB_ := hB
  obtain ⟨Ea, Fv, Fc, Fn, Av, hvl, hav⟩ := hB_
  have hS2 := hS
  obtain ⟨Es, Fs, Fvs, Abs⟩ := hS2
  have K0 := Keep.refl h0 [a1, vb]
  have hln : ∀ d ∈ StrChars.Road.wordsLen, d.before a0 Z = true := fun d hd => hw d ((by decide +kernel : ∀ d ∈ StrChars.Road.wordsLen, d ∈ tables_1) d hd)
  have r101 : Steps p.tables e below S0 (s₁.setTop (mkF m 10 #[.val (.ref a1), .val (.ref a2), .unset] [(.ref a2)])) := by
    refine r0.trans ?_
    show Steps p.tables e below (s₁.setTop (mkF m 0 #[.val (.ref a1), .val (.ref a2), .unset] [])) _
    refine XS.aloadN X0.here hx rfl (hb hby d11_0) rfl rfl ?_
    show Steps p.tables e below (s₁.setTop (mkF m 1 #[.val (.ref a1), .val (.ref a2), .unset] [(.ref a2)])) _
    refine XS.ifnonnullYes X0.here hx rfl (pc0 := 1) (pc' := 9) rfl (hb hby d11_1) rfl (by decide) (by decide) ?_
    show Steps p.tables e below (s₁.setTop (mkF m 9 #[.val (.ref a1), .val (.ref a2), .unset] [])) _
    refine XS.aloadN X0.here hx rfl (hb hby d11_9) rfl rfl ?_
    exact Steps.refl _
  obtain ⟨cq102, kq102, q102a, q102b, q102c⟩ := isOf hZ e0 Es
  obtain ⟨_, _, ⟨T102, L102, k102, n102⟩, -, X102, ⟨Lc102, hQ102, l102, y102, z102⟩, st102⟩ := X0.virtualBack hx (y := (⟨"java/lang/String", "length", "()I"⟩ : MethodName)) (z := (⟨"java/lang/String", "length", "()I"⟩ : MethodName)) hown (mvT hZ (hw _ (List.mem_of_getElem? (i := 77) rfl))) (mvT hZ (hw _ (List.mem_of_getElem? (i := 78) rfl))) (notFace_of_selects (args := #[]) (mvT hZ (hw _ (List.mem_of_getElem? (i := 80) rfl)))) (mvT hZ (hw _ (List.mem_of_getElem? (i := 80) rfl))) (mvT hZ (hw _ (List.mem_of_getElem? (i := 79) rfl))) (by decide) (StrChars.Road.lenW (W := 0) hZ hln (kI := 4) (hw _ (List.mem_of_getElem? (i := 5) rfl)) Es Fvs Fs Abs (own_cod hl) (own_up hl) (Sc.ext O0.2) hcz (Nat.le_trans hl.1 (by decide)) (by decide) (by decide)) q102a q102c (g := (mkF m 10 #[.val (.ref a1), .val (.ref a2), .unset] [(.ref a2)])) rfl (by rw [hml]; rfl) (Steps.refl _) (argsL := []) (rest := []) (lenOf pd_0 rfl) rfl (by show 2 * 0 + _ ≤ _; exact Nat.le_of_eq rfl) (hb hby d11_10) (fun _ _ => ⟨rfl, e0, (by decide : 0 + 0 ≤ _), (by decide : 0 + 0 ≤ _)⟩)
  dsimp only [Pt.U, Pt.locs, Pt.cells, Pt.slots] at X102 l102 y102 z102 st102 hQ102
  subst l102 y102 z102
  obtain ⟨rfl, rfl, e102⟩ := hQ102
  have N102 := Fr.app N0 (Fr.nil n0)
  have r103 : Steps p.tables e below S0 (T102.setTop (mkF m 13 #[.val (.ref a1), .val (.ref a2), .unset] [(.int (Int32.ofNat cs.length))])) := r101.trans st102
  have r104 : Steps p.tables e below S0 (T102.setTop (mkF m 16 #[.val (.ref a1), .val (.ref a2), .val (.int (Int32.ofNat cs.length))] [(.ref a1), (.ref a1)])) := by
    refine r103.trans ?_
    show Steps p.tables e below (T102.setTop (mkF m 13 #[.val (.ref a1), .val (.ref a2), .unset] [(.int (Int32.ofNat cs.length))])) _
    refine XS.istoreN X102.here hx rfl (hb hby d11_13) rfl (l' := #[.val (.ref a1), .val (.ref a2), .val (.int (Int32.ofNat cs.length))]) rfl ?_
    show Steps p.tables e below (T102.setTop (mkF m 14 #[.val (.ref a1), .val (.ref a2), .val (.int (Int32.ofNat cs.length))] [])) _
    refine XS.aloadN X102.here hx rfl (hb hby d11_14) rfl rfl ?_
    show Steps p.tables e below (T102.setTop (mkF m 15 #[.val (.ref a1), .val (.ref a2), .val (.int (Int32.ofNat cs.length))] [(.ref a1)])) _
    refine XS.aloadN X102.here hx rfl (hb hby d11_15) rfl rfl ?_
    exact Steps.refl _
  obtain ⟨T105, X105, e105, st105⟩ := getF X102 hx hZ hown (host := "") (Or.inl (hw _ (List.mem_of_getElem? (i := 88) rfl))) Via.refl e102 Fn (g := (mkF m 16 #[.val (.ref a1), .val (.ref a2), .val (.int (Int32.ofNat cs.length))] [(.ref a1), (.ref a1)])) rfl rfl (hb hby d11_16)
  have r106 : Steps p.tables e below S0 (T105.setTop (mkF m 19 #[.val (.ref a1), .val (.ref a2), .val (.int (Int32.ofNat cs.length))] [(.int (Int32.ofNat n)), (.ref a1)])) := r104.trans (st105 _ (Steps.refl _))
  have r107 : Steps p.tables e below S0 (T105.setTop (mkF m 21 #[.val (.ref a1), .val (.ref a2), .val (.int (Int32.ofNat cs.length))] [(.int ((Int32.ofNat n) + (Int32.ofNat cs.length))), (.ref a1)])) := by
    refine r106.trans ?_
    show Steps p.tables e below (T105.setTop (mkF m 19 #[.val (.ref a1), .val (.ref a2), .val (.int (Int32.ofNat cs.length))] [(.int (Int32.ofNat n)), (.ref a1)])) _
    refine XS.iloadN X105.here hx rfl (hb hby d11_19) rfl ?_
    show Steps p.tables e below (T105.setTop (mkF m 20 #[.val (.ref a1), .val (.ref a2), .val (.int (Int32.ofNat cs.length))] [(.int (Int32.ofNat cs.length)), (.int (Int32.ofNat n)), (.ref a1)])) _
    refine XS.iadd X105.here hx rfl (hb hby d11_20) rfl ?_
    exact Steps.refl _
  have r108 : Steps p.tables e below S0 (T105.setTop (mkF m 21 #[.val (.ref a1), .val (.ref a2), .val (.int (Int32.ofNat cs.length))] [(.int (Int32.ofNat (n + cs.length))), (.ref a1)])) := by rw [← (i_add n cs.length)]; exact r107
  obtain ⟨cq109, kq109, q109a, q109b, q109c⟩ := isOf hZ e105 Ea
  obtain ⟨_, _, ⟨T109, L109, k109, n109⟩, -, X109, ⟨Lc109, hQ109, l109, y109, z109⟩, st109⟩ := X105.virtualBack hx (y := (⟨"java/lang/AbstractStringBuilder", "ensureCapacityInternal", "(I)V"⟩ : MethodName)) (z := (⟨"java/lang/AbstractStringBuilder", "ensureCapacityInternal", "(I)V"⟩ : MethodName)) hown (mvT hZ (hw _ (List.mem_of_getElem? (i := 90) rfl))) (mvT hZ (declOf (hw _ (List.mem_of_getElem? (i := 91) rfl)) (hw _ (List.mem_of_getElem? (i := 94) rfl)))) (notFace_of_selects (args := #[]) (mvT hZ (hw _ (List.mem_of_getElem? (i := 93) rfl)))) (mvT hZ (hw _ (List.mem_of_getElem? (i := 93) rfl))) (mvT hZ (hw _ (List.mem_of_getElem? (i := 91) rfl))) (by decide) (backOf (W := 0) (rmEn l Z a0 hw [] a1 (Int32.ofNat (n + cs.length)) cz vb kv n vs (n + cs.length) h0 n0 Z0 hB rfl (by omega)) hZ (hw _ (List.mem_of_getElem? (i := 94) rfl)) (hw _ (List.mem_of_getElem? (i := 59) rfl)) (by decide) (by decide)) q109a q109c (g := (mkF m 21 #[.val (.ref a1), .val (.ref a2), .val (.int (Int32.ofNat cs.length))] [(.int (Int32.ofNat (n + cs.length))), (.ref a1)])) rfl (by rw [hml]; rfl) (Steps.refl _) (argsL := [(.int (Int32.ofNat (n + cs.length)))]) (rest := []) (lenOf pd_4 rfl) rfl (by show 2 * 0 + _ ≤ _; exact Nat.le_of_eq rfl) (hb hby d11_21) (fun _ _ => ⟨rfl, e105, (by decide : (0 + 0) + 0 ≤ _), (by decide : (0 + 0) + 0 ≤ _)⟩)
  dsimp only [Pt.U, Pt.locs, Pt.cells, Pt.slots] at X109 l109 y109 z109 st109 hQ109
  subst l109 y109 z109
  obtain ⟨rfl, Nq109, e109⟩ := hQ109
  have N109 := Fr.app N102 Nq109
  have r110 : Steps p.tables e below S0 (T109.setTop (mkF m 24 #[.val (.ref a1), .val (.ref a2), .val (.int (Int32.ofNat cs.length))] [])) := r108.trans st109
  have r111 : Steps p.tables e below S0 (T109.setTop (mkF m 26 #[.val (.ref a1), .val (.ref a2), .val (.int (Int32.ofNat cs.length))] [(.ref a1), (.ref a1)])) := by
    refine r110.trans ?_
    show Steps p.tables e below (T109.setTop (mkF m 24 #[.val (.ref a1), .val (.ref a2), .val (.int (Int32.ofNat cs.length))] [])) _
    refine XS.aloadN X109.here hx rfl (hb hby d11_24) rfl rfl ?_
    show Steps p.tables e below (T109.setTop (mkF m 25 #[.val (.ref a1), .val (.ref a2), .val (.int (Int32.ofNat cs.length))] [(.ref a1)])) _
    refine XS.aloadN X109.here hx rfl (hb hby d11_25) rfl rfl ?_
    exact Steps.refl _
  obtain ⟨T112, X112, e112, st112⟩ := getF X109 hx hZ hown (host := "") (Or.inl (hw _ (List.mem_of_getElem? (i := 88) rfl))) Via.refl e109 Fn (g := (mkF m 26 #[.val (.ref a1), .val (.ref a2), .val (.int (Int32.ofNat cs.length))] [(.ref a1), (.ref a1)])) rfl rfl (hb hby d11_26)
  have r113 : Steps p.tables e below S0 (T112.setTop (mkF m 29 #[.val (.ref a1), .val (.ref a2), .val (.int (Int32.ofNat cs.length))] [(.int (Int32.ofNat n)), (.ref a1)])) := r111.trans (st112 _ (Steps.refl _))
  have r114 : Steps p.tables e below S0 (T112.setTop (mkF m 30 #[.val (.ref a1), .val (.ref a2), .val (.int (Int32.ofNat cs.length))] [(.ref a2), (.int (Int32.ofNat n)), (.ref a1)])) := by
    refine r113.trans ?_
    show Steps p.tables e below (T112.setTop (mkF m 29 #[.val (.ref a1), .val (.ref a2), .val (.int (Int32.ofNat cs.length))] [(.int (Int32.ofNat n)), (.ref a1)])) _
    refine XS.aloadN X112.here hx rfl (hb hby d11_29) rfl rfl ?_
    exact Steps.refl _
  obtain ⟨cq115, kq115, q115a, q115b, q115c⟩ := isOf hZ e112 Ea
  obtain ⟨_, _, ⟨T115, L115, k115, n115⟩, -, X115, ⟨Lc115, hQ115, l115, y115, z115⟩, st115⟩ := X112.virtualBack hx (y := (⟨"java/lang/AbstractStringBuilder", "putStringAt", "(ILjava/lang/String;)V"⟩ : MethodName)) (z := (⟨"java/lang/AbstractStringBuilder", "putStringAt", "(ILjava/lang/String;)V"⟩ : MethodName)) hown (mvT hZ (hw _ (List.mem_of_getElem? (i := 95) rfl))) (mvT hZ (declOf (hw _ (List.mem_of_getElem? (i := 96) rfl)) (hw _ (List.mem_of_getElem? (i := 99) rfl)))) (notFace_of_selects (args := #[]) (mvT hZ (hw _ (List.mem_of_getElem? (i := 98) rfl)))) (mvT hZ (hw _ (List.mem_of_getElem? (i := 98) rfl))) (mvT hZ (hw _ (List.mem_of_getElem? (i := 96) rfl))) (by decide) (backOf (W := 0) (rmPs l Z a0 hw [] a1 (Int32.ofNat n) a2 cz vb kv n vs b kb cs n h0 n0 Z0 O0 Sc hcz hB hS rfl hin g_vb) hZ (hw _ (List.mem_of_getElem? (i := 99) rfl)) (hw _ (List.mem_of_getElem? (i := 59) rfl)) (by decide) (by decide)) q115a q115c (g := (mkF m 30 #[.val (.ref a1), .val (.ref a2), .val (.int (Int32.ofNat cs.length))] [(.ref a2), (.int (Int32.ofNat n)), (.ref a1)])) rfl (by rw [hml]; rfl) (Steps.refl _) (argsL := [(.int (Int32.ofNat n)), (.ref a2)]) (rest := []) (lenOf pd_7 rfl) rfl (by show 2 * 0 + _ ≤ _; exact Nat.le_of_eq rfl) (hb hby d11_30) (fun _ _ => ⟨rfl, e112, (by decide : ((0 + 0) + 0) + 0 ≤ _), (by decide : ((0 + 0) + 0) + 0 ≤ _)⟩)
  dsimp only [Pt.U, Pt.locs, Pt.cells, Pt.slots] at X115 l115 y115 z115 st115 hQ115
  subst l115 y115 z115
  obtain ⟨rfl, Nq115, Kc115, hBc115⟩ := hQ115
  have N115 := Fr.app N109 Nq115
  have r116 : Steps p.tables e below S0 (T115.setTop (mkF m 33 #[.val (.ref a1), .val (.ref a2), .val (.int (Int32.ofNat cs.length))] [])) := r114.trans st115
  have F115_a1_value := Fv.keep Kc115 (ninS hav nin0)
  have F115_a1_coder := Fc.keep Kc115 (ninS hav nin0)
  have F115_a1_count := Fn.keep Kc115 (ninS hav nin0)
  have E115_a1 := Ea.keep Kc115
  have E115_a2 := Es.keep Kc115
  have Z115 : n0 ≤ T115.heap.size := Nat.le_trans Z0 Kc115.1
  have K115 := K0.trans Kc115 (allS (Or.inl (List.mem_of_getElem? (i := 1) rfl)) (all0))
  have O115 := O0.keep Kc115 (allS g_vb (all0))
  have hB_2 := hBc115
  obtain ⟨Ea2, Fv2, Fc2, Fn2, Av2, hvl2, hav2⟩ := hB_2
  have r117 : Steps p.tables e below S0 (T115.setTop (mkF m 35 #[.val (.ref a1), .val (.ref a2), .val (.int (Int32.ofNat cs.length))] [(.ref a1), (.ref a1)])) := by
    refine r116.trans ?_
    show Steps p.tables e below (T115.setTop (mkF m 33 #[.val (.ref a1), .val (.ref a2), .val (.int (Int32.ofNat cs.length))] [])) _
    refine XS.aloadN X115.here hx rfl (hb hby d11_33) rfl rfl ?_
    show Steps p.tables e below (T115.setTop (mkF m 34 #[.val (.ref a1), .val (.ref a2), .val (.int (Int32.ofNat cs.length))] [(.ref a1)])) _
    refine XS.dup X115.here hx rfl (hb hby d11_34) rfl rfl ?_
    exact Steps.refl _
  obtain ⟨T118, X118, e118, st118⟩ := getF X115 hx hZ hown (host := "") (Or.inl (hw _ (List.mem_of_getElem? (i := 88) rfl))) Via.refl rfl Fn2 (g := (mkF m 35 #[.val (.ref a1), .val (.ref a2), .val (.int (Int32.ofNat cs.length))] [(.ref a1), (.ref a1)])) rfl rfl (hb hby d11_35)
  have r119 : Steps p.tables e below S0 (T118.setTop (mkF m 38 #[.val (.ref a1), .val (.ref a2), .val (.int (Int32.ofNat cs.length))] [(.int (Int32.ofNat n)), (.ref a1)])) := r117.trans (st118 _ (Steps.refl _))
  have r120 : Steps p.tables e below S0 (T118.setTop (mkF m 40 #[.val (.ref a1), .val (.ref a2), .val (.int (Int32.ofNat cs.length))] [(.int ((Int32.ofNat n) + (Int32.ofNat cs.length))), (.ref a1)])) := by
    refine r119.trans ?_
    show Steps p.tables e below (T118.setTop (mkF m 38 #[.val (.ref a1), .val (.ref a2), .val (.int (Int32.ofNat cs.length))] [(.int (Int32.ofNat n)), (.ref a1)])) _
    refine XS.iloadN X118.here hx rfl (hb hby d11_38) rfl ?_
    show Steps p.tables e below (T118.setTop (mkF m 39 #[.val (.ref a1), .val (.ref a2), .val (.int (Int32.ofNat cs.length))] [(.int (Int32.ofNat cs.length)), (.int (Int32.ofNat n)), (.ref a1)])) _
    refine XS.iadd X118.here hx rfl (hb hby d11_39) rfl ?_
    exact Steps.refl _
  have r121 : Steps p.tables e below S0 (T118.setTop (mkF m 40 #[.val (.ref a1), .val (.ref a2), .val (.int (Int32.ofNat cs.length))] [(.int (Int32.ofNat (n + cs.length))), (.ref a1)])) := by rw [← (i_add n cs.length)]; exact r120
  obtain ⟨T122, h122, X122, e122, W122, st122⟩ := putF X118 hx hZ hown (host := "") (Or.inl (hw _ (List.mem_of_getElem? (i := 88) rfl))) Via.refl e118 Fn2 Ea2 (Or.inl (hw _ (List.mem_of_getElem? (i := 89) rfl))) (hw _ (List.mem_of_getElem? (i := 50) rfl)) (ty := .int) (by decide) rfl rfl (g := (mkF m 40 #[.val (.ref a1), .val (.ref a2), .val (.int (Int32.ofNat cs.length))] [(.int (Int32.ofNat (n + cs.length))), (.ref a1)])) rfl rfl (hb hby d11_40)
  have N122 := Fr.snoc X122 N115 g_a1
  have F122_a1_value := Fv2.other W122 (Or.inr (slot_ne (a0 := a0) (Or.inl (hw _ (List.mem_of_getElem? (i := 64) rfl))) (Or.inl (hw _ (List.mem_of_getElem? (i := 89) rfl))) (by decide) (t := (.array .byte)) (t' := .int) (by decide) (by decide)))
  have F122_a1_coder := Fc2.other W122 (Or.inr (slot_ne (a0 := a0) (Or.inl (hw _ (List.mem_of_getElem? (i := 66) rfl))) (Or.inl (hw _ (List.mem_of_getElem? (i := 89) rfl))) (by decide) (t := .byte) (t' := .int) (by decide) (by decide)))
  have F122_a1_count := Fn2.same W122
  have E122_a1 := Ea2.wr W122
  have E122_a2 := E115_a2.wr W122
  have Z122 : n0 ≤ h122.size := Nat.le_trans Z115 (Nat.le_of_eq W122.size.symm)
  have K122 := K115.wr W122 (Or.inl (List.mem_of_getElem? (i := 0) rfl))
  have O122 := O115.wr W122 g_a1
  have V122_vb := Av2.other W122 (Ne.symm hav)
  have r123 : Steps p.tables e below S0 (T122.setTop (mkF m 43 #[.val (.ref a1), .val (.ref a2), .val (.int (Int32.ofNat cs.length))] [])) := r121.trans (st122 _ (Steps.refl _))
  have r124 : Steps p.tables e below S0 (T122.setTop (mkF m 44 #[.val (.ref a1), .val (.ref a2), .val (.int (Int32.ofNat cs.length))] [(.ref a1)])) := by
    refine r123.trans ?_
    show Steps p.tables e below (T122.setTop (mkF m 43 #[.val (.ref a1), .val (.ref a2), .val (.int (Int32.ofNat cs.length))] [])) _
    refine XS.aloadN X122.here hx rfl (hb hby d11_43) rfl rfl ?_
    exact Steps.refl _
  obtain ⟨fs, hr, hrun, hended, hW, hsame⟩ := X122.leave (v := some (.ref a1)) (fun h => by rw [Bd.returns] at h; cases h)
  refine ⟨_, _, pre0 _ ?_, hrun, hended, _, _, rfl, ?_, ⟨_, rfl⟩, hW, hsame.mono (by decide) (by decide)⟩
  · rw [← hS0]
    refine r124.trans ?_
    show Steps p.tables e below (T122.setTop (mkF m 44 #[.val (.ref a1), .val (.ref a2), .val (.int (Int32.ofNat cs.length))] [(.ref a1)])) _
    jvm_step X122.here [X122.here.top, hx, (hb hby d11_44), X122.method', Bd.returns, Value.isRef, FieldType.isReference]
    first | (intro acts; rw [hr _ acts rfl rfl rfl]) | rw [hr _ _ rfl rfl rfl]
    exact Steps.refl _
  · show QmAp1 Z a1 a2 cz vb kv n vs b kb cs h0 n0 _ T122.heap _; rw [e122]; exact ⟨rfl, N122, K122, E122_a1, F122_a1_value, F122_a1_coder, F122_a1_count, V122_vb, hvl2, hav⟩
theorem pn_10 : plainName "java/lang/StringBuilder" = true := by first | (simp [plainName, overriddenIn]; done) | decide +kernel
theorem ef_10n (m : MethodId) (x0 : Addr) : entryFrame m #[(.ref x0), .null] 2 = mkF m 0 #[.val (.ref x0), .val .null] [] := by first | (simp [entryFrame, mkF, argsToLocals, Value.category]; done) | rfl
def QmSp0 (Z : State) (a1 : Addr) (cz : Int32) (vb : Addr) (kv : ClassId) (n : Nat) (vs : List Value) (h0 : Heap) (n0 : Nat) (v : Option Value) (h : Heap) (L : List Loc) : Prop := v = some (.ref a1) ∧ Fr n0 L ∧ Keep h0 h [a1, vb] ∧ BV Z h a1 vb kv (n + nulls.length) (vs.take n ++ bv nulls ++ vs.drop (n + nulls.length))
set_option maxRecDepth 65536 in
set_option maxHeartbeats 40000000 in
theorem rmSp0 (l : Launch) (Z : State) (a0 : Array Value) (hw : ∀ d ∈ tables_1, d.before a0 Z = true) (ws : List Jvm.Cond) (a1 : Addr) (cz : Int32) (vb : Addr) (kv : ClassId) (n : Nat) (vs : List Value) (h0 : Heap) (n0 : Nat) (Z0 : n0 ≤ h0.size) (O0 : Old Z n0 h0) (Sc : Sta Z Z.heap "java/lang/String" "COMPACT_STRINGS" "Z" (.int cz)) (hcz : ¬ cz = 0)(hB : BV Z h0 a1 vb kv n vs) (hin : n + nulls.length ≤ 16) (g_a1 : n0 ≤ a1) (g_vb : n0 ≤ vb) :
    MetFree l (⟨"java/lang/StringBuilder", "append", "(Ljava/lang/String;)Ljava/lang/StringBuilder;"⟩ : MethodName) (head1 (Jvm.Cond.code (⟨"java/lang/StringBuilder", "append", "(Ljava/lang/String;)Ljava/lang/StringBuilder;"⟩ : MethodName) jdk_67_method_7_code 2 (some (.object "java/lang/StringBuilder")) :: ws) ({ frames := 4, cells := 0, slots := 0, locals := 106 } : Room)) (fun a U => a = #[(.ref a1), .null] ∧ Z.Warmed39 U.vm ∧ U.heap = h0) (fun _ _ _ _ _ => True) (fun _ U o U' => ∃ v L, o = .returned v ∧ QmSp0 Z a1 cz vb kv n vs h0 n0 v U'.heap L ∧ FrameEnd U o U' L ({ frames := 4, cells := 0, slots := 0, locals := 106 } : Room).cells ({ frames := 4, cells := 0, slots := 0, locals := 106 } : Room).slots) := by
  refine MetFree.of_bodySF (plainFor_of_name pn_10) hisR ?_
  intro p e s m args below meth c s₁ Bd hml0 hP hK
  obtain ⟨rfl, hZ, hh⟩ := hP
  have hx := Bd.exec
  have hby := Bd.bytes
  have hml : c.maxLocals = 2 := hml0
  have hown : s.vm.findClass "java/lang/StringBuilder" = some m.cls := findClass_of_methodNamed Bd.named
  have hnm := (name_of_methodNamed Bd.named Bd.method).1
  have X0 : Stand p l e ({ frames := 4, cells := 0, slots := 0, locals := 106 } : Room) s m #[(.ref a1), .null] below meth c s₁ [] 0 0 := Stand.of_body Bd
  have e0 : s₁.heap = h0 := by rw [← hh, Bd.state]; rfl
  have N0 := Fr.nil n0
  have pre0 : ∀ t, Steps p.tables e below (s₁.setTop (mkF m 0 #[.val (.ref a1), .val .null] [])) t → Steps p.tables e below (s₁.setTop (entryFrame m #[(.ref a1), .null] 2)) t := fun t_ k_ => castTop (ef_10n m a1) k_
  obtain ⟨S0, hS0⟩ : ∃ z, z = s₁.setTop (mkF m 0 #[.val (.ref a1), .val .null] []) := ⟨_, rfl⟩
  have r0 : Steps p.tables e below S0 (s₁.setTop (mkF m 0 #[.val (.ref a1), .val .null] [])) := by rw [hS0]; exact Steps.refl _
  have hB_ := hB
  obtain ⟨Ea, Fv, Fc, Fn, Av, hvl, hav⟩ := hB_
  have r125 : Steps p.tables e below S0 (s₁.setTop (mkF m 2 #[.val (.ref a1), .val .null] [.null, (.ref a1)])) := by
    refine r0.trans ?_
    show Steps p.tables e below (s₁.setTop (mkF m 0 #[.val (.ref a1), .val .null] [])) _
    refine XS.aloadN X0.here hx rfl (hb hby d10_0) rfl rfl ?_
    show Steps p.tables e below (s₁.setTop (mkF m 1 #[.val (.ref a1), .val .null] [(.ref a1)])) _
    refine XS.aloadN X0.here hx rfl (hb hby d10_1) rfl rfl ?_
    exact Steps.refl _
  obtain ⟨_, _, ⟨T126, L126, k126, n126⟩, -, X126, ⟨Lc126, hQ126, l126, y126, z126⟩, st126⟩ := superBack X0 hx hZ (y := (⟨"java/lang/AbstractStringBuilder", "append", "(Ljava/lang/String;)Ljava/lang/AbstractStringBuilder;"⟩ : MethodName)) hown (hw _ (List.mem_of_getElem? (i := 72) rfl)) (sameOf (y := (⟨"java/lang/AbstractStringBuilder", "append", "(Ljava/lang/String;)Ljava/lang/AbstractStringBuilder;"⟩ : MethodName)) (hw _ (List.mem_of_getElem? (i := 73) rfl)) (hw _ (List.mem_of_getElem? (i := 93) rfl)) rfl (by decide)) (hw _ (List.mem_of_getElem? (i := 73) rfl)) (hw _ (List.mem_of_getElem? (i := 74) rfl)) (by decide) (backOf (W := 0) (rmAp0 l Z a0 hw [] a1 cz vb kv n vs h0 n0 Z0 O0 Sc hcz hB hin g_a1 g_vb) hZ (hw _ (List.mem_of_getElem? (i := 76) rfl)) (hw _ (List.mem_of_getElem? (i := 59) rfl)) (by decide) (by decide)) e0 (Ins.self Ea) (g := (mkF m 2 #[.val (.ref a1), .val .null] [.null, (.ref a1)])) rfl (by rw [hml]; rfl) (hw _ (List.mem_of_getElem? (i := 76) rfl)) (argsL := [.null]) (rest := []) (lenOf pd_8 rfl) rfl (by show 2 * 0 + _ ≤ _; exact Nat.le_of_eq rfl) (hb hby d10_2) (fun _ _ => ⟨rfl, e0, (by decide : 0 + 0 ≤ _), (by decide : 0 + 0 ≤ _)⟩)
  dsimp only [Pt.U, Pt.locs, Pt.cells, Pt.slots] at X126 l126 y126 z126 st126 hQ126
  subst l126 y126 z126
  obtain ⟨rfl, Nq126, Kc126, hBc126⟩ := hQ126
  have N126 := Fr.app N0 Nq126
  have r127 : Steps p.tables e below S0 (T126.setTop (mkF m 5 #[.val (.ref a1), .val .null] [(.ref a1)])) := r125.trans st126
  have r128 : Steps p.tables e below S0 (T126.setTop (mkF m 7 #[.val (.ref a1), .val .null] [(.ref a1)])) := by
    refine r127.trans ?_
    show Steps p.tables e below (T126.setTop (mkF m 5 #[.val (.ref a1), .val .null] [(.ref a1)])) _
    refine XS.pop X126.here hx rfl (hb hby d10_5) rfl rfl ?_
    show Steps p.tables e below (T126.setTop (mkF m 6 #[.val (.ref a1), .val .null] [])) _
    refine XS.aloadN X126.here hx rfl (hb hby d10_6) rfl rfl ?_
    exact Steps.refl _
  obtain ⟨fs, hr, hrun, hended, hW, hsame⟩ := X126.leave (v := some (.ref a1)) (fun h => by rw [Bd.returns] at h; cases h)
  refine ⟨_, _, pre0 _ ?_, hrun, hended, _, _, rfl, ?_, ⟨_, rfl⟩, hW, hsame.mono (by decide) (by decide)⟩
  · rw [← hS0]
    refine r128.trans ?_
    show Steps p.tables e below (T126.setTop (mkF m 7 #[.val (.ref a1), .val .null] [(.ref a1)])) _
    jvm_step X126.here [X126.here.top, hx, (hb hby d10_7), X126.method', Bd.returns, Value.isRef, FieldType.isReference]
    first | (intro acts; rw [hr _ acts rfl rfl rfl]) | rw [hr _ _ rfl rfl rfl]
    exact Steps.refl _
  · show QmSp0 Z a1 cz vb kv n vs h0 n0 _ T126.heap _; exact ⟨rfl, N126, Kc126, hBc126⟩
theorem ef_10r (m : MethodId) (x0 : Addr) (x1 : Addr) : entryFrame m #[(.ref x0), (.ref x1)] 2 = mkF m 0 #[.val (.ref x0), .val (.ref x1)] [] := by first | (simp [entryFrame, mkF, argsToLocals, Value.category]; done) | rfl
def QmSp1 (Z : State) (a1 : Addr) (a2 : Addr) (cz : Int32) (vb : Addr) (kv : ClassId) (n : Nat) (vs : List Value) (b : Addr) (kb : ClassId) (cs : List Int32) (h0 : Heap) (n0 : Nat) (v : Option Value) (h : Heap) (L : List Loc) : Prop := v = some (.ref a1) ∧ Fr n0 L ∧ Keep h0 h [a1, vb] ∧ BV Z h a1 vb kv (n + cs.length) (vs.take n ++ bv cs ++ vs.drop (n + cs.length))
set_option maxRecDepth 65536 in
set_option maxHeartbeats 40000000 in
theorem rmSp1 (l : Launch) (Z : State) (a0 : Array Value) (hw : ∀ d ∈ tables_1, d.before a0 Z = true) (ws : List Jvm.Cond) (a1 : Addr) (a2 : Addr) (cz : Int32) (vb : Addr) (kv : ClassId) (n : Nat) (vs : List Value) (b : Addr) (kb : ClassId) (cs : List Int32) (h0 : Heap) (n0 : Nat) (Z0 : n0 ≤ h0.size) (O0 : Old Z n0 h0) (Sc : Sta Z Z.heap "java/lang/String" "COMPACT_STRINGS" "Z" (.int cz)) (hcz : ¬ cz = 0)(hB : BV Z h0 a1 vb kv n vs) (hS : StrAt Z h0 a2 b kb cs) (hl : LatN 16 cs) (hin : n + cs.length ≤ 16) (g_a1 : n0 ≤ a1) (g_vb : n0 ≤ vb) :
    MetFree l (⟨"java/lang/StringBuilder", "append", "(Ljava/lang/String;)Ljava/lang/StringBuilder;"⟩ : MethodName) (head1 (Jvm.Cond.code (⟨"java/lang/StringBuilder", "append", "(Ljava/lang/String;)Ljava/lang/StringBuilder;"⟩ : MethodName) jdk_67_method_7_code 2 (some (.object "java/lang/StringBuilder")) :: ws) ({ frames := 4, cells := 0, slots := 0, locals := 106 } : Room)) (fun a U => a = #[(.ref a1), (.ref a2)] ∧ Z.Warmed39 U.vm ∧ U.heap = h0) (fun _ _ _ _ _ => True) (fun _ U o U' => ∃ v L, o = .returned v ∧ QmSp1 Z a1 a2 cz vb kv n vs b kb cs h0 n0 v U'.heap L ∧ FrameEnd U o U' L ({ frames := 4, cells := 0, slots := 0, locals := 106 } : Room).cells ({ frames := 4, cells := 0, slots := 0, locals := 106 } : Room).slots) := by
  refine MetFree.of_bodySF (plainFor_of_name pn_10) hisR ?_
  intro p e s m args below meth c s₁ Bd hml0 hP hK
  obtain ⟨rfl, hZ, hh⟩ := hP
  have hx := Bd.exec
  have hby := Bd.bytes
  have hml : c.maxLocals = 2 := hml0
  have hown : s.vm.findClass "java/lang/StringBuilder" = some m.cls := findClass_of_methodNamed Bd.named
  have hnm := (name_of_methodNamed Bd.named Bd.method).1
  have X0 : Stand p l e ({ frames := 4, cells := 0, slots := 0, locals := 106 } : Room) s m #[(.ref a1), (.ref a2)] below meth c s₁ [] 0 0 := Stand.of_body Bd
  have e0 : s₁.heap = h0 := by rw [← hh, Bd.state]; rfl
  have N0 := Fr.nil n0
  have pre0 : ∀ t, Steps p.tables e below (s₁.setTop (mkF m 0 #[.val (.ref a1), .val (.ref a2)] [])) t → Steps p.tables e below (s₁.setTop (entryFrame m #[(.ref a1), (.ref a2)] 2)) t := fun t_ k_ => castTop (ef_10r m a1 a2) k_
  obtain ⟨S0, hS0⟩ : ∃ z, z = s₁.setTop (mkF m 0 #[.val (.ref a1), .val (.ref a2)] []) := ⟨_, rfl⟩
  have r0 : Steps p.tables e below S0 (s₁.setTop (mkF m 0 #[.val (.ref a1), .val (.ref a2)] [])) := by rw [hS0]; exact Steps.refl _
  have hB_ := hB
  obtain ⟨Ea, Fv, Fc, Fn, Av, hvl, hav⟩ := hB_
  have r129 : Steps p.tables e below S0 (s₁.setTop (mkF m 2 #[.val (.ref a1), .val (.ref a2)] [(.ref a2), (.ref a1)])) := by
    refine r0.trans ?_
    show Steps p.tables e below (s₁.setTop (mkF m 0 #[.val (.ref a1), .val (.ref a2)] [])) _
    refine XS.aloadN X0.here hx rfl (hb hby d10_0) rfl rfl ?_
    show Steps p.tables e below (s₁.setTop (mkF m 1 #[.val (.ref a1), .val (.ref a2)] [(.ref a1)])) _
    refine XS.aloadN X0.here hx rfl (hb hby d10_1) rfl rfl ?_
    exact Steps.refl _
  obtain ⟨_, _, ⟨T130, L130, k130, n130⟩, -, X130, ⟨Lc130, hQ130, l130, y130, z130⟩, st130⟩ := superBack X0 hx hZ (y := (⟨"java/lang/AbstractStringBuilder", "append", "(Ljava/lang/String;)Ljava/lang/AbstractStringBuilder;"⟩ : MethodName)) hown (hw _ (List.mem_of_getElem? (i := 72) rfl)) (sameOf (y := (⟨"java/lang/AbstractStringBuilder", "append", "(Ljava/lang/String;)Ljava/lang/AbstractStringBuilder;"⟩ : MethodName)) (hw _ (List.mem_of_getElem? (i := 73) rfl)) (hw _ (List.mem_of_getElem? (i := 93) rfl)) rfl (by decide)) (hw _ (List.mem_of_getElem? (i := 73) rfl)) (hw _ (List.mem_of_getElem? (i := 74) rfl)) (by decide) (backOf (W := 0) (rmAp1 l Z a0 hw [] a1 a2 cz vb kv n vs b kb cs h0 n0 Z0 O0 Sc hcz hB hS hl hin g_a1 g_vb) hZ (hw _ (List.mem_of_getElem? (i := 76) rfl)) (hw _ (List.mem_of_getElem? (i := 59) rfl)) (by decide) (by decide)) e0 (Ins.self Ea) (g := (mkF m 2 #[.val (.ref a1), .val (.ref a2)] [(.ref a2), (.ref a1)])) rfl (by rw [hml]; rfl) (hw _ (List.mem_of_getElem? (i := 76) rfl)) (argsL := [(.ref a2)]) (rest := []) (lenOf pd_8 rfl) rfl (by show 2 * 0 + _ ≤ _; exact Nat.le_of_eq rfl) (hb hby d10_2) (fun _ _ => ⟨rfl, e0, (by decide : 0 + 0 ≤ _), (by decide : 0 + 0 ≤ _)⟩)
  dsimp only [Pt.U, Pt.locs, Pt.cells, Pt.slots] at X130 l130 y130 z130 st130 hQ130
  subst l130 y130 z130
  obtain ⟨rfl, Nq130, Kc130, hBc130⟩ := hQ130
  have N130 := Fr.app N0 Nq130
  have r131 : Steps p.tables e below S0 (T130.setTop (mkF m 5 #[.val (.ref a1), .val (.ref a2)] [(.ref a1)])) := r129.trans st130
  have r132 : Steps p.tables e below S0 (T130.setTop (mkF m 7 #[.val (.ref a1), .val (.ref a2)] [(.ref a1)])) := by
    refine r131.trans ?_
    show Steps p.tables e below (T130.setTop (mkF m 5 #[.val (.ref a1), .val (.ref a2)] [(.ref a1)])) _
    refine XS.pop X130.here hx rfl (hb hby d10_5) rfl rfl ?_
    show Steps p.tables e below (T130.setTop (mkF m 6 #[.val (.ref a1), .val (.ref a2)] [])) _
    refine XS.aloadN X130.here hx rfl (hb hby d10_6) rfl rfl ?_
    exact Steps.refl _
  obtain ⟨fs, hr, hrun, hended, hW, hsame⟩ := X130.leave (v := some (.ref a1)) (fun h => by rw [Bd.returns] at h; cases h)
  refine ⟨_, _, pre0 _ ?_, hrun, hended, _, _, rfl, ?_, ⟨_, rfl⟩, hW, hsame.mono (by decide) (by decide)⟩
  · rw [← hS0]
    refine r132.trans ?_
    show Steps p.tables e below (T130.setTop (mkF m 7 #[.val (.ref a1), .val (.ref a2)] [(.ref a1)])) _
    jvm_step X130.here [X130.here.top, hx, (hb hby d10_7), X130.method', Bd.returns, Value.isRef, FieldType.isReference]
    first | (intro acts; rw [hr _ acts rfl rfl rfl]) | rw [hr _ _ rfl rfl rfl]
    exact Steps.refl _
  · show QmSp1 Z a1 a2 cz vb kv n vs b kb cs h0 n0 _ T130.heap _; exact ⟨rfl, N130, Kc130, hBc130⟩
theorem pn_9 : plainName "java/lang/AbstractStringBuilder" = true := by first | (simp [plainName, overriddenIn]; done) | decide +kernel
theorem ef_9 (m : MethodId) (x0 : Addr) (x1 : Int32) : entryFrame m #[(.ref x0), (.int x1)] 2 = mkF m 0 #[.val (.ref x0), .val (.int x1)] [] := by first | (simp [entryFrame, mkF, argsToLocals, Value.category]; done) | rfl
def QmAI (Z : State) (a1 : Addr) (p1 : Int32) (cz : Int32) (h0 : Heap) (n0 : Nat) (v : Option Value) (h : Heap) (L : List Loc) : Prop := v = none ∧ Fr n0 L ∧ Keep h0 h [a1] ∧ ∃ (vb : Addr) (kv : ClassId), h0.size ≤ vb ∧ n0 ≤ vb ∧ BV Z h a1 vb kv 0 (List.replicate 16 (.int 0))
set_option maxRecDepth 65536 in
set_option maxHeartbeats 40000000 in
theorem rmAI (l : Launch) (Z : State) (a0 : Array Value) (hw : ∀ d ∈ tables_1, d.before a0 Z = true) (ws : List Jvm.Cond) (a1 : Addr) (p1 : Int32) (cz : Int32) (h0 : Heap) (n0 : Nat) (Z0 : n0 ≤ h0.size) (O0 : Old Z n0 h0) (Sc : Sta Z Z.heap "java/lang/String" "COMPACT_STRINGS" "Z" (.int cz)) (hcz : ¬ cz = 0)(Ea : Exa Z h0 a1 "java/lang/StringBuilder") (Fv : Fld Z h0 a1 "java/lang/AbstractStringBuilder" "value" "[B" .null) (Fc : Fld Z h0 a1 "java/lang/AbstractStringBuilder" "coder" "B" (.int (0 : Int32))) (Fn : Fld Z h0 a1 "java/lang/AbstractStringBuilder" "count" "I" (.int (0 : Int32))) (g_a1 : n0 ≤ a1) (hp : p1 = 16) :
    MetFree l (⟨"java/lang/AbstractStringBuilder", "<init>", "(I)V"⟩ : MethodName) (head1 (Jvm.Cond.code (⟨"java/lang/AbstractStringBuilder", "<init>", "(I)V"⟩ : MethodName) jdk_68_method_2_code 2 none :: ws) ({ frames := 1, cells := 1, slots := 16, locals := 12 } : Room)) (fun a U => a = #[(.ref a1), (.int p1)] ∧ Z.Warmed39 U.vm ∧ U.heap = h0) (fun _ _ _ _ _ => True) (fun _ U o U' => ∃ v L, o = .returned v ∧ QmAI Z a1 p1 cz h0 n0 v U'.heap L ∧ FrameEnd U o U' L ({ frames := 1, cells := 1, slots := 16, locals := 12 } : Room).cells ({ frames := 1, cells := 1, slots := 16, locals := 12 } : Room).slots) := by
  refine MetFree.of_bodySF (plainFor_of_name pn_9) hisR ?_
  intro p e s m args below meth c s₁ Bd hml0 hP hK
  obtain ⟨rfl, hZ, hh⟩ := hP
  have hx := Bd.exec
  have hby := Bd.bytes
  have hml : c.maxLocals = 2 := hml0
  have hown : s.vm.findClass "java/lang/AbstractStringBuilder" = some m.cls := findClass_of_methodNamed Bd.named
  have hnm := (name_of_methodNamed Bd.named Bd.method).1
  have X0 : Stand p l e ({ frames := 1, cells := 1, slots := 16, locals := 12 } : Room) s m #[(.ref a1), (.int p1)] below meth c s₁ [] 0 0 := Stand.of_body Bd
  have e0 : s₁.heap = h0 := by rw [← hh, Bd.state]; rfl
  have N0 := Fr.nil n0
  have pre0 : ∀ t, Steps p.tables e below (s₁.setTop (mkF m 0 #[.val (.ref a1), .val (.int p1)] [])) t → Steps p.tables e below (s₁.setTop (entryFrame m #[(.ref a1), (.int p1)] 2)) t := fun t_ k_ => castTop (ef_9 m a1 p1) k_
  obtain ⟨S0, hS0⟩ : ∃ z, z = s₁.setTop (mkF m 0 #[.val (.ref a1), .val (.int p1)] []) := ⟨_, rfl⟩
  have r0 : Steps p.tables e below S0 (s₁.setTop (mkF m 0 #[.val (.ref a1), .val (.int p1)] [])) := by rw [hS0]; exact Steps.refl _
  have K0 := Keep.refl h0 [a1]
  have r133 : Steps p.tables e below S0 (s₁.setTop (mkF m 1 #[.val (.ref a1), .val (.int p1)] [(.ref a1)])) := by
    refine r0.trans ?_
    show Steps p.tables e below (s₁.setTop (mkF m 0 #[.val (.ref a1), .val (.int p1)] [])) _
    refine XS.aloadN X0.here hx rfl (hb hby d9_0) rfl rfl ?_
    exact Steps.refl _
  obtain ⟨T134, X134, e134, st134⟩ := initO X0 hx hZ hown (hw _ (List.mem_of_getElem? (i := 61) rfl)) (hw _ (List.mem_of_getElem? (i := 16) rfl)) (hw _ (List.mem_of_getElem? (i := 17) rfl)) e0 (g := (mkF m 1 #[.val (.ref a1), .val (.int p1)] [(.ref a1)])) rfl (by rw [hml]; rfl) rfl (hb hby d9_1) (by decide) (W := 0) (by show 2 * 0 + _ ≤ _; exact Nat.le_of_eq rfl) (by decide)
  have r135 : Steps p.tables e below S0 (T134.setTop (mkF m 4 #[.val (.ref a1), .val (.int p1)] [])) := r133.trans (st134 _ (Steps.refl _))
  obtain ⟨T136, X136, e136, st136⟩ := getS2 X134 hx hZ hown (host := "") (Or.inl (hw _ (List.mem_of_getElem? (i := 62) rfl))) Via.refl e134 (Sc.ext O0.2) (g := (mkF m 4 #[.val (.ref a1), .val (.int p1)] [])) rfl (hb hby d9_4)
  have r137 : Steps p.tables e below S0 (T136.setTop (mkF m 7 #[.val (.ref a1), .val (.int p1)] [(.int cz)])) := r135.trans (st136 _ (Steps.refl _))
  have r138 : Steps p.tables e below S0 (T136.setTop (mkF m 12 #[.val (.ref a1), .val (.int p1)] [(.int p1), (.ref a1)])) := by
    refine r137.trans ?_
    show Steps p.tables e below (T136.setTop (mkF m 7 #[.val (.ref a1), .val (.int p1)] [(.int cz)])) _
    refine XS.ifNo X136.here hx rfl (hb hby d9_7) rfl ((if0 _ _).trans (feq hcz).1) ?_
    show Steps p.tables e below (T136.setTop (mkF m 10 #[.val (.ref a1), .val (.int p1)] [])) _
    refine XS.aloadN X136.here hx rfl (hb hby d9_10) rfl rfl ?_
    show Steps p.tables e below (T136.setTop (mkF m 11 #[.val (.ref a1), .val (.int p1)] [(.ref a1)])) _
    refine XS.iloadN X136.here hx rfl (hb hby d9_11) rfl ?_
    exact Steps.refl _
  obtain ⟨T139, h139, k139, X139, e139, E139, A139, st139⟩ := newP X136 hx hZ (hw _ (List.mem_of_getElem? (i := 19) rfl)) e136 (g := (mkF m 12 #[.val (.ref a1), .val (.int p1)] [(.int p1), (.ref a1)])) rfl (hb hby d9_12) rfl (by rw [hp]; decide) (cap := 16) (by rw [hp]; decide) (by decide) (by decide) (by decide)
  obtain ⟨vb, g139⟩ : ∃ z, z = h0.size := ⟨_, rfl⟩
  rw [← g139] at A139 st139
  have ne_a1_vb : a1 ≠ vb := Nat.ne_of_lt (by rw [g139]; exact Ea.lt)
  have G_vb : Gar Z h139 vb .byte (p1).toNatClampNeg (fun _ => defaultValue .byte) := Gar.new A139
  have g_vb : n0 ≤ vb := Nat.le_trans Z0 (Nat.le_of_eq g139.symm)
  have F139_a1_value := Fv.ext E139
  have F139_a1_coder := Fc.ext E139
  have F139_a1_count := Fn.ext E139
  have E139_a1 := Ea.ext E139
  have Z139 : n0 ≤ h139.size := Nat.le_trans Z0 E139.1
  have K139 := K0.ext E139
  have O139 := O0.ext E139
  have r140 : Steps p.tables e below S0 (T139.setTop (mkF m 14 #[.val (.ref a1), .val (.int p1)] [(.ref vb), (.ref a1)])) := r138.trans (st139 _ (Steps.refl _))
  have sz_vb : h0.size ≤ vb := Nat.le_trans K0.1 (Nat.le_of_eq g139.symm)
  have V_vb : Arv Z h139 vb k139 .byte p1 (List.replicate 16 (.int 0)) (.int 0) := (Arv.new A139 (by rw [hp]; decide)).pad (pad_rep [] (.int 0) 16)
  obtain ⟨T141, h141, X141, e141, W141, st141⟩ := putF X139 hx hZ hown (host := "") (Or.inl (hw _ (List.mem_of_getElem? (i := 63) rfl))) Via.refl e139 F139_a1_value E139_a1 (Or.inl (hw _ (List.mem_of_getElem? (i := 64) rfl))) (hw _ (List.mem_of_getElem? (i := 50) rfl)) (ty := (.array .byte)) (by decide) rfl rfl (g := (mkF m 14 #[.val (.ref a1), .val (.int p1)] [(.ref vb), (.ref a1)])) rfl rfl (hb hby d9_14)
  have N141 := Fr.snoc X141 N0 g_a1
  have F141_a1_value := F139_a1_value.same W141
  have F141_a1_coder := F139_a1_coder.other W141 (Or.inr (slot_ne (a0 := a0) (Or.inl (hw _ (List.mem_of_getElem? (i := 66) rfl))) (Or.inl (hw _ (List.mem_of_getElem? (i := 64) rfl))) (by decide) (t := .byte) (t' := (.array .byte)) (by decide) (by decide)))
  have F141_a1_count := F139_a1_count.other W141 (Or.inr (slot_ne (a0 := a0) (Or.inl (hw _ (List.mem_of_getElem? (i := 89) rfl))) (Or.inl (hw _ (List.mem_of_getElem? (i := 64) rfl))) (by decide) (t := .int) (t' := (.array .byte)) (by decide) (by decide)))
  have E141_a1 := E139_a1.wr W141
  have Z141 : n0 ≤ h141.size := Nat.le_trans Z139 (Nat.le_of_eq W141.size.symm)
  have K141 := K139.wr W141 (Or.inl (List.mem_of_getElem? (i := 0) rfl))
  have O141 := O139.wr W141 g_a1
  have V141_vb := V_vb.other W141 (Ne.symm ne_a1_vb)
  have r142 : Steps p.tables e below S0 (T141.setTop (mkF m 17 #[.val (.ref a1), .val (.int p1)] [])) := r140.trans (st141 _ (Steps.refl _))
  have r143 : Steps p.tables e below S0 (T141.setTop (mkF m 19 #[.val (.ref a1), .val (.int p1)] [(.int (0 : Int32)), (.ref a1)])) := by
    refine r142.trans ?_
    show Steps p.tables e below (T141.setTop (mkF m 17 #[.val (.ref a1), .val (.int p1)] [])) _
    refine XS.aloadN X141.here hx rfl (hb hby d9_17) rfl rfl ?_
    show Steps p.tables e below (T141.setTop (mkF m 18 #[.val (.ref a1), .val (.int p1)] [(.ref a1)])) _
    refine XS.iconst X141.here hx rfl (hb hby d9_18) ?_
    exact Steps.refl _
  obtain ⟨T144, h144, X144, e144, W144, st144⟩ := putF X141 hx hZ hown (host := "") (Or.inl (hw _ (List.mem_of_getElem? (i := 65) rfl))) Via.refl e141 F141_a1_coder E141_a1 (Or.inl (hw _ (List.mem_of_getElem? (i := 66) rfl))) (hw _ (List.mem_of_getElem? (i := 50) rfl)) (ty := .byte) (by decide) (by first | rfl | decide) (by first | rfl | decide) (g := (mkF m 19 #[.val (.ref a1), .val (.int p1)] [(.int (0 : Int32)), (.ref a1)])) rfl rfl (hb hby d9_19)
  have N144 := Fr.snoc X144 N141 g_a1
  have F144_a1_value := F141_a1_value.other W144 (Or.inr (slot_ne (a0 := a0) (Or.inl (hw _ (List.mem_of_getElem? (i := 64) rfl))) (Or.inl (hw _ (List.mem_of_getElem? (i := 66) rfl))) (by decide) (t := (.array .byte)) (t' := .byte) (by decide) (by decide)))
  have F144_a1_coder := F141_a1_coder.same W144
  have F144_a1_count := F141_a1_count.other W144 (Or.inr (slot_ne (a0 := a0) (Or.inl (hw _ (List.mem_of_getElem? (i := 89) rfl))) (Or.inl (hw _ (List.mem_of_getElem? (i := 66) rfl))) (by decide) (t := .int) (t' := .byte) (by decide) (by decide)))
  have E144_a1 := E141_a1.wr W144
  have Z144 : n0 ≤ h144.size := Nat.le_trans Z141 (Nat.le_of_eq W144.size.symm)
  have K144 := K141.wr W144 (Or.inl (List.mem_of_getElem? (i := 0) rfl))
  have O144 := O141.wr W144 g_a1
  have V144_vb := V141_vb.other W144 (Ne.symm ne_a1_vb)
  have r145 : Steps p.tables e below S0 (T144.setTop (mkF m 22 #[.val (.ref a1), .val (.int p1)] [])) := r143.trans (st144 _ (Steps.refl _))
  have r146 : Steps p.tables e below S0 (T144.setTop (mkF m 38 #[.val (.ref a1), .val (.int p1)] [])) := by
    refine r145.trans ?_
    show Steps p.tables e below (T144.setTop (mkF m 22 #[.val (.ref a1), .val (.int p1)] [])) _
    refine XS.goto X144.here hx rfl (pc0 := 22) (pc' := 38) rfl (hb hby d9_22) (by decide) (by decide) ?_
    exact Steps.refl _
  obtain ⟨fs, hr, hrun, hended, hW, hsame⟩ := X144.leave (v := none) (fun _ => rfl)
  refine ⟨_, _, pre0 _ ?_, hrun, hended, _, _, rfl, ?_, ⟨_, rfl⟩, hW, hsame.mono (by decide) (by decide)⟩
  · rw [← hS0]
    refine r146.trans ?_
    show Steps p.tables e below (T144.setTop (mkF m 38 #[.val (.ref a1), .val (.int p1)] [])) _
    exact X144.returnOut hx Bd.returns (hb hby d9_38) hr
  · show QmAI Z a1 p1 cz h0 n0 _ T144.heap _; rw [e144]; exact ⟨rfl, N144, K144, vb, k139, Nat.le_of_eq g139.symm, g_vb, E144_a1, F144_a1_value, F144_a1_coder, F144_a1_count, by have q := V144_vb; rw [hp] at q; exact q, List.length_replicate, ne_a1_vb⟩
theorem pn_8 : plainName "java/lang/StringBuilder" = true := by first | (simp [plainName, overriddenIn]; done) | decide +kernel
theorem ef_8 (m : MethodId) (x0 : Addr) : entryFrame m #[(.ref x0)] 1 = mkF m 0 #[.val (.ref x0)] [] := by first | (simp [entryFrame, mkF, argsToLocals, Value.category]; done) | rfl
def QmBI (Z : State) (a1 : Addr) (cz : Int32) (h0 : Heap) (n0 : Nat) (v : Option Value) (h : Heap) (L : List Loc) : Prop := v = none ∧ Fr n0 L ∧ Keep h0 h [a1] ∧ ∃ (vb : Addr) (kv : ClassId), h0.size ≤ vb ∧ n0 ≤ vb ∧ BV Z h a1 vb kv 0 (List.replicate 16 (.int 0))
set_option maxRecDepth 65536 in
set_option maxHeartbeats 40000000 in
theorem rmBI (l : Launch) (Z : State) (a0 : Array Value) (hw : ∀ d ∈ tables_1, d.before a0 Z = true) (ws : List Jvm.Cond) (a1 : Addr) (cz : Int32) (h0 : Heap) (n0 : Nat) (Z0 : n0 ≤ h0.size) (O0 : Old Z n0 h0) (Sc : Sta Z Z.heap "java/lang/String" "COMPACT_STRINGS" "Z" (.int cz)) (hcz : ¬ cz = 0)(Ea : Exa Z h0 a1 "java/lang/StringBuilder") (Fv : Fld Z h0 a1 "java/lang/AbstractStringBuilder" "value" "[B" .null) (Fc : Fld Z h0 a1 "java/lang/AbstractStringBuilder" "coder" "B" (.int (0 : Int32))) (Fn : Fld Z h0 a1 "java/lang/AbstractStringBuilder" "count" "I" (.int (0 : Int32))) (g_a1 : n0 ≤ a1) :
    MetFree l (⟨"java/lang/StringBuilder", "<init>", "()V"⟩ : MethodName) (head1 (Jvm.Cond.code (⟨"java/lang/StringBuilder", "<init>", "()V"⟩ : MethodName) jdk_67_method_1_code 1 none :: ws) ({ frames := 2, cells := 1, slots := 16, locals := 26 } : Room)) (fun a U => a = #[(.ref a1)] ∧ Z.Warmed39 U.vm ∧ U.heap = h0) (fun _ _ _ _ _ => True) (fun _ U o U' => ∃ v L, o = .returned v ∧ QmBI Z a1 cz h0 n0 v U'.heap L ∧ FrameEnd U o U' L ({ frames := 2, cells := 1, slots := 16, locals := 26 } : Room).cells ({ frames := 2, cells := 1, slots := 16, locals := 26 } : Room).slots) := by
  refine MetFree.of_bodySF (plainFor_of_name pn_8) hisR ?_
  intro p e s m args below meth c s₁ Bd hml0 hP hK
  obtain ⟨rfl, hZ, hh⟩ := hP
  have hx := Bd.exec
  have hby := Bd.bytes
  have hml : c.maxLocals = 1 := hml0
  have hown : s.vm.findClass "java/lang/StringBuilder" = some m.cls := findClass_of_methodNamed Bd.named
  have hnm := (name_of_methodNamed Bd.named Bd.method).1
  have X0 : Stand p l e ({ frames := 2, cells := 1, slots := 16, locals := 26 } : Room) s m #[(.ref a1)] below meth c s₁ [] 0 0 := Stand.of_body Bd
  have e0 : s₁.heap = h0 := by rw [← hh, Bd.state]; rfl
  have N0 := Fr.nil n0
  have pre0 : ∀ t, Steps p.tables e below (s₁.setTop (mkF m 0 #[.val (.ref a1)] [])) t → Steps p.tables e below (s₁.setTop (entryFrame m #[(.ref a1)] 1)) t := fun t_ k_ => castTop (ef_8 m a1) k_
  obtain ⟨S0, hS0⟩ : ∃ z, z = s₁.setTop (mkF m 0 #[.val (.ref a1)] []) := ⟨_, rfl⟩
  have r0 : Steps p.tables e below S0 (s₁.setTop (mkF m 0 #[.val (.ref a1)] [])) := by rw [hS0]; exact Steps.refl _
  have r147 : Steps p.tables e below S0 (s₁.setTop (mkF m 3 #[.val (.ref a1)] [(.int (16 : Int32)), (.ref a1)])) := by
    refine r0.trans ?_
    show Steps p.tables e below (s₁.setTop (mkF m 0 #[.val (.ref a1)] [])) _
    refine XS.aloadN X0.here hx rfl (hb hby d8_0) rfl rfl ?_
    show Steps p.tables e below (s₁.setTop (mkF m 1 #[.val (.ref a1)] [(.ref a1)])) _
    refine XS.bipush X0.here hx rfl (hb hby d8_1) ?_
    exact Steps.refl _
  obtain ⟨_, _, ⟨T148, L148, k148, n148⟩, -, X148, ⟨Lc148, hQ148, l148, y148, z148⟩, st148⟩ := X0.specialBack hx (y := (⟨"java/lang/AbstractStringBuilder", "<init>", "(I)V"⟩ : MethodName)) rfl hown (mvT hZ (hw _ (List.mem_of_getElem? (i := 55) rfl))) (mvT hZ (hw _ (List.mem_of_getElem? (i := 56) rfl))) (mvT hZ (hw _ (List.mem_of_getElem? (i := 60) rfl))) (by decide) (backOf (W := 0) (rmAI l Z a0 hw [] a1 (16 : Int32) cz h0 n0 Z0 O0 Sc hcz Ea Fv Fc Fn g_a1 rfl) hZ (hw _ (List.mem_of_getElem? (i := 60) rfl)) (hw _ (List.mem_of_getElem? (i := 59) rfl)) (by decide) (by decide)) (g := (mkF m 3 #[.val (.ref a1)] [(.int (16 : Int32)), (.ref a1)])) rfl (by rw [hml]; rfl) (Steps.refl _) (a := a1) (argsL := [(.int (16 : Int32))]) (rest := []) (lenOf pd_4 rfl) rfl (by show 2 * 0 + _ ≤ _; exact Nat.le_of_eq rfl) (hb hby d8_3) (fun _ _ => ⟨rfl, e0, (by decide : 0 + 1 ≤ _), (by decide : 0 + 16 ≤ _)⟩)
  dsimp only [Pt.U, Pt.locs, Pt.cells, Pt.slots] at X148 l148 y148 z148 st148 hQ148
  subst l148 y148 z148
  obtain ⟨rfl, Nq148, Kc148, hR148⟩ := hQ148
  have N148 := Fr.app N0 Nq148
  have r149 : Steps p.tables e below S0 (T148.setTop (mkF m 6 #[.val (.ref a1)] [])) := r147.trans st148
  obtain ⟨fs, hr, hrun, hended, hW, hsame⟩ := X148.leave (v := none) (fun _ => rfl)
  refine ⟨_, _, pre0 _ ?_, hrun, hended, _, _, rfl, ?_, ⟨_, rfl⟩, hW, hsame.mono (by decide) (by decide)⟩
  · rw [← hS0]
    refine r149.trans ?_
    show Steps p.tables e below (T148.setTop (mkF m 6 #[.val (.ref a1)] [])) _
    exact X148.returnOut hx Bd.returns (hb hby d8_6) hr
  · show QmBI Z a1 cz h0 n0 _ T148.heap _; exact ⟨rfl, N148, Kc148, hR148⟩
theorem pn_6 : plainName "java/lang/Record" = true := by first | (simp [plainName, overriddenIn]; done) | decide +kernel
theorem ef_6 (m : MethodId) (x0 : Addr) : entryFrame m #[(.ref x0)] 1 = mkF m 0 #[.val (.ref x0)] [] := by first | (simp [entryFrame, mkF, argsToLocals, Value.category]; done) | rfl
def QmRe (Z : State) (a1 : Addr)  (h0 : Heap) (n0 : Nat) (v : Option Value) (h : Heap) (L : List Loc) : Prop := v = none ∧ Fr n0 L ∧ h = h0
set_option maxRecDepth 65536 in
set_option maxHeartbeats 40000000 in
theorem rmRe (l : Launch) (Z : State) (a0 : Array Value) (hw : ∀ d ∈ tables_1, d.before a0 Z = true) (ws : List Jvm.Cond) (a1 : Addr)  (h0 : Heap) (n0 : Nat) (Z0 : n0 ≤ h0.size)  :
    MetFree l (⟨"java/lang/Record", "<init>", "()V"⟩ : MethodName) (head1 (Jvm.Cond.code (⟨"java/lang/Record", "<init>", "()V"⟩ : MethodName) jdk_30_method_1_code 1 none :: ws) ({ frames := 1, cells := 0, slots := 0, locals := 12 } : Room)) (fun a U => a = #[(.ref a1)] ∧ Z.Warmed39 U.vm ∧ U.heap = h0) (fun _ _ _ _ _ => True) (fun _ U o U' => ∃ v L, o = .returned v ∧ QmRe Z a1 h0 n0 v U'.heap L ∧ FrameEnd U o U' L ({ frames := 1, cells := 0, slots := 0, locals := 12 } : Room).cells ({ frames := 1, cells := 0, slots := 0, locals := 12 } : Room).slots) := by
  refine MetFree.of_bodySF (plainFor_of_name pn_6) hisR ?_
  intro p e s m args below meth c s₁ Bd hml0 hP hK
  obtain ⟨rfl, hZ, hh⟩ := hP
  have hx := Bd.exec
  have hby := Bd.bytes
  have hml : c.maxLocals = 1 := hml0
  have hown : s.vm.findClass "java/lang/Record" = some m.cls := findClass_of_methodNamed Bd.named
  have hnm := (name_of_methodNamed Bd.named Bd.method).1
  have X0 : Stand p l e ({ frames := 1, cells := 0, slots := 0, locals := 12 } : Room) s m #[(.ref a1)] below meth c s₁ [] 0 0 := Stand.of_body Bd
  have e0 : s₁.heap = h0 := by rw [← hh, Bd.state]; rfl
  have N0 := Fr.nil n0
  have pre0 : ∀ t, Steps p.tables e below (s₁.setTop (mkF m 0 #[.val (.ref a1)] [])) t → Steps p.tables e below (s₁.setTop (entryFrame m #[(.ref a1)] 1)) t := fun t_ k_ => castTop (ef_6 m a1) k_
  obtain ⟨S0, hS0⟩ : ∃ z, z = s₁.setTop (mkF m 0 #[.val (.ref a1)] []) := ⟨_, rfl⟩
  have r0 : Steps p.tables e below S0 (s₁.setTop (mkF m 0 #[.val (.ref a1)] [])) := by rw [hS0]; exact Steps.refl _
  have r150 : Steps p.tables e below S0 (s₁.setTop (mkF m 1 #[.val (.ref a1)] [(.ref a1)])) := by
    refine r0.trans ?_
    show Steps p.tables e below (s₁.setTop (mkF m 0 #[.val (.ref a1)] [])) _
    refine XS.aloadN X0.here hx rfl (hb hby d6_0) rfl rfl ?_
    exact Steps.refl _
  obtain ⟨T151, X151, e151, st151⟩ := initO X0 hx hZ hown (hw _ (List.mem_of_getElem? (i := 37) rfl)) (hw _ (List.mem_of_getElem? (i := 16) rfl)) (hw _ (List.mem_of_getElem? (i := 17) rfl)) e0 (g := (mkF m 1 #[.val (.ref a1)] [(.ref a1)])) rfl (by rw [hml]; rfl) rfl (hb hby d6_1) (by decide) (W := 0) (by show 2 * 0 + _ ≤ _; exact Nat.le_of_eq rfl) (by decide)
  have r152 : Steps p.tables e below S0 (T151.setTop (mkF m 4 #[.val (.ref a1)] [])) := r150.trans (st151 _ (Steps.refl _))
  obtain ⟨fs, hr, hrun, hended, hW, hsame⟩ := X151.leave (v := none) (fun _ => rfl)
  refine ⟨_, _, pre0 _ ?_, hrun, hended, _, _, rfl, ?_, ⟨_, rfl⟩, hW, hsame.mono (by decide) (by decide)⟩
  · rw [← hS0]
    refine r152.trans ?_
    show Steps p.tables e below (T151.setTop (mkF m 4 #[.val (.ref a1)] [])) _
    exact X151.returnOut hx Bd.returns (hb hby d6_4) hr
  · show QmRe Z a1 h0 n0 _ T151.heap _; rw [e151]; exact ⟨rfl, N0, rfl⟩
theorem pn_5 : plainName "com/example/spectraloom/spectraloom/model/Link" = true := by first | (simp [plainName, overriddenIn]; done) | decide +kernel
theorem ef_5_00 (m : MethodId) (x0 : Addr) (x3 : UInt64) : entryFrame m #[(.ref x0), .null, .null, (.double x3)] 5 = mkF m 0 #[.val (.ref x0), .val .null, .val .null, .val (.double x3), .second] [] := by first | (simp [entryFrame, mkF, argsToLocals, Value.category]; done) | rfl
def QmLi00 (Z : State) (a1 : Addr) (dd : UInt64)  (h0 : Heap) (n0 : Nat) (v : Option Value) (h : Heap) (L : List Loc) : Prop := v = none ∧ Fr n0 L ∧ Keep h0 h [a1] ∧ Exa Z h a1 "com/example/spectraloom/spectraloom/model/Link" ∧ Fld Z h a1 "com/example/spectraloom/spectraloom/model/Link" "source" "Ljava/lang/String;" .null ∧ Fld Z h a1 "com/example/spectraloom/spectraloom/model/Link" "target" "Ljava/lang/String;" .null
set_option maxRecDepth 65536 in
set_option maxHeartbeats 40000000 in
theorem rmLi00 (l : Launch) (Z : State) (a0 : Array Value) (hw : ∀ d ∈ tables_1, d.before a0 Z = true) (ws : List Jvm.Cond) (a1 : Addr) (dd : UInt64)  (h0 : Heap) (n0 : Nat) (Z0 : n0 ≤ h0.size) (Ea : Exa Z h0 a1 "com/example/spectraloom/spectraloom/model/Link") (Fs : Fld Z h0 a1 "com/example/spectraloom/spectraloom/model/Link" "source" "Ljava/lang/String;" .null) (Ft : Fld Z h0 a1 "com/example/spectraloom/spectraloom/model/Link" "target" "Ljava/lang/String;" .null) (Fd : Fld Z h0 a1 "com/example/spectraloom/spectraloom/model/Link" "lengthKm" "D" (.double (0 : UInt64))) (g_a1 : n0 ≤ a1) :
    MetFree l (⟨"com/example/spectraloom/spectraloom/model/Link", "<init>", "(Ljava/lang/String;Ljava/lang/String;D)V"⟩ : MethodName) (head1 (Jvm.Cond.code (⟨"com/example/spectraloom/spectraloom/model/Link", "<init>", "(Ljava/lang/String;Ljava/lang/String;D)V"⟩ : MethodName) prog_19_method_1_code 5 none :: ws) ({ frames := 2, cells := 0, slots := 0, locals := 24 } : Room)) (fun a U => a = #[(.ref a1), .null, .null, (.double dd)] ∧ Z.Warmed39 U.vm ∧ U.heap = h0) (fun _ _ _ _ _ => True) (fun _ U o U' => ∃ v L, o = .returned v ∧ QmLi00 Z a1 dd h0 n0 v U'.heap L ∧ FrameEnd U o U' L ({ frames := 2, cells := 0, slots := 0, locals := 24 } : Room).cells ({ frames := 2, cells := 0, slots := 0, locals := 24 } : Room).slots) := by
  refine MetFree.of_bodySF (plainFor_of_name pn_5) hisR ?_
  intro p e s m args below meth c s₁ Bd hml0 hP hK
  obtain ⟨rfl, hZ, hh⟩ := hP
  have hx := Bd.exec
  have hby := Bd.bytes
  have hml : c.maxLocals = 5 := hml0
  have hown : s.vm.findClass "com/example/spectraloom/spectraloom/model/Link" = some m.cls := findClass_of_methodNamed Bd.named
  have hnm := (name_of_methodNamed Bd.named Bd.method).1
  have X0 : Stand p l e ({ frames := 2, cells := 0, slots := 0, locals := 24 } : Room) s m #[(.ref a1), .null, .null, (.double dd)] below meth c s₁ [] 0 0 := Stand.of_body Bd
  have e0 : s₁.heap = h0 := by rw [← hh, Bd.state]; rfl
  have N0 := Fr.nil n0
  have pre0 : ∀ t, Steps p.tables e below (s₁.setTop (mkF m 0 #[.val (.ref a1), .val .null, .val .null, .val (.double dd), .second] [])) t → Steps p.tables e below (s₁.setTop (entryFrame m #[(.ref a1), .null, .null, (.double dd)] 5)) t := fun t_ k_ => castTop (ef_5_00 m a1 dd) k_
  obtain ⟨S0, hS0⟩ : ∃ z, z = s₁.setTop (mkF m 0 #[.val (.ref a1), .val .null, .val .null, .val (.double dd), .second] []) := ⟨_, rfl⟩
  have r0 : Steps p.tables e below S0 (s₁.setTop (mkF m 0 #[.val (.ref a1), .val .null, .val .null, .val (.double dd), .second] [])) := by rw [hS0]; exact Steps.refl _
  have K0 := Keep.refl h0 [a1]
  have r153 : Steps p.tables e below S0 (s₁.setTop (mkF m 1 #[.val (.ref a1), .val .null, .val .null, .val (.double dd), .second] [(.ref a1)])) := by
    refine r0.trans ?_
    show Steps p.tables e below (s₁.setTop (mkF m 0 #[.val (.ref a1), .val .null, .val .null, .val (.double dd), .second] [])) _
    refine XS.aloadN X0.here hx rfl (hb hby d5_0) rfl rfl ?_
    exact Steps.refl _
  obtain ⟨_, _, ⟨T154, L154, k154, n154⟩, -, X154, ⟨Lc154, hQ154, l154, y154, z154⟩, st154⟩ := X0.specialBack hx (y := (⟨"java/lang/Record", "<init>", "()V"⟩ : MethodName)) rfl hown (mvT hZ (hw _ (List.mem_of_getElem? (i := 32) rfl))) (mvT hZ (hw _ (List.mem_of_getElem? (i := 33) rfl))) (mvT hZ (hw _ (List.mem_of_getElem? (i := 36) rfl))) (by decide) (backOf (W := 0) (rmRe l Z a0 hw [] a1 h0 n0 Z0) hZ (hw _ (List.mem_of_getElem? (i := 36) rfl)) (hw _ (List.mem_of_getElem? (i := 35) rfl)) (by decide) (by decide)) (g := (mkF m 1 #[.val (.ref a1), .val .null, .val .null, .val (.double dd), .second] [(.ref a1)])) rfl (by rw [hml]; rfl) (Steps.refl _) (a := a1) (argsL := []) (rest := []) (lenOf pd_9 rfl) rfl (by show 2 * 0 + _ ≤ _; exact Nat.le_of_eq rfl) (hb hby d5_1) (fun _ _ => ⟨rfl, e0, (by decide : 0 + 0 ≤ _), (by decide : 0 + 0 ≤ _)⟩)
  dsimp only [Pt.U, Pt.locs, Pt.cells, Pt.slots] at X154 l154 y154 z154 st154 hQ154
  subst l154 y154 z154
  obtain ⟨rfl, Nq154, e154⟩ := hQ154
  have N154 := Fr.app N0 Nq154
  have r155 : Steps p.tables e below S0 (T154.setTop (mkF m 4 #[.val (.ref a1), .val .null, .val .null, .val (.double dd), .second] [])) := r153.trans st154
  have r156 : Steps p.tables e below S0 (T154.setTop (mkF m 6 #[.val (.ref a1), .val .null, .val .null, .val (.double dd), .second] [.null, (.ref a1)])) := by
    refine r155.trans ?_
    show Steps p.tables e below (T154.setTop (mkF m 4 #[.val (.ref a1), .val .null, .val .null, .val (.double dd), .second] [])) _
    refine XS.aloadN X154.here hx rfl (hb hby d5_4) rfl rfl ?_
    show Steps p.tables e below (T154.setTop (mkF m 5 #[.val (.ref a1), .val .null, .val .null, .val (.double dd), .second] [(.ref a1)])) _
    refine XS.aloadN X154.here hx rfl (hb hby d5_5) rfl rfl ?_
    exact Steps.refl _
  obtain ⟨T157, h157, X157, e157, W157, st157⟩ := putF X154 hx hZ hown (host := "") (Or.inl (hw _ (List.mem_of_getElem? (i := 38) rfl))) Via.refl e154 Fs Ea (Or.inr ⟨(hw _ (List.mem_of_getElem? (i := 39) rfl)), rfl, hnm⟩) (hw _ (List.mem_of_getElem? (i := 27) rfl)) (ty := (.object "java/lang/String")) (by decide) rfl rfl (g := (mkF m 6 #[.val (.ref a1), .val .null, .val .null, .val (.double dd), .second] [.null, (.ref a1)])) rfl rfl (hb hby d5_6)
  have N157 := Fr.snoc X157 N154 g_a1
  have F157_a1_source := Fs.same W157
  have F157_a1_target := Ft.other W157 (Or.inr (slot_ne (a0 := a0) (Or.inr (hw _ (List.mem_of_getElem? (i := 41) rfl))) (Or.inr (hw _ (List.mem_of_getElem? (i := 39) rfl))) (by decide) (t := (.object "java/lang/String")) (t' := (.object "java/lang/String")) (by decide) (by decide)))
  have F157_a1_lengthKm := Fd.other W157 (Or.inr (slot_ne (a0 := a0) (Or.inr (hw _ (List.mem_of_getElem? (i := 43) rfl))) (Or.inr (hw _ (List.mem_of_getElem? (i := 39) rfl))) (by decide) (t := .double) (t' := (.object "java/lang/String")) (by decide) (by decide)))
  have E157_a1 := Ea.wr W157
  have Z157 : n0 ≤ h157.size := Nat.le_trans Z0 (Nat.le_of_eq W157.size.symm)
  have K157 := K0.wr W157 (Or.inl (List.mem_of_getElem? (i := 0) rfl))
  have r158 : Steps p.tables e below S0 (T157.setTop (mkF m 9 #[.val (.ref a1), .val .null, .val .null, .val (.double dd), .second] [])) := r156.trans (st157 _ (Steps.refl _))
  have r159 : Steps p.tables e below S0 (T157.setTop (mkF m 11 #[.val (.ref a1), .val .null, .val .null, .val (.double dd), .second] [.null, (.ref a1)])) := by
    refine r158.trans ?_
    show Steps p.tables e below (T157.setTop (mkF m 9 #[.val (.ref a1), .val .null, .val .null, .val (.double dd), .second] [])) _
    refine XS.aloadN X157.here hx rfl (hb hby d5_9) rfl rfl ?_
    show Steps p.tables e below (T157.setTop (mkF m 10 #[.val (.ref a1), .val .null, .val .null, .val (.double dd), .second] [(.ref a1)])) _
    refine XS.aloadN X157.here hx rfl (hb hby d5_10) rfl rfl ?_
    exact Steps.refl _
  obtain ⟨T160, h160, X160, e160, W160, st160⟩ := putF X157 hx hZ hown (host := "") (Or.inl (hw _ (List.mem_of_getElem? (i := 40) rfl))) Via.refl e157 F157_a1_target E157_a1 (Or.inr ⟨(hw _ (List.mem_of_getElem? (i := 41) rfl)), rfl, hnm⟩) (hw _ (List.mem_of_getElem? (i := 27) rfl)) (ty := (.object "java/lang/String")) (by decide) rfl rfl (g := (mkF m 11 #[.val (.ref a1), .val .null, .val .null, .val (.double dd), .second] [.null, (.ref a1)])) rfl rfl (hb hby d5_11)
  have N160 := Fr.snoc X160 N157 g_a1
  have F160_a1_source := F157_a1_source.other W160 (Or.inr (slot_ne (a0 := a0) (Or.inr (hw _ (List.mem_of_getElem? (i := 39) rfl))) (Or.inr (hw _ (List.mem_of_getElem? (i := 41) rfl))) (by decide) (t := (.object "java/lang/String")) (t' := (.object "java/lang/String")) (by decide) (by decide)))
  have F160_a1_target := F157_a1_target.same W160
  have F160_a1_lengthKm := F157_a1_lengthKm.other W160 (Or.inr (slot_ne (a0 := a0) (Or.inr (hw _ (List.mem_of_getElem? (i := 43) rfl))) (Or.inr (hw _ (List.mem_of_getElem? (i := 41) rfl))) (by decide) (t := .double) (t' := (.object "java/lang/String")) (by decide) (by decide)))
  have E160_a1 := E157_a1.wr W160
  have Z160 : n0 ≤ h160.size := Nat.le_trans Z157 (Nat.le_of_eq W160.size.symm)
  have K160 := K157.wr W160 (Or.inl (List.mem_of_getElem? (i := 0) rfl))
  have r161 : Steps p.tables e below S0 (T160.setTop (mkF m 14 #[.val (.ref a1), .val .null, .val .null, .val (.double dd), .second] [])) := r159.trans (st160 _ (Steps.refl _))
  have r162 : Steps p.tables e below S0 (T160.setTop (mkF m 16 #[.val (.ref a1), .val .null, .val .null, .val (.double dd), .second] [(.double dd), (.ref a1)])) := by
    refine r161.trans ?_
    show Steps p.tables e below (T160.setTop (mkF m 14 #[.val (.ref a1), .val .null, .val .null, .val (.double dd), .second] [])) _
    refine XS.aloadN X160.here hx rfl (hb hby d5_14) rfl rfl ?_
    show Steps p.tables e below (T160.setTop (mkF m 15 #[.val (.ref a1), .val .null, .val .null, .val (.double dd), .second] [(.ref a1)])) _
    refine XS.dloadN X160.here hx rfl (hb hby d5_15) rfl ?_
    exact Steps.refl _
  obtain ⟨T163, h163, X163, e163, W163, st163⟩ := putF X160 hx hZ hown (host := "") (Or.inl (hw _ (List.mem_of_getElem? (i := 42) rfl))) Via.refl e160 F160_a1_lengthKm E160_a1 (Or.inr ⟨(hw _ (List.mem_of_getElem? (i := 43) rfl)), rfl, hnm⟩) (hw _ (List.mem_of_getElem? (i := 27) rfl)) (ty := .double) (by decide) rfl rfl (g := (mkF m 16 #[.val (.ref a1), .val .null, .val .null, .val (.double dd), .second] [(.double dd), (.ref a1)])) rfl rfl (hb hby d5_16)
  have N163 := Fr.snoc X163 N160 g_a1
  have F163_a1_source := F160_a1_source.other W163 (Or.inr (slot_ne (a0 := a0) (Or.inr (hw _ (List.mem_of_getElem? (i := 39) rfl))) (Or.inr (hw _ (List.mem_of_getElem? (i := 43) rfl))) (by decide) (t := (.object "java/lang/String")) (t' := .double) (by decide) (by decide)))
  have F163_a1_target := F160_a1_target.other W163 (Or.inr (slot_ne (a0 := a0) (Or.inr (hw _ (List.mem_of_getElem? (i := 41) rfl))) (Or.inr (hw _ (List.mem_of_getElem? (i := 43) rfl))) (by decide) (t := (.object "java/lang/String")) (t' := .double) (by decide) (by decide)))
  have F163_a1_lengthKm := F160_a1_lengthKm.same W163
  have E163_a1 := E160_a1.wr W163
  have Z163 : n0 ≤ h163.size := Nat.le_trans Z160 (Nat.le_of_eq W163.size.symm)
  have K163 := K160.wr W163 (Or.inl (List.mem_of_getElem? (i := 0) rfl))
  have r164 : Steps p.tables e below S0 (T163.setTop (mkF m 19 #[.val (.ref a1), .val .null, .val .null, .val (.double dd), .second] [])) := r162.trans (st163 _ (Steps.refl _))
  obtain ⟨fs, hr, hrun, hended, hW, hsame⟩ := X163.leave (v := none) (fun _ => rfl)
  refine ⟨_, _, pre0 _ ?_, hrun, hended, _, _, rfl, ?_, ⟨_, rfl⟩, hW, hsame.mono (by decide) (by decide)⟩
  · rw [← hS0]
    refine r164.trans ?_
    show Steps p.tables e below (T163.setTop (mkF m 19 #[.val (.ref a1), .val .null, .val .null, .val (.double dd), .second] [])) _
    exact X163.returnOut hx Bd.returns (hb hby d5_19) hr
  · show QmLi00 Z a1 dd h0 n0 _ T163.heap _; rw [e163]; exact ⟨rfl, N163, K163, E163_a1, F163_a1_source, F163_a1_target⟩
theorem ef_5_01 (m : MethodId) (x0 : Addr) (x2 : Addr) (x3 : UInt64) : entryFrame m #[(.ref x0), .null, (.ref x2), (.double x3)] 5 = mkF m 0 #[.val (.ref x0), .val .null, .val (.ref x2), .val (.double x3), .second] [] := by first | (simp [entryFrame, mkF, argsToLocals, Value.category]; done) | rfl
def QmLi01 (Z : State) (a1 : Addr) (a3 : Addr) (dd : UInt64)  (h0 : Heap) (n0 : Nat) (v : Option Value) (h : Heap) (L : List Loc) : Prop := v = none ∧ Fr n0 L ∧ Keep h0 h [a1] ∧ Exa Z h a1 "com/example/spectraloom/spectraloom/model/Link" ∧ Fld Z h a1 "com/example/spectraloom/spectraloom/model/Link" "source" "Ljava/lang/String;" .null ∧ Fld Z h a1 "com/example/spectraloom/spectraloom/model/Link" "target" "Ljava/lang/String;" (.ref a3)
set_option maxRecDepth 65536 in
set_option maxHeartbeats 40000000 in
theorem rmLi01 (l : Launch) (Z : State) (a0 : Array Value) (hw : ∀ d ∈ tables_1, d.before a0 Z = true) (ws : List Jvm.Cond) (a1 : Addr) (a3 : Addr) (dd : UInt64)  (h0 : Heap) (n0 : Nat) (Z0 : n0 ≤ h0.size) (Ea : Exa Z h0 a1 "com/example/spectraloom/spectraloom/model/Link") (Fs : Fld Z h0 a1 "com/example/spectraloom/spectraloom/model/Link" "source" "Ljava/lang/String;" .null) (Ft : Fld Z h0 a1 "com/example/spectraloom/spectraloom/model/Link" "target" "Ljava/lang/String;" .null) (Fd : Fld Z h0 a1 "com/example/spectraloom/spectraloom/model/Link" "lengthKm" "D" (.double (0 : UInt64))) (g_a1 : n0 ≤ a1) :
    MetFree l (⟨"com/example/spectraloom/spectraloom/model/Link", "<init>", "(Ljava/lang/String;Ljava/lang/String;D)V"⟩ : MethodName) (head1 (Jvm.Cond.code (⟨"com/example/spectraloom/spectraloom/model/Link", "<init>", "(Ljava/lang/String;Ljava/lang/String;D)V"⟩ : MethodName) prog_19_method_1_code 5 none :: ws) ({ frames := 2, cells := 0, slots := 0, locals := 24 } : Room)) (fun a U => a = #[(.ref a1), .null, (.ref a3), (.double dd)] ∧ Z.Warmed39 U.vm ∧ U.heap = h0) (fun _ _ _ _ _ => True) (fun _ U o U' => ∃ v L, o = .returned v ∧ QmLi01 Z a1 a3 dd h0 n0 v U'.heap L ∧ FrameEnd U o U' L ({ frames := 2, cells := 0, slots := 0, locals := 24 } : Room).cells ({ frames := 2, cells := 0, slots := 0, locals := 24 } : Room).slots) := by
  refine MetFree.of_bodySF (plainFor_of_name pn_5) hisR ?_
  intro p e s m args below meth c s₁ Bd hml0 hP hK
  obtain ⟨rfl, hZ, hh⟩ := hP
  have hx := Bd.exec
  have hby := Bd.bytes
  have hml : c.maxLocals = 5 := hml0
  have hown : s.vm.findClass "com/example/spectraloom/spectraloom/model/Link" = some m.cls := findClass_of_methodNamed Bd.named
  have hnm := (name_of_methodNamed Bd.named Bd.method).1
  have X0 : Stand p l e ({ frames := 2, cells := 0, slots := 0, locals := 24 } : Room) s m #[(.ref a1), .null, (.ref a3), (.double dd)] below meth c s₁ [] 0 0 := Stand.of_body Bd
  have e0 : s₁.heap = h0 := by rw [← hh, Bd.state]; rfl
  have N0 := Fr.nil n0
  have pre0 : ∀ t, Steps p.tables e below (s₁.setTop (mkF m 0 #[.val (.ref a1), .val .null, .val (.ref a3), .val (.double dd), .second] [])) t → Steps p.tables e below (s₁.setTop (entryFrame m #[(.ref a1), .null, (.ref a3), (.double dd)] 5)) t := fun t_ k_ => castTop (ef_5_01 m a1 a3 dd) k_
  obtain ⟨S0, hS0⟩ : ∃ z, z = s₁.setTop (mkF m 0 #[.val (.ref a1), .val .null, .val (.ref a3), .val (.double dd), .second] []) := ⟨_, rfl⟩
  have r0 : Steps p.tables e below S0 (s₁.setTop (mkF m 0 #[.val (.ref a1), .val .null, .val (.ref a3), .val (.double dd), .second] [])) := by rw [hS0]; exact Steps.refl _
  have K0 := Keep.refl h0 [a1]
  have r165 : Steps p.tables e below S0 (s₁.setTop (mkF m 1 #[.val (.ref a1), .val .null, .val (.ref a3), .val (.double dd), .second] [(.ref a1)])) := by
    refine r0.trans ?_
    show Steps p.tables e below (s₁.setTop (mkF m 0 #[.val (.ref a1), .val .null, .val (.ref a3), .val (.double dd), .second] [])) _
    refine XS.aloadN X0.here hx rfl (hb hby d5_0) rfl rfl ?_
    exact Steps.refl _
  obtain ⟨_, _, ⟨T166, L166, k166, n166⟩, -, X166, ⟨Lc166, hQ166, l166, y166, z166⟩, st166⟩ := X0.specialBack hx (y := (⟨"java/lang/Record", "<init>", "()V"⟩ : MethodName)) rfl hown (mvT hZ (hw _ (List.mem_of_getElem? (i := 32) rfl))) (mvT hZ (hw _ (List.mem_of_getElem? (i := 33) rfl))) (mvT hZ (hw _ (List.mem_of_getElem? (i := 36) rfl))) (by decide) (backOf (W := 0) (rmRe l Z a0 hw [] a1 h0 n0 Z0) hZ (hw _ (List.mem_of_getElem? (i := 36) rfl)) (hw _ (List.mem_of_getElem? (i := 35) rfl)) (by decide) (by decide)) (g := (mkF m 1 #[.val (.ref a1), .val .null, .val (.ref a3), .val (.double dd), .second] [(.ref a1)])) rfl (by rw [hml]; rfl) (Steps.refl _) (a := a1) (argsL := []) (rest := []) (lenOf pd_9 rfl) rfl (by show 2 * 0 + _ ≤ _; exact Nat.le_of_eq rfl) (hb hby d5_1) (fun _ _ => ⟨rfl, e0, (by decide : 0 + 0 ≤ _), (by decide : 0 + 0 ≤ _)⟩)
  dsimp only [Pt.U, Pt.locs, Pt.cells, Pt.slots] at X166 l166 y166 z166 st166 hQ166
  subst l166 y166 z166
  obtain ⟨rfl, Nq166, e166⟩ := hQ166
  have N166 := Fr.app N0 Nq166
  have r167 : Steps p.tables e below S0 (T166.setTop (mkF m 4 #[.val (.ref a1), .val .null, .val (.ref a3), .val (.double dd), .second] [])) := r165.trans st166
  have r168 : Steps p.tables e below S0 (T166.setTop (mkF m 6 #[.val (.ref a1), .val .null, .val (.ref a3), .val (.double dd), .second] [.null, (.ref a1)])) := by
    refine r167.trans ?_
    show Steps p.tables e below (T166.setTop (mkF m 4 #[.val (.ref a1), .val .null, .val (.ref a3), .val (.double dd), .second] [])) _
    refine XS.aloadN X166.here hx rfl (hb hby d5_4) rfl rfl ?_
    show Steps p.tables e below (T166.setTop (mkF m 5 #[.val (.ref a1), .val .null, .val (.ref a3), .val (.double dd), .second] [(.ref a1)])) _
    refine XS.aloadN X166.here hx rfl (hb hby d5_5) rfl rfl ?_
    exact Steps.refl _
  obtain ⟨T169, h169, X169, e169, W169, st169⟩ := putF X166 hx hZ hown (host := "") (Or.inl (hw _ (List.mem_of_getElem? (i := 38) rfl))) Via.refl e166 Fs Ea (Or.inr ⟨(hw _ (List.mem_of_getElem? (i := 39) rfl)), rfl, hnm⟩) (hw _ (List.mem_of_getElem? (i := 27) rfl)) (ty := (.object "java/lang/String")) (by decide) rfl rfl (g := (mkF m 6 #[.val (.ref a1), .val .null, .val (.ref a3), .val (.double dd), .second] [.null, (.ref a1)])) rfl rfl (hb hby d5_6)
  have N169 := Fr.snoc X169 N166 g_a1
  have F169_a1_source := Fs.same W169
  have F169_a1_target := Ft.other W169 (Or.inr (slot_ne (a0 := a0) (Or.inr (hw _ (List.mem_of_getElem? (i := 41) rfl))) (Or.inr (hw _ (List.mem_of_getElem? (i := 39) rfl))) (by decide) (t := (.object "java/lang/String")) (t' := (.object "java/lang/String")) (by decide) (by decide)))
  have F169_a1_lengthKm := Fd.other W169 (Or.inr (slot_ne (a0 := a0) (Or.inr (hw _ (List.mem_of_getElem? (i := 43) rfl))) (Or.inr (hw _ (List.mem_of_getElem? (i := 39) rfl))) (by decide) (t := .double) (t' := (.object "java/lang/String")) (by decide) (by decide)))
  have E169_a1 := Ea.wr W169
  have Z169 : n0 ≤ h169.size := Nat.le_trans Z0 (Nat.le_of_eq W169.size.symm)
  have K169 := K0.wr W169 (Or.inl (List.mem_of_getElem? (i := 0) rfl))
  have r170 : Steps p.tables e below S0 (T169.setTop (mkF m 9 #[.val (.ref a1), .val .null, .val (.ref a3), .val (.double dd), .second] [])) := r168.trans (st169 _ (Steps.refl _))
  have r171 : Steps p.tables e below S0 (T169.setTop (mkF m 11 #[.val (.ref a1), .val .null, .val (.ref a3), .val (.double dd), .second] [(.ref a3), (.ref a1)])) := by
    refine r170.trans ?_
    show Steps p.tables e below (T169.setTop (mkF m 9 #[.val (.ref a1), .val .null, .val (.ref a3), .val (.double dd), .second] [])) _
    refine XS.aloadN X169.here hx rfl (hb hby d5_9) rfl rfl ?_
    show Steps p.tables e below (T169.setTop (mkF m 10 #[.val (.ref a1), .val .null, .val (.ref a3), .val (.double dd), .second] [(.ref a1)])) _
    refine XS.aloadN X169.here hx rfl (hb hby d5_10) rfl rfl ?_
    exact Steps.refl _
  obtain ⟨T172, h172, X172, e172, W172, st172⟩ := putF X169 hx hZ hown (host := "") (Or.inl (hw _ (List.mem_of_getElem? (i := 40) rfl))) Via.refl e169 F169_a1_target E169_a1 (Or.inr ⟨(hw _ (List.mem_of_getElem? (i := 41) rfl)), rfl, hnm⟩) (hw _ (List.mem_of_getElem? (i := 27) rfl)) (ty := (.object "java/lang/String")) (by decide) rfl rfl (g := (mkF m 11 #[.val (.ref a1), .val .null, .val (.ref a3), .val (.double dd), .second] [(.ref a3), (.ref a1)])) rfl rfl (hb hby d5_11)
  have N172 := Fr.snoc X172 N169 g_a1
  have F172_a1_source := F169_a1_source.other W172 (Or.inr (slot_ne (a0 := a0) (Or.inr (hw _ (List.mem_of_getElem? (i := 39) rfl))) (Or.inr (hw _ (List.mem_of_getElem? (i := 41) rfl))) (by decide) (t := (.object "java/lang/String")) (t' := (.object "java/lang/String")) (by decide) (by decide)))
  have F172_a1_target := F169_a1_target.same W172
  have F172_a1_lengthKm := F169_a1_lengthKm.other W172 (Or.inr (slot_ne (a0 := a0) (Or.inr (hw _ (List.mem_of_getElem? (i := 43) rfl))) (Or.inr (hw _ (List.mem_of_getElem? (i := 41) rfl))) (by decide) (t := .double) (t' := (.object "java/lang/String")) (by decide) (by decide)))
  have E172_a1 := E169_a1.wr W172
  have Z172 : n0 ≤ h172.size := Nat.le_trans Z169 (Nat.le_of_eq W172.size.symm)
  have K172 := K169.wr W172 (Or.inl (List.mem_of_getElem? (i := 0) rfl))
  have r173 : Steps p.tables e below S0 (T172.setTop (mkF m 14 #[.val (.ref a1), .val .null, .val (.ref a3), .val (.double dd), .second] [])) := r171.trans (st172 _ (Steps.refl _))
  have r174 : Steps p.tables e below S0 (T172.setTop (mkF m 16 #[.val (.ref a1), .val .null, .val (.ref a3), .val (.double dd), .second] [(.double dd), (.ref a1)])) := by
    refine r173.trans ?_
    show Steps p.tables e below (T172.setTop (mkF m 14 #[.val (.ref a1), .val .null, .val (.ref a3), .val (.double dd), .second] [])) _
    refine XS.aloadN X172.here hx rfl (hb hby d5_14) rfl rfl ?_
    show Steps p.tables e below (T172.setTop (mkF m 15 #[.val (.ref a1), .val .null, .val (.ref a3), .val (.double dd), .second] [(.ref a1)])) _
    refine XS.dloadN X172.here hx rfl (hb hby d5_15) rfl ?_
    exact Steps.refl _
  obtain ⟨T175, h175, X175, e175, W175, st175⟩ := putF X172 hx hZ hown (host := "") (Or.inl (hw _ (List.mem_of_getElem? (i := 42) rfl))) Via.refl e172 F172_a1_lengthKm E172_a1 (Or.inr ⟨(hw _ (List.mem_of_getElem? (i := 43) rfl)), rfl, hnm⟩) (hw _ (List.mem_of_getElem? (i := 27) rfl)) (ty := .double) (by decide) rfl rfl (g := (mkF m 16 #[.val (.ref a1), .val .null, .val (.ref a3), .val (.double dd), .second] [(.double dd), (.ref a1)])) rfl rfl (hb hby d5_16)
  have N175 := Fr.snoc X175 N172 g_a1
  have F175_a1_source := F172_a1_source.other W175 (Or.inr (slot_ne (a0 := a0) (Or.inr (hw _ (List.mem_of_getElem? (i := 39) rfl))) (Or.inr (hw _ (List.mem_of_getElem? (i := 43) rfl))) (by decide) (t := (.object "java/lang/String")) (t' := .double) (by decide) (by decide)))
  have F175_a1_target := F172_a1_target.other W175 (Or.inr (slot_ne (a0 := a0) (Or.inr (hw _ (List.mem_of_getElem? (i := 41) rfl))) (Or.inr (hw _ (List.mem_of_getElem? (i := 43) rfl))) (by decide) (t := (.object "java/lang/String")) (t' := .double) (by decide) (by decide)))
  have F175_a1_lengthKm := F172_a1_lengthKm.same W175
  have E175_a1 := E172_a1.wr W175
  have Z175 : n0 ≤ h175.size := Nat.le_trans Z172 (Nat.le_of_eq W175.size.symm)
  have K175 := K172.wr W175 (Or.inl (List.mem_of_getElem? (i := 0) rfl))
  have r176 : Steps p.tables e below S0 (T175.setTop (mkF m 19 #[.val (.ref a1), .val .null, .val (.ref a3), .val (.double dd), .second] [])) := r174.trans (st175 _ (Steps.refl _))
  obtain ⟨fs, hr, hrun, hended, hW, hsame⟩ := X175.leave (v := none) (fun _ => rfl)
  refine ⟨_, _, pre0 _ ?_, hrun, hended, _, _, rfl, ?_, ⟨_, rfl⟩, hW, hsame.mono (by decide) (by decide)⟩
  · rw [← hS0]
    refine r176.trans ?_
    show Steps p.tables e below (T175.setTop (mkF m 19 #[.val (.ref a1), .val .null, .val (.ref a3), .val (.double dd), .second] [])) _
    exact X175.returnOut hx Bd.returns (hb hby d5_19) hr
  · show QmLi01 Z a1 a3 dd h0 n0 _ T175.heap _; rw [e175]; exact ⟨rfl, N175, K175, E175_a1, F175_a1_source, F175_a1_target⟩
theorem ef_5_10 (m : MethodId) (x0 : Addr) (x1 : Addr) (x3 : UInt64) : entryFrame m #[(.ref x0), (.ref x1), .null, (.double x3)] 5 = mkF m 0 #[.val (.ref x0), .val (.ref x1), .val .null, .val (.double x3), .second] [] := by first | (simp [entryFrame, mkF, argsToLocals, Value.category]; done) | rfl
def QmLi10 (Z : State) (a1 : Addr) (a2 : Addr) (dd : UInt64)  (h0 : Heap) (n0 : Nat) (v : Option Value) (h : Heap) (L : List Loc) : Prop := v = none ∧ Fr n0 L ∧ Keep h0 h [a1] ∧ Exa Z h a1 "com/example/spectraloom/spectraloom/model/Link" ∧ Fld Z h a1 "com/example/spectraloom/spectraloom/model/Link" "source" "Ljava/lang/String;" (.ref a2) ∧ Fld Z h a1 "com/example/spectraloom/spectraloom/model/Link" "target" "Ljava/lang/String;" .null
set_option maxRecDepth 65536 in
set_option maxHeartbeats 40000000 in
theorem rmLi10 (l : Launch) (Z : State) (a0 : Array Value) (hw : ∀ d ∈ tables_1, d.before a0 Z = true) (ws : List Jvm.Cond) (a1 : Addr) (a2 : Addr) (dd : UInt64)  (h0 : Heap) (n0 : Nat) (Z0 : n0 ≤ h0.size) (Ea : Exa Z h0 a1 "com/example/spectraloom/spectraloom/model/Link") (Fs : Fld Z h0 a1 "com/example/spectraloom/spectraloom/model/Link" "source" "Ljava/lang/String;" .null) (Ft : Fld Z h0 a1 "com/example/spectraloom/spectraloom/model/Link" "target" "Ljava/lang/String;" .null) (Fd : Fld Z h0 a1 "com/example/spectraloom/spectraloom/model/Link" "lengthKm" "D" (.double (0 : UInt64))) (g_a1 : n0 ≤ a1) :
    MetFree l (⟨"com/example/spectraloom/spectraloom/model/Link", "<init>", "(Ljava/lang/String;Ljava/lang/String;D)V"⟩ : MethodName) (head1 (Jvm.Cond.code (⟨"com/example/spectraloom/spectraloom/model/Link", "<init>", "(Ljava/lang/String;Ljava/lang/String;D)V"⟩ : MethodName) prog_19_method_1_code 5 none :: ws) ({ frames := 2, cells := 0, slots := 0, locals := 24 } : Room)) (fun a U => a = #[(.ref a1), (.ref a2), .null, (.double dd)] ∧ Z.Warmed39 U.vm ∧ U.heap = h0) (fun _ _ _ _ _ => True) (fun _ U o U' => ∃ v L, o = .returned v ∧ QmLi10 Z a1 a2 dd h0 n0 v U'.heap L ∧ FrameEnd U o U' L ({ frames := 2, cells := 0, slots := 0, locals := 24 } : Room).cells ({ frames := 2, cells := 0, slots := 0, locals := 24 } : Room).slots) := by
  refine MetFree.of_bodySF (plainFor_of_name pn_5) hisR ?_
  intro p e s m args below meth c s₁ Bd hml0 hP hK
  obtain ⟨rfl, hZ, hh⟩ := hP
  have hx := Bd.exec
  have hby := Bd.bytes
  have hml : c.maxLocals = 5 := hml0
  have hown : s.vm.findClass "com/example/spectraloom/spectraloom/model/Link" = some m.cls := findClass_of_methodNamed Bd.named
  have hnm := (name_of_methodNamed Bd.named Bd.method).1
  have X0 : Stand p l e ({ frames := 2, cells := 0, slots := 0, locals := 24 } : Room) s m #[(.ref a1), (.ref a2), .null, (.double dd)] below meth c s₁ [] 0 0 := Stand.of_body Bd
  have e0 : s₁.heap = h0 := by rw [← hh, Bd.state]; rfl
  have N0 := Fr.nil n0
  have pre0 : ∀ t, Steps p.tables e below (s₁.setTop (mkF m 0 #[.val (.ref a1), .val (.ref a2), .val .null, .val (.double dd), .second] [])) t → Steps p.tables e below (s₁.setTop (entryFrame m #[(.ref a1), (.ref a2), .null, (.double dd)] 5)) t := fun t_ k_ => castTop (ef_5_10 m a1 a2 dd) k_
  obtain ⟨S0, hS0⟩ : ∃ z, z = s₁.setTop (mkF m 0 #[.val (.ref a1), .val (.ref a2), .val .null, .val (.double dd), .second] []) := ⟨_, rfl⟩
  have r0 : Steps p.tables e below S0 (s₁.setTop (mkF m 0 #[.val (.ref a1), .val (.ref a2), .val .null, .val (.double dd), .second] [])) := by rw [hS0]; exact Steps.refl _
  have K0 := Keep.refl h0 [a1]
  have r177 : Steps p.tables e below S0 (s₁.setTop (mkF m 1 #[.val (.ref a1), .val (.ref a2), .val .null, .val (.double dd), .second] [(.ref a1)])) := by
    refine r0.trans ?_
    show Steps p.tables e below (s₁.setTop (mkF m 0 #[.val (.ref a1), .val (.ref a2), .val .null, .val (.double dd), .second] [])) _
    refine XS.aloadN X0.here hx rfl (hb hby d5_0) rfl rfl ?_
    exact Steps.refl _
  obtain ⟨_, _, ⟨T178, L178, k178, n178⟩, -, X178, ⟨Lc178, hQ178, l178, y178, z178⟩, st178⟩ := X0.specialBack hx (y := (⟨"java/lang/Record", "<init>", "()V"⟩ : MethodName)) rfl hown (mvT hZ (hw _ (List.mem_of_getElem? (i := 32) rfl))) (mvT hZ (hw _ (List.mem_of_getElem? (i := 33) rfl))) (mvT hZ (hw _ (List.mem_of_getElem? (i := 36) rfl))) (by decide) (backOf (W := 0) (rmRe l Z a0 hw [] a1 h0 n0 Z0) hZ (hw _ (List.mem_of_getElem? (i := 36) rfl)) (hw _ (List.mem_of_getElem? (i := 35) rfl)) (by decide) (by decide)) (g := (mkF m 1 #[.val (.ref a1), .val (.ref a2), .val .null, .val (.double dd), .second] [(.ref a1)])) rfl (by rw [hml]; rfl) (Steps.refl _) (a := a1) (argsL := []) (rest := []) (lenOf pd_9 rfl) rfl (by show 2 * 0 + _ ≤ _; exact Nat.le_of_eq rfl) (hb hby d5_1) (fun _ _ => ⟨rfl, e0, (by decide : 0 + 0 ≤ _), (by decide : 0 + 0 ≤ _)⟩)
  dsimp only [Pt.U, Pt.locs, Pt.cells, Pt.slots] at X178 l178 y178 z178 st178 hQ178
  subst l178 y178 z178
  obtain ⟨rfl, Nq178, e178⟩ := hQ178
  have N178 := Fr.app N0 Nq178
  have r179 : Steps p.tables e below S0 (T178.setTop (mkF m 4 #[.val (.ref a1), .val (.ref a2), .val .null, .val (.double dd), .second] [])) := r177.trans st178
  have r180 : Steps p.tables e below S0 (T178.setTop (mkF m 6 #[.val (.ref a1), .val (.ref a2), .val .null, .val (.double dd), .second] [(.ref a2), (.ref a1)])) := by
    refine r179.trans ?_
    show Steps p.tables e below (T178.setTop (mkF m 4 #[.val (.ref a1), .val (.ref a2), .val .null, .val (.double dd), .second] [])) _
    refine XS.aloadN X178.here hx rfl (hb hby d5_4) rfl rfl ?_
    show Steps p.tables e below (T178.setTop (mkF m 5 #[.val (.ref a1), .val (.ref a2), .val .null, .val (.double dd), .second] [(.ref a1)])) _
    refine XS.aloadN X178.here hx rfl (hb hby d5_5) rfl rfl ?_
    exact Steps.refl _
  obtain ⟨T181, h181, X181, e181, W181, st181⟩ := putF X178 hx hZ hown (host := "") (Or.inl (hw _ (List.mem_of_getElem? (i := 38) rfl))) Via.refl e178 Fs Ea (Or.inr ⟨(hw _ (List.mem_of_getElem? (i := 39) rfl)), rfl, hnm⟩) (hw _ (List.mem_of_getElem? (i := 27) rfl)) (ty := (.object "java/lang/String")) (by decide) rfl rfl (g := (mkF m 6 #[.val (.ref a1), .val (.ref a2), .val .null, .val (.double dd), .second] [(.ref a2), (.ref a1)])) rfl rfl (hb hby d5_6)
  have N181 := Fr.snoc X181 N178 g_a1
  have F181_a1_source := Fs.same W181
  have F181_a1_target := Ft.other W181 (Or.inr (slot_ne (a0 := a0) (Or.inr (hw _ (List.mem_of_getElem? (i := 41) rfl))) (Or.inr (hw _ (List.mem_of_getElem? (i := 39) rfl))) (by decide) (t := (.object "java/lang/String")) (t' := (.object "java/lang/String")) (by decide) (by decide)))
  have F181_a1_lengthKm := Fd.other W181 (Or.inr (slot_ne (a0 := a0) (Or.inr (hw _ (List.mem_of_getElem? (i := 43) rfl))) (Or.inr (hw _ (List.mem_of_getElem? (i := 39) rfl))) (by decide) (t := .double) (t' := (.object "java/lang/String")) (by decide) (by decide)))
  have E181_a1 := Ea.wr W181
  have Z181 : n0 ≤ h181.size := Nat.le_trans Z0 (Nat.le_of_eq W181.size.symm)
  have K181 := K0.wr W181 (Or.inl (List.mem_of_getElem? (i := 0) rfl))
  have r182 : Steps p.tables e below S0 (T181.setTop (mkF m 9 #[.val (.ref a1), .val (.ref a2), .val .null, .val (.double dd), .second] [])) := r180.trans (st181 _ (Steps.refl _))
  have r183 : Steps p.tables e below S0 (T181.setTop (mkF m 11 #[.val (.ref a1), .val (.ref a2), .val .null, .val (.double dd), .second] [.null, (.ref a1)])) := by
    refine r182.trans ?_
    show Steps p.tables e below (T181.setTop (mkF m 9 #[.val (.ref a1), .val (.ref a2), .val .null, .val (.double dd), .second] [])) _
    refine XS.aloadN X181.here hx rfl (hb hby d5_9) rfl rfl ?_
    show Steps p.tables e below (T181.setTop (mkF m 10 #[.val (.ref a1), .val (.ref a2), .val .null, .val (.double dd), .second] [(.ref a1)])) _
    refine XS.aloadN X181.here hx rfl (hb hby d5_10) rfl rfl ?_
    exact Steps.refl _
  obtain ⟨T184, h184, X184, e184, W184, st184⟩ := putF X181 hx hZ hown (host := "") (Or.inl (hw _ (List.mem_of_getElem? (i := 40) rfl))) Via.refl e181 F181_a1_target E181_a1 (Or.inr ⟨(hw _ (List.mem_of_getElem? (i := 41) rfl)), rfl, hnm⟩) (hw _ (List.mem_of_getElem? (i := 27) rfl)) (ty := (.object "java/lang/String")) (by decide) rfl rfl (g := (mkF m 11 #[.val (.ref a1), .val (.ref a2), .val .null, .val (.double dd), .second] [.null, (.ref a1)])) rfl rfl (hb hby d5_11)
  have N184 := Fr.snoc X184 N181 g_a1
  have F184_a1_source := F181_a1_source.other W184 (Or.inr (slot_ne (a0 := a0) (Or.inr (hw _ (List.mem_of_getElem? (i := 39) rfl))) (Or.inr (hw _ (List.mem_of_getElem? (i := 41) rfl))) (by decide) (t := (.object "java/lang/String")) (t' := (.object "java/lang/String")) (by decide) (by decide)))
  have F184_a1_target := F181_a1_target.same W184
  have F184_a1_lengthKm := F181_a1_lengthKm.other W184 (Or.inr (slot_ne (a0 := a0) (Or.inr (hw _ (List.mem_of_getElem? (i := 43) rfl))) (Or.inr (hw _ (List.mem_of_getElem? (i := 41) rfl))) (by decide) (t := .double) (t' := (.object "java/lang/String")) (by decide) (by decide)))
  have E184_a1 := E181_a1.wr W184
  have Z184 : n0 ≤ h184.size := Nat.le_trans Z181 (Nat.le_of_eq W184.size.symm)
  have K184 := K181.wr W184 (Or.inl (List.mem_of_getElem? (i := 0) rfl))
  have r185 : Steps p.tables e below S0 (T184.setTop (mkF m 14 #[.val (.ref a1), .val (.ref a2), .val .null, .val (.double dd), .second] [])) := r183.trans (st184 _ (Steps.refl _))
  have r186 : Steps p.tables e below S0 (T184.setTop (mkF m 16 #[.val (.ref a1), .val (.ref a2), .val .null, .val (.double dd), .second] [(.double dd), (.ref a1)])) := by
    refine r185.trans ?_
    show Steps p.tables e below (T184.setTop (mkF m 14 #[.val (.ref a1), .val (.ref a2), .val .null, .val (.double dd), .second] [])) _
    refine XS.aloadN X184.here hx rfl (hb hby d5_14) rfl rfl ?_
    show Steps p.tables e below (T184.setTop (mkF m 15 #[.val (.ref a1), .val (.ref a2), .val .null, .val (.double dd), .second] [(.ref a1)])) _
    refine XS.dloadN X184.here hx rfl (hb hby d5_15) rfl ?_
    exact Steps.refl _
  obtain ⟨T187, h187, X187, e187, W187, st187⟩ := putF X184 hx hZ hown (host := "") (Or.inl (hw _ (List.mem_of_getElem? (i := 42) rfl))) Via.refl e184 F184_a1_lengthKm E184_a1 (Or.inr ⟨(hw _ (List.mem_of_getElem? (i := 43) rfl)), rfl, hnm⟩) (hw _ (List.mem_of_getElem? (i := 27) rfl)) (ty := .double) (by decide) rfl rfl (g := (mkF m 16 #[.val (.ref a1), .val (.ref a2), .val .null, .val (.double dd), .second] [(.double dd), (.ref a1)])) rfl rfl (hb hby d5_16)
  have N187 := Fr.snoc X187 N184 g_a1
  have F187_a1_source := F184_a1_source.other W187 (Or.inr (slot_ne (a0 := a0) (Or.inr (hw _ (List.mem_of_getElem? (i := 39) rfl))) (Or.inr (hw _ (List.mem_of_getElem? (i := 43) rfl))) (by decide) (t := (.object "java/lang/String")) (t' := .double) (by decide) (by decide)))
  have F187_a1_target := F184_a1_target.other W187 (Or.inr (slot_ne (a0 := a0) (Or.inr (hw _ (List.mem_of_getElem? (i := 41) rfl))) (Or.inr (hw _ (List.mem_of_getElem? (i := 43) rfl))) (by decide) (t := (.object "java/lang/String")) (t' := .double) (by decide) (by decide)))
  have F187_a1_lengthKm := F184_a1_lengthKm.same W187
  have E187_a1 := E184_a1.wr W187
  have Z187 : n0 ≤ h187.size := Nat.le_trans Z184 (Nat.le_of_eq W187.size.symm)
  have K187 := K184.wr W187 (Or.inl (List.mem_of_getElem? (i := 0) rfl))
  have r188 : Steps p.tables e below S0 (T187.setTop (mkF m 19 #[.val (.ref a1), .val (.ref a2), .val .null, .val (.double dd), .second] [])) := r186.trans (st187 _ (Steps.refl _))
  obtain ⟨fs, hr, hrun, hended, hW, hsame⟩ := X187.leave (v := none) (fun _ => rfl)
  refine ⟨_, _, pre0 _ ?_, hrun, hended, _, _, rfl, ?_, ⟨_, rfl⟩, hW, hsame.mono (by decide) (by decide)⟩
  · rw [← hS0]
    refine r188.trans ?_
    show Steps p.tables e below (T187.setTop (mkF m 19 #[.val (.ref a1), .val (.ref a2), .val .null, .val (.double dd), .second] [])) _
    exact X187.returnOut hx Bd.returns (hb hby d5_19) hr
  · show QmLi10 Z a1 a2 dd h0 n0 _ T187.heap _; rw [e187]; exact ⟨rfl, N187, K187, E187_a1, F187_a1_source, F187_a1_target⟩
theorem ef_5_11 (m : MethodId) (x0 : Addr) (x1 : Addr) (x2 : Addr) (x3 : UInt64) : entryFrame m #[(.ref x0), (.ref x1), (.ref x2), (.double x3)] 5 = mkF m 0 #[.val (.ref x0), .val (.ref x1), .val (.ref x2), .val (.double x3), .second] [] := by first | (simp [entryFrame, mkF, argsToLocals, Value.category]; done) | rfl
def QmLi11 (Z : State) (a1 : Addr) (a2 : Addr) (a3 : Addr) (dd : UInt64)  (h0 : Heap) (n0 : Nat) (v : Option Value) (h : Heap) (L : List Loc) : Prop := v = none ∧ Fr n0 L ∧ Keep h0 h [a1] ∧ Exa Z h a1 "com/example/spectraloom/spectraloom/model/Link" ∧ Fld Z h a1 "com/example/spectraloom/spectraloom/model/Link" "source" "Ljava/lang/String;" (.ref a2) ∧ Fld Z h a1 "com/example/spectraloom/spectraloom/model/Link" "target" "Ljava/lang/String;" (.ref a3)
set_option maxRecDepth 65536 in
set_option maxHeartbeats 40000000 in
theorem rmLi11 (l : Launch) (Z : State) (a0 : Array Value) (hw : ∀ d ∈ tables_1, d.before a0 Z = true) (ws : List Jvm.Cond) (a1 : Addr) (a2 : Addr) (a3 : Addr) (dd : UInt64)  (h0 : Heap) (n0 : Nat) (Z0 : n0 ≤ h0.size) (Ea : Exa Z h0 a1 "com/example/spectraloom/spectraloom/model/Link") (Fs : Fld Z h0 a1 "com/example/spectraloom/spectraloom/model/Link" "source" "Ljava/lang/String;" .null) (Ft : Fld Z h0 a1 "com/example/spectraloom/spectraloom/model/Link" "target" "Ljava/lang/String;" .null) (Fd : Fld Z h0 a1 "com/example/spectraloom/spectraloom/model/Link" "lengthKm" "D" (.double (0 : UInt64))) (g_a1 : n0 ≤ a1) :
    MetFree l (⟨"com/example/spectraloom/spectraloom/model/Link", "<init>", "(Ljava/lang/String;Ljava/lang/String;D)V"⟩ : MethodName) (head1 (Jvm.Cond.code (⟨"com/example/spectraloom/spectraloom/model/Link", "<init>", "(Ljava/lang/String;Ljava/lang/String;D)V"⟩ : MethodName) prog_19_method_1_code 5 none :: ws) ({ frames := 2, cells := 0, slots := 0, locals := 24 } : Room)) (fun a U => a = #[(.ref a1), (.ref a2), (.ref a3), (.double dd)] ∧ Z.Warmed39 U.vm ∧ U.heap = h0) (fun _ _ _ _ _ => True) (fun _ U o U' => ∃ v L, o = .returned v ∧ QmLi11 Z a1 a2 a3 dd h0 n0 v U'.heap L ∧ FrameEnd U o U' L ({ frames := 2, cells := 0, slots := 0, locals := 24 } : Room).cells ({ frames := 2, cells := 0, slots := 0, locals := 24 } : Room).slots) := by
  refine MetFree.of_bodySF (plainFor_of_name pn_5) hisR ?_
  intro p e s m args below meth c s₁ Bd hml0 hP hK
  obtain ⟨rfl, hZ, hh⟩ := hP
  have hx := Bd.exec
  have hby := Bd.bytes
  have hml : c.maxLocals = 5 := hml0
  have hown : s.vm.findClass "com/example/spectraloom/spectraloom/model/Link" = some m.cls := findClass_of_methodNamed Bd.named
  have hnm := (name_of_methodNamed Bd.named Bd.method).1
  have X0 : Stand p l e ({ frames := 2, cells := 0, slots := 0, locals := 24 } : Room) s m #[(.ref a1), (.ref a2), (.ref a3), (.double dd)] below meth c s₁ [] 0 0 := Stand.of_body Bd
  have e0 : s₁.heap = h0 := by rw [← hh, Bd.state]; rfl
  have N0 := Fr.nil n0
  have pre0 : ∀ t, Steps p.tables e below (s₁.setTop (mkF m 0 #[.val (.ref a1), .val (.ref a2), .val (.ref a3), .val (.double dd), .second] [])) t → Steps p.tables e below (s₁.setTop (entryFrame m #[(.ref a1), (.ref a2), (.ref a3), (.double dd)] 5)) t := fun t_ k_ => castTop (ef_5_11 m a1 a2 a3 dd) k_
  obtain ⟨S0, hS0⟩ : ∃ z, z = s₁.setTop (mkF m 0 #[.val (.ref a1), .val (.ref a2), .val (.ref a3), .val (.double dd), .second] []) := ⟨_, rfl⟩
  have r0 : Steps p.tables e below S0 (s₁.setTop (mkF m 0 #[.val (.ref a1), .val (.ref a2), .val (.ref a3), .val (.double dd), .second] [])) := by rw [hS0]; exact Steps.refl _
  have K0 := Keep.refl h0 [a1]
  have r189 : Steps p.tables e below S0 (s₁.setTop (mkF m 1 #[.val (.ref a1), .val (.ref a2), .val (.ref a3), .val (.double dd), .second] [(.ref a1)])) := by
    refine r0.trans ?_
    show Steps p.tables e below (s₁.setTop (mkF m 0 #[.val (.ref a1), .val (.ref a2), .val (.ref a3), .val (.double dd), .second] [])) _
    refine XS.aloadN X0.here hx rfl (hb hby d5_0) rfl rfl ?_
    exact Steps.refl _
  obtain ⟨_, _, ⟨T190, L190, k190, n190⟩, -, X190, ⟨Lc190, hQ190, l190, y190, z190⟩, st190⟩ := X0.specialBack hx (y := (⟨"java/lang/Record", "<init>", "()V"⟩ : MethodName)) rfl hown (mvT hZ (hw _ (List.mem_of_getElem? (i := 32) rfl))) (mvT hZ (hw _ (List.mem_of_getElem? (i := 33) rfl))) (mvT hZ (hw _ (List.mem_of_getElem? (i := 36) rfl))) (by decide) (backOf (W := 0) (rmRe l Z a0 hw [] a1 h0 n0 Z0) hZ (hw _ (List.mem_of_getElem? (i := 36) rfl)) (hw _ (List.mem_of_getElem? (i := 35) rfl)) (by decide) (by decide)) (g := (mkF m 1 #[.val (.ref a1), .val (.ref a2), .val (.ref a3), .val (.double dd), .second] [(.ref a1)])) rfl (by rw [hml]; rfl) (Steps.refl _) (a := a1) (argsL := []) (rest := []) (lenOf pd_9 rfl) rfl (by show 2 * 0 + _ ≤ _; exact Nat.le_of_eq rfl) (hb hby d5_1) (fun _ _ => ⟨rfl, e0, (by decide : 0 + 0 ≤ _), (by decide : 0 + 0 ≤ _)⟩)
  dsimp only [Pt.U, Pt.locs, Pt.cells, Pt.slots] at X190 l190 y190 z190 st190 hQ190
  subst l190 y190 z190
  obtain ⟨rfl, Nq190, e190⟩ := hQ190
  have N190 := Fr.app N0 Nq190
  have r191 : Steps p.tables e below S0 (T190.setTop (mkF m 4 #[.val (.ref a1), .val (.ref a2), .val (.ref a3), .val (.double dd), .second] [])) := r189.trans st190
  have r192 : Steps p.tables e below S0 (T190.setTop (mkF m 6 #[.val (.ref a1), .val (.ref a2), .val (.ref a3), .val (.double dd), .second] [(.ref a2), (.ref a1)])) := by
    refine r191.trans ?_
    show Steps p.tables e below (T190.setTop (mkF m 4 #[.val (.ref a1), .val (.ref a2), .val (.ref a3), .val (.double dd), .second] [])) _
    refine XS.aloadN X190.here hx rfl (hb hby d5_4) rfl rfl ?_
    show Steps p.tables e below (T190.setTop (mkF m 5 #[.val (.ref a1), .val (.ref a2), .val (.ref a3), .val (.double dd), .second] [(.ref a1)])) _
    refine XS.aloadN X190.here hx rfl (hb hby d5_5) rfl rfl ?_
    exact Steps.refl _
  obtain ⟨T193, h193, X193, e193, W193, st193⟩ := putF X190 hx hZ hown (host := "") (Or.inl (hw _ (List.mem_of_getElem? (i := 38) rfl))) Via.refl e190 Fs Ea (Or.inr ⟨(hw _ (List.mem_of_getElem? (i := 39) rfl)), rfl, hnm⟩) (hw _ (List.mem_of_getElem? (i := 27) rfl)) (ty := (.object "java/lang/String")) (by decide) rfl rfl (g := (mkF m 6 #[.val (.ref a1), .val (.ref a2), .val (.ref a3), .val (.double dd), .second] [(.ref a2), (.ref a1)])) rfl rfl (hb hby d5_6)
  have N193 := Fr.snoc X193 N190 g_a1
  have F193_a1_source := Fs.same W193
  have F193_a1_target := Ft.other W193 (Or.inr (slot_ne (a0 := a0) (Or.inr (hw _ (List.mem_of_getElem? (i := 41) rfl))) (Or.inr (hw _ (List.mem_of_getElem? (i := 39) rfl))) (by decide) (t := (.object "java/lang/String")) (t' := (.object "java/lang/String")) (by decide) (by decide)))
  have F193_a1_lengthKm := Fd.other W193 (Or.inr (slot_ne (a0 := a0) (Or.inr (hw _ (List.mem_of_getElem? (i := 43) rfl))) (Or.inr (hw _ (List.mem_of_getElem? (i := 39) rfl))) (by decide) (t := .double) (t' := (.object "java/lang/String")) (by decide) (by decide)))
  have E193_a1 := Ea.wr W193
  have Z193 : n0 ≤ h193.size := Nat.le_trans Z0 (Nat.le_of_eq W193.size.symm)
  have K193 := K0.wr W193 (Or.inl (List.mem_of_getElem? (i := 0) rfl))
  have r194 : Steps p.tables e below S0 (T193.setTop (mkF m 9 #[.val (.ref a1), .val (.ref a2), .val (.ref a3), .val (.double dd), .second] [])) := r192.trans (st193 _ (Steps.refl _))
  have r195 : Steps p.tables e below S0 (T193.setTop (mkF m 11 #[.val (.ref a1), .val (.ref a2), .val (.ref a3), .val (.double dd), .second] [(.ref a3), (.ref a1)])) := by
    refine r194.trans ?_
    show Steps p.tables e below (T193.setTop (mkF m 9 #[.val (.ref a1), .val (.ref a2), .val (.ref a3), .val (.double dd), .second] [])) _
    refine XS.aloadN X193.here hx rfl (hb hby d5_9) rfl rfl ?_
    show Steps p.tables e below (T193.setTop (mkF m 10 #[.val (.ref a1), .val (.ref a2), .val (.ref a3), .val (.double dd), .second] [(.ref a1)])) _
    refine XS.aloadN X193.here hx rfl (hb hby d5_10) rfl rfl ?_
    exact Steps.refl _
  obtain ⟨T196, h196, X196, e196, W196, st196⟩ := putF X193 hx hZ hown (host := "") (Or.inl (hw _ (List.mem_of_getElem? (i := 40) rfl))) Via.refl e193 F193_a1_target E193_a1 (Or.inr ⟨(hw _ (List.mem_of_getElem? (i := 41) rfl)), rfl, hnm⟩) (hw _ (List.mem_of_getElem? (i := 27) rfl)) (ty := (.object "java/lang/String")) (by decide) rfl rfl (g := (mkF m 11 #[.val (.ref a1), .val (.ref a2), .val (.ref a3), .val (.double dd), .second] [(.ref a3), (.ref a1)])) rfl rfl (hb hby d5_11)
  have N196 := Fr.snoc X196 N193 g_a1
  have F196_a1_source := F193_a1_source.other W196 (Or.inr (slot_ne (a0 := a0) (Or.inr (hw _ (List.mem_of_getElem? (i := 39) rfl))) (Or.inr (hw _ (List.mem_of_getElem? (i := 41) rfl))) (by decide) (t := (.object "java/lang/String")) (t' := (.object "java/lang/String")) (by decide) (by decide)))
  have F196_a1_target := F193_a1_target.same W196
  have F196_a1_lengthKm := F193_a1_lengthKm.other W196 (Or.inr (slot_ne (a0 := a0) (Or.inr (hw _ (List.mem_of_getElem? (i := 43) rfl))) (Or.inr (hw _ (List.mem_of_getElem? (i := 41) rfl))) (by decide) (t := .double) (t' := (.object "java/lang/String")) (by decide) (by decide)))
  have E196_a1 := E193_a1.wr W196
  have Z196 : n0 ≤ h196.size := Nat.le_trans Z193 (Nat.le_of_eq W196.size.symm)
  have K196 := K193.wr W196 (Or.inl (List.mem_of_getElem? (i := 0) rfl))
  have r197 : Steps p.tables e below S0 (T196.setTop (mkF m 14 #[.val (.ref a1), .val (.ref a2), .val (.ref a3), .val (.double dd), .second] [])) := r195.trans (st196 _ (Steps.refl _))
  have r198 : Steps p.tables e below S0 (T196.setTop (mkF m 16 #[.val (.ref a1), .val (.ref a2), .val (.ref a3), .val (.double dd), .second] [(.double dd), (.ref a1)])) := by
    refine r197.trans ?_
    show Steps p.tables e below (T196.setTop (mkF m 14 #[.val (.ref a1), .val (.ref a2), .val (.ref a3), .val (.double dd), .second] [])) _
    refine XS.aloadN X196.here hx rfl (hb hby d5_14) rfl rfl ?_
    show Steps p.tables e below (T196.setTop (mkF m 15 #[.val (.ref a1), .val (.ref a2), .val (.ref a3), .val (.double dd), .second] [(.ref a1)])) _
    refine XS.dloadN X196.here hx rfl (hb hby d5_15) rfl ?_
    exact Steps.refl _
  obtain ⟨T199, h199, X199, e199, W199, st199⟩ := putF X196 hx hZ hown (host := "") (Or.inl (hw _ (List.mem_of_getElem? (i := 42) rfl))) Via.refl e196 F196_a1_lengthKm E196_a1 (Or.inr ⟨(hw _ (List.mem_of_getElem? (i := 43) rfl)), rfl, hnm⟩) (hw _ (List.mem_of_getElem? (i := 27) rfl)) (ty := .double) (by decide) rfl rfl (g := (mkF m 16 #[.val (.ref a1), .val (.ref a2), .val (.ref a3), .val (.double dd), .second] [(.double dd), (.ref a1)])) rfl rfl (hb hby d5_16)
  have N199 := Fr.snoc X199 N196 g_a1
  have F199_a1_source := F196_a1_source.other W199 (Or.inr (slot_ne (a0 := a0) (Or.inr (hw _ (List.mem_of_getElem? (i := 39) rfl))) (Or.inr (hw _ (List.mem_of_getElem? (i := 43) rfl))) (by decide) (t := (.object "java/lang/String")) (t' := .double) (by decide) (by decide)))
  have F199_a1_target := F196_a1_target.other W199 (Or.inr (slot_ne (a0 := a0) (Or.inr (hw _ (List.mem_of_getElem? (i := 41) rfl))) (Or.inr (hw _ (List.mem_of_getElem? (i := 43) rfl))) (by decide) (t := (.object "java/lang/String")) (t' := .double) (by decide) (by decide)))
  have F199_a1_lengthKm := F196_a1_lengthKm.same W199
  have E199_a1 := E196_a1.wr W199
  have Z199 : n0 ≤ h199.size := Nat.le_trans Z196 (Nat.le_of_eq W199.size.symm)
  have K199 := K196.wr W199 (Or.inl (List.mem_of_getElem? (i := 0) rfl))
  have r200 : Steps p.tables e below S0 (T199.setTop (mkF m 19 #[.val (.ref a1), .val (.ref a2), .val (.ref a3), .val (.double dd), .second] [])) := r198.trans (st199 _ (Steps.refl _))
  obtain ⟨fs, hr, hrun, hended, hW, hsame⟩ := X199.leave (v := none) (fun _ => rfl)
  refine ⟨_, _, pre0 _ ?_, hrun, hended, _, _, rfl, ?_, ⟨_, rfl⟩, hW, hsame.mono (by decide) (by decide)⟩
  · rw [← hS0]
    refine r200.trans ?_
    show Steps p.tables e below (T199.setTop (mkF m 19 #[.val (.ref a1), .val (.ref a2), .val (.ref a3), .val (.double dd), .second] [])) _
    exact X199.returnOut hx Bd.returns (hb hby d5_19) hr
  · show QmLi11 Z a1 a2 a3 dd h0 n0 _ T199.heap _; rw [e199]; exact ⟨rfl, N199, K199, E199_a1, F199_a1_source, F199_a1_target⟩
theorem ef_28 (m : MethodId) (x0 : Int32) (x1 : Int32) : entryFrame m #[(.int x0), (.int x1)] 2 = mkF m 0 #[.val (.int x0), .val (.int x1)] [] := by first | (simp [entryFrame, mkF, argsToLocals, Value.category]; done) | rfl
def QmMi (Z : State) (p1 : Int32) (p2 : Int32)  (h0 : Heap) (n0 : Nat) (v : Option Value) (h : Heap) (L : List Loc) : Prop := v = some (.int p2) ∧ Fr n0 L ∧ h = h0
set_option maxRecDepth 65536 in
set_option maxHeartbeats 40000000 in
theorem rmMi (l : Launch) (Z : State) (a0 : Array Value) (hw : ∀ d ∈ tables_1, d.before a0 Z = true) (ws : List Jvm.Cond) (p1 : Int32) (p2 : Int32)  (h0 : Heap) (n0 : Nat) (Z0 : n0 ≤ h0.size) (hlt : p2 < p1) :
    MetFree l (⟨"java/lang/Math", "min", "(II)I"⟩ : MethodName) (head1 (Jvm.Cond.code (⟨"java/lang/Math", "min", "(II)I"⟩ : MethodName) jdk_29_method_69_code 2 (some .int) :: ws) ({ frames := 0, cells := 0, slots := 0, locals := 0 } : Room)) (fun a U => a = #[(.int p1), (.int p2)] ∧ Z.Warmed39 U.vm ∧ U.heap = h0) (fun _ _ _ _ _ => True) (fun _ U o U' => ∃ v L, o = .returned v ∧ QmMi Z p1 p2 h0 n0 v U'.heap L ∧ FrameEnd U o U' L ({ frames := 0, cells := 0, slots := 0, locals := 0 } : Room).cells ({ frames := 0, cells := 0, slots := 0, locals := 0 } : Room).slots) := by
  refine MetFree.of_bodySF (Jvm.Free.JP.mathPlain rfl (by decide +kernel)) hisR ?_
  intro p e s m args below meth c s₁ Bd hml0 hP hK
  obtain ⟨rfl, hZ, hh⟩ := hP
  have hx := Bd.exec
  have hby := Bd.bytes
  have hml : c.maxLocals = 2 := hml0
  have hown : s.vm.findClass "java/lang/Math" = some m.cls := findClass_of_methodNamed Bd.named
  have hnm := (name_of_methodNamed Bd.named Bd.method).1
  have X0 : Stand p l e ({ frames := 0, cells := 0, slots := 0, locals := 0 } : Room) s m #[(.int p1), (.int p2)] below meth c s₁ [] 0 0 := Stand.of_body Bd
  have e0 : s₁.heap = h0 := by rw [← hh, Bd.state]; rfl
  have N0 := Fr.nil n0
  have pre0 : ∀ t, Steps p.tables e below (s₁.setTop (mkF m 0 #[.val (.int p1), .val (.int p2)] [])) t → Steps p.tables e below (s₁.setTop (entryFrame m #[(.int p1), (.int p2)] 2)) t := fun t_ k_ => castTop (ef_28 m p1 p2) k_
  obtain ⟨S0, hS0⟩ : ∃ z, z = s₁.setTop (mkF m 0 #[.val (.int p1), .val (.int p2)] []) := ⟨_, rfl⟩
  have r0 : Steps p.tables e below S0 (s₁.setTop (mkF m 0 #[.val (.int p1), .val (.int p2)] [])) := by rw [hS0]; exact Steps.refl _
  have r201 : Steps p.tables e below S0 (s₁.setTop (mkF m 10 #[.val (.int p1), .val (.int p2)] [(.int p2)])) := by
    refine r0.trans ?_
    show Steps p.tables e below (s₁.setTop (mkF m 0 #[.val (.int p1), .val (.int p2)] [])) _
    refine XS.iloadN X0.here hx rfl (hb hby d28_0) rfl ?_
    show Steps p.tables e below (s₁.setTop (mkF m 1 #[.val (.int p1), .val (.int p2)] [(.int p1)])) _
    refine XS.iloadN X0.here hx rfl (hb hby d28_1) rfl ?_
    show Steps p.tables e below (s₁.setTop (mkF m 2 #[.val (.int p1), .val (.int p2)] [(.int p2), (.int p1)])) _
    refine XS.icmpYes X0.here hx rfl (pc0 := 2) (pc' := 9) rfl (hb hby d28_2) rfl (tlt hlt).2.2.1 (by decide) (by decide) ?_
    show Steps p.tables e below (s₁.setTop (mkF m 9 #[.val (.int p1), .val (.int p2)] [])) _
    refine XS.iloadN X0.here hx rfl (hb hby d28_9) rfl ?_
    exact Steps.refl _
  obtain ⟨fs, hr, hrun, hended, hW, hsame⟩ := X0.leave (v := some (.int p2)) (fun h => by rw [Bd.returns] at h; cases h)
  refine ⟨_, _, pre0 _ ?_, hrun, hended, _, _, rfl, ?_, ⟨_, rfl⟩, hW, hsame.mono (by decide) (by decide)⟩
  · rw [← hS0]
    refine r201.trans ?_
    show Steps p.tables e below (s₁.setTop (mkF m 10 #[.val (.int p1), .val (.int p2)] [(.int p2)])) _
    exact retI X0 hx Bd.returns (hb hby d28_10) hr
  · exact ⟨rfl, N0, e0⟩
theorem pn_27 : plainName "java/util/Arrays" = true := by first | (simp [plainName, overriddenIn]; done) | decide +kernel
theorem ef_27 (m : MethodId) (x0 : Int32) (x1 : Int32) : entryFrame m #[(.int x0), (.int x1)] 2 = mkF m 0 #[.val (.int x0), .val (.int x1)] [] := by first | (simp [entryFrame, mkF, argsToLocals, Value.category]; done) | rfl
def QmCk (Z : State) (p1 : Int32) (p2 : Int32)  (h0 : Heap) (n0 : Nat) (v : Option Value) (h : Heap) (L : List Loc) : Prop := v = none ∧ Fr n0 L ∧ h = h0
set_option maxRecDepth 65536 in
set_option maxHeartbeats 40000000 in
theorem rmCk (l : Launch) (Z : State) (a0 : Array Value) (hw : ∀ d ∈ tables_1, d.before a0 Z = true) (ws : List Jvm.Cond) (p1 : Int32) (p2 : Int32)  (h0 : Heap) (n0 : Nat) (Z0 : n0 ≤ h0.size) (hge : ¬ p2 < p1) :
    MetFree l (⟨"java/util/Arrays", "checkLength", "(II)V"⟩ : MethodName) (head1 (Jvm.Cond.code (⟨"java/util/Arrays", "checkLength", "(II)V"⟩ : MethodName) jdk_65_method_131_code 2 none :: ws) ({ frames := 0, cells := 0, slots := 0, locals := 0 } : Room)) (fun a U => a = #[(.int p1), (.int p2)] ∧ Z.Warmed39 U.vm ∧ U.heap = h0) (fun _ _ _ _ _ => True) (fun _ U o U' => ∃ v L, o = .returned v ∧ QmCk Z p1 p2 h0 n0 v U'.heap L ∧ FrameEnd U o U' L ({ frames := 0, cells := 0, slots := 0, locals := 0 } : Room).cells ({ frames := 0, cells := 0, slots := 0, locals := 0 } : Room).slots) := by
  refine MetFree.of_bodySF (plainFor_of_name pn_27) hisR ?_
  intro p e s m args below meth c s₁ Bd hml0 hP hK
  obtain ⟨rfl, hZ, hh⟩ := hP
  have hx := Bd.exec
  have hby := Bd.bytes
  have hml : c.maxLocals = 2 := hml0
  have hown : s.vm.findClass "java/util/Arrays" = some m.cls := findClass_of_methodNamed Bd.named
  have hnm := (name_of_methodNamed Bd.named Bd.method).1
  have X0 : Stand p l e ({ frames := 0, cells := 0, slots := 0, locals := 0 } : Room) s m #[(.int p1), (.int p2)] below meth c s₁ [] 0 0 := Stand.of_body Bd
  have e0 : s₁.heap = h0 := by rw [← hh, Bd.state]; rfl
  have N0 := Fr.nil n0
  have pre0 : ∀ t, Steps p.tables e below (s₁.setTop (mkF m 0 #[.val (.int p1), .val (.int p2)] [])) t → Steps p.tables e below (s₁.setTop (entryFrame m #[(.int p1), (.int p2)] 2)) t := fun t_ k_ => castTop (ef_27 m p1 p2) k_
  obtain ⟨S0, hS0⟩ : ∃ z, z = s₁.setTop (mkF m 0 #[.val (.int p1), .val (.int p2)] []) := ⟨_, rfl⟩
  have r0 : Steps p.tables e below S0 (s₁.setTop (mkF m 0 #[.val (.int p1), .val (.int p2)] [])) := by rw [hS0]; exact Steps.refl _
  have r202 : Steps p.tables e below S0 (s₁.setTop (mkF m 37 #[.val (.int p1), .val (.int p2)] [])) := by
    refine r0.trans ?_
    show Steps p.tables e below (s₁.setTop (mkF m 0 #[.val (.int p1), .val (.int p2)] [])) _
    refine XS.iloadN X0.here hx rfl (hb hby d27_0) rfl ?_
    show Steps p.tables e below (s₁.setTop (mkF m 1 #[.val (.int p1), .val (.int p2)] [(.int p2)])) _
    refine XS.iloadN X0.here hx rfl (hb hby d27_1) rfl ?_
    show Steps p.tables e below (s₁.setTop (mkF m 2 #[.val (.int p1), .val (.int p2)] [(.int p1), (.int p2)])) _
    refine XS.icmpYes X0.here hx rfl (pc0 := 2) (pc' := 37) rfl (hb hby d27_2) rfl (flt hge).2.1 (by decide) (by decide) ?_
    exact Steps.refl _
  obtain ⟨fs, hr, hrun, hended, hW, hsame⟩ := X0.leave (v := none) (fun _ => rfl)
  refine ⟨_, _, pre0 _ ?_, hrun, hended, _, _, rfl, ?_, ⟨_, rfl⟩, hW, hsame.mono (by decide) (by decide)⟩
  · rw [← hS0]
    refine r202.trans ?_
    show Steps p.tables e below (s₁.setTop (mkF m 37 #[.val (.int p1), .val (.int p2)] [])) _
    exact X0.returnOut hx Bd.returns (hb hby d27_37) hr
  · exact ⟨rfl, N0, e0⟩
theorem pn_26 : plainName "java/util/Arrays" = true := by first | (simp [plainName, overriddenIn]; done) | decide +kernel
theorem ef_26 (m : MethodId) (x0 : Addr) (x1 : Int32) (x2 : Int32) : entryFrame m #[(.ref x0), (.int x1), (.int x2)] 5 = mkF m 0 #[.val (.ref x0), .val (.int x1), .val (.int x2), .unset, .unset] [] := by first | (simp [entryFrame, mkF, argsToLocals, Value.category]; done) | rfl
def QmCb (Z : State) (a1 : Addr) (p1 : Int32) (p2 : Int32) (kv : ClassId) (vs : List Value) (n : Nat) (h0 : Heap) (n0 : Nat) (v : Option Value) (h : Heap) (L : List Loc) : Prop := ∃ (c1 : Addr) (kc : ClassId), v = some (.ref c1) ∧ h0.size ≤ c1 ∧ Fr n0 L ∧ Keep h0 h [] ∧ Arv Z h c1 kc .byte (Int32.ofNat n) (vs.take n) (.int 0)
set_option maxRecDepth 65536 in
set_option maxHeartbeats 40000000 in
theorem rmCb (l : Launch) (Z : State) (a0 : Array Value) (hw : ∀ d ∈ tables_1, d.before a0 Z = true) (ws : List Jvm.Cond) (a1 : Addr) (p1 : Int32) (p2 : Int32) (kv : ClassId) (vs : List Value) (n : Nat) (h0 : Heap) (n0 : Nat) (Z0 : n0 ≤ h0.size) (Ab : Arv Z h0 a1 kv .byte 16 vs (.int 0)) (hvl : vs.length = 16) (h1 : p1 = 0) (hp : p2 = Int32.ofNat n) (hn : n < 16) :
    MetFree l (⟨"java/util/Arrays", "copyOfRangeByte", "([BII)[B"⟩ : MethodName) (head1 (Jvm.Cond.code (⟨"java/util/Arrays", "copyOfRangeByte", "([BII)[B"⟩ : MethodName) jdk_65_method_133_code 5 (some (.array .byte)) :: ws) ({ frames := 1, cells := 1, slots := 16, locals := 60 } : Room)) (fun a U => a = #[(.ref a1), (.int p1), (.int p2)] ∧ Z.Warmed39 U.vm ∧ U.heap = h0) (fun _ _ _ _ _ => True) (fun _ U o U' => ∃ v L, o = .returned v ∧ QmCb Z a1 p1 p2 kv vs n h0 n0 v U'.heap L ∧ FrameEnd U o U' L ({ frames := 1, cells := 1, slots := 16, locals := 60 } : Room).cells ({ frames := 1, cells := 1, slots := 16, locals := 60 } : Room).slots) := by
  refine MetFree.of_bodySF (plainFor_of_name pn_26) hisR ?_
  intro p e s m args below meth c s₁ Bd hml0 hP hK
  obtain ⟨rfl, hZ, hh⟩ := hP
  have hx := Bd.exec
  have hby := Bd.bytes
  have hml : c.maxLocals = 5 := hml0
  have hown : s.vm.findClass "java/util/Arrays" = some m.cls := findClass_of_methodNamed Bd.named
  have hnm := (name_of_methodNamed Bd.named Bd.method).1
  have X0 : Stand p l e ({ frames := 1, cells := 1, slots := 16, locals := 60 } : Room) s m #[(.ref a1), (.int p1), (.int p2)] below meth c s₁ [] 0 0 := Stand.of_body Bd
  have e0 : s₁.heap = h0 := by rw [← hh, Bd.state]; rfl
  have N0 := Fr.nil n0
  have pre0 : ∀ t, Steps p.tables e below (s₁.setTop (mkF m 0 #[.val (.ref a1), .val (.int p1), .val (.int p2), .unset, .unset] [])) t → Steps p.tables e below (s₁.setTop (entryFrame m #[(.ref a1), (.int p1), (.int p2)] 5)) t := fun t_ k_ => castTop (ef_26 m a1 p1 p2) k_
  obtain ⟨S0, hS0⟩ : ∃ z, z = s₁.setTop (mkF m 0 #[.val (.ref a1), .val (.int p1), .val (.int p2), .unset, .unset] []) := ⟨_, rfl⟩
  have r0 : Steps p.tables e below S0 (s₁.setTop (mkF m 0 #[.val (.ref a1), .val (.int p1), .val (.int p2), .unset, .unset] [])) := by rw [hS0]; exact Steps.refl _
  have K0 := Keep.refl h0 []
  have cn := i_cl n (by omega)
  have z16 : (16 : Int32).toNatClampNeg = 16 := by decide
  have z0 : (0 : Int32).toNatClampNeg = 0 := by decide
  have r203 : Steps p.tables e below S0 (s₁.setTop (mkF m 2 #[.val (.ref a1), .val (.int p1), .val (.int p2), .unset, .unset] [(.int p2), (.int p1)])) := by
    refine r0.trans ?_
    show Steps p.tables e below (s₁.setTop (mkF m 0 #[.val (.ref a1), .val (.int p1), .val (.int p2), .unset, .unset] [])) _
    refine XS.iloadN X0.here hx rfl (hb hby d26_0) rfl ?_
    show Steps p.tables e below (s₁.setTop (mkF m 1 #[.val (.ref a1), .val (.int p1), .val (.int p2), .unset, .unset] [(.int p1)])) _
    refine XS.iloadN X0.here hx rfl (hb hby d26_1) rfl ?_
    exact Steps.refl _
  obtain ⟨_, _, ⟨T204, L204, k204, n204⟩, -, X204, ⟨Lc204, hQ204, l204, y204, z204⟩, st204⟩ := Jvm.LawKit.callS X0 hx (y := (⟨"java/util/Arrays", "checkLength", "(II)V"⟩ : MethodName)) hown (mvT hZ (hw _ (List.mem_of_getElem? (i := 153) rfl))) (mvT hZ (hw _ (List.mem_of_getElem? (i := 154) rfl))) (mvT hZ (hw _ (List.mem_of_getElem? (i := 148) rfl))) (mvT hZ (hw _ (List.mem_of_getElem? (i := 155) rfl))) (by decide) (backOf (W := 0) (rmCk l Z a0 hw [] p1 p2 h0 n0 Z0 (by rw [hp, h1]; exact cn.2.1)) hZ (hw _ (List.mem_of_getElem? (i := 155) rfl)) (hw _ (List.mem_of_getElem? (i := 148) rfl)) (by decide) (by decide)) (g := (mkF m 2 #[.val (.ref a1), .val (.int p1), .val (.int p2), .unset, .unset] [(.int p2), (.int p1)])) rfl (by rw [hml]; rfl) (argsL := [(.int p1), (.int p2)]) (rest := []) (lenOf pd_10 rfl) rfl (by show 2 * 0 + _ ≤ _; exact Nat.le_of_eq rfl) (hb hby d26_2) (fun _ _ => ⟨rfl, e0, (by decide : 0 + 0 ≤ _), (by decide : 0 + 0 ≤ _)⟩)
  dsimp only [Pt.U, Pt.locs, Pt.cells, Pt.slots] at X204 l204 y204 z204 st204 hQ204
  subst l204 y204 z204
  obtain ⟨rfl, Nq204, e204⟩ := hQ204
  have N204 := Fr.app N0 Nq204
  have r205 : Steps p.tables e below S0 (T204.setTop (mkF m 5 #[.val (.ref a1), .val (.int p1), .val (.int p2), .unset, .unset] [])) := r203.trans (st204 _ (Steps.refl _))
  have r206 : Steps p.tables e below S0 (T204.setTop (mkF m 8 #[.val (.ref a1), .val (.int p1), .val (.int p2), .unset, .unset] [(.int (p2 - p1))])) := by
    refine r205.trans ?_
    show Steps p.tables e below (T204.setTop (mkF m 5 #[.val (.ref a1), .val (.int p1), .val (.int p2), .unset, .unset] [])) _
    refine XS.iloadN X204.here hx rfl (hb hby d26_5) rfl ?_
    show Steps p.tables e below (T204.setTop (mkF m 6 #[.val (.ref a1), .val (.int p1), .val (.int p2), .unset, .unset] [(.int p2)])) _
    refine XS.iloadN X204.here hx rfl (hb hby d26_6) rfl ?_
    show Steps p.tables e below (T204.setTop (mkF m 7 #[.val (.ref a1), .val (.int p1), .val (.int p2), .unset, .unset] [(.int p1), (.int p2)])) _
    refine XS.isub X204.here hx rfl (hb hby d26_7) rfl ?_
    exact Steps.refl _
  have r207 : Steps p.tables e below S0 (T204.setTop (mkF m 8 #[.val (.ref a1), .val (.int p1), .val (.int p2), .unset, .unset] [(.int (Int32.ofNat n))])) := by rw [← (show (p2 - p1) = Int32.ofNat n by rw [hp, h1]; exact Int32.sub_zero _)]; exact r206
  have r208 : Steps p.tables e below S0 (T204.setTop (mkF m 10 #[.val (.ref a1), .val (.int p1), .val (.int p2), .val (.int (Int32.ofNat n)), .unset] [(.int (Int32.ofNat n))])) := by
    refine r207.trans ?_
    show Steps p.tables e below (T204.setTop (mkF m 8 #[.val (.ref a1), .val (.int p1), .val (.int p2), .unset, .unset] [(.int (Int32.ofNat n))])) _
    refine XS.istoreN X204.here hx rfl (hb hby d26_8) rfl (l' := #[.val (.ref a1), .val (.int p1), .val (.int p2), .val (.int (Int32.ofNat n)), .unset]) rfl ?_
    show Steps p.tables e below (T204.setTop (mkF m 9 #[.val (.ref a1), .val (.int p1), .val (.int p2), .val (.int (Int32.ofNat n)), .unset] [])) _
    refine XS.iloadN X204.here hx rfl (hb hby d26_9) rfl ?_
    exact Steps.refl _
  obtain ⟨T209, h209, k209, X209, e209, E209, A209, st209⟩ := newP X204 hx hZ (hw _ (List.mem_of_getElem? (i := 19) rfl)) e204 (g := (mkF m 10 #[.val (.ref a1), .val (.int p1), .val (.int p2), .val (.int (Int32.ofNat n)), .unset] [(.int (Int32.ofNat n))])) rfl (hb hby d26_10) rfl cn.2.1 (cap := 16) (by rw [cn.1]; omega) (by decide) (by decide) (by decide)
  obtain ⟨c1, g209⟩ : ∃ z, z = h0.size := ⟨_, rfl⟩
  rw [← g209] at A209 st209
  have ne_a1_c1 : a1 ≠ c1 := Nat.ne_of_lt (by rw [g209]; exact Ab.lt)
  have G_c1 : Gar Z h209 c1 .byte ((Int32.ofNat n)).toNatClampNeg (fun _ => defaultValue .byte) := Gar.new A209
  have g_c1 : n0 ≤ c1 := Nat.le_trans Z0 (Nat.le_of_eq g209.symm)
  have Z209 : n0 ≤ h209.size := Nat.le_trans Z0 E209.1
  have K209 := K0.ext E209
  have V209_a1 := Ab.ext E209
  have r210 : Steps p.tables e below S0 (T209.setTop (mkF m 12 #[.val (.ref a1), .val (.int p1), .val (.int p2), .val (.int (Int32.ofNat n)), .unset] [(.ref c1)])) := r208.trans (st209 _ (Steps.refl _))
  have sz_c1 : h0.size ≤ c1 := Nat.le_trans K0.1 (Nat.le_of_eq g209.symm)
  have V_c1 : Arv Z h209 c1 k209 .byte (Int32.ofNat n) (List.replicate n (.int 0)) (.int 0) := (Arv.new A209 cn.2.1).pad (pad_rep [] (.int 0) n)
  have r211 : Steps p.tables e below S0 (T209.setTop (mkF m 24 #[.val (.ref a1), .val (.int p1), .val (.int p2), .val (.int (Int32.ofNat n)), .val (.ref c1)] [(.int (Int32.ofNat n)), (.int ((16 : Int32) - p1)), (.int (0 : Int32)), (.ref c1), (.int p1), (.ref a1)])) := by
    refine r210.trans ?_
    show Steps p.tables e below (T209.setTop (mkF m 12 #[.val (.ref a1), .val (.int p1), .val (.int p2), .val (.int (Int32.ofNat n)), .unset] [(.ref c1)])) _
    refine XS.astore X209.here hx rfl (hb hby d26_12) rfl rfl (l' := #[.val (.ref a1), .val (.int p1), .val (.int p2), .val (.int (Int32.ofNat n)), .val (.ref c1)]) rfl ?_
    show Steps p.tables e below (T209.setTop (mkF m 14 #[.val (.ref a1), .val (.int p1), .val (.int p2), .val (.int (Int32.ofNat n)), .val (.ref c1)] [])) _
    refine XS.aloadN X209.here hx rfl (hb hby d26_14) rfl rfl ?_
    show Steps p.tables e below (T209.setTop (mkF m 15 #[.val (.ref a1), .val (.int p1), .val (.int p2), .val (.int (Int32.ofNat n)), .val (.ref c1)] [(.ref a1)])) _
    refine XS.iloadN X209.here hx rfl (hb hby d26_15) rfl ?_
    show Steps p.tables e below (T209.setTop (mkF m 16 #[.val (.ref a1), .val (.int p1), .val (.int p2), .val (.int (Int32.ofNat n)), .val (.ref c1)] [(.int p1), (.ref a1)])) _
    refine XS.aload X209.here hx rfl (hb hby d26_16) rfl rfl ?_
    show Steps p.tables e below (T209.setTop (mkF m 18 #[.val (.ref a1), .val (.int p1), .val (.int p2), .val (.int (Int32.ofNat n)), .val (.ref c1)] [(.ref c1), (.int p1), (.ref a1)])) _
    refine XS.iconst X209.here hx rfl (hb hby d26_18) ?_
    show Steps p.tables e below (T209.setTop (mkF m 19 #[.val (.ref a1), .val (.int p1), .val (.int p2), .val (.int (Int32.ofNat n)), .val (.ref c1)] [(.int (0 : Int32)), (.ref c1), (.int p1), (.ref a1)])) _
    refine XS.aloadN X209.here hx rfl (hb hby d26_19) rfl rfl ?_
    show Steps p.tables e below (T209.setTop (mkF m 20 #[.val (.ref a1), .val (.int p1), .val (.int p2), .val (.int (Int32.ofNat n)), .val (.ref c1)] [(.ref a1), (.int (0 : Int32)), (.ref c1), (.int p1), (.ref a1)])) _
    refine lnV X209 hx hZ e209 V209_a1 (g := (mkF m 20 #[.val (.ref a1), .val (.int p1), .val (.int p2), .val (.int (Int32.ofNat n)), .val (.ref c1)] [(.ref a1), (.int (0 : Int32)), (.ref c1), (.int p1), (.ref a1)])) rfl rfl (hb hby d26_20) _ ?_
    show Steps p.tables e below (T209.setTop (mkF m 21 #[.val (.ref a1), .val (.int p1), .val (.int p2), .val (.int (Int32.ofNat n)), .val (.ref c1)] [(.int (16 : Int32)), (.int (0 : Int32)), (.ref c1), (.int p1), (.ref a1)])) _
    refine XS.iloadN X209.here hx rfl (hb hby d26_21) rfl ?_
    show Steps p.tables e below (T209.setTop (mkF m 22 #[.val (.ref a1), .val (.int p1), .val (.int p2), .val (.int (Int32.ofNat n)), .val (.ref c1)] [(.int p1), (.int (16 : Int32)), (.int (0 : Int32)), (.ref c1), (.int p1), (.ref a1)])) _
    refine XS.isub X209.here hx rfl (hb hby d26_22) rfl ?_
    show Steps p.tables e below (T209.setTop (mkF m 23 #[.val (.ref a1), .val (.int p1), .val (.int p2), .val (.int (Int32.ofNat n)), .val (.ref c1)] [(.int ((16 : Int32) - p1)), (.int (0 : Int32)), (.ref c1), (.int p1), (.ref a1)])) _
    refine XS.iloadN X209.here hx rfl (hb hby d26_23) rfl ?_
    exact Steps.refl _
  obtain ⟨_, _, ⟨T212, L212, k212, n212⟩, -, X212, ⟨Lc212, hQ212, l212, y212, z212⟩, st212⟩ := Jvm.LawKit.callS X209 hx (y := (⟨"java/lang/Math", "min", "(II)I"⟩ : MethodName)) hown (mvT hZ (hw _ (List.mem_of_getElem? (i := 156) rfl))) (mvT hZ (hw _ (List.mem_of_getElem? (i := 157) rfl))) (mvT hZ (hw _ (List.mem_of_getElem? (i := 158) rfl))) (mvT hZ (hw _ (List.mem_of_getElem? (i := 159) rfl))) (by decide) (backOf (W := 4) (rmMi l Z a0 hw [] ((16 : Int32) - p1) (Int32.ofNat n) h209 n0 Z209 (by rw [h1]; exact (i_lt n hn).1)) hZ (hw _ (List.mem_of_getElem? (i := 159) rfl)) (hw _ (List.mem_of_getElem? (i := 158) rfl)) (by decide) (by decide)) (g := (mkF m 24 #[.val (.ref a1), .val (.int p1), .val (.int p2), .val (.int (Int32.ofNat n)), .val (.ref c1)] [(.int (Int32.ofNat n)), (.int ((16 : Int32) - p1)), (.int (0 : Int32)), (.ref c1), (.int p1), (.ref a1)])) rfl (by rw [hml]; rfl) (argsL := [(.int ((16 : Int32) - p1)), (.int (Int32.ofNat n))]) (rest := [(.int (0 : Int32)), (.ref c1), (.int p1), (.ref a1)]) (lenOf pd_11 rfl) rfl (by show 2 * 0 + _ ≤ _; exact Nat.le_of_eq rfl) (hb hby d26_24) (fun _ _ => ⟨rfl, e209, (by decide : ((0 + 0) + 1) + 0 ≤ _), (by decide : ((0 + 0) + 16) + 0 ≤ _)⟩)
  dsimp only [Pt.U, Pt.locs, Pt.cells, Pt.slots] at X212 l212 y212 z212 st212 hQ212
  subst l212 y212 z212
  obtain ⟨rfl, Nq212, e212⟩ := hQ212
  have N212 := Fr.app N204 Nq212
  have r213 : Steps p.tables e below S0 (T212.setTop (mkF m 27 #[.val (.ref a1), .val (.int p1), .val (.int p2), .val (.int (Int32.ofNat n)), .val (.ref c1)] [(.int (Int32.ofNat n)), (.int (0 : Int32)), (.ref c1), (.int p1), (.ref a1)])) := r211.trans (st212 _ (Steps.refl _))
  obtain ⟨T214, h214, L214, X214, e214, N214, K214, V214, st214⟩ := cpA X212 hx hZ hown (hw _ (List.mem_of_getElem? (i := 160) rfl)) (hw _ (List.mem_of_getElem? (i := 114) rfl)) (hw _ (List.mem_of_getElem? (i := 112) rfl)) (hw _ (List.mem_of_getElem? (i := 113) rfl)) e212 V209_a1 V_c1 (us := vs.take n) (Or.inl ⟨rfl, rfl⟩) (by rw [h1]; decide) (by decide) cn.2.1 (by rw [h1, z0, cn.1, z16]; omega) (by rw [z0]; omega) (by rw [h1, z0, cn.1]; exact us_take hvl (by omega)) (by rw [z0, cn.1, List.length_replicate]; omega) N212 g_c1 (g := (mkF m 27 #[.val (.ref a1), .val (.int p1), .val (.int p2), .val (.int (Int32.ofNat n)), .val (.ref c1)] [(.int (Int32.ofNat n)), (.int (0 : Int32)), (.ref c1), (.int p1), (.ref a1)])) rfl (by rw [hml]; rfl) (rest := []) rfl (hb hby d26_27) (by decide) (W := 0) (by show 2 * 0 + _ ≤ _; exact Nat.le_of_eq rfl) (by decide)
  have Z214 : n0 ≤ h214.size := Nat.le_trans Z209 K214.1
  have K214 := K209.trans K214 (allS (Or.inr (Nat.le_of_eq g209.symm)) (all0))
  have r215 : Steps p.tables e below S0 (T214.setTop (mkF m 30 #[.val (.ref a1), .val (.int p1), .val (.int p2), .val (.int (Int32.ofNat n)), .val (.ref c1)] [])) := r213.trans (st214 _ (Steps.refl _))
  rw [z0, cn.1, cp_eq] at V214
  have r216 : Steps p.tables e below S0 (T214.setTop (mkF m 32 #[.val (.ref a1), .val (.int p1), .val (.int p2), .val (.int (Int32.ofNat n)), .val (.ref c1)] [(.ref c1)])) := by
    refine r215.trans ?_
    show Steps p.tables e below (T214.setTop (mkF m 30 #[.val (.ref a1), .val (.int p1), .val (.int p2), .val (.int (Int32.ofNat n)), .val (.ref c1)] [])) _
    refine XS.aload X214.here hx rfl (hb hby d26_30) rfl rfl ?_
    exact Steps.refl _
  obtain ⟨fs, hr, hrun, hended, hW, hsame⟩ := X214.leave (v := some (.ref c1)) (fun h => by rw [Bd.returns] at h; cases h)
  refine ⟨_, _, pre0 _ ?_, hrun, hended, _, _, rfl, ?_, ⟨_, rfl⟩, hW, hsame.mono (by decide) (by decide)⟩
  · rw [← hS0]
    refine r216.trans ?_
    show Steps p.tables e below (T214.setTop (mkF m 32 #[.val (.ref a1), .val (.int p1), .val (.int p2), .val (.int (Int32.ofNat n)), .val (.ref c1)] [(.ref c1)])) _
    jvm_step X214.here [X214.here.top, hx, (hb hby d26_32), X214.method', Bd.returns, Value.isRef, FieldType.isReference]
    first | (intro acts; rw [hr _ acts rfl rfl rfl]) | rw [hr _ _ rfl rfl rfl]
    exact Steps.refl _
  · show QmCb Z a1 p1 p2 kv vs n h0 n0 _ T214.heap _; rw [e214]; exact ⟨c1, k209, rfl, Nat.le_of_eq g209.symm, N214, K214, V214⟩
theorem pn_25 : plainName "java/util/Arrays" = true := by first | (simp [plainName, overriddenIn]; done) | decide +kernel
theorem ef_25 (m : MethodId) (x0 : Addr) (x1 : Int32) (x2 : Int32) : entryFrame m #[(.ref x0), (.int x1), (.int x2)] 3 = mkF m 0 #[.val (.ref x0), .val (.int x1), .val (.int x2)] [] := by first | (simp [entryFrame, mkF, argsToLocals, Value.category]; done) | rfl
def QmCr (Z : State) (a1 : Addr) (p1 : Int32) (p2 : Int32) (kv : ClassId) (vs : List Value) (n : Nat) (h0 : Heap) (n0 : Nat) (v : Option Value) (h : Heap) (L : List Loc) : Prop := ∃ (c1 : Addr) (kc : ClassId), v = some (.ref c1) ∧ h0.size ≤ c1 ∧ Fr n0 L ∧ Keep h0 h [] ∧ Arv Z h c1 kc .byte (Int32.ofNat n) (vs.take n) (.int 0)
set_option maxRecDepth 65536 in
set_option maxHeartbeats 40000000 in
theorem rmCr (l : Launch) (Z : State) (a0 : Array Value) (hw : ∀ d ∈ tables_1, d.before a0 Z = true) (ws : List Jvm.Cond) (a1 : Addr) (p1 : Int32) (p2 : Int32) (kv : ClassId) (vs : List Value) (n : Nat) (h0 : Heap) (n0 : Nat) (Z0 : n0 ≤ h0.size) (Ab : Arv Z h0 a1 kv .byte 16 vs (.int 0)) (hvl : vs.length = 16) (h1 : p1 = 0) (hp : p2 = Int32.ofNat n) (hn : n < 16) :
    MetFree l (⟨"java/util/Arrays", "copyOfRange", "([BII)[B"⟩ : MethodName) (head1 (Jvm.Cond.code (⟨"java/util/Arrays", "copyOfRange", "([BII)[B"⟩ : MethodName) jdk_65_method_132_code 3 (some (.array .byte)) :: ws) ({ frames := 2, cells := 1, slots := 16, locals := 80 } : Room)) (fun a U => a = #[(.ref a1), (.int p1), (.int p2)] ∧ Z.Warmed39 U.vm ∧ U.heap = h0) (fun _ _ _ _ _ => True) (fun _ U o U' => ∃ v L, o = .returned v ∧ QmCr Z a1 p1 p2 kv vs n h0 n0 v U'.heap L ∧ FrameEnd U o U' L ({ frames := 2, cells := 1, slots := 16, locals := 80 } : Room).cells ({ frames := 2, cells := 1, slots := 16, locals := 80 } : Room).slots) := by
  refine MetFree.of_bodySF (plainFor_of_name pn_25) hisR ?_
  intro p e s m args below meth c s₁ Bd hml0 hP hK
  obtain ⟨rfl, hZ, hh⟩ := hP
  have hx := Bd.exec
  have hby := Bd.bytes
  have hml : c.maxLocals = 3 := hml0
  have hown : s.vm.findClass "java/util/Arrays" = some m.cls := findClass_of_methodNamed Bd.named
  have hnm := (name_of_methodNamed Bd.named Bd.method).1
  have X0 : Stand p l e ({ frames := 2, cells := 1, slots := 16, locals := 80 } : Room) s m #[(.ref a1), (.int p1), (.int p2)] below meth c s₁ [] 0 0 := Stand.of_body Bd
  have e0 : s₁.heap = h0 := by rw [← hh, Bd.state]; rfl
  have N0 := Fr.nil n0
  have pre0 : ∀ t, Steps p.tables e below (s₁.setTop (mkF m 0 #[.val (.ref a1), .val (.int p1), .val (.int p2)] [])) t → Steps p.tables e below (s₁.setTop (entryFrame m #[(.ref a1), (.int p1), (.int p2)] 3)) t := fun t_ k_ => castTop (ef_25 m a1 p1 p2) k_
  obtain ⟨S0, hS0⟩ : ∃ z, z = s₁.setTop (mkF m 0 #[.val (.ref a1), .val (.int p1), .val (.int p2)] []) := ⟨_, rfl⟩
  have r0 : Steps p.tables e below S0 (s₁.setTop (mkF m 0 #[.val (.ref a1), .val (.int p1), .val (.int p2)] [])) := by rw [hS0]; exact Steps.refl _
  have r217 : Steps p.tables e below S0 (s₁.setTop (mkF m 13 #[.val (.ref a1), .val (.int p1), .val (.int p2)] [(.int p2), (.int p1), (.ref a1)])) := by
    refine r0.trans ?_
    show Steps p.tables e below (s₁.setTop (mkF m 0 #[.val (.ref a1), .val (.int p1), .val (.int p2)] [])) _
    refine XS.iloadN X0.here hx rfl (hb hby d25_0) rfl ?_
    show Steps p.tables e below (s₁.setTop (mkF m 1 #[.val (.ref a1), .val (.int p1), .val (.int p2)] [(.int p1)])) _
    refine XS.ifNo X0.here hx rfl (hb hby d25_1) rfl ((if0 _ _).trans (teq h1).2) ?_
    show Steps p.tables e below (s₁.setTop (mkF m 4 #[.val (.ref a1), .val (.int p1), .val (.int p2)] [])) _
    refine XS.iloadN X0.here hx rfl (hb hby d25_4) rfl ?_
    show Steps p.tables e below (s₁.setTop (mkF m 5 #[.val (.ref a1), .val (.int p1), .val (.int p2)] [(.int p2)])) _
    refine XS.aloadN X0.here hx rfl (hb hby d25_5) rfl rfl ?_
    show Steps p.tables e below (s₁.setTop (mkF m 6 #[.val (.ref a1), .val (.int p1), .val (.int p2)] [(.ref a1), (.int p2)])) _
    refine lnV X0 hx hZ e0 Ab (g := (mkF m 6 #[.val (.ref a1), .val (.int p1), .val (.int p2)] [(.ref a1), (.int p2)])) rfl rfl (hb hby d25_6) _ ?_
    show Steps p.tables e below (s₁.setTop (mkF m 7 #[.val (.ref a1), .val (.int p1), .val (.int p2)] [(.int (16 : Int32)), (.int p2)])) _
    refine XS.icmpNo X0.here hx rfl (hb hby d25_7) rfl (feq (by rw [hp]; exact (i_lt n hn).2)).1 ?_
    show Steps p.tables e below (s₁.setTop (mkF m 10 #[.val (.ref a1), .val (.int p1), .val (.int p2)] [])) _
    refine XS.aloadN X0.here hx rfl (hb hby d25_10) rfl rfl ?_
    show Steps p.tables e below (s₁.setTop (mkF m 11 #[.val (.ref a1), .val (.int p1), .val (.int p2)] [(.ref a1)])) _
    refine XS.iloadN X0.here hx rfl (hb hby d25_11) rfl ?_
    show Steps p.tables e below (s₁.setTop (mkF m 12 #[.val (.ref a1), .val (.int p1), .val (.int p2)] [(.int p1), (.ref a1)])) _
    refine XS.iloadN X0.here hx rfl (hb hby d25_12) rfl ?_
    exact Steps.refl _
  obtain ⟨_, _, ⟨T218, L218, k218, n218⟩, -, X218, ⟨Lc218, hQ218, l218, y218, z218⟩, st218⟩ := Jvm.LawKit.callS X0 hx (y := (⟨"java/util/Arrays", "copyOfRangeByte", "([BII)[B"⟩ : MethodName)) hown (mvT hZ (hw _ (List.mem_of_getElem? (i := 150) rfl))) (mvT hZ (hw _ (List.mem_of_getElem? (i := 151) rfl))) (mvT hZ (hw _ (List.mem_of_getElem? (i := 148) rfl))) (mvT hZ (hw _ (List.mem_of_getElem? (i := 152) rfl))) (by decide) (backOf (W := 0) (rmCb l Z a0 hw [] a1 p1 p2 kv vs n h0 n0 Z0 Ab hvl h1 hp hn) hZ (hw _ (List.mem_of_getElem? (i := 152) rfl)) (hw _ (List.mem_of_getElem? (i := 148) rfl)) (by decide) (by decide)) (g := (mkF m 13 #[.val (.ref a1), .val (.int p1), .val (.int p2)] [(.int p2), (.int p1), (.ref a1)])) rfl (by rw [hml]; rfl) (argsL := [(.ref a1), (.int p1), (.int p2)]) (rest := []) (lenOf pd_12 rfl) rfl (by show 2 * 0 + _ ≤ _; exact Nat.le_of_eq rfl) (hb hby d25_13) (fun _ _ => ⟨rfl, e0, (by decide : 0 + 1 ≤ _), (by decide : 0 + 16 ≤ _)⟩)
  dsimp only [Pt.U, Pt.locs, Pt.cells, Pt.slots] at X218 l218 y218 z218 st218 hQ218
  subst l218 y218 z218
  obtain ⟨c1, kc, rfl, sc, Nq218, Kc218, Vc218⟩ := hQ218
  have N218 := Fr.app N0 Nq218
  have r219 : Steps p.tables e below S0 (T218.setTop (mkF m 16 #[.val (.ref a1), .val (.int p1), .val (.int p2)] [(.ref c1)])) := r217.trans (st218 _ (Steps.refl _))
  obtain ⟨fs, hr, hrun, hended, hW, hsame⟩ := X218.leave (v := some (.ref c1)) (fun h => by rw [Bd.returns] at h; cases h)
  refine ⟨_, _, pre0 _ ?_, hrun, hended, _, _, rfl, ?_, ⟨_, rfl⟩, hW, hsame.mono (by decide) (by decide)⟩
  · rw [← hS0]
    refine r219.trans ?_
    show Steps p.tables e below (T218.setTop (mkF m 16 #[.val (.ref a1), .val (.int p1), .val (.int p2)] [(.ref c1)])) _
    jvm_step X218.here [X218.here.top, hx, (hb hby d25_16), X218.method', Bd.returns, Value.isRef, FieldType.isReference]
    first | (intro acts; rw [hr _ acts rfl rfl rfl]) | rw [hr _ _ rfl rfl rfl]
    exact Steps.refl _
  · show QmCr Z a1 p1 p2 kv vs n h0 n0 _ T218.heap _; exact ⟨c1, kc, rfl, sc, N218, Kc218, Vc218⟩
theorem pn_20 : plainName "java/lang/String" = true := by first | (simp [plainName, overriddenIn]; done) | decide +kernel
theorem ef_20 (m : MethodId) (x0 : Addr) (x1 : Addr) : entryFrame m #[(.ref x0), (.ref x1), .null] 5 = mkF m 0 #[.val (.ref x0), .val (.ref x1), .val .null, .unset, .unset] [] := by first | (simp [entryFrame, mkF, argsToLocals, Value.category]; done) | rfl
def QmSi (Z : State) (a1 : Addr) (a2 : Addr) (cz : Int32) (vb : Addr) (kv : ClassId) (n : Nat) (vs : List Value) (h0 : Heap) (n0 : Nat) (v : Option Value) (h : Heap) (L : List Loc) : Prop := v = none ∧ Fr n0 L ∧ Keep h0 h [a1] ∧ ∃ (c1 : Addr) (kc : ClassId), h0.size ≤ c1 ∧ Exa Z h a1 "java/lang/String" ∧ Fld Z h a1 "java/lang/String" "coder" "B" (.int (0 : Int32)) ∧ Fld Z h a1 "java/lang/String" "value" "[B" (.ref c1) ∧ Arv Z h c1 kc .byte (Int32.ofNat n) (vs.take n) (.int 0)
set_option maxRecDepth 65536 in
set_option maxHeartbeats 40000000 in
theorem rmSi (l : Launch) (Z : State) (a0 : Array Value) (hw : ∀ d ∈ tables_1, d.before a0 Z = true) (ws : List Jvm.Cond) (a1 : Addr) (a2 : Addr) (cz : Int32) (vb : Addr) (kv : ClassId) (n : Nat) (vs : List Value) (h0 : Heap) (n0 : Nat) (Z0 : n0 ≤ h0.size) (O0 : Old Z n0 h0) (Sc : Sta Z Z.heap "java/lang/String" "COMPACT_STRINGS" "Z" (.int cz)) (hcz : ¬ cz = 0)(E1 : Exa Z h0 a1 "java/lang/String") (Fv1 : Fld Z h0 a1 "java/lang/String" "value" "[B" .null) (Fc1 : Fld Z h0 a1 "java/lang/String" "coder" "B" (.int (0 : Int32))) (g_a1 : n0 ≤ a1)(hB : BV Z h0 a2 vb kv n vs) (hn : n < 16) (na : a2 ≠ a1) (nb : vb ≠ a1) :
    MetFree l (⟨"java/lang/String", "<init>", "(Ljava/lang/AbstractStringBuilder;Ljava/lang/Void;)V"⟩ : MethodName) (head1 (Jvm.Cond.code (⟨"java/lang/String", "<init>", "(Ljava/lang/AbstractStringBuilder;Ljava/lang/Void;)V"⟩ : MethodName) jdk_42_method_150_code 5 none :: ws) ({ frames := 3, cells := 1, slots := 16, locals := 96 } : Room)) (fun a U => a = #[(.ref a1), (.ref a2), .null] ∧ Z.Warmed39 U.vm ∧ U.heap = h0) (fun _ _ _ _ _ => True) (fun _ U o U' => ∃ v L, o = .returned v ∧ QmSi Z a1 a2 cz vb kv n vs h0 n0 v U'.heap L ∧ FrameEnd U o U' L ({ frames := 3, cells := 1, slots := 16, locals := 96 } : Room).cells ({ frames := 3, cells := 1, slots := 16, locals := 96 } : Room).slots) := by
  refine MetFree.of_bodySF (plainFor_of_name pn_20) hisR ?_
  intro p e s m args below meth c s₁ Bd hml0 hP hK
  obtain ⟨rfl, hZ, hh⟩ := hP
  have hx := Bd.exec
  have hby := Bd.bytes
  have hml : c.maxLocals = 5 := hml0
  have hown : s.vm.findClass "java/lang/String" = some m.cls := findClass_of_methodNamed Bd.named
  have hnm := (name_of_methodNamed Bd.named Bd.method).1
  have X0 : Stand p l e ({ frames := 3, cells := 1, slots := 16, locals := 96 } : Room) s m #[(.ref a1), (.ref a2), .null] below meth c s₁ [] 0 0 := Stand.of_body Bd
  have e0 : s₁.heap = h0 := by rw [← hh, Bd.state]; rfl
  have N0 := Fr.nil n0
  have pre0 : ∀ t, Steps p.tables e below (s₁.setTop (mkF m 0 #[.val (.ref a1), .val (.ref a2), .val .null, .unset, .unset] [])) t → Steps p.tables e below (s₁.setTop (entryFrame m #[(.ref a1), (.ref a2), .null] 5)) t := fun t_ k_ => castTop (ef_20 m a1 a2) k_
  obtain ⟨S0, hS0⟩ : ∃ z, z = s₁.setTop (mkF m 0 #[.val (.ref a1), .val (.ref a2), .val .null, .unset, .unset] []) := ⟨_, rfl⟩
  have r0 : Steps p.tables e below S0 (s₁.setTop (mkF m 0 #[.val (.ref a1), .val (.ref a2), .val .null, .unset, .unset] [])) := by rw [hS0]; exact Steps.refl _
  have hB_ := hB
  obtain ⟨Ea, Fv, Fc, Fn, Av, hvl, hav⟩ := hB_
  have K0 := Keep.refl h0 [a1]
  have r220 : Steps p.tables e below S0 (s₁.setTop (mkF m 1 #[.val (.ref a1), .val (.ref a2), .val .null, .unset, .unset] [(.ref a1)])) := by
    refine r0.trans ?_
    show Steps p.tables e below (s₁.setTop (mkF m 0 #[.val (.ref a1), .val (.ref a2), .val .null, .unset, .unset] [])) _
    refine XS.aloadN X0.here hx rfl (hb hby d20_0) rfl rfl ?_
    exact Steps.refl _
  obtain ⟨T221, X221, e221, st221⟩ := initO X0 hx hZ hown (hw _ (List.mem_of_getElem? (i := 15) rfl)) (hw _ (List.mem_of_getElem? (i := 16) rfl)) (hw _ (List.mem_of_getElem? (i := 17) rfl)) e0 (g := (mkF m 1 #[.val (.ref a1), .val (.ref a2), .val .null, .unset, .unset] [(.ref a1)])) rfl (by rw [hml]; rfl) rfl (hb hby d20_1) (by decide) (W := 0) (by show 2 * 0 + _ ≤ _; exact Nat.le_of_eq rfl) (by decide)
  have r222 : Steps p.tables e below S0 (T221.setTop (mkF m 4 #[.val (.ref a1), .val (.ref a2), .val .null, .unset, .unset] [])) := r220.trans (st221 _ (Steps.refl _))
  have r223 : Steps p.tables e below S0 (T221.setTop (mkF m 5 #[.val (.ref a1), .val (.ref a2), .val .null, .unset, .unset] [(.ref a2)])) := by
    refine r222.trans ?_
    show Steps p.tables e below (T221.setTop (mkF m 4 #[.val (.ref a1), .val (.ref a2), .val .null, .unset, .unset] [])) _
    refine XS.aloadN X221.here hx rfl (hb hby d20_4) rfl rfl ?_
    exact Steps.refl _
  obtain ⟨cq224, kq224, q224a, q224b, q224c⟩ := isOf hZ e221 Ea
  obtain ⟨_, _, ⟨T224, L224, k224, n224⟩, -, X224, ⟨Lc224, hQ224, l224, y224, z224⟩, st224⟩ := X221.virtualBack hx (y := (⟨"java/lang/AbstractStringBuilder", "getValue", "()[B"⟩ : MethodName)) (z := (⟨"java/lang/AbstractStringBuilder", "getValue", "()[B"⟩ : MethodName)) hown (mvT hZ (hw _ (List.mem_of_getElem? (i := 128) rfl))) (mvT hZ (hw _ (List.mem_of_getElem? (i := 129) rfl))) (notFace_of_selects (args := #[]) (mvT hZ (hw _ (List.mem_of_getElem? (i := 131) rfl)))) (mvT hZ (hw _ (List.mem_of_getElem? (i := 131) rfl))) (mvT hZ (hw _ (List.mem_of_getElem? (i := 130) rfl))) (by decide) (backOf (W := 0) (rmGv l Z a0 hw [] a2 cz vb kv n vs h0 n0 Z0 hB) hZ (hw _ (List.mem_of_getElem? (i := 132) rfl)) (hw _ (List.mem_of_getElem? (i := 59) rfl)) (by decide) (by decide)) q224a q224c (g := (mkF m 5 #[.val (.ref a1), .val (.ref a2), .val .null, .unset, .unset] [(.ref a2)])) rfl (by rw [hml]; rfl) (Steps.refl _) (argsL := []) (rest := []) (lenOf pd_13 rfl) rfl (by show 2 * 0 + _ ≤ _; exact Nat.le_of_eq rfl) (hb hby d20_5) (fun _ _ => ⟨rfl, e221, (by decide : 0 + 0 ≤ _), (by decide : 0 + 0 ≤ _)⟩)
  dsimp only [Pt.U, Pt.locs, Pt.cells, Pt.slots] at X224 l224 y224 z224 st224 hQ224
  subst l224 y224 z224
  obtain ⟨rfl, Nq224, e224⟩ := hQ224
  have N224 := Fr.app N0 Nq224
  have r225 : Steps p.tables e below S0 (T224.setTop (mkF m 8 #[.val (.ref a1), .val (.ref a2), .val .null, .unset, .unset] [(.ref vb)])) := r223.trans st224
  have r226 : Steps p.tables e below S0 (T224.setTop (mkF m 10 #[.val (.ref a1), .val (.ref a2), .val .null, .val (.ref vb), .unset] [(.ref a2)])) := by
    refine r225.trans ?_
    show Steps p.tables e below (T224.setTop (mkF m 8 #[.val (.ref a1), .val (.ref a2), .val .null, .unset, .unset] [(.ref vb)])) _
    refine XS.astoreN X224.here hx rfl (hb hby d20_8) rfl rfl (l' := #[.val (.ref a1), .val (.ref a2), .val .null, .val (.ref vb), .unset]) rfl ?_
    show Steps p.tables e below (T224.setTop (mkF m 9 #[.val (.ref a1), .val (.ref a2), .val .null, .val (.ref vb), .unset] [])) _
    refine XS.aloadN X224.here hx rfl (hb hby d20_9) rfl rfl ?_
    exact Steps.refl _
  obtain ⟨cq227, kq227, q227a, q227b, q227c⟩ := isOf hZ e224 Ea
  obtain ⟨_, _, ⟨T227, L227, k227, n227⟩, -, X227, ⟨Lc227, hQ227, l227, y227, z227⟩, st227⟩ := X224.virtualBack hx (y := (⟨"java/lang/AbstractStringBuilder", "length", "()I"⟩ : MethodName)) (z := (⟨"java/lang/StringBuilder", "length", "()I"⟩ : MethodName)) hown (mvT hZ (hw _ (List.mem_of_getElem? (i := 133) rfl))) (mvT hZ (hw _ (List.mem_of_getElem? (i := 134) rfl))) (nfOf (args := #[]) (y := (⟨"java/lang/AbstractStringBuilder", "length", "()I"⟩ : MethodName)) (mvT hZ (hw _ (List.mem_of_getElem? (i := 93) rfl))) rfl) (mvT hZ (hw _ (List.mem_of_getElem? (i := 136) rfl))) (mvT hZ (hw _ (List.mem_of_getElem? (i := 137) rfl))) (by decide) (backOf (W := 0) (rmLb l Z a0 hw [] a2 cz vb kv n vs h0 n0 Z0 hB) hZ (hw _ (List.mem_of_getElem? (i := 138) rfl)) (hw _ (List.mem_of_getElem? (i := 51) rfl)) (by decide) (by decide)) q227a q227c (g := (mkF m 10 #[.val (.ref a1), .val (.ref a2), .val .null, .val (.ref vb), .unset] [(.ref a2)])) rfl (by rw [hml]; rfl) (Steps.refl _) (argsL := []) (rest := []) (lenOf pd_0 rfl) rfl (by show 2 * 0 + _ ≤ _; exact Nat.le_of_eq rfl) (hb hby d20_10) (fun _ _ => ⟨rfl, e224, (by decide : (0 + 0) + 0 ≤ _), (by decide : (0 + 0) + 0 ≤ _)⟩)
  dsimp only [Pt.U, Pt.locs, Pt.cells, Pt.slots] at X227 l227 y227 z227 st227 hQ227
  subst l227 y227 z227
  obtain ⟨rfl, Nq227, e227⟩ := hQ227
  have N227 := Fr.app N224 Nq227
  have r228 : Steps p.tables e below S0 (T227.setTop (mkF m 13 #[.val (.ref a1), .val (.ref a2), .val .null, .val (.ref vb), .unset] [(.int (Int32.ofNat n))])) := r226.trans st227
  have r229 : Steps p.tables e below S0 (T227.setTop (mkF m 16 #[.val (.ref a1), .val (.ref a2), .val .null, .val (.ref vb), .val (.int (Int32.ofNat n))] [(.ref a2)])) := by
    refine r228.trans ?_
    show Steps p.tables e below (T227.setTop (mkF m 13 #[.val (.ref a1), .val (.ref a2), .val .null, .val (.ref vb), .unset] [(.int (Int32.ofNat n))])) _
    refine XS.istore X227.here hx rfl (hb hby d20_13) rfl (l' := #[.val (.ref a1), .val (.ref a2), .val .null, .val (.ref vb), .val (.int (Int32.ofNat n))]) rfl ?_
    show Steps p.tables e below (T227.setTop (mkF m 15 #[.val (.ref a1), .val (.ref a2), .val .null, .val (.ref vb), .val (.int (Int32.ofNat n))] [])) _
    refine XS.aloadN X227.here hx rfl (hb hby d20_15) rfl rfl ?_
    exact Steps.refl _
  obtain ⟨cq230, kq230, q230a, q230b, q230c⟩ := isOf hZ e227 Ea
  obtain ⟨_, _, ⟨T230, L230, k230, n230⟩, -, X230, ⟨Lc230, hQ230, l230, y230, z230⟩, st230⟩ := X227.virtualBack hx (y := (⟨"java/lang/AbstractStringBuilder", "isLatin1", "()Z"⟩ : MethodName)) (z := (⟨"java/lang/AbstractStringBuilder", "isLatin1", "()Z"⟩ : MethodName)) hown (mvT hZ (hw _ (List.mem_of_getElem? (i := 141) rfl))) (mvT hZ (hw _ (List.mem_of_getElem? (i := 142) rfl))) (notFace_of_selects (args := #[]) (mvT hZ (hw _ (List.mem_of_getElem? (i := 144) rfl)))) (mvT hZ (hw _ (List.mem_of_getElem? (i := 144) rfl))) (mvT hZ (hw _ (List.mem_of_getElem? (i := 143) rfl))) (by decide) (backOf (W := 0) (rmIl l Z a0 hw [] a2 cz vb kv n vs h0 n0 Z0 O0 Sc hcz hB) hZ (hw _ (List.mem_of_getElem? (i := 145) rfl)) (hw _ (List.mem_of_getElem? (i := 59) rfl)) (by decide) (by decide)) q230a q230c (g := (mkF m 16 #[.val (.ref a1), .val (.ref a2), .val .null, .val (.ref vb), .val (.int (Int32.ofNat n))] [(.ref a2)])) rfl (by rw [hml]; rfl) (Steps.refl _) (argsL := []) (rest := []) (lenOf pd_5 rfl) rfl (by show 2 * 0 + _ ≤ _; exact Nat.le_of_eq rfl) (hb hby d20_16) (fun _ _ => ⟨rfl, e227, (by decide : ((0 + 0) + 0) + 0 ≤ _), (by decide : ((0 + 0) + 0) + 0 ≤ _)⟩)
  dsimp only [Pt.U, Pt.locs, Pt.cells, Pt.slots] at X230 l230 y230 z230 st230 hQ230
  subst l230 y230 z230
  obtain ⟨rfl, Nq230, e230⟩ := hQ230
  have N230 := Fr.app N227 Nq230
  have r231 : Steps p.tables e below S0 (T230.setTop (mkF m 19 #[.val (.ref a1), .val (.ref a2), .val .null, .val (.ref vb), .val (.int (Int32.ofNat n))] [(.int (1 : Int32))])) := r229.trans st230
  have r232 : Steps p.tables e below S0 (T230.setTop (mkF m 24 #[.val (.ref a1), .val (.ref a2), .val .null, .val (.ref vb), .val (.int (Int32.ofNat n))] [(.int (0 : Int32)), (.ref a1)])) := by
    refine r231.trans ?_
    show Steps p.tables e below (T230.setTop (mkF m 19 #[.val (.ref a1), .val (.ref a2), .val .null, .val (.ref vb), .val (.int (Int32.ofNat n))] [(.int (1 : Int32))])) _
    refine XS.ifNo X230.here hx rfl (hb hby d20_19) rfl ((if0 _ _).trans (feq (by decide)).1) ?_
    show Steps p.tables e below (T230.setTop (mkF m 22 #[.val (.ref a1), .val (.ref a2), .val .null, .val (.ref vb), .val (.int (Int32.ofNat n))] [])) _
    refine XS.aloadN X230.here hx rfl (hb hby d20_22) rfl rfl ?_
    show Steps p.tables e below (T230.setTop (mkF m 23 #[.val (.ref a1), .val (.ref a2), .val .null, .val (.ref vb), .val (.int (Int32.ofNat n))] [(.ref a1)])) _
    refine XS.iconst X230.here hx rfl (hb hby d20_23) ?_
    exact Steps.refl _
  obtain ⟨T233, h233, X233, e233, W233, st233⟩ := putF X230 hx hZ hown (host := "") (Or.inl (hw _ (List.mem_of_getElem? (i := 25) rfl))) Via.refl e230 Fc1 E1 (Or.inr ⟨(hw _ (List.mem_of_getElem? (i := 21) rfl)), rfl, hnm⟩) (hw _ (List.mem_of_getElem? (i := 5) rfl)) (ty := .byte) (by decide) (by first | rfl | decide) (by first | rfl | decide) (g := (mkF m 24 #[.val (.ref a1), .val (.ref a2), .val .null, .val (.ref vb), .val (.int (Int32.ofNat n))] [(.int (0 : Int32)), (.ref a1)])) rfl rfl (hb hby d20_24)
  have N233 := Fr.snoc X233 N230 g_a1
  have F233_a2_value := Fv.other W233 (Or.inl na)
  have F233_a2_coder := Fc.other W233 (Or.inl na)
  have F233_a2_count := Fn.other W233 (Or.inl na)
  have F233_a1_value := Fv1.other W233 (Or.inr (slot_ne (a0 := a0) (Or.inr (hw _ (List.mem_of_getElem? (i := 20) rfl))) (Or.inr (hw _ (List.mem_of_getElem? (i := 21) rfl))) (by decide) (t := (.array .byte)) (t' := .byte) (by decide) (by decide)))
  have F233_a1_coder := Fc1.same W233
  have E233_a2 := Ea.wr W233
  have E233_a1 := E1.wr W233
  have Z233 : n0 ≤ h233.size := Nat.le_trans Z0 (Nat.le_of_eq W233.size.symm)
  have K233 := K0.wr W233 (Or.inl (List.mem_of_getElem? (i := 0) rfl))
  have O233 := O0.wr W233 g_a1
  have V233_vb := Av.other W233 nb
  have r234 : Steps p.tables e below S0 (T233.setTop (mkF m 27 #[.val (.ref a1), .val (.ref a2), .val .null, .val (.ref vb), .val (.int (Int32.ofNat n))] [])) := r232.trans (st233 _ (Steps.refl _))
  have r235 : Steps p.tables e below S0 (T233.setTop (mkF m 32 #[.val (.ref a1), .val (.ref a2), .val .null, .val (.ref vb), .val (.int (Int32.ofNat n))] [(.int (Int32.ofNat n)), (.int (0 : Int32)), (.ref vb), (.ref a1)])) := by
    refine r234.trans ?_
    show Steps p.tables e below (T233.setTop (mkF m 27 #[.val (.ref a1), .val (.ref a2), .val .null, .val (.ref vb), .val (.int (Int32.ofNat n))] [])) _
    refine XS.aloadN X233.here hx rfl (hb hby d20_27) rfl rfl ?_
    show Steps p.tables e below (T233.setTop (mkF m 28 #[.val (.ref a1), .val (.ref a2), .val .null, .val (.ref vb), .val (.int (Int32.ofNat n))] [(.ref a1)])) _
    refine XS.aloadN X233.here hx rfl (hb hby d20_28) rfl rfl ?_
    show Steps p.tables e below (T233.setTop (mkF m 29 #[.val (.ref a1), .val (.ref a2), .val .null, .val (.ref vb), .val (.int (Int32.ofNat n))] [(.ref vb), (.ref a1)])) _
    refine XS.iconst X233.here hx rfl (hb hby d20_29) ?_
    show Steps p.tables e below (T233.setTop (mkF m 30 #[.val (.ref a1), .val (.ref a2), .val .null, .val (.ref vb), .val (.int (Int32.ofNat n))] [(.int (0 : Int32)), (.ref vb), (.ref a1)])) _
    refine XS.iload X233.here hx rfl (hb hby d20_30) rfl ?_
    exact Steps.refl _
  obtain ⟨_, _, ⟨T236, L236, k236, n236⟩, -, X236, ⟨Lc236, hQ236, l236, y236, z236⟩, st236⟩ := Jvm.LawKit.callS X233 hx (y := (⟨"java/util/Arrays", "copyOfRange", "([BII)[B"⟩ : MethodName)) hown (mvT hZ (hw _ (List.mem_of_getElem? (i := 146) rfl))) (mvT hZ (hw _ (List.mem_of_getElem? (i := 147) rfl))) (mvT hZ (hw _ (List.mem_of_getElem? (i := 148) rfl))) (mvT hZ (hw _ (List.mem_of_getElem? (i := 149) rfl))) (by decide) (backOf (W := 1) (rmCr l Z a0 hw [] vb (0 : Int32) (Int32.ofNat n) kv vs n h233 n0 Z233 V233_vb hvl rfl rfl hn) hZ (hw _ (List.mem_of_getElem? (i := 149) rfl)) (hw _ (List.mem_of_getElem? (i := 148) rfl)) (by decide) (by decide)) (g := (mkF m 32 #[.val (.ref a1), .val (.ref a2), .val .null, .val (.ref vb), .val (.int (Int32.ofNat n))] [(.int (Int32.ofNat n)), (.int (0 : Int32)), (.ref vb), (.ref a1)])) rfl (by rw [hml]; rfl) (argsL := [(.ref vb), (.int (0 : Int32)), (.int (Int32.ofNat n))]) (rest := [(.ref a1)]) (lenOf pd_12 rfl) rfl (by show 2 * 0 + _ ≤ _; exact Nat.le_of_eq rfl) (hb hby d20_32) (fun _ _ => ⟨rfl, e233, (by decide : (((0 + 0) + 0) + 0) + 1 ≤ _), (by decide : (((0 + 0) + 0) + 0) + 16 ≤ _)⟩)
  dsimp only [Pt.U, Pt.locs, Pt.cells, Pt.slots] at X236 l236 y236 z236 st236 hQ236
  subst l236 y236 z236
  obtain ⟨c1, kc, rfl, sc, Nq236, Kc236, Vc236⟩ := hQ236
  have N236 := Fr.app N233 Nq236
  have r237 : Steps p.tables e below S0 (T236.setTop (mkF m 35 #[.val (.ref a1), .val (.ref a2), .val .null, .val (.ref vb), .val (.int (Int32.ofNat n))] [(.ref c1), (.ref a1)])) := r235.trans (st236 _ (Steps.refl _))
  have ne_a1_c1 : a1 ≠ c1 := Nat.ne_of_lt (Nat.lt_of_lt_of_le E233_a1.lt sc)
  have sc0 : h0.size ≤ c1 := Nat.le_trans K233.1 sc
  have F236_a1_value := F233_a1_value.keep Kc236 nin0
  have F236_a1_coder := F233_a1_coder.keep Kc236 nin0
  have E236_a2 := E233_a2.keep Kc236
  have E236_a1 := E233_a1.keep Kc236
  have Z236 : n0 ≤ T236.heap.size := Nat.le_trans Z233 Kc236.1
  have K236 := K233.trans Kc236 (all0)
  have O236 := O233.keep Kc236 (all0)
  obtain ⟨T238, h238, X238, e238, W238, st238⟩ := putF X236 hx hZ hown (host := "") (Or.inl (hw _ (List.mem_of_getElem? (i := 24) rfl))) Via.refl rfl F236_a1_value E236_a1 (Or.inr ⟨(hw _ (List.mem_of_getElem? (i := 20) rfl)), rfl, hnm⟩) (hw _ (List.mem_of_getElem? (i := 5) rfl)) (ty := (.array .byte)) (by decide) rfl rfl (g := (mkF m 35 #[.val (.ref a1), .val (.ref a2), .val .null, .val (.ref vb), .val (.int (Int32.ofNat n))] [(.ref c1), (.ref a1)])) rfl rfl (hb hby d20_35)
  have N238 := Fr.snoc X238 N236 g_a1
  have F238_a1_value := F236_a1_value.same W238
  have F238_a1_coder := F236_a1_coder.other W238 (Or.inr (slot_ne (a0 := a0) (Or.inr (hw _ (List.mem_of_getElem? (i := 21) rfl))) (Or.inr (hw _ (List.mem_of_getElem? (i := 20) rfl))) (by decide) (t := .byte) (t' := (.array .byte)) (by decide) (by decide)))
  have E238_a1 := E236_a1.wr W238
  have Z238 : n0 ≤ h238.size := Nat.le_trans Z236 (Nat.le_of_eq W238.size.symm)
  have K238 := K236.wr W238 (Or.inl (List.mem_of_getElem? (i := 0) rfl))
  have O238 := O236.wr W238 g_a1
  have V238_c1 := Vc236.other W238 (Ne.symm ne_a1_c1)
  have r239 : Steps p.tables e below S0 (T238.setTop (mkF m 38 #[.val (.ref a1), .val (.ref a2), .val .null, .val (.ref vb), .val (.int (Int32.ofNat n))] [])) := r237.trans (st238 _ (Steps.refl _))
  have r240 : Steps p.tables e below S0 (T238.setTop (mkF m 97 #[.val (.ref a1), .val (.ref a2), .val .null, .val (.ref vb), .val (.int (Int32.ofNat n))] [])) := by
    refine r239.trans ?_
    show Steps p.tables e below (T238.setTop (mkF m 38 #[.val (.ref a1), .val (.ref a2), .val .null, .val (.ref vb), .val (.int (Int32.ofNat n))] [])) _
    refine XS.goto X238.here hx rfl (pc0 := 38) (pc' := 97) rfl (hb hby d20_38) (by decide) (by decide) ?_
    exact Steps.refl _
  obtain ⟨fs, hr, hrun, hended, hW, hsame⟩ := X238.leave (v := none) (fun _ => rfl)
  refine ⟨_, _, pre0 _ ?_, hrun, hended, _, _, rfl, ?_, ⟨_, rfl⟩, hW, hsame.mono (by decide) (by decide)⟩
  · rw [← hS0]
    refine r240.trans ?_
    show Steps p.tables e below (T238.setTop (mkF m 97 #[.val (.ref a1), .val (.ref a2), .val .null, .val (.ref vb), .val (.int (Int32.ofNat n))] [])) _
    exact X238.returnOut hx Bd.returns (hb hby d20_97) hr
  · show QmSi Z a1 a2 cz vb kv n vs h0 n0 _ T238.heap _; rw [e238]; exact ⟨rfl, N238, K238, c1, kc, sc0, E238_a1, F238_a1_coder, F238_a1_value, V238_c1⟩
theorem pn_19 : plainName "java/lang/String" = true := by first | (simp [plainName, overriddenIn]; done) | decide +kernel
theorem ef_19 (m : MethodId) (x0 : Addr) (x1 : Addr) : entryFrame m #[(.ref x0), (.ref x1)] 2 = mkF m 0 #[.val (.ref x0), .val (.ref x1)] [] := by first | (simp [entryFrame, mkF, argsToLocals, Value.category]; done) | rfl
def QmSj (Z : State) (a1 : Addr) (a2 : Addr) (cz : Int32) (vb : Addr) (kv : ClassId) (n : Nat) (vs : List Value) (h0 : Heap) (n0 : Nat) (v : Option Value) (h : Heap) (L : List Loc) : Prop := v = none ∧ Fr n0 L ∧ Keep h0 h [a1] ∧ ∃ (c1 : Addr) (kc : ClassId), h0.size ≤ c1 ∧ Exa Z h a1 "java/lang/String" ∧ Fld Z h a1 "java/lang/String" "coder" "B" (.int (0 : Int32)) ∧ Fld Z h a1 "java/lang/String" "value" "[B" (.ref c1) ∧ Arv Z h c1 kc .byte (Int32.ofNat n) (vs.take n) (.int 0)
set_option maxRecDepth 65536 in
set_option maxHeartbeats 40000000 in
theorem rmSj (l : Launch) (Z : State) (a0 : Array Value) (hw : ∀ d ∈ tables_1, d.before a0 Z = true) (ws : List Jvm.Cond) (a1 : Addr) (a2 : Addr) (cz : Int32) (vb : Addr) (kv : ClassId) (n : Nat) (vs : List Value) (h0 : Heap) (n0 : Nat) (Z0 : n0 ≤ h0.size) (O0 : Old Z n0 h0) (Sc : Sta Z Z.heap "java/lang/String" "COMPACT_STRINGS" "Z" (.int cz)) (hcz : ¬ cz = 0)(E1 : Exa Z h0 a1 "java/lang/String") (Fv1 : Fld Z h0 a1 "java/lang/String" "value" "[B" .null) (Fc1 : Fld Z h0 a1 "java/lang/String" "coder" "B" (.int (0 : Int32))) (g_a1 : n0 ≤ a1)(hB : BV Z h0 a2 vb kv n vs) (hn : n < 16) (na : a2 ≠ a1) (nb : vb ≠ a1) :
    MetFree l (⟨"java/lang/String", "<init>", "(Ljava/lang/StringBuilder;)V"⟩ : MethodName) (head1 (Jvm.Cond.code (⟨"java/lang/String", "<init>", "(Ljava/lang/StringBuilder;)V"⟩ : MethodName) jdk_42_method_53_code 2 none :: ws) ({ frames := 4, cells := 1, slots := 16, locals := 116 } : Room)) (fun a U => a = #[(.ref a1), (.ref a2)] ∧ Z.Warmed39 U.vm ∧ U.heap = h0) (fun _ _ _ _ _ => True) (fun _ U o U' => ∃ v L, o = .returned v ∧ QmSj Z a1 a2 cz vb kv n vs h0 n0 v U'.heap L ∧ FrameEnd U o U' L ({ frames := 4, cells := 1, slots := 16, locals := 116 } : Room).cells ({ frames := 4, cells := 1, slots := 16, locals := 116 } : Room).slots) := by
  refine MetFree.of_bodySF (plainFor_of_name pn_19) hisR ?_
  intro p e s m args below meth c s₁ Bd hml0 hP hK
  obtain ⟨rfl, hZ, hh⟩ := hP
  have hx := Bd.exec
  have hby := Bd.bytes
  have hml : c.maxLocals = 2 := hml0
  have hown : s.vm.findClass "java/lang/String" = some m.cls := findClass_of_methodNamed Bd.named
  have hnm := (name_of_methodNamed Bd.named Bd.method).1
  have X0 : Stand p l e ({ frames := 4, cells := 1, slots := 16, locals := 116 } : Room) s m #[(.ref a1), (.ref a2)] below meth c s₁ [] 0 0 := Stand.of_body Bd
  have e0 : s₁.heap = h0 := by rw [← hh, Bd.state]; rfl
  have N0 := Fr.nil n0
  have pre0 : ∀ t, Steps p.tables e below (s₁.setTop (mkF m 0 #[.val (.ref a1), .val (.ref a2)] [])) t → Steps p.tables e below (s₁.setTop (entryFrame m #[(.ref a1), (.ref a2)] 2)) t := fun t_ k_ => castTop (ef_19 m a1 a2) k_
  obtain ⟨S0, hS0⟩ : ∃ z, z = s₁.setTop (mkF m 0 #[.val (.ref a1), .val (.ref a2)] []) := ⟨_, rfl⟩
  have r0 : Steps p.tables e below S0 (s₁.setTop (mkF m 0 #[.val (.ref a1), .val (.ref a2)] [])) := by rw [hS0]; exact Steps.refl _
  have r241 : Steps p.tables e below S0 (s₁.setTop (mkF m 3 #[.val (.ref a1), .val (.ref a2)] [.null, (.ref a2), (.ref a1)])) := by
    refine r0.trans ?_
    show Steps p.tables e below (s₁.setTop (mkF m 0 #[.val (.ref a1), .val (.ref a2)] [])) _
    refine XS.aloadN X0.here hx rfl (hb hby d19_0) rfl rfl ?_
    show Steps p.tables e below (s₁.setTop (mkF m 1 #[.val (.ref a1), .val (.ref a2)] [(.ref a1)])) _
    refine XS.aloadN X0.here hx rfl (hb hby d19_1) rfl rfl ?_
    show Steps p.tables e below (s₁.setTop (mkF m 2 #[.val (.ref a1), .val (.ref a2)] [(.ref a2), (.ref a1)])) _
    refine XS.aconstNull X0.here hx rfl (hb hby d19_2) ?_
    exact Steps.refl _
  obtain ⟨_, _, ⟨T242, L242, k242, n242⟩, -, X242, ⟨Lc242, hQ242, l242, y242, z242⟩, st242⟩ := X0.specialBack hx (y := (⟨"java/lang/String", "<init>", "(Ljava/lang/AbstractStringBuilder;Ljava/lang/Void;)V"⟩ : MethodName)) rfl hown (mvT hZ (hw _ (List.mem_of_getElem? (i := 125) rfl))) (mvT hZ (hw _ (List.mem_of_getElem? (i := 126) rfl))) (mvT hZ (hw _ (List.mem_of_getElem? (i := 127) rfl))) (by decide) (backOf (W := 0) (rmSi l Z a0 hw [] a1 a2 cz vb kv n vs h0 n0 Z0 O0 Sc hcz E1 Fv1 Fc1 g_a1 hB hn na nb) hZ (hw _ (List.mem_of_getElem? (i := 127) rfl)) (hw _ (List.mem_of_getElem? (i := 6) rfl)) (by decide) (by decide)) (g := (mkF m 3 #[.val (.ref a1), .val (.ref a2)] [.null, (.ref a2), (.ref a1)])) rfl (by rw [hml]; rfl) (Steps.refl _) (a := a1) (argsL := [(.ref a2), .null]) (rest := []) (lenOf pd_14 rfl) rfl (by show 2 * 0 + _ ≤ _; exact Nat.le_of_eq rfl) (hb hby d19_3) (fun _ _ => ⟨rfl, e0, (by decide : 0 + 1 ≤ _), (by decide : 0 + 16 ≤ _)⟩)
  dsimp only [Pt.U, Pt.locs, Pt.cells, Pt.slots] at X242 l242 y242 z242 st242 hQ242
  subst l242 y242 z242
  obtain ⟨rfl, Nq242, Kc242, hR242⟩ := hQ242
  have N242 := Fr.app N0 Nq242
  have r243 : Steps p.tables e below S0 (T242.setTop (mkF m 6 #[.val (.ref a1), .val (.ref a2)] [])) := r241.trans st242
  obtain ⟨fs, hr, hrun, hended, hW, hsame⟩ := X242.leave (v := none) (fun _ => rfl)
  refine ⟨_, _, pre0 _ ?_, hrun, hended, _, _, rfl, ?_, ⟨_, rfl⟩, hW, hsame.mono (by decide) (by decide)⟩
  · rw [← hS0]
    refine r243.trans ?_
    show Steps p.tables e below (T242.setTop (mkF m 6 #[.val (.ref a1), .val (.ref a2)] [])) _
    exact X242.returnOut hx Bd.returns (hb hby d19_6) hr
  · show QmSj Z a1 a2 cz vb kv n vs h0 n0 _ T242.heap _; exact ⟨rfl, N242, Kc242, hR242⟩
theorem pn_18 : plainName "java/lang/StringBuilder" = true := by first | (simp [plainName, overriddenIn]; done) | decide +kernel
theorem ef_18 (m : MethodId) (x0 : Addr) : entryFrame m #[(.ref x0)] 1 = mkF m 0 #[.val (.ref x0)] [] := by first | (simp [entryFrame, mkF, argsToLocals, Value.category]; done) | rfl
def QmTs (Z : State) (a1 : Addr) (cz : Int32) (vb : Addr) (kv : ClassId) (n : Nat) (vs : List Value) (h0 : Heap) (n0 : Nat) (v : Option Value) (h : Heap) (L : List Loc) : Prop := ∃ (x1 c1 : Addr) (kc : ClassId), v = some (.ref x1) ∧ Fr n0 L ∧ Keep h0 h [] ∧ Exa Z h x1 "java/lang/String" ∧ Fld Z h x1 "java/lang/String" "coder" "B" (.int (0 : Int32)) ∧ Fld Z h x1 "java/lang/String" "value" "[B" (.ref c1) ∧ Arv Z h c1 kc .byte (Int32.ofNat n) (vs.take n) (.int 0)
set_option maxRecDepth 65536 in
set_option maxHeartbeats 40000000 in
theorem rmTs (l : Launch) (Z : State) (a0 : Array Value) (hw : ∀ d ∈ tables_1, d.before a0 Z = true) (ws : List Jvm.Cond) (a1 : Addr) (cz : Int32) (vb : Addr) (kv : ClassId) (n : Nat) (vs : List Value) (h0 : Heap) (n0 : Nat) (Z0 : n0 ≤ h0.size) (O0 : Old Z n0 h0) (Sc : Sta Z Z.heap "java/lang/String" "COMPACT_STRINGS" "Z" (.int cz)) (hcz : ¬ cz = 0)(hB : BV Z h0 a1 vb kv n vs) (hn : n < 16) :
    MetFree l (⟨"java/lang/StringBuilder", "toString", "()Ljava/lang/String;"⟩ : MethodName) (head1 (Jvm.Cond.code (⟨"java/lang/StringBuilder", "toString", "()Ljava/lang/String;"⟩ : MethodName) jdk_67_method_42_code 1 (some (.object "java/lang/String")) :: ws) ({ frames := 5, cells := 2, slots := 20, locals := 132 } : Room)) (fun a U => a = #[(.ref a1)] ∧ Z.Warmed39 U.vm ∧ U.heap = h0) (fun _ _ _ _ _ => True) (fun _ U o U' => ∃ v L, o = .returned v ∧ QmTs Z a1 cz vb kv n vs h0 n0 v U'.heap L ∧ FrameEnd U o U' L ({ frames := 5, cells := 2, slots := 20, locals := 132 } : Room).cells ({ frames := 5, cells := 2, slots := 20, locals := 132 } : Room).slots) := by
  refine MetFree.of_bodySF (plainFor_of_name pn_18) hisR ?_
  intro p e s m args below meth c s₁ Bd hml0 hP hK
  obtain ⟨rfl, hZ, hh⟩ := hP
  have hx := Bd.exec
  have hby := Bd.bytes
  have hml : c.maxLocals = 1 := hml0
  have hown : s.vm.findClass "java/lang/StringBuilder" = some m.cls := findClass_of_methodNamed Bd.named
  have hnm := (name_of_methodNamed Bd.named Bd.method).1
  have X0 : Stand p l e ({ frames := 5, cells := 2, slots := 20, locals := 132 } : Room) s m #[(.ref a1)] below meth c s₁ [] 0 0 := Stand.of_body Bd
  have e0 : s₁.heap = h0 := by rw [← hh, Bd.state]; rfl
  have N0 := Fr.nil n0
  have pre0 : ∀ t, Steps p.tables e below (s₁.setTop (mkF m 0 #[.val (.ref a1)] [])) t → Steps p.tables e below (s₁.setTop (entryFrame m #[(.ref a1)] 1)) t := fun t_ k_ => castTop (ef_18 m a1) k_
  obtain ⟨S0, hS0⟩ : ∃ z, z = s₁.setTop (mkF m 0 #[.val (.ref a1)] []) := ⟨_, rfl⟩
  have r0 : Steps p.tables e below S0 (s₁.setTop (mkF m 0 #[.val (.ref a1)] [])) := by rw [hS0]; exact Steps.refl _
  have hB_ := hB
  obtain ⟨Ea, Fv, Fc, Fn, Av, hvl, hav⟩ := hB_
  have K0 := Keep.refl h0 []
  obtain ⟨T244, h244, X244, e244, E244, A244, D244, -, st244⟩ := newO X0 hx hZ hown (hw _ (List.mem_of_getElem? (i := 121) rfl)) (hw _ (List.mem_of_getElem? (i := 5) rfl)) (hw _ (List.mem_of_getElem? (i := 6) rfl)) e0 (g := (mkF m 0 #[.val (.ref a1)] [])) rfl (hb hby d18_0) (by decide) (by decide)
  obtain ⟨x1, g244⟩ : ∃ z, z = h0.size := ⟨_, rfl⟩
  rw [← g244] at A244 D244 st244
  have ne_a1_x1 : a1 ≠ x1 := Nat.ne_of_lt (by rw [g244]; exact Ea.lt)
  have ne_vb_x1 : vb ≠ x1 := Nat.ne_of_lt (by rw [g244]; exact Av.lt)
  have g_x1 : n0 ≤ x1 := Nat.le_trans Z0 (Nat.le_of_eq g244.symm)
  have sz_x1 : h0.size ≤ x1 := Nat.le_trans K0.1 (Nat.le_of_eq g244.symm)
  have F244_a1_value := Fv.ext E244
  have F244_a1_coder := Fc.ext E244
  have F244_a1_count := Fn.ext E244
  have E244_a1 := Ea.ext E244
  have Z244 : n0 ≤ h244.size := Nat.le_trans Z0 E244.1
  have K244 := K0.ext E244
  have O244 := O0.ext E244
  have V244_vb := Av.ext E244
  have F_x1_value : Fld Z h244 x1 "java/lang/String" "value" "[B" .null := D244 (Or.inr (hw _ (List.mem_of_getElem? (i := 20) rfl))) (ty := (.array .byte)) (by decide)
  have F_x1_coder : Fld Z h244 x1 "java/lang/String" "coder" "B" (.int (0 : Int32)) := D244 (Or.inr (hw _ (List.mem_of_getElem? (i := 21) rfl))) (ty := .byte) (by decide)
  have r245 : Steps p.tables e below S0 (T244.setTop (mkF m 3 #[.val (.ref a1)] [(.ref x1)])) := r0.trans (st244 _ (Steps.refl _))
  have hB2 := BV.ext hB E244
  have r246 : Steps p.tables e below S0 (T244.setTop (mkF m 5 #[.val (.ref a1)] [(.ref a1), (.ref x1), (.ref x1)])) := by
    refine r245.trans ?_
    show Steps p.tables e below (T244.setTop (mkF m 3 #[.val (.ref a1)] [(.ref x1)])) _
    refine XS.dup X244.here hx rfl (hb hby d18_3) rfl rfl ?_
    show Steps p.tables e below (T244.setTop (mkF m 4 #[.val (.ref a1)] [(.ref x1), (.ref x1)])) _
    refine XS.aloadN X244.here hx rfl (hb hby d18_4) rfl rfl ?_
    exact Steps.refl _
  obtain ⟨_, _, ⟨T247, L247, k247, n247⟩, -, X247, ⟨Lc247, hQ247, l247, y247, z247⟩, st247⟩ := X244.specialBack hx (y := (⟨"java/lang/String", "<init>", "(Ljava/lang/StringBuilder;)V"⟩ : MethodName)) rfl hown (mvT hZ (hw _ (List.mem_of_getElem? (i := 122) rfl))) (mvT hZ (hw _ (List.mem_of_getElem? (i := 123) rfl))) (mvT hZ (hw _ (List.mem_of_getElem? (i := 124) rfl))) (by decide) (backOf (W := 1) (rmSj l Z a0 hw [] x1 a1 cz vb kv n vs h244 n0 Z244 O244 Sc hcz A244 F_x1_value F_x1_coder g_x1 hB2 hn ne_a1_x1 ne_vb_x1) hZ (hw _ (List.mem_of_getElem? (i := 124) rfl)) (hw _ (List.mem_of_getElem? (i := 6) rfl)) (by decide) (by decide)) (g := (mkF m 5 #[.val (.ref a1)] [(.ref a1), (.ref x1), (.ref x1)])) rfl (by rw [hml]; rfl) (Steps.refl _) (a := x1) (argsL := [(.ref a1)]) (rest := [(.ref x1)]) (lenOf pd_15 rfl) rfl (by show 2 * 0 + _ ≤ _; exact Nat.le_of_eq rfl) (hb hby d18_5) (fun _ _ => ⟨rfl, e244, (by decide : (0 + 1) + 1 ≤ _), (by decide : (0 + 4) + 16 ≤ _)⟩)
  dsimp only [Pt.U, Pt.locs, Pt.cells, Pt.slots] at X247 l247 y247 z247 st247 hQ247
  subst l247 y247 z247
  obtain ⟨rfl, Nq247, Kc247, c1, kc, sc, Ec, Fcc, Fvc, Avc⟩ := hQ247
  have N247 := Fr.app N0 Nq247
  have r248 : Steps p.tables e below S0 (T247.setTop (mkF m 8 #[.val (.ref a1)] [(.ref x1)])) := r246.trans st247
  have F247_a1_value := F244_a1_value.keep Kc247 (ninS ne_a1_x1 nin0)
  have F247_a1_coder := F244_a1_coder.keep Kc247 (ninS ne_a1_x1 nin0)
  have F247_a1_count := F244_a1_count.keep Kc247 (ninS ne_a1_x1 nin0)
  have E247_a1 := E244_a1.keep Kc247
  have E247_x1 := A244.keep Kc247
  have Z247 : n0 ≤ T247.heap.size := Nat.le_trans Z244 Kc247.1
  have K247 := K244.trans Kc247 (allS (Or.inr sz_x1) (all0))
  have O247 := O244.keep Kc247 (allS g_x1 (all0))
  have V247_vb := V244_vb.keep Kc247 (ninS ne_vb_x1 (nin0))
  obtain ⟨fs, hr, hrun, hended, hW, hsame⟩ := X247.leave (v := some (.ref x1)) (fun h => by rw [Bd.returns] at h; cases h)
  refine ⟨_, _, pre0 _ ?_, hrun, hended, _, _, rfl, ?_, ⟨_, rfl⟩, hW, hsame.mono (by decide) (by decide)⟩
  · rw [← hS0]
    refine r248.trans ?_
    show Steps p.tables e below (T247.setTop (mkF m 8 #[.val (.ref a1)] [(.ref x1)])) _
    jvm_step X247.here [X247.here.top, hx, (hb hby d18_8), X247.method', Bd.returns, Value.isRef, FieldType.isReference]
    first | (intro acts; rw [hr _ acts rfl rfl rfl]) | rw [hr _ _ rfl rfl rfl]
    exact Steps.refl _
  · show QmTs Z a1 cz vb kv n vs h0 n0 _ T247.heap _; exact ⟨x1, c1, kc, rfl, N247, K247, Ec, Fcc, Fvc, Avc⟩
theorem pn_3 : plainName "java/lang/String" = true := by first | (simp [plainName, overriddenIn]; done) | decide +kernel
theorem ef_3 (m : MethodId) (x0 : Addr) (x1 : Addr) (x2 : Int32) (x3 : Int32) : entryFrame m #[(.ref x0), (.ref x1), (.int x2), (.int x3), .null] 6 = mkF m 0 #[.val (.ref x0), .val (.ref x1), .val (.int x2), .val (.int x3), .val .null, .unset] [] := by first | (simp [entryFrame, mkF, argsToLocals, Value.category]; done) | rfl
def QmE2 (Z : State) (a1 : Addr) (b1 : Addr) (p1 : Int32) (p2 : Int32)  (h0 : Heap) (n0 : Nat) (v : Option Value) (h : Heap) (L : List Loc) : Prop := v = none ∧ Fr n0 L ∧ Keep h0 h [a1] ∧ ∃ (b : Addr) (k : ClassId), StrAt Z h a1 b k []
set_option maxRecDepth 65536 in
set_option maxHeartbeats 40000000 in
theorem rmE2 (l : Launch) (Z : State) (a0 : Array Value) (hw : ∀ d ∈ tables_1, d.before a0 Z = true) (ws : List Jvm.Cond) (a1 : Addr) (b1 : Addr) (p1 : Int32) (p2 : Int32)  (h0 : Heap) (n0 : Nat) (Z0 : n0 ≤ h0.size) (E1 : Exa Z h0 a1 "java/lang/String") (Fv1 : Fld Z h0 a1 "java/lang/String" "value" "[B" .null) (Fc1 : Fld Z h0 a1 "java/lang/String" "coder" "B" (.int (0 : Int32))) (g_a1 : n0 ≤ a1) (hz : p2 = 0) (hEL : EW Z a0 consts_1) :
    MetFree l (⟨"java/lang/String", "<init>", "([CIILjava/lang/Void;)V"⟩ : MethodName) (head1 (Jvm.Cond.code (⟨"java/lang/String", "<init>", "([CIILjava/lang/Void;)V"⟩ : MethodName) jdk_42_method_149_code 6 none :: ws) ({ frames := 1, cells := 4, slots := 8, locals := 12 } : Room)) (fun a U => a = #[(.ref a1), (.ref b1), (.int p1), (.int p2), .null] ∧ Z.Warmed39 U.vm ∧ U.heap = h0 ∧ CHv Z consts_1 U.vm h0) (fun _ _ _ _ _ => True) (fun _ U o U' => ∃ v L, o = .returned v ∧ QmE2 Z a1 b1 p1 p2 h0 n0 v U'.heap L ∧ CHr Z consts_1 U.vm U.heap U'.vm U'.heap ∧ ReturnedEndW U o U' L ({ frames := 1, cells := 4, slots := 8, locals := 12 } : Room).cells ({ frames := 1, cells := 4, slots := 8, locals := 12 } : Room).slots) := by
  refine MetFree.of_bodySF (plainFor_of_name pn_3) hisR ?_
  intro p e s m args below meth c s₁ Bd hml0 hP hK
  obtain ⟨rfl, hZ, hh, hCH⟩ := hP
  have hst : ∀ d ∈ Bundle.stringAtoms, d.before a0 Z = true := fun d hd => hw d ((by decide +kernel : ∀ d ∈ Bundle.stringAtoms, d ∈ tables_1) d hd)
  have hx := Bd.exec
  have hby := Bd.bytes
  have hml : c.maxLocals = 6 := hml0
  have hown : s.vm.findClass "java/lang/String" = some m.cls := findClass_of_methodNamed Bd.named
  have hnm := (name_of_methodNamed Bd.named Bd.method).1
  have X0 : Stand p l e ({ frames := 1, cells := 4, slots := 8, locals := 12 } : Room) s m #[(.ref a1), (.ref b1), (.int p1), (.int p2), .null] below meth c s₁ [] 0 0 := Stand.of_body Bd
  have e0 : s₁.heap = h0 := by rw [← hh, Bd.state]; rfl
  have N0 := Fr.nil n0
  have pre0 : ∀ t, Steps p.tables e below (s₁.setTop (mkF m 0 #[.val (.ref a1), .val (.ref b1), .val (.int p1), .val (.int p2), .val .null, .unset] [])) t → Steps p.tables e below (s₁.setTop (entryFrame m #[(.ref a1), (.ref b1), (.int p1), (.int p2), .null] 6)) t := fun t_ k_ => castTop (ef_3 m a1 b1 p1 p2) k_
  obtain ⟨S0, hS0⟩ : ∃ z, z = s₁.setTop (mkF m 0 #[.val (.ref a1), .val (.ref b1), .val (.int p1), .val (.int p2), .val .null, .unset] []) := ⟨_, rfl⟩
  have r0 : Steps p.tables e below S0 (s₁.setTop (mkF m 0 #[.val (.ref a1), .val (.ref b1), .val (.int p1), .val (.int p2), .val .null, .unset] [])) := by rw [hS0]; exact Steps.refl _
  have K0 := Keep.refl h0 [a1]
  have hC0 := CHv.at (vm0 := s.vm) (s := s) X0 hZ hEL hCH
  have hS0_ : s.Since s₁.vm 0 := X0.warmed.since 0
  have hZ0_ : Z.Warmed39 (s.setVm s₁.vm).vm := wtrans hZ X0.warmed
  have hown0_ : (s.setVm s₁.vm).vm.findClass "java/lang/String" = some m.cls := by rw [show (s.setVm s₁.vm).vm = s₁.vm from rfl, X0.warmed.alike.findClass]; exact hown
  have Xs : Stand p l e ({ frames := 1, cells := 4, slots := 8, locals := 12 } : Room) (s.setVm s₁.vm) m #[(.ref a1), (.ref b1), (.int p1), (.int p2), .null] below meth c s₁ [] 0 0 := X0.retabled X0.warmed.wide
  have hZ := hZ0_
  have hown := hown0_
  have SFa : Safe Z consts_1 s₁.vm h0 a1 := (Safe.fresh hZ.alike E1 Fv1)
  have r249 : Steps p.tables e below S0 (s₁.setTop (mkF m 1 #[.val (.ref a1), .val (.ref b1), .val (.int p1), .val (.int p2), .val .null, .unset] [(.ref a1)])) := by
    refine r0.trans ?_
    show Steps p.tables e below (s₁.setTop (mkF m 0 #[.val (.ref a1), .val (.ref b1), .val (.int p1), .val (.int p2), .val .null, .unset] [])) _
    refine XS.aloadN Xs.here hx rfl (hb hby d3_0) rfl rfl ?_
    exact Steps.refl _
  obtain ⟨T250, X250, e250, st250⟩ := initO Xs hx hZ hown (hw _ (List.mem_of_getElem? (i := 15) rfl)) (hw _ (List.mem_of_getElem? (i := 16) rfl)) (hw _ (List.mem_of_getElem? (i := 17) rfl)) e0 (g := (mkF m 1 #[.val (.ref a1), .val (.ref b1), .val (.int p1), .val (.int p2), .val .null, .unset] [(.ref a1)])) rfl (by rw [hml]; rfl) rfl (hb hby d3_1) (by decide) (W := 0) (by show 2 * 0 + _ ≤ _; exact Nat.le_of_eq rfl) (by decide)
  have r251 : Steps p.tables e below S0 (T250.setTop (mkF m 4 #[.val (.ref a1), .val (.ref b1), .val (.int p1), .val (.int p2), .val .null, .unset] [])) := r249.trans (st250 _ (Steps.refl _))
  have r252 : Steps p.tables e below S0 (T250.setTop (mkF m 9 #[.val (.ref a1), .val (.ref b1), .val (.int p1), .val (.int p2), .val .null, .unset] [(.ref a1)])) := by
    refine r251.trans ?_
    show Steps p.tables e below (T250.setTop (mkF m 4 #[.val (.ref a1), .val (.ref b1), .val (.int p1), .val (.int p2), .val .null, .unset] [])) _
    refine XS.iloadN X250.here hx rfl (hb hby d3_4) rfl ?_
    show Steps p.tables e below (T250.setTop (mkF m 5 #[.val (.ref a1), .val (.ref b1), .val (.int p1), .val (.int p2), .val .null, .unset] [(.int p2)])) _
    refine XS.ifNo X250.here hx rfl (hb hby d3_5) rfl ((if0 _ _).trans (teq hz).2) ?_
    show Steps p.tables e below (T250.setTop (mkF m 8 #[.val (.ref a1), .val (.ref b1), .val (.int p1), .val (.int p2), .val .null, .unset] [])) _
    refine XS.aloadN X250.here hx rfl (hb hby d3_8) rfl rfl ?_
    exact Steps.refl _
  obtain ⟨q1, T253, h253, k1253, qb, qk, X253, e253, E253, hSn253, hkn253, hZ, hown, Ex253, Fc253, Fv253, Av253, la253, lb253, hC253, hLit253, hne253, st253⟩ := ldcCH X250 hx hZ hown (hw _ (List.mem_of_getElem? (i := 18) rfl)) hst e250 hS0_ (Nat.zero_le _) hEL (by decide) hC0.1 (vs := bv ([] : List Int32)) (z := Int32.ofNat (([] : List Int32) : List Int32).length) (by decide +kernel) (by decide) (by decide) (g := (mkF m 9 #[.val (.ref a1), .val (.ref b1), .val (.int p1), .val (.int p2), .val .null, .unset] [(.ref a1)])) rfl (hb hby d3_9) (n := 0) (by decide) (by decide) (by decide) (by decide)
  have SFl253_a1 := CHr.safe hC253 E1.lt SFa
  have F253_a1_value := Fv1.ext E253
  have F253_a1_coder := Fc1.ext E253
  have E253_a1 := E1.ext E253
  have Z253 : n0 ≤ h253.size := Nat.le_trans Z0 E253.1
  have K253 := K0.ext E253
  have C253 := hC0.trans hC253
  have St_q1 : StrAt Z h253 q1 qb qk ([] : List Int32) := ⟨Ex253, Fc253, Fv253, Av253⟩
  have r254 : Steps p.tables e below S0 (T253.setTop (mkF m 11 #[.val (.ref a1), .val (.ref b1), .val (.int p1), .val (.int p2), .val .null, .unset] [(.ref q1), (.ref a1)])) := r252.trans (st253 _ (Steps.refl _))
  have nq253 := hne253 _ SFl253_a1
  obtain ⟨T255, X255, e255, st255⟩ := getF X253 hx hZ hown (host := "") (Or.inl (hw _ (List.mem_of_getElem? (i := 24) rfl))) Via.refl e253 Fv253 (g := (mkF m 11 #[.val (.ref a1), .val (.ref b1), .val (.int p1), .val (.int p2), .val .null, .unset] [(.ref q1), (.ref a1)])) rfl rfl (hb hby d3_11)
  have r256 : Steps p.tables e below S0 (T255.setTop (mkF m 14 #[.val (.ref a1), .val (.ref b1), .val (.int p1), .val (.int p2), .val .null, .unset] [(.ref qb), (.ref a1)])) := r254.trans (st255 _ (Steps.refl _))
  obtain ⟨T257, h257, X257, e257, W257, st257⟩ := putF X255 hx hZ hown (host := "") (Or.inl (hw _ (List.mem_of_getElem? (i := 24) rfl))) Via.refl e255 F253_a1_value E253_a1 (Or.inr ⟨(hw _ (List.mem_of_getElem? (i := 20) rfl)), rfl, hnm⟩) (hw _ (List.mem_of_getElem? (i := 5) rfl)) (ty := (.array .byte)) (by decide) rfl rfl (g := (mkF m 14 #[.val (.ref a1), .val (.ref b1), .val (.int p1), .val (.int p2), .val .null, .unset] [(.ref qb), (.ref a1)])) rfl rfl (hb hby d3_14)
  have N257 := Fr.snoc X257 N0 g_a1
  have F257_a1_value := F253_a1_value.same W257
  have F257_a1_coder := F253_a1_coder.other W257 (Or.inr (slot_ne (a0 := a0) (Or.inr (hw _ (List.mem_of_getElem? (i := 21) rfl))) (Or.inr (hw _ (List.mem_of_getElem? (i := 20) rfl))) (by decide) (t := .byte) (t' := (.array .byte)) (by decide) (by decide)))
  have F257_q1_value := Fv253.other W257 (Or.inl (Ne.symm nq253.1))
  have F257_q1_coder := Fc253.other W257 (Or.inl (Ne.symm nq253.1))
  have E257_a1 := E253_a1.wr W257
  have E257_q1 := Ex253.wr W257
  have Z257 : n0 ≤ h257.size := Nat.le_trans Z253 (Nat.le_of_eq W257.size.symm)
  have K257 := K253.wr W257 (Or.inl (List.mem_of_getElem? (i := 0) rfl))
  have V257_qb := Av253.other W257 (Ne.symm nq253.2)
  have SF257_a1 := Safe.wr W257 SFl253_a1 C253.1 SFl253_a1
  have cs257 := CHr.wr W257 SFl253_a1 C253.1
  have C257 := C253.trans cs257
  have hks257 := Nat.le_trans hkn253 cs257.2.1
  have r258 : Steps p.tables e below S0 (T257.setTop (mkF m 17 #[.val (.ref a1), .val (.ref b1), .val (.int p1), .val (.int p2), .val .null, .unset] [])) := r256.trans (st257 _ (Steps.refl _))
  have r259 : Steps p.tables e below S0 (T257.setTop (mkF m 18 #[.val (.ref a1), .val (.ref b1), .val (.int p1), .val (.int p2), .val .null, .unset] [(.ref a1)])) := by
    refine r258.trans ?_
    show Steps p.tables e below (T257.setTop (mkF m 17 #[.val (.ref a1), .val (.ref b1), .val (.int p1), .val (.int p2), .val .null, .unset] [])) _
    refine XS.aloadN X257.here hx rfl (hb hby d3_17) rfl rfl ?_
    exact Steps.refl _
  obtain ⟨q2, T260, h260, k1260, qb2, qk2, X260, e260, E260, hSn260, hkn260, hZ, hown, Ex260, Fc260, Fv260, Av260, la260, lb260, hC260, hLit260, hne260, st260⟩ := ldcCH X257 hx hZ hown (hw _ (List.mem_of_getElem? (i := 18) rfl)) hst e257 hSn253 hks257 hEL (by decide) C257.1 (vs := bv ([] : List Int32)) (z := Int32.ofNat (([] : List Int32) : List Int32).length) (by decide +kernel) (by decide) (by decide) (g := (mkF m 18 #[.val (.ref a1), .val (.ref b1), .val (.int p1), .val (.int p2), .val .null, .unset] [(.ref a1)])) rfl (hb hby d3_18) (n := 0) (by decide) (by decide) (by decide) (by decide)
  have SFl260_a1 := CHr.safe hC260 E257_a1.lt SF257_a1
  have F260_a1_value := F257_a1_value.ext E260
  have F260_a1_coder := F257_a1_coder.ext E260
  have E260_a1 := E257_a1.ext E260
  have Z260 : n0 ≤ h260.size := Nat.le_trans Z257 E260.1
  have K260 := K257.ext E260
  have V260_qb := V257_qb.ext E260
  have C260 := C257.trans hC260
  have St_q2 : StrAt Z h260 q2 qb2 qk2 ([] : List Int32) := ⟨Ex260, Fc260, Fv260, Av260⟩
  have r261 : Steps p.tables e below S0 (T260.setTop (mkF m 20 #[.val (.ref a1), .val (.ref b1), .val (.int p1), .val (.int p2), .val .null, .unset] [(.ref q2), (.ref a1)])) := r259.trans (st260 _ (Steps.refl _))
  have nq260 := hne260 _ SFl260_a1
  obtain ⟨T262, X262, e262, st262⟩ := getF X260 hx hZ hown (host := "") (Or.inl (hw _ (List.mem_of_getElem? (i := 25) rfl))) Via.refl e260 Fc260 (g := (mkF m 20 #[.val (.ref a1), .val (.ref b1), .val (.int p1), .val (.int p2), .val .null, .unset] [(.ref q2), (.ref a1)])) rfl rfl (hb hby d3_20)
  have r263 : Steps p.tables e below S0 (T262.setTop (mkF m 23 #[.val (.ref a1), .val (.ref b1), .val (.int p1), .val (.int p2), .val .null, .unset] [(.int (0 : Int32)), (.ref a1)])) := r261.trans (st262 _ (Steps.refl _))
  obtain ⟨T264, h264, X264, e264, W264, st264⟩ := putF X262 hx hZ hown (host := "") (Or.inl (hw _ (List.mem_of_getElem? (i := 25) rfl))) Via.refl e262 F260_a1_coder E260_a1 (Or.inr ⟨(hw _ (List.mem_of_getElem? (i := 21) rfl)), rfl, hnm⟩) (hw _ (List.mem_of_getElem? (i := 5) rfl)) (ty := .byte) (by decide) (by first | rfl | decide) (by first | rfl | decide) (g := (mkF m 23 #[.val (.ref a1), .val (.ref b1), .val (.int p1), .val (.int p2), .val .null, .unset] [(.int (0 : Int32)), (.ref a1)])) rfl rfl (hb hby d3_23)
  have N264 := Fr.snoc X264 N257 g_a1
  have F264_a1_value := F260_a1_value.other W264 (Or.inr (slot_ne (a0 := a0) (Or.inr (hw _ (List.mem_of_getElem? (i := 20) rfl))) (Or.inr (hw _ (List.mem_of_getElem? (i := 21) rfl))) (by decide) (t := (.array .byte)) (t' := .byte) (by decide) (by decide)))
  have F264_a1_coder := F260_a1_coder.same W264
  have F264_q2_coder := Fc260.other W264 (Or.inl (Ne.symm nq260.1))
  have E264_a1 := E260_a1.wr W264
  have E264_q2 := Ex260.wr W264
  have Z264 : n0 ≤ h264.size := Nat.le_trans Z260 (Nat.le_of_eq W264.size.symm)
  have K264 := K260.wr W264 (Or.inl (List.mem_of_getElem? (i := 0) rfl))
  have V264_qb := V260_qb.other W264 (Ne.symm nq253.2)
  have SF264_a1 := Safe.wr W264 SFl260_a1 C260.1 SFl260_a1
  have cs264 := CHr.wr W264 SFl260_a1 C260.1
  have C264 := C260.trans cs264
  have hks264 := Nat.le_trans hkn260 cs264.2.1
  have r265 : Steps p.tables e below S0 (T264.setTop (mkF m 26 #[.val (.ref a1), .val (.ref b1), .val (.int p1), .val (.int p2), .val .null, .unset] [])) := r263.trans (st264 _ (Steps.refl _))
  obtain ⟨fs, hr, hrun, hended, hRW⟩ := X264.leaveW hSn260 (by rw [e264]; exact hks264) (v := none) (fun _ => rfl)
  refine ⟨_, _, pre0 _ ?_, hrun, hended, _, _, rfl, ?_, ?_, hRW.1, hRW.2.1, hRW.2.2.1, hRW.2.2.2.mono (by decide) (by decide)⟩
  · rw [← hS0]
    refine r265.trans ?_
    show Steps p.tables e below (T264.setTop (mkF m 26 #[.val (.ref a1), .val (.ref b1), .val (.int p1), .val (.int p2), .val .null, .unset] [])) _
    exact X264.returnOut hx Bd.returns (hb hby d3_26) hr
  · show QmE2 Z a1 b1 p1 p2 h0 n0 _ T264.heap _; rw [e264]; exact ⟨rfl, N264, K264, qb, qk, E264_a1, F264_a1_coder, F264_a1_value, V264_qb⟩
  · show CHr Z consts_1 s.vm s.heap T264.vm T264.heap; rw [e264]; rw [hh]; exact C264.trans (CHv.at X264 hZ hEL C264.1)
theorem pn_2 : plainName "java/lang/String" = true := by first | (simp [plainName, overriddenIn]; done) | decide +kernel
theorem ef_2 (m : MethodId) (x0 : Addr) (x1 : Addr) : entryFrame m #[(.ref x0), (.ref x1)] 2 = mkF m 0 #[.val (.ref x0), .val (.ref x1)] [] := by first | (simp [entryFrame, mkF, argsToLocals, Value.category]; done) | rfl
def QmE1 (Z : State) (a1 : Addr) (b1 : Addr) (kc : ClassId) (vs : List Value) (dv : Value) (h0 : Heap) (n0 : Nat) (v : Option Value) (h : Heap) (L : List Loc) : Prop := v = none ∧ Fr n0 L ∧ Keep h0 h [a1] ∧ ∃ (b : Addr) (k : ClassId), StrAt Z h a1 b k []
set_option maxRecDepth 65536 in
set_option maxHeartbeats 40000000 in
theorem rmE1 (l : Launch) (Z : State) (a0 : Array Value) (hw : ∀ d ∈ tables_1, d.before a0 Z = true) (ws : List Jvm.Cond) (a1 : Addr) (b1 : Addr) (kc : ClassId) (vs : List Value) (dv : Value) (h0 : Heap) (n0 : Nat) (Z0 : n0 ≤ h0.size) (E1 : Exa Z h0 a1 "java/lang/String") (Fv1 : Fld Z h0 a1 "java/lang/String" "value" "[B" .null) (Fc1 : Fld Z h0 a1 "java/lang/String" "coder" "B" (.int (0 : Int32))) (g_a1 : n0 ≤ a1) (Ab : Arv Z h0 b1 kc .char 0 vs dv) (hEL : EW Z a0 consts_1) :
    MetFree l (⟨"java/lang/String", "<init>", "([C)V"⟩ : MethodName) (head1 (Jvm.Cond.code (⟨"java/lang/String", "<init>", "([C)V"⟩ : MethodName) jdk_42_method_3_code 2 none :: ws) ({ frames := 2, cells := 4, slots := 8, locals := 30 } : Room)) (fun a U => a = #[(.ref a1), (.ref b1)] ∧ Z.Warmed39 U.vm ∧ U.heap = h0 ∧ CHv Z consts_1 U.vm h0) (fun _ _ _ _ _ => True) (fun _ U o U' => ∃ v L, o = .returned v ∧ QmE1 Z a1 b1 kc vs dv h0 n0 v U'.heap L ∧ CHr Z consts_1 U.vm U.heap U'.vm U'.heap ∧ ReturnedEndW U o U' L ({ frames := 2, cells := 4, slots := 8, locals := 30 } : Room).cells ({ frames := 2, cells := 4, slots := 8, locals := 30 } : Room).slots) := by
  refine MetFree.of_bodySF (plainFor_of_name pn_2) hisR ?_
  intro p e s m args below meth c s₁ Bd hml0 hP hK
  obtain ⟨rfl, hZ, hh, hCH⟩ := hP
  have hst : ∀ d ∈ Bundle.stringAtoms, d.before a0 Z = true := fun d hd => hw d ((by decide +kernel : ∀ d ∈ Bundle.stringAtoms, d ∈ tables_1) d hd)
  have hx := Bd.exec
  have hby := Bd.bytes
  have hml : c.maxLocals = 2 := hml0
  have hown : s.vm.findClass "java/lang/String" = some m.cls := findClass_of_methodNamed Bd.named
  have hnm := (name_of_methodNamed Bd.named Bd.method).1
  have X0 : Stand p l e ({ frames := 2, cells := 4, slots := 8, locals := 30 } : Room) s m #[(.ref a1), (.ref b1)] below meth c s₁ [] 0 0 := Stand.of_body Bd
  have e0 : s₁.heap = h0 := by rw [← hh, Bd.state]; rfl
  have N0 := Fr.nil n0
  have pre0 : ∀ t, Steps p.tables e below (s₁.setTop (mkF m 0 #[.val (.ref a1), .val (.ref b1)] [])) t → Steps p.tables e below (s₁.setTop (entryFrame m #[(.ref a1), (.ref b1)] 2)) t := fun t_ k_ => castTop (ef_2 m a1 b1) k_
  obtain ⟨S0, hS0⟩ : ∃ z, z = s₁.setTop (mkF m 0 #[.val (.ref a1), .val (.ref b1)] []) := ⟨_, rfl⟩
  have r0 : Steps p.tables e below S0 (s₁.setTop (mkF m 0 #[.val (.ref a1), .val (.ref b1)] [])) := by rw [hS0]; exact Steps.refl _
  have hC0 := CHv.at (vm0 := s.vm) (s := s) X0 hZ hEL hCH
  have hS0_ : s.Since s₁.vm 0 := X0.warmed.since 0
  have hZ0_ : Z.Warmed39 (s.setVm s₁.vm).vm := wtrans hZ X0.warmed
  have hown0_ : (s.setVm s₁.vm).vm.findClass "java/lang/String" = some m.cls := by rw [show (s.setVm s₁.vm).vm = s₁.vm from rfl, X0.warmed.alike.findClass]; exact hown
  have Xs : Stand p l e ({ frames := 2, cells := 4, slots := 8, locals := 30 } : Room) (s.setVm s₁.vm) m #[(.ref a1), (.ref b1)] below meth c s₁ [] 0 0 := X0.retabled X0.warmed.wide
  have hZ := hZ0_
  have hown := hown0_
  have r266 : Steps p.tables e below S0 (s₁.setTop (mkF m 6 #[.val (.ref a1), .val (.ref b1)] [.null, (.int (0 : Int32)), (.int (0 : Int32)), (.ref b1), (.ref a1)])) := by
    refine r0.trans ?_
    show Steps p.tables e below (s₁.setTop (mkF m 0 #[.val (.ref a1), .val (.ref b1)] [])) _
    refine XS.aloadN Xs.here hx rfl (hb hby d2_0) rfl rfl ?_
    show Steps p.tables e below (s₁.setTop (mkF m 1 #[.val (.ref a1), .val (.ref b1)] [(.ref a1)])) _
    refine XS.aloadN Xs.here hx rfl (hb hby d2_1) rfl rfl ?_
    show Steps p.tables e below (s₁.setTop (mkF m 2 #[.val (.ref a1), .val (.ref b1)] [(.ref b1), (.ref a1)])) _
    refine XS.iconst Xs.here hx rfl (hb hby d2_2) ?_
    show Steps p.tables e below (s₁.setTop (mkF m 3 #[.val (.ref a1), .val (.ref b1)] [(.int (0 : Int32)), (.ref b1), (.ref a1)])) _
    refine XS.aloadN Xs.here hx rfl (hb hby d2_3) rfl rfl ?_
    show Steps p.tables e below (s₁.setTop (mkF m 4 #[.val (.ref a1), .val (.ref b1)] [(.ref b1), (.int (0 : Int32)), (.ref b1), (.ref a1)])) _
    refine lnV Xs hx hZ e0 Ab (g := (mkF m 4 #[.val (.ref a1), .val (.ref b1)] [(.ref b1), (.int (0 : Int32)), (.ref b1), (.ref a1)])) rfl rfl (hb hby d2_4) _ ?_
    show Steps p.tables e below (s₁.setTop (mkF m 5 #[.val (.ref a1), .val (.ref b1)] [(.int (0 : Int32)), (.int (0 : Int32)), (.ref b1), (.ref a1)])) _
    refine XS.aconstNull Xs.here hx rfl (hb hby d2_5) ?_
    exact Steps.refl _
  obtain ⟨_, _, ⟨T267, L267, k267, n267⟩, -, X267, hS267, hge267, ⟨Lc267, hQ267, l267, y267, z267, hC267⟩, st267⟩ := Xs.specialBackS hx (y := (⟨"java/lang/String", "<init>", "([CIILjava/lang/Void;)V"⟩ : MethodName)) rfl hown (mvT hZ (hw _ (List.mem_of_getElem? (i := 11) rfl))) (mvT hZ (hw _ (List.mem_of_getElem? (i := 12) rfl))) (mvT hZ (hw _ (List.mem_of_getElem? (i := 14) rfl))) (by decide) (backOfSH (W := 0) (rmE2 l Z a0 hw [] a1 b1 (0 : Int32) (0 : Int32) h0 n0 Z0 E1 Fv1 Fc1 g_a1 rfl hEL) hZ (hw _ (List.mem_of_getElem? (i := 14) rfl)) (hw _ (List.mem_of_getElem? (i := 6) rfl)) (by decide) (by decide) hEL hC0.1) (g := (mkF m 6 #[.val (.ref a1), .val (.ref b1)] [.null, (.int (0 : Int32)), (.int (0 : Int32)), (.ref b1), (.ref a1)])) rfl (by rw [hml]; rfl) (Steps.refl _) (a := a1) (argsL := [(.ref b1), (.int (0 : Int32)), (.int (0 : Int32)), .null]) (rest := []) (lenOf pd_16 rfl) rfl (by show 2 * 0 + _ ≤ _; exact Nat.le_of_eq rfl) (hb hby d2_6) (fun _ _ => ⟨rfl, e0, (by decide : 0 + 4 ≤ _), (by decide : 0 + 8 ≤ _)⟩)
  dsimp only [Pt.U, Pt.locs, Pt.cells, Pt.slots] at hS267 hge267 hC267
  dsimp only [Pt.U, Pt.locs, Pt.cells, Pt.slots] at X267 l267 y267 z267 st267 hQ267
  subst l267 y267 z267
  obtain ⟨rfl, Nq267, Kc267, hR267⟩ := hQ267
  have N267 := Fr.app N0 Nq267
  have r268 : Steps p.tables e below S0 (T267.setTop (mkF m 9 #[.val (.ref a1), .val (.ref b1)] [])) := r266.trans st267
  obtain ⟨hSn267, hZn267, hownn267⟩ := afterS (T := s₁) hZ hown hS0_ (by rw [e0]; exact (Nat.zero_le _)) hS267 hge267
  have hZ := hZn267
  have hown := hownn267
  have X267 : Stand p l e ({ frames := 2, cells := 4, slots := 8, locals := 30 } : Room) (s.setVm T267.vm) m #[(.ref a1), (.ref b1)] below meth c T267 _ _ _ := X267
  have C267 := hC0.trans hC267
  obtain ⟨fs, hr, hrun, hended, hRW⟩ := X267.leaveW hSn267 (Nat.le_refl _) (v := none) (fun _ => rfl)
  refine ⟨_, _, pre0 _ ?_, hrun, hended, _, _, rfl, ?_, ?_, hRW.1, hRW.2.1, hRW.2.2.1, hRW.2.2.2.mono (by decide) (by decide)⟩
  · rw [← hS0]
    refine r268.trans ?_
    show Steps p.tables e below (T267.setTop (mkF m 9 #[.val (.ref a1), .val (.ref b1)] [])) _
    exact X267.returnOut hx Bd.returns (hb hby d2_9) hr
  · show QmE1 Z a1 b1 kc vs dv h0 n0 _ T267.heap _; exact ⟨rfl, N267, Kc267, hR267⟩
  · show CHr Z consts_1 s.vm s.heap T267.vm T267.heap; rw [hh]; exact C267.trans (CHv.at X267 hZ hEL C267.1)
theorem pn_1 : plainName "com/example/spectraloom/spectraloom/model/LinkToStringPinLaw" = true := by first | (simp [plainName, overriddenIn]; done) | decide +kernel
theorem ef_1 (m : MethodId) (x0 : Int32) : entryFrame m #[(.int x0)] 4 = mkF m 0 #[.val (.int x0), .unset, .unset, .unset] [] := by first | (simp [entryFrame, mkF, argsToLocals, Value.category]; done) | rfl
def QmMk (Z : State) (p1 : Int32) (cz : Int32) (h0 : Heap) (n0 : Nat) (v : Option Value) (h : Heap) (L : List Loc) : Prop := ∃ (v1 : Value) (b : Addr) (k : ClassId) (cs : List Int32), v = some v1 ∧ Fr n0 L ∧ Keep h0 h [] ∧ NS Z h v1 b k cs ∧ LatN 4 cs
set_option maxRecDepth 65536 in
set_option maxHeartbeats 40000000 in
theorem rmMk (l : Launch) (Z : State) (a0 : Array Value) (hw : ∀ d ∈ tables_1, d.before a0 Z = true) (ws : List Jvm.Cond) (p1 : Int32) (cz : Int32) (h0 : Heap) (n0 : Nat) (Z0 : n0 ≤ h0.size) (O0 : Old Z n0 h0) (Sc : Sta Z Z.heap "java/lang/String" "COMPACT_STRINGS" "Z" (.int cz)) (hcz : ¬ cz = 0) (hEL : EW Z a0 consts_1) :
    MetFree l (⟨"com/example/spectraloom/spectraloom/model/LinkToStringPinLaw", "mk", "(I)Ljava/lang/String;"⟩ : MethodName) (head1 (Jvm.Cond.code (⟨"com/example/spectraloom/spectraloom/model/LinkToStringPinLaw", "mk", "(I)Ljava/lang/String;"⟩ : MethodName) method_2_code 4 (some (.object "java/lang/String")) :: ws) ({ frames := 4, cells := 6, slots := 32, locals := 70 } : Room)) (fun a U => a = #[(.int p1)] ∧ Z.Warmed39 U.vm ∧ U.heap = h0 ∧ CHv Z consts_1 U.vm h0) (fun _ _ _ _ _ => True) (fun _ U o U' => ∃ v L, o = .returned v ∧ QmMk Z p1 cz h0 n0 v U'.heap L ∧ CHr Z consts_1 U.vm U.heap U'.vm U'.heap ∧ ReturnedEndW U o U' L ({ frames := 4, cells := 6, slots := 32, locals := 70 } : Room).cells ({ frames := 4, cells := 6, slots := 32, locals := 70 } : Room).slots) := by
  refine MetFree.of_bodySF (plainFor_of_name pn_1) hisR ?_
  intro p e s m args below meth c s₁ Bd hml0 hP hK
  obtain ⟨rfl, hZ, hh, hCH⟩ := hP
  have hst : ∀ d ∈ Bundle.stringAtoms, d.before a0 Z = true := fun d hd => hw d ((by decide +kernel : ∀ d ∈ Bundle.stringAtoms, d ∈ tables_1) d hd)
  have hx := Bd.exec
  have hby := Bd.bytes
  have hml : c.maxLocals = 4 := hml0
  have hown : s.vm.findClass "com/example/spectraloom/spectraloom/model/LinkToStringPinLaw" = some m.cls := findClass_of_methodNamed Bd.named
  have hnm := (name_of_methodNamed Bd.named Bd.method).1
  have X0 : Stand p l e ({ frames := 4, cells := 6, slots := 32, locals := 70 } : Room) s m #[(.int p1)] below meth c s₁ [] 0 0 := Stand.of_body Bd
  have e0 : s₁.heap = h0 := by rw [← hh, Bd.state]; rfl
  have N0 := Fr.nil n0
  have pre0 : ∀ t, Steps p.tables e below (s₁.setTop (mkF m 0 #[.val (.int p1), .unset, .unset, .unset] [])) t → Steps p.tables e below (s₁.setTop (entryFrame m #[(.int p1)] 4)) t := fun t_ k_ => castTop (ef_1 m p1) k_
  obtain ⟨S0, hS0⟩ : ∃ z, z = s₁.setTop (mkF m 0 #[.val (.int p1), .unset, .unset, .unset] []) := ⟨_, rfl⟩
  have r0 : Steps p.tables e below S0 (s₁.setTop (mkF m 0 #[.val (.int p1), .unset, .unset, .unset] [])) := by rw [hS0]; exact Steps.refl _
  have K0 := Keep.refl h0 []
  have hws : ∀ d ∈ StrChars.Road.words, d.before a0 Z = true := fun d hd => hw d ((by decide +kernel : ∀ d ∈ StrChars.Road.words, d ∈ tables_1) d hd)
  have hC0 := CHv.at (vm0 := s.vm) (s := s) X0 hZ hEL hCH
  have hS0_ : s.Since s₁.vm 0 := X0.warmed.since 0
  have hZ0_ : Z.Warmed39 (s.setVm s₁.vm).vm := wtrans hZ X0.warmed
  have hown0_ : (s.setVm s₁.vm).vm.findClass "com/example/spectraloom/spectraloom/model/LinkToStringPinLaw" = some m.cls := by rw [show (s.setVm s₁.vm).vm = s₁.vm from rfl, X0.warmed.alike.findClass]; exact hown
  have Xs : Stand p l e ({ frames := 4, cells := 6, slots := 32, locals := 70 } : Room) (s.setVm s₁.vm) m #[(.int p1)] below meth c s₁ [] 0 0 := X0.retabled X0.warmed.wide
  have hZ := hZ0_
  have hown := hown0_
  have r269 : Steps p.tables e below S0 (s₁.setTop (mkF m 24 #[.val (.int p1), .val (.int (((p1.toUInt32 >>> ((16 : Int32) &&& 31).toUInt32).toInt32) &&& (3 : Int32))), .val (.int ((p1 &&& (255 : Int32)).toUInt32.toUInt16.toUInt32.toInt32)), .val (.int ((((p1.toUInt32 >>> ((8 : Int32) &&& 31).toUInt32).toInt32) &&& (255 : Int32)).toUInt32.toUInt16.toUInt32.toInt32))] [])) := by
    refine r0.trans ?_
    show Steps p.tables e below (s₁.setTop (mkF m 0 #[.val (.int p1), .unset, .unset, .unset] [])) _
    refine XS.iloadN Xs.here hx rfl (hb hby d1_0) rfl ?_
    show Steps p.tables e below (s₁.setTop (mkF m 1 #[.val (.int p1), .unset, .unset, .unset] [(.int p1)])) _
    refine XS.bipush Xs.here hx rfl (hb hby d1_1) ?_
    show Steps p.tables e below (s₁.setTop (mkF m 3 #[.val (.int p1), .unset, .unset, .unset] [(.int (16 : Int32)), (.int p1)])) _
    refine XS.iushr Xs.here hx rfl (hb hby d1_3) rfl ?_
    show Steps p.tables e below (s₁.setTop (mkF m 4 #[.val (.int p1), .unset, .unset, .unset] [(.int ((p1.toUInt32 >>> ((16 : Int32) &&& 31).toUInt32).toInt32))])) _
    refine XS.iconst Xs.here hx rfl (hb hby d1_4) ?_
    show Steps p.tables e below (s₁.setTop (mkF m 5 #[.val (.int p1), .unset, .unset, .unset] [(.int (3 : Int32)), (.int ((p1.toUInt32 >>> ((16 : Int32) &&& 31).toUInt32).toInt32))])) _
    refine XS.iand Xs.here hx rfl (hb hby d1_5) rfl ?_
    show Steps p.tables e below (s₁.setTop (mkF m 6 #[.val (.int p1), .unset, .unset, .unset] [(.int (((p1.toUInt32 >>> ((16 : Int32) &&& 31).toUInt32).toInt32) &&& (3 : Int32)))])) _
    refine XS.istoreN Xs.here hx rfl (hb hby d1_6) rfl (l' := #[.val (.int p1), .val (.int (((p1.toUInt32 >>> ((16 : Int32) &&& 31).toUInt32).toInt32) &&& (3 : Int32))), .unset, .unset]) rfl ?_
    show Steps p.tables e below (s₁.setTop (mkF m 7 #[.val (.int p1), .val (.int (((p1.toUInt32 >>> ((16 : Int32) &&& 31).toUInt32).toInt32) &&& (3 : Int32))), .unset, .unset] [])) _
    refine XS.iloadN Xs.here hx rfl (hb hby d1_7) rfl ?_
    show Steps p.tables e below (s₁.setTop (mkF m 8 #[.val (.int p1), .val (.int (((p1.toUInt32 >>> ((16 : Int32) &&& 31).toUInt32).toInt32) &&& (3 : Int32))), .unset, .unset] [(.int p1)])) _
    refine XS.sipush Xs.here hx rfl (hb hby d1_8) ?_
    show Steps p.tables e below (s₁.setTop (mkF m 11 #[.val (.int p1), .val (.int (((p1.toUInt32 >>> ((16 : Int32) &&& 31).toUInt32).toInt32) &&& (3 : Int32))), .unset, .unset] [(.int (255 : Int32)), (.int p1)])) _
    refine XS.iand Xs.here hx rfl (hb hby d1_11) rfl ?_
    show Steps p.tables e below (s₁.setTop (mkF m 12 #[.val (.int p1), .val (.int (((p1.toUInt32 >>> ((16 : Int32) &&& 31).toUInt32).toInt32) &&& (3 : Int32))), .unset, .unset] [(.int (p1 &&& (255 : Int32)))])) _
    refine XS.i2c Xs.here hx rfl (hb hby d1_12) rfl ?_
    show Steps p.tables e below (s₁.setTop (mkF m 13 #[.val (.int p1), .val (.int (((p1.toUInt32 >>> ((16 : Int32) &&& 31).toUInt32).toInt32) &&& (3 : Int32))), .unset, .unset] [(.int ((p1 &&& (255 : Int32)).toUInt32.toUInt16.toUInt32.toInt32))])) _
    refine XS.istoreN Xs.here hx rfl (hb hby d1_13) rfl (l' := #[.val (.int p1), .val (.int (((p1.toUInt32 >>> ((16 : Int32) &&& 31).toUInt32).toInt32) &&& (3 : Int32))), .val (.int ((p1 &&& (255 : Int32)).toUInt32.toUInt16.toUInt32.toInt32)), .unset]) rfl ?_
    show Steps p.tables e below (s₁.setTop (mkF m 14 #[.val (.int p1), .val (.int (((p1.toUInt32 >>> ((16 : Int32) &&& 31).toUInt32).toInt32) &&& (3 : Int32))), .val (.int ((p1 &&& (255 : Int32)).toUInt32.toUInt16.toUInt32.toInt32)), .unset] [])) _
    refine XS.iloadN Xs.here hx rfl (hb hby d1_14) rfl ?_
    show Steps p.tables e below (s₁.setTop (mkF m 15 #[.val (.int p1), .val (.int (((p1.toUInt32 >>> ((16 : Int32) &&& 31).toUInt32).toInt32) &&& (3 : Int32))), .val (.int ((p1 &&& (255 : Int32)).toUInt32.toUInt16.toUInt32.toInt32)), .unset] [(.int p1)])) _
    refine XS.bipush Xs.here hx rfl (hb hby d1_15) ?_
    show Steps p.tables e below (s₁.setTop (mkF m 17 #[.val (.int p1), .val (.int (((p1.toUInt32 >>> ((16 : Int32) &&& 31).toUInt32).toInt32) &&& (3 : Int32))), .val (.int ((p1 &&& (255 : Int32)).toUInt32.toUInt16.toUInt32.toInt32)), .unset] [(.int (8 : Int32)), (.int p1)])) _
    refine XS.iushr Xs.here hx rfl (hb hby d1_17) rfl ?_
    show Steps p.tables e below (s₁.setTop (mkF m 18 #[.val (.int p1), .val (.int (((p1.toUInt32 >>> ((16 : Int32) &&& 31).toUInt32).toInt32) &&& (3 : Int32))), .val (.int ((p1 &&& (255 : Int32)).toUInt32.toUInt16.toUInt32.toInt32)), .unset] [(.int ((p1.toUInt32 >>> ((8 : Int32) &&& 31).toUInt32).toInt32))])) _
    refine XS.sipush Xs.here hx rfl (hb hby d1_18) ?_
    show Steps p.tables e below (s₁.setTop (mkF m 21 #[.val (.int p1), .val (.int (((p1.toUInt32 >>> ((16 : Int32) &&& 31).toUInt32).toInt32) &&& (3 : Int32))), .val (.int ((p1 &&& (255 : Int32)).toUInt32.toUInt16.toUInt32.toInt32)), .unset] [(.int (255 : Int32)), (.int ((p1.toUInt32 >>> ((8 : Int32) &&& 31).toUInt32).toInt32))])) _
    refine XS.iand Xs.here hx rfl (hb hby d1_21) rfl ?_
    show Steps p.tables e below (s₁.setTop (mkF m 22 #[.val (.int p1), .val (.int (((p1.toUInt32 >>> ((16 : Int32) &&& 31).toUInt32).toInt32) &&& (3 : Int32))), .val (.int ((p1 &&& (255 : Int32)).toUInt32.toUInt16.toUInt32.toInt32)), .unset] [(.int (((p1.toUInt32 >>> ((8 : Int32) &&& 31).toUInt32).toInt32) &&& (255 : Int32)))])) _
    refine XS.i2c Xs.here hx rfl (hb hby d1_22) rfl ?_
    show Steps p.tables e below (s₁.setTop (mkF m 23 #[.val (.int p1), .val (.int (((p1.toUInt32 >>> ((16 : Int32) &&& 31).toUInt32).toInt32) &&& (3 : Int32))), .val (.int ((p1 &&& (255 : Int32)).toUInt32.toUInt16.toUInt32.toInt32)), .unset] [(.int ((((p1.toUInt32 >>> ((8 : Int32) &&& 31).toUInt32).toInt32) &&& (255 : Int32)).toUInt32.toUInt16.toUInt32.toInt32))])) _
    refine XS.istoreN Xs.here hx rfl (hb hby d1_23) rfl (l' := #[.val (.int p1), .val (.int (((p1.toUInt32 >>> ((16 : Int32) &&& 31).toUInt32).toInt32) &&& (3 : Int32))), .val (.int ((p1 &&& (255 : Int32)).toUInt32.toUInt16.toUInt32.toInt32)), .val (.int ((((p1.toUInt32 >>> ((8 : Int32) &&& 31).toUInt32).toInt32) &&& (255 : Int32)).toUInt32.toUInt16.toUInt32.toInt32))]) rfl ?_
    exact Steps.refl _
  obtain ⟨nn, hnn⟩ : ∃ z, z = (((p1.toUInt32 >>> ((16 : Int32) &&& 31).toUInt32).toInt32) &&& (3 : Int32)) := ⟨_, rfl⟩
  have r270 : Steps p.tables e below S0 (s₁.setTop (mkF m 24 #[.val (.int p1), .val (.int nn), .val (.int ((p1 &&& (255 : Int32)).toUInt32.toUInt16.toUInt32.toInt32)), .val (.int ((((p1.toUInt32 >>> ((8 : Int32) &&& 31).toUInt32).toInt32) &&& (255 : Int32)).toUInt32.toUInt16.toUInt32.toInt32))] [])) := by rw [hnn]; exact r269
  have hn4 := own_sel4 nn (by rw [hnn]; exact own_m3 _)
  rcases hn4 with z | z | z | z
  · skip
    have r271 : Steps p.tables e below S0 (s₁.setTop (mkF m 30 #[.val (.int p1), .val (.int nn), .val (.int ((p1 &&& (255 : Int32)).toUInt32.toUInt16.toUInt32.toInt32)), .val (.int ((((p1.toUInt32 >>> ((8 : Int32) &&& 31).toUInt32).toInt32) &&& (255 : Int32)).toUInt32.toUInt16.toUInt32.toInt32))] [.null])) := by
      refine r270.trans ?_
      show Steps p.tables e below (s₁.setTop (mkF m 24 #[.val (.int p1), .val (.int nn), .val (.int ((p1 &&& (255 : Int32)).toUInt32.toUInt16.toUInt32.toInt32)), .val (.int ((((p1.toUInt32 >>> ((8 : Int32) &&& 31).toUInt32).toInt32) &&& (255 : Int32)).toUInt32.toUInt16.toUInt32.toInt32))] [])) _
      refine XS.iloadN Xs.here hx rfl (hb hby d1_24) rfl ?_
      show Steps p.tables e below (s₁.setTop (mkF m 25 #[.val (.int p1), .val (.int nn), .val (.int ((p1 &&& (255 : Int32)).toUInt32.toUInt16.toUInt32.toInt32)), .val (.int ((((p1.toUInt32 >>> ((8 : Int32) &&& 31).toUInt32).toInt32) &&& (255 : Int32)).toUInt32.toUInt16.toUInt32.toInt32))] [(.int nn)])) _
      refine XS.iconst Xs.here hx rfl (hb hby d1_25) ?_
      show Steps p.tables e below (s₁.setTop (mkF m 26 #[.val (.int p1), .val (.int nn), .val (.int ((p1 &&& (255 : Int32)).toUInt32.toUInt16.toUInt32.toInt32)), .val (.int ((((p1.toUInt32 >>> ((8 : Int32) &&& 31).toUInt32).toInt32) &&& (255 : Int32)).toUInt32.toUInt16.toUInt32.toInt32))] [(.int (3 : Int32)), (.int nn)])) _
      refine XS.icmpNo Xs.here hx rfl (hb hby d1_26) rfl (teq (by rw [z] <;> decide)).2 ?_
      show Steps p.tables e below (s₁.setTop (mkF m 29 #[.val (.int p1), .val (.int nn), .val (.int ((p1 &&& (255 : Int32)).toUInt32.toUInt16.toUInt32.toInt32)), .val (.int ((((p1.toUInt32 >>> ((8 : Int32) &&& 31).toUInt32).toInt32) &&& (255 : Int32)).toUInt32.toUInt16.toUInt32.toInt32))] [])) _
      refine XS.aconstNull Xs.here hx rfl (hb hby d1_29) ?_
      exact Steps.refl _
    obtain ⟨fs, hr, hrun, hended, hRW⟩ := Xs.leaveW hS0_ (by rw [e0]; exact (Nat.zero_le _)) (v := some .null) (fun h => by rw [Bd.returns] at h; cases h)
    refine ⟨_, _, pre0 _ ?_, hrun, hended, _, _, rfl, ?_, ?_, hRW.1, hRW.2.1, hRW.2.2.1, hRW.2.2.2.mono (by decide) (by decide)⟩
    · rw [← hS0]
      refine r271.trans ?_
      show Steps p.tables e below (s₁.setTop (mkF m 30 #[.val (.int p1), .val (.int nn), .val (.int ((p1 &&& (255 : Int32)).toUInt32.toUInt16.toUInt32.toInt32)), .val (.int ((((p1.toUInt32 >>> ((8 : Int32) &&& 31).toUInt32).toInt32) &&& (255 : Int32)).toUInt32.toUInt16.toUInt32.toInt32))] [.null])) _
      jvm_step Xs.here [Xs.here.top, hx, (hb hby d1_30), Xs.method', Bd.returns, Value.isRef, FieldType.isReference]
      first | (intro acts; rw [hr _ acts rfl rfl rfl]) | rw [hr _ _ rfl rfl rfl]
      exact Steps.refl _
    · show QmMk Z p1 cz h0 n0 _ s₁.heap _; rw [e0]; exact ⟨.null, 0, 0, nulls, rfl, N0, K0, Or.inl ⟨rfl, rfl⟩, own_latn⟩
    · show CHr Z consts_1 s.vm s.heap s₁.vm s₁.heap; rw [e0]; rw [hh]; exact hC0.trans (CHv.at Xs hZ hEL hC0.1)
  · skip
    have r272 : Steps p.tables e below S0 (s₁.setTop (mkF m 35 #[.val (.int p1), .val (.int nn), .val (.int ((p1 &&& (255 : Int32)).toUInt32.toUInt16.toUInt32.toInt32)), .val (.int ((((p1.toUInt32 >>> ((8 : Int32) &&& 31).toUInt32).toInt32) &&& (255 : Int32)).toUInt32.toUInt16.toUInt32.toInt32))] [])) := by
      refine r270.trans ?_
      show Steps p.tables e below (s₁.setTop (mkF m 24 #[.val (.int p1), .val (.int nn), .val (.int ((p1 &&& (255 : Int32)).toUInt32.toUInt16.toUInt32.toInt32)), .val (.int ((((p1.toUInt32 >>> ((8 : Int32) &&& 31).toUInt32).toInt32) &&& (255 : Int32)).toUInt32.toUInt16.toUInt32.toInt32))] [])) _
      refine XS.iloadN Xs.here hx rfl (hb hby d1_24) rfl ?_
      show Steps p.tables e below (s₁.setTop (mkF m 25 #[.val (.int p1), .val (.int nn), .val (.int ((p1 &&& (255 : Int32)).toUInt32.toUInt16.toUInt32.toInt32)), .val (.int ((((p1.toUInt32 >>> ((8 : Int32) &&& 31).toUInt32).toInt32) &&& (255 : Int32)).toUInt32.toUInt16.toUInt32.toInt32))] [(.int nn)])) _
      refine XS.iconst Xs.here hx rfl (hb hby d1_25) ?_
      show Steps p.tables e below (s₁.setTop (mkF m 26 #[.val (.int p1), .val (.int nn), .val (.int ((p1 &&& (255 : Int32)).toUInt32.toUInt16.toUInt32.toInt32)), .val (.int ((((p1.toUInt32 >>> ((8 : Int32) &&& 31).toUInt32).toInt32) &&& (255 : Int32)).toUInt32.toUInt16.toUInt32.toInt32))] [(.int (3 : Int32)), (.int nn)])) _
      refine XS.icmpYes Xs.here hx rfl (pc0 := 26) (pc' := 31) rfl (hb hby d1_26) rfl (feq (by rw [z] <;> decide)).2 (by decide) (by decide) ?_
      show Steps p.tables e below (s₁.setTop (mkF m 31 #[.val (.int p1), .val (.int nn), .val (.int ((p1 &&& (255 : Int32)).toUInt32.toUInt16.toUInt32.toInt32)), .val (.int ((((p1.toUInt32 >>> ((8 : Int32) &&& 31).toUInt32).toInt32) &&& (255 : Int32)).toUInt32.toUInt16.toUInt32.toInt32))] [])) _
      refine XS.iloadN Xs.here hx rfl (hb hby d1_31) rfl ?_
      show Steps p.tables e below (s₁.setTop (mkF m 32 #[.val (.int p1), .val (.int nn), .val (.int ((p1 &&& (255 : Int32)).toUInt32.toUInt16.toUInt32.toInt32)), .val (.int ((((p1.toUInt32 >>> ((8 : Int32) &&& 31).toUInt32).toInt32) &&& (255 : Int32)).toUInt32.toUInt16.toUInt32.toInt32))] [(.int nn)])) _
      refine XS.ifNo Xs.here hx rfl (hb hby d1_32) rfl ((if0 _ _).trans (teq (by rw [z] <;> decide)).2) ?_
      exact Steps.refl _
    obtain ⟨T273, h273, X273, e273, E273, A273, D273, -, st273⟩ := newO Xs hx hZ hown (hw _ (List.mem_of_getElem? (i := 4) rfl)) (hw _ (List.mem_of_getElem? (i := 5) rfl)) (hw _ (List.mem_of_getElem? (i := 6) rfl)) e0 (g := (mkF m 35 #[.val (.int p1), .val (.int nn), .val (.int ((p1 &&& (255 : Int32)).toUInt32.toUInt16.toUInt32.toInt32)), .val (.int ((((p1.toUInt32 >>> ((8 : Int32) &&& 31).toUInt32).toInt32) &&& (255 : Int32)).toUInt32.toUInt16.toUInt32.toInt32))] [])) rfl (hb hby d1_35) (by decide) (by decide)
    obtain ⟨x1, g273⟩ : ∃ z, z = h0.size := ⟨_, rfl⟩
    rw [← g273] at A273 D273 st273
    have SF0_x1 : Safe Z consts_1 s₁.vm h0 x1 := Safe.new (Nat.le_of_eq g273.symm)
    have g_x1 : n0 ≤ x1 := Nat.le_trans Z0 (Nat.le_of_eq g273.symm)
    have sz_x1 : h0.size ≤ x1 := Nat.le_trans K0.1 (Nat.le_of_eq g273.symm)
    have Z273 : n0 ≤ h273.size := Nat.le_trans Z0 E273.1
    have K273 := K0.ext E273
    have O273 := O0.ext E273
    have SF273_x1 := Safe.ext E273 hC0.1 SF0_x1
    have cs273 := CHr.ext E273 hC0.1
    have C273 := hC0.trans cs273
    have hks273 := Nat.le_trans (Nat.zero_le _) cs273.2.1
    have F_x1_value : Fld Z h273 x1 "java/lang/String" "value" "[B" .null := D273 (Or.inr (hw _ (List.mem_of_getElem? (i := 20) rfl))) (ty := (.array .byte)) (by decide)
    have F_x1_coder : Fld Z h273 x1 "java/lang/String" "coder" "B" (.int (0 : Int32)) := D273 (Or.inr (hw _ (List.mem_of_getElem? (i := 21) rfl))) (ty := .byte) (by decide)
    have r274 : Steps p.tables e below S0 (T273.setTop (mkF m 38 #[.val (.int p1), .val (.int nn), .val (.int ((p1 &&& (255 : Int32)).toUInt32.toUInt16.toUInt32.toInt32)), .val (.int ((((p1.toUInt32 >>> ((8 : Int32) &&& 31).toUInt32).toInt32) &&& (255 : Int32)).toUInt32.toUInt16.toUInt32.toInt32))] [(.ref x1)])) := r272.trans (st273 _ (Steps.refl _))
    have r275 : Steps p.tables e below S0 (T273.setTop (mkF m 40 #[.val (.int p1), .val (.int nn), .val (.int ((p1 &&& (255 : Int32)).toUInt32.toUInt16.toUInt32.toInt32)), .val (.int ((((p1.toUInt32 >>> ((8 : Int32) &&& 31).toUInt32).toInt32) &&& (255 : Int32)).toUInt32.toUInt16.toUInt32.toInt32))] [(.int (0 : Int32)), (.ref x1), (.ref x1)])) := by
      refine r274.trans ?_
      show Steps p.tables e below (T273.setTop (mkF m 38 #[.val (.int p1), .val (.int nn), .val (.int ((p1 &&& (255 : Int32)).toUInt32.toUInt16.toUInt32.toInt32)), .val (.int ((((p1.toUInt32 >>> ((8 : Int32) &&& 31).toUInt32).toInt32) &&& (255 : Int32)).toUInt32.toUInt16.toUInt32.toInt32))] [(.ref x1)])) _
      refine XS.dup X273.here hx rfl (hb hby d1_38) rfl rfl ?_
      show Steps p.tables e below (T273.setTop (mkF m 39 #[.val (.int p1), .val (.int nn), .val (.int ((p1 &&& (255 : Int32)).toUInt32.toUInt16.toUInt32.toInt32)), .val (.int ((((p1.toUInt32 >>> ((8 : Int32) &&& 31).toUInt32).toInt32) &&& (255 : Int32)).toUInt32.toUInt16.toUInt32.toInt32))] [(.ref x1), (.ref x1)])) _
      refine XS.iconst X273.here hx rfl (hb hby d1_39) ?_
      exact Steps.refl _
    obtain ⟨T276, h276, k276, X276, e276, E276, A276, st276⟩ := newP X273 hx hZ (hw _ (List.mem_of_getElem? (i := 7) rfl)) e273 (g := (mkF m 40 #[.val (.int p1), .val (.int nn), .val (.int ((p1 &&& (255 : Int32)).toUInt32.toUInt16.toUInt32.toInt32)), .val (.int ((((p1.toUInt32 >>> ((8 : Int32) &&& 31).toUInt32).toInt32) &&& (255 : Int32)).toUInt32.toUInt16.toUInt32.toInt32))] [(.int (0 : Int32)), (.ref x1), (.ref x1)])) rfl (hb hby d1_40) rfl (by decide) (cap := 0) (by decide) (by decide) (by decide) (by decide)
    obtain ⟨c1, g276⟩ : ∃ z, z = h273.size := ⟨_, rfl⟩
    rw [← g276] at A276 st276
    have ne_x1_c1 : x1 ≠ c1 := Nat.ne_of_lt (by rw [g276]; exact A273.lt)
    have SF0_c1 : Safe Z consts_1 s₁.vm h273 c1 := Safe.new (Nat.le_of_eq g276.symm)
    have G_c1 : Gar Z h276 c1 .char ((0 : Int32)).toNatClampNeg (fun _ => defaultValue .char) := Gar.new A276
    have g_c1 : n0 ≤ c1 := Nat.le_trans Z273 (Nat.le_of_eq g276.symm)
    have F276_x1_value := F_x1_value.ext E276
    have F276_x1_coder := F_x1_coder.ext E276
    have E276_x1 := A273.ext E276
    have Z276 : n0 ≤ h276.size := Nat.le_trans Z273 E276.1
    have K276 := K273.ext E276
    have O276 := O273.ext E276
    have SF276_x1 := Safe.ext E276 C273.1 SF273_x1
    have SF276_c1 := Safe.ext E276 C273.1 SF0_c1
    have cs276 := CHr.ext E276 C273.1
    have C276 := C273.trans cs276
    have hks276 := Nat.le_trans hks273 cs276.2.1
    have r277 : Steps p.tables e below S0 (T276.setTop (mkF m 42 #[.val (.int p1), .val (.int nn), .val (.int ((p1 &&& (255 : Int32)).toUInt32.toUInt16.toUInt32.toInt32)), .val (.int ((((p1.toUInt32 >>> ((8 : Int32) &&& 31).toUInt32).toInt32) &&& (255 : Int32)).toUInt32.toUInt16.toUInt32.toInt32))] [(.ref c1), (.ref x1), (.ref x1)])) := r275.trans (st276 _ (Steps.refl _))
    have sz_c1 : h0.size ≤ c1 := Nat.le_trans K273.1 (Nat.le_of_eq g276.symm)
    have V_c1 : Arv Z h276 c1 k276 .char (0 : Int32) (List.replicate 0 (.int 0)) (.int 0) := (Arv.new A276 (by decide)).pad (pad_rep [] (.int 0) 0)
    obtain ⟨_, _, ⟨T278, L278, k278, n278⟩, -, X278, hS278, hge278, ⟨Lc278, hQ278, l278, y278, z278, hC278⟩, st278⟩ := X276.specialBackS hx (y := (⟨"java/lang/String", "<init>", "([C)V"⟩ : MethodName)) rfl hown (mvT hZ (hw _ (List.mem_of_getElem? (i := 8) rfl))) (mvT hZ (hw _ (List.mem_of_getElem? (i := 9) rfl))) (mvT hZ (hw _ (List.mem_of_getElem? (i := 10) rfl))) (by decide) (backOfSH (W := 1) (rmE1 l Z a0 hw [] x1 c1 k276 (List.replicate 0 (.int 0)) (.int 0) h276 n0 Z276 E276_x1 F276_x1_value F276_x1_coder g_x1 V_c1 hEL) hZ (hw _ (List.mem_of_getElem? (i := 10) rfl)) (hw _ (List.mem_of_getElem? (i := 6) rfl)) (by decide) (by decide) hEL C276.1) (g := (mkF m 42 #[.val (.int p1), .val (.int nn), .val (.int ((p1 &&& (255 : Int32)).toUInt32.toUInt16.toUInt32.toInt32)), .val (.int ((((p1.toUInt32 >>> ((8 : Int32) &&& 31).toUInt32).toInt32) &&& (255 : Int32)).toUInt32.toUInt16.toUInt32.toInt32))] [(.ref c1), (.ref x1), (.ref x1)])) rfl (by rw [hml]; rfl) (Steps.refl _) (a := x1) (argsL := [(.ref c1)]) (rest := [(.ref x1)]) (lenOf pd_17 rfl) rfl (by show 2 * 0 + _ ≤ _; exact Nat.le_of_eq rfl) (hb hby d1_42) (fun _ _ => ⟨rfl, e276, (by decide : ((0 + 1) + 1) + 4 ≤ _), (by decide : ((0 + 4) + 0) + 8 ≤ _)⟩)
    dsimp only [Pt.U, Pt.locs, Pt.cells, Pt.slots] at hS278 hge278 hC278
    dsimp only [Pt.U, Pt.locs, Pt.cells, Pt.slots] at X278 l278 y278 z278 st278 hQ278
    subst l278 y278 z278
    obtain ⟨rfl, Nq278, Kc278, b, kb, hR278⟩ := hQ278
    have N278 := Fr.app N0 Nq278
    have r279 : Steps p.tables e below S0 (T278.setTop (mkF m 45 #[.val (.int p1), .val (.int nn), .val (.int ((p1 &&& (255 : Int32)).toUInt32.toUInt16.toUInt32.toInt32)), .val (.int ((((p1.toUInt32 >>> ((8 : Int32) &&& 31).toUInt32).toInt32) &&& (255 : Int32)).toUInt32.toUInt16.toUInt32.toInt32))] [(.ref x1)])) := r277.trans st278
    obtain ⟨hSn278, hZn278, hownn278⟩ := afterS (T := T276) hZ hown hS0_ (by rw [e276]; exact hks276) hS278 hge278
    have hZ := hZn278
    have hown := hownn278
    have X278 : Stand p l e ({ frames := 4, cells := 6, slots := 32, locals := 70 } : Room) (s.setVm T278.vm) m #[(.int p1)] below meth c T278 _ _ _ := X278
    have C278 := C276.trans hC278
    have Z278 : n0 ≤ T278.heap.size := Nat.le_trans Z276 Kc278.1
    have K278 := K276.trans Kc278 (allS (Or.inr sz_x1) (all0))
    have O278 := O276.keep Kc278 (allS g_x1 (all0))
    obtain ⟨fs, hr, hrun, hended, hRW⟩ := X278.leaveW hSn278 (Nat.le_refl _) (v := some (.ref x1)) (fun h => by rw [Bd.returns] at h; cases h)
    refine ⟨_, _, pre0 _ ?_, hrun, hended, _, _, rfl, ?_, ?_, hRW.1, hRW.2.1, hRW.2.2.1, hRW.2.2.2.mono (by decide) (by decide)⟩
    · rw [← hS0]
      refine r279.trans ?_
      show Steps p.tables e below (T278.setTop (mkF m 45 #[.val (.int p1), .val (.int nn), .val (.int ((p1 &&& (255 : Int32)).toUInt32.toUInt16.toUInt32.toInt32)), .val (.int ((((p1.toUInt32 >>> ((8 : Int32) &&& 31).toUInt32).toInt32) &&& (255 : Int32)).toUInt32.toUInt16.toUInt32.toInt32))] [(.ref x1)])) _
      jvm_step X278.here [X278.here.top, hx, (hb hby d1_45), X278.method', Bd.returns, Value.isRef, FieldType.isReference]
      first | (intro acts; rw [hr _ acts rfl rfl rfl]) | rw [hr _ _ rfl rfl rfl]
      exact Steps.refl _
    · show QmMk Z p1 cz h0 n0 _ T278.heap _; exact ⟨(.ref x1), b, kb, [], rfl, N278, K278, Or.inr ⟨x1, rfl, hR278⟩, own_lat0⟩
    · show CHr Z consts_1 s.vm s.heap T278.vm T278.heap; rw [hh]; exact C278.trans (CHv.at X278 hZ hEL C278.1)
  · skip
    have r280 : Steps p.tables e below S0 (s₁.setTop (mkF m 51 #[.val (.int p1), .val (.int nn), .val (.int ((p1 &&& (255 : Int32)).toUInt32.toUInt16.toUInt32.toInt32)), .val (.int ((((p1.toUInt32 >>> ((8 : Int32) &&& 31).toUInt32).toInt32) &&& (255 : Int32)).toUInt32.toUInt16.toUInt32.toInt32))] [])) := by
      refine r270.trans ?_
      show Steps p.tables e below (s₁.setTop (mkF m 24 #[.val (.int p1), .val (.int nn), .val (.int ((p1 &&& (255 : Int32)).toUInt32.toUInt16.toUInt32.toInt32)), .val (.int ((((p1.toUInt32 >>> ((8 : Int32) &&& 31).toUInt32).toInt32) &&& (255 : Int32)).toUInt32.toUInt16.toUInt32.toInt32))] [])) _
      refine XS.iloadN Xs.here hx rfl (hb hby d1_24) rfl ?_
      show Steps p.tables e below (s₁.setTop (mkF m 25 #[.val (.int p1), .val (.int nn), .val (.int ((p1 &&& (255 : Int32)).toUInt32.toUInt16.toUInt32.toInt32)), .val (.int ((((p1.toUInt32 >>> ((8 : Int32) &&& 31).toUInt32).toInt32) &&& (255 : Int32)).toUInt32.toUInt16.toUInt32.toInt32))] [(.int nn)])) _
      refine XS.iconst Xs.here hx rfl (hb hby d1_25) ?_
      show Steps p.tables e below (s₁.setTop (mkF m 26 #[.val (.int p1), .val (.int nn), .val (.int ((p1 &&& (255 : Int32)).toUInt32.toUInt16.toUInt32.toInt32)), .val (.int ((((p1.toUInt32 >>> ((8 : Int32) &&& 31).toUInt32).toInt32) &&& (255 : Int32)).toUInt32.toUInt16.toUInt32.toInt32))] [(.int (3 : Int32)), (.int nn)])) _
      refine XS.icmpYes Xs.here hx rfl (pc0 := 26) (pc' := 31) rfl (hb hby d1_26) rfl (feq (by rw [z] <;> decide)).2 (by decide) (by decide) ?_
      show Steps p.tables e below (s₁.setTop (mkF m 31 #[.val (.int p1), .val (.int nn), .val (.int ((p1 &&& (255 : Int32)).toUInt32.toUInt16.toUInt32.toInt32)), .val (.int ((((p1.toUInt32 >>> ((8 : Int32) &&& 31).toUInt32).toInt32) &&& (255 : Int32)).toUInt32.toUInt16.toUInt32.toInt32))] [])) _
      refine XS.iloadN Xs.here hx rfl (hb hby d1_31) rfl ?_
      show Steps p.tables e below (s₁.setTop (mkF m 32 #[.val (.int p1), .val (.int nn), .val (.int ((p1 &&& (255 : Int32)).toUInt32.toUInt16.toUInt32.toInt32)), .val (.int ((((p1.toUInt32 >>> ((8 : Int32) &&& 31).toUInt32).toInt32) &&& (255 : Int32)).toUInt32.toUInt16.toUInt32.toInt32))] [(.int nn)])) _
      refine XS.ifYes Xs.here hx rfl (pc0 := 32) (pc' := 46) rfl (hb hby d1_32) rfl ((if0 _ _).trans (feq (by rw [z] <;> decide)).2) (by decide) (by decide) ?_
      show Steps p.tables e below (s₁.setTop (mkF m 46 #[.val (.int p1), .val (.int nn), .val (.int ((p1 &&& (255 : Int32)).toUInt32.toUInt16.toUInt32.toInt32)), .val (.int ((((p1.toUInt32 >>> ((8 : Int32) &&& 31).toUInt32).toInt32) &&& (255 : Int32)).toUInt32.toUInt16.toUInt32.toInt32))] [])) _
      refine XS.iloadN Xs.here hx rfl (hb hby d1_46) rfl ?_
      show Steps p.tables e below (s₁.setTop (mkF m 47 #[.val (.int p1), .val (.int nn), .val (.int ((p1 &&& (255 : Int32)).toUInt32.toUInt16.toUInt32.toInt32)), .val (.int ((((p1.toUInt32 >>> ((8 : Int32) &&& 31).toUInt32).toInt32) &&& (255 : Int32)).toUInt32.toUInt16.toUInt32.toInt32))] [(.int nn)])) _
      refine XS.iconst Xs.here hx rfl (hb hby d1_47) ?_
      show Steps p.tables e below (s₁.setTop (mkF m 48 #[.val (.int p1), .val (.int nn), .val (.int ((p1 &&& (255 : Int32)).toUInt32.toUInt16.toUInt32.toInt32)), .val (.int ((((p1.toUInt32 >>> ((8 : Int32) &&& 31).toUInt32).toInt32) &&& (255 : Int32)).toUInt32.toUInt16.toUInt32.toInt32))] [(.int (1 : Int32)), (.int nn)])) _
      refine XS.icmpNo Xs.here hx rfl (hb hby d1_48) rfl (teq (by rw [z] <;> decide)).2 ?_
      exact Steps.refl _
    obtain ⟨T281, h281, X281, e281, E281, A281, D281, -, st281⟩ := newO Xs hx hZ hown (hw _ (List.mem_of_getElem? (i := 4) rfl)) (hw _ (List.mem_of_getElem? (i := 5) rfl)) (hw _ (List.mem_of_getElem? (i := 6) rfl)) e0 (g := (mkF m 51 #[.val (.int p1), .val (.int nn), .val (.int ((p1 &&& (255 : Int32)).toUInt32.toUInt16.toUInt32.toInt32)), .val (.int ((((p1.toUInt32 >>> ((8 : Int32) &&& 31).toUInt32).toInt32) &&& (255 : Int32)).toUInt32.toUInt16.toUInt32.toInt32))] [])) rfl (hb hby d1_51) (by decide) (by decide)
    obtain ⟨x1, g281⟩ : ∃ z, z = h0.size := ⟨_, rfl⟩
    rw [← g281] at A281 D281 st281
    have SF0_x1 : Safe Z consts_1 s₁.vm h0 x1 := Safe.new (Nat.le_of_eq g281.symm)
    have g_x1 : n0 ≤ x1 := Nat.le_trans Z0 (Nat.le_of_eq g281.symm)
    have sz_x1 : h0.size ≤ x1 := Nat.le_trans K0.1 (Nat.le_of_eq g281.symm)
    have Z281 : n0 ≤ h281.size := Nat.le_trans Z0 E281.1
    have K281 := K0.ext E281
    have O281 := O0.ext E281
    have SF281_x1 := Safe.ext E281 hC0.1 SF0_x1
    have cs281 := CHr.ext E281 hC0.1
    have C281 := hC0.trans cs281
    have hks281 := Nat.le_trans (Nat.zero_le _) cs281.2.1
    have F_x1_value : Fld Z h281 x1 "java/lang/String" "value" "[B" .null := D281 (Or.inr (hw _ (List.mem_of_getElem? (i := 20) rfl))) (ty := (.array .byte)) (by decide)
    have F_x1_coder : Fld Z h281 x1 "java/lang/String" "coder" "B" (.int (0 : Int32)) := D281 (Or.inr (hw _ (List.mem_of_getElem? (i := 21) rfl))) (ty := .byte) (by decide)
    have r282 : Steps p.tables e below S0 (T281.setTop (mkF m 54 #[.val (.int p1), .val (.int nn), .val (.int ((p1 &&& (255 : Int32)).toUInt32.toUInt16.toUInt32.toInt32)), .val (.int ((((p1.toUInt32 >>> ((8 : Int32) &&& 31).toUInt32).toInt32) &&& (255 : Int32)).toUInt32.toUInt16.toUInt32.toInt32))] [(.ref x1)])) := r280.trans (st281 _ (Steps.refl _))
    have r283 : Steps p.tables e below S0 (T281.setTop (mkF m 56 #[.val (.int p1), .val (.int nn), .val (.int ((p1 &&& (255 : Int32)).toUInt32.toUInt16.toUInt32.toInt32)), .val (.int ((((p1.toUInt32 >>> ((8 : Int32) &&& 31).toUInt32).toInt32) &&& (255 : Int32)).toUInt32.toUInt16.toUInt32.toInt32))] [(.int (1 : Int32)), (.ref x1), (.ref x1)])) := by
      refine r282.trans ?_
      show Steps p.tables e below (T281.setTop (mkF m 54 #[.val (.int p1), .val (.int nn), .val (.int ((p1 &&& (255 : Int32)).toUInt32.toUInt16.toUInt32.toInt32)), .val (.int ((((p1.toUInt32 >>> ((8 : Int32) &&& 31).toUInt32).toInt32) &&& (255 : Int32)).toUInt32.toUInt16.toUInt32.toInt32))] [(.ref x1)])) _
      refine XS.dup X281.here hx rfl (hb hby d1_54) rfl rfl ?_
      show Steps p.tables e below (T281.setTop (mkF m 55 #[.val (.int p1), .val (.int nn), .val (.int ((p1 &&& (255 : Int32)).toUInt32.toUInt16.toUInt32.toInt32)), .val (.int ((((p1.toUInt32 >>> ((8 : Int32) &&& 31).toUInt32).toInt32) &&& (255 : Int32)).toUInt32.toUInt16.toUInt32.toInt32))] [(.ref x1), (.ref x1)])) _
      refine XS.iconst X281.here hx rfl (hb hby d1_55) ?_
      exact Steps.refl _
    obtain ⟨T284, h284, k284, X284, e284, E284, A284, st284⟩ := newP X281 hx hZ (hw _ (List.mem_of_getElem? (i := 7) rfl)) e281 (g := (mkF m 56 #[.val (.int p1), .val (.int nn), .val (.int ((p1 &&& (255 : Int32)).toUInt32.toUInt16.toUInt32.toInt32)), .val (.int ((((p1.toUInt32 >>> ((8 : Int32) &&& 31).toUInt32).toInt32) &&& (255 : Int32)).toUInt32.toUInt16.toUInt32.toInt32))] [(.int (1 : Int32)), (.ref x1), (.ref x1)])) rfl (hb hby d1_56) rfl (by decide) (cap := 1) (by decide) (by decide) (by decide) (by decide)
    obtain ⟨c1, g284⟩ : ∃ z, z = h281.size := ⟨_, rfl⟩
    rw [← g284] at A284 st284
    have ne_x1_c1 : x1 ≠ c1 := Nat.ne_of_lt (by rw [g284]; exact A281.lt)
    have SF0_c1 : Safe Z consts_1 s₁.vm h281 c1 := Safe.new (Nat.le_of_eq g284.symm)
    have G_c1 : Gar Z h284 c1 .char ((1 : Int32)).toNatClampNeg (fun _ => defaultValue .char) := Gar.new A284
    have g_c1 : n0 ≤ c1 := Nat.le_trans Z281 (Nat.le_of_eq g284.symm)
    have F284_x1_value := F_x1_value.ext E284
    have F284_x1_coder := F_x1_coder.ext E284
    have E284_x1 := A281.ext E284
    have Z284 : n0 ≤ h284.size := Nat.le_trans Z281 E284.1
    have K284 := K281.ext E284
    have O284 := O281.ext E284
    have SF284_x1 := Safe.ext E284 C281.1 SF281_x1
    have SF284_c1 := Safe.ext E284 C281.1 SF0_c1
    have cs284 := CHr.ext E284 C281.1
    have C284 := C281.trans cs284
    have hks284 := Nat.le_trans hks281 cs284.2.1
    have r285 : Steps p.tables e below S0 (T284.setTop (mkF m 58 #[.val (.int p1), .val (.int nn), .val (.int ((p1 &&& (255 : Int32)).toUInt32.toUInt16.toUInt32.toInt32)), .val (.int ((((p1.toUInt32 >>> ((8 : Int32) &&& 31).toUInt32).toInt32) &&& (255 : Int32)).toUInt32.toUInt16.toUInt32.toInt32))] [(.ref c1), (.ref x1), (.ref x1)])) := r283.trans (st284 _ (Steps.refl _))
    have sz_c1 : h0.size ≤ c1 := Nat.le_trans K281.1 (Nat.le_of_eq g284.symm)
    have V_c1 : Arv Z h284 c1 k284 .char (1 : Int32) (List.replicate 1 (.int 0)) (.int 0) := (Arv.new A284 (by decide)).pad (pad_rep [] (.int 0) 1)
    have r286 : Steps p.tables e below S0 (T284.setTop (mkF m 61 #[.val (.int p1), .val (.int nn), .val (.int ((p1 &&& (255 : Int32)).toUInt32.toUInt16.toUInt32.toInt32)), .val (.int ((((p1.toUInt32 >>> ((8 : Int32) &&& 31).toUInt32).toInt32) &&& (255 : Int32)).toUInt32.toUInt16.toUInt32.toInt32))] [(.int ((p1 &&& (255 : Int32)).toUInt32.toUInt16.toUInt32.toInt32)), (.int (0 : Int32)), (.ref c1), (.ref c1), (.ref x1), (.ref x1)])) := by
      refine r285.trans ?_
      show Steps p.tables e below (T284.setTop (mkF m 58 #[.val (.int p1), .val (.int nn), .val (.int ((p1 &&& (255 : Int32)).toUInt32.toUInt16.toUInt32.toInt32)), .val (.int ((((p1.toUInt32 >>> ((8 : Int32) &&& 31).toUInt32).toInt32) &&& (255 : Int32)).toUInt32.toUInt16.toUInt32.toInt32))] [(.ref c1), (.ref x1), (.ref x1)])) _
      refine XS.dup X284.here hx rfl (hb hby d1_58) rfl rfl ?_
      show Steps p.tables e below (T284.setTop (mkF m 59 #[.val (.int p1), .val (.int nn), .val (.int ((p1 &&& (255 : Int32)).toUInt32.toUInt16.toUInt32.toInt32)), .val (.int ((((p1.toUInt32 >>> ((8 : Int32) &&& 31).toUInt32).toInt32) &&& (255 : Int32)).toUInt32.toUInt16.toUInt32.toInt32))] [(.ref c1), (.ref c1), (.ref x1), (.ref x1)])) _
      refine XS.iconst X284.here hx rfl (hb hby d1_59) ?_
      show Steps p.tables e below (T284.setTop (mkF m 60 #[.val (.int p1), .val (.int nn), .val (.int ((p1 &&& (255 : Int32)).toUInt32.toUInt16.toUInt32.toInt32)), .val (.int ((((p1.toUInt32 >>> ((8 : Int32) &&& 31).toUInt32).toInt32) &&& (255 : Int32)).toUInt32.toUInt16.toUInt32.toInt32))] [(.int (0 : Int32)), (.ref c1), (.ref c1), (.ref x1), (.ref x1)])) _
      refine XS.iloadN X284.here hx rfl (hb hby d1_60) rfl ?_
      exact Steps.refl _
    obtain ⟨T287, h287, X287, e287, W287, V287, st287⟩ := stCA X284 hx hZ e284 V_c1 (j := (0 : Int32)) (i := 0) (by decide) (by decide) (by first | decide | (simp only [List.length_set, List.length_replicate]; decide)) (by decide) (g := (mkF m 61 #[.val (.int p1), .val (.int nn), .val (.int ((p1 &&& (255 : Int32)).toUInt32.toUInt16.toUInt32.toInt32)), .val (.int ((((p1.toUInt32 >>> ((8 : Int32) &&& 31).toUInt32).toInt32) &&& (255 : Int32)).toUInt32.toUInt16.toUInt32.toInt32))] [(.int ((p1 &&& (255 : Int32)).toUInt32.toUInt16.toUInt32.toInt32)), (.int (0 : Int32)), (.ref c1), (.ref c1), (.ref x1), (.ref x1)])) rfl rfl (hb hby d1_61)
    have N287 := Fr.snoc X287 N0 g_c1
    have F287_x1_value := F284_x1_value.other W287 (Or.inl ne_x1_c1)
    have F287_x1_coder := F284_x1_coder.other W287 (Or.inl ne_x1_c1)
    have E287_x1 := E284_x1.wr W287
    have Z287 : n0 ≤ h287.size := Nat.le_trans Z284 (Nat.le_of_eq W287.size.symm)
    have K287 := K284.wr W287 (Or.inr sz_c1)
    have O287 := O284.wr W287 g_c1
    have SF287_x1 := Safe.wr W287 SF284_c1 C284.1 SF284_x1
    have SF287_c1 := Safe.wr W287 SF284_c1 C284.1 SF284_c1
    have cs287 := CHr.wr W287 SF284_c1 C284.1
    have C287 := C284.trans cs287
    have hks287 := Nat.le_trans hks284 cs287.2.1
    have r288 : Steps p.tables e below S0 (T287.setTop (mkF m 62 #[.val (.int p1), .val (.int nn), .val (.int ((p1 &&& (255 : Int32)).toUInt32.toUInt16.toUInt32.toInt32)), .val (.int ((((p1.toUInt32 >>> ((8 : Int32) &&& 31).toUInt32).toInt32) &&& (255 : Int32)).toUInt32.toUInt16.toUInt32.toInt32))] [(.ref c1), (.ref x1), (.ref x1)])) := r286.trans (st287 _ (Steps.refl _))
    obtain ⟨_, _, ⟨T289, L289, k289, n289⟩, -, X289, ⟨Lc289, hQ289, l289, y289, z289⟩, st289⟩ := X287.specialBack hx (y := (⟨"java/lang/String", "<init>", "([C)V"⟩ : MethodName)) rfl hown (mvT hZ (hw _ (List.mem_of_getElem? (i := 8) rfl))) (mvT hZ (hw _ (List.mem_of_getElem? (i := 9) rfl))) (mvT hZ (hw _ (List.mem_of_getElem? (i := 10) rfl))) (by decide) (StrChars.Road.backV (W := 1) hZ hws (kI := 4) (hw _ (List.mem_of_getElem? (i := 5) rfl)) (cs := ([nar .char ((p1 &&& (255 : Int32)).toUInt32.toUInt16.toUInt32.toInt32)] : List Int32)) (bs := ([nar .char ((p1 &&& (255 : Int32)).toUInt32.toUInt16.toUInt32.toInt32)] : List Int32).map (fun c => c.toInt8.toInt32)) (n := 1) g_x1 Z287 E287_x1 F287_x1_value F287_x1_coder V287 (Sc.ext O287.2) hcz rfl rfl (by decide) (by decide) (own_lat1 p1).2 rfl (by decide) (by decide)) (g := (mkF m 62 #[.val (.int p1), .val (.int nn), .val (.int ((p1 &&& (255 : Int32)).toUInt32.toUInt16.toUInt32.toInt32)), .val (.int ((((p1.toUInt32 >>> ((8 : Int32) &&& 31).toUInt32).toInt32) &&& (255 : Int32)).toUInt32.toUInt16.toUInt32.toInt32))] [(.ref c1), (.ref x1), (.ref x1)])) rfl (by rw [hml]; rfl) (Steps.refl _) (a := x1) (argsL := [(.ref c1)]) (rest := [(.ref x1)]) (lenOf pd_17 rfl) rfl (by show 2 * 0 + _ ≤ _; exact Nat.le_of_eq rfl) (hb hby d1_62) (fun _ _ => ⟨rfl, e287, (by decide : ((0 + 1) + 1) + 1 ≤ _), (by decide : ((0 + 4) + 1) + 1 ≤ _)⟩)
    dsimp only [Pt.U, Pt.locs, Pt.cells, Pt.slots] at X289 l289 y289 z289 st289 hQ289
    subst l289 y289 z289
    obtain ⟨rfl, Nq289, Kc289, Ec, Fcc, t, kt, gt, st_, nt, Fvc, Avc⟩ := hQ289
    have N289 := Fr.app N287 Nq289
    have r290 : Steps p.tables e below S0 (T289.setTop (mkF m 65 #[.val (.int p1), .val (.int nn), .val (.int ((p1 &&& (255 : Int32)).toUInt32.toUInt16.toUInt32.toInt32)), .val (.int ((((p1.toUInt32 >>> ((8 : Int32) &&& 31).toUInt32).toInt32) &&& (255 : Int32)).toUInt32.toUInt16.toUInt32.toInt32))] [(.ref x1)])) := r288.trans st289
    have E289_x1 := E287_x1.keep Kc289
    have Z289 : n0 ≤ T289.heap.size := Nat.le_trans Z287 Kc289.1
    have K289 := K287.trans Kc289 (allS (Or.inr sz_x1) (all0))
    have O289 := O287.keep Kc289 (allS g_x1 (all0))
    have SF289_x1 := Safe.keep Kc289 (allS SF287_x1 (all0)) C287.1 SF287_x1
    have SF289_c1 := Safe.keep Kc289 (allS SF287_x1 (all0)) C287.1 SF287_c1
    have cs289 := CHr.keep Kc289 (allS SF287_x1 (all0)) C287.1
    have C289 := C287.trans cs289
    have hks289 := Nat.le_trans hks287 cs289.2.1
    obtain ⟨fs, hr, hrun, hended, hRW⟩ := X289.leaveW hS0_ hks289 (v := some (.ref x1)) (fun h => by rw [Bd.returns] at h; cases h)
    refine ⟨_, _, pre0 _ ?_, hrun, hended, _, _, rfl, ?_, ?_, hRW.1, hRW.2.1, hRW.2.2.1, hRW.2.2.2.mono (by decide) (by decide)⟩
    · rw [← hS0]
      refine r290.trans ?_
      show Steps p.tables e below (T289.setTop (mkF m 65 #[.val (.int p1), .val (.int nn), .val (.int ((p1 &&& (255 : Int32)).toUInt32.toUInt16.toUInt32.toInt32)), .val (.int ((((p1.toUInt32 >>> ((8 : Int32) &&& 31).toUInt32).toInt32) &&& (255 : Int32)).toUInt32.toUInt16.toUInt32.toInt32))] [(.ref x1)])) _
      jvm_step X289.here [X289.here.top, hx, (hb hby d1_65), X289.method', Bd.returns, Value.isRef, FieldType.isReference]
      first | (intro acts; rw [hr _ acts rfl rfl rfl]) | rw [hr _ _ rfl rfl rfl]
      exact Steps.refl _
    · show QmMk Z p1 cz h0 n0 _ T289.heap _; exact ⟨(.ref x1), t, kt, ([nar .char ((p1 &&& (255 : Int32)).toUInt32.toUInt16.toUInt32.toInt32)] : List Int32), rfl, N289, K289, Or.inr ⟨x1, rfl, Ec, Fcc, Fvc, Avc⟩, own_lat1 p1⟩
    · show CHr Z consts_1 s.vm s.heap T289.vm T289.heap; rw [hh]; exact C289.trans (CHv.at X289 hZ hEL C289.1)
  · skip
    have r291 : Steps p.tables e below S0 (s₁.setTop (mkF m 66 #[.val (.int p1), .val (.int nn), .val (.int ((p1 &&& (255 : Int32)).toUInt32.toUInt16.toUInt32.toInt32)), .val (.int ((((p1.toUInt32 >>> ((8 : Int32) &&& 31).toUInt32).toInt32) &&& (255 : Int32)).toUInt32.toUInt16.toUInt32.toInt32))] [])) := by
      refine r270.trans ?_
      show Steps p.tables e below (s₁.setTop (mkF m 24 #[.val (.int p1), .val (.int nn), .val (.int ((p1 &&& (255 : Int32)).toUInt32.toUInt16.toUInt32.toInt32)), .val (.int ((((p1.toUInt32 >>> ((8 : Int32) &&& 31).toUInt32).toInt32) &&& (255 : Int32)).toUInt32.toUInt16.toUInt32.toInt32))] [])) _
      refine XS.iloadN Xs.here hx rfl (hb hby d1_24) rfl ?_
      show Steps p.tables e below (s₁.setTop (mkF m 25 #[.val (.int p1), .val (.int nn), .val (.int ((p1 &&& (255 : Int32)).toUInt32.toUInt16.toUInt32.toInt32)), .val (.int ((((p1.toUInt32 >>> ((8 : Int32) &&& 31).toUInt32).toInt32) &&& (255 : Int32)).toUInt32.toUInt16.toUInt32.toInt32))] [(.int nn)])) _
      refine XS.iconst Xs.here hx rfl (hb hby d1_25) ?_
      show Steps p.tables e below (s₁.setTop (mkF m 26 #[.val (.int p1), .val (.int nn), .val (.int ((p1 &&& (255 : Int32)).toUInt32.toUInt16.toUInt32.toInt32)), .val (.int ((((p1.toUInt32 >>> ((8 : Int32) &&& 31).toUInt32).toInt32) &&& (255 : Int32)).toUInt32.toUInt16.toUInt32.toInt32))] [(.int (3 : Int32)), (.int nn)])) _
      refine XS.icmpYes Xs.here hx rfl (pc0 := 26) (pc' := 31) rfl (hb hby d1_26) rfl (feq (by rw [z] <;> decide)).2 (by decide) (by decide) ?_
      show Steps p.tables e below (s₁.setTop (mkF m 31 #[.val (.int p1), .val (.int nn), .val (.int ((p1 &&& (255 : Int32)).toUInt32.toUInt16.toUInt32.toInt32)), .val (.int ((((p1.toUInt32 >>> ((8 : Int32) &&& 31).toUInt32).toInt32) &&& (255 : Int32)).toUInt32.toUInt16.toUInt32.toInt32))] [])) _
      refine XS.iloadN Xs.here hx rfl (hb hby d1_31) rfl ?_
      show Steps p.tables e below (s₁.setTop (mkF m 32 #[.val (.int p1), .val (.int nn), .val (.int ((p1 &&& (255 : Int32)).toUInt32.toUInt16.toUInt32.toInt32)), .val (.int ((((p1.toUInt32 >>> ((8 : Int32) &&& 31).toUInt32).toInt32) &&& (255 : Int32)).toUInt32.toUInt16.toUInt32.toInt32))] [(.int nn)])) _
      refine XS.ifYes Xs.here hx rfl (pc0 := 32) (pc' := 46) rfl (hb hby d1_32) rfl ((if0 _ _).trans (feq (by rw [z] <;> decide)).2) (by decide) (by decide) ?_
      show Steps p.tables e below (s₁.setTop (mkF m 46 #[.val (.int p1), .val (.int nn), .val (.int ((p1 &&& (255 : Int32)).toUInt32.toUInt16.toUInt32.toInt32)), .val (.int ((((p1.toUInt32 >>> ((8 : Int32) &&& 31).toUInt32).toInt32) &&& (255 : Int32)).toUInt32.toUInt16.toUInt32.toInt32))] [])) _
      refine XS.iloadN Xs.here hx rfl (hb hby d1_46) rfl ?_
      show Steps p.tables e below (s₁.setTop (mkF m 47 #[.val (.int p1), .val (.int nn), .val (.int ((p1 &&& (255 : Int32)).toUInt32.toUInt16.toUInt32.toInt32)), .val (.int ((((p1.toUInt32 >>> ((8 : Int32) &&& 31).toUInt32).toInt32) &&& (255 : Int32)).toUInt32.toUInt16.toUInt32.toInt32))] [(.int nn)])) _
      refine XS.iconst Xs.here hx rfl (hb hby d1_47) ?_
      show Steps p.tables e below (s₁.setTop (mkF m 48 #[.val (.int p1), .val (.int nn), .val (.int ((p1 &&& (255 : Int32)).toUInt32.toUInt16.toUInt32.toInt32)), .val (.int ((((p1.toUInt32 >>> ((8 : Int32) &&& 31).toUInt32).toInt32) &&& (255 : Int32)).toUInt32.toUInt16.toUInt32.toInt32))] [(.int (1 : Int32)), (.int nn)])) _
      refine XS.icmpYes Xs.here hx rfl (pc0 := 48) (pc' := 66) rfl (hb hby d1_48) rfl (feq (by rw [z] <;> decide)).2 (by decide) (by decide) ?_
      exact Steps.refl _
    obtain ⟨T292, h292, X292, e292, E292, A292, D292, -, st292⟩ := newO Xs hx hZ hown (hw _ (List.mem_of_getElem? (i := 4) rfl)) (hw _ (List.mem_of_getElem? (i := 5) rfl)) (hw _ (List.mem_of_getElem? (i := 6) rfl)) e0 (g := (mkF m 66 #[.val (.int p1), .val (.int nn), .val (.int ((p1 &&& (255 : Int32)).toUInt32.toUInt16.toUInt32.toInt32)), .val (.int ((((p1.toUInt32 >>> ((8 : Int32) &&& 31).toUInt32).toInt32) &&& (255 : Int32)).toUInt32.toUInt16.toUInt32.toInt32))] [])) rfl (hb hby d1_66) (by decide) (by decide)
    obtain ⟨x1, g292⟩ : ∃ z, z = h0.size := ⟨_, rfl⟩
    rw [← g292] at A292 D292 st292
    have SF0_x1 : Safe Z consts_1 s₁.vm h0 x1 := Safe.new (Nat.le_of_eq g292.symm)
    have g_x1 : n0 ≤ x1 := Nat.le_trans Z0 (Nat.le_of_eq g292.symm)
    have sz_x1 : h0.size ≤ x1 := Nat.le_trans K0.1 (Nat.le_of_eq g292.symm)
    have Z292 : n0 ≤ h292.size := Nat.le_trans Z0 E292.1
    have K292 := K0.ext E292
    have O292 := O0.ext E292
    have SF292_x1 := Safe.ext E292 hC0.1 SF0_x1
    have cs292 := CHr.ext E292 hC0.1
    have C292 := hC0.trans cs292
    have hks292 := Nat.le_trans (Nat.zero_le _) cs292.2.1
    have F_x1_value : Fld Z h292 x1 "java/lang/String" "value" "[B" .null := D292 (Or.inr (hw _ (List.mem_of_getElem? (i := 20) rfl))) (ty := (.array .byte)) (by decide)
    have F_x1_coder : Fld Z h292 x1 "java/lang/String" "coder" "B" (.int (0 : Int32)) := D292 (Or.inr (hw _ (List.mem_of_getElem? (i := 21) rfl))) (ty := .byte) (by decide)
    have r293 : Steps p.tables e below S0 (T292.setTop (mkF m 69 #[.val (.int p1), .val (.int nn), .val (.int ((p1 &&& (255 : Int32)).toUInt32.toUInt16.toUInt32.toInt32)), .val (.int ((((p1.toUInt32 >>> ((8 : Int32) &&& 31).toUInt32).toInt32) &&& (255 : Int32)).toUInt32.toUInt16.toUInt32.toInt32))] [(.ref x1)])) := r291.trans (st292 _ (Steps.refl _))
    have r294 : Steps p.tables e below S0 (T292.setTop (mkF m 71 #[.val (.int p1), .val (.int nn), .val (.int ((p1 &&& (255 : Int32)).toUInt32.toUInt16.toUInt32.toInt32)), .val (.int ((((p1.toUInt32 >>> ((8 : Int32) &&& 31).toUInt32).toInt32) &&& (255 : Int32)).toUInt32.toUInt16.toUInt32.toInt32))] [(.int (2 : Int32)), (.ref x1), (.ref x1)])) := by
      refine r293.trans ?_
      show Steps p.tables e below (T292.setTop (mkF m 69 #[.val (.int p1), .val (.int nn), .val (.int ((p1 &&& (255 : Int32)).toUInt32.toUInt16.toUInt32.toInt32)), .val (.int ((((p1.toUInt32 >>> ((8 : Int32) &&& 31).toUInt32).toInt32) &&& (255 : Int32)).toUInt32.toUInt16.toUInt32.toInt32))] [(.ref x1)])) _
      refine XS.dup X292.here hx rfl (hb hby d1_69) rfl rfl ?_
      show Steps p.tables e below (T292.setTop (mkF m 70 #[.val (.int p1), .val (.int nn), .val (.int ((p1 &&& (255 : Int32)).toUInt32.toUInt16.toUInt32.toInt32)), .val (.int ((((p1.toUInt32 >>> ((8 : Int32) &&& 31).toUInt32).toInt32) &&& (255 : Int32)).toUInt32.toUInt16.toUInt32.toInt32))] [(.ref x1), (.ref x1)])) _
      refine XS.iconst X292.here hx rfl (hb hby d1_70) ?_
      exact Steps.refl _
    obtain ⟨T295, h295, k295, X295, e295, E295, A295, st295⟩ := newP X292 hx hZ (hw _ (List.mem_of_getElem? (i := 7) rfl)) e292 (g := (mkF m 71 #[.val (.int p1), .val (.int nn), .val (.int ((p1 &&& (255 : Int32)).toUInt32.toUInt16.toUInt32.toInt32)), .val (.int ((((p1.toUInt32 >>> ((8 : Int32) &&& 31).toUInt32).toInt32) &&& (255 : Int32)).toUInt32.toUInt16.toUInt32.toInt32))] [(.int (2 : Int32)), (.ref x1), (.ref x1)])) rfl (hb hby d1_71) rfl (by decide) (cap := 2) (by decide) (by decide) (by decide) (by decide)
    obtain ⟨c1, g295⟩ : ∃ z, z = h292.size := ⟨_, rfl⟩
    rw [← g295] at A295 st295
    have ne_x1_c1 : x1 ≠ c1 := Nat.ne_of_lt (by rw [g295]; exact A292.lt)
    have SF0_c1 : Safe Z consts_1 s₁.vm h292 c1 := Safe.new (Nat.le_of_eq g295.symm)
    have G_c1 : Gar Z h295 c1 .char ((2 : Int32)).toNatClampNeg (fun _ => defaultValue .char) := Gar.new A295
    have g_c1 : n0 ≤ c1 := Nat.le_trans Z292 (Nat.le_of_eq g295.symm)
    have F295_x1_value := F_x1_value.ext E295
    have F295_x1_coder := F_x1_coder.ext E295
    have E295_x1 := A292.ext E295
    have Z295 : n0 ≤ h295.size := Nat.le_trans Z292 E295.1
    have K295 := K292.ext E295
    have O295 := O292.ext E295
    have SF295_x1 := Safe.ext E295 C292.1 SF292_x1
    have SF295_c1 := Safe.ext E295 C292.1 SF0_c1
    have cs295 := CHr.ext E295 C292.1
    have C295 := C292.trans cs295
    have hks295 := Nat.le_trans hks292 cs295.2.1
    have r296 : Steps p.tables e below S0 (T295.setTop (mkF m 73 #[.val (.int p1), .val (.int nn), .val (.int ((p1 &&& (255 : Int32)).toUInt32.toUInt16.toUInt32.toInt32)), .val (.int ((((p1.toUInt32 >>> ((8 : Int32) &&& 31).toUInt32).toInt32) &&& (255 : Int32)).toUInt32.toUInt16.toUInt32.toInt32))] [(.ref c1), (.ref x1), (.ref x1)])) := r294.trans (st295 _ (Steps.refl _))
    have sz_c1 : h0.size ≤ c1 := Nat.le_trans K292.1 (Nat.le_of_eq g295.symm)
    have V_c1 : Arv Z h295 c1 k295 .char (2 : Int32) (List.replicate 2 (.int 0)) (.int 0) := (Arv.new A295 (by decide)).pad (pad_rep [] (.int 0) 2)
    have r297 : Steps p.tables e below S0 (T295.setTop (mkF m 76 #[.val (.int p1), .val (.int nn), .val (.int ((p1 &&& (255 : Int32)).toUInt32.toUInt16.toUInt32.toInt32)), .val (.int ((((p1.toUInt32 >>> ((8 : Int32) &&& 31).toUInt32).toInt32) &&& (255 : Int32)).toUInt32.toUInt16.toUInt32.toInt32))] [(.int ((p1 &&& (255 : Int32)).toUInt32.toUInt16.toUInt32.toInt32)), (.int (0 : Int32)), (.ref c1), (.ref c1), (.ref x1), (.ref x1)])) := by
      refine r296.trans ?_
      show Steps p.tables e below (T295.setTop (mkF m 73 #[.val (.int p1), .val (.int nn), .val (.int ((p1 &&& (255 : Int32)).toUInt32.toUInt16.toUInt32.toInt32)), .val (.int ((((p1.toUInt32 >>> ((8 : Int32) &&& 31).toUInt32).toInt32) &&& (255 : Int32)).toUInt32.toUInt16.toUInt32.toInt32))] [(.ref c1), (.ref x1), (.ref x1)])) _
      refine XS.dup X295.here hx rfl (hb hby d1_73) rfl rfl ?_
      show Steps p.tables e below (T295.setTop (mkF m 74 #[.val (.int p1), .val (.int nn), .val (.int ((p1 &&& (255 : Int32)).toUInt32.toUInt16.toUInt32.toInt32)), .val (.int ((((p1.toUInt32 >>> ((8 : Int32) &&& 31).toUInt32).toInt32) &&& (255 : Int32)).toUInt32.toUInt16.toUInt32.toInt32))] [(.ref c1), (.ref c1), (.ref x1), (.ref x1)])) _
      refine XS.iconst X295.here hx rfl (hb hby d1_74) ?_
      show Steps p.tables e below (T295.setTop (mkF m 75 #[.val (.int p1), .val (.int nn), .val (.int ((p1 &&& (255 : Int32)).toUInt32.toUInt16.toUInt32.toInt32)), .val (.int ((((p1.toUInt32 >>> ((8 : Int32) &&& 31).toUInt32).toInt32) &&& (255 : Int32)).toUInt32.toUInt16.toUInt32.toInt32))] [(.int (0 : Int32)), (.ref c1), (.ref c1), (.ref x1), (.ref x1)])) _
      refine XS.iloadN X295.here hx rfl (hb hby d1_75) rfl ?_
      exact Steps.refl _
    obtain ⟨T298, h298, X298, e298, W298, V298, st298⟩ := stCA X295 hx hZ e295 V_c1 (j := (0 : Int32)) (i := 0) (by decide) (by decide) (by first | decide | (simp only [List.length_set, List.length_replicate]; decide)) (by decide) (g := (mkF m 76 #[.val (.int p1), .val (.int nn), .val (.int ((p1 &&& (255 : Int32)).toUInt32.toUInt16.toUInt32.toInt32)), .val (.int ((((p1.toUInt32 >>> ((8 : Int32) &&& 31).toUInt32).toInt32) &&& (255 : Int32)).toUInt32.toUInt16.toUInt32.toInt32))] [(.int ((p1 &&& (255 : Int32)).toUInt32.toUInt16.toUInt32.toInt32)), (.int (0 : Int32)), (.ref c1), (.ref c1), (.ref x1), (.ref x1)])) rfl rfl (hb hby d1_76)
    have N298 := Fr.snoc X298 N0 g_c1
    have F298_x1_value := F295_x1_value.other W298 (Or.inl ne_x1_c1)
    have F298_x1_coder := F295_x1_coder.other W298 (Or.inl ne_x1_c1)
    have E298_x1 := E295_x1.wr W298
    have Z298 : n0 ≤ h298.size := Nat.le_trans Z295 (Nat.le_of_eq W298.size.symm)
    have K298 := K295.wr W298 (Or.inr sz_c1)
    have O298 := O295.wr W298 g_c1
    have SF298_x1 := Safe.wr W298 SF295_c1 C295.1 SF295_x1
    have SF298_c1 := Safe.wr W298 SF295_c1 C295.1 SF295_c1
    have cs298 := CHr.wr W298 SF295_c1 C295.1
    have C298 := C295.trans cs298
    have hks298 := Nat.le_trans hks295 cs298.2.1
    have r299 : Steps p.tables e below S0 (T298.setTop (mkF m 77 #[.val (.int p1), .val (.int nn), .val (.int ((p1 &&& (255 : Int32)).toUInt32.toUInt16.toUInt32.toInt32)), .val (.int ((((p1.toUInt32 >>> ((8 : Int32) &&& 31).toUInt32).toInt32) &&& (255 : Int32)).toUInt32.toUInt16.toUInt32.toInt32))] [(.ref c1), (.ref x1), (.ref x1)])) := r297.trans (st298 _ (Steps.refl _))
    have r300 : Steps p.tables e below S0 (T298.setTop (mkF m 80 #[.val (.int p1), .val (.int nn), .val (.int ((p1 &&& (255 : Int32)).toUInt32.toUInt16.toUInt32.toInt32)), .val (.int ((((p1.toUInt32 >>> ((8 : Int32) &&& 31).toUInt32).toInt32) &&& (255 : Int32)).toUInt32.toUInt16.toUInt32.toInt32))] [(.int ((((p1.toUInt32 >>> ((8 : Int32) &&& 31).toUInt32).toInt32) &&& (255 : Int32)).toUInt32.toUInt16.toUInt32.toInt32)), (.int (1 : Int32)), (.ref c1), (.ref c1), (.ref x1), (.ref x1)])) := by
      refine r299.trans ?_
      show Steps p.tables e below (T298.setTop (mkF m 77 #[.val (.int p1), .val (.int nn), .val (.int ((p1 &&& (255 : Int32)).toUInt32.toUInt16.toUInt32.toInt32)), .val (.int ((((p1.toUInt32 >>> ((8 : Int32) &&& 31).toUInt32).toInt32) &&& (255 : Int32)).toUInt32.toUInt16.toUInt32.toInt32))] [(.ref c1), (.ref x1), (.ref x1)])) _
      refine XS.dup X298.here hx rfl (hb hby d1_77) rfl rfl ?_
      show Steps p.tables e below (T298.setTop (mkF m 78 #[.val (.int p1), .val (.int nn), .val (.int ((p1 &&& (255 : Int32)).toUInt32.toUInt16.toUInt32.toInt32)), .val (.int ((((p1.toUInt32 >>> ((8 : Int32) &&& 31).toUInt32).toInt32) &&& (255 : Int32)).toUInt32.toUInt16.toUInt32.toInt32))] [(.ref c1), (.ref c1), (.ref x1), (.ref x1)])) _
      refine XS.iconst X298.here hx rfl (hb hby d1_78) ?_
      show Steps p.tables e below (T298.setTop (mkF m 79 #[.val (.int p1), .val (.int nn), .val (.int ((p1 &&& (255 : Int32)).toUInt32.toUInt16.toUInt32.toInt32)), .val (.int ((((p1.toUInt32 >>> ((8 : Int32) &&& 31).toUInt32).toInt32) &&& (255 : Int32)).toUInt32.toUInt16.toUInt32.toInt32))] [(.int (1 : Int32)), (.ref c1), (.ref c1), (.ref x1), (.ref x1)])) _
      refine XS.iloadN X298.here hx rfl (hb hby d1_79) rfl ?_
      exact Steps.refl _
    obtain ⟨T301, h301, X301, e301, W301, V301, st301⟩ := stCA X298 hx hZ e298 V298 (j := (1 : Int32)) (i := 1) (by decide) (by decide) (by first | decide | (simp only [List.length_set, List.length_replicate]; decide)) (by decide) (g := (mkF m 80 #[.val (.int p1), .val (.int nn), .val (.int ((p1 &&& (255 : Int32)).toUInt32.toUInt16.toUInt32.toInt32)), .val (.int ((((p1.toUInt32 >>> ((8 : Int32) &&& 31).toUInt32).toInt32) &&& (255 : Int32)).toUInt32.toUInt16.toUInt32.toInt32))] [(.int ((((p1.toUInt32 >>> ((8 : Int32) &&& 31).toUInt32).toInt32) &&& (255 : Int32)).toUInt32.toUInt16.toUInt32.toInt32)), (.int (1 : Int32)), (.ref c1), (.ref c1), (.ref x1), (.ref x1)])) rfl rfl (hb hby d1_80)
    have N301 := Fr.snoc X301 N298 g_c1
    have F301_x1_value := F298_x1_value.other W301 (Or.inl ne_x1_c1)
    have F301_x1_coder := F298_x1_coder.other W301 (Or.inl ne_x1_c1)
    have E301_x1 := E298_x1.wr W301
    have Z301 : n0 ≤ h301.size := Nat.le_trans Z298 (Nat.le_of_eq W301.size.symm)
    have K301 := K298.wr W301 (Or.inr sz_c1)
    have O301 := O298.wr W301 g_c1
    have SF301_x1 := Safe.wr W301 SF298_c1 C298.1 SF298_x1
    have SF301_c1 := Safe.wr W301 SF298_c1 C298.1 SF298_c1
    have cs301 := CHr.wr W301 SF298_c1 C298.1
    have C301 := C298.trans cs301
    have hks301 := Nat.le_trans hks298 cs301.2.1
    have r302 : Steps p.tables e below S0 (T301.setTop (mkF m 81 #[.val (.int p1), .val (.int nn), .val (.int ((p1 &&& (255 : Int32)).toUInt32.toUInt16.toUInt32.toInt32)), .val (.int ((((p1.toUInt32 >>> ((8 : Int32) &&& 31).toUInt32).toInt32) &&& (255 : Int32)).toUInt32.toUInt16.toUInt32.toInt32))] [(.ref c1), (.ref x1), (.ref x1)])) := r300.trans (st301 _ (Steps.refl _))
    obtain ⟨_, _, ⟨T303, L303, k303, n303⟩, -, X303, ⟨Lc303, hQ303, l303, y303, z303⟩, st303⟩ := X301.specialBack hx (y := (⟨"java/lang/String", "<init>", "([C)V"⟩ : MethodName)) rfl hown (mvT hZ (hw _ (List.mem_of_getElem? (i := 8) rfl))) (mvT hZ (hw _ (List.mem_of_getElem? (i := 9) rfl))) (mvT hZ (hw _ (List.mem_of_getElem? (i := 10) rfl))) (by decide) (StrChars.Road.backV (W := 1) hZ hws (kI := 4) (hw _ (List.mem_of_getElem? (i := 5) rfl)) (cs := ([nar .char ((p1 &&& (255 : Int32)).toUInt32.toUInt16.toUInt32.toInt32), nar .char ((((p1.toUInt32 >>> ((8 : Int32) &&& 31).toUInt32).toInt32) &&& (255 : Int32)).toUInt32.toUInt16.toUInt32.toInt32)] : List Int32)) (bs := ([nar .char ((p1 &&& (255 : Int32)).toUInt32.toUInt16.toUInt32.toInt32), nar .char ((((p1.toUInt32 >>> ((8 : Int32) &&& 31).toUInt32).toInt32) &&& (255 : Int32)).toUInt32.toUInt16.toUInt32.toInt32)] : List Int32).map (fun c => c.toInt8.toInt32)) (n := 2) g_x1 Z301 E301_x1 F301_x1_value F301_x1_coder V301 (Sc.ext O301.2) hcz rfl rfl (by decide) (by decide) (own_lat2 p1).2 rfl (by decide) (by decide)) (g := (mkF m 81 #[.val (.int p1), .val (.int nn), .val (.int ((p1 &&& (255 : Int32)).toUInt32.toUInt16.toUInt32.toInt32)), .val (.int ((((p1.toUInt32 >>> ((8 : Int32) &&& 31).toUInt32).toInt32) &&& (255 : Int32)).toUInt32.toUInt16.toUInt32.toInt32))] [(.ref c1), (.ref x1), (.ref x1)])) rfl (by rw [hml]; rfl) (Steps.refl _) (a := x1) (argsL := [(.ref c1)]) (rest := [(.ref x1)]) (lenOf pd_17 rfl) rfl (by show 2 * 0 + _ ≤ _; exact Nat.le_of_eq rfl) (hb hby d1_81) (fun _ _ => ⟨rfl, e301, (by decide : ((0 + 1) + 1) + 1 ≤ _), (by decide : ((0 + 4) + 2) + 2 ≤ _)⟩)
    dsimp only [Pt.U, Pt.locs, Pt.cells, Pt.slots] at X303 l303 y303 z303 st303 hQ303
    subst l303 y303 z303
    obtain ⟨rfl, Nq303, Kc303, Ec, Fcc, t, kt, gt, st_, nt, Fvc, Avc⟩ := hQ303
    have N303 := Fr.app N301 Nq303
    have r304 : Steps p.tables e below S0 (T303.setTop (mkF m 84 #[.val (.int p1), .val (.int nn), .val (.int ((p1 &&& (255 : Int32)).toUInt32.toUInt16.toUInt32.toInt32)), .val (.int ((((p1.toUInt32 >>> ((8 : Int32) &&& 31).toUInt32).toInt32) &&& (255 : Int32)).toUInt32.toUInt16.toUInt32.toInt32))] [(.ref x1)])) := r302.trans st303
    have E303_x1 := E301_x1.keep Kc303
    have Z303 : n0 ≤ T303.heap.size := Nat.le_trans Z301 Kc303.1
    have K303 := K301.trans Kc303 (allS (Or.inr sz_x1) (all0))
    have O303 := O301.keep Kc303 (allS g_x1 (all0))
    have SF303_x1 := Safe.keep Kc303 (allS SF301_x1 (all0)) C301.1 SF301_x1
    have SF303_c1 := Safe.keep Kc303 (allS SF301_x1 (all0)) C301.1 SF301_c1
    have cs303 := CHr.keep Kc303 (allS SF301_x1 (all0)) C301.1
    have C303 := C301.trans cs303
    have hks303 := Nat.le_trans hks301 cs303.2.1
    obtain ⟨fs, hr, hrun, hended, hRW⟩ := X303.leaveW hS0_ hks303 (v := some (.ref x1)) (fun h => by rw [Bd.returns] at h; cases h)
    refine ⟨_, _, pre0 _ ?_, hrun, hended, _, _, rfl, ?_, ?_, hRW.1, hRW.2.1, hRW.2.2.1, hRW.2.2.2.mono (by decide) (by decide)⟩
    · rw [← hS0]
      refine r304.trans ?_
      show Steps p.tables e below (T303.setTop (mkF m 84 #[.val (.int p1), .val (.int nn), .val (.int ((p1 &&& (255 : Int32)).toUInt32.toUInt16.toUInt32.toInt32)), .val (.int ((((p1.toUInt32 >>> ((8 : Int32) &&& 31).toUInt32).toInt32) &&& (255 : Int32)).toUInt32.toUInt16.toUInt32.toInt32))] [(.ref x1)])) _
      jvm_step X303.here [X303.here.top, hx, (hb hby d1_84), X303.method', Bd.returns, Value.isRef, FieldType.isReference]
      first | (intro acts; rw [hr _ acts rfl rfl rfl]) | rw [hr _ _ rfl rfl rfl]
      exact Steps.refl _
    · show QmMk Z p1 cz h0 n0 _ T303.heap _; exact ⟨(.ref x1), t, kt, ([nar .char ((p1 &&& (255 : Int32)).toUInt32.toUInt16.toUInt32.toInt32), nar .char ((((p1.toUInt32 >>> ((8 : Int32) &&& 31).toUInt32).toInt32) &&& (255 : Int32)).toUInt32.toUInt16.toUInt32.toInt32)] : List Int32), rfl, N303, K303, Or.inr ⟨x1, rfl, Ec, Fcc, Fvc, Avc⟩, own_lat2 p1⟩
    · show CHr Z consts_1 s.vm s.heap T303.vm T303.heap; rw [hh]; exact C303.trans (CHv.at X303 hZ hEL C303.1)
def QApp (Z : State) (a1 vb : Addr) (kv : ClassId) (n : Nat) (vs : List Value) (cs : List Int32) (h0 : Heap) (n0 : Nat) (v : Option Value) (h : Heap) (L : List Loc) : Prop := v = some (.ref a1) ∧ Fr n0 L ∧ Keep h0 h [a1, vb] ∧ BV Z h a1 vb kv (n + cs.length) (vs.take n ++ bv cs ++ vs.drop (n + cs.length))
theorem rmApp (l : Launch) (Z : State) (a0 : Array Value) (hw : ∀ d ∈ tables_1, d.before a0 Z = true) (ws : List Jvm.Cond) (a1 : Addr) (v1 : Value) (cz : Int32) (vb : Addr) (kv : ClassId) (n : Nat) (vs : List Value) (b : Addr) (kb : ClassId) (cs : List Int32) (h0 : Heap) (n0 : Nat) (Z0 : n0 ≤ h0.size) (O0 : Old Z n0 h0) (Sc : Sta Z Z.heap "java/lang/String" "COMPACT_STRINGS" "Z" (.int cz)) (hcz : ¬ cz = 0)(hB : BV Z h0 a1 vb kv n vs) (hN : NS Z h0 v1 b kb cs) (hl : LatN 16 cs) (hin : n + cs.length ≤ 16) (g_a1 : n0 ≤ a1) (g_vb : n0 ≤ vb) :
    MetFree l (⟨"java/lang/StringBuilder", "append", "(Ljava/lang/String;)Ljava/lang/StringBuilder;"⟩ : MethodName) (head1 (Jvm.Cond.code (⟨"java/lang/StringBuilder", "append", "(Ljava/lang/String;)Ljava/lang/StringBuilder;"⟩ : MethodName) jdk_67_method_7_code 2 (some (.object "java/lang/StringBuilder")) :: ws) ({ frames := 4, cells := 0, slots := 0, locals := 106 } : Room)) (fun a U => a = #[(.ref a1), v1] ∧ Z.Warmed39 U.vm ∧ U.heap = h0) (fun _ _ _ _ _ => True) (fun _ U o U' => ∃ v L, o = .returned v ∧ QApp Z a1 vb kv n vs cs h0 n0 v U'.heap L ∧ FrameEnd U o U' L ({ frames := 4, cells := 0, slots := 0, locals := 106 } : Room).cells ({ frames := 4, cells := 0, slots := 0, locals := 106 } : Room).slots) := by
  rcases hN with ⟨rfl, rfl⟩ | ⟨a2, rfl, hS⟩
  · exact rmSp0 l Z a0 hw ws a1 cz vb kv n vs h0 n0 Z0 O0 Sc hcz hB hin g_a1 g_vb
  · exact rmSp1 l Z a0 hw ws a1 a2 cz vb kv n vs b kb cs h0 n0 Z0 O0 Sc hcz hB hS hl hin g_a1 g_vb
def QLi (Z : State) (a1 : Addr) (v1 v2 : Value) (h0 : Heap) (n0 : Nat) (v : Option Value) (h : Heap) (L : List Loc) : Prop := v = none ∧ Fr n0 L ∧ Keep h0 h [a1] ∧ Exa Z h a1 "com/example/spectraloom/spectraloom/model/Link" ∧ Fld Z h a1 "com/example/spectraloom/spectraloom/model/Link" "source" "Ljava/lang/String;" v1 ∧ Fld Z h a1 "com/example/spectraloom/spectraloom/model/Link" "target" "Ljava/lang/String;" v2
theorem rmLi (l : Launch) (Z : State) (a0 : Array Value) (hw : ∀ d ∈ tables_1, d.before a0 Z = true) (ws : List Jvm.Cond) (a1 : Addr) (v1 v2 : Value) (dd : UInt64) (b1 b2 : Addr) (k1 k2 : ClassId) (cs1 cs2 : List Int32) (h0 : Heap) (n0 : Nat) (Z0 : n0 ≤ h0.size) (N1 : NS Z h0 v1 b1 k1 cs1) (N2 : NS Z h0 v2 b2 k2 cs2) (Ea : Exa Z h0 a1 "com/example/spectraloom/spectraloom/model/Link") (Fs : Fld Z h0 a1 "com/example/spectraloom/spectraloom/model/Link" "source" "Ljava/lang/String;" .null) (Ft : Fld Z h0 a1 "com/example/spectraloom/spectraloom/model/Link" "target" "Ljava/lang/String;" .null) (Fd : Fld Z h0 a1 "com/example/spectraloom/spectraloom/model/Link" "lengthKm" "D" (.double (0 : UInt64))) (g_a1 : n0 ≤ a1) :
    MetFree l (⟨"com/example/spectraloom/spectraloom/model/Link", "<init>", "(Ljava/lang/String;Ljava/lang/String;D)V"⟩ : MethodName) (head1 (Jvm.Cond.code (⟨"com/example/spectraloom/spectraloom/model/Link", "<init>", "(Ljava/lang/String;Ljava/lang/String;D)V"⟩ : MethodName) prog_19_method_1_code 5 none :: ws) ({ frames := 2, cells := 0, slots := 0, locals := 24 } : Room)) (fun a U => a = #[(.ref a1), v1, v2, (.double dd)] ∧ Z.Warmed39 U.vm ∧ U.heap = h0) (fun _ _ _ _ _ => True) (fun _ U o U' => ∃ v L, o = .returned v ∧ QLi Z a1 v1 v2 h0 n0 v U'.heap L ∧ FrameEnd U o U' L ({ frames := 2, cells := 0, slots := 0, locals := 24 } : Room).cells ({ frames := 2, cells := 0, slots := 0, locals := 24 } : Room).slots) := by
  rcases N1 with ⟨rfl, -⟩ | ⟨a2, rfl, -⟩ <;> rcases N2 with ⟨rfl, -⟩ | ⟨a3, rfl, -⟩
  · exact rmLi00 l Z a0 hw ws a1 dd h0 n0 Z0 Ea Fs Ft Fd g_a1
  · exact rmLi01 l Z a0 hw ws a1 a3 dd h0 n0 Z0 Ea Fs Ft Fd g_a1
  · exact rmLi10 l Z a0 hw ws a1 a2 dd h0 n0 Z0 Ea Fs Ft Fd g_a1
  · exact rmLi11 l Z a0 hw ws a1 a2 a3 dd h0 n0 Z0 Ea Fs Ft Fd g_a1
theorem pn_7 : plainName "com/example/spectraloom/spectraloom/model/Link" = true := by first | (simp [plainName, overriddenIn]; done) | decide +kernel
theorem ef_7 (m : MethodId) (x0 : Addr) : entryFrame m #[(.ref x0)] 1 = mkF m 0 #[.val (.ref x0)] [] := by first | (simp [entryFrame, mkF, argsToLocals, Value.category]; done) | rfl
def QmTo (Z : State) (a1 : Addr) (cz : Int32) (v1 : Value) (b1 : Addr) (k1 : ClassId) (cs1 : List Int32) (v2 : Value) (b2 : Addr) (k2 : ClassId) (cs2 : List Int32) (h0 : Heap) (n0 : Nat) (v : Option Value) (h : Heap) (L : List Loc) : Prop := ∃ (x c : Addr) (k : ClassId), v = some (.ref x) ∧ Fr n0 L ∧ Keep h0 h [] ∧ StrAt Z h x c k (cs1 ++ 45 :: cs2)
set_option maxRecDepth 65536 in
set_option maxHeartbeats 40000000 in
theorem rmTo (l : Launch) (Z : State) (a0 : Array Value) (hw : ∀ d ∈ tables_1, d.before a0 Z = true) (ws : List Jvm.Cond) (a1 : Addr) (cz : Int32) (v1 : Value) (b1 : Addr) (k1 : ClassId) (cs1 : List Int32) (v2 : Value) (b2 : Addr) (k2 : ClassId) (cs2 : List Int32) (h0 : Heap) (n0 : Nat) (Z0 : n0 ≤ h0.size) (O0 : Old Z n0 h0) (Sc : Sta Z Z.heap "java/lang/String" "COMPACT_STRINGS" "Z" (.int cz)) (hcz : ¬ cz = 0) (Ea : Exa Z h0 a1 "com/example/spectraloom/spectraloom/model/Link") (Fs : Fld Z h0 a1 "com/example/spectraloom/spectraloom/model/Link" "source" "Ljava/lang/String;" v1) (Ft : Fld Z h0 a1 "com/example/spectraloom/spectraloom/model/Link" "target" "Ljava/lang/String;" v2) (N1 : NS Z h0 v1 b1 k1 cs1) (N2 : NS Z h0 v2 b2 k2 cs2) (L1 : LatN 4 cs1) (L2 : LatN 4 cs2) (hEL : EW Z a0 consts_1) :
    MetFree l (⟨"com/example/spectraloom/spectraloom/model/Link", "toString", "()Ljava/lang/String;"⟩ : MethodName) (head1 (Jvm.Cond.code (⟨"com/example/spectraloom/spectraloom/model/Link", "toString", "()Ljava/lang/String;"⟩ : MethodName) prog_19_method_2_code 1 (some (.object "java/lang/String")) :: ws) ({ frames := 6, cells := 6, slots := 60, locals := 150 } : Room)) (fun a U => a = #[(.ref a1)] ∧ Z.Warmed39 U.vm ∧ U.heap = h0 ∧ CHv Z consts_1 U.vm h0) (fun _ _ _ _ _ => True) (fun _ U o U' => ∃ v L, o = .returned v ∧ QmTo Z a1 cz v1 b1 k1 cs1 v2 b2 k2 cs2 h0 n0 v U'.heap L ∧ CHr Z consts_1 U.vm U.heap U'.vm U'.heap ∧ ReturnedEndW U o U' L ({ frames := 6, cells := 6, slots := 60, locals := 150 } : Room).cells ({ frames := 6, cells := 6, slots := 60, locals := 150 } : Room).slots) := by
  refine MetFree.of_bodySF (plainFor_of_name pn_7) hisR ?_
  intro p e s m args below meth c s₁ Bd hml0 hP hK
  obtain ⟨rfl, hZ, hh, hCH⟩ := hP
  have hst : ∀ d ∈ Bundle.stringAtoms, d.before a0 Z = true := fun d hd => hw d ((by decide +kernel : ∀ d ∈ Bundle.stringAtoms, d ∈ tables_1) d hd)
  have hx := Bd.exec
  have hby := Bd.bytes
  have hml : c.maxLocals = 1 := hml0
  have hown : s.vm.findClass "com/example/spectraloom/spectraloom/model/Link" = some m.cls := findClass_of_methodNamed Bd.named
  have hnm := (name_of_methodNamed Bd.named Bd.method).1
  have X0 : Stand p l e ({ frames := 6, cells := 6, slots := 60, locals := 150 } : Room) s m #[(.ref a1)] below meth c s₁ [] 0 0 := Stand.of_body Bd
  have e0 : s₁.heap = h0 := by rw [← hh, Bd.state]; rfl
  have N0 := Fr.nil n0
  have pre0 : ∀ t, Steps p.tables e below (s₁.setTop (mkF m 0 #[.val (.ref a1)] [])) t → Steps p.tables e below (s₁.setTop (entryFrame m #[(.ref a1)] 1)) t := fun t_ k_ => castTop (ef_7 m a1) k_
  obtain ⟨S0, hS0⟩ : ∃ z, z = s₁.setTop (mkF m 0 #[.val (.ref a1)] []) := ⟨_, rfl⟩
  have r0 : Steps p.tables e below S0 (s₁.setTop (mkF m 0 #[.val (.ref a1)] [])) := by rw [hS0]; exact Steps.refl _
  have K0 := Keep.refl h0 []
  have l1 := L1.1
  have l2 := L2.1
  have hC0 := CHv.at (vm0 := s.vm) (s := s) X0 hZ hEL hCH
  have hS0_ : s.Since s₁.vm 0 := X0.warmed.since 0
  have hZ0_ : Z.Warmed39 (s.setVm s₁.vm).vm := wtrans hZ X0.warmed
  have hown0_ : (s.setVm s₁.vm).vm.findClass "com/example/spectraloom/spectraloom/model/Link" = some m.cls := by rw [show (s.setVm s₁.vm).vm = s₁.vm from rfl, X0.warmed.alike.findClass]; exact hown
  have Xs : Stand p l e ({ frames := 6, cells := 6, slots := 60, locals := 150 } : Room) (s.setVm s₁.vm) m #[(.ref a1)] below meth c s₁ [] 0 0 := X0.retabled X0.warmed.wide
  have hZ := hZ0_
  have hown := hown0_
  obtain ⟨T305, h305, X305, e305, E305, A305, D305, -, st305⟩ := newO Xs hx hZ hown (hw _ (List.mem_of_getElem? (i := 49) rfl)) (hw _ (List.mem_of_getElem? (i := 50) rfl)) (hw _ (List.mem_of_getElem? (i := 51) rfl)) e0 (g := (mkF m 0 #[.val (.ref a1)] [])) rfl (hb hby d7_0) (by decide) (by decide)
  obtain ⟨sb, g305⟩ : ∃ z, z = h0.size := ⟨_, rfl⟩
  rw [← g305] at A305 D305 st305
  have ne_a1_sb : a1 ≠ sb := Nat.ne_of_lt (by rw [g305]; exact Ea.lt)
  have SF0_sb : Safe Z consts_1 s₁.vm h0 sb := Safe.new (Nat.le_of_eq g305.symm)
  have g_sb : n0 ≤ sb := Nat.le_trans Z0 (Nat.le_of_eq g305.symm)
  have sz_sb : h0.size ≤ sb := Nat.le_trans K0.1 (Nat.le_of_eq g305.symm)
  have F305_a1_source := Fs.ext E305
  have F305_a1_target := Ft.ext E305
  have E305_a1 := Ea.ext E305
  have Z305 : n0 ≤ h305.size := Nat.le_trans Z0 E305.1
  have K305 := K0.ext E305
  have O305 := O0.ext E305
  have SF305_sb := Safe.ext E305 hC0.1 SF0_sb
  have cs305 := CHr.ext E305 hC0.1
  have C305 := hC0.trans cs305
  have hks305 := Nat.le_trans (Nat.zero_le _) cs305.2.1
  have F_sb_value : Fld Z h305 sb "java/lang/AbstractStringBuilder" "value" "[B" .null := D305 (Or.inl (hw _ (List.mem_of_getElem? (i := 64) rfl))) (ty := (.array .byte)) (by decide)
  have F_sb_coder : Fld Z h305 sb "java/lang/AbstractStringBuilder" "coder" "B" (.int (0 : Int32)) := D305 (Or.inl (hw _ (List.mem_of_getElem? (i := 66) rfl))) (ty := .byte) (by decide)
  have F_sb_count : Fld Z h305 sb "java/lang/AbstractStringBuilder" "count" "I" (.int (0 : Int32)) := D305 (Or.inl (hw _ (List.mem_of_getElem? (i := 89) rfl))) (ty := .int) (by decide)
  have r306 : Steps p.tables e below S0 (T305.setTop (mkF m 3 #[.val (.ref a1)] [(.ref sb)])) := r0.trans (st305 _ (Steps.refl _))
  have r307 : Steps p.tables e below S0 (T305.setTop (mkF m 4 #[.val (.ref a1)] [(.ref sb), (.ref sb)])) := by
    refine r306.trans ?_
    show Steps p.tables e below (T305.setTop (mkF m 3 #[.val (.ref a1)] [(.ref sb)])) _
    refine XS.dup X305.here hx rfl (hb hby d7_3) rfl rfl ?_
    exact Steps.refl _
  obtain ⟨_, _, ⟨T308, L308, k308, n308⟩, -, X308, ⟨Lc308, hQ308, l308, y308, z308⟩, st308⟩ := X305.specialBack hx (y := (⟨"java/lang/StringBuilder", "<init>", "()V"⟩ : MethodName)) rfl hown (mvT hZ (hw _ (List.mem_of_getElem? (i := 52) rfl))) (mvT hZ (hw _ (List.mem_of_getElem? (i := 53) rfl))) (mvT hZ (hw _ (List.mem_of_getElem? (i := 54) rfl))) (by decide) (backOf (W := 1) (rmBI l Z a0 hw [] sb cz h305 n0 Z305 O305 Sc hcz A305 F_sb_value F_sb_coder F_sb_count g_sb) hZ (hw _ (List.mem_of_getElem? (i := 54) rfl)) (hw _ (List.mem_of_getElem? (i := 51) rfl)) (by decide) (by decide)) (g := (mkF m 4 #[.val (.ref a1)] [(.ref sb), (.ref sb)])) rfl (by rw [hml]; rfl) (Steps.refl _) (a := sb) (argsL := []) (rest := [(.ref sb)]) (lenOf pd_9 rfl) rfl (by show 2 * 0 + _ ≤ _; exact Nat.le_of_eq rfl) (hb hby d7_4) (fun _ _ => ⟨rfl, e305, (by decide : (0 + 1) + 1 ≤ _), (by decide : (0 + 4) + 16 ≤ _)⟩)
  dsimp only [Pt.U, Pt.locs, Pt.cells, Pt.slots] at X308 l308 y308 z308 st308 hQ308
  subst l308 y308 z308
  obtain ⟨rfl, Nq308, Kc308, vb, kv, szv, g_vb, hB0⟩ := hQ308
  have N308 := Fr.app N0 Nq308
  have r309 : Steps p.tables e below S0 (T308.setTop (mkF m 7 #[.val (.ref a1)] [(.ref sb)])) := r307.trans st308
  have SFv0 : Safe Z consts_1 s₁.vm h305 vb := Safe.new szv
  have ne_a1_vb : a1 ≠ vb := Nat.ne_of_lt (Nat.lt_of_lt_of_le E305_a1.lt szv)
  have sz_vb : h0.size ≤ vb := Nat.le_trans K305.1 szv
  have F308_a1_source := F305_a1_source.keep Kc308 (ninS ne_a1_sb nin0)
  have F308_a1_target := F305_a1_target.keep Kc308 (ninS ne_a1_sb nin0)
  have E308_a1 := E305_a1.keep Kc308
  have E308_sb := A305.keep Kc308
  have Z308 : n0 ≤ T308.heap.size := Nat.le_trans Z305 Kc308.1
  have K308 := K305.trans Kc308 (allS (Or.inr sz_sb) (all0))
  have O308 := O305.keep Kc308 (allS g_sb (all0))
  have SF308_sb := Safe.keep Kc308 (allS SF305_sb (all0)) C305.1 SF305_sb
  have SF308_vb := Safe.keep Kc308 (allS SF305_sb (all0)) C305.1 SFv0
  have cs308 := CHr.keep Kc308 (allS SF305_sb (all0)) C305.1
  have C308 := C305.trans cs308
  have hks308 := Nat.le_trans hks305 cs308.2.1
  have r310 : Steps p.tables e below S0 (T308.setTop (mkF m 8 #[.val (.ref a1)] [(.ref a1), (.ref sb)])) := by
    refine r309.trans ?_
    show Steps p.tables e below (T308.setTop (mkF m 7 #[.val (.ref a1)] [(.ref sb)])) _
    refine XS.aloadN X308.here hx rfl (hb hby d7_7) rfl rfl ?_
    exact Steps.refl _
  obtain ⟨T311, X311, e311, st311⟩ := getF X308 hx hZ hown (host := "") (Or.inl (hw _ (List.mem_of_getElem? (i := 38) rfl))) Via.refl rfl F308_a1_source (g := (mkF m 8 #[.val (.ref a1)] [(.ref a1), (.ref sb)])) rfl rfl (hb hby d7_8)
  have r312 : Steps p.tables e below S0 (T311.setTop (mkF m 11 #[.val (.ref a1)] [v1, (.ref sb)])) := r310.trans (st311 _ (Steps.refl _))
  obtain ⟨cq313, kq313, q313a, q313b, q313c⟩ := isOf hZ e311 hB0.1
  obtain ⟨_, _, ⟨T313, L313, k313, n313⟩, -, X313, ⟨Lc313, hQ313, l313, y313, z313⟩, st313⟩ := X311.virtualBack hx (y := (⟨"java/lang/StringBuilder", "append", "(Ljava/lang/String;)Ljava/lang/StringBuilder;"⟩ : MethodName)) (z := (⟨"java/lang/StringBuilder", "append", "(Ljava/lang/String;)Ljava/lang/StringBuilder;"⟩ : MethodName)) hown (mvT hZ (hw _ (List.mem_of_getElem? (i := 67) rfl))) (mvT hZ (hw _ (List.mem_of_getElem? (i := 68) rfl))) (notFace_of_selects (args := #[]) (mvT hZ (hw _ (List.mem_of_getElem? (i := 70) rfl)))) (mvT hZ (hw _ (List.mem_of_getElem? (i := 70) rfl))) (mvT hZ (hw _ (List.mem_of_getElem? (i := 69) rfl))) (by decide) (backOf (W := 0) (rmApp l Z a0 hw [] sb v1 cz vb kv (0) ((List.replicate 16 (Value.int 0))) b1 k1 cs1 T308.heap n0 Z308 O308 Sc hcz hB0 (N1.later K308 all0) (own_up16 L1) (by first | omega | (simp only [List.length_cons, List.length_nil]; omega)) g_sb g_vb) hZ (hw _ (List.mem_of_getElem? (i := 71) rfl)) (hw _ (List.mem_of_getElem? (i := 51) rfl)) (by decide) (by decide)) q313a q313c (g := (mkF m 11 #[.val (.ref a1)] [v1, (.ref sb)])) rfl (by rw [hml]; rfl) (Steps.refl _) (argsL := [v1]) (rest := []) (lenOf pd_18 rfl) rfl (by show 2 * 0 + _ ≤ _; exact Nat.le_of_eq rfl) (hb hby d7_11) (fun _ _ => ⟨rfl, e311, (by decide : ((0 + 1) + 1) + 0 ≤ _), (by decide : ((0 + 4) + 16) + 0 ≤ _)⟩)
  dsimp only [Pt.U, Pt.locs, Pt.cells, Pt.slots] at X313 l313 y313 z313 st313 hQ313
  subst l313 y313 z313
  obtain ⟨rfl, Nq313, Kc313, hB1⟩ := hQ313
  have N313 := Fr.app N308 Nq313
  have r314 : Steps p.tables e below S0 (T313.setTop (mkF m 14 #[.val (.ref a1)] [(.ref sb)])) := r312.trans st313
  have F313_a1_source := F308_a1_source.keep Kc313 (ninS ne_a1_sb (ninS ne_a1_vb nin0))
  have F313_a1_target := F308_a1_target.keep Kc313 (ninS ne_a1_sb (ninS ne_a1_vb nin0))
  have E313_a1 := E308_a1.keep Kc313
  have E313_sb := hB0.1.keep Kc313
  have Z313 : n0 ≤ T313.heap.size := Nat.le_trans Z308 Kc313.1
  have K313 := K308.trans Kc313 (allS (Or.inr sz_sb) (allS (Or.inr sz_vb) (all0)))
  have O313 := O308.keep Kc313 (allS g_sb (allS g_vb (all0)))
  have SF313_sb := Safe.keep Kc313 (allS SF308_sb (allS SF308_vb (all0))) C308.1 SF308_sb
  have SF313_vb := Safe.keep Kc313 (allS SF308_sb (allS SF308_vb (all0))) C308.1 SF308_vb
  have cs313 := CHr.keep Kc313 (allS SF308_sb (allS SF308_vb (all0))) C308.1
  have C313 := C308.trans cs313
  have hks313 := Nat.le_trans hks308 cs313.2.1
  obtain ⟨dq, T315, h315, k1315, db, dk, X315, e315, E315, hSn315, hkn315, hZ, hown, Ex315, Fc315, Fv315, Av315, la315, lb315, hC315, hLit315, hne315, st315⟩ := ldcCH X313 hx hZ hown (hw _ (List.mem_of_getElem? (i := 115) rfl)) hst rfl hS0_ hks313 hEL (by decide) C313.1 (vs := bv ([45] : List Int32)) (z := Int32.ofNat (([45] : List Int32) : List Int32).length) (by decide +kernel) (by decide) (by decide) (g := (mkF m 14 #[.val (.ref a1)] [(.ref sb)])) rfl (hb hby d7_14) (n := 4) (by decide) (by decide) (by decide) (by decide)
  have SFl315_sb := CHr.safe hC315 hB1.1.lt SF313_sb
  have SFl315_vb := CHr.safe hC315 hB1.2.2.2.2.1.lt SF313_vb
  have F315_a1_source := F313_a1_source.ext E315
  have F315_a1_target := F313_a1_target.ext E315
  have E315_a1 := E313_a1.ext E315
  have E315_sb := hB1.1.ext E315
  have Z315 : n0 ≤ h315.size := Nat.le_trans Z313 E315.1
  have K315 := K313.ext E315
  have O315 := O313.ext E315
  have C315 := C313.trans hC315
  have St_dq : StrAt Z h315 dq db dk ([45] : List Int32) := ⟨Ex315, Fc315, Fv315, Av315⟩
  have r316 : Steps p.tables e below S0 (T315.setTop (mkF m 16 #[.val (.ref a1)] [(.ref dq), (.ref sb)])) := r314.trans (st315 _ (Steps.refl _))
  have hB1e := BV.ext hB1 E315
  obtain ⟨cq317, kq317, q317a, q317b, q317c⟩ := isOf hZ e315 hB1e.1
  obtain ⟨_, _, ⟨T317, L317, k317, n317⟩, -, X317, ⟨Lc317, hQ317, l317, y317, z317⟩, st317⟩ := X315.virtualBack hx (y := (⟨"java/lang/StringBuilder", "append", "(Ljava/lang/String;)Ljava/lang/StringBuilder;"⟩ : MethodName)) (z := (⟨"java/lang/StringBuilder", "append", "(Ljava/lang/String;)Ljava/lang/StringBuilder;"⟩ : MethodName)) hown (mvT hZ (hw _ (List.mem_of_getElem? (i := 67) rfl))) (mvT hZ (hw _ (List.mem_of_getElem? (i := 68) rfl))) (notFace_of_selects (args := #[]) (mvT hZ (hw _ (List.mem_of_getElem? (i := 70) rfl)))) (mvT hZ (hw _ (List.mem_of_getElem? (i := 70) rfl))) (mvT hZ (hw _ (List.mem_of_getElem? (i := 69) rfl))) (by decide) (backOf (W := 0) (rmApp l Z a0 hw [] sb (.ref dq) cz vb kv (0 + cs1.length) ((((List.replicate 16 (Value.int 0))).take (0) ++ bv cs1 ++ ((List.replicate 16 (Value.int 0))).drop (0 + cs1.length))) db dk ([45] : List Int32) h315 n0 Z315 O315 Sc hcz hB1e (Or.inr ⟨dq, rfl, St_dq⟩) own_lat45 (by first | omega | (simp only [List.length_cons, List.length_nil]; omega)) g_sb g_vb) hZ (hw _ (List.mem_of_getElem? (i := 71) rfl)) (hw _ (List.mem_of_getElem? (i := 51) rfl)) (by decide) (by decide)) q317a q317c (g := (mkF m 16 #[.val (.ref a1)] [(.ref dq), (.ref sb)])) rfl (by rw [hml]; rfl) (Steps.refl _) (argsL := [(.ref dq)]) (rest := []) (lenOf pd_18 rfl) rfl (by show 2 * 0 + _ ≤ _; exact Nat.le_of_eq rfl) (hb hby d7_16) (fun _ _ => ⟨rfl, e315, (by decide : ((((0 + 1) + 1) + 0) + 2) + 0 ≤ _), (by decide : ((((0 + 4) + 16) + 0) + (4 + 4)) + 0 ≤ _)⟩)
  dsimp only [Pt.U, Pt.locs, Pt.cells, Pt.slots] at X317 l317 y317 z317 st317 hQ317
  subst l317 y317 z317
  obtain ⟨rfl, Nq317, Kc317, hB2⟩ := hQ317
  have N317 := Fr.app N313 Nq317
  have r318 : Steps p.tables e below S0 (T317.setTop (mkF m 19 #[.val (.ref a1)] [(.ref sb)])) := r316.trans st317
  have F317_a1_source := F315_a1_source.keep Kc317 (ninS ne_a1_sb (ninS ne_a1_vb nin0))
  have F317_a1_target := F315_a1_target.keep Kc317 (ninS ne_a1_sb (ninS ne_a1_vb nin0))
  have E317_a1 := E315_a1.keep Kc317
  have E317_sb := hB1e.1.keep Kc317
  have Z317 : n0 ≤ T317.heap.size := Nat.le_trans Z315 Kc317.1
  have K317 := K315.trans Kc317 (allS (Or.inr sz_sb) (allS (Or.inr sz_vb) (all0)))
  have O317 := O315.keep Kc317 (allS g_sb (allS g_vb (all0)))
  have SF317_sb := Safe.keep Kc317 (allS SFl315_sb (allS SFl315_vb (all0))) C315.1 SFl315_sb
  have SF317_vb := Safe.keep Kc317 (allS SFl315_sb (allS SFl315_vb (all0))) C315.1 SFl315_vb
  have cs317 := CHr.keep Kc317 (allS SFl315_sb (allS SFl315_vb (all0))) C315.1
  have C317 := C315.trans cs317
  have hks317 := Nat.le_trans hkn315 cs317.2.1
  have r319 : Steps p.tables e below S0 (T317.setTop (mkF m 20 #[.val (.ref a1)] [(.ref a1), (.ref sb)])) := by
    refine r318.trans ?_
    show Steps p.tables e below (T317.setTop (mkF m 19 #[.val (.ref a1)] [(.ref sb)])) _
    refine XS.aloadN X317.here hx rfl (hb hby d7_19) rfl rfl ?_
    exact Steps.refl _
  obtain ⟨T320, X320, e320, st320⟩ := getF X317 hx hZ hown (host := "") (Or.inl (hw _ (List.mem_of_getElem? (i := 40) rfl))) Via.refl rfl F317_a1_target (g := (mkF m 20 #[.val (.ref a1)] [(.ref a1), (.ref sb)])) rfl rfl (hb hby d7_20)
  have r321 : Steps p.tables e below S0 (T320.setTop (mkF m 23 #[.val (.ref a1)] [v2, (.ref sb)])) := r319.trans (st320 _ (Steps.refl _))
  obtain ⟨cq322, kq322, q322a, q322b, q322c⟩ := isOf hZ e320 hB2.1
  obtain ⟨_, _, ⟨T322, L322, k322, n322⟩, -, X322, ⟨Lc322, hQ322, l322, y322, z322⟩, st322⟩ := X320.virtualBack hx (y := (⟨"java/lang/StringBuilder", "append", "(Ljava/lang/String;)Ljava/lang/StringBuilder;"⟩ : MethodName)) (z := (⟨"java/lang/StringBuilder", "append", "(Ljava/lang/String;)Ljava/lang/StringBuilder;"⟩ : MethodName)) hown (mvT hZ (hw _ (List.mem_of_getElem? (i := 67) rfl))) (mvT hZ (hw _ (List.mem_of_getElem? (i := 68) rfl))) (notFace_of_selects (args := #[]) (mvT hZ (hw _ (List.mem_of_getElem? (i := 70) rfl)))) (mvT hZ (hw _ (List.mem_of_getElem? (i := 70) rfl))) (mvT hZ (hw _ (List.mem_of_getElem? (i := 69) rfl))) (by decide) (backOf (W := 0) (rmApp l Z a0 hw [] sb v2 cz vb kv (0 + cs1.length + ([45] : List Int32).length) ((((((List.replicate 16 (Value.int 0))).take (0) ++ bv cs1 ++ ((List.replicate 16 (Value.int 0))).drop (0 + cs1.length))).take (0 + cs1.length) ++ bv ([45] : List Int32) ++ ((((List.replicate 16 (Value.int 0))).take (0) ++ bv cs1 ++ ((List.replicate 16 (Value.int 0))).drop (0 + cs1.length))).drop (0 + cs1.length + ([45] : List Int32).length))) b2 k2 cs2 T317.heap n0 Z317 O317 Sc hcz hB2 (N2.later K317 all0) (own_up16 L2) (by first | omega | (simp only [List.length_cons, List.length_nil]; omega)) g_sb g_vb) hZ (hw _ (List.mem_of_getElem? (i := 71) rfl)) (hw _ (List.mem_of_getElem? (i := 51) rfl)) (by decide) (by decide)) q322a q322c (g := (mkF m 23 #[.val (.ref a1)] [v2, (.ref sb)])) rfl (by rw [hml]; rfl) (Steps.refl _) (argsL := [v2]) (rest := []) (lenOf pd_18 rfl) rfl (by show 2 * 0 + _ ≤ _; exact Nat.le_of_eq rfl) (hb hby d7_23) (fun _ _ => ⟨rfl, e320, (by decide : (((((0 + 1) + 1) + 0) + 2) + 0) + 0 ≤ _), (by decide : (((((0 + 4) + 16) + 0) + (4 + 4)) + 0) + 0 ≤ _)⟩)
  dsimp only [Pt.U, Pt.locs, Pt.cells, Pt.slots] at X322 l322 y322 z322 st322 hQ322
  subst l322 y322 z322
  obtain ⟨rfl, Nq322, Kc322, hB3⟩ := hQ322
  have N322 := Fr.app N317 Nq322
  have r323 : Steps p.tables e below S0 (T322.setTop (mkF m 26 #[.val (.ref a1)] [(.ref sb)])) := r321.trans st322
  have F322_a1_source := F317_a1_source.keep Kc322 (ninS ne_a1_sb (ninS ne_a1_vb nin0))
  have F322_a1_target := F317_a1_target.keep Kc322 (ninS ne_a1_sb (ninS ne_a1_vb nin0))
  have E322_a1 := E317_a1.keep Kc322
  have E322_sb := hB2.1.keep Kc322
  have Z322 : n0 ≤ T322.heap.size := Nat.le_trans Z317 Kc322.1
  have K322 := K317.trans Kc322 (allS (Or.inr sz_sb) (allS (Or.inr sz_vb) (all0)))
  have O322 := O317.keep Kc322 (allS g_sb (allS g_vb (all0)))
  have SF322_sb := Safe.keep Kc322 (allS SF317_sb (allS SF317_vb (all0))) C317.1 SF317_sb
  have SF322_vb := Safe.keep Kc322 (allS SF317_sb (allS SF317_vb (all0))) C317.1 SF317_vb
  have cs322 := CHr.keep Kc322 (allS SF317_sb (allS SF317_vb (all0))) C317.1
  have C322 := C317.trans cs322
  have hks322 := Nat.le_trans hks317 cs322.2.1
  obtain ⟨cq324, kq324, q324a, q324b, q324c⟩ := isOf hZ rfl hB3.1
  obtain ⟨_, _, ⟨T324, L324, k324, n324⟩, -, X324, ⟨Lc324, hQ324, l324, y324, z324⟩, st324⟩ := X322.virtualBack hx (y := (⟨"java/lang/StringBuilder", "toString", "()Ljava/lang/String;"⟩ : MethodName)) (z := (⟨"java/lang/StringBuilder", "toString", "()Ljava/lang/String;"⟩ : MethodName)) hown (mvT hZ (hw _ (List.mem_of_getElem? (i := 116) rfl))) (mvT hZ (hw _ (List.mem_of_getElem? (i := 117) rfl))) (notFace_of_selects (args := #[]) (mvT hZ (hw _ (List.mem_of_getElem? (i := 119) rfl)))) (mvT hZ (hw _ (List.mem_of_getElem? (i := 119) rfl))) (mvT hZ (hw _ (List.mem_of_getElem? (i := 118) rfl))) (by decide) (backOf (W := 0) (rmTs l Z a0 hw [] sb cz vb kv (0 + cs1.length + ([45] : List Int32).length + cs2.length) ((((((((List.replicate 16 (Value.int 0))).take (0) ++ bv cs1 ++ ((List.replicate 16 (Value.int 0))).drop (0 + cs1.length))).take (0 + cs1.length) ++ bv ([45] : List Int32) ++ ((((List.replicate 16 (Value.int 0))).take (0) ++ bv cs1 ++ ((List.replicate 16 (Value.int 0))).drop (0 + cs1.length))).drop (0 + cs1.length + ([45] : List Int32).length))).take (0 + cs1.length + ([45] : List Int32).length) ++ bv cs2 ++ ((((((List.replicate 16 (Value.int 0))).take (0) ++ bv cs1 ++ ((List.replicate 16 (Value.int 0))).drop (0 + cs1.length))).take (0 + cs1.length) ++ bv ([45] : List Int32) ++ ((((List.replicate 16 (Value.int 0))).take (0) ++ bv cs1 ++ ((List.replicate 16 (Value.int 0))).drop (0 + cs1.length))).drop (0 + cs1.length + ([45] : List Int32).length))).drop (0 + cs1.length + ([45] : List Int32).length + cs2.length))) T322.heap n0 Z322 O322 Sc hcz hB3 (by simp only [List.length_cons, List.length_nil]; omega)) hZ (hw _ (List.mem_of_getElem? (i := 120) rfl)) (hw _ (List.mem_of_getElem? (i := 51) rfl)) (by decide) (by decide)) q324a q324c (g := (mkF m 26 #[.val (.ref a1)] [(.ref sb)])) rfl (by rw [hml]; rfl) (Steps.refl _) (argsL := []) (rest := []) (lenOf pd_19 rfl) rfl (by show 2 * 0 + _ ≤ _; exact Nat.le_of_eq rfl) (hb hby d7_26) (fun _ _ => ⟨rfl, rfl, (by decide : ((((((0 + 1) + 1) + 0) + 2) + 0) + 0) + 2 ≤ _), (by decide : ((((((0 + 4) + 16) + 0) + (4 + 4)) + 0) + 0) + 20 ≤ _)⟩)
  dsimp only [Pt.U, Pt.locs, Pt.cells, Pt.slots] at X324 l324 y324 z324 st324 hQ324
  subst l324 y324 z324
  obtain ⟨x1, c1, kc, rfl, Nq324, Kc324, Ec, Fcc, Fvc, Avc⟩ := hQ324
  have N324 := Fr.app N322 Nq324
  have r325 : Steps p.tables e below S0 (T324.setTop (mkF m 29 #[.val (.ref a1)] [(.ref x1)])) := r323.trans st324
  have F324_a1_source := F322_a1_source.keep Kc324 nin0
  have F324_a1_target := F322_a1_target.keep Kc324 nin0
  have E324_a1 := E322_a1.keep Kc324
  have E324_sb := hB3.1.keep Kc324
  have Z324 : n0 ≤ T324.heap.size := Nat.le_trans Z322 Kc324.1
  have K324 := K322.trans Kc324 (all0)
  have O324 := O322.keep Kc324 (all0)
  have SF324_sb := Safe.keep Kc324 (all0) C322.1 SF322_sb
  have SF324_vb := Safe.keep Kc324 (all0) C322.1 SF322_vb
  have cs324 := CHr.keep Kc324 (all0) C322.1
  have C324 := C322.trans cs324
  have hks324 := Nat.le_trans hks322 cs324.2.1
  obtain ⟨fs, hr, hrun, hended, hRW⟩ := X324.leaveW hSn315 hks324 (v := some (.ref x1)) (fun h => by rw [Bd.returns] at h; cases h)
  refine ⟨_, _, pre0 _ ?_, hrun, hended, _, _, rfl, ?_, ?_, hRW.1, hRW.2.1, hRW.2.2.1, hRW.2.2.2.mono (by decide) (by decide)⟩
  · rw [← hS0]
    refine r325.trans ?_
    show Steps p.tables e below (T324.setTop (mkF m 29 #[.val (.ref a1)] [(.ref x1)])) _
    jvm_step X324.here [X324.here.top, hx, (hb hby d7_29), X324.method', Bd.returns, Value.isRef, FieldType.isReference]
    first | (intro acts; rw [hr _ acts rfl rfl rfl]) | rw [hr _ _ rfl rfl rfl]
    exact Steps.refl _
  · show QmTo Z a1 cz v1 b1 k1 cs1 v2 b2 k2 cs2 h0 n0 _ T324.heap _; exact ⟨x1, c1, kc, rfl, N324, K324, Ec, Fcc, Fvc, own_join L1 L2 Avc⟩
  · show CHr Z consts_1 s.vm s.heap T324.vm T324.heap; rw [hh]; exact C324.trans (CHv.at X324 hZ hEL C324.1)
theorem pn_29 : plainName "com/example/spectraloom/spectraloom/model/LinkToStringPinLaw" = true := by first | (simp [plainName, overriddenIn]; done) | decide +kernel
theorem ef_29n (m : MethodId)  : entryFrame m #[.null] 1 = mkF m 0 #[.val .null] [] := by first | (simp [entryFrame, mkF, argsToLocals, Value.category]; done) | rfl
def QmSh0 (Z : State)   (h0 : Heap) (n0 : Nat) (v : Option Value) (h : Heap) (L : List Loc) : Prop := ∃ (a b : Addr) (k : ClassId), v = some (.ref a) ∧ Fr n0 L ∧ Keep h0 h [] ∧ StrAt Z h a b k nulls
set_option maxRecDepth 65536 in
set_option maxHeartbeats 40000000 in
theorem rmSh0 (l : Launch) (Z : State) (a0 : Array Value) (hw : ∀ d ∈ tables_1, d.before a0 Z = true) (ws : List Jvm.Cond)   (h0 : Heap) (n0 : Nat) (Z0 : n0 ≤ h0.size)  (hEL : EW Z a0 consts_1) :
    MetFree l (⟨"com/example/spectraloom/spectraloom/model/LinkToStringPinLaw", "shown", "(Ljava/lang/String;)Ljava/lang/String;"⟩ : MethodName) (head1 (Jvm.Cond.code (⟨"com/example/spectraloom/spectraloom/model/LinkToStringPinLaw", "shown", "(Ljava/lang/String;)Ljava/lang/String;"⟩ : MethodName) method_3_code 1 (some (.object "java/lang/String")) :: ws) ({ frames := 0, cells := 2, slots := 20, locals := 0 } : Room)) (fun a U => a = #[.null] ∧ Z.Warmed39 U.vm ∧ U.heap = h0 ∧ CHv Z consts_1 U.vm h0) (fun _ _ _ _ _ => True) (fun _ U o U' => ∃ v L, o = .returned v ∧ QmSh0 Z  h0 n0 v U'.heap L ∧ CHr Z consts_1 U.vm U.heap U'.vm U'.heap ∧ ReturnedEndW U o U' L ({ frames := 0, cells := 2, slots := 20, locals := 0 } : Room).cells ({ frames := 0, cells := 2, slots := 20, locals := 0 } : Room).slots) := by
  refine MetFree.of_bodySF (plainFor_of_name pn_29) hisR ?_
  intro p e s m args below meth c s₁ Bd hml0 hP hK
  obtain ⟨rfl, hZ, hh, hCH⟩ := hP
  have hst : ∀ d ∈ Bundle.stringAtoms, d.before a0 Z = true := fun d hd => hw d ((by decide +kernel : ∀ d ∈ Bundle.stringAtoms, d ∈ tables_1) d hd)
  have hx := Bd.exec
  have hby := Bd.bytes
  have hml : c.maxLocals = 1 := hml0
  have hown : s.vm.findClass "com/example/spectraloom/spectraloom/model/LinkToStringPinLaw" = some m.cls := findClass_of_methodNamed Bd.named
  have hnm := (name_of_methodNamed Bd.named Bd.method).1
  have X0 : Stand p l e ({ frames := 0, cells := 2, slots := 20, locals := 0 } : Room) s m #[.null] below meth c s₁ [] 0 0 := Stand.of_body Bd
  have e0 : s₁.heap = h0 := by rw [← hh, Bd.state]; rfl
  have N0 := Fr.nil n0
  have pre0 : ∀ t, Steps p.tables e below (s₁.setTop (mkF m 0 #[.val .null] [])) t → Steps p.tables e below (s₁.setTop (entryFrame m #[.null] 1)) t := fun t_ k_ => castTop (ef_29n m ) k_
  obtain ⟨S0, hS0⟩ : ∃ z, z = s₁.setTop (mkF m 0 #[.val .null] []) := ⟨_, rfl⟩
  have r0 : Steps p.tables e below S0 (s₁.setTop (mkF m 0 #[.val .null] [])) := by rw [hS0]; exact Steps.refl _
  have K0 := Keep.refl h0 []
  have hC0 := CHv.at (vm0 := s.vm) (s := s) X0 hZ hEL hCH
  have hS0_ : s.Since s₁.vm 0 := X0.warmed.since 0
  have hZ0_ : Z.Warmed39 (s.setVm s₁.vm).vm := wtrans hZ X0.warmed
  have hown0_ : (s.setVm s₁.vm).vm.findClass "com/example/spectraloom/spectraloom/model/LinkToStringPinLaw" = some m.cls := by rw [show (s.setVm s₁.vm).vm = s₁.vm from rfl, X0.warmed.alike.findClass]; exact hown
  have Xs : Stand p l e ({ frames := 0, cells := 2, slots := 20, locals := 0 } : Room) (s.setVm s₁.vm) m #[.null] below meth c s₁ [] 0 0 := X0.retabled X0.warmed.wide
  have hZ := hZ0_
  have hown := hown0_
  have r326 : Steps p.tables e below S0 (s₁.setTop (mkF m 4 #[.val .null] [])) := by
    refine r0.trans ?_
    show Steps p.tables e below (s₁.setTop (mkF m 0 #[.val .null] [])) _
    refine XS.aloadN Xs.here hx rfl (hb hby d29_0) rfl rfl ?_
    show Steps p.tables e below (s₁.setTop (mkF m 1 #[.val .null] [.null])) _
    refine XS.ifnonnullNo Xs.here hx rfl (hb hby d29_1) rfl ?_
    exact Steps.refl _
  obtain ⟨q1, T327, h327, k1327, qb, qk, X327, e327, E327, hSn327, hkn327, hZ, hown, Ex327, Fc327, Fv327, Av327, la327, lb327, hC327, hLit327, hne327, st327⟩ := ldcCH Xs hx hZ hown (hw _ (List.mem_of_getElem? (i := 206) rfl)) hst e0 hS0_ (Nat.zero_le _) hEL (by decide) hC0.1 (vs := bv nulls) (z := Int32.ofNat (nulls : List Int32).length) (by decide +kernel) (by decide) (by decide) (g := (mkF m 4 #[.val .null] [])) rfl (hb hby d29_4) (n := 16) (by decide) (by decide) (by decide) (by decide)
  have Z327 : n0 ≤ h327.size := Nat.le_trans Z0 E327.1
  have K327 := K0.ext E327
  have C327 := hC0.trans hC327
  have St_q1 : StrAt Z h327 q1 qb qk nulls := ⟨Ex327, Fc327, Fv327, Av327⟩
  have r328 : Steps p.tables e below S0 (T327.setTop (mkF m 6 #[.val .null] [(.ref q1)])) := r326.trans (st327 _ (Steps.refl _))
  obtain ⟨fs, hr, hrun, hended, hRW⟩ := X327.leaveW hSn327 (by rw [e327]; exact hkn327) (v := some (.ref q1)) (fun h => by rw [Bd.returns] at h; cases h)
  refine ⟨_, _, pre0 _ ?_, hrun, hended, _, _, rfl, ?_, ?_, hRW.1, hRW.2.1, hRW.2.2.1, hRW.2.2.2.mono (by decide) (by decide)⟩
  · rw [← hS0]
    refine r328.trans ?_
    show Steps p.tables e below (T327.setTop (mkF m 6 #[.val .null] [(.ref q1)])) _
    jvm_step X327.here [X327.here.top, hx, (hb hby d29_6), X327.method', Bd.returns, Value.isRef, FieldType.isReference]
    first | (intro acts; rw [hr _ acts rfl rfl rfl]) | rw [hr _ _ rfl rfl rfl]
    exact Steps.refl _
  · show QmSh0 Z  h0 n0 _ T327.heap _; rw [e327]; exact ⟨q1, qb, qk, rfl, N0, K327, St_q1⟩
  · show CHr Z consts_1 s.vm s.heap T327.vm T327.heap; rw [e327]; rw [hh]; exact C327.trans (CHv.at X327 hZ hEL C327.1)
theorem ef_29r (m : MethodId) (x0 : Addr) : entryFrame m #[(.ref x0)] 1 = mkF m 0 #[.val (.ref x0)] [] := by first | (simp [entryFrame, mkF, argsToLocals, Value.category]; done) | rfl
def QmSh1 (Z : State) (a1 : Addr) (b : Addr) (kb : ClassId) (cs : List Int32) (h0 : Heap) (n0 : Nat) (v : Option Value) (h : Heap) (L : List Loc) : Prop := ∃ (a b : Addr) (k : ClassId), v = some (.ref a) ∧ Fr n0 L ∧ Keep h0 h [] ∧ StrAt Z h a b k cs
set_option maxRecDepth 65536 in
set_option maxHeartbeats 40000000 in
theorem rmSh1 (l : Launch) (Z : State) (a0 : Array Value) (hw : ∀ d ∈ tables_1, d.before a0 Z = true) (ws : List Jvm.Cond) (a1 : Addr) (b : Addr) (kb : ClassId) (cs : List Int32) (h0 : Heap) (n0 : Nat) (Z0 : n0 ≤ h0.size) (hS : StrAt Z h0 a1 b kb cs) (hEL : EW Z a0 consts_1) :
    MetFree l (⟨"com/example/spectraloom/spectraloom/model/LinkToStringPinLaw", "shown", "(Ljava/lang/String;)Ljava/lang/String;"⟩ : MethodName) (head1 (Jvm.Cond.code (⟨"com/example/spectraloom/spectraloom/model/LinkToStringPinLaw", "shown", "(Ljava/lang/String;)Ljava/lang/String;"⟩ : MethodName) method_3_code 1 (some (.object "java/lang/String")) :: ws) ({ frames := 0, cells := 2, slots := 20, locals := 0 } : Room)) (fun a U => a = #[(.ref a1)] ∧ Z.Warmed39 U.vm ∧ U.heap = h0 ∧ CHv Z consts_1 U.vm h0) (fun _ _ _ _ _ => True) (fun _ U o U' => ∃ v L, o = .returned v ∧ QmSh1 Z a1 b kb cs h0 n0 v U'.heap L ∧ CHr Z consts_1 U.vm U.heap U'.vm U'.heap ∧ ReturnedEndW U o U' L ({ frames := 0, cells := 2, slots := 20, locals := 0 } : Room).cells ({ frames := 0, cells := 2, slots := 20, locals := 0 } : Room).slots) := by
  refine MetFree.of_bodySF (plainFor_of_name pn_29) hisR ?_
  intro p e s m args below meth c s₁ Bd hml0 hP hK
  obtain ⟨rfl, hZ, hh, hCH⟩ := hP
  have hst : ∀ d ∈ Bundle.stringAtoms, d.before a0 Z = true := fun d hd => hw d ((by decide +kernel : ∀ d ∈ Bundle.stringAtoms, d ∈ tables_1) d hd)
  have hx := Bd.exec
  have hby := Bd.bytes
  have hml : c.maxLocals = 1 := hml0
  have hown : s.vm.findClass "com/example/spectraloom/spectraloom/model/LinkToStringPinLaw" = some m.cls := findClass_of_methodNamed Bd.named
  have hnm := (name_of_methodNamed Bd.named Bd.method).1
  have X0 : Stand p l e ({ frames := 0, cells := 2, slots := 20, locals := 0 } : Room) s m #[(.ref a1)] below meth c s₁ [] 0 0 := Stand.of_body Bd
  have e0 : s₁.heap = h0 := by rw [← hh, Bd.state]; rfl
  have N0 := Fr.nil n0
  have pre0 : ∀ t, Steps p.tables e below (s₁.setTop (mkF m 0 #[.val (.ref a1)] [])) t → Steps p.tables e below (s₁.setTop (entryFrame m #[(.ref a1)] 1)) t := fun t_ k_ => castTop (ef_29r m a1) k_
  obtain ⟨S0, hS0⟩ : ∃ z, z = s₁.setTop (mkF m 0 #[.val (.ref a1)] []) := ⟨_, rfl⟩
  have r0 : Steps p.tables e below S0 (s₁.setTop (mkF m 0 #[.val (.ref a1)] [])) := by rw [hS0]; exact Steps.refl _
  have K0 := Keep.refl h0 []
  have hC0 := CHv.at (vm0 := s.vm) (s := s) X0 hZ hEL hCH
  have hS0_ : s.Since s₁.vm 0 := X0.warmed.since 0
  have hZ0_ : Z.Warmed39 (s.setVm s₁.vm).vm := wtrans hZ X0.warmed
  have hown0_ : (s.setVm s₁.vm).vm.findClass "com/example/spectraloom/spectraloom/model/LinkToStringPinLaw" = some m.cls := by rw [show (s.setVm s₁.vm).vm = s₁.vm from rfl, X0.warmed.alike.findClass]; exact hown
  have Xs : Stand p l e ({ frames := 0, cells := 2, slots := 20, locals := 0 } : Room) (s.setVm s₁.vm) m #[(.ref a1)] below meth c s₁ [] 0 0 := X0.retabled X0.warmed.wide
  have hZ := hZ0_
  have hown := hown0_
  have r329 : Steps p.tables e below S0 (s₁.setTop (mkF m 8 #[.val (.ref a1)] [(.ref a1)])) := by
    refine r0.trans ?_
    show Steps p.tables e below (s₁.setTop (mkF m 0 #[.val (.ref a1)] [])) _
    refine XS.aloadN Xs.here hx rfl (hb hby d29_0) rfl rfl ?_
    show Steps p.tables e below (s₁.setTop (mkF m 1 #[.val (.ref a1)] [(.ref a1)])) _
    refine XS.ifnonnullYes Xs.here hx rfl (pc0 := 1) (pc' := 7) rfl (hb hby d29_1) rfl (by decide) (by decide) ?_
    show Steps p.tables e below (s₁.setTop (mkF m 7 #[.val (.ref a1)] [])) _
    refine XS.aloadN Xs.here hx rfl (hb hby d29_7) rfl rfl ?_
    exact Steps.refl _
  obtain ⟨fs, hr, hrun, hended, hRW⟩ := Xs.leaveW hS0_ (by rw [e0]; exact (Nat.zero_le _)) (v := some (.ref a1)) (fun h => by rw [Bd.returns] at h; cases h)
  refine ⟨_, _, pre0 _ ?_, hrun, hended, _, _, rfl, ?_, ?_, hRW.1, hRW.2.1, hRW.2.2.1, hRW.2.2.2.mono (by decide) (by decide)⟩
  · rw [← hS0]
    refine r329.trans ?_
    show Steps p.tables e below (s₁.setTop (mkF m 8 #[.val (.ref a1)] [(.ref a1)])) _
    jvm_step Xs.here [Xs.here.top, hx, (hb hby d29_8), Xs.method', Bd.returns, Value.isRef, FieldType.isReference]
    first | (intro acts; rw [hr _ acts rfl rfl rfl]) | rw [hr _ _ rfl rfl rfl]
    exact Steps.refl _
  · show QmSh1 Z a1 b kb cs h0 n0 _ s₁.heap _; rw [e0]; exact ⟨a1, b, kb, rfl, N0, K0, hS⟩
  · show CHr Z consts_1 s.vm s.heap s₁.vm s₁.heap; rw [e0]; rw [hh]; exact hC0.trans (CHv.at Xs hZ hEL hC0.1)
def QSh (Z : State) (cs : List Int32) (h0 : Heap) (n0 : Nat) (v : Option Value) (h : Heap) (L : List Loc) : Prop := ∃ (a b : Addr) (k : ClassId), v = some (.ref a) ∧ Fr n0 L ∧ Keep h0 h [] ∧ StrAt Z h a b k cs
theorem rmSh (l : Launch) (Z : State) (a0 : Array Value) (hw : ∀ d ∈ tables_1, d.before a0 Z = true) (ws : List Jvm.Cond) (v1 : Value) (b : Addr) (kb : ClassId) (cs : List Int32) (h0 : Heap) (n0 : Nat) (Z0 : n0 ≤ h0.size) (hN : NS Z h0 v1 b kb cs) (hEL : EW Z a0 consts_1) :
    MetFree l (⟨"com/example/spectraloom/spectraloom/model/LinkToStringPinLaw", "shown", "(Ljava/lang/String;)Ljava/lang/String;"⟩ : MethodName) (head1 (Jvm.Cond.code (⟨"com/example/spectraloom/spectraloom/model/LinkToStringPinLaw", "shown", "(Ljava/lang/String;)Ljava/lang/String;"⟩ : MethodName) method_3_code 1 (some (.object "java/lang/String")) :: ws) ({ frames := 0, cells := 2, slots := 20, locals := 0 } : Room)) (fun a U => a = #[v1] ∧ Z.Warmed39 U.vm ∧ U.heap = h0 ∧ CHv Z consts_1 U.vm h0) (fun _ _ _ _ _ => True) (fun _ U o U' => ∃ v L, o = .returned v ∧ QSh Z cs h0 n0 v U'.heap L ∧ CHr Z consts_1 U.vm U.heap U'.vm U'.heap ∧ ReturnedEndW U o U' L ({ frames := 0, cells := 2, slots := 20, locals := 0 } : Room).cells ({ frames := 0, cells := 2, slots := 20, locals := 0 } : Room).slots) := by
  rcases hN with ⟨rfl, rfl⟩ | ⟨a1, rfl, hS⟩
  · exact rmSh0 l Z a0 hw ws h0 n0 Z0 hEL
  · exact rmSh1 l Z a0 hw ws a1 b kb cs h0 n0 Z0 hS hEL
theorem pn_30 : plainName "com/example/spectraloom/spectraloom/model/LinkToStringPinLaw" = true := by first | (simp [plainName, overriddenIn]; done) | decide +kernel
theorem ef_30 (m : MethodId) (x0 : Addr) (x1 : Addr) (x2 : Addr) (x3 : Int32) : entryFrame m #[(.ref x0), (.ref x1), (.ref x2), (.int x3)] 5 = mkF m 0 #[.val (.ref x0), .val (.ref x1), .val (.ref x2), .val (.int x3), .unset] [] := by first | (simp [entryFrame, mkF, argsToLocals, Value.category]; done) | rfl
def QmAt (Z : State) (r1 : Addr) (a1 : Addr) (b1 : Addr) (p1 : Int32) (cz : Int32) (fm : Value) (br : Addr) (kr : ClassId) (ba : Addr) (ka : ClassId) (bb : Addr) (kb : ClassId) (ca : List Int32) (cb : List Int32) (i : Nat) (h0 : Heap) (n0 : Nat) (v : Option Value) (h : Heap) (L : List Loc) : Prop := v = some (.int (1 : Int32)) ∧ Fr n0 L ∧ h = h0
set_option maxRecDepth 65536 in
set_option maxHeartbeats 40000000 in
theorem rmAt (l : Launch) (Z : State) (a0 : Array Value) (hw : ∀ d ∈ tables_1, d.before a0 Z = true) (ws : List Jvm.Cond) (r1 : Addr) (a1 : Addr) (b1 : Addr) (p1 : Int32) (cz : Int32) (fm : Value) (br : Addr) (kr : ClassId) (ba : Addr) (ka : ClassId) (bb : Addr) (kb : ClassId) (ca : List Int32) (cb : List Int32) (i : Nat) (h0 : Heap) (n0 : Nat) (Z0 : n0 ≤ h0.size) (O0 : Old Z n0 h0) (Sc : Sta Z Z.heap "java/lang/String" "COMPACT_STRINGS" "Z" (.int cz)) (hcz : ¬ cz = 0)(Sf : Sta Z Z.heap "jdk/internal/util/Preconditions" "SIOOBE_FORMATTER" "Ljava/util/function/BiFunction;" fm) (hfm : fm.isRef = true) (hR : StrAt Z h0 r1 br kr (ca ++ 45 :: cb)) (hA : StrAt Z h0 a1 ba ka ca) (hBs : StrAt Z h0 b1 bb kb cb) (L1 : LatN 4 ca) (L2 : LatN 4 cb) (hp : p1 = Int32.ofNat i) (hi : i < 17) :
    MetFree l (⟨"com/example/spectraloom/spectraloom/model/LinkToStringPinLaw", "at", "(Ljava/lang/String;Ljava/lang/String;Ljava/lang/String;I)Z"⟩ : MethodName) (head1 (Jvm.Cond.code (⟨"com/example/spectraloom/spectraloom/model/LinkToStringPinLaw", "at", "(Ljava/lang/String;Ljava/lang/String;Ljava/lang/String;I)Z"⟩ : MethodName) method_4_code 5 (some .boolean) :: ws) ({ frames := 4, cells := 0, slots := 0, locals := 54 } : Room)) (fun a U => a = #[(.ref r1), (.ref a1), (.ref b1), (.int p1)] ∧ Z.Warmed39 U.vm ∧ U.heap = h0) (fun _ _ _ _ _ => True) (fun _ U o U' => ∃ v L, o = .returned v ∧ QmAt Z r1 a1 b1 p1 cz fm br kr ba ka bb kb ca cb i h0 n0 v U'.heap L ∧ FrameEnd U o U' L ({ frames := 4, cells := 0, slots := 0, locals := 54 } : Room).cells ({ frames := 4, cells := 0, slots := 0, locals := 54 } : Room).slots) := by
  refine MetFree.of_bodySF (plainFor_of_name pn_30) hisR ?_
  intro p e s m args below meth c s₁ Bd hml0 hP hK
  obtain ⟨rfl, hZ, hh⟩ := hP
  have hx := Bd.exec
  have hby := Bd.bytes
  have hml : c.maxLocals = 5 := hml0
  have hown : s.vm.findClass "com/example/spectraloom/spectraloom/model/LinkToStringPinLaw" = some m.cls := findClass_of_methodNamed Bd.named
  have hnm := (name_of_methodNamed Bd.named Bd.method).1
  have X0 : Stand p l e ({ frames := 4, cells := 0, slots := 0, locals := 54 } : Room) s m #[(.ref r1), (.ref a1), (.ref b1), (.int p1)] below meth c s₁ [] 0 0 := Stand.of_body Bd
  have e0 : s₁.heap = h0 := by rw [← hh, Bd.state]; rfl
  have N0 := Fr.nil n0
  have pre0 : ∀ t, Steps p.tables e below (s₁.setTop (mkF m 0 #[.val (.ref r1), .val (.ref a1), .val (.ref b1), .val (.int p1), .unset] [])) t → Steps p.tables e below (s₁.setTop (entryFrame m #[(.ref r1), (.ref a1), (.ref b1), (.int p1)] 5)) t := fun t_ k_ => castTop (ef_30 m r1 a1 b1 p1) k_
  obtain ⟨S0, hS0⟩ : ∃ z, z = s₁.setTop (mkF m 0 #[.val (.ref r1), .val (.ref a1), .val (.ref b1), .val (.int p1), .unset] []) := ⟨_, rfl⟩
  have r0 : Steps p.tables e below S0 (s₁.setTop (mkF m 0 #[.val (.ref r1), .val (.ref a1), .val (.ref b1), .val (.int p1), .unset] [])) := by rw [hS0]; exact Steps.refl _
  have l1 := L1.1
  have l2 := L2.1
  have LR := own_latj L1 L2
  have lr : (ca ++ 45 :: cb).length = ca.length + 1 + cb.length := by simp; omega
  have hln : ∀ d ∈ StrChars.Road.wordsLen, d.before a0 Z = true := fun d hd => hw d ((by decide +kernel : ∀ d ∈ StrChars.Road.wordsLen, d ∈ tables_1) d hd)
  have hch : ∀ d ∈ StrChars.Road.wordsChN, d.before a0 Z = true := fun d hd => hw d ((by decide +kernel : ∀ d ∈ StrChars.Road.wordsChN, d ∈ tables_1) d hd)
  have il : ∀ j : Nat, j < 17 → (p1 < Int32.ofNat j ↔ i < j) := fun j hj => by rw [hp]; exact (i_cmp i j hi hj).1
  have ie : ∀ j : Nat, j < 17 → (p1 = Int32.ofNat j ↔ i = j) := fun j hj => by rw [hp]; exact (i_cmp i j hi hj).2
  have r330 : Steps p.tables e below S0 (s₁.setTop (mkF m 2 #[.val (.ref r1), .val (.ref a1), .val (.ref b1), .val (.int p1), .unset] [(.ref r1), (.int p1)])) := by
    refine r0.trans ?_
    show Steps p.tables e below (s₁.setTop (mkF m 0 #[.val (.ref r1), .val (.ref a1), .val (.ref b1), .val (.int p1), .unset] [])) _
    refine XS.iloadN X0.here hx rfl (hb hby d30_0) rfl ?_
    show Steps p.tables e below (s₁.setTop (mkF m 1 #[.val (.ref r1), .val (.ref a1), .val (.ref b1), .val (.int p1), .unset] [(.int p1)])) _
    refine XS.aloadN X0.here hx rfl (hb hby d30_1) rfl rfl ?_
    exact Steps.refl _
  obtain ⟨cq331, kq331, q331a, q331b, q331c⟩ := isOf hZ e0 hR.1
  obtain ⟨_, _, ⟨T331, L331, k331, n331⟩, -, X331, ⟨Lc331, hQ331, l331, y331, z331⟩, st331⟩ := X0.virtualBack hx (y := (⟨"java/lang/String", "length", "()I"⟩ : MethodName)) (z := (⟨"java/lang/String", "length", "()I"⟩ : MethodName)) hown (mvT hZ (hw _ (List.mem_of_getElem? (i := 164) rfl))) (mvT hZ (hw _ (List.mem_of_getElem? (i := 78) rfl))) (notFace_of_selects (args := #[]) (mvT hZ (hw _ (List.mem_of_getElem? (i := 80) rfl)))) (mvT hZ (hw _ (List.mem_of_getElem? (i := 80) rfl))) (mvT hZ (hw _ (List.mem_of_getElem? (i := 79) rfl))) (by decide) (StrChars.Road.lenW (W := 1) hZ hln (kI := 4) (hw _ (List.mem_of_getElem? (i := 5) rfl)) hR.1 hR.2.2.1 hR.2.1 hR.2.2.2 (own_cod LR) (own_up LR) (Sc.ext O0.2) hcz (Nat.le_trans LR.1 (by decide)) (by decide) (by decide)) q331a q331c (g := (mkF m 2 #[.val (.ref r1), .val (.ref a1), .val (.ref b1), .val (.int p1), .unset] [(.ref r1), (.int p1)])) rfl (by rw [hml]; rfl) (Steps.refl _) (argsL := []) (rest := [(.int p1)]) (lenOf pd_0 rfl) rfl (by show 2 * 0 + _ ≤ _; exact Nat.le_of_eq rfl) (hb hby d30_2) (fun _ _ => ⟨rfl, e0, (by decide : 0 + 0 ≤ _), (by decide : 0 + 0 ≤ _)⟩)
  dsimp only [Pt.U, Pt.locs, Pt.cells, Pt.slots] at X331 l331 y331 z331 st331 hQ331
  subst l331 y331 z331
  obtain ⟨rfl, rfl, e331⟩ := hQ331
  have N331 := Fr.app N0 (Fr.nil n0)
  have r332 : Steps p.tables e below S0 (T331.setTop (mkF m 5 #[.val (.ref r1), .val (.ref a1), .val (.ref b1), .val (.int p1), .unset] [(.int (Int32.ofNat (ca ++ 45 :: cb).length)), (.int p1)])) := r330.trans st331
  by_cases h1 : i < (ca ++ 45 :: cb).length
  · skip
    have r333 : Steps p.tables e below S0 (T331.setTop (mkF m 12 #[.val (.ref r1), .val (.ref a1), .val (.ref b1), .val (.int p1), .unset] [(.ref a1), (.int p1)])) := by
      refine r332.trans ?_
      show Steps p.tables e below (T331.setTop (mkF m 5 #[.val (.ref r1), .val (.ref a1), .val (.ref b1), .val (.int p1), .unset] [(.int (Int32.ofNat (ca ++ 45 :: cb).length)), (.int p1)])) _
      refine XS.icmpYes X331.here hx rfl (pc0 := 5) (pc' := 10) rfl (hb hby d30_5) rfl (tlt ((il _ (by omega)).mpr h1)).1 (by decide) (by decide) ?_
      show Steps p.tables e below (T331.setTop (mkF m 10 #[.val (.ref r1), .val (.ref a1), .val (.ref b1), .val (.int p1), .unset] [])) _
      refine XS.iloadN X331.here hx rfl (hb hby d30_10) rfl ?_
      show Steps p.tables e below (T331.setTop (mkF m 11 #[.val (.ref r1), .val (.ref a1), .val (.ref b1), .val (.int p1), .unset] [(.int p1)])) _
      refine XS.aloadN X331.here hx rfl (hb hby d30_11) rfl rfl ?_
      exact Steps.refl _
    obtain ⟨cq334, kq334, q334a, q334b, q334c⟩ := isOf hZ e331 hA.1
    obtain ⟨_, _, ⟨T334, L334, k334, n334⟩, -, X334, ⟨Lc334, hQ334, l334, y334, z334⟩, st334⟩ := X331.virtualBack hx (y := (⟨"java/lang/String", "length", "()I"⟩ : MethodName)) (z := (⟨"java/lang/String", "length", "()I"⟩ : MethodName)) hown (mvT hZ (hw _ (List.mem_of_getElem? (i := 164) rfl))) (mvT hZ (hw _ (List.mem_of_getElem? (i := 78) rfl))) (notFace_of_selects (args := #[]) (mvT hZ (hw _ (List.mem_of_getElem? (i := 80) rfl)))) (mvT hZ (hw _ (List.mem_of_getElem? (i := 80) rfl))) (mvT hZ (hw _ (List.mem_of_getElem? (i := 79) rfl))) (by decide) (StrChars.Road.lenW (W := 1) hZ hln (kI := 4) (hw _ (List.mem_of_getElem? (i := 5) rfl)) hA.1 hA.2.2.1 hA.2.1 hA.2.2.2 (own_cod L1) (own_up L1) (Sc.ext O0.2) hcz (Nat.le_trans L1.1 (by decide)) (by decide) (by decide)) q334a q334c (g := (mkF m 12 #[.val (.ref r1), .val (.ref a1), .val (.ref b1), .val (.int p1), .unset] [(.ref a1), (.int p1)])) rfl (by rw [hml]; rfl) (Steps.refl _) (argsL := []) (rest := [(.int p1)]) (lenOf pd_0 rfl) rfl (by show 2 * 0 + _ ≤ _; exact Nat.le_of_eq rfl) (hb hby d30_12) (fun _ _ => ⟨rfl, e331, (by decide : (0 + 0) + 0 ≤ _), (by decide : (0 + 0) + 0 ≤ _)⟩)
    dsimp only [Pt.U, Pt.locs, Pt.cells, Pt.slots] at X334 l334 y334 z334 st334 hQ334
    subst l334 y334 z334
    obtain ⟨rfl, rfl, e334⟩ := hQ334
    have N334 := Fr.app N331 (Fr.nil n0)
    have r335 : Steps p.tables e below S0 (T334.setTop (mkF m 15 #[.val (.ref r1), .val (.ref a1), .val (.ref b1), .val (.int p1), .unset] [(.int (Int32.ofNat ca.length)), (.int p1)])) := r333.trans st334
    by_cases h2 : i < ca.length
    · skip
      have r336 : Steps p.tables e below S0 (T334.setTop (mkF m 20 #[.val (.ref r1), .val (.ref a1), .val (.ref b1), .val (.int p1), .unset] [(.int p1), (.ref a1)])) := by
        refine r335.trans ?_
        show Steps p.tables e below (T334.setTop (mkF m 15 #[.val (.ref r1), .val (.ref a1), .val (.ref b1), .val (.int p1), .unset] [(.int (Int32.ofNat ca.length)), (.int p1)])) _
        refine XS.icmpNo X334.here hx rfl (hb hby d30_15) rfl (tlt ((il _ (by omega)).mpr h2)).2.1 ?_
        show Steps p.tables e below (T334.setTop (mkF m 18 #[.val (.ref r1), .val (.ref a1), .val (.ref b1), .val (.int p1), .unset] [])) _
        refine XS.aloadN X334.here hx rfl (hb hby d30_18) rfl rfl ?_
        show Steps p.tables e below (T334.setTop (mkF m 19 #[.val (.ref r1), .val (.ref a1), .val (.ref b1), .val (.int p1), .unset] [(.ref a1)])) _
        refine XS.iloadN X334.here hx rfl (hb hby d30_19) rfl ?_
        exact Steps.refl _
      obtain ⟨cq337, kq337, q337a, q337b, q337c⟩ := isOf hZ e334 hA.1
      obtain ⟨_, _, ⟨T337, L337, k337, n337⟩, -, X337, ⟨Lc337, hQ337, l337, y337, z337⟩, st337⟩ := X334.virtualBack hx (y := (⟨"java/lang/String", "charAt", "(I)C"⟩ : MethodName)) (z := (⟨"java/lang/String", "charAt", "(I)C"⟩ : MethodName)) hown (mvT hZ (hw _ (List.mem_of_getElem? (i := 168) rfl))) (mvT hZ (hw _ (List.mem_of_getElem? (i := 169) rfl))) (notFace_of_selects (args := #[]) (mvT hZ (hw _ (List.mem_of_getElem? (i := 171) rfl)))) (mvT hZ (hw _ (List.mem_of_getElem? (i := 171) rfl))) (mvT hZ (hw _ (List.mem_of_getElem? (i := 170) rfl))) (by decide) (StrChars.Road.chN (W := 0) hZ hch (kI := 4) (hw _ (List.mem_of_getElem? (i := 5) rfl)) hA.1 hA.2.2.1 hA.2.1 hA.2.2.2 (own_cod L1) (own_up L1) (Sc.ext O0.2) hcz (Sf.ext O0.2) hfm (Nat.le_trans L1.1 (by decide)) (i := i) h2 (j := p1) hp (by decide) (by decide)) q337a q337c (g := (mkF m 20 #[.val (.ref r1), .val (.ref a1), .val (.ref b1), .val (.int p1), .unset] [(.int p1), (.ref a1)])) rfl (by rw [hml]; rfl) (Steps.refl _) (argsL := [(.int p1)]) (rest := []) (lenOf pd_20 rfl) rfl (by show 2 * 0 + _ ≤ _; exact Nat.le_of_eq rfl) (hb hby d30_20) (fun _ _ => ⟨rfl, e334, (by decide : ((0 + 0) + 0) + 0 ≤ _), (by decide : ((0 + 0) + 0) + 0 ≤ _)⟩)
      dsimp only [Pt.U, Pt.locs, Pt.cells, Pt.slots] at X337 l337 y337 z337 st337 hQ337
      subst l337 y337 z337
      obtain ⟨rfl, rfl, e337⟩ := hQ337
      have N337 := Fr.app N334 (Fr.nil n0)
      have r338 : Steps p.tables e below S0 (T337.setTop (mkF m 23 #[.val (.ref r1), .val (.ref a1), .val (.ref b1), .val (.int p1), .unset] [(.int (ca.getD i 0))])) := r336.trans st337
      have r339 : Steps p.tables e below S0 (T337.setTop (mkF m 59 #[.val (.ref r1), .val (.ref a1), .val (.ref b1), .val (.int p1), .val (.int (ca.getD i 0))] [(.int p1), (.ref r1)])) := by
        refine r338.trans ?_
        show Steps p.tables e below (T337.setTop (mkF m 23 #[.val (.ref r1), .val (.ref a1), .val (.ref b1), .val (.int p1), .unset] [(.int (ca.getD i 0))])) _
        refine XS.istore X337.here hx rfl (hb hby d30_23) rfl (l' := #[.val (.ref r1), .val (.ref a1), .val (.ref b1), .val (.int p1), .val (.int (ca.getD i 0))]) rfl ?_
        show Steps p.tables e below (T337.setTop (mkF m 25 #[.val (.ref r1), .val (.ref a1), .val (.ref b1), .val (.int p1), .val (.int (ca.getD i 0))] [])) _
        refine XS.goto X337.here hx rfl (pc0 := 25) (pc' := 57) rfl (hb hby d30_25) (by decide) (by decide) ?_
        show Steps p.tables e below (T337.setTop (mkF m 57 #[.val (.ref r1), .val (.ref a1), .val (.ref b1), .val (.int p1), .val (.int (ca.getD i 0))] [])) _
        refine XS.aloadN X337.here hx rfl (hb hby d30_57) rfl rfl ?_
        show Steps p.tables e below (T337.setTop (mkF m 58 #[.val (.ref r1), .val (.ref a1), .val (.ref b1), .val (.int p1), .val (.int (ca.getD i 0))] [(.ref r1)])) _
        refine XS.iloadN X337.here hx rfl (hb hby d30_58) rfl ?_
        exact Steps.refl _
      obtain ⟨cq340, kq340, q340a, q340b, q340c⟩ := isOf hZ e337 hR.1
      obtain ⟨_, _, ⟨T340, L340, k340, n340⟩, -, X340, ⟨Lc340, hQ340, l340, y340, z340⟩, st340⟩ := X337.virtualBack hx (y := (⟨"java/lang/String", "charAt", "(I)C"⟩ : MethodName)) (z := (⟨"java/lang/String", "charAt", "(I)C"⟩ : MethodName)) hown (mvT hZ (hw _ (List.mem_of_getElem? (i := 168) rfl))) (mvT hZ (hw _ (List.mem_of_getElem? (i := 169) rfl))) (notFace_of_selects (args := #[]) (mvT hZ (hw _ (List.mem_of_getElem? (i := 171) rfl)))) (mvT hZ (hw _ (List.mem_of_getElem? (i := 171) rfl))) (mvT hZ (hw _ (List.mem_of_getElem? (i := 170) rfl))) (by decide) (StrChars.Road.chN (W := 0) hZ hch (kI := 4) (hw _ (List.mem_of_getElem? (i := 5) rfl)) hR.1 hR.2.2.1 hR.2.1 hR.2.2.2 (own_cod LR) (own_up LR) (Sc.ext O0.2) hcz (Sf.ext O0.2) hfm (Nat.le_trans LR.1 (by decide)) (i := i) h1 (j := p1) hp (by decide) (by decide)) q340a q340c (g := (mkF m 59 #[.val (.ref r1), .val (.ref a1), .val (.ref b1), .val (.int p1), .val (.int (ca.getD i 0))] [(.int p1), (.ref r1)])) rfl (by rw [hml]; rfl) (Steps.refl _) (argsL := [(.int p1)]) (rest := []) (lenOf pd_20 rfl) rfl (by show 2 * 0 + _ ≤ _; exact Nat.le_of_eq rfl) (hb hby d30_59) (fun _ _ => ⟨rfl, e337, (by decide : (((0 + 0) + 0) + 0) + 0 ≤ _), (by decide : (((0 + 0) + 0) + 0) + 0 ≤ _)⟩)
      dsimp only [Pt.U, Pt.locs, Pt.cells, Pt.slots] at X340 l340 y340 z340 st340 hQ340
      subst l340 y340 z340
      obtain ⟨rfl, rfl, e340⟩ := hQ340
      have N340 := Fr.app N337 (Fr.nil n0)
      have r341 : Steps p.tables e below S0 (T340.setTop (mkF m 62 #[.val (.ref r1), .val (.ref a1), .val (.ref b1), .val (.int p1), .val (.int (ca.getD i 0))] [(.int ((ca ++ 45 :: cb).getD i 0))])) := r339.trans st340
      have hq : ((ca ++ 45 :: cb).getD i 0) = (ca.getD i 0) := at_l h2
      have r342 : Steps p.tables e below S0 (T340.setTop (mkF m 72 #[.val (.ref r1), .val (.ref a1), .val (.ref b1), .val (.int p1), .val (.int (ca.getD i 0))] [(.int (1 : Int32))])) := by
        refine r341.trans ?_
        show Steps p.tables e below (T340.setTop (mkF m 62 #[.val (.ref r1), .val (.ref a1), .val (.ref b1), .val (.int p1), .val (.int (ca.getD i 0))] [(.int ((ca ++ 45 :: cb).getD i 0))])) _
        refine XS.iload X340.here hx rfl (hb hby d30_62) rfl ?_
        show Steps p.tables e below (T340.setTop (mkF m 64 #[.val (.ref r1), .val (.ref a1), .val (.ref b1), .val (.int p1), .val (.int (ca.getD i 0))] [(.int (ca.getD i 0)), (.int ((ca ++ 45 :: cb).getD i 0))])) _
        refine XS.icmpNo X340.here hx rfl (hb hby d30_64) rfl (teq hq).2 ?_
        show Steps p.tables e below (T340.setTop (mkF m 67 #[.val (.ref r1), .val (.ref a1), .val (.ref b1), .val (.int p1), .val (.int (ca.getD i 0))] [])) _
        refine XS.iconst X340.here hx rfl (hb hby d30_67) ?_
        show Steps p.tables e below (T340.setTop (mkF m 68 #[.val (.ref r1), .val (.ref a1), .val (.ref b1), .val (.int p1), .val (.int (ca.getD i 0))] [(.int (1 : Int32))])) _
        refine XS.goto X340.here hx rfl (pc0 := 68) (pc' := 72) rfl (hb hby d30_68) (by decide) (by decide) ?_
        exact Steps.refl _
      obtain ⟨fs, hr, hrun, hended, hW, hsame⟩ := X340.leave (v := some (.int (1 : Int32))) (fun h => by rw [Bd.returns] at h; cases h)
      refine ⟨_, _, pre0 _ ?_, hrun, hended, _, _, rfl, ?_, ⟨_, rfl⟩, hW, hsame.mono (by decide) (by decide)⟩
      · rw [← hS0]
        refine r342.trans ?_
        show Steps p.tables e below (T340.setTop (mkF m 72 #[.val (.ref r1), .val (.ref a1), .val (.ref b1), .val (.int p1), .val (.int (ca.getD i 0))] [(.int (1 : Int32))])) _
        exact retB X340 hx Bd.returns (by first | exact Or.inr rfl | exact Or.inl rfl | (split <;> simp)) (hb hby d30_72) hr
      · show QmAt Z r1 a1 b1 p1 cz fm br kr ba ka bb kb ca cb i h0 n0 _ T340.heap _; rw [e340]; exact ⟨rfl, N340, rfl⟩
    · skip
      have r343 : Steps p.tables e below S0 (T334.setTop (mkF m 30 #[.val (.ref r1), .val (.ref a1), .val (.ref b1), .val (.int p1), .unset] [(.ref a1), (.int p1)])) := by
        refine r335.trans ?_
        show Steps p.tables e below (T334.setTop (mkF m 15 #[.val (.ref r1), .val (.ref a1), .val (.ref b1), .val (.int p1), .unset] [(.int (Int32.ofNat ca.length)), (.int p1)])) _
        refine XS.icmpYes X334.here hx rfl (pc0 := 15) (pc' := 28) rfl (hb hby d30_15) rfl (flt (fun q => h2 ((il _ (by omega)).mp q))).2.1 (by decide) (by decide) ?_
        show Steps p.tables e below (T334.setTop (mkF m 28 #[.val (.ref r1), .val (.ref a1), .val (.ref b1), .val (.int p1), .unset] [])) _
        refine XS.iloadN X334.here hx rfl (hb hby d30_28) rfl ?_
        show Steps p.tables e below (T334.setTop (mkF m 29 #[.val (.ref r1), .val (.ref a1), .val (.ref b1), .val (.int p1), .unset] [(.int p1)])) _
        refine XS.aloadN X334.here hx rfl (hb hby d30_29) rfl rfl ?_
        exact Steps.refl _
      obtain ⟨cq344, kq344, q344a, q344b, q344c⟩ := isOf hZ e334 hA.1
      obtain ⟨_, _, ⟨T344, L344, k344, n344⟩, -, X344, ⟨Lc344, hQ344, l344, y344, z344⟩, st344⟩ := X334.virtualBack hx (y := (⟨"java/lang/String", "length", "()I"⟩ : MethodName)) (z := (⟨"java/lang/String", "length", "()I"⟩ : MethodName)) hown (mvT hZ (hw _ (List.mem_of_getElem? (i := 164) rfl))) (mvT hZ (hw _ (List.mem_of_getElem? (i := 78) rfl))) (notFace_of_selects (args := #[]) (mvT hZ (hw _ (List.mem_of_getElem? (i := 80) rfl)))) (mvT hZ (hw _ (List.mem_of_getElem? (i := 80) rfl))) (mvT hZ (hw _ (List.mem_of_getElem? (i := 79) rfl))) (by decide) (StrChars.Road.lenW (W := 1) hZ hln (kI := 4) (hw _ (List.mem_of_getElem? (i := 5) rfl)) hA.1 hA.2.2.1 hA.2.1 hA.2.2.2 (own_cod L1) (own_up L1) (Sc.ext O0.2) hcz (Nat.le_trans L1.1 (by decide)) (by decide) (by decide)) q344a q344c (g := (mkF m 30 #[.val (.ref r1), .val (.ref a1), .val (.ref b1), .val (.int p1), .unset] [(.ref a1), (.int p1)])) rfl (by rw [hml]; rfl) (Steps.refl _) (argsL := []) (rest := [(.int p1)]) (lenOf pd_0 rfl) rfl (by show 2 * 0 + _ ≤ _; exact Nat.le_of_eq rfl) (hb hby d30_30) (fun _ _ => ⟨rfl, e334, (by decide : ((0 + 0) + 0) + 0 ≤ _), (by decide : ((0 + 0) + 0) + 0 ≤ _)⟩)
      dsimp only [Pt.U, Pt.locs, Pt.cells, Pt.slots] at X344 l344 y344 z344 st344 hQ344
      subst l344 y344 z344
      obtain ⟨rfl, rfl, e344⟩ := hQ344
      have N344 := Fr.app N334 (Fr.nil n0)
      have r345 : Steps p.tables e below S0 (T344.setTop (mkF m 33 #[.val (.ref r1), .val (.ref a1), .val (.ref b1), .val (.int p1), .unset] [(.int (Int32.ofNat ca.length)), (.int p1)])) := r343.trans st344
      by_cases h3 : i = ca.length
      · skip
        have r346 : Steps p.tables e below S0 (T344.setTop (mkF m 59 #[.val (.ref r1), .val (.ref a1), .val (.ref b1), .val (.int p1), .val (.int (45 : Int32))] [(.int p1), (.ref r1)])) := by
          refine r345.trans ?_
          show Steps p.tables e below (T344.setTop (mkF m 33 #[.val (.ref r1), .val (.ref a1), .val (.ref b1), .val (.int p1), .unset] [(.int (Int32.ofNat ca.length)), (.int p1)])) _
          refine XS.icmpNo X344.here hx rfl (hb hby d30_33) rfl (teq ((ie _ (by omega)).mpr h3)).2 ?_
          show Steps p.tables e below (T344.setTop (mkF m 36 #[.val (.ref r1), .val (.ref a1), .val (.ref b1), .val (.int p1), .unset] [])) _
          refine XS.bipush X344.here hx rfl (hb hby d30_36) ?_
          show Steps p.tables e below (T344.setTop (mkF m 38 #[.val (.ref r1), .val (.ref a1), .val (.ref b1), .val (.int p1), .unset] [(.int (45 : Int32))])) _
          refine XS.istore X344.here hx rfl (hb hby d30_38) rfl (l' := #[.val (.ref r1), .val (.ref a1), .val (.ref b1), .val (.int p1), .val (.int (45 : Int32))]) rfl ?_
          show Steps p.tables e below (T344.setTop (mkF m 40 #[.val (.ref r1), .val (.ref a1), .val (.ref b1), .val (.int p1), .val (.int (45 : Int32))] [])) _
          refine XS.goto X344.here hx rfl (pc0 := 40) (pc' := 57) rfl (hb hby d30_40) (by decide) (by decide) ?_
          show Steps p.tables e below (T344.setTop (mkF m 57 #[.val (.ref r1), .val (.ref a1), .val (.ref b1), .val (.int p1), .val (.int (45 : Int32))] [])) _
          refine XS.aloadN X344.here hx rfl (hb hby d30_57) rfl rfl ?_
          show Steps p.tables e below (T344.setTop (mkF m 58 #[.val (.ref r1), .val (.ref a1), .val (.ref b1), .val (.int p1), .val (.int (45 : Int32))] [(.ref r1)])) _
          refine XS.iloadN X344.here hx rfl (hb hby d30_58) rfl ?_
          exact Steps.refl _
        obtain ⟨cq347, kq347, q347a, q347b, q347c⟩ := isOf hZ e344 hR.1
        obtain ⟨_, _, ⟨T347, L347, k347, n347⟩, -, X347, ⟨Lc347, hQ347, l347, y347, z347⟩, st347⟩ := X344.virtualBack hx (y := (⟨"java/lang/String", "charAt", "(I)C"⟩ : MethodName)) (z := (⟨"java/lang/String", "charAt", "(I)C"⟩ : MethodName)) hown (mvT hZ (hw _ (List.mem_of_getElem? (i := 168) rfl))) (mvT hZ (hw _ (List.mem_of_getElem? (i := 169) rfl))) (notFace_of_selects (args := #[]) (mvT hZ (hw _ (List.mem_of_getElem? (i := 171) rfl)))) (mvT hZ (hw _ (List.mem_of_getElem? (i := 171) rfl))) (mvT hZ (hw _ (List.mem_of_getElem? (i := 170) rfl))) (by decide) (StrChars.Road.chN (W := 0) hZ hch (kI := 4) (hw _ (List.mem_of_getElem? (i := 5) rfl)) hR.1 hR.2.2.1 hR.2.1 hR.2.2.2 (own_cod LR) (own_up LR) (Sc.ext O0.2) hcz (Sf.ext O0.2) hfm (Nat.le_trans LR.1 (by decide)) (i := i) h1 (j := p1) hp (by decide) (by decide)) q347a q347c (g := (mkF m 59 #[.val (.ref r1), .val (.ref a1), .val (.ref b1), .val (.int p1), .val (.int (45 : Int32))] [(.int p1), (.ref r1)])) rfl (by rw [hml]; rfl) (Steps.refl _) (argsL := [(.int p1)]) (rest := []) (lenOf pd_20 rfl) rfl (by show 2 * 0 + _ ≤ _; exact Nat.le_of_eq rfl) (hb hby d30_59) (fun _ _ => ⟨rfl, e344, (by decide : (((0 + 0) + 0) + 0) + 0 ≤ _), (by decide : (((0 + 0) + 0) + 0) + 0 ≤ _)⟩)
        dsimp only [Pt.U, Pt.locs, Pt.cells, Pt.slots] at X347 l347 y347 z347 st347 hQ347
        subst l347 y347 z347
        obtain ⟨rfl, rfl, e347⟩ := hQ347
        have N347 := Fr.app N344 (Fr.nil n0)
        have r348 : Steps p.tables e below S0 (T347.setTop (mkF m 62 #[.val (.ref r1), .val (.ref a1), .val (.ref b1), .val (.int p1), .val (.int (45 : Int32))] [(.int ((ca ++ 45 :: cb).getD i 0))])) := r346.trans st347
        have hq : ((ca ++ 45 :: cb).getD i 0) = (45 : Int32) := at_m h3
        have r349 : Steps p.tables e below S0 (T347.setTop (mkF m 72 #[.val (.ref r1), .val (.ref a1), .val (.ref b1), .val (.int p1), .val (.int (45 : Int32))] [(.int (1 : Int32))])) := by
          refine r348.trans ?_
          show Steps p.tables e below (T347.setTop (mkF m 62 #[.val (.ref r1), .val (.ref a1), .val (.ref b1), .val (.int p1), .val (.int (45 : Int32))] [(.int ((ca ++ 45 :: cb).getD i 0))])) _
          refine XS.iload X347.here hx rfl (hb hby d30_62) rfl ?_
          show Steps p.tables e below (T347.setTop (mkF m 64 #[.val (.ref r1), .val (.ref a1), .val (.ref b1), .val (.int p1), .val (.int (45 : Int32))] [(.int (45 : Int32)), (.int ((ca ++ 45 :: cb).getD i 0))])) _
          refine XS.icmpNo X347.here hx rfl (hb hby d30_64) rfl (teq hq).2 ?_
          show Steps p.tables e below (T347.setTop (mkF m 67 #[.val (.ref r1), .val (.ref a1), .val (.ref b1), .val (.int p1), .val (.int (45 : Int32))] [])) _
          refine XS.iconst X347.here hx rfl (hb hby d30_67) ?_
          show Steps p.tables e below (T347.setTop (mkF m 68 #[.val (.ref r1), .val (.ref a1), .val (.ref b1), .val (.int p1), .val (.int (45 : Int32))] [(.int (1 : Int32))])) _
          refine XS.goto X347.here hx rfl (pc0 := 68) (pc' := 72) rfl (hb hby d30_68) (by decide) (by decide) ?_
          exact Steps.refl _
        obtain ⟨fs, hr, hrun, hended, hW, hsame⟩ := X347.leave (v := some (.int (1 : Int32))) (fun h => by rw [Bd.returns] at h; cases h)
        refine ⟨_, _, pre0 _ ?_, hrun, hended, _, _, rfl, ?_, ⟨_, rfl⟩, hW, hsame.mono (by decide) (by decide)⟩
        · rw [← hS0]
          refine r349.trans ?_
          show Steps p.tables e below (T347.setTop (mkF m 72 #[.val (.ref r1), .val (.ref a1), .val (.ref b1), .val (.int p1), .val (.int (45 : Int32))] [(.int (1 : Int32))])) _
          exact retB X347 hx Bd.returns (by first | exact Or.inr rfl | exact Or.inl rfl | (split <;> simp)) (hb hby d30_72) hr
        · show QmAt Z r1 a1 b1 p1 cz fm br kr ba ka bb kb ca cb i h0 n0 _ T347.heap _; rw [e347]; exact ⟨rfl, N347, rfl⟩
      · skip
        have r350 : Steps p.tables e below S0 (T344.setTop (mkF m 46 #[.val (.ref r1), .val (.ref a1), .val (.ref b1), .val (.int p1), .unset] [(.ref a1), (.int p1), (.ref b1)])) := by
          refine r345.trans ?_
          show Steps p.tables e below (T344.setTop (mkF m 33 #[.val (.ref r1), .val (.ref a1), .val (.ref b1), .val (.int p1), .unset] [(.int (Int32.ofNat ca.length)), (.int p1)])) _
          refine XS.icmpYes X344.here hx rfl (pc0 := 33) (pc' := 43) rfl (hb hby d30_33) rfl (feq (fun q => h3 ((ie _ (by omega)).mp q))).2 (by decide) (by decide) ?_
          show Steps p.tables e below (T344.setTop (mkF m 43 #[.val (.ref r1), .val (.ref a1), .val (.ref b1), .val (.int p1), .unset] [])) _
          refine XS.aloadN X344.here hx rfl (hb hby d30_43) rfl rfl ?_
          show Steps p.tables e below (T344.setTop (mkF m 44 #[.val (.ref r1), .val (.ref a1), .val (.ref b1), .val (.int p1), .unset] [(.ref b1)])) _
          refine XS.iloadN X344.here hx rfl (hb hby d30_44) rfl ?_
          show Steps p.tables e below (T344.setTop (mkF m 45 #[.val (.ref r1), .val (.ref a1), .val (.ref b1), .val (.int p1), .unset] [(.int p1), (.ref b1)])) _
          refine XS.aloadN X344.here hx rfl (hb hby d30_45) rfl rfl ?_
          exact Steps.refl _
        obtain ⟨cq351, kq351, q351a, q351b, q351c⟩ := isOf hZ e344 hA.1
        obtain ⟨_, _, ⟨T351, L351, k351, n351⟩, -, X351, ⟨Lc351, hQ351, l351, y351, z351⟩, st351⟩ := X344.virtualBack hx (y := (⟨"java/lang/String", "length", "()I"⟩ : MethodName)) (z := (⟨"java/lang/String", "length", "()I"⟩ : MethodName)) hown (mvT hZ (hw _ (List.mem_of_getElem? (i := 164) rfl))) (mvT hZ (hw _ (List.mem_of_getElem? (i := 78) rfl))) (notFace_of_selects (args := #[]) (mvT hZ (hw _ (List.mem_of_getElem? (i := 80) rfl)))) (mvT hZ (hw _ (List.mem_of_getElem? (i := 80) rfl))) (mvT hZ (hw _ (List.mem_of_getElem? (i := 79) rfl))) (by decide) (StrChars.Road.lenW (W := 2) hZ hln (kI := 4) (hw _ (List.mem_of_getElem? (i := 5) rfl)) hA.1 hA.2.2.1 hA.2.1 hA.2.2.2 (own_cod L1) (own_up L1) (Sc.ext O0.2) hcz (Nat.le_trans L1.1 (by decide)) (by decide) (by decide)) q351a q351c (g := (mkF m 46 #[.val (.ref r1), .val (.ref a1), .val (.ref b1), .val (.int p1), .unset] [(.ref a1), (.int p1), (.ref b1)])) rfl (by rw [hml]; rfl) (Steps.refl _) (argsL := []) (rest := [(.int p1), (.ref b1)]) (lenOf pd_0 rfl) rfl (by show 2 * 0 + _ ≤ _; exact Nat.le_of_eq rfl) (hb hby d30_46) (fun _ _ => ⟨rfl, e344, (by decide : (((0 + 0) + 0) + 0) + 0 ≤ _), (by decide : (((0 + 0) + 0) + 0) + 0 ≤ _)⟩)
        dsimp only [Pt.U, Pt.locs, Pt.cells, Pt.slots] at X351 l351 y351 z351 st351 hQ351
        subst l351 y351 z351
        obtain ⟨rfl, rfl, e351⟩ := hQ351
        have N351 := Fr.app N344 (Fr.nil n0)
        have r352 : Steps p.tables e below S0 (T351.setTop (mkF m 49 #[.val (.ref r1), .val (.ref a1), .val (.ref b1), .val (.int p1), .unset] [(.int (Int32.ofNat ca.length)), (.int p1), (.ref b1)])) := r350.trans st351
        have r353 : Steps p.tables e below S0 (T351.setTop (mkF m 52 #[.val (.ref r1), .val (.ref a1), .val (.ref b1), .val (.int p1), .unset] [(.int ((p1 - (Int32.ofNat ca.length)) - (1 : Int32))), (.ref b1)])) := by
          refine r352.trans ?_
          show Steps p.tables e below (T351.setTop (mkF m 49 #[.val (.ref r1), .val (.ref a1), .val (.ref b1), .val (.int p1), .unset] [(.int (Int32.ofNat ca.length)), (.int p1), (.ref b1)])) _
          refine XS.isub X351.here hx rfl (hb hby d30_49) rfl ?_
          show Steps p.tables e below (T351.setTop (mkF m 50 #[.val (.ref r1), .val (.ref a1), .val (.ref b1), .val (.int p1), .unset] [(.int (p1 - (Int32.ofNat ca.length))), (.ref b1)])) _
          refine XS.iconst X351.here hx rfl (hb hby d30_50) ?_
          show Steps p.tables e below (T351.setTop (mkF m 51 #[.val (.ref r1), .val (.ref a1), .val (.ref b1), .val (.int p1), .unset] [(.int (1 : Int32)), (.int (p1 - (Int32.ofNat ca.length))), (.ref b1)])) _
          refine XS.isub X351.here hx rfl (hb hby d30_51) rfl ?_
          exact Steps.refl _
        obtain ⟨cq354, kq354, q354a, q354b, q354c⟩ := isOf hZ e351 hBs.1
        obtain ⟨_, _, ⟨T354, L354, k354, n354⟩, -, X354, ⟨Lc354, hQ354, l354, y354, z354⟩, st354⟩ := X351.virtualBack hx (y := (⟨"java/lang/String", "charAt", "(I)C"⟩ : MethodName)) (z := (⟨"java/lang/String", "charAt", "(I)C"⟩ : MethodName)) hown (mvT hZ (hw _ (List.mem_of_getElem? (i := 168) rfl))) (mvT hZ (hw _ (List.mem_of_getElem? (i := 169) rfl))) (notFace_of_selects (args := #[]) (mvT hZ (hw _ (List.mem_of_getElem? (i := 171) rfl)))) (mvT hZ (hw _ (List.mem_of_getElem? (i := 171) rfl))) (mvT hZ (hw _ (List.mem_of_getElem? (i := 170) rfl))) (by decide) (StrChars.Road.chN (W := 0) hZ hch (kI := 4) (hw _ (List.mem_of_getElem? (i := 5) rfl)) hBs.1 hBs.2.2.1 hBs.2.1 hBs.2.2.2 (own_cod L2) (own_up L2) (Sc.ext O0.2) hcz (Sf.ext O0.2) hfm (Nat.le_trans L2.1 (by decide)) (i := (i - ca.length - 1)) (by omega) (j := ((p1 - (Int32.ofNat ca.length)) - (1 : Int32))) (by rw [hp]; exact i_sub i ca.length hi (by omega) (by omega)) (by decide) (by decide)) q354a q354c (g := (mkF m 52 #[.val (.ref r1), .val (.ref a1), .val (.ref b1), .val (.int p1), .unset] [(.int ((p1 - (Int32.ofNat ca.length)) - (1 : Int32))), (.ref b1)])) rfl (by rw [hml]; rfl) (Steps.refl _) (argsL := [(.int ((p1 - (Int32.ofNat ca.length)) - (1 : Int32)))]) (rest := []) (lenOf pd_20 rfl) rfl (by show 2 * 0 + _ ≤ _; exact Nat.le_of_eq rfl) (hb hby d30_52) (fun _ _ => ⟨rfl, e351, (by decide : ((((0 + 0) + 0) + 0) + 0) + 0 ≤ _), (by decide : ((((0 + 0) + 0) + 0) + 0) + 0 ≤ _)⟩)
        dsimp only [Pt.U, Pt.locs, Pt.cells, Pt.slots] at X354 l354 y354 z354 st354 hQ354
        subst l354 y354 z354
        obtain ⟨rfl, rfl, e354⟩ := hQ354
        have N354 := Fr.app N351 (Fr.nil n0)
        have r355 : Steps p.tables e below S0 (T354.setTop (mkF m 55 #[.val (.ref r1), .val (.ref a1), .val (.ref b1), .val (.int p1), .unset] [(.int (cb.getD (i - ca.length - 1) 0))])) := r353.trans st354
        have r356 : Steps p.tables e below S0 (T354.setTop (mkF m 59 #[.val (.ref r1), .val (.ref a1), .val (.ref b1), .val (.int p1), .val (.int (cb.getD (i - ca.length - 1) 0))] [(.int p1), (.ref r1)])) := by
          refine r355.trans ?_
          show Steps p.tables e below (T354.setTop (mkF m 55 #[.val (.ref r1), .val (.ref a1), .val (.ref b1), .val (.int p1), .unset] [(.int (cb.getD (i - ca.length - 1) 0))])) _
          refine XS.istore X354.here hx rfl (hb hby d30_55) rfl (l' := #[.val (.ref r1), .val (.ref a1), .val (.ref b1), .val (.int p1), .val (.int (cb.getD (i - ca.length - 1) 0))]) rfl ?_
          show Steps p.tables e below (T354.setTop (mkF m 57 #[.val (.ref r1), .val (.ref a1), .val (.ref b1), .val (.int p1), .val (.int (cb.getD (i - ca.length - 1) 0))] [])) _
          refine XS.aloadN X354.here hx rfl (hb hby d30_57) rfl rfl ?_
          show Steps p.tables e below (T354.setTop (mkF m 58 #[.val (.ref r1), .val (.ref a1), .val (.ref b1), .val (.int p1), .val (.int (cb.getD (i - ca.length - 1) 0))] [(.ref r1)])) _
          refine XS.iloadN X354.here hx rfl (hb hby d30_58) rfl ?_
          exact Steps.refl _
        obtain ⟨cq357, kq357, q357a, q357b, q357c⟩ := isOf hZ e354 hR.1
        obtain ⟨_, _, ⟨T357, L357, k357, n357⟩, -, X357, ⟨Lc357, hQ357, l357, y357, z357⟩, st357⟩ := X354.virtualBack hx (y := (⟨"java/lang/String", "charAt", "(I)C"⟩ : MethodName)) (z := (⟨"java/lang/String", "charAt", "(I)C"⟩ : MethodName)) hown (mvT hZ (hw _ (List.mem_of_getElem? (i := 168) rfl))) (mvT hZ (hw _ (List.mem_of_getElem? (i := 169) rfl))) (notFace_of_selects (args := #[]) (mvT hZ (hw _ (List.mem_of_getElem? (i := 171) rfl)))) (mvT hZ (hw _ (List.mem_of_getElem? (i := 171) rfl))) (mvT hZ (hw _ (List.mem_of_getElem? (i := 170) rfl))) (by decide) (StrChars.Road.chN (W := 0) hZ hch (kI := 4) (hw _ (List.mem_of_getElem? (i := 5) rfl)) hR.1 hR.2.2.1 hR.2.1 hR.2.2.2 (own_cod LR) (own_up LR) (Sc.ext O0.2) hcz (Sf.ext O0.2) hfm (Nat.le_trans LR.1 (by decide)) (i := i) h1 (j := p1) hp (by decide) (by decide)) q357a q357c (g := (mkF m 59 #[.val (.ref r1), .val (.ref a1), .val (.ref b1), .val (.int p1), .val (.int (cb.getD (i - ca.length - 1) 0))] [(.int p1), (.ref r1)])) rfl (by rw [hml]; rfl) (Steps.refl _) (argsL := [(.int p1)]) (rest := []) (lenOf pd_20 rfl) rfl (by show 2 * 0 + _ ≤ _; exact Nat.le_of_eq rfl) (hb hby d30_59) (fun _ _ => ⟨rfl, e354, (by decide : (((((0 + 0) + 0) + 0) + 0) + 0) + 0 ≤ _), (by decide : (((((0 + 0) + 0) + 0) + 0) + 0) + 0 ≤ _)⟩)
        dsimp only [Pt.U, Pt.locs, Pt.cells, Pt.slots] at X357 l357 y357 z357 st357 hQ357
        subst l357 y357 z357
        obtain ⟨rfl, rfl, e357⟩ := hQ357
        have N357 := Fr.app N354 (Fr.nil n0)
        have r358 : Steps p.tables e below S0 (T357.setTop (mkF m 62 #[.val (.ref r1), .val (.ref a1), .val (.ref b1), .val (.int p1), .val (.int (cb.getD (i - ca.length - 1) 0))] [(.int ((ca ++ 45 :: cb).getD i 0))])) := r356.trans st357
        have hq : ((ca ++ 45 :: cb).getD i 0) = (cb.getD (i - ca.length - 1) 0) := at_r (by omega)
        have r359 : Steps p.tables e below S0 (T357.setTop (mkF m 72 #[.val (.ref r1), .val (.ref a1), .val (.ref b1), .val (.int p1), .val (.int (cb.getD (i - ca.length - 1) 0))] [(.int (1 : Int32))])) := by
          refine r358.trans ?_
          show Steps p.tables e below (T357.setTop (mkF m 62 #[.val (.ref r1), .val (.ref a1), .val (.ref b1), .val (.int p1), .val (.int (cb.getD (i - ca.length - 1) 0))] [(.int ((ca ++ 45 :: cb).getD i 0))])) _
          refine XS.iload X357.here hx rfl (hb hby d30_62) rfl ?_
          show Steps p.tables e below (T357.setTop (mkF m 64 #[.val (.ref r1), .val (.ref a1), .val (.ref b1), .val (.int p1), .val (.int (cb.getD (i - ca.length - 1) 0))] [(.int (cb.getD (i - ca.length - 1) 0)), (.int ((ca ++ 45 :: cb).getD i 0))])) _
          refine XS.icmpNo X357.here hx rfl (hb hby d30_64) rfl (teq hq).2 ?_
          show Steps p.tables e below (T357.setTop (mkF m 67 #[.val (.ref r1), .val (.ref a1), .val (.ref b1), .val (.int p1), .val (.int (cb.getD (i - ca.length - 1) 0))] [])) _
          refine XS.iconst X357.here hx rfl (hb hby d30_67) ?_
          show Steps p.tables e below (T357.setTop (mkF m 68 #[.val (.ref r1), .val (.ref a1), .val (.ref b1), .val (.int p1), .val (.int (cb.getD (i - ca.length - 1) 0))] [(.int (1 : Int32))])) _
          refine XS.goto X357.here hx rfl (pc0 := 68) (pc' := 72) rfl (hb hby d30_68) (by decide) (by decide) ?_
          exact Steps.refl _
        obtain ⟨fs, hr, hrun, hended, hW, hsame⟩ := X357.leave (v := some (.int (1 : Int32))) (fun h => by rw [Bd.returns] at h; cases h)
        refine ⟨_, _, pre0 _ ?_, hrun, hended, _, _, rfl, ?_, ⟨_, rfl⟩, hW, hsame.mono (by decide) (by decide)⟩
        · rw [← hS0]
          refine r359.trans ?_
          show Steps p.tables e below (T357.setTop (mkF m 72 #[.val (.ref r1), .val (.ref a1), .val (.ref b1), .val (.int p1), .val (.int (cb.getD (i - ca.length - 1) 0))] [(.int (1 : Int32))])) _
          exact retB X357 hx Bd.returns (by first | exact Or.inr rfl | exact Or.inl rfl | (split <;> simp)) (hb hby d30_72) hr
        · show QmAt Z r1 a1 b1 p1 cz fm br kr ba ka bb kb ca cb i h0 n0 _ T357.heap _; rw [e357]; exact ⟨rfl, N357, rfl⟩
  · skip
    have r360 : Steps p.tables e below S0 (T331.setTop (mkF m 9 #[.val (.ref r1), .val (.ref a1), .val (.ref b1), .val (.int p1), .unset] [(.int (1 : Int32))])) := by
      refine r332.trans ?_
      show Steps p.tables e below (T331.setTop (mkF m 5 #[.val (.ref r1), .val (.ref a1), .val (.ref b1), .val (.int p1), .unset] [(.int (Int32.ofNat (ca ++ 45 :: cb).length)), (.int p1)])) _
      refine XS.icmpNo X331.here hx rfl (hb hby d30_5) rfl (flt (fun q => h1 ((il _ (by omega)).mp q))).1 ?_
      show Steps p.tables e below (T331.setTop (mkF m 8 #[.val (.ref r1), .val (.ref a1), .val (.ref b1), .val (.int p1), .unset] [])) _
      refine XS.iconst X331.here hx rfl (hb hby d30_8) ?_
      exact Steps.refl _
    obtain ⟨fs, hr, hrun, hended, hW, hsame⟩ := X331.leave (v := some (.int (1 : Int32))) (fun h => by rw [Bd.returns] at h; cases h)
    refine ⟨_, _, pre0 _ ?_, hrun, hended, _, _, rfl, ?_, ⟨_, rfl⟩, hW, hsame.mono (by decide) (by decide)⟩
    · rw [← hS0]
      refine r360.trans ?_
      show Steps p.tables e below (T331.setTop (mkF m 9 #[.val (.ref r1), .val (.ref a1), .val (.ref b1), .val (.int p1), .unset] [(.int (1 : Int32))])) _
      exact retB X331 hx Bd.returns (by first | exact Or.inr rfl | exact Or.inl rfl | (split <;> simp)) (hb hby d30_9) hr
    · show QmAt Z r1 a1 b1 p1 cz fm br kr ba ka bb kb ca cb i h0 n0 _ T331.heap _; rw [e331]; exact ⟨rfl, N331, rfl⟩
theorem pn_0 : plainName "com/example/spectraloom/spectraloom/model/LinkToStringPinLaw" = true := by first | (simp [plainName, overriddenIn]; done) | decide +kernel
theorem ef_0 (m : MethodId) (x0 : Int32) (x1 : Int32) (x2 : Int32) : entryFrame m #[(.int x0), (.int x1), (.int x2)] maxLocals = mkF m 0 #[.val (.int x0), .val (.int x1), .val (.int x2), .unset, .unset, .unset, .unset, .unset, .unset] [] := by first | (simp [entryFrame, mkF, argsToLocals, Value.category, maxLocals]; done) | rfl
def Qm0 (Z : State) (p1 : Int32) (p2 : Int32) (p3 : Int32) (cz : Int32) (fm : Value) (h0 : Heap) (n0 : Nat) (v : Option Value) (h : Heap) (L : List Loc) : Prop := v = some (.int 1) ∧ Fr n0 L
set_option maxRecDepth 65536 in
set_option maxHeartbeats 40000000 in
theorem rm0 (l : Launch) (Z : State) (a0 : Array Value) (hw : ∀ d ∈ tables_1, d.before a0 Z = true) (ws : List Jvm.Cond) (p1 : Int32) (p2 : Int32) (p3 : Int32) (cz : Int32) (fm : Value) (h0 : Heap) (n0 : Nat) (Z0 : n0 ≤ h0.size) (O0 : Old Z n0 h0) (Sc : Sta Z Z.heap "java/lang/String" "COMPACT_STRINGS" "Z" (.int cz)) (hcz : ¬ cz = 0)(Sf : Sta Z Z.heap "jdk/internal/util/Preconditions" "SIOOBE_FORMATTER" "Ljava/util/function/BiFunction;" fm) (hfm : fm.isRef = true) (hEL : EW Z a0 consts_1) :
    MetFree l x (head1 (Jvm.Cond.code x code maxLocals ret :: ws) room_1) (fun a U => a = #[(.int p1), (.int p2), (.int p3)] ∧ Z.Warmed39 U.vm ∧ U.heap = h0 ∧ CHv Z consts_1 U.vm h0) (fun _ _ _ _ _ => True) (fun _ U o U' => ∃ v L, o = .returned v ∧ Qm0 Z p1 p2 p3 cz fm h0 n0 v U'.heap L ∧ CHr Z consts_1 U.vm U.heap U'.vm U'.heap ∧ ReturnedEndW U o U' L room_1.cells room_1.slots) := by
  refine MetFree.of_bodySF (plainFor_of_name pn_0) hisR ?_
  intro p e s m args below meth c s₁ Bd hml0 hP hK
  obtain ⟨rfl, hZ, hh, hCH⟩ := hP
  have hst : ∀ d ∈ Bundle.stringAtoms, d.before a0 Z = true := fun d hd => hw d ((by decide +kernel : ∀ d ∈ Bundle.stringAtoms, d ∈ tables_1) d hd)
  have hx := Bd.exec
  have hby := Bd.bytes
  have hml : c.maxLocals = 9 := hml0
  have hown : s.vm.findClass "com/example/spectraloom/spectraloom/model/LinkToStringPinLaw" = some m.cls := findClass_of_methodNamed Bd.named
  have hnm := (name_of_methodNamed Bd.named Bd.method).1
  have X0 : Stand p l e room_1 s m #[(.int p1), (.int p2), (.int p3)] below meth c s₁ [] 0 0 := Stand.of_body Bd
  have e0 : s₁.heap = h0 := by rw [← hh, Bd.state]; rfl
  have N0 := Fr.nil n0
  have pre0 : ∀ t, Steps p.tables e below (s₁.setTop (mkF m 0 #[.val (.int p1), .val (.int p2), .val (.int p3), .unset, .unset, .unset, .unset, .unset, .unset] [])) t → Steps p.tables e below (s₁.setTop (entryFrame m #[(.int p1), (.int p2), (.int p3)] maxLocals)) t := fun t_ k_ => castTop (ef_0 m p1 p2 p3) k_
  obtain ⟨S0, hS0⟩ : ∃ z, z = s₁.setTop (mkF m 0 #[.val (.int p1), .val (.int p2), .val (.int p3), .unset, .unset, .unset, .unset, .unset, .unset] []) := ⟨_, rfl⟩
  have r0 : Steps p.tables e below S0 (s₁.setTop (mkF m 0 #[.val (.int p1), .val (.int p2), .val (.int p3), .unset, .unset, .unset, .unset, .unset, .unset] [])) := by rw [hS0]; exact Steps.refl _
  have hC0 := CHv.at (vm0 := s.vm) (s := s) X0 hZ hEL hCH
  have hS0_ : s.Since s₁.vm 0 := X0.warmed.since 0
  have hZ0_ : Z.Warmed39 (s.setVm s₁.vm).vm := wtrans hZ X0.warmed
  have hown0_ : (s.setVm s₁.vm).vm.findClass "com/example/spectraloom/spectraloom/model/LinkToStringPinLaw" = some m.cls := by rw [show (s.setVm s₁.vm).vm = s₁.vm from rfl, X0.warmed.alike.findClass]; exact hown
  have Xs : Stand p l e room_1 (s.setVm s₁.vm) m #[(.int p1), (.int p2), (.int p3)] below meth c s₁ [] 0 0 := X0.retabled X0.warmed.wide
  have hZ := hZ0_
  have hown := hown0_
  have hln : ∀ d ∈ StrChars.Road.wordsLen, d.before a0 Z = true := fun d hd => hw d ((by decide +kernel : ∀ d ∈ StrChars.Road.wordsLen, d ∈ tables_1) d hd)
  have r361 : Steps p.tables e below S0 (s₁.setTop (mkF m 1 #[.val (.int p1), .val (.int p2), .val (.int p3), .unset, .unset, .unset, .unset, .unset, .unset] [(.int p1)])) := by
    refine r0.trans ?_
    show Steps p.tables e below (s₁.setTop (mkF m 0 #[.val (.int p1), .val (.int p2), .val (.int p3), .unset, .unset, .unset, .unset, .unset, .unset] [])) _
    refine XS.iloadN Xs.here hx rfl (hb hby at_0) rfl ?_
    exact Steps.refl _
  obtain ⟨_, _, ⟨T362, L362, k362, n362⟩, -, X362, hS362, hge362, ⟨Lc362, hQ362, l362, y362, z362, hC362⟩, st362⟩ := callSS Xs hx (y := (⟨"com/example/spectraloom/spectraloom/model/LinkToStringPinLaw", "mk", "(I)Ljava/lang/String;"⟩ : MethodName)) hown (mvT hZ (hw _ (List.mem_of_getElem? (i := 0) rfl))) (mvT hZ (hw _ (List.mem_of_getElem? (i := 1) rfl))) (mvT hZ (hw _ (List.mem_of_getElem? (i := 2) rfl))) (mvT hZ (hw _ (List.mem_of_getElem? (i := 3) rfl))) (by decide) (backOfSH (W := 0) (rmMk l Z a0 hw [] p1 cz h0 n0 Z0 O0 Sc hcz hEL) hZ (hw _ (List.mem_of_getElem? (i := 3) rfl)) (hw _ (List.mem_of_getElem? (i := 2) rfl)) (by decide) (by decide) hEL hC0.1) (g := (mkF m 1 #[.val (.int p1), .val (.int p2), .val (.int p3), .unset, .unset, .unset, .unset, .unset, .unset] [(.int p1)])) rfl (by rw [hml]; rfl) (argsL := [(.int p1)]) (rest := []) (lenOf pd_21 rfl) rfl (by show 2 * 0 + _ ≤ _; exact Nat.le_of_eq rfl) (hb hby at_1) (fun _ _ => ⟨rfl, e0, (by decide : 0 + 6 ≤ _), (by decide : 0 + 32 ≤ _)⟩)
  dsimp only [Pt.U, Pt.locs, Pt.cells, Pt.slots] at hS362 hge362 hC362
  dsimp only [Pt.U, Pt.locs, Pt.cells, Pt.slots] at X362 l362 y362 z362 st362 hQ362
  subst l362 y362 z362
  obtain ⟨v1, b1, k1, cs1, rfl, Nq362, Kc362, NA, L1⟩ := hQ362
  have N362 := Fr.app N0 Nq362
  have r363 : Steps p.tables e below S0 (T362.setTop (mkF m 4 #[.val (.int p1), .val (.int p2), .val (.int p3), .unset, .unset, .unset, .unset, .unset, .unset] [v1])) := r361.trans st362
  obtain ⟨hSn362, hZn362, hownn362⟩ := afterS (T := s₁) hZ hown hS0_ (by rw [e0]; exact (Nat.zero_le _)) hS362 hge362
  have hZ := hZn362
  have hown := hownn362
  have X362 : Stand p l e room_1 (s.setVm T362.vm) m #[(.int p1), (.int p2), (.int p3)] below meth c T362 _ _ _ := X362
  have C362 := hC0.trans hC362
  have Z362 : n0 ≤ T362.heap.size := Nat.le_trans Z0 Kc362.1
  have O362 := O0.keep Kc362 (all0)
  have r364 : Steps p.tables e below S0 (T362.setTop (mkF m 6 #[.val (.int p1), .val (.int p2), .val (.int p3), .val v1, .unset, .unset, .unset, .unset, .unset] [(.int p2)])) := by
    refine r363.trans ?_
    show Steps p.tables e below (T362.setTop (mkF m 4 #[.val (.int p1), .val (.int p2), .val (.int p3), .unset, .unset, .unset, .unset, .unset, .unset] [v1])) _
    refine XS.astoreN X362.here hx rfl (hb hby at_4) rfl NA.isRef (l' := #[.val (.int p1), .val (.int p2), .val (.int p3), .val v1, .unset, .unset, .unset, .unset, .unset]) (by rcases NA with ⟨rfl, -⟩ | ⟨a_, rfl, -⟩ <;> rfl) ?_
    show Steps p.tables e below (T362.setTop (mkF m 5 #[.val (.int p1), .val (.int p2), .val (.int p3), .val v1, .unset, .unset, .unset, .unset, .unset] [])) _
    refine XS.iloadN X362.here hx rfl (hb hby at_5) rfl ?_
    exact Steps.refl _
  obtain ⟨_, _, ⟨T365, L365, k365, n365⟩, -, X365, hS365, hge365, ⟨Lc365, hQ365, l365, y365, z365, hC365⟩, st365⟩ := callSS X362 hx (y := (⟨"com/example/spectraloom/spectraloom/model/LinkToStringPinLaw", "mk", "(I)Ljava/lang/String;"⟩ : MethodName)) hown (mvT hZ (hw _ (List.mem_of_getElem? (i := 0) rfl))) (mvT hZ (hw _ (List.mem_of_getElem? (i := 1) rfl))) (mvT hZ (hw _ (List.mem_of_getElem? (i := 2) rfl))) (mvT hZ (hw _ (List.mem_of_getElem? (i := 3) rfl))) (by decide) (backOfSH (W := 0) (rmMk l Z a0 hw [] p2 cz T362.heap n0 Z362 O362 Sc hcz hEL) hZ (hw _ (List.mem_of_getElem? (i := 3) rfl)) (hw _ (List.mem_of_getElem? (i := 2) rfl)) (by decide) (by decide) hEL C362.1) (g := (mkF m 6 #[.val (.int p1), .val (.int p2), .val (.int p3), .val v1, .unset, .unset, .unset, .unset, .unset] [(.int p2)])) rfl (by rw [hml]; rfl) (argsL := [(.int p2)]) (rest := []) (lenOf pd_21 rfl) rfl (by show 2 * 0 + _ ≤ _; exact Nat.le_of_eq rfl) (hb hby at_6) (fun _ _ => ⟨rfl, rfl, (by decide : (0 + 6) + 6 ≤ _), (by decide : (0 + 32) + 32 ≤ _)⟩)
  dsimp only [Pt.U, Pt.locs, Pt.cells, Pt.slots] at hS365 hge365 hC365
  dsimp only [Pt.U, Pt.locs, Pt.cells, Pt.slots] at X365 l365 y365 z365 st365 hQ365
  subst l365 y365 z365
  obtain ⟨v2, b2, k2, cs2, rfl, Nq365, Kc365, NB0, L2⟩ := hQ365
  have N365 := Fr.app N362 Nq365
  have r366 : Steps p.tables e below S0 (T365.setTop (mkF m 9 #[.val (.int p1), .val (.int p2), .val (.int p3), .val v1, .unset, .unset, .unset, .unset, .unset] [v2])) := r364.trans st365
  obtain ⟨hSn365, hZn365, hownn365⟩ := afterS (T := T362) hZ hown hSn362 (Nat.le_refl _) hS365 hge365
  have hZ := hZn365
  have hown := hownn365
  have X365 : Stand p l e room_1 (s.setVm T365.vm) m #[(.int p1), (.int p2), (.int p3)] below meth c T365 _ _ _ := X365
  have C365 := C362.trans hC365
  have Z365 : n0 ≤ T365.heap.size := Nat.le_trans Z362 Kc365.1
  have O365 := O362.keep Kc365 (all0)
  have NA0 := NA.later Kc365 all0
  have r367 : Steps p.tables e below S0 (T365.setTop (mkF m 11 #[.val (.int p1), .val (.int p2), .val (.int p3), .val v1, .val v2, .unset, .unset, .unset, .unset] [])) := by
    refine r366.trans ?_
    show Steps p.tables e below (T365.setTop (mkF m 9 #[.val (.int p1), .val (.int p2), .val (.int p3), .val v1, .unset, .unset, .unset, .unset, .unset] [v2])) _
    refine XS.astore X365.here hx rfl (hb hby at_9) rfl NB0.isRef (l' := #[.val (.int p1), .val (.int p2), .val (.int p3), .val v1, .val v2, .unset, .unset, .unset, .unset]) (by rcases NB0 with ⟨rfl, -⟩ | ⟨a_, rfl, -⟩ <;> rfl) ?_
    exact Steps.refl _
  obtain ⟨T368, h368, X368, e368, E368, A368, D368, -, st368⟩ := newO X365 hx hZ hown (hw _ (List.mem_of_getElem? (i := 26) rfl)) (hw _ (List.mem_of_getElem? (i := 27) rfl)) (hw _ (List.mem_of_getElem? (i := 28) rfl)) rfl (g := (mkF m 11 #[.val (.int p1), .val (.int p2), .val (.int p3), .val v1, .val v2, .unset, .unset, .unset, .unset] [])) rfl (hb hby at_11) (by decide) (by decide)
  obtain ⟨li, g368⟩ : ∃ z, z = T365.heap.size := ⟨_, rfl⟩
  rw [← g368] at A368 D368 st368
  have SF0_li : Safe Z consts_1 T365.vm T365.heap li := Safe.new (Nat.le_of_eq g368.symm)
  have g_li : n0 ≤ li := Nat.le_trans Z365 (Nat.le_of_eq g368.symm)
  have Z368 : n0 ≤ h368.size := Nat.le_trans Z365 E368.1
  have O368 := O365.ext E368
  have SF368_li := Safe.ext E368 C365.1 SF0_li
  have cs368 := CHr.ext E368 C365.1
  have C368 := C365.trans cs368
  have hks368 := Nat.le_trans (Nat.le_refl _) cs368.2.1
  have F_li_source : Fld Z h368 li "com/example/spectraloom/spectraloom/model/Link" "source" "Ljava/lang/String;" .null := D368 (Or.inr (hw _ (List.mem_of_getElem? (i := 39) rfl))) (ty := (.object "java/lang/String")) (by decide)
  have F_li_target : Fld Z h368 li "com/example/spectraloom/spectraloom/model/Link" "target" "Ljava/lang/String;" .null := D368 (Or.inr (hw _ (List.mem_of_getElem? (i := 41) rfl))) (ty := (.object "java/lang/String")) (by decide)
  have F_li_lengthKm : Fld Z h368 li "com/example/spectraloom/spectraloom/model/Link" "lengthKm" "D" (.double (0 : UInt64)) := D368 (Or.inr (hw _ (List.mem_of_getElem? (i := 43) rfl))) (ty := .double) (by decide)
  have r369 : Steps p.tables e below S0 (T368.setTop (mkF m 14 #[.val (.int p1), .val (.int p2), .val (.int p3), .val v1, .val v2, .unset, .unset, .unset, .unset] [(.ref li)])) := r367.trans (st368 _ (Steps.refl _))
  have KE := (Keep.refl T365.heap []).ext E368
  have NA1 := NA0.later KE all0
  have NB1 := NB0.later KE all0
  have r370 : Steps p.tables e below S0 (T368.setTop (mkF m 20 #[.val (.int p1), .val (.int p2), .val (.int p3), .val v1, .val v2, .unset, .unset, .unset, .unset] [(.double (FP.i2d p3)), v2, v1, (.ref li), (.ref li)])) := by
    refine r369.trans ?_
    show Steps p.tables e below (T368.setTop (mkF m 14 #[.val (.int p1), .val (.int p2), .val (.int p3), .val v1, .val v2, .unset, .unset, .unset, .unset] [(.ref li)])) _
    refine XS.dup X368.here hx rfl (hb hby at_14) rfl rfl ?_
    show Steps p.tables e below (T368.setTop (mkF m 15 #[.val (.int p1), .val (.int p2), .val (.int p3), .val v1, .val v2, .unset, .unset, .unset, .unset] [(.ref li), (.ref li)])) _
    refine XS.aloadN X368.here hx rfl (hb hby at_15) rfl NA.isRef ?_
    show Steps p.tables e below (T368.setTop (mkF m 16 #[.val (.int p1), .val (.int p2), .val (.int p3), .val v1, .val v2, .unset, .unset, .unset, .unset] [v1, (.ref li), (.ref li)])) _
    refine XS.aload X368.here hx rfl (hb hby at_16) rfl NB0.isRef ?_
    show Steps p.tables e below (T368.setTop (mkF m 18 #[.val (.int p1), .val (.int p2), .val (.int p3), .val v1, .val v2, .unset, .unset, .unset, .unset] [v2, v1, (.ref li), (.ref li)])) _
    refine XS.iloadN X368.here hx rfl (hb hby at_18) rfl ?_
    show Steps p.tables e below (T368.setTop (mkF m 19 #[.val (.int p1), .val (.int p2), .val (.int p3), .val v1, .val v2, .unset, .unset, .unset, .unset] [(.int p3), v2, v1, (.ref li), (.ref li)])) _
    refine XS.i2dS X368.here hx rfl (hb hby at_19) rfl rfl ?_
    exact Steps.refl _
  obtain ⟨_, _, ⟨T371, L371, k371, n371⟩, -, X371, ⟨Lc371, hQ371, l371, y371, z371⟩, st371⟩ := X368.specialBack hx (y := (⟨"com/example/spectraloom/spectraloom/model/Link", "<init>", "(Ljava/lang/String;Ljava/lang/String;D)V"⟩ : MethodName)) rfl hown (mvT hZ (hw _ (List.mem_of_getElem? (i := 29) rfl))) (mvT hZ (hw _ (List.mem_of_getElem? (i := 30) rfl))) (mvT hZ (hw _ (List.mem_of_getElem? (i := 31) rfl))) (by decide) (backOf (W := 1) (rmLi l Z a0 hw [] li v1 v2 (FP.i2d p3) b1 b2 k1 k2 cs1 cs2 h368 n0 Z368 NA1 NB1 A368 F_li_source F_li_target F_li_lengthKm g_li) hZ (hw _ (List.mem_of_getElem? (i := 31) rfl)) (hw _ (List.mem_of_getElem? (i := 28) rfl)) (by decide) (by decide)) (g := (mkF m 20 #[.val (.int p1), .val (.int p2), .val (.int p3), .val v1, .val v2, .unset, .unset, .unset, .unset] [(.double (FP.i2d p3)), v2, v1, (.ref li), (.ref li)])) rfl (by rw [hml]; rfl) (Steps.refl _) (a := li) (argsL := [v1, v2, (.double (FP.i2d p3))]) (rest := [(.ref li)]) (lenOf pd_22 rfl) rfl (by show 2 * 0 + _ ≤ _; exact Nat.le_of_eq rfl) (hb hby at_20) (fun _ _ => ⟨rfl, e368, (by decide : (((0 + 6) + 6) + 1) + 0 ≤ _), (by decide : (((0 + 32) + 32) + 3) + 0 ≤ _)⟩)
  dsimp only [Pt.U, Pt.locs, Pt.cells, Pt.slots] at X371 l371 y371 z371 st371 hQ371
  subst l371 y371 z371
  obtain ⟨rfl, Nq371, Kc371, El, Fsl, Ftl⟩ := hQ371
  have N371 := Fr.app N365 Nq371
  have r372 : Steps p.tables e below S0 (T371.setTop (mkF m 23 #[.val (.int p1), .val (.int p2), .val (.int p3), .val v1, .val v2, .unset, .unset, .unset, .unset] [(.ref li)])) := r370.trans st371
  have KF := KE.trans Kc371 (allS (Or.inr (Nat.le_of_eq g368.symm)) all0)
  have NA2 := NA0.later KF all0
  have NB2 := NB0.later KF all0
  have E371_li := A368.keep Kc371
  have Z371 : n0 ≤ T371.heap.size := Nat.le_trans Z368 Kc371.1
  have O371 := O368.keep Kc371 (allS g_li (all0))
  have SF371_li := Safe.keep Kc371 (allS SF368_li (all0)) C368.1 SF368_li
  have cs371 := CHr.keep Kc371 (allS SF368_li (all0)) C368.1
  have C371 := C368.trans cs371
  have hks371 := Nat.le_trans hks368 cs371.2.1
  have r373 : Steps p.tables e below S0 (T371.setTop (mkF m 27 #[.val (.int p1), .val (.int p2), .val (.int p3), .val v1, .val v2, .val (.ref li), .unset, .unset, .unset] [(.ref li)])) := by
    refine r372.trans ?_
    show Steps p.tables e below (T371.setTop (mkF m 23 #[.val (.int p1), .val (.int p2), .val (.int p3), .val v1, .val v2, .unset, .unset, .unset, .unset] [(.ref li)])) _
    refine XS.astore X371.here hx rfl (hb hby at_23) rfl rfl (l' := #[.val (.int p1), .val (.int p2), .val (.int p3), .val v1, .val v2, .val (.ref li), .unset, .unset, .unset]) rfl ?_
    show Steps p.tables e below (T371.setTop (mkF m 25 #[.val (.int p1), .val (.int p2), .val (.int p3), .val v1, .val v2, .val (.ref li), .unset, .unset, .unset] [])) _
    refine XS.aload X371.here hx rfl (hb hby at_25) rfl rfl ?_
    exact Steps.refl _
  obtain ⟨cq374, kq374, q374a, q374b, q374c⟩ := isOf hZ rfl El
  obtain ⟨_, _, ⟨T374, L374, k374, n374⟩, -, X374, hS374, hge374, ⟨Lc374, hQ374, l374, y374, z374, hC374⟩, st374⟩ := X371.virtualBackS hx (y := (⟨"com/example/spectraloom/spectraloom/model/Link", "toString", "()Ljava/lang/String;"⟩ : MethodName)) (z := (⟨"com/example/spectraloom/spectraloom/model/Link", "toString", "()Ljava/lang/String;"⟩ : MethodName)) hown (mvT hZ (hw _ (List.mem_of_getElem? (i := 44) rfl))) (mvT hZ (hw _ (List.mem_of_getElem? (i := 45) rfl))) (notFace_of_selects (args := #[]) (mvT hZ (hw _ (List.mem_of_getElem? (i := 47) rfl)))) (mvT hZ (hw _ (List.mem_of_getElem? (i := 47) rfl))) (mvT hZ (hw _ (List.mem_of_getElem? (i := 46) rfl))) (by decide) (backOfSH (W := 0) (rmTo l Z a0 hw [] li cz v1 b1 k1 cs1 v2 b2 k2 cs2 T371.heap n0 Z371 O371 Sc hcz El Fsl Ftl NA2 NB2 L1 L2 hEL) hZ (hw _ (List.mem_of_getElem? (i := 48) rfl)) (hw _ (List.mem_of_getElem? (i := 28) rfl)) (by decide) (by decide) hEL C371.1) q374a q374c (g := (mkF m 27 #[.val (.int p1), .val (.int p2), .val (.int p3), .val v1, .val v2, .val (.ref li), .unset, .unset, .unset] [(.ref li)])) rfl (by rw [hml]; rfl) (Steps.refl _) (argsL := []) (rest := []) (lenOf pd_19 rfl) rfl (by show 2 * 0 + _ ≤ _; exact Nat.le_of_eq rfl) (hb hby at_27) (fun _ _ => ⟨rfl, rfl, (by decide : ((((0 + 6) + 6) + 1) + 0) + 6 ≤ _), (by decide : ((((0 + 32) + 32) + 3) + 0) + 60 ≤ _)⟩)
  dsimp only [Pt.U, Pt.locs, Pt.cells, Pt.slots] at hS374 hge374 hC374
  dsimp only [Pt.U, Pt.locs, Pt.cells, Pt.slots] at X374 l374 y374 z374 st374 hQ374
  subst l374 y374 z374
  obtain ⟨r1, rc, rk, rfl, Nq374, Kc374, hR0⟩ := hQ374
  have N374 := Fr.app N371 Nq374
  have r375 : Steps p.tables e below S0 (T374.setTop (mkF m 30 #[.val (.int p1), .val (.int p2), .val (.int p3), .val v1, .val v2, .val (.ref li), .unset, .unset, .unset] [(.ref r1)])) := r373.trans st374
  obtain ⟨hSn374, hZn374, hownn374⟩ := afterS (T := T371) hZ hown hSn365 hks371 hS374 hge374
  have hZ := hZn374
  have hown := hownn374
  have X374 : Stand p l e room_1 (s.setVm T374.vm) m #[(.int p1), (.int p2), (.int p3)] below meth c T374 _ _ _ := X374
  have C374 := C371.trans hC374
  have Z374 : n0 ≤ T374.heap.size := Nat.le_trans Z371 Kc374.1
  have O374 := O371.keep Kc374 (all0)
  have NA3 := NA2.later Kc374 all0
  have NB3 := NB2.later Kc374 all0
  have r376 : Steps p.tables e below S0 (T374.setTop (mkF m 40 #[.val (.int p1), .val (.int p2), .val (.int p3), .val v1, .val v2, .val (.ref li), .val (.ref r1), .unset, .unset] [v1])) := by
    refine r375.trans ?_
    show Steps p.tables e below (T374.setTop (mkF m 30 #[.val (.int p1), .val (.int p2), .val (.int p3), .val v1, .val v2, .val (.ref li), .unset, .unset, .unset] [(.ref r1)])) _
    refine XS.astore X374.here hx rfl (hb hby at_30) rfl rfl (l' := #[.val (.int p1), .val (.int p2), .val (.int p3), .val v1, .val v2, .val (.ref li), .val (.ref r1), .unset, .unset]) rfl ?_
    show Steps p.tables e below (T374.setTop (mkF m 32 #[.val (.int p1), .val (.int p2), .val (.int p3), .val v1, .val v2, .val (.ref li), .val (.ref r1), .unset, .unset] [])) _
    refine XS.aload X374.here hx rfl (hb hby at_32) rfl rfl ?_
    show Steps p.tables e below (T374.setTop (mkF m 34 #[.val (.int p1), .val (.int p2), .val (.int p3), .val v1, .val v2, .val (.ref li), .val (.ref r1), .unset, .unset] [(.ref r1)])) _
    refine XS.ifnonnullYes X374.here hx rfl (pc0 := 34) (pc' := 39) rfl (hb hby at_34) rfl (by decide) (by decide) ?_
    show Steps p.tables e below (T374.setTop (mkF m 39 #[.val (.int p1), .val (.int p2), .val (.int p3), .val v1, .val v2, .val (.ref li), .val (.ref r1), .unset, .unset] [])) _
    refine XS.aloadN X374.here hx rfl (hb hby at_39) rfl NA.isRef ?_
    exact Steps.refl _
  obtain ⟨_, _, ⟨T377, L377, k377, n377⟩, -, X377, hS377, hge377, ⟨Lc377, hQ377, l377, y377, z377, hC377⟩, st377⟩ := callSS X374 hx (y := (⟨"com/example/spectraloom/spectraloom/model/LinkToStringPinLaw", "shown", "(Ljava/lang/String;)Ljava/lang/String;"⟩ : MethodName)) hown (mvT hZ (hw _ (List.mem_of_getElem? (i := 161) rfl))) (mvT hZ (hw _ (List.mem_of_getElem? (i := 162) rfl))) (mvT hZ (hw _ (List.mem_of_getElem? (i := 2) rfl))) (mvT hZ (hw _ (List.mem_of_getElem? (i := 163) rfl))) (by decide) (backOfSH (W := 0) (rmSh l Z a0 hw [] v1 b1 k1 cs1 T374.heap n0 Z374 NA3 hEL) hZ (hw _ (List.mem_of_getElem? (i := 163) rfl)) (hw _ (List.mem_of_getElem? (i := 2) rfl)) (by decide) (by decide) hEL C374.1) (g := (mkF m 40 #[.val (.int p1), .val (.int p2), .val (.int p3), .val v1, .val v2, .val (.ref li), .val (.ref r1), .unset, .unset] [v1])) rfl (by rw [hml]; rfl) (argsL := [v1]) (rest := []) (lenOf pd_23 rfl) rfl (by show 2 * 0 + _ ≤ _; exact Nat.le_of_eq rfl) (hb hby at_40) (fun _ _ => ⟨rfl, rfl, (by decide : (((((0 + 6) + 6) + 1) + 0) + 6) + 2 ≤ _), (by decide : (((((0 + 32) + 32) + 3) + 0) + 60) + 20 ≤ _)⟩)
  dsimp only [Pt.U, Pt.locs, Pt.cells, Pt.slots] at hS377 hge377 hC377
  dsimp only [Pt.U, Pt.locs, Pt.cells, Pt.slots] at X377 l377 y377 z377 st377 hQ377
  subst l377 y377 z377
  obtain ⟨sa, ba, ka, rfl, Nq377, Kc377, hA0⟩ := hQ377
  have N377 := Fr.app N374 Nq377
  have r378 : Steps p.tables e below S0 (T377.setTop (mkF m 43 #[.val (.int p1), .val (.int p2), .val (.int p3), .val v1, .val v2, .val (.ref li), .val (.ref r1), .unset, .unset] [(.ref sa)])) := r376.trans st377
  obtain ⟨hSn377, hZn377, hownn377⟩ := afterS (T := T374) hZ hown hSn374 (Nat.le_refl _) hS377 hge377
  have hZ := hZn377
  have hown := hownn377
  have X377 : Stand p l e room_1 (s.setVm T377.vm) m #[(.int p1), (.int p2), (.int p3)] below meth c T377 _ _ _ := X377
  have C377 := C374.trans hC377
  have Z377 : n0 ≤ T377.heap.size := Nat.le_trans Z374 Kc377.1
  have O377 := O374.keep Kc377 (all0)
  have NB4 := NB3.later Kc377 all0
  have hR1 := hR0.later Kc377 all0
  have r379 : Steps p.tables e below S0 (T377.setTop (mkF m 47 #[.val (.int p1), .val (.int p2), .val (.int p3), .val v1, .val v2, .val (.ref li), .val (.ref r1), .val (.ref sa), .unset] [v2])) := by
    refine r378.trans ?_
    show Steps p.tables e below (T377.setTop (mkF m 43 #[.val (.int p1), .val (.int p2), .val (.int p3), .val v1, .val v2, .val (.ref li), .val (.ref r1), .unset, .unset] [(.ref sa)])) _
    refine XS.astore X377.here hx rfl (hb hby at_43) rfl rfl (l' := #[.val (.int p1), .val (.int p2), .val (.int p3), .val v1, .val v2, .val (.ref li), .val (.ref r1), .val (.ref sa), .unset]) rfl ?_
    show Steps p.tables e below (T377.setTop (mkF m 45 #[.val (.int p1), .val (.int p2), .val (.int p3), .val v1, .val v2, .val (.ref li), .val (.ref r1), .val (.ref sa), .unset] [])) _
    refine XS.aload X377.here hx rfl (hb hby at_45) rfl NB0.isRef ?_
    exact Steps.refl _
  obtain ⟨_, _, ⟨T380, L380, k380, n380⟩, -, X380, hS380, hge380, ⟨Lc380, hQ380, l380, y380, z380, hC380⟩, st380⟩ := callSS X377 hx (y := (⟨"com/example/spectraloom/spectraloom/model/LinkToStringPinLaw", "shown", "(Ljava/lang/String;)Ljava/lang/String;"⟩ : MethodName)) hown (mvT hZ (hw _ (List.mem_of_getElem? (i := 161) rfl))) (mvT hZ (hw _ (List.mem_of_getElem? (i := 162) rfl))) (mvT hZ (hw _ (List.mem_of_getElem? (i := 2) rfl))) (mvT hZ (hw _ (List.mem_of_getElem? (i := 163) rfl))) (by decide) (backOfSH (W := 0) (rmSh l Z a0 hw [] v2 b2 k2 cs2 T377.heap n0 Z377 NB4 hEL) hZ (hw _ (List.mem_of_getElem? (i := 163) rfl)) (hw _ (List.mem_of_getElem? (i := 2) rfl)) (by decide) (by decide) hEL C377.1) (g := (mkF m 47 #[.val (.int p1), .val (.int p2), .val (.int p3), .val v1, .val v2, .val (.ref li), .val (.ref r1), .val (.ref sa), .unset] [v2])) rfl (by rw [hml]; rfl) (argsL := [v2]) (rest := []) (lenOf pd_23 rfl) rfl (by show 2 * 0 + _ ≤ _; exact Nat.le_of_eq rfl) (hb hby at_47) (fun _ _ => ⟨rfl, rfl, (by decide : ((((((0 + 6) + 6) + 1) + 0) + 6) + 2) + 2 ≤ _), (by decide : ((((((0 + 32) + 32) + 3) + 0) + 60) + 20) + 20 ≤ _)⟩)
  dsimp only [Pt.U, Pt.locs, Pt.cells, Pt.slots] at hS380 hge380 hC380
  dsimp only [Pt.U, Pt.locs, Pt.cells, Pt.slots] at X380 l380 y380 z380 st380 hQ380
  subst l380 y380 z380
  obtain ⟨sb, bb, kb, rfl, Nq380, Kc380, hB⟩ := hQ380
  have N380 := Fr.app N377 Nq380
  have r381 : Steps p.tables e below S0 (T380.setTop (mkF m 50 #[.val (.int p1), .val (.int p2), .val (.int p3), .val v1, .val v2, .val (.ref li), .val (.ref r1), .val (.ref sa), .unset] [(.ref sb)])) := r379.trans st380
  obtain ⟨hSn380, hZn380, hownn380⟩ := afterS (T := T377) hZ hown hSn377 (Nat.le_refl _) hS380 hge380
  have hZ := hZn380
  have hown := hownn380
  have X380 : Stand p l e room_1 (s.setVm T380.vm) m #[(.int p1), (.int p2), (.int p3)] below meth c T380 _ _ _ := X380
  have C380 := C377.trans hC380
  have Z380 : n0 ≤ T380.heap.size := Nat.le_trans Z377 Kc380.1
  have O380 := O377.keep Kc380 (all0)
  have hR := hR1.later Kc380 all0
  have hA := hA0.later Kc380 all0
  have LR := own_latj L1 L2
  have r382 : Steps p.tables e below S0 (T380.setTop (mkF m 54 #[.val (.int p1), .val (.int p2), .val (.int p3), .val v1, .val v2, .val (.ref li), .val (.ref r1), .val (.ref sa), .val (.ref sb)] [(.ref r1)])) := by
    refine r381.trans ?_
    show Steps p.tables e below (T380.setTop (mkF m 50 #[.val (.int p1), .val (.int p2), .val (.int p3), .val v1, .val v2, .val (.ref li), .val (.ref r1), .val (.ref sa), .unset] [(.ref sb)])) _
    refine XS.astore X380.here hx rfl (hb hby at_50) rfl rfl (l' := #[.val (.int p1), .val (.int p2), .val (.int p3), .val v1, .val v2, .val (.ref li), .val (.ref r1), .val (.ref sa), .val (.ref sb)]) rfl ?_
    show Steps p.tables e below (T380.setTop (mkF m 52 #[.val (.int p1), .val (.int p2), .val (.int p3), .val v1, .val v2, .val (.ref li), .val (.ref r1), .val (.ref sa), .val (.ref sb)] [])) _
    refine XS.aload X380.here hx rfl (hb hby at_52) rfl rfl ?_
    exact Steps.refl _
  obtain ⟨cq383, kq383, q383a, q383b, q383c⟩ := isOf hZ rfl hR.1
  obtain ⟨_, _, ⟨T383, L383, k383, n383⟩, -, X383, ⟨Lc383, hQ383, l383, y383, z383⟩, st383⟩ := X380.virtualBack hx (y := (⟨"java/lang/String", "length", "()I"⟩ : MethodName)) (z := (⟨"java/lang/String", "length", "()I"⟩ : MethodName)) hown (mvT hZ (hw _ (List.mem_of_getElem? (i := 164) rfl))) (mvT hZ (hw _ (List.mem_of_getElem? (i := 78) rfl))) (notFace_of_selects (args := #[]) (mvT hZ (hw _ (List.mem_of_getElem? (i := 80) rfl)))) (mvT hZ (hw _ (List.mem_of_getElem? (i := 80) rfl))) (mvT hZ (hw _ (List.mem_of_getElem? (i := 79) rfl))) (by decide) (StrChars.Road.lenW (W := 0) hZ hln (kI := 4) (hw _ (List.mem_of_getElem? (i := 5) rfl)) hR.1 hR.2.2.1 hR.2.1 hR.2.2.2 (own_cod LR) (own_up LR) (Sc.ext O380.2) hcz (Nat.le_trans LR.1 (by decide)) (by decide) (by decide)) q383a q383c (g := (mkF m 54 #[.val (.int p1), .val (.int p2), .val (.int p3), .val v1, .val v2, .val (.ref li), .val (.ref r1), .val (.ref sa), .val (.ref sb)] [(.ref r1)])) rfl (by rw [hml]; rfl) (Steps.refl _) (argsL := []) (rest := []) (lenOf pd_0 rfl) rfl (by show 2 * 0 + _ ≤ _; exact Nat.le_of_eq rfl) (hb hby at_54) (fun _ _ => ⟨rfl, rfl, (by decide : (((((((0 + 6) + 6) + 1) + 0) + 6) + 2) + 2) + 0 ≤ _), (by decide : (((((((0 + 32) + 32) + 3) + 0) + 60) + 20) + 20) + 0 ≤ _)⟩)
  dsimp only [Pt.U, Pt.locs, Pt.cells, Pt.slots] at X383 l383 y383 z383 st383 hQ383
  subst l383 y383 z383
  obtain ⟨rfl, rfl, e383⟩ := hQ383
  have N383 := Fr.app N380 (Fr.nil n0)
  have r384 : Steps p.tables e below S0 (T383.setTop (mkF m 57 #[.val (.int p1), .val (.int p2), .val (.int p3), .val v1, .val v2, .val (.ref li), .val (.ref r1), .val (.ref sa), .val (.ref sb)] [(.int (Int32.ofNat (cs1 ++ 45 :: cs2).length))])) := r382.trans st383
  have r385 : Steps p.tables e below S0 (T383.setTop (mkF m 59 #[.val (.int p1), .val (.int p2), .val (.int p3), .val v1, .val v2, .val (.ref li), .val (.ref r1), .val (.ref sa), .val (.ref sb)] [(.ref sa), (.int (Int32.ofNat (cs1 ++ 45 :: cs2).length))])) := by
    refine r384.trans ?_
    show Steps p.tables e below (T383.setTop (mkF m 57 #[.val (.int p1), .val (.int p2), .val (.int p3), .val v1, .val v2, .val (.ref li), .val (.ref r1), .val (.ref sa), .val (.ref sb)] [(.int (Int32.ofNat (cs1 ++ 45 :: cs2).length))])) _
    refine XS.aload X383.here hx rfl (hb hby at_57) rfl rfl ?_
    exact Steps.refl _
  obtain ⟨cq386, kq386, q386a, q386b, q386c⟩ := isOf hZ e383 hA.1
  obtain ⟨_, _, ⟨T386, L386, k386, n386⟩, -, X386, ⟨Lc386, hQ386, l386, y386, z386⟩, st386⟩ := X383.virtualBack hx (y := (⟨"java/lang/String", "length", "()I"⟩ : MethodName)) (z := (⟨"java/lang/String", "length", "()I"⟩ : MethodName)) hown (mvT hZ (hw _ (List.mem_of_getElem? (i := 164) rfl))) (mvT hZ (hw _ (List.mem_of_getElem? (i := 78) rfl))) (notFace_of_selects (args := #[]) (mvT hZ (hw _ (List.mem_of_getElem? (i := 80) rfl)))) (mvT hZ (hw _ (List.mem_of_getElem? (i := 80) rfl))) (mvT hZ (hw _ (List.mem_of_getElem? (i := 79) rfl))) (by decide) (StrChars.Road.lenW (W := 1) hZ hln (kI := 4) (hw _ (List.mem_of_getElem? (i := 5) rfl)) hA.1 hA.2.2.1 hA.2.1 hA.2.2.2 (own_cod L1) (own_up L1) (Sc.ext O380.2) hcz (Nat.le_trans L1.1 (by decide)) (by decide) (by decide)) q386a q386c (g := (mkF m 59 #[.val (.int p1), .val (.int p2), .val (.int p3), .val v1, .val v2, .val (.ref li), .val (.ref r1), .val (.ref sa), .val (.ref sb)] [(.ref sa), (.int (Int32.ofNat (cs1 ++ 45 :: cs2).length))])) rfl (by rw [hml]; rfl) (Steps.refl _) (argsL := []) (rest := [(.int (Int32.ofNat (cs1 ++ 45 :: cs2).length))]) (lenOf pd_0 rfl) rfl (by show 2 * 0 + _ ≤ _; exact Nat.le_of_eq rfl) (hb hby at_59) (fun _ _ => ⟨rfl, e383, (by decide : ((((((((0 + 6) + 6) + 1) + 0) + 6) + 2) + 2) + 0) + 0 ≤ _), (by decide : ((((((((0 + 32) + 32) + 3) + 0) + 60) + 20) + 20) + 0) + 0 ≤ _)⟩)
  dsimp only [Pt.U, Pt.locs, Pt.cells, Pt.slots] at X386 l386 y386 z386 st386 hQ386
  subst l386 y386 z386
  obtain ⟨rfl, rfl, e386⟩ := hQ386
  have N386 := Fr.app N383 (Fr.nil n0)
  have r387 : Steps p.tables e below S0 (T386.setTop (mkF m 62 #[.val (.int p1), .val (.int p2), .val (.int p3), .val v1, .val v2, .val (.ref li), .val (.ref r1), .val (.ref sa), .val (.ref sb)] [(.int (Int32.ofNat cs1.length)), (.int (Int32.ofNat (cs1 ++ 45 :: cs2).length))])) := r385.trans st386
  have r388 : Steps p.tables e below S0 (T386.setTop (mkF m 66 #[.val (.int p1), .val (.int p2), .val (.int p3), .val v1, .val v2, .val (.ref li), .val (.ref r1), .val (.ref sa), .val (.ref sb)] [(.ref sb), (.int ((Int32.ofNat cs1.length) + (1 : Int32))), (.int (Int32.ofNat (cs1 ++ 45 :: cs2).length))])) := by
    refine r387.trans ?_
    show Steps p.tables e below (T386.setTop (mkF m 62 #[.val (.int p1), .val (.int p2), .val (.int p3), .val v1, .val v2, .val (.ref li), .val (.ref r1), .val (.ref sa), .val (.ref sb)] [(.int (Int32.ofNat cs1.length)), (.int (Int32.ofNat (cs1 ++ 45 :: cs2).length))])) _
    refine XS.iconst X386.here hx rfl (hb hby at_62) ?_
    show Steps p.tables e below (T386.setTop (mkF m 63 #[.val (.int p1), .val (.int p2), .val (.int p3), .val v1, .val v2, .val (.ref li), .val (.ref r1), .val (.ref sa), .val (.ref sb)] [(.int (1 : Int32)), (.int (Int32.ofNat cs1.length)), (.int (Int32.ofNat (cs1 ++ 45 :: cs2).length))])) _
    refine XS.iadd X386.here hx rfl (hb hby at_63) rfl ?_
    show Steps p.tables e below (T386.setTop (mkF m 64 #[.val (.int p1), .val (.int p2), .val (.int p3), .val v1, .val v2, .val (.ref li), .val (.ref r1), .val (.ref sa), .val (.ref sb)] [(.int ((Int32.ofNat cs1.length) + (1 : Int32))), (.int (Int32.ofNat (cs1 ++ 45 :: cs2).length))])) _
    refine XS.aload X386.here hx rfl (hb hby at_64) rfl rfl ?_
    exact Steps.refl _
  obtain ⟨cq389, kq389, q389a, q389b, q389c⟩ := isOf hZ e386 hB.1
  obtain ⟨_, _, ⟨T389, L389, k389, n389⟩, -, X389, ⟨Lc389, hQ389, l389, y389, z389⟩, st389⟩ := X386.virtualBack hx (y := (⟨"java/lang/String", "length", "()I"⟩ : MethodName)) (z := (⟨"java/lang/String", "length", "()I"⟩ : MethodName)) hown (mvT hZ (hw _ (List.mem_of_getElem? (i := 164) rfl))) (mvT hZ (hw _ (List.mem_of_getElem? (i := 78) rfl))) (notFace_of_selects (args := #[]) (mvT hZ (hw _ (List.mem_of_getElem? (i := 80) rfl)))) (mvT hZ (hw _ (List.mem_of_getElem? (i := 80) rfl))) (mvT hZ (hw _ (List.mem_of_getElem? (i := 79) rfl))) (by decide) (StrChars.Road.lenW (W := 2) hZ hln (kI := 4) (hw _ (List.mem_of_getElem? (i := 5) rfl)) hB.1 hB.2.2.1 hB.2.1 hB.2.2.2 (own_cod L2) (own_up L2) (Sc.ext O380.2) hcz (Nat.le_trans L2.1 (by decide)) (by decide) (by decide)) q389a q389c (g := (mkF m 66 #[.val (.int p1), .val (.int p2), .val (.int p3), .val v1, .val v2, .val (.ref li), .val (.ref r1), .val (.ref sa), .val (.ref sb)] [(.ref sb), (.int ((Int32.ofNat cs1.length) + (1 : Int32))), (.int (Int32.ofNat (cs1 ++ 45 :: cs2).length))])) rfl (by rw [hml]; rfl) (Steps.refl _) (argsL := []) (rest := [(.int ((Int32.ofNat cs1.length) + (1 : Int32))), (.int (Int32.ofNat (cs1 ++ 45 :: cs2).length))]) (lenOf pd_0 rfl) rfl (by show 2 * 0 + _ ≤ _; exact Nat.le_of_eq rfl) (hb hby at_66) (fun _ _ => ⟨rfl, e386, (by decide : (((((((((0 + 6) + 6) + 1) + 0) + 6) + 2) + 2) + 0) + 0) + 0 ≤ _), (by decide : (((((((((0 + 32) + 32) + 3) + 0) + 60) + 20) + 20) + 0) + 0) + 0 ≤ _)⟩)
  dsimp only [Pt.U, Pt.locs, Pt.cells, Pt.slots] at X389 l389 y389 z389 st389 hQ389
  subst l389 y389 z389
  obtain ⟨rfl, rfl, e389⟩ := hQ389
  have N389 := Fr.app N386 (Fr.nil n0)
  have r390 : Steps p.tables e below S0 (T389.setTop (mkF m 69 #[.val (.int p1), .val (.int p2), .val (.int p3), .val v1, .val v2, .val (.ref li), .val (.ref r1), .val (.ref sa), .val (.ref sb)] [(.int (Int32.ofNat cs2.length)), (.int ((Int32.ofNat cs1.length) + (1 : Int32))), (.int (Int32.ofNat (cs1 ++ 45 :: cs2).length))])) := r388.trans st389
  have r391 : Steps p.tables e below S0 (T389.setTop (mkF m 82 #[.val (.int p1), .val (.int p2), .val (.int p3), .val v1, .val v2, .val (.ref li), .val (.ref r1), .val (.ref sa), .val (.ref sb)] [(.int (0 : Int32)), (.ref sb), (.ref sa), (.ref r1)])) := by
    refine r390.trans ?_
    show Steps p.tables e below (T389.setTop (mkF m 69 #[.val (.int p1), .val (.int p2), .val (.int p3), .val v1, .val v2, .val (.ref li), .val (.ref r1), .val (.ref sa), .val (.ref sb)] [(.int (Int32.ofNat cs2.length)), (.int ((Int32.ofNat cs1.length) + (1 : Int32))), (.int (Int32.ofNat (cs1 ++ 45 :: cs2).length))])) _
    refine XS.iadd X389.here hx rfl (hb hby at_69) rfl ?_
    show Steps p.tables e below (T389.setTop (mkF m 70 #[.val (.int p1), .val (.int p2), .val (.int p3), .val v1, .val v2, .val (.ref li), .val (.ref r1), .val (.ref sa), .val (.ref sb)] [(.int (((Int32.ofNat cs1.length) + (1 : Int32)) + (Int32.ofNat cs2.length))), (.int (Int32.ofNat (cs1 ++ 45 :: cs2).length))])) _
    refine XS.icmpYes X389.here hx rfl (pc0 := 70) (pc' := 75) rfl (hb hby at_70) rfl (teq (own_len cs1 cs2)).1 (by decide) (by decide) ?_
    show Steps p.tables e below (T389.setTop (mkF m 75 #[.val (.int p1), .val (.int p2), .val (.int p3), .val v1, .val v2, .val (.ref li), .val (.ref r1), .val (.ref sa), .val (.ref sb)] [])) _
    refine XS.aload X389.here hx rfl (hb hby at_75) rfl rfl ?_
    show Steps p.tables e below (T389.setTop (mkF m 77 #[.val (.int p1), .val (.int p2), .val (.int p3), .val v1, .val v2, .val (.ref li), .val (.ref r1), .val (.ref sa), .val (.ref sb)] [(.ref r1)])) _
    refine XS.aload X389.here hx rfl (hb hby at_77) rfl rfl ?_
    show Steps p.tables e below (T389.setTop (mkF m 79 #[.val (.int p1), .val (.int p2), .val (.int p3), .val v1, .val v2, .val (.ref li), .val (.ref r1), .val (.ref sa), .val (.ref sb)] [(.ref sa), (.ref r1)])) _
    refine XS.aload X389.here hx rfl (hb hby at_79) rfl rfl ?_
    show Steps p.tables e below (T389.setTop (mkF m 81 #[.val (.int p1), .val (.int p2), .val (.int p3), .val v1, .val v2, .val (.ref li), .val (.ref r1), .val (.ref sa), .val (.ref sb)] [(.ref sb), (.ref sa), (.ref r1)])) _
    refine XS.iconst X389.here hx rfl (hb hby at_81) ?_
    exact Steps.refl _
  obtain ⟨_, _, ⟨T392, L392, k392, n392⟩, -, X392, ⟨Lc392, hQ392, l392, y392, z392⟩, st392⟩ := Jvm.LawKit.callS X389 hx (y := (⟨"com/example/spectraloom/spectraloom/model/LinkToStringPinLaw", "at", "(Ljava/lang/String;Ljava/lang/String;Ljava/lang/String;I)Z"⟩ : MethodName)) hown (mvT hZ (hw _ (List.mem_of_getElem? (i := 165) rfl))) (mvT hZ (hw _ (List.mem_of_getElem? (i := 166) rfl))) (mvT hZ (hw _ (List.mem_of_getElem? (i := 2) rfl))) (mvT hZ (hw _ (List.mem_of_getElem? (i := 167) rfl))) (by decide) (backOf (W := 0) (rmAt l Z a0 hw [] r1 sa sb (0 : Int32) cz fm rc rk ba ka bb kb cs1 cs2 0 T380.heap n0 Z380 O380 Sc hcz Sf hfm hR hA hB L1 L2 rfl (by decide)) hZ (hw _ (List.mem_of_getElem? (i := 167) rfl)) (hw _ (List.mem_of_getElem? (i := 2) rfl)) (by decide) (by decide)) (g := (mkF m 82 #[.val (.int p1), .val (.int p2), .val (.int p3), .val v1, .val v2, .val (.ref li), .val (.ref r1), .val (.ref sa), .val (.ref sb)] [(.int (0 : Int32)), (.ref sb), (.ref sa), (.ref r1)])) rfl (by rw [hml]; rfl) (argsL := [(.ref r1), (.ref sa), (.ref sb), (.int (0 : Int32))]) (rest := []) (lenOf pd_24 rfl) rfl (by show 2 * 0 + _ ≤ _; exact Nat.le_of_eq rfl) (hb hby at_82) (fun _ _ => ⟨rfl, e389, (by decide : ((((((((((0 + 6) + 6) + 1) + 0) + 6) + 2) + 2) + 0) + 0) + 0) + 0 ≤ _), (by decide : ((((((((((0 + 32) + 32) + 3) + 0) + 60) + 20) + 20) + 0) + 0) + 0) + 0 ≤ _)⟩)
  dsimp only [Pt.U, Pt.locs, Pt.cells, Pt.slots] at X392 l392 y392 z392 st392 hQ392
  subst l392 y392 z392
  obtain ⟨rfl, Nq392, e392⟩ := hQ392
  have N392 := Fr.app N389 Nq392
  have r393 : Steps p.tables e below S0 (T392.setTop (mkF m 85 #[.val (.int p1), .val (.int p2), .val (.int p3), .val v1, .val v2, .val (.ref li), .val (.ref r1), .val (.ref sa), .val (.ref sb)] [(.int (1 : Int32))])) := r391.trans (st392 _ (Steps.refl _))
  have r394 : Steps p.tables e below S0 (T392.setTop (mkF m 95 #[.val (.int p1), .val (.int p2), .val (.int p3), .val v1, .val v2, .val (.ref li), .val (.ref r1), .val (.ref sa), .val (.ref sb)] [(.int (1 : Int32)), (.ref sb), (.ref sa), (.ref r1)])) := by
    refine r393.trans ?_
    show Steps p.tables e below (T392.setTop (mkF m 85 #[.val (.int p1), .val (.int p2), .val (.int p3), .val v1, .val v2, .val (.ref li), .val (.ref r1), .val (.ref sa), .val (.ref sb)] [(.int (1 : Int32))])) _
    refine XS.ifNo X392.here hx rfl (hb hby at_85) rfl ((if0 _ _).trans (feq (by decide)).1) ?_
    show Steps p.tables e below (T392.setTop (mkF m 88 #[.val (.int p1), .val (.int p2), .val (.int p3), .val v1, .val v2, .val (.ref li), .val (.ref r1), .val (.ref sa), .val (.ref sb)] [])) _
    refine XS.aload X392.here hx rfl (hb hby at_88) rfl rfl ?_
    show Steps p.tables e below (T392.setTop (mkF m 90 #[.val (.int p1), .val (.int p2), .val (.int p3), .val v1, .val v2, .val (.ref li), .val (.ref r1), .val (.ref sa), .val (.ref sb)] [(.ref r1)])) _
    refine XS.aload X392.here hx rfl (hb hby at_90) rfl rfl ?_
    show Steps p.tables e below (T392.setTop (mkF m 92 #[.val (.int p1), .val (.int p2), .val (.int p3), .val v1, .val v2, .val (.ref li), .val (.ref r1), .val (.ref sa), .val (.ref sb)] [(.ref sa), (.ref r1)])) _
    refine XS.aload X392.here hx rfl (hb hby at_92) rfl rfl ?_
    show Steps p.tables e below (T392.setTop (mkF m 94 #[.val (.int p1), .val (.int p2), .val (.int p3), .val v1, .val v2, .val (.ref li), .val (.ref r1), .val (.ref sa), .val (.ref sb)] [(.ref sb), (.ref sa), (.ref r1)])) _
    refine XS.iconst X392.here hx rfl (hb hby at_94) ?_
    exact Steps.refl _
  obtain ⟨_, _, ⟨T395, L395, k395, n395⟩, -, X395, ⟨Lc395, hQ395, l395, y395, z395⟩, st395⟩ := Jvm.LawKit.callS X392 hx (y := (⟨"com/example/spectraloom/spectraloom/model/LinkToStringPinLaw", "at", "(Ljava/lang/String;Ljava/lang/String;Ljava/lang/String;I)Z"⟩ : MethodName)) hown (mvT hZ (hw _ (List.mem_of_getElem? (i := 165) rfl))) (mvT hZ (hw _ (List.mem_of_getElem? (i := 166) rfl))) (mvT hZ (hw _ (List.mem_of_getElem? (i := 2) rfl))) (mvT hZ (hw _ (List.mem_of_getElem? (i := 167) rfl))) (by decide) (backOf (W := 0) (rmAt l Z a0 hw [] r1 sa sb (1 : Int32) cz fm rc rk ba ka bb kb cs1 cs2 1 T380.heap n0 Z380 O380 Sc hcz Sf hfm hR hA hB L1 L2 rfl (by decide)) hZ (hw _ (List.mem_of_getElem? (i := 167) rfl)) (hw _ (List.mem_of_getElem? (i := 2) rfl)) (by decide) (by decide)) (g := (mkF m 95 #[.val (.int p1), .val (.int p2), .val (.int p3), .val v1, .val v2, .val (.ref li), .val (.ref r1), .val (.ref sa), .val (.ref sb)] [(.int (1 : Int32)), (.ref sb), (.ref sa), (.ref r1)])) rfl (by rw [hml]; rfl) (argsL := [(.ref r1), (.ref sa), (.ref sb), (.int (1 : Int32))]) (rest := []) (lenOf pd_24 rfl) rfl (by show 2 * 0 + _ ≤ _; exact Nat.le_of_eq rfl) (hb hby at_95) (fun _ _ => ⟨rfl, e392, (by decide : (((((((((((0 + 6) + 6) + 1) + 0) + 6) + 2) + 2) + 0) + 0) + 0) + 0) + 0 ≤ _), (by decide : (((((((((((0 + 32) + 32) + 3) + 0) + 60) + 20) + 20) + 0) + 0) + 0) + 0) + 0 ≤ _)⟩)
  dsimp only [Pt.U, Pt.locs, Pt.cells, Pt.slots] at X395 l395 y395 z395 st395 hQ395
  subst l395 y395 z395
  obtain ⟨rfl, Nq395, e395⟩ := hQ395
  have N395 := Fr.app N392 Nq395
  have r396 : Steps p.tables e below S0 (T395.setTop (mkF m 98 #[.val (.int p1), .val (.int p2), .val (.int p3), .val v1, .val v2, .val (.ref li), .val (.ref r1), .val (.ref sa), .val (.ref sb)] [(.int (1 : Int32))])) := r394.trans (st395 _ (Steps.refl _))
  have r397 : Steps p.tables e below S0 (T395.setTop (mkF m 108 #[.val (.int p1), .val (.int p2), .val (.int p3), .val v1, .val v2, .val (.ref li), .val (.ref r1), .val (.ref sa), .val (.ref sb)] [(.int (2 : Int32)), (.ref sb), (.ref sa), (.ref r1)])) := by
    refine r396.trans ?_
    show Steps p.tables e below (T395.setTop (mkF m 98 #[.val (.int p1), .val (.int p2), .val (.int p3), .val v1, .val v2, .val (.ref li), .val (.ref r1), .val (.ref sa), .val (.ref sb)] [(.int (1 : Int32))])) _
    refine XS.ifNo X395.here hx rfl (hb hby at_98) rfl ((if0 _ _).trans (feq (by decide)).1) ?_
    show Steps p.tables e below (T395.setTop (mkF m 101 #[.val (.int p1), .val (.int p2), .val (.int p3), .val v1, .val v2, .val (.ref li), .val (.ref r1), .val (.ref sa), .val (.ref sb)] [])) _
    refine XS.aload X395.here hx rfl (hb hby at_101) rfl rfl ?_
    show Steps p.tables e below (T395.setTop (mkF m 103 #[.val (.int p1), .val (.int p2), .val (.int p3), .val v1, .val v2, .val (.ref li), .val (.ref r1), .val (.ref sa), .val (.ref sb)] [(.ref r1)])) _
    refine XS.aload X395.here hx rfl (hb hby at_103) rfl rfl ?_
    show Steps p.tables e below (T395.setTop (mkF m 105 #[.val (.int p1), .val (.int p2), .val (.int p3), .val v1, .val v2, .val (.ref li), .val (.ref r1), .val (.ref sa), .val (.ref sb)] [(.ref sa), (.ref r1)])) _
    refine XS.aload X395.here hx rfl (hb hby at_105) rfl rfl ?_
    show Steps p.tables e below (T395.setTop (mkF m 107 #[.val (.int p1), .val (.int p2), .val (.int p3), .val v1, .val v2, .val (.ref li), .val (.ref r1), .val (.ref sa), .val (.ref sb)] [(.ref sb), (.ref sa), (.ref r1)])) _
    refine XS.iconst X395.here hx rfl (hb hby at_107) ?_
    exact Steps.refl _
  obtain ⟨_, _, ⟨T398, L398, k398, n398⟩, -, X398, ⟨Lc398, hQ398, l398, y398, z398⟩, st398⟩ := Jvm.LawKit.callS X395 hx (y := (⟨"com/example/spectraloom/spectraloom/model/LinkToStringPinLaw", "at", "(Ljava/lang/String;Ljava/lang/String;Ljava/lang/String;I)Z"⟩ : MethodName)) hown (mvT hZ (hw _ (List.mem_of_getElem? (i := 165) rfl))) (mvT hZ (hw _ (List.mem_of_getElem? (i := 166) rfl))) (mvT hZ (hw _ (List.mem_of_getElem? (i := 2) rfl))) (mvT hZ (hw _ (List.mem_of_getElem? (i := 167) rfl))) (by decide) (backOf (W := 0) (rmAt l Z a0 hw [] r1 sa sb (2 : Int32) cz fm rc rk ba ka bb kb cs1 cs2 2 T380.heap n0 Z380 O380 Sc hcz Sf hfm hR hA hB L1 L2 rfl (by decide)) hZ (hw _ (List.mem_of_getElem? (i := 167) rfl)) (hw _ (List.mem_of_getElem? (i := 2) rfl)) (by decide) (by decide)) (g := (mkF m 108 #[.val (.int p1), .val (.int p2), .val (.int p3), .val v1, .val v2, .val (.ref li), .val (.ref r1), .val (.ref sa), .val (.ref sb)] [(.int (2 : Int32)), (.ref sb), (.ref sa), (.ref r1)])) rfl (by rw [hml]; rfl) (argsL := [(.ref r1), (.ref sa), (.ref sb), (.int (2 : Int32))]) (rest := []) (lenOf pd_24 rfl) rfl (by show 2 * 0 + _ ≤ _; exact Nat.le_of_eq rfl) (hb hby at_108) (fun _ _ => ⟨rfl, e395, (by decide : ((((((((((((0 + 6) + 6) + 1) + 0) + 6) + 2) + 2) + 0) + 0) + 0) + 0) + 0) + 0 ≤ _), (by decide : ((((((((((((0 + 32) + 32) + 3) + 0) + 60) + 20) + 20) + 0) + 0) + 0) + 0) + 0) + 0 ≤ _)⟩)
  dsimp only [Pt.U, Pt.locs, Pt.cells, Pt.slots] at X398 l398 y398 z398 st398 hQ398
  subst l398 y398 z398
  obtain ⟨rfl, Nq398, e398⟩ := hQ398
  have N398 := Fr.app N395 Nq398
  have r399 : Steps p.tables e below S0 (T398.setTop (mkF m 111 #[.val (.int p1), .val (.int p2), .val (.int p3), .val v1, .val v2, .val (.ref li), .val (.ref r1), .val (.ref sa), .val (.ref sb)] [(.int (1 : Int32))])) := r397.trans (st398 _ (Steps.refl _))
  have r400 : Steps p.tables e below S0 (T398.setTop (mkF m 121 #[.val (.int p1), .val (.int p2), .val (.int p3), .val v1, .val v2, .val (.ref li), .val (.ref r1), .val (.ref sa), .val (.ref sb)] [(.int (3 : Int32)), (.ref sb), (.ref sa), (.ref r1)])) := by
    refine r399.trans ?_
    show Steps p.tables e below (T398.setTop (mkF m 111 #[.val (.int p1), .val (.int p2), .val (.int p3), .val v1, .val v2, .val (.ref li), .val (.ref r1), .val (.ref sa), .val (.ref sb)] [(.int (1 : Int32))])) _
    refine XS.ifNo X398.here hx rfl (hb hby at_111) rfl ((if0 _ _).trans (feq (by decide)).1) ?_
    show Steps p.tables e below (T398.setTop (mkF m 114 #[.val (.int p1), .val (.int p2), .val (.int p3), .val v1, .val v2, .val (.ref li), .val (.ref r1), .val (.ref sa), .val (.ref sb)] [])) _
    refine XS.aload X398.here hx rfl (hb hby at_114) rfl rfl ?_
    show Steps p.tables e below (T398.setTop (mkF m 116 #[.val (.int p1), .val (.int p2), .val (.int p3), .val v1, .val v2, .val (.ref li), .val (.ref r1), .val (.ref sa), .val (.ref sb)] [(.ref r1)])) _
    refine XS.aload X398.here hx rfl (hb hby at_116) rfl rfl ?_
    show Steps p.tables e below (T398.setTop (mkF m 118 #[.val (.int p1), .val (.int p2), .val (.int p3), .val v1, .val v2, .val (.ref li), .val (.ref r1), .val (.ref sa), .val (.ref sb)] [(.ref sa), (.ref r1)])) _
    refine XS.aload X398.here hx rfl (hb hby at_118) rfl rfl ?_
    show Steps p.tables e below (T398.setTop (mkF m 120 #[.val (.int p1), .val (.int p2), .val (.int p3), .val v1, .val v2, .val (.ref li), .val (.ref r1), .val (.ref sa), .val (.ref sb)] [(.ref sb), (.ref sa), (.ref r1)])) _
    refine XS.iconst X398.here hx rfl (hb hby at_120) ?_
    exact Steps.refl _
  obtain ⟨_, _, ⟨T401, L401, k401, n401⟩, -, X401, ⟨Lc401, hQ401, l401, y401, z401⟩, st401⟩ := Jvm.LawKit.callS X398 hx (y := (⟨"com/example/spectraloom/spectraloom/model/LinkToStringPinLaw", "at", "(Ljava/lang/String;Ljava/lang/String;Ljava/lang/String;I)Z"⟩ : MethodName)) hown (mvT hZ (hw _ (List.mem_of_getElem? (i := 165) rfl))) (mvT hZ (hw _ (List.mem_of_getElem? (i := 166) rfl))) (mvT hZ (hw _ (List.mem_of_getElem? (i := 2) rfl))) (mvT hZ (hw _ (List.mem_of_getElem? (i := 167) rfl))) (by decide) (backOf (W := 0) (rmAt l Z a0 hw [] r1 sa sb (3 : Int32) cz fm rc rk ba ka bb kb cs1 cs2 3 T380.heap n0 Z380 O380 Sc hcz Sf hfm hR hA hB L1 L2 rfl (by decide)) hZ (hw _ (List.mem_of_getElem? (i := 167) rfl)) (hw _ (List.mem_of_getElem? (i := 2) rfl)) (by decide) (by decide)) (g := (mkF m 121 #[.val (.int p1), .val (.int p2), .val (.int p3), .val v1, .val v2, .val (.ref li), .val (.ref r1), .val (.ref sa), .val (.ref sb)] [(.int (3 : Int32)), (.ref sb), (.ref sa), (.ref r1)])) rfl (by rw [hml]; rfl) (argsL := [(.ref r1), (.ref sa), (.ref sb), (.int (3 : Int32))]) (rest := []) (lenOf pd_24 rfl) rfl (by show 2 * 0 + _ ≤ _; exact Nat.le_of_eq rfl) (hb hby at_121) (fun _ _ => ⟨rfl, e398, (by decide : (((((((((((((0 + 6) + 6) + 1) + 0) + 6) + 2) + 2) + 0) + 0) + 0) + 0) + 0) + 0) + 0 ≤ _), (by decide : (((((((((((((0 + 32) + 32) + 3) + 0) + 60) + 20) + 20) + 0) + 0) + 0) + 0) + 0) + 0) + 0 ≤ _)⟩)
  dsimp only [Pt.U, Pt.locs, Pt.cells, Pt.slots] at X401 l401 y401 z401 st401 hQ401
  subst l401 y401 z401
  obtain ⟨rfl, Nq401, e401⟩ := hQ401
  have N401 := Fr.app N398 Nq401
  have r402 : Steps p.tables e below S0 (T401.setTop (mkF m 124 #[.val (.int p1), .val (.int p2), .val (.int p3), .val v1, .val v2, .val (.ref li), .val (.ref r1), .val (.ref sa), .val (.ref sb)] [(.int (1 : Int32))])) := r400.trans (st401 _ (Steps.refl _))
  have r403 : Steps p.tables e below S0 (T401.setTop (mkF m 134 #[.val (.int p1), .val (.int p2), .val (.int p3), .val v1, .val v2, .val (.ref li), .val (.ref r1), .val (.ref sa), .val (.ref sb)] [(.int (4 : Int32)), (.ref sb), (.ref sa), (.ref r1)])) := by
    refine r402.trans ?_
    show Steps p.tables e below (T401.setTop (mkF m 124 #[.val (.int p1), .val (.int p2), .val (.int p3), .val v1, .val v2, .val (.ref li), .val (.ref r1), .val (.ref sa), .val (.ref sb)] [(.int (1 : Int32))])) _
    refine XS.ifNo X401.here hx rfl (hb hby at_124) rfl ((if0 _ _).trans (feq (by decide)).1) ?_
    show Steps p.tables e below (T401.setTop (mkF m 127 #[.val (.int p1), .val (.int p2), .val (.int p3), .val v1, .val v2, .val (.ref li), .val (.ref r1), .val (.ref sa), .val (.ref sb)] [])) _
    refine XS.aload X401.here hx rfl (hb hby at_127) rfl rfl ?_
    show Steps p.tables e below (T401.setTop (mkF m 129 #[.val (.int p1), .val (.int p2), .val (.int p3), .val v1, .val v2, .val (.ref li), .val (.ref r1), .val (.ref sa), .val (.ref sb)] [(.ref r1)])) _
    refine XS.aload X401.here hx rfl (hb hby at_129) rfl rfl ?_
    show Steps p.tables e below (T401.setTop (mkF m 131 #[.val (.int p1), .val (.int p2), .val (.int p3), .val v1, .val v2, .val (.ref li), .val (.ref r1), .val (.ref sa), .val (.ref sb)] [(.ref sa), (.ref r1)])) _
    refine XS.aload X401.here hx rfl (hb hby at_131) rfl rfl ?_
    show Steps p.tables e below (T401.setTop (mkF m 133 #[.val (.int p1), .val (.int p2), .val (.int p3), .val v1, .val v2, .val (.ref li), .val (.ref r1), .val (.ref sa), .val (.ref sb)] [(.ref sb), (.ref sa), (.ref r1)])) _
    refine XS.iconst X401.here hx rfl (hb hby at_133) ?_
    exact Steps.refl _
  obtain ⟨_, _, ⟨T404, L404, k404, n404⟩, -, X404, ⟨Lc404, hQ404, l404, y404, z404⟩, st404⟩ := Jvm.LawKit.callS X401 hx (y := (⟨"com/example/spectraloom/spectraloom/model/LinkToStringPinLaw", "at", "(Ljava/lang/String;Ljava/lang/String;Ljava/lang/String;I)Z"⟩ : MethodName)) hown (mvT hZ (hw _ (List.mem_of_getElem? (i := 165) rfl))) (mvT hZ (hw _ (List.mem_of_getElem? (i := 166) rfl))) (mvT hZ (hw _ (List.mem_of_getElem? (i := 2) rfl))) (mvT hZ (hw _ (List.mem_of_getElem? (i := 167) rfl))) (by decide) (backOf (W := 0) (rmAt l Z a0 hw [] r1 sa sb (4 : Int32) cz fm rc rk ba ka bb kb cs1 cs2 4 T380.heap n0 Z380 O380 Sc hcz Sf hfm hR hA hB L1 L2 rfl (by decide)) hZ (hw _ (List.mem_of_getElem? (i := 167) rfl)) (hw _ (List.mem_of_getElem? (i := 2) rfl)) (by decide) (by decide)) (g := (mkF m 134 #[.val (.int p1), .val (.int p2), .val (.int p3), .val v1, .val v2, .val (.ref li), .val (.ref r1), .val (.ref sa), .val (.ref sb)] [(.int (4 : Int32)), (.ref sb), (.ref sa), (.ref r1)])) rfl (by rw [hml]; rfl) (argsL := [(.ref r1), (.ref sa), (.ref sb), (.int (4 : Int32))]) (rest := []) (lenOf pd_24 rfl) rfl (by show 2 * 0 + _ ≤ _; exact Nat.le_of_eq rfl) (hb hby at_134) (fun _ _ => ⟨rfl, e401, (by decide : ((((((((((((((0 + 6) + 6) + 1) + 0) + 6) + 2) + 2) + 0) + 0) + 0) + 0) + 0) + 0) + 0) + 0 ≤ _), (by decide : ((((((((((((((0 + 32) + 32) + 3) + 0) + 60) + 20) + 20) + 0) + 0) + 0) + 0) + 0) + 0) + 0) + 0 ≤ _)⟩)
  dsimp only [Pt.U, Pt.locs, Pt.cells, Pt.slots] at X404 l404 y404 z404 st404 hQ404
  subst l404 y404 z404
  obtain ⟨rfl, Nq404, e404⟩ := hQ404
  have N404 := Fr.app N401 Nq404
  have r405 : Steps p.tables e below S0 (T404.setTop (mkF m 137 #[.val (.int p1), .val (.int p2), .val (.int p3), .val v1, .val v2, .val (.ref li), .val (.ref r1), .val (.ref sa), .val (.ref sb)] [(.int (1 : Int32))])) := r403.trans (st404 _ (Steps.refl _))
  have r406 : Steps p.tables e below S0 (T404.setTop (mkF m 147 #[.val (.int p1), .val (.int p2), .val (.int p3), .val v1, .val v2, .val (.ref li), .val (.ref r1), .val (.ref sa), .val (.ref sb)] [(.int (5 : Int32)), (.ref sb), (.ref sa), (.ref r1)])) := by
    refine r405.trans ?_
    show Steps p.tables e below (T404.setTop (mkF m 137 #[.val (.int p1), .val (.int p2), .val (.int p3), .val v1, .val v2, .val (.ref li), .val (.ref r1), .val (.ref sa), .val (.ref sb)] [(.int (1 : Int32))])) _
    refine XS.ifNo X404.here hx rfl (hb hby at_137) rfl ((if0 _ _).trans (feq (by decide)).1) ?_
    show Steps p.tables e below (T404.setTop (mkF m 140 #[.val (.int p1), .val (.int p2), .val (.int p3), .val v1, .val v2, .val (.ref li), .val (.ref r1), .val (.ref sa), .val (.ref sb)] [])) _
    refine XS.aload X404.here hx rfl (hb hby at_140) rfl rfl ?_
    show Steps p.tables e below (T404.setTop (mkF m 142 #[.val (.int p1), .val (.int p2), .val (.int p3), .val v1, .val v2, .val (.ref li), .val (.ref r1), .val (.ref sa), .val (.ref sb)] [(.ref r1)])) _
    refine XS.aload X404.here hx rfl (hb hby at_142) rfl rfl ?_
    show Steps p.tables e below (T404.setTop (mkF m 144 #[.val (.int p1), .val (.int p2), .val (.int p3), .val v1, .val v2, .val (.ref li), .val (.ref r1), .val (.ref sa), .val (.ref sb)] [(.ref sa), (.ref r1)])) _
    refine XS.aload X404.here hx rfl (hb hby at_144) rfl rfl ?_
    show Steps p.tables e below (T404.setTop (mkF m 146 #[.val (.int p1), .val (.int p2), .val (.int p3), .val v1, .val v2, .val (.ref li), .val (.ref r1), .val (.ref sa), .val (.ref sb)] [(.ref sb), (.ref sa), (.ref r1)])) _
    refine XS.iconst X404.here hx rfl (hb hby at_146) ?_
    exact Steps.refl _
  obtain ⟨_, _, ⟨T407, L407, k407, n407⟩, -, X407, ⟨Lc407, hQ407, l407, y407, z407⟩, st407⟩ := Jvm.LawKit.callS X404 hx (y := (⟨"com/example/spectraloom/spectraloom/model/LinkToStringPinLaw", "at", "(Ljava/lang/String;Ljava/lang/String;Ljava/lang/String;I)Z"⟩ : MethodName)) hown (mvT hZ (hw _ (List.mem_of_getElem? (i := 165) rfl))) (mvT hZ (hw _ (List.mem_of_getElem? (i := 166) rfl))) (mvT hZ (hw _ (List.mem_of_getElem? (i := 2) rfl))) (mvT hZ (hw _ (List.mem_of_getElem? (i := 167) rfl))) (by decide) (backOf (W := 0) (rmAt l Z a0 hw [] r1 sa sb (5 : Int32) cz fm rc rk ba ka bb kb cs1 cs2 5 T380.heap n0 Z380 O380 Sc hcz Sf hfm hR hA hB L1 L2 rfl (by decide)) hZ (hw _ (List.mem_of_getElem? (i := 167) rfl)) (hw _ (List.mem_of_getElem? (i := 2) rfl)) (by decide) (by decide)) (g := (mkF m 147 #[.val (.int p1), .val (.int p2), .val (.int p3), .val v1, .val v2, .val (.ref li), .val (.ref r1), .val (.ref sa), .val (.ref sb)] [(.int (5 : Int32)), (.ref sb), (.ref sa), (.ref r1)])) rfl (by rw [hml]; rfl) (argsL := [(.ref r1), (.ref sa), (.ref sb), (.int (5 : Int32))]) (rest := []) (lenOf pd_24 rfl) rfl (by show 2 * 0 + _ ≤ _; exact Nat.le_of_eq rfl) (hb hby at_147) (fun _ _ => ⟨rfl, e404, (by decide : (((((((((((((((0 + 6) + 6) + 1) + 0) + 6) + 2) + 2) + 0) + 0) + 0) + 0) + 0) + 0) + 0) + 0) + 0 ≤ _), (by decide : (((((((((((((((0 + 32) + 32) + 3) + 0) + 60) + 20) + 20) + 0) + 0) + 0) + 0) + 0) + 0) + 0) + 0) + 0 ≤ _)⟩)
  dsimp only [Pt.U, Pt.locs, Pt.cells, Pt.slots] at X407 l407 y407 z407 st407 hQ407
  subst l407 y407 z407
  obtain ⟨rfl, Nq407, e407⟩ := hQ407
  have N407 := Fr.app N404 Nq407
  have r408 : Steps p.tables e below S0 (T407.setTop (mkF m 150 #[.val (.int p1), .val (.int p2), .val (.int p3), .val v1, .val v2, .val (.ref li), .val (.ref r1), .val (.ref sa), .val (.ref sb)] [(.int (1 : Int32))])) := r406.trans (st407 _ (Steps.refl _))
  have r409 : Steps p.tables e below S0 (T407.setTop (mkF m 161 #[.val (.int p1), .val (.int p2), .val (.int p3), .val v1, .val v2, .val (.ref li), .val (.ref r1), .val (.ref sa), .val (.ref sb)] [(.int (6 : Int32)), (.ref sb), (.ref sa), (.ref r1)])) := by
    refine r408.trans ?_
    show Steps p.tables e below (T407.setTop (mkF m 150 #[.val (.int p1), .val (.int p2), .val (.int p3), .val v1, .val v2, .val (.ref li), .val (.ref r1), .val (.ref sa), .val (.ref sb)] [(.int (1 : Int32))])) _
    refine XS.ifNo X407.here hx rfl (hb hby at_150) rfl ((if0 _ _).trans (feq (by decide)).1) ?_
    show Steps p.tables e below (T407.setTop (mkF m 153 #[.val (.int p1), .val (.int p2), .val (.int p3), .val v1, .val v2, .val (.ref li), .val (.ref r1), .val (.ref sa), .val (.ref sb)] [])) _
    refine XS.aload X407.here hx rfl (hb hby at_153) rfl rfl ?_
    show Steps p.tables e below (T407.setTop (mkF m 155 #[.val (.int p1), .val (.int p2), .val (.int p3), .val v1, .val v2, .val (.ref li), .val (.ref r1), .val (.ref sa), .val (.ref sb)] [(.ref r1)])) _
    refine XS.aload X407.here hx rfl (hb hby at_155) rfl rfl ?_
    show Steps p.tables e below (T407.setTop (mkF m 157 #[.val (.int p1), .val (.int p2), .val (.int p3), .val v1, .val v2, .val (.ref li), .val (.ref r1), .val (.ref sa), .val (.ref sb)] [(.ref sa), (.ref r1)])) _
    refine XS.aload X407.here hx rfl (hb hby at_157) rfl rfl ?_
    show Steps p.tables e below (T407.setTop (mkF m 159 #[.val (.int p1), .val (.int p2), .val (.int p3), .val v1, .val v2, .val (.ref li), .val (.ref r1), .val (.ref sa), .val (.ref sb)] [(.ref sb), (.ref sa), (.ref r1)])) _
    refine XS.bipush X407.here hx rfl (hb hby at_159) ?_
    exact Steps.refl _
  obtain ⟨_, _, ⟨T410, L410, k410, n410⟩, -, X410, ⟨Lc410, hQ410, l410, y410, z410⟩, st410⟩ := Jvm.LawKit.callS X407 hx (y := (⟨"com/example/spectraloom/spectraloom/model/LinkToStringPinLaw", "at", "(Ljava/lang/String;Ljava/lang/String;Ljava/lang/String;I)Z"⟩ : MethodName)) hown (mvT hZ (hw _ (List.mem_of_getElem? (i := 165) rfl))) (mvT hZ (hw _ (List.mem_of_getElem? (i := 166) rfl))) (mvT hZ (hw _ (List.mem_of_getElem? (i := 2) rfl))) (mvT hZ (hw _ (List.mem_of_getElem? (i := 167) rfl))) (by decide) (backOf (W := 0) (rmAt l Z a0 hw [] r1 sa sb (6 : Int32) cz fm rc rk ba ka bb kb cs1 cs2 6 T380.heap n0 Z380 O380 Sc hcz Sf hfm hR hA hB L1 L2 rfl (by decide)) hZ (hw _ (List.mem_of_getElem? (i := 167) rfl)) (hw _ (List.mem_of_getElem? (i := 2) rfl)) (by decide) (by decide)) (g := (mkF m 161 #[.val (.int p1), .val (.int p2), .val (.int p3), .val v1, .val v2, .val (.ref li), .val (.ref r1), .val (.ref sa), .val (.ref sb)] [(.int (6 : Int32)), (.ref sb), (.ref sa), (.ref r1)])) rfl (by rw [hml]; rfl) (argsL := [(.ref r1), (.ref sa), (.ref sb), (.int (6 : Int32))]) (rest := []) (lenOf pd_24 rfl) rfl (by show 2 * 0 + _ ≤ _; exact Nat.le_of_eq rfl) (hb hby at_161) (fun _ _ => ⟨rfl, e407, (by decide : ((((((((((((((((0 + 6) + 6) + 1) + 0) + 6) + 2) + 2) + 0) + 0) + 0) + 0) + 0) + 0) + 0) + 0) + 0) + 0 ≤ _), (by decide : ((((((((((((((((0 + 32) + 32) + 3) + 0) + 60) + 20) + 20) + 0) + 0) + 0) + 0) + 0) + 0) + 0) + 0) + 0) + 0 ≤ _)⟩)
  dsimp only [Pt.U, Pt.locs, Pt.cells, Pt.slots] at X410 l410 y410 z410 st410 hQ410
  subst l410 y410 z410
  obtain ⟨rfl, Nq410, e410⟩ := hQ410
  have N410 := Fr.app N407 Nq410
  have r411 : Steps p.tables e below S0 (T410.setTop (mkF m 164 #[.val (.int p1), .val (.int p2), .val (.int p3), .val v1, .val v2, .val (.ref li), .val (.ref r1), .val (.ref sa), .val (.ref sb)] [(.int (1 : Int32))])) := r409.trans (st410 _ (Steps.refl _))
  have r412 : Steps p.tables e below S0 (T410.setTop (mkF m 175 #[.val (.int p1), .val (.int p2), .val (.int p3), .val v1, .val v2, .val (.ref li), .val (.ref r1), .val (.ref sa), .val (.ref sb)] [(.int (7 : Int32)), (.ref sb), (.ref sa), (.ref r1)])) := by
    refine r411.trans ?_
    show Steps p.tables e below (T410.setTop (mkF m 164 #[.val (.int p1), .val (.int p2), .val (.int p3), .val v1, .val v2, .val (.ref li), .val (.ref r1), .val (.ref sa), .val (.ref sb)] [(.int (1 : Int32))])) _
    refine XS.ifNo X410.here hx rfl (hb hby at_164) rfl ((if0 _ _).trans (feq (by decide)).1) ?_
    show Steps p.tables e below (T410.setTop (mkF m 167 #[.val (.int p1), .val (.int p2), .val (.int p3), .val v1, .val v2, .val (.ref li), .val (.ref r1), .val (.ref sa), .val (.ref sb)] [])) _
    refine XS.aload X410.here hx rfl (hb hby at_167) rfl rfl ?_
    show Steps p.tables e below (T410.setTop (mkF m 169 #[.val (.int p1), .val (.int p2), .val (.int p3), .val v1, .val v2, .val (.ref li), .val (.ref r1), .val (.ref sa), .val (.ref sb)] [(.ref r1)])) _
    refine XS.aload X410.here hx rfl (hb hby at_169) rfl rfl ?_
    show Steps p.tables e below (T410.setTop (mkF m 171 #[.val (.int p1), .val (.int p2), .val (.int p3), .val v1, .val v2, .val (.ref li), .val (.ref r1), .val (.ref sa), .val (.ref sb)] [(.ref sa), (.ref r1)])) _
    refine XS.aload X410.here hx rfl (hb hby at_171) rfl rfl ?_
    show Steps p.tables e below (T410.setTop (mkF m 173 #[.val (.int p1), .val (.int p2), .val (.int p3), .val v1, .val v2, .val (.ref li), .val (.ref r1), .val (.ref sa), .val (.ref sb)] [(.ref sb), (.ref sa), (.ref r1)])) _
    refine XS.bipush X410.here hx rfl (hb hby at_173) ?_
    exact Steps.refl _
  obtain ⟨_, _, ⟨T413, L413, k413, n413⟩, -, X413, ⟨Lc413, hQ413, l413, y413, z413⟩, st413⟩ := Jvm.LawKit.callS X410 hx (y := (⟨"com/example/spectraloom/spectraloom/model/LinkToStringPinLaw", "at", "(Ljava/lang/String;Ljava/lang/String;Ljava/lang/String;I)Z"⟩ : MethodName)) hown (mvT hZ (hw _ (List.mem_of_getElem? (i := 165) rfl))) (mvT hZ (hw _ (List.mem_of_getElem? (i := 166) rfl))) (mvT hZ (hw _ (List.mem_of_getElem? (i := 2) rfl))) (mvT hZ (hw _ (List.mem_of_getElem? (i := 167) rfl))) (by decide) (backOf (W := 0) (rmAt l Z a0 hw [] r1 sa sb (7 : Int32) cz fm rc rk ba ka bb kb cs1 cs2 7 T380.heap n0 Z380 O380 Sc hcz Sf hfm hR hA hB L1 L2 rfl (by decide)) hZ (hw _ (List.mem_of_getElem? (i := 167) rfl)) (hw _ (List.mem_of_getElem? (i := 2) rfl)) (by decide) (by decide)) (g := (mkF m 175 #[.val (.int p1), .val (.int p2), .val (.int p3), .val v1, .val v2, .val (.ref li), .val (.ref r1), .val (.ref sa), .val (.ref sb)] [(.int (7 : Int32)), (.ref sb), (.ref sa), (.ref r1)])) rfl (by rw [hml]; rfl) (argsL := [(.ref r1), (.ref sa), (.ref sb), (.int (7 : Int32))]) (rest := []) (lenOf pd_24 rfl) rfl (by show 2 * 0 + _ ≤ _; exact Nat.le_of_eq rfl) (hb hby at_175) (fun _ _ => ⟨rfl, e410, (by decide : (((((((((((((((((0 + 6) + 6) + 1) + 0) + 6) + 2) + 2) + 0) + 0) + 0) + 0) + 0) + 0) + 0) + 0) + 0) + 0) + 0 ≤ _), (by decide : (((((((((((((((((0 + 32) + 32) + 3) + 0) + 60) + 20) + 20) + 0) + 0) + 0) + 0) + 0) + 0) + 0) + 0) + 0) + 0) + 0 ≤ _)⟩)
  dsimp only [Pt.U, Pt.locs, Pt.cells, Pt.slots] at X413 l413 y413 z413 st413 hQ413
  subst l413 y413 z413
  obtain ⟨rfl, Nq413, e413⟩ := hQ413
  have N413 := Fr.app N410 Nq413
  have r414 : Steps p.tables e below S0 (T413.setTop (mkF m 178 #[.val (.int p1), .val (.int p2), .val (.int p3), .val v1, .val v2, .val (.ref li), .val (.ref r1), .val (.ref sa), .val (.ref sb)] [(.int (1 : Int32))])) := r412.trans (st413 _ (Steps.refl _))
  have r415 : Steps p.tables e below S0 (T413.setTop (mkF m 189 #[.val (.int p1), .val (.int p2), .val (.int p3), .val v1, .val v2, .val (.ref li), .val (.ref r1), .val (.ref sa), .val (.ref sb)] [(.int (8 : Int32)), (.ref sb), (.ref sa), (.ref r1)])) := by
    refine r414.trans ?_
    show Steps p.tables e below (T413.setTop (mkF m 178 #[.val (.int p1), .val (.int p2), .val (.int p3), .val v1, .val v2, .val (.ref li), .val (.ref r1), .val (.ref sa), .val (.ref sb)] [(.int (1 : Int32))])) _
    refine XS.ifNo X413.here hx rfl (hb hby at_178) rfl ((if0 _ _).trans (feq (by decide)).1) ?_
    show Steps p.tables e below (T413.setTop (mkF m 181 #[.val (.int p1), .val (.int p2), .val (.int p3), .val v1, .val v2, .val (.ref li), .val (.ref r1), .val (.ref sa), .val (.ref sb)] [])) _
    refine XS.aload X413.here hx rfl (hb hby at_181) rfl rfl ?_
    show Steps p.tables e below (T413.setTop (mkF m 183 #[.val (.int p1), .val (.int p2), .val (.int p3), .val v1, .val v2, .val (.ref li), .val (.ref r1), .val (.ref sa), .val (.ref sb)] [(.ref r1)])) _
    refine XS.aload X413.here hx rfl (hb hby at_183) rfl rfl ?_
    show Steps p.tables e below (T413.setTop (mkF m 185 #[.val (.int p1), .val (.int p2), .val (.int p3), .val v1, .val v2, .val (.ref li), .val (.ref r1), .val (.ref sa), .val (.ref sb)] [(.ref sa), (.ref r1)])) _
    refine XS.aload X413.here hx rfl (hb hby at_185) rfl rfl ?_
    show Steps p.tables e below (T413.setTop (mkF m 187 #[.val (.int p1), .val (.int p2), .val (.int p3), .val v1, .val v2, .val (.ref li), .val (.ref r1), .val (.ref sa), .val (.ref sb)] [(.ref sb), (.ref sa), (.ref r1)])) _
    refine XS.bipush X413.here hx rfl (hb hby at_187) ?_
    exact Steps.refl _
  obtain ⟨_, _, ⟨T416, L416, k416, n416⟩, -, X416, ⟨Lc416, hQ416, l416, y416, z416⟩, st416⟩ := Jvm.LawKit.callS X413 hx (y := (⟨"com/example/spectraloom/spectraloom/model/LinkToStringPinLaw", "at", "(Ljava/lang/String;Ljava/lang/String;Ljava/lang/String;I)Z"⟩ : MethodName)) hown (mvT hZ (hw _ (List.mem_of_getElem? (i := 165) rfl))) (mvT hZ (hw _ (List.mem_of_getElem? (i := 166) rfl))) (mvT hZ (hw _ (List.mem_of_getElem? (i := 2) rfl))) (mvT hZ (hw _ (List.mem_of_getElem? (i := 167) rfl))) (by decide) (backOf (W := 0) (rmAt l Z a0 hw [] r1 sa sb (8 : Int32) cz fm rc rk ba ka bb kb cs1 cs2 8 T380.heap n0 Z380 O380 Sc hcz Sf hfm hR hA hB L1 L2 rfl (by decide)) hZ (hw _ (List.mem_of_getElem? (i := 167) rfl)) (hw _ (List.mem_of_getElem? (i := 2) rfl)) (by decide) (by decide)) (g := (mkF m 189 #[.val (.int p1), .val (.int p2), .val (.int p3), .val v1, .val v2, .val (.ref li), .val (.ref r1), .val (.ref sa), .val (.ref sb)] [(.int (8 : Int32)), (.ref sb), (.ref sa), (.ref r1)])) rfl (by rw [hml]; rfl) (argsL := [(.ref r1), (.ref sa), (.ref sb), (.int (8 : Int32))]) (rest := []) (lenOf pd_24 rfl) rfl (by show 2 * 0 + _ ≤ _; exact Nat.le_of_eq rfl) (hb hby at_189) (fun _ _ => ⟨rfl, e413, (by decide : ((((((((((((((((((0 + 6) + 6) + 1) + 0) + 6) + 2) + 2) + 0) + 0) + 0) + 0) + 0) + 0) + 0) + 0) + 0) + 0) + 0) + 0 ≤ _), (by decide : ((((((((((((((((((0 + 32) + 32) + 3) + 0) + 60) + 20) + 20) + 0) + 0) + 0) + 0) + 0) + 0) + 0) + 0) + 0) + 0) + 0) + 0 ≤ _)⟩)
  dsimp only [Pt.U, Pt.locs, Pt.cells, Pt.slots] at X416 l416 y416 z416 st416 hQ416
  subst l416 y416 z416
  obtain ⟨rfl, Nq416, e416⟩ := hQ416
  have N416 := Fr.app N413 Nq416
  have r417 : Steps p.tables e below S0 (T416.setTop (mkF m 192 #[.val (.int p1), .val (.int p2), .val (.int p3), .val v1, .val v2, .val (.ref li), .val (.ref r1), .val (.ref sa), .val (.ref sb)] [(.int (1 : Int32))])) := r415.trans (st416 _ (Steps.refl _))
  have r418 : Steps p.tables e below S0 (T416.setTop (mkF m 200 #[.val (.int p1), .val (.int p2), .val (.int p3), .val v1, .val v2, .val (.ref li), .val (.ref r1), .val (.ref sa), .val (.ref sb)] [(.int (1 : Int32))])) := by
    refine r417.trans ?_
    show Steps p.tables e below (T416.setTop (mkF m 192 #[.val (.int p1), .val (.int p2), .val (.int p3), .val v1, .val v2, .val (.ref li), .val (.ref r1), .val (.ref sa), .val (.ref sb)] [(.int (1 : Int32))])) _
    refine XS.ifNo X416.here hx rfl (hb hby at_192) rfl ((if0 _ _).trans (feq (by decide)).1) ?_
    show Steps p.tables e below (T416.setTop (mkF m 195 #[.val (.int p1), .val (.int p2), .val (.int p3), .val v1, .val v2, .val (.ref li), .val (.ref r1), .val (.ref sa), .val (.ref sb)] [])) _
    refine XS.iconst X416.here hx rfl (hb hby at_195) ?_
    show Steps p.tables e below (T416.setTop (mkF m 196 #[.val (.int p1), .val (.int p2), .val (.int p3), .val v1, .val v2, .val (.ref li), .val (.ref r1), .val (.ref sa), .val (.ref sb)] [(.int (1 : Int32))])) _
    refine XS.goto X416.here hx rfl (pc0 := 196) (pc' := 200) rfl (hb hby at_196) (by decide) (by decide) ?_
    exact Steps.refl _
  obtain ⟨fs, hr, hrun, hended, hRW⟩ := X416.leaveW hSn380 (by rw [e416]; exact (Nat.le_refl _)) (v := some (.int (1 : Int32))) (fun h => by rw [Bd.returns] at h; cases h)
  refine ⟨_, _, pre0 _ ?_, hrun, hended, _, _, rfl, ?_, ?_, hRW.1, hRW.2.1, hRW.2.2.1, hRW.2.2.2.mono (by decide) (by decide)⟩
  · rw [← hS0]
    refine r418.trans ?_
    show Steps p.tables e below (T416.setTop (mkF m 200 #[.val (.int p1), .val (.int p2), .val (.int p3), .val v1, .val v2, .val (.ref li), .val (.ref r1), .val (.ref sa), .val (.ref sb)] [(.int (1 : Int32))])) _
    exact retB X416 hx Bd.returns (by first | exact Or.inr rfl | exact Or.inl rfl) (hb hby at_200) hr
  · show Qm0 Z p1 p2 p3 cz fm h0 n0 _ T416.heap _; rw [e416]; exact ⟨rfl, N416⟩
  · show CHr Z consts_1 s.vm s.heap T416.vm T416.heap; rw [e416]; rw [hh]; exact C380.trans (CHv.at X416 hZ hEL C380.1)
set_option maxRecDepth 65536 in
set_option maxHeartbeats 40000000 in
theorem comes_1 {Post : Tables → Env → Array Value → State → Outcome → State → Prop} (hpost : ∀ tb e args s v u, (limb_1_1.after args s (.returned v) u = true ∧ limb_1_2.after args s (.returned v) u = true ∧ True) → ReturnedEndW s (.returned v) u (Jvm.fieldLocs frame_1_writes args s ++ Jvm.arrayLocs frame_1_arrays args s ++ Jvm.staticLocs frame_1_statics s) 40 3264 → Post tb e args s (.returned v) u) :
    ArmFor flags0 classFile x code maxLocals ret World_1 tables_1 room_1 Calls_1 rest_1 Pre_1 Post := by
  intro l hfl _ _ p e ha hc hk s m args below hf hA hF happ hP
  obtain ⟨hcalls, hrest, hpre⟩ := hP
  obtain ⟨-, -, -, hnamed, -, -, -, hat⟩ := (Spec.applies_iff hf).mp happ
  obtain ⟨hg, hn⟩ := and_e (Cond.before_iff.mp (show (Jvm.Cond.and given_1 narrow_1).before args s = true from hpre))
  obtain ⟨g0, hg⟩ := and_e hg
  obtain ⟨ga0, hg⟩ := and_e hg
  obtain ⟨ga1, hg⟩ := and_e hg
  have ga2 := hg
  obtain ⟨w0, w1, w2, rfl⟩ : ∃ w0 w1 w2 : Value, args = #[w0, w1, w2] := by
    have hs : args.size = 3 := by simpa [Cond.value, given_1] using g0
    obtain ⟨L⟩ := args
    match L, hs with
    | [w0, w1, w2], _ => exact ⟨w0, w1, w2, rfl⟩
  have hw := fun d (hd : d ∈ tables_1) => atoms_spec (ws := Jvm.Cond.code x code maxLocals ret :: tables_1) hat d (List.mem_cons_of_mem _ hd)
  have hfit : Fit s := fun {y c} hc i hi => by
    obtain ⟨ha, rfl⟩ := Array.getElem?_eq_some_iff.mp hc
    have q := List.all_eq_true.mp ((Array.all_eq_true_iff_forall_mem.mp hF) _ (Array.getElem_mem ha)) i (List.mem_range.mpr hi)
    simpa [Array.getElem?_eq_getElem hi] using q
  obtain ⟨hsets, hown0⟩ := atoms_of _ (rest_1_c_eq ▸ (show rest_1_c.before _ s = true from hrest))
  obtain ⟨i0, ei0⟩ := is_v ga0
  obtain rfl : w0 = (.int i0) := Option.some.inj ei0
  obtain ⟨i1, ei1⟩ := is_v ga1
  obtain rfl : w1 = (.int i1) := Option.some.inj ei1
  obtain ⟨i2, ei2⟩ := is_v ga2
  obtain rfl : w2 = (.int i2) := Option.some.inj ei2
  have n5 := not_v (Cond.before_iff.mp (hsets _ (List.mem_of_getElem? (i := 2) rfl)))
  obtain ⟨cz, ecz⟩ := is_v (Cond.before_iff.mp (hsets _ (List.mem_of_getElem? (i := 1) rfl)))
  have Sc : Sta s s.heap "java/lang/String" "COMPACT_STRINGS" "Z" (.int cz) := Sta.start ecz (Or.inl (hsets _ (List.mem_of_getElem? (i := 0) rfl)))
  obtain ⟨fm, efm, rfm⟩ := isR_v (Cond.before_iff.mp (hsets _ (List.mem_of_getElem? (i := 8) rfl)))
  have Sf : Sta s s.heap "jdk/internal/util/Preconditions" "SIOOBE_FORMATTER" "Ljava/util/function/BiFunction;" fm := Sta.start efm (Or.inl (hsets _ (List.mem_of_getElem? (i := 7) rfl)))
  have hcz : ¬ (cz = (0 : Int32)) := gotF (Cond.eq_ints ecz (Term.int_eval (0))) n5
  have hEL : EW s _ consts_1 := EW.cons (hw _ (List.mem_of_getElem? (i := 115) rfl)) (by decide) (EW.cons (hw _ (List.mem_of_getElem? (i := 206) rfl)) (by decide) (EW.cons (hw _ (List.mem_of_getElem? (i := 18) rfl)) (by decide) EW.nil))
  have hCH : CHv s consts_1 s.vm s.heap := CHv.start hEL hcalls.1 (hsets _ (List.mem_of_getElem? (i := 2) rfl)) (hw _ (List.mem_of_getElem? (i := 19) rfl)) (hw _ (List.mem_of_getElem? (i := 5) rfl))
  obtain ⟨n, o, h1, h2, h3, _, L, rfl, ⟨rfl, N⟩, -, hq⟩ := rm0 l s _ hw tables_1 i0 i1 i2 cz fm s.heap s.heap.size (Nat.le_refl _) (Old.start s) Sc hcz Sf rfm hEL p e ha hc hk s m _ below hf ((Spec.applies_iff_loose hf).mp happ).1 ⟨rfl, State.Warmed39.refl s, rfl, hCH⟩ trivial
  refine ⟨n, _, h1, h2, h3, hpost _ _ _ _ _ _ ⟨Cond.after_iff.mpr rfl, Cond.after_iff.mpr (eq_i res_at (Term.int_eval (1)) rfl), trivial⟩ ⟨hq.1, hq.2.1, hq.2.2.1, (hq.2.2.2.sift fun y hy => Or.inr (N y hy)).mono (by decide) (by decide)⟩⟩
theorem main_1_1 : Claimed_1_1 := comes_1 fun _ _ _ _ _ _ h hF => ⟨h.1, hF⟩
theorem main_1_2 : Claimed_1_2 := comes_1 fun _ _ _ _ _ _ h hF => ⟨h.2.1, hF⟩
end Jvm.Pilot.@@N@@
namespace Jvm.Pilot.@@N@@
open Jvm Jvm.ClassFile Sem Op Lib Jvm.Free Jvm.Stand Jvm.Pilot.@@N@@.Jvm.D
/-! MADE BY PROGRAM (witnessworld.py) out of the Statement's table words and the real class files: 27 classes; the members and pool entries that the words name. The judged class is class 1, her method 4. -/
namespace start1
open Jvm.ClassFile
def u (s : String) : CpInfo := .utf8 (stringToUtf16 s)
/-- a pool by its gaps: so many unusable entries, then the entry; so many at the end -/
def gap : Nat → List CpInfo → List CpInfo
  | 0, r => r
  | n + 1, r => .unusable :: gap n r
def poolList (es : List (Nat × CpInfo)) (last : Nat) : List CpInfo := es.foldr (fun e r => gap e.1 (e.2 :: r)) (gap last [])
def pool (es : List (Nat × CpInfo)) (last : Nat) : Array CpInfo := ⟨poolList es last⟩
def fileOf (pool : Array CpInfo) (this : Nat) (attrs : Array Attribute := #[]) (ms : Array MethodInfo := #[]) (fl : Nat := 33) (sup : Nat := 0) (ifs : Array Nat := #[]) (fds : Array FieldInfo := #[]) : ClassFile where
  minorVersion := 0
  majorVersion := 65
  constantPool := pool
  accessFlags := fl
  thisClass := this
  superClass := sup
  interfaces := ifs
  fields := fds
  methods := ms
  attributes := attrs
def plain (name : String) (sup : Option ClassId) : Class where
  name := name
  kind := .ordinary
  loader := none
  accessFlags := 33
  super := sup
  interfaces := #[]
  cf := none
  fields := #[]
  methods := #[]
  instanceTypes := #[]
  staticTypes := #[]
  resolved := #[]
  callSites := []
  init := .initialized
  statics := none
  mirror := none

def pool0 : Array CpInfo := pool [(5, u "<init>"), (0, u "()V"), (1, .class_ 10), (1, u "java/lang/Object")] 113

def k0c0 : Code := { maxStack := 0, maxLocals := 1, code := object_method_1_code, exceptionTable := #[], attributes := #[] }
def k0m0 : Method := { name := "<init>", desc := "()V", sig := { parameters := [], returnType := none }, accessFlags := 1, code := some k0c0 }
/-- java/lang/Object -/
def k0 : Class := { plain "java/lang/Object" none with
  accessFlags := 33
  interfaces := #[]
  cf := some (fileOf pool0 8 #[] #[{ accessFlags := 1, nameIndex := 5, descriptorIndex := 6, attributes := #[] }] 33 0 #[] #[])
  fields := #[]
  methods := #[k0m0]
  instanceTypes := #[]
  staticTypes := #[]
  resolved := Array.replicate 124 none
  statics := none }

def pool1 : Array CpInfo := pool [(2, .class_ 4), (1, u "java/lang/Object"), (0, u "<init>"), (0, u "()V"), (0, .class_ 8), (0, u "java/lang/String"), (0, .methodref 7 10), (0, .nameAndType 5 11), (0, u "([C)V"), (0, .string 13), (0, u "null"), (0, .methodref 7 15), (0, .nameAndType 16 17), (0, u "length"), (0, u "()I"), (0, .methodref 7 19), (0, .nameAndType 20 21), (0, u "charAt"), (0, u "(I)C"), (0, .methodref 23 24), (0, .class_ 25), (0, .nameAndType 26 27), (0, u "com/example/spectraloom/spectraloom/model/LinkToStringPinLaw"), (0, u "mk"), (0, u "(I)Ljava/lang/String;"), (0, .class_ 29), (0, u "com/example/spectraloom/spectraloom/model/Link"), (0, .methodref 28 31), (0, .nameAndType 5 32), (0, u "(Ljava/lang/String;Ljava/lang/String;D)V"), (0, .methodref 28 34), (0, .nameAndType 35 36), (0, u "toString"), (0, u "()Ljava/lang/String;"), (0, .methodref 23 38), (0, .nameAndType 39 40), (0, u "shown"), (0, u "(Ljava/lang/String;)Ljava/lang/String;"), (0, .methodref 23 42), (0, .nameAndType 43 44), (0, u "at"), (0, u "(Ljava/lang/String;Ljava/lang/String;Ljava/lang/String;I)Z"), (3, u "law"), (0, u "(III)Z")] 2

def k1m0 : Method := { name := "<init>", desc := "()V", sig := { parameters := [], returnType := none }, accessFlags := 1, code := none }
def k1c1 : Code := { maxStack := 6, maxLocals := 4, code := method_2_code, exceptionTable := #[], attributes := #[] }
def k1m1 : Method := { name := "mk", desc := "(I)Ljava/lang/String;", sig := { parameters := [.int], returnType := some (.object "java/lang/String") }, accessFlags := 10, code := some k1c1 }
def k1c2 : Code := { maxStack := 1, maxLocals := 1, code := method_3_code, exceptionTable := #[], attributes := #[] }
def k1m2 : Method := { name := "shown", desc := "(Ljava/lang/String;)Ljava/lang/String;", sig := { parameters := [(.object "java/lang/String")], returnType := some (.object "java/lang/String") }, accessFlags := 10, code := some k1c2 }
def k1c3 : Code := { maxStack := 3, maxLocals := 5, code := method_4_code, exceptionTable := #[], attributes := #[] }
def k1m3 : Method := { name := "at", desc := "(Ljava/lang/String;Ljava/lang/String;Ljava/lang/String;I)Z", sig := { parameters := [(.object "java/lang/String"), (.object "java/lang/String"), (.object "java/lang/String"), .int], returnType := some .boolean }, accessFlags := 10, code := some k1c3 }
def k1c4 : Code := { maxStack := 6, maxLocals := 9, code := code, exceptionTable := #[], attributes := #[] }
def k1m4 : Method := { name := "law", desc := "(III)Z", sig := { parameters := [.int, .int, .int], returnType := some .boolean }, accessFlags := 9, code := some k1c4 }
/-- com/example/spectraloom/spectraloom/model/LinkToStringPinLaw -/
def k1 : Class := { plain "com/example/spectraloom/spectraloom/model/LinkToStringPinLaw" (some 0) with
  accessFlags := 49
  interfaces := #[]
  cf := some (fileOf pool1 23 #[] #[{ accessFlags := 1, nameIndex := 5, descriptorIndex := 6, attributes := #[] }, { accessFlags := 10, nameIndex := 26, descriptorIndex := 27, attributes := #[] }, { accessFlags := 10, nameIndex := 39, descriptorIndex := 40, attributes := #[] }, { accessFlags := 10, nameIndex := 43, descriptorIndex := 44, attributes := #[] }, { accessFlags := 9, nameIndex := 48, descriptorIndex := 49, attributes := #[] }] 49 2 #[] #[])
  fields := #[]
  methods := #[k1m0, k1m1, k1m2, k1m3, k1m4]
  instanceTypes := #[]
  staticTypes := #[]
  resolved := Array.replicate 52 none
  statics := none }

def pool2 : Array CpInfo := pool [(1, .class_ 2), (0, u "java/io/Serializable"), (0, .class_ 4), (0, u "java/lang/Object")] 2

/-- java/io/Serializable -/
def k2 : Class := { plain "java/io/Serializable" (some 0) with
  accessFlags := 1537
  interfaces := #[]
  cf := some (fileOf pool2 1 #[] #[] 1537 3 #[] #[])
  fields := #[]
  methods := #[]
  instanceTypes := #[]
  staticTypes := #[]
  resolved := Array.replicate 7 none
  statics := none }

def pool3 : Array CpInfo := pool [(1, .class_ 2), (0, u "java/lang/Comparable"), (0, .class_ 4), (0, u "java/lang/Object")] 7

/-- java/lang/Comparable -/
def k3 : Class := { plain "java/lang/Comparable" (some 0) with
  accessFlags := 1537
  interfaces := #[]
  cf := some (fileOf pool3 1 #[] #[] 1537 3 #[] #[])
  fields := #[]
  methods := #[]
  instanceTypes := #[]
  staticTypes := #[]
  resolved := Array.replicate 12 none
  statics := none }

def pool4 : Array CpInfo := pool [(2, .class_ 4), (1, u "java/lang/CharSequence"), (42, .class_ 48), (0, u "java/lang/CharSequence$1CodePointIterator"), (10, .class_ 60), (0, u "java/lang/CharSequence$1CharIterator"), (5, .class_ 67), (0, u "java/lang/Object")] 63

/-- java/lang/CharSequence -/
def k4 : Class := { plain "java/lang/CharSequence" (some 0) with
  accessFlags := 1537
  interfaces := #[]
  cf := some (fileOf pool4 2 #[.nestMembers #[47, 59]] #[] 1537 66 #[] #[])
  fields := #[]
  methods := #[]
  instanceTypes := #[]
  staticTypes := #[]
  resolved := Array.replicate 131 none
  statics := none }

def pool5 : Array CpInfo := pool [(1, .class_ 2), (0, u "java/lang/constant/Constable"), (0, .class_ 4), (0, u "java/lang/Object")] 6

/-- java/lang/constant/Constable -/
def k5 : Class := { plain "java/lang/constant/Constable" (some 0) with
  accessFlags := 1537
  interfaces := #[]
  cf := some (fileOf pool5 1 #[] #[] 1537 3 #[] #[])
  fields := #[]
  methods := #[]
  instanceTypes := #[]
  staticTypes := #[]
  resolved := Array.replicate 11 none
  statics := none }

def pool6 : Array CpInfo := pool [(1, .class_ 2), (0, u "java/lang/constant/ConstantDesc"), (0, .class_ 4), (0, u "java/lang/Object")] 32

/-- java/lang/constant/ConstantDesc -/
def k6 : Class := { plain "java/lang/constant/ConstantDesc" (some 0) with
  accessFlags := 1537
  interfaces := #[]
  cf := some (fileOf pool6 1 #[] #[] 1537 3 #[] #[])
  fields := #[]
  methods := #[]
  instanceTypes := #[]
  staticTypes := #[]
  resolved := Array.replicate 37 none
  statics := none }

def pool7 : Array CpInfo := pool [(1, .methodref 2 3), (0, .class_ 4), (0, .nameAndType 5 6), (0, u "java/lang/Object"), (0, u "<init>"), (0, u "()V"), (0, .string 8), (0, u ""), (0, .fieldref 10 11), (0, .class_ 12), (0, .nameAndType 13 14), (0, u "java/lang/String"), (0, u "value"), (0, u "[B"), (0, .fieldref 10 16), (0, .nameAndType 17 18), (0, u "coder"), (0, u "B"), (2, u "hash"), (0, u "I"), (2, u "hashIsZero"), (0, u "Z"), (0, .methodref 10 28), (0, .nameAndType 5 29), (0, u "([CIILjava/lang/Void;)V"), (8, .fieldref 10 39), (0, .nameAndType 40 26), (0, u "COMPACT_STRINGS"), (1, .class_ 44), (1, u "java/lang/StringUTF16"), (0, u "compress"), (1, .methodref 42 48), (0, .nameAndType 49 50), (0, u "coderFromArrayLen"), (0, u "([BI)B"), (3, .methodref 55 56), (0, .class_ 57), (0, .nameAndType 58 59), (0, u "java/util/Arrays"), (0, u "copyOfRange"), (0, u "([BII)[B"), (47, .class_ 109), (1, u "java/lang/StringLatin1"), (32, u "()Z"), (34, .methodref 42 178), (0, .nameAndType 45 179), (0, u "([CII)[B"), (13, .class_ 195), (1, u "java/lang/System"), (16, .methodref 193 213), (0, .nameAndType 214 215), (0, u "arraycopy"), (0, u "(Ljava/lang/Object;ILjava/lang/Object;II)V"), (118, u "()I"), (0, .methodref 10 336), (0, .nameAndType 17 337), (0, u "()B"), (2, u "()[B"), (22, u "([BI)C"), (27, u "(II)V"), (35, u "(I)C"), (61, .methodref 10 490), (0, .nameAndType 5 491), (0, u "(Ljava/lang/AbstractStringBuilder;Ljava/lang/Void;)V"), (0, .methodref 10 493), (0, .nameAndType 494 142), (0, u "isLatin1"), (0, .methodref 107 496), (0, .nameAndType 497 363), (0, u "charAt"), (3, u "checkIndex"), (4, .nameAndType 507 334), (0, u "length"), (24, u "getBytes"), (16, .methodref 550 506), (0, .class_ 551), (0, u "java/lang/AbstractStringBuilder"), (0, .methodref 550 553), (0, .nameAndType 554 340), (0, u "getValue"), (20, .class_ 576), (0, u "java/lang/CharSequence"), (22, u "CASE_INSENSITIVE_ORDER"), (0, u "Ljava/util/Comparator;"), (220, u "([BIB)V"), (188, u "([C)V"), (36, .methodref 550 493), (5, .fieldref 1054 1055), (0, .class_ 1056), (0, .nameAndType 1057 1058), (0, u "jdk/internal/util/Preconditions"), (0, u "SIOOBE_FORMATTER"), (0, u "Ljava/util/function/BiFunction;"), (0, .methodref 1054 1060), (0, .nameAndType 501 1061), (0, u "(IILjava/util/function/BiFunction;)I"), (39, u "serialPersistentFields"), (0, u "[Ljava/io/ObjectStreamField;"), (0, .class_ 1104), (0, u "java/lang/String$CaseInsensitiveComparator"), (1, .class_ 1107), (0, u "java/io/Serializable"), (0, .class_ 1109), (0, u "java/lang/Comparable"), (0, .class_ 1111), (0, u "java/lang/constant/Constable"), (0, .class_ 1113), (0, u "java/lang/constant/ConstantDesc"), (2, u "serialVersionUID"), (0, u "J"), (3, u "REPL"), (0, u "C"), (2, u "LATIN1"), (1, u "UTF16"), (105, u "(Ljava/lang/StringBuilder;)V")] 217

def k7m0 : Method := { name := "<init>", desc := "()V", sig := { parameters := [], returnType := none }, accessFlags := 1, code := none }
def k7c1 : Code := { maxStack := 5, maxLocals := 2, code := jdk_42_method_3_code, exceptionTable := #[], attributes := #[] }
def k7m1 : Method := { name := "<init>", desc := "([C)V", sig := { parameters := [(.array .char)], returnType := none }, accessFlags := 1, code := some k7c1 }
def k7c2 : Code := { maxStack := 3, maxLocals := 2, code := jdk_42_method_53_code, exceptionTable := #[], attributes := #[] }
def k7m2 : Method := { name := "<init>", desc := "(Ljava/lang/StringBuilder;)V", sig := { parameters := [(.object "java/lang/StringBuilder")], returnType := none }, accessFlags := 1, code := some k7c2 }
def k7c3 : Code := { maxStack := 2, maxLocals := 1, code := jdk_42_method_54_code, exceptionTable := #[], attributes := #[] }
def k7m3 : Method := { name := "length", desc := "()I", sig := { parameters := [], returnType := some .int }, accessFlags := 1, code := some k7c3 }
def k7c4 : Code := { maxStack := 2, maxLocals := 2, code := jdk_42_method_56_code, exceptionTable := #[], attributes := #[] }
def k7m4 : Method := { name := "charAt", desc := "(I)C", sig := { parameters := [.int], returnType := some .char }, accessFlags := 1, code := some k7c4 }
def k7c5 : Code := { maxStack := 5, maxLocals := 4, code := jdk_42_method_147_code, exceptionTable := #[], attributes := #[] }
def k7m5 : Method := { name := "getBytes", desc := "([BIB)V", sig := { parameters := [(.array .byte), .int, .byte], returnType := none }, accessFlags := 0, code := some k7c5 }
def k7c6 : Code := { maxStack := 4, maxLocals := 6, code := jdk_42_method_149_code, exceptionTable := #[], attributes := #[] }
def k7m6 : Method := { name := "<init>", desc := "([CIILjava/lang/Void;)V", sig := { parameters := [(.array .char), .int, .int, (.object "java/lang/Void")], returnType := none }, accessFlags := 2, code := some k7c6 }
def k7c7 : Code := { maxStack := 5, maxLocals := 5, code := jdk_42_method_150_code, exceptionTable := #[], attributes := #[] }
def k7m7 : Method := { name := "<init>", desc := "(Ljava/lang/AbstractStringBuilder;Ljava/lang/Void;)V", sig := { parameters := [(.object "java/lang/AbstractStringBuilder"), (.object "java/lang/Void")], returnType := none }, accessFlags := 0, code := some k7c7 }
def k7c8 : Code := { maxStack := 1, maxLocals := 1, code := jdk_42_method_152_code, exceptionTable := #[], attributes := #[] }
def k7m8 : Method := { name := "coder", desc := "()B", sig := { parameters := [], returnType := some .byte }, accessFlags := 0, code := some k7c8 }
def k7c9 : Code := { maxStack := 1, maxLocals := 1, code := jdk_42_method_154_code, exceptionTable := #[], attributes := #[] }
def k7m9 : Method := { name := "isLatin1", desc := "()Z", sig := { parameters := [], returnType := some .boolean }, accessFlags := 0, code := some k7c9 }
def k7c10 : Code := { maxStack := 3, maxLocals := 2, code := jdk_42_method_155_code, exceptionTable := #[], attributes := #[] }
def k7m10 : Method := { name := "checkIndex", desc := "(II)V", sig := { parameters := [.int, .int], returnType := none }, accessFlags := 8, code := some k7c10 }
/-- java/lang/String -/
def k7 : Class := { plain "java/lang/String" (some 0) with
  accessFlags := 49
  interfaces := #[2, 3, 4, 5, 6]
  cf := some (fileOf pool7 10 #[.nestMembers #[1103]] #[{ accessFlags := 1, nameIndex := 5, descriptorIndex := 6, attributes := #[] }, { accessFlags := 1, nameIndex := 5, descriptorIndex := 1010, attributes := #[] }, { accessFlags := 1, nameIndex := 5, descriptorIndex := 1233, attributes := #[] }, { accessFlags := 1, nameIndex := 507, descriptorIndex := 334, attributes := #[] }, { accessFlags := 1, nameIndex := 497, descriptorIndex := 427, attributes := #[] }, { accessFlags := 0, nameIndex := 532, descriptorIndex := 821, attributes := #[] }, { accessFlags := 2, nameIndex := 5, descriptorIndex := 29, attributes := #[] }, { accessFlags := 0, nameIndex := 5, descriptorIndex := 491, attributes := #[] }, { accessFlags := 0, nameIndex := 17, descriptorIndex := 337, attributes := #[] }, { accessFlags := 0, nameIndex := 494, descriptorIndex := 142, attributes := #[] }, { accessFlags := 8, nameIndex := 501, descriptorIndex := 391, attributes := #[] }] 49 2 #[1106, 1108, 575, 1110, 1112] #[{ accessFlags := 18, nameIndex := 13, descriptorIndex := 14, attributes := #[] }, { accessFlags := 18, nameIndex := 17, descriptorIndex := 18, attributes := #[] }, { accessFlags := 2, nameIndex := 21, descriptorIndex := 22, attributes := #[] }, { accessFlags := 2, nameIndex := 25, descriptorIndex := 26, attributes := #[] }, { accessFlags := 26, nameIndex := 1116, descriptorIndex := 1117, attributes := #[] }, { accessFlags := 24, nameIndex := 40, descriptorIndex := 26, attributes := #[] }, { accessFlags := 26, nameIndex := 1101, descriptorIndex := 1102, attributes := #[] }, { accessFlags := 26, nameIndex := 1121, descriptorIndex := 1122, attributes := #[] }, { accessFlags := 25, nameIndex := 599, descriptorIndex := 600, attributes := #[] }, { accessFlags := 24, nameIndex := 1125, descriptorIndex := 18, attributes := #[] }, { accessFlags := 24, nameIndex := 1127, descriptorIndex := 18, attributes := #[] }])
  fields := #[{ name := "value", type := (.array .byte), accessFlags := 18, slot := 0, constantValue := 0 }, { name := "coder", type := .byte, accessFlags := 18, slot := 1, constantValue := 0 }, { name := "hash", type := .int, accessFlags := 2, slot := 2, constantValue := 0 }, { name := "hashIsZero", type := .boolean, accessFlags := 2, slot := 3, constantValue := 0 }, { name := "serialVersionUID", type := .long, accessFlags := 26, slot := 0, constantValue := 0 }, { name := "COMPACT_STRINGS", type := .boolean, accessFlags := 24, slot := 1, constantValue := 0 }, { name := "serialPersistentFields", type := (.array (.object "java/io/ObjectStreamField")), accessFlags := 26, slot := 2, constantValue := 0 }, { name := "REPL", type := .char, accessFlags := 26, slot := 3, constantValue := 0 }, { name := "CASE_INSENSITIVE_ORDER", type := (.object "java/util/Comparator"), accessFlags := 25, slot := 4, constantValue := 0 }, { name := "LATIN1", type := .byte, accessFlags := 24, slot := 5, constantValue := 0 }, { name := "UTF16", type := .byte, accessFlags := 24, slot := 6, constantValue := 0 }]
  methods := #[k7m0, k7m1, k7m2, k7m3, k7m4, k7m5, k7m6, k7m7, k7m8, k7m9, k7m10]
  instanceTypes := #[(.array .byte), .byte, .int, .boolean]
  staticTypes := #[.long, .boolean, (.array (.object "java/io/ObjectStreamField")), .char, (.object "java/util/Comparator"), .byte, .byte]
  resolved := Array.replicate 1451 none
  statics := some 0 }

def pool8 : Array CpInfo := pool [(1, .methodref 2 3), (0, .class_ 4), (0, .nameAndType 5 6), (0, u "java/lang/Object"), (0, u "<init>"), (0, u "()V"), (0, .class_ 8), (0, u "java/lang/Record")] 13

def k8c0 : Code := { maxStack := 1, maxLocals := 1, code := jdk_30_method_1_code, exceptionTable := #[], attributes := #[] }
def k8m0 : Method := { name := "<init>", desc := "()V", sig := { parameters := [], returnType := none }, accessFlags := 4, code := some k8c0 }
/-- java/lang/Record -/
def k8 : Class := { plain "java/lang/Record" (some 0) with
  accessFlags := 1057
  interfaces := #[]
  cf := some (fileOf pool8 7 #[] #[{ accessFlags := 4, nameIndex := 5, descriptorIndex := 6, attributes := #[] }] 1057 2 #[] #[])
  fields := #[]
  methods := #[k8m0]
  instanceTypes := #[]
  staticTypes := #[]
  resolved := Array.replicate 22 none
  statics := none }

def pool9 : Array CpInfo := pool [(1, .methodref 2 3), (0, .class_ 4), (0, .nameAndType 5 6), (0, u "java/lang/Record"), (0, u "<init>"), (0, u "()V"), (0, .fieldref 8 9), (0, .class_ 10), (0, .nameAndType 11 12), (0, u "com/example/spectraloom/spectraloom/model/Link"), (0, u "source"), (0, u "Ljava/lang/String;"), (0, .fieldref 8 14), (0, .nameAndType 15 12), (0, u "target"), (0, .fieldref 8 17), (0, .nameAndType 18 19), (0, u "lengthKm"), (0, u "D"), (0, .class_ 21), (0, u "java/lang/StringBuilder"), (0, .methodref 20 3), (0, .methodref 20 24), (0, .nameAndType 25 26), (0, u "append"), (0, u "(Ljava/lang/String;)Ljava/lang/StringBuilder;"), (0, .string 28), (0, u "-"), (0, .methodref 20 30), (0, .nameAndType 31 32), (0, u "toString"), (0, u "()Ljava/lang/String;"), (8, u "(Ljava/lang/String;Ljava/lang/String;D)V")] 28

def k9c0 : Code := { maxStack := 3, maxLocals := 5, code := prog_19_method_1_code, exceptionTable := #[], attributes := #[] }
def k9m0 : Method := { name := "<init>", desc := "(Ljava/lang/String;Ljava/lang/String;D)V", sig := { parameters := [(.object "java/lang/String"), (.object "java/lang/String"), .double], returnType := none }, accessFlags := 1, code := some k9c0 }
def k9c1 : Code := { maxStack := 2, maxLocals := 1, code := prog_19_method_2_code, exceptionTable := #[], attributes := #[] }
def k9m1 : Method := { name := "toString", desc := "()Ljava/lang/String;", sig := { parameters := [], returnType := some (.object "java/lang/String") }, accessFlags := 1, code := some k9c1 }
/-- com/example/spectraloom/spectraloom/model/Link -/
def k9 : Class := { plain "com/example/spectraloom/spectraloom/model/Link" (some 8) with
  accessFlags := 49
  interfaces := #[]
  cf := some (fileOf pool9 8 #[] #[{ accessFlags := 1, nameIndex := 5, descriptorIndex := 41, attributes := #[] }, { accessFlags := 1, nameIndex := 31, descriptorIndex := 32, attributes := #[] }] 49 2 #[] #[{ accessFlags := 18, nameIndex := 11, descriptorIndex := 12, attributes := #[] }, { accessFlags := 18, nameIndex := 15, descriptorIndex := 12, attributes := #[] }, { accessFlags := 18, nameIndex := 18, descriptorIndex := 19, attributes := #[] }])
  fields := #[{ name := "source", type := (.object "java/lang/String"), accessFlags := 18, slot := 0, constantValue := 0 }, { name := "target", type := (.object "java/lang/String"), accessFlags := 18, slot := 1, constantValue := 0 }, { name := "lengthKm", type := .double, accessFlags := 18, slot := 2, constantValue := 0 }]
  methods := #[k9m0, k9m1]
  instanceTypes := #[(.object "java/lang/String"), (.object "java/lang/String"), .double]
  staticTypes := #[]
  resolved := Array.replicate 70 none
  statics := none }

def pool10 : Array CpInfo := pool [(1, .class_ 2), (0, u "java/lang/Appendable"), (0, .class_ 4), (0, u "java/lang/Object")] 9

/-- java/lang/Appendable -/
def k10 : Class := { plain "java/lang/Appendable" (some 0) with
  accessFlags := 1537
  interfaces := #[]
  cf := some (fileOf pool10 1 #[] #[] 1537 3 #[] #[])
  fields := #[]
  methods := #[]
  instanceTypes := #[]
  staticTypes := #[]
  resolved := Array.replicate 14 none
  statics := none }

def pool11 : Array CpInfo := pool [(1, .class_ 2), (0, u "java/lang/String"), (0, .methodref 4 5), (0, .class_ 6), (0, .nameAndType 7 8), (0, u "java/lang/Object"), (0, u "<init>"), (0, u "()V"), (1, .class_ 12), (1, u "java/lang/AbstractStringBuilder"), (0, u "EMPTYVALUE"), (0, u "[B"), (0, .fieldref 10 16), (0, .nameAndType 17 14), (0, u "value"), (0, .fieldref 1 19), (0, .nameAndType 20 21), (0, u "COMPACT_STRINGS"), (0, u "Z"), (0, .fieldref 10 23), (0, .nameAndType 24 25), (0, u "coder"), (0, u "B"), (6, .methodref 1 33), (0, .nameAndType 34 35), (0, u "length"), (0, u "()I"), (4, .methodref 1 41), (0, .nameAndType 24 42), (0, u "()B"), (2, u "append"), (0, u "(Ljava/lang/String;)Ljava/lang/AbstractStringBuilder;"), (1, .class_ 49), (0, u "java/lang/CharSequence"), (19, u "(Ljava/lang/String;)V"), (5, u "maybeLatin1"), (3, .fieldref 10 80), (0, .nameAndType 81 82), (0, u "count"), (0, u "I"), (0, .methodref 10 84), (0, .nameAndType 85 86), (0, u "isLatin1"), (0, u "()Z"), (13, .methodref 10 101), (0, .nameAndType 102 103), (0, u "ensureCapacityInternal"), (0, u "(I)V"), (100, .methodref 10 205), (0, .nameAndType 206 207), (0, u "appendNull"), (0, u "()Ljava/lang/AbstractStringBuilder;"), (0, .methodref 10 209), (0, .nameAndType 210 211), (0, u "putStringAt"), (0, u "(ILjava/lang/String;)V"), (5, u "inflateIfNeededFor"), (2, .nameAndType 221 222), (0, u "getBytes"), (0, u "([BIB)V"), (174, .methodref 10 398), (0, .nameAndType 217 69), (0, .methodref 1 220), (3, u "()[B"), (40, .class_ 445), (0, u "java/lang/Appendable"), (106, u "getValue")] 56

def k11m0 : Method := { name := "<init>", desc := "()V", sig := { parameters := [], returnType := none }, accessFlags := 0, code := none }
def k11c1 : Code := { maxStack := 2, maxLocals := 2, code := jdk_68_method_2_code, exceptionTable := #[], attributes := #[] }
def k11m1 : Method := { name := "<init>", desc := "(I)V", sig := { parameters := [.int], returnType := none }, accessFlags := 0, code := some k11c1 }
def k11c2 : Code := { maxStack := 1, maxLocals := 1, code := jdk_68_method_6_code, exceptionTable := #[], attributes := #[] }
def k11m2 : Method := { name := "length", desc := "()I", sig := { parameters := [], returnType := some .int }, accessFlags := 1, code := some k11c2 }
def k11c3 : Code := { maxStack := 4, maxLocals := 3, code := jdk_68_method_9_code, exceptionTable := #[], attributes := #[] }
def k11m3 : Method := { name := "ensureCapacityInternal", desc := "(I)V", sig := { parameters := [.int], returnType := none }, accessFlags := 2, code := some k11c3 }
def k11c4 : Code := { maxStack := 3, maxLocals := 3, code := jdk_68_method_22_code, exceptionTable := #[], attributes := #[] }
def k11m4 : Method := { name := "append", desc := "(Ljava/lang/String;)Ljava/lang/AbstractStringBuilder;", sig := { parameters := [(.object "java/lang/String")], returnType := some (.object "java/lang/AbstractStringBuilder") }, accessFlags := 1, code := some k11c4 }
def k11c5 : Code := { maxStack := 6, maxLocals := 3, code := jdk_68_method_26_code, exceptionTable := #[], attributes := #[] }
def k11m5 : Method := { name := "appendNull", desc := "()Ljava/lang/AbstractStringBuilder;", sig := { parameters := [], returnType := some (.object "java/lang/AbstractStringBuilder") }, accessFlags := 2, code := some k11c5 }
def k11c6 : Code := { maxStack := 1, maxLocals := 1, code := jdk_68_method_64_code, exceptionTable := #[], attributes := #[] }
def k11m6 : Method := { name := "getValue", desc := "()[B", sig := { parameters := [], returnType := some (.array .byte) }, accessFlags := 16, code := some k11c6 }
def k11c7 : Code := { maxStack := 1, maxLocals := 1, code := jdk_68_method_68_code, exceptionTable := #[], attributes := #[] }
def k11m7 : Method := { name := "isLatin1", desc := "()Z", sig := { parameters := [], returnType := some .boolean }, accessFlags := 16, code := some k11c7 }
def k11c8 : Code := { maxStack := 2, maxLocals := 2, code := jdk_68_method_71_code, exceptionTable := #[], attributes := #[] }
def k11m8 : Method := { name := "inflateIfNeededFor", desc := "(Ljava/lang/String;)V", sig := { parameters := [(.object "java/lang/String")], returnType := none }, accessFlags := 2, code := some k11c8 }
def k11c9 : Code := { maxStack := 4, maxLocals := 3, code := jdk_68_method_73_code, exceptionTable := #[], attributes := #[] }
def k11m9 : Method := { name := "putStringAt", desc := "(ILjava/lang/String;)V", sig := { parameters := [.int, (.object "java/lang/String")], returnType := none }, accessFlags := 2, code := some k11c9 }
/-- java/lang/AbstractStringBuilder -/
def k11 : Class := { plain "java/lang/AbstractStringBuilder" (some 0) with
  accessFlags := 1056
  interfaces := #[10, 4]
  cf := some (fileOf pool11 10 #[] #[{ accessFlags := 0, nameIndex := 7, descriptorIndex := 8, attributes := #[] }, { accessFlags := 0, nameIndex := 7, descriptorIndex := 103, attributes := #[] }, { accessFlags := 1, nameIndex := 34, descriptorIndex := 35, attributes := #[] }, { accessFlags := 2, nameIndex := 102, descriptorIndex := 103, attributes := #[] }, { accessFlags := 1, nameIndex := 45, descriptorIndex := 46, attributes := #[] }, { accessFlags := 2, nameIndex := 206, descriptorIndex := 207, attributes := #[] }, { accessFlags := 16, nameIndex := 552, descriptorIndex := 403, attributes := #[] }, { accessFlags := 16, nameIndex := 85, descriptorIndex := 86, attributes := #[] }, { accessFlags := 2, nameIndex := 217, descriptorIndex := 69, attributes := #[] }, { accessFlags := 2, nameIndex := 210, descriptorIndex := 211, attributes := #[] }] 1056 4 #[444, 48] #[{ accessFlags := 0, nameIndex := 17, descriptorIndex := 14, attributes := #[] }, { accessFlags := 0, nameIndex := 24, descriptorIndex := 25, attributes := #[] }, { accessFlags := 0, nameIndex := 75, descriptorIndex := 21, attributes := #[] }, { accessFlags := 0, nameIndex := 81, descriptorIndex := 82, attributes := #[] }, { accessFlags := 26, nameIndex := 13, descriptorIndex := 14, attributes := #[] }])
  fields := #[{ name := "value", type := (.array .byte), accessFlags := 0, slot := 0, constantValue := 0 }, { name := "coder", type := .byte, accessFlags := 0, slot := 1, constantValue := 0 }, { name := "maybeLatin1", type := .boolean, accessFlags := 0, slot := 2, constantValue := 0 }, { name := "count", type := .int, accessFlags := 0, slot := 3, constantValue := 0 }, { name := "EMPTYVALUE", type := (.array .byte), accessFlags := 26, slot := 0, constantValue := 0 }]
  methods := #[k11m0, k11m1, k11m2, k11m3, k11m4, k11m5, k11m6, k11m7, k11m8, k11m9]
  instanceTypes := #[(.array .byte), .byte, .boolean, .int]
  staticTypes := #[(.array .byte)]
  resolved := Array.replicate 609 none
  statics := none }

def pool12 : Array CpInfo := pool [(1, .methodref 2 3), (0, .class_ 4), (0, .nameAndType 5 6), (0, u "java/lang/AbstractStringBuilder"), (0, u "<init>"), (0, u "(I)V"), (11, .class_ 20), (1, u "java/lang/String"), (3, .class_ 26), (1, u "java/lang/StringBuilder"), (0, u "append"), (0, u "(Ljava/lang/String;)Ljava/lang/StringBuilder;"), (0, .methodref 2 30), (0, .nameAndType 27 31), (0, u "(Ljava/lang/String;)Ljava/lang/AbstractStringBuilder;"), (105, .methodref 18 138), (0, .nameAndType 5 139), (0, u "(Ljava/lang/StringBuilder;)V"), (5, u "()V"), (10, u "()I"), (186, .methodref 2 344), (0, .nameAndType 345 156), (0, u "length"), (3, .class_ 350), (0, u "java/lang/Appendable"), (0, .class_ 352), (0, u "java/io/Serializable"), (0, .class_ 354), (0, u "java/lang/Comparable"), (0, .class_ 356), (0, u "java/lang/CharSequence"), (0, u "serialVersionUID"), (0, u "J"), (40, u "toString"), (0, u "()Ljava/lang/String;")] 21

def k12c0 : Code := { maxStack := 2, maxLocals := 1, code := jdk_67_method_1_code, exceptionTable := #[], attributes := #[] }
def k12m0 : Method := { name := "<init>", desc := "()V", sig := { parameters := [], returnType := none }, accessFlags := 1, code := some k12c0 }
def k12c1 : Code := { maxStack := 2, maxLocals := 2, code := jdk_67_method_7_code, exceptionTable := #[], attributes := #[] }
def k12m1 : Method := { name := "append", desc := "(Ljava/lang/String;)Ljava/lang/StringBuilder;", sig := { parameters := [(.object "java/lang/String")], returnType := some (.object "java/lang/StringBuilder") }, accessFlags := 1, code := some k12c1 }
def k12c2 : Code := { maxStack := 3, maxLocals := 1, code := jdk_67_method_42_code, exceptionTable := #[], attributes := #[] }
def k12m2 : Method := { name := "toString", desc := "()Ljava/lang/String;", sig := { parameters := [], returnType := some (.object "java/lang/String") }, accessFlags := 1, code := some k12c2 }
def k12c3 : Code := { maxStack := 1, maxLocals := 1, code := jdk_67_method_93_code, exceptionTable := #[], attributes := #[] }
def k12m3 : Method := { name := "length", desc := "()I", sig := { parameters := [], returnType := some .int }, accessFlags := 4161, code := some k12c3 }
/-- java/lang/StringBuilder -/
def k12 : Class := { plain "java/lang/StringBuilder" (some 11) with
  accessFlags := 49
  interfaces := #[10, 2, 3, 4]
  cf := some (fileOf pool12 24 #[] #[{ accessFlags := 1, nameIndex := 5, descriptorIndex := 145, attributes := #[] }, { accessFlags := 1, nameIndex := 27, descriptorIndex := 28, attributes := #[] }, { accessFlags := 1, nameIndex := 399, descriptorIndex := 400, attributes := #[] }, { accessFlags := 4161, nameIndex := 345, descriptorIndex := 156, attributes := #[] }] 49 2 #[349, 351, 353, 355] #[{ accessFlags := 24, nameIndex := 357, descriptorIndex := 358, attributes := #[] }])
  fields := #[{ name := "serialVersionUID", type := .long, accessFlags := 24, slot := 0, constantValue := 0 }]
  methods := #[k12m0, k12m1, k12m2, k12m3]
  instanceTypes := #[(.array .byte), .byte, .boolean, .int]
  staticTypes := #[.long]
  resolved := Array.replicate 422 none
  statics := none }

def pool13 : Array CpInfo := pool [(2, .class_ 4), (1, u "java/lang/Object"), (0, u "<init>"), (0, u "()V"), (1, .class_ 10), (1, u "java/lang/System"), (0, u "allowSecurityManager"), (0, u "I"), (16, u "cons"), (0, u "Ljava/io/Console;"), (77, .class_ 110), (1, u "java/lang/System$CallersHolder"), (43, u "initialErrStream"), (0, u "Ljava/io/PrintStream;"), (19, u "security"), (0, u "Ljava/lang/SecurityManager;"), (31, .class_ 209), (0, u "java/lang/System$1"), (7, u "props"), (0, u "Ljava/util/Properties;"), (2, u "lineSeparator"), (0, u "Ljava/lang/String;"), (96, .class_ 321), (1, u "java/lang/System$LoggerFinder"), (5, .class_ 328), (0, u "java/lang/System$Logger"), (67, u "err"), (2, u "out"), (91, u "notSupportedJnuEncoding"), (15, u "in"), (17, u "initialIn"), (0, u "Ljava/io/InputStream;"), (35, u "bootLayer"), (0, u "Ljava/lang/ModuleLayer;"), (99, .class_ 664), (0, u "java/lang/System$2"), (9, u "NEVER"), (2, u "MAYBE"), (49, u "arraycopy"), (0, u "(Ljava/lang/Object;ILjava/lang/Object;II)V"), (72, .class_ 802), (0, u "java/lang/System$Logger$Level")] 31

def k13m0 : Method := { name := "<init>", desc := "()V", sig := { parameters := [], returnType := none }, accessFlags := 2, code := none }
def k13m1 : Method := { name := "arraycopy", desc := "(Ljava/lang/Object;ILjava/lang/Object;II)V", sig := { parameters := [(.object "java/lang/Object"), .int, (.object "java/lang/Object"), .int, .int], returnType := none }, accessFlags := 265, code := none }
/-- java/lang/System -/
def k13 : Class := { plain "java/lang/System" (some 0) with
  accessFlags := 49
  interfaces := #[]
  cf := some (fileOf pool13 8 #[.nestMembers #[319, 327, 801, 108, 663, 208]] #[{ accessFlags := 2, nameIndex := 5, descriptorIndex := 6, attributes := #[] }, { accessFlags := 265, nameIndex := 727, descriptorIndex := 728, attributes := #[] }] 49 2 #[] #[{ accessFlags := 25, nameIndex := 507, descriptorIndex := 526, attributes := #[] }, { accessFlags := 25, nameIndex := 399, descriptorIndex := 155, attributes := #[] }, { accessFlags := 25, nameIndex := 396, descriptorIndex := 155, attributes := #[] }, { accessFlags := 10, nameIndex := 525, descriptorIndex := 526, attributes := #[] }, { accessFlags := 26, nameIndex := 674, descriptorIndex := 12, attributes := #[] }, { accessFlags := 26, nameIndex := 677, descriptorIndex := 12, attributes := #[] }, { accessFlags := 10, nameIndex := 11, descriptorIndex := 12, attributes := #[] }, { accessFlags := 74, nameIndex := 175, descriptorIndex := 176, attributes := #[] }, { accessFlags := 10, nameIndex := 491, descriptorIndex := 222, attributes := #[] }, { accessFlags := 74, nameIndex := 29, descriptorIndex := 30, attributes := #[] }, { accessFlags := 74, nameIndex := 154, descriptorIndex := 155, attributes := #[] }, { accessFlags := 10, nameIndex := 217, descriptorIndex := 218, attributes := #[] }, { accessFlags := 10, nameIndex := 221, descriptorIndex := 222, attributes := #[] }, { accessFlags := 8, nameIndex := 562, descriptorIndex := 563, attributes := #[] }])
  fields := #[{ name := "in", type := (.object "java/io/InputStream"), accessFlags := 25, slot := 0, constantValue := 0 }, { name := "out", type := (.object "java/io/PrintStream"), accessFlags := 25, slot := 1, constantValue := 0 }, { name := "err", type := (.object "java/io/PrintStream"), accessFlags := 25, slot := 2, constantValue := 0 }, { name := "initialIn", type := (.object "java/io/InputStream"), accessFlags := 10, slot := 3, constantValue := 0 }, { name := "NEVER", type := .int, accessFlags := 26, slot := 4, constantValue := 0 }, { name := "MAYBE", type := .int, accessFlags := 26, slot := 5, constantValue := 0 }, { name := "allowSecurityManager", type := .int, accessFlags := 10, slot := 6, constantValue := 0 }, { name := "security", type := (.object "java/lang/SecurityManager"), accessFlags := 74, slot := 7, constantValue := 0 }, { name := "notSupportedJnuEncoding", type := (.object "java/lang/String"), accessFlags := 10, slot := 8, constantValue := 0 }, { name := "cons", type := (.object "java/io/Console"), accessFlags := 74, slot := 9, constantValue := 0 }, { name := "initialErrStream", type := (.object "java/io/PrintStream"), accessFlags := 74, slot := 10, constantValue := 0 }, { name := "props", type := (.object "java/util/Properties"), accessFlags := 10, slot := 11, constantValue := 0 }, { name := "lineSeparator", type := (.object "java/lang/String"), accessFlags := 10, slot := 12, constantValue := 0 }, { name := "bootLayer", type := (.object "java/lang/ModuleLayer"), accessFlags := 8, slot := 13, constantValue := 0 }]
  methods := #[k13m0, k13m1]
  instanceTypes := #[]
  staticTypes := #[(.object "java/io/InputStream"), (.object "java/io/PrintStream"), (.object "java/io/PrintStream"), (.object "java/io/InputStream"), .int, .int, .int, (.object "java/lang/SecurityManager"), (.object "java/lang/String"), (.object "java/io/Console"), (.object "java/io/PrintStream"), (.object "java/util/Properties"), (.object "java/lang/String"), (.object "java/lang/ModuleLayer")]
  resolved := Array.replicate 834 none
  statics := none }

def pool14 : Array CpInfo := pool [(2, .class_ 4), (1, u "java/lang/Object"), (0, u "<init>"), (0, u "()V"), (7, .class_ 16), (1, u "java/util/Arrays"), (57, .class_ 76), (1, u "java/util/Arrays$NaturalOrder"), (36, .class_ 115), (1, u "java/util/Arrays$LegacyMergeSort"), (1, u "Z"), (21, u "copyOfRange"), (10, .methodref 151 152), (0, .class_ 153), (0, .nameAndType 154 155), (0, u "java/lang/System"), (0, u "arraycopy"), (0, u "(Ljava/lang/Object;ILjava/lang/Object;II)V"), (148, .methodref 305 306), (0, .class_ 307), (0, .nameAndType 308 309), (0, u "java/lang/Math"), (0, u "min"), (0, u "(II)I"), (29, .methodref 14 340), (0, .nameAndType 341 342), (0, u "copyOfRangeByte"), (0, u "([BII)[B"), (0, .methodref 14 344), (0, .nameAndType 345 346), (0, u "checkLength"), (0, u "(II)V"), (28, .class_ 376), (0, u "java/util/Arrays$ArrayList"), (68, u "$assertionsDisabled"), (269, u "MIN_ARRAY_SORT_GRAN"), (0, u "I"), (2, u "INSERTIONSORT_THRESHOLD"), (255, .class_ 976), (0, u "java/util/Arrays$ArrayItr")] 52

def k14m0 : Method := { name := "<init>", desc := "()V", sig := { parameters := [], returnType := none }, accessFlags := 2, code := none }
def k14c1 : Code := { maxStack := 4, maxLocals := 2, code := jdk_65_method_131_code, exceptionTable := #[], attributes := #[] }
def k14m1 : Method := { name := "checkLength", desc := "(II)V", sig := { parameters := [.int, .int], returnType := none }, accessFlags := 10, code := some k14c1 }
def k14c2 : Code := { maxStack := 3, maxLocals := 3, code := jdk_65_method_132_code, exceptionTable := #[], attributes := #[] }
def k14m2 : Method := { name := "copyOfRange", desc := "([BII)[B", sig := { parameters := [(.array .byte), .int, .int], returnType := some (.array .byte) }, accessFlags := 9, code := some k14c2 }
def k14c3 : Code := { maxStack := 6, maxLocals := 5, code := jdk_65_method_133_code, exceptionTable := #[], attributes := #[] }
def k14m3 : Method := { name := "copyOfRangeByte", desc := "([BII)[B", sig := { parameters := [(.array .byte), .int, .int], returnType := some (.array .byte) }, accessFlags := 10, code := some k14c3 }
/-- java/util/Arrays -/
def k14 : Class := { plain "java/util/Arrays" (some 0) with
  accessFlags := 49
  interfaces := #[]
  cf := some (fileOf pool14 14 #[.nestMembers #[975, 375, 113, 74]] #[{ accessFlags := 2, nameIndex := 5, descriptorIndex := 6, attributes := #[] }, { accessFlags := 10, nameIndex := 345, descriptorIndex := 346, attributes := #[] }, { accessFlags := 9, nameIndex := 139, descriptorIndex := 342, attributes := #[] }, { accessFlags := 10, nameIndex := 341, descriptorIndex := 342, attributes := #[] }] 49 2 #[] #[{ accessFlags := 26, nameIndex := 715, descriptorIndex := 716, attributes := #[] }, { accessFlags := 26, nameIndex := 719, descriptorIndex := 716, attributes := #[] }, { accessFlags := 4120, nameIndex := 445, descriptorIndex := 117, attributes := #[] }])
  fields := #[{ name := "MIN_ARRAY_SORT_GRAN", type := .int, accessFlags := 26, slot := 0, constantValue := 0 }, { name := "INSERTIONSORT_THRESHOLD", type := .int, accessFlags := 26, slot := 1, constantValue := 0 }, { name := "$assertionsDisabled", type := .boolean, accessFlags := 4120, slot := 2, constantValue := 0 }]
  methods := #[k14m0, k14m1, k14m2, k14m3]
  instanceTypes := #[]
  staticTypes := #[.int, .int, .boolean]
  resolved := Array.replicate 1029 none
  statics := none }

def pool15 : Array CpInfo := pool [(1, .class_ 2), (0, u "java/lang/Math"), (1, .class_ 6), (1, u "java/lang/Object"), (0, u "<init>"), (0, u "()V"), (89, .class_ 100), (1, u "java/lang/Math$RandomNumberGeneratorHolder"), (71, u "negativeZeroFloatBits"), (0, u "J"), (2, u "negativeZeroDoubleBits"), (24, u "min"), (43, u "$assertionsDisabled"), (0, u "Z"), (88, u "(II)I"), (2, u "twoToTheDoubleScaleDown"), (0, u "D"), (4, u "twoToTheDoubleScaleUp"), (9, u "E"), (3, u "PI"), (2, u "TAU"), (2, u "DEGREES_TO_RADIANS"), (0, u "RADIANS_TO_DEGREES")] 94

def k15m0 : Method := { name := "<init>", desc := "()V", sig := { parameters := [], returnType := none }, accessFlags := 2, code := none }
def k15c1 : Code := { maxStack := 2, maxLocals := 2, code := jdk_29_method_69_code, exceptionTable := #[], attributes := #[] }
def k15m1 : Method := { name := "min", desc := "(II)I", sig := { parameters := [.int, .int], returnType := some .int }, accessFlags := 9, code := some k15c1 }
/-- java/lang/Math -/
def k15 : Class := { plain "java/lang/Math" (some 0) with
  accessFlags := 49
  interfaces := #[]
  cf := some (fileOf pool15 1 #[.nestMembers #[98]] #[{ accessFlags := 2, nameIndex := 7, descriptorIndex := 8, attributes := #[] }, { accessFlags := 9, nameIndex := 201, descriptorIndex := 335, attributes := #[] }] 49 4 #[] #[{ accessFlags := 25, nameIndex := 354, descriptorIndex := 339, attributes := #[] }, { accessFlags := 25, nameIndex := 358, descriptorIndex := 339, attributes := #[] }, { accessFlags := 25, nameIndex := 361, descriptorIndex := 339, attributes := #[] }, { accessFlags := 26, nameIndex := 364, descriptorIndex := 339, attributes := #[] }, { accessFlags := 26, nameIndex := 365, descriptorIndex := 339, attributes := #[] }, { accessFlags := 26, nameIndex := 172, descriptorIndex := 173, attributes := #[] }, { accessFlags := 26, nameIndex := 176, descriptorIndex := 173, attributes := #[] }, { accessFlags := 8, nameIndex := 344, descriptorIndex := 339, attributes := #[] }, { accessFlags := 8, nameIndex := 338, descriptorIndex := 339, attributes := #[] }, { accessFlags := 4120, nameIndex := 245, descriptorIndex := 246, attributes := #[] }])
  fields := #[{ name := "E", type := .double, accessFlags := 25, slot := 0, constantValue := 0 }, { name := "PI", type := .double, accessFlags := 25, slot := 1, constantValue := 0 }, { name := "TAU", type := .double, accessFlags := 25, slot := 2, constantValue := 0 }, { name := "DEGREES_TO_RADIANS", type := .double, accessFlags := 26, slot := 3, constantValue := 0 }, { name := "RADIANS_TO_DEGREES", type := .double, accessFlags := 26, slot := 4, constantValue := 0 }, { name := "negativeZeroFloatBits", type := .long, accessFlags := 26, slot := 5, constantValue := 0 }, { name := "negativeZeroDoubleBits", type := .long, accessFlags := 26, slot := 6, constantValue := 0 }, { name := "twoToTheDoubleScaleUp", type := .double, accessFlags := 8, slot := 7, constantValue := 0 }, { name := "twoToTheDoubleScaleDown", type := .double, accessFlags := 8, slot := 8, constantValue := 0 }, { name := "$assertionsDisabled", type := .boolean, accessFlags := 4120, slot := 9, constantValue := 0 }]
  methods := #[k15m0, k15m1]
  instanceTypes := #[]
  staticTypes := #[.double, .double, .double, .double, .double, .long, .long, .double, .double, .boolean]
  resolved := Array.replicate 460 none
  statics := none }

def pool16 : Array CpInfo := pool [(1, .class_ 2), (0, u "java/lang/String"), (1, .class_ 6), (1, u "java/lang/Object"), (0, u "<init>"), (0, u "()V"), (0, .methodref 1 10), (0, .nameAndType 11 12), (0, u "checkIndex"), (0, u "(II)V"), (1, .class_ 16), (1, u "java/lang/StringLatin1"), (36, u "([BI)C"), (67, u "$assertionsDisabled"), (0, u "Z"), (98, .class_ 223), (1, u "java/lang/StringLatin1$LinesSpliterator"), (28, u "charAt"), (137, .class_ 391), (0, u "java/lang/StringLatin1$CharsSpliterator")] 3

def k16m0 : Method := { name := "<init>", desc := "()V", sig := { parameters := [], returnType := none }, accessFlags := 0, code := none }
def k16c1 : Code := { maxStack := 2, maxLocals := 2, code := jdk_43_method_2_code, exceptionTable := #[], attributes := #[] }
def k16m1 : Method := { name := "charAt", desc := "([BI)C", sig := { parameters := [(.array .byte), .int], returnType := some .char }, accessFlags := 9, code := some k16c1 }
/-- java/lang/StringLatin1 -/
def k16 : Class := { plain "java/lang/StringLatin1" (some 0) with
  accessFlags := 48
  interfaces := #[]
  cf := some (fileOf pool16 14 #[.nestMembers #[390, 221]] #[{ accessFlags := 0, nameIndex := 7, descriptorIndex := 8, attributes := #[] }, { accessFlags := 9, nameIndex := 252, descriptorIndex := 53, attributes := #[] }] 48 4 #[] #[{ accessFlags := 4120, nameIndex := 121, descriptorIndex := 122, attributes := #[] }])
  fields := #[{ name := "$assertionsDisabled", type := .boolean, accessFlags := 4120, slot := 0, constantValue := 0 }]
  methods := #[k16m0, k16m1]
  instanceTypes := #[]
  staticTypes := #[.boolean]
  resolved := Array.replicate 395 none
  statics := none }

def pool17 : Array CpInfo := pool [(2, .class_ 4), (1, u "java/lang/Object"), (0, u "<init>"), (0, u "()V"), (17, .class_ 26), (1, u "jdk/internal/util/Preconditions"), (6, u "checkIndex"), (21, .class_ 56), (0, u "jdk/internal/util/Preconditions$4"), (57, .class_ 115), (0, u "jdk/internal/util/Preconditions$1"), (7, u "SIOOBE_FORMATTER"), (0, u "Ljava/util/function/BiFunction;"), (0, .class_ 126), (0, u "jdk/internal/util/Preconditions$2"), (3, u "AIOOBE_FORMATTER"), (0, .class_ 132), (0, u "jdk/internal/util/Preconditions$3"), (3, u "IOOBE_FORMATTER"), (41, u "(IILjava/util/function/BiFunction;)I")] 15

def k17m0 : Method := { name := "<init>", desc := "()V", sig := { parameters := [], returnType := none }, accessFlags := 1, code := none }
def k17c1 : Code := { maxStack := 3, maxLocals := 3, code := jdk_41_method_11_code, exceptionTable := #[], attributes := #[] }
def k17m1 : Method := { name := "checkIndex", desc := "(IILjava/util/function/BiFunction;)I", sig := { parameters := [.int, .int, (.object "java/util/function/BiFunction")], returnType := some .int }, accessFlags := 9, code := some k17c1 }
/-- jdk/internal/util/Preconditions -/
def k17 : Class := { plain "jdk/internal/util/Preconditions" (some 0) with
  accessFlags := 33
  interfaces := #[]
  cf := some (fileOf pool17 24 #[.nestMembers #[55, 131, 125, 114]] #[{ accessFlags := 1, nameIndex := 5, descriptorIndex := 6, attributes := #[] }, { accessFlags := 9, nameIndex := 33, descriptorIndex := 178, attributes := #[] }] 33 2 #[] #[{ accessFlags := 25, nameIndex := 123, descriptorIndex := 124, attributes := #[] }, { accessFlags := 25, nameIndex := 130, descriptorIndex := 124, attributes := #[] }, { accessFlags := 25, nameIndex := 136, descriptorIndex := 124, attributes := #[] }])
  fields := #[{ name := "SIOOBE_FORMATTER", type := (.object "java/util/function/BiFunction"), accessFlags := 25, slot := 0, constantValue := 0 }, { name := "AIOOBE_FORMATTER", type := (.object "java/util/function/BiFunction"), accessFlags := 25, slot := 1, constantValue := 0 }, { name := "IOOBE_FORMATTER", type := (.object "java/util/function/BiFunction"), accessFlags := 25, slot := 2, constantValue := 0 }]
  methods := #[k17m0, k17m1]
  instanceTypes := #[]
  staticTypes := #[(.object "java/util/function/BiFunction"), (.object "java/util/function/BiFunction"), (.object "java/util/function/BiFunction")]
  resolved := Array.replicate 194 none
  statics := some 1 }

def pool18 : Array CpInfo := pool [(6, .class_ 8), (1, u "java/lang/Object"), (0, u "<init>"), (0, u "()V"), (1, .class_ 14), (1, u "java/lang/StringUTF16"), (31, u "$assertionsDisabled"), (0, u "Z"), (13, u "HI_BYTE_SHIFT"), (0, u "I"), (2, u "LO_BYTE_SHIFT"), (49, .methodref 12 116), (0, .nameAndType 117 118), (0, u "compress"), (0, u "([CI[BII)I"), (3, u "([CII)[B"), (138, u "coderFromArrayLen"), (0, u "([BI)B"), (106, .class_ 371), (1, u "java/lang/StringUTF16$LinesSpliterator"), (58, u "MAX_LENGTH"), (196, .class_ 628), (0, u "java/lang/StringUTF16$CodePointsSpliterator"), (0, .class_ 630), (0, u "java/lang/StringUTF16$CharsSpliterator")] 4

def k18m0 : Method := { name := "<init>", desc := "()V", sig := { parameters := [], returnType := none }, accessFlags := 0, code := none }
def k18c1 : Code := { maxStack := 2, maxLocals := 2, code := jdk_52_method_15_code, exceptionTable := #[], attributes := #[] }
def k18m1 : Method := { name := "coderFromArrayLen", desc := "([BI)B", sig := { parameters := [(.array .byte), .int], returnType := some .byte }, accessFlags := 8, code := some k18c1 }
def k18c2 : Code := { maxStack := 5, maxLocals := 6, code := jdk_52_method_16_code, exceptionTable := #[], attributes := #[] }
def k18m2 : Method := { name := "compress", desc := "([CII)[B", sig := { parameters := [(.array .char), .int, .int], returnType := some (.array .byte) }, accessFlags := 9, code := some k18c2 }
def k18c3 : Code := { maxStack := 3, maxLocals := 7, code := jdk_52_method_21_code, exceptionTable := #[], attributes := #[] }
def k18m3 : Method := { name := "compress", desc := "([CI[BII)I", sig := { parameters := [(.array .char), .int, (.array .byte), .int, .int], returnType := some .int }, accessFlags := 9, code := some k18c3 }
/-- java/lang/StringUTF16 -/
def k18 : Class := { plain "java/lang/StringUTF16" (some 0) with
  accessFlags := 48
  interfaces := #[]
  cf := some (fileOf pool18 12 #[.nestMembers #[627, 629, 369]] #[{ accessFlags := 0, nameIndex := 9, descriptorIndex := 10, attributes := #[] }, { accessFlags := 8, nameIndex := 261, descriptorIndex := 262, attributes := #[] }, { accessFlags := 9, nameIndex := 117, descriptorIndex := 122, attributes := #[] }, { accessFlags := 9, nameIndex := 117, descriptorIndex := 118, attributes := #[] }] 48 6 #[] #[{ accessFlags := 26, nameIndex := 61, descriptorIndex := 62, attributes := #[] }, { accessFlags := 26, nameIndex := 65, descriptorIndex := 62, attributes := #[] }, { accessFlags := 24, nameIndex := 430, descriptorIndex := 62, attributes := #[] }, { accessFlags := 4120, nameIndex := 46, descriptorIndex := 47, attributes := #[] }])
  fields := #[{ name := "HI_BYTE_SHIFT", type := .int, accessFlags := 26, slot := 0, constantValue := 0 }, { name := "LO_BYTE_SHIFT", type := .int, accessFlags := 26, slot := 1, constantValue := 0 }, { name := "MAX_LENGTH", type := .int, accessFlags := 24, slot := 2, constantValue := 0 }, { name := "$assertionsDisabled", type := .boolean, accessFlags := 4120, slot := 3, constantValue := 0 }]
  methods := #[k18m0, k18m1, k18m2, k18m3]
  instanceTypes := #[]
  staticTypes := #[.int, .int, .int, .boolean]
  resolved := Array.replicate 635 none
  statics := none }

def pool19 : Array CpInfo := pool [(9, u "<init>"), (6, .class_ 18), (1, u "java/lang/Object"), (0, u "()V"), (1, .class_ 23), (1, u "jdk/internal/util/ArraysSupport"), (0, u "LOG2_ARRAY_LONG_INDEX_SCALE"), (0, u "I"), (2, u "U"), (0, u "Ljdk/internal/misc/Unsafe;"), (8, u "BIG_ENDIAN"), (0, u "Z"), (8, u "LOG2_BYTE_BIT_SIZE"), (4, u "LOG2_ARRAY_INT_INDEX_SCALE"), (54, u "JLA"), (0, u "Ljdk/internal/access/JavaLangAccess;"), (11, u "LOG2_ARRAY_BOOLEAN_INDEX_SCALE"), (9, u "LOG2_ARRAY_BYTE_INDEX_SCALE"), (5, u "LOG2_ARRAY_CHAR_INDEX_SCALE"), (5, u "LOG2_ARRAY_SHORT_INDEX_SCALE"), (18, u "LOG2_ARRAY_FLOAT_INDEX_SCALE"), (24, u "LOG2_ARRAY_DOUBLE_INDEX_SCALE"), (89, u "T_BOOLEAN"), (2, u "T_CHAR"), (1, u "T_FLOAT"), (1, u "T_DOUBLE"), (1, u "T_BYTE"), (1, u "T_SHORT"), (1, u "T_INT"), (1, u "T_LONG"), (1, u "SOFT_MAX_ARRAY_LENGTH")] 83

def k19m0 : Method := { name := "<init>", desc := "()V", sig := { parameters := [], returnType := none }, accessFlags := 2, code := none }
/-- jdk/internal/util/ArraysSupport -/
def k19 : Class := { plain "jdk/internal/util/ArraysSupport" (some 0) with
  accessFlags := 33
  interfaces := #[]
  cf := some (fileOf pool19 21 #[] #[{ accessFlags := 2, nameIndex := 9, descriptorIndex := 19, attributes := #[] }] 33 16 #[] #[{ accessFlags := 24, nameIndex := 28, descriptorIndex := 29, attributes := #[] }, { accessFlags := 26, nameIndex := 38, descriptorIndex := 39, attributes := #[] }, { accessFlags := 25, nameIndex := 121, descriptorIndex := 25, attributes := #[] }, { accessFlags := 25, nameIndex := 131, descriptorIndex := 25, attributes := #[] }, { accessFlags := 25, nameIndex := 137, descriptorIndex := 25, attributes := #[] }, { accessFlags := 25, nameIndex := 143, descriptorIndex := 25, attributes := #[] }, { accessFlags := 25, nameIndex := 53, descriptorIndex := 25, attributes := #[] }, { accessFlags := 25, nameIndex := 24, descriptorIndex := 25, attributes := #[] }, { accessFlags := 25, nameIndex := 162, descriptorIndex := 25, attributes := #[] }, { accessFlags := 25, nameIndex := 187, descriptorIndex := 25, attributes := #[] }, { accessFlags := 26, nameIndex := 48, descriptorIndex := 25, attributes := #[] }, { accessFlags := 25, nameIndex := 277, descriptorIndex := 25, attributes := #[] }, { accessFlags := 25, nameIndex := 280, descriptorIndex := 25, attributes := #[] }, { accessFlags := 25, nameIndex := 282, descriptorIndex := 25, attributes := #[] }, { accessFlags := 25, nameIndex := 284, descriptorIndex := 25, attributes := #[] }, { accessFlags := 25, nameIndex := 286, descriptorIndex := 25, attributes := #[] }, { accessFlags := 25, nameIndex := 288, descriptorIndex := 25, attributes := #[] }, { accessFlags := 25, nameIndex := 290, descriptorIndex := 25, attributes := #[] }, { accessFlags := 25, nameIndex := 292, descriptorIndex := 25, attributes := #[] }, { accessFlags := 26, nameIndex := 108, descriptorIndex := 109, attributes := #[] }, { accessFlags := 25, nameIndex := 294, descriptorIndex := 25, attributes := #[] }])
  fields := #[{ name := "U", type := (.object "jdk/internal/misc/Unsafe"), accessFlags := 24, slot := 0, constantValue := 0 }, { name := "BIG_ENDIAN", type := .boolean, accessFlags := 26, slot := 1, constantValue := 0 }, { name := "LOG2_ARRAY_BOOLEAN_INDEX_SCALE", type := .int, accessFlags := 25, slot := 2, constantValue := 0 }, { name := "LOG2_ARRAY_BYTE_INDEX_SCALE", type := .int, accessFlags := 25, slot := 3, constantValue := 0 }, { name := "LOG2_ARRAY_CHAR_INDEX_SCALE", type := .int, accessFlags := 25, slot := 4, constantValue := 0 }, { name := "LOG2_ARRAY_SHORT_INDEX_SCALE", type := .int, accessFlags := 25, slot := 5, constantValue := 0 }, { name := "LOG2_ARRAY_INT_INDEX_SCALE", type := .int, accessFlags := 25, slot := 6, constantValue := 0 }, { name := "LOG2_ARRAY_LONG_INDEX_SCALE", type := .int, accessFlags := 25, slot := 7, constantValue := 0 }, { name := "LOG2_ARRAY_FLOAT_INDEX_SCALE", type := .int, accessFlags := 25, slot := 8, constantValue := 0 }, { name := "LOG2_ARRAY_DOUBLE_INDEX_SCALE", type := .int, accessFlags := 25, slot := 9, constantValue := 0 }, { name := "LOG2_BYTE_BIT_SIZE", type := .int, accessFlags := 26, slot := 10, constantValue := 0 }, { name := "T_BOOLEAN", type := .int, accessFlags := 25, slot := 11, constantValue := 0 }, { name := "T_CHAR", type := .int, accessFlags := 25, slot := 12, constantValue := 0 }, { name := "T_FLOAT", type := .int, accessFlags := 25, slot := 13, constantValue := 0 }, { name := "T_DOUBLE", type := .int, accessFlags := 25, slot := 14, constantValue := 0 }, { name := "T_BYTE", type := .int, accessFlags := 25, slot := 15, constantValue := 0 }, { name := "T_SHORT", type := .int, accessFlags := 25, slot := 16, constantValue := 0 }, { name := "T_INT", type := .int, accessFlags := 25, slot := 17, constantValue := 0 }, { name := "T_LONG", type := .int, accessFlags := 25, slot := 18, constantValue := 0 }, { name := "JLA", type := (.object "jdk/internal/access/JavaLangAccess"), accessFlags := 26, slot := 19, constantValue := 0 }, { name := "SOFT_MAX_ARRAY_LENGTH", type := .int, accessFlags := 25, slot := 20, constantValue := 0 }]
  methods := #[k19m0]
  instanceTypes := #[]
  staticTypes := #[(.object "jdk/internal/misc/Unsafe"), .boolean, .int, .int, .int, .int, .int, .int, .int, .int, .int, .int, .int, .int, .int, .int, .int, .int, .int, (.object "jdk/internal/access/JavaLangAccess"), .int]
  resolved := Array.replicate 378 none
  statics := none }

def pool20 : Array CpInfo := pool [(1, u "java/lang/Cloneable"), (0, .class_ 1), (0, u "java/lang/Object"), (0, .class_ 3)] 3

/-- java/lang/Cloneable -/
def k20 : Class := { plain "java/lang/Cloneable" (some 0) with
  accessFlags := 1537
  interfaces := #[]
  cf := some (fileOf pool20 2 #[] #[] 1537 4 #[] #[])
  fields := #[]
  methods := #[]
  instanceTypes := #[]
  staticTypes := #[]
  resolved := Array.replicate 8 none
  statics := none }

/-- the primitive byte -/
def k21 : Class := { plain "byte" none with kind := .primitive 'B', accessFlags := 0x411 }
/-- [B -/
def k22 : Class := { plain "[B" (some 0) with kind := .array 21 .byte, interfaces := #[20, 2], accessFlags := 1041 }

/-- the primitive char -/
def k23 : Class := { plain "char" none with kind := .primitive 'C', accessFlags := 0x411 }
/-- [C -/
def k24 : Class := { plain "[C" (some 0) with kind := .array 23 .char, interfaces := #[20, 2], accessFlags := 1041 }

/-- the primitive int -/
def k25 : Class := { plain "int" none with kind := .primitive 'I', accessFlags := 0x411 }
/-- [I -/
def k26 : Class := { plain "[I" (some 0) with kind := .array 25 .int, interfaces := #[20, 2], accessFlags := 1041 }

def heap : Heap := #[{ cls := 7, slots := #[.long 0, .int 1, .null, .int 0, .null, .int 0, .int 0], vm := .statics 7 },
  { cls := 17, slots := #[.null, .null, .null], vm := .statics 17 }]
def classes : Array Class := #[k0, k1, k2, k3, k4, k5, k6, k7, k8, k9, k10, k11, k12, k13, k14, k15, k16, k17, k18, k19, k20, k21, k22, k23, k24, k25, k26]
def interned : List (Array UInt16 × Addr) := []
def slotsUsed : Nat := 10
def theMethod : MethodId := ⟨1, 4⟩
def args0 : Array Value := #[.int 5, .int 5, .int 5]
def aboutOver (below : List Frame) : State where
  vm := { classes := classes, interned := interned.toArray }
  heap := heap
  slotsUsed := slotsUsed
  threads := #[{ frames := .invoking theMethod args0 :: below }]
def below0 : List Frame := [.native { method := ⟨0, 0⟩, args := #[] }]
def about1 : State := aboutOver below0
def p0 : Program := .bare "" "" ""
def e0 : Env := launch0.env 0 0 0
theorem w_frames : about1.frames = Frame.invoking theMethod args0 :: below0 := rfl
set_option maxRecDepth 65536 in
theorem w_args : argsFit about1.vm theMethod args0 = true := by decide +kernel
set_option maxRecDepth 65536 in
theorem w_heap : heapFits about1 = true := by decide +kernel
set_option maxRecDepth 65536 in
theorem w_runnable : about1.curStatus? = some .runnable := by decide +kernel
set_option maxRecDepth 65536 in
theorem w_alone : about1.alone = true := by decide +kernel
set_option maxRecDepth 65536 in
theorem w_named : about1.methodNamed? x = some theMethod := by decide +kernel
set_option maxRecDepth 65536 in
theorem w_hears : about1.hears theMethod below0 = true := by decide +kernel
set_option maxRecDepth 65536 in
theorem w_ripe : about1.ripe theMethod args0 below0 = true := by decide +kernel
theorem w_running : about1.status = .running := rfl
set_option maxRecDepth 65536 in
theorem w_room : about1.hasRoom e0.platform room_1 = true :=
  launch0.hasRoom_least _ room_1 (by decide +kernel) (by decide +kernel) (by decide +kernel) (by decide +kernel) (by decide +kernel) (by decide +kernel)
theorem allAtoms_all (ts : List Jvm.Cond) (a : Array Jvm.Value) (st : Jvm.State) : (allAtoms ts).before a st = ts.all (fun c => c.before a st) := by
  induction ts with
  | nil => rfl
  | cons c t ih =>
    show (Jvm.Cond.and c (allAtoms t)).before a st = _
    rw [Jvm.Cond.before_and, ih, List.all_cons]
def words1 : List Jvm.Cond := Jvm.Cond.code x code maxLocals ret :: tables_1
/-- a 'code' word, met by the world's own term for the bytes: nothing is compared byte by byte -/
theorem code_word {y : MethodName} {bytes : ByteArray} {mx : Nat} {rt : Option FieldType} {a : Array Value} {s : State} {m : MethodId} {meth : Method} {c : Code} (h1 : s.methodNamed? y = some m) (h2 : s.vm.method? m = some meth) (h3 : meth.code = some c) (h4 : c.code = bytes)
    (h5 : (c.maxLocals == mx && c.exceptionTable.isEmpty && decide (c.maxStack ≤ mostOperands) && decide (meth.sig.returnType = rt) && !meth.locks && decide (parseMethodDescriptor y.desc = some meth.sig)) = true) : (Jvm.Cond.code y bytes mx rt).before a s = true := by
  simp only [Bool.and_eq_true, beq_iff_eq, Bool.not_eq_true', decide_eq_true_eq] at h5
  obtain ⟨⟨⟨⟨⟨g1, g2⟩, g3⟩, g4⟩, g5⟩, g6⟩ := h5
  simp [Cond.before, Cond.holds, Cond.value, h1, h2, h3, h4, g1, g2, g3, g4, g5, g6]
def isCode : Jvm.Cond → Bool
  | .code _ _ _ _ => true
  | _ => false
theorem all_split {L : List Jvm.Cond} {P : Jvm.Cond → Bool} (h1 : L.all (fun c => isCode c || P c) = true) (h2 : ∀ c ∈ L.filter isCode, P c = true) : L.all P = true := by
  refine List.all_eq_true.mpr fun c hc => ?_
  have h := List.all_eq_true.mp h1 c hc
  rcases Bool.eq_false_or_eq_true (isCode c) with hi | hi
  · exact h2 c (List.mem_filter.mpr ⟨hc, hi⟩)
  · simpa [hi] using h
set_option maxRecDepth 65536 in
theorem w_c0 : (Jvm.Cond.code x code maxLocals ret).before args0 about1 = true := code_word (m := ⟨1, 4⟩) (meth := k1m4) (c := k1c4) (by decide +kernel) rfl rfl rfl (by decide +kernel)
set_option maxRecDepth 65536 in
theorem w_c1 : (Jvm.Cond.code ({ cls := "com/example/spectraloom/spectraloom/model/LinkToStringPinLaw", name := "mk", desc := "(I)Ljava/lang/String;" } : Jvm.MethodName) method_2_code (4 : Nat) (Option.some (Jvm.ClassFile.FieldType.object "java/lang/String"))).before args0 about1 = true := code_word (m := ⟨1, 1⟩) (meth := k1m1) (c := k1c1) (by decide +kernel) rfl rfl rfl (by decide +kernel)
set_option maxRecDepth 65536 in
theorem w_c2 : (Jvm.Cond.code ({ cls := "java/lang/String", name := "<init>", desc := "([C)V" } : Jvm.MethodName) jdk_42_method_3_code (2 : Nat) (Option.none : Option Jvm.ClassFile.FieldType)).before args0 about1 = true := code_word (m := ⟨7, 1⟩) (meth := k7m1) (c := k7c1) (by decide +kernel) rfl rfl rfl (by decide +kernel)
set_option maxRecDepth 65536 in
theorem w_c3 : (Jvm.Cond.code ({ cls := "java/lang/String", name := "<init>", desc := "([CIILjava/lang/Void;)V" } : Jvm.MethodName) jdk_42_method_149_code (6 : Nat) (Option.none : Option Jvm.ClassFile.FieldType)).before args0 about1 = true := code_word (m := ⟨7, 6⟩) (meth := k7m6) (c := k7c6) (by decide +kernel) rfl rfl rfl (by decide +kernel)
set_option maxRecDepth 65536 in
theorem w_c4 : (Jvm.Cond.code ({ cls := "java/lang/Object", name := "<init>", desc := "()V" } : Jvm.MethodName) object_method_1_code (1 : Nat) (Option.none : Option Jvm.ClassFile.FieldType)).before args0 about1 = true := code_word (m := ⟨0, 0⟩) (meth := k0m0) (c := k0c0) (by decide +kernel) rfl rfl rfl (by decide +kernel)
set_option maxRecDepth 65536 in
theorem w_c5 : (Jvm.Cond.code ({ cls := "com/example/spectraloom/spectraloom/model/Link", name := "<init>", desc := "(Ljava/lang/String;Ljava/lang/String;D)V" } : Jvm.MethodName) prog_19_method_1_code (5 : Nat) (Option.none : Option Jvm.ClassFile.FieldType)).before args0 about1 = true := code_word (m := ⟨9, 0⟩) (meth := k9m0) (c := k9c0) (by decide +kernel) rfl rfl rfl (by decide +kernel)
set_option maxRecDepth 65536 in
theorem w_c6 : (Jvm.Cond.code ({ cls := "java/lang/Record", name := "<init>", desc := "()V" } : Jvm.MethodName) jdk_30_method_1_code (1 : Nat) (Option.none : Option Jvm.ClassFile.FieldType)).before args0 about1 = true := code_word (m := ⟨8, 0⟩) (meth := k8m0) (c := k8c0) (by decide +kernel) rfl rfl rfl (by decide +kernel)
set_option maxRecDepth 65536 in
theorem w_c7 : (Jvm.Cond.code ({ cls := "com/example/spectraloom/spectraloom/model/Link", name := "toString", desc := "()Ljava/lang/String;" } : Jvm.MethodName) prog_19_method_2_code (1 : Nat) (Option.some (Jvm.ClassFile.FieldType.object "java/lang/String"))).before args0 about1 = true := code_word (m := ⟨9, 1⟩) (meth := k9m1) (c := k9c1) (by decide +kernel) rfl rfl rfl (by decide +kernel)
set_option maxRecDepth 65536 in
theorem w_c8 : (Jvm.Cond.code ({ cls := "java/lang/StringBuilder", name := "<init>", desc := "()V" } : Jvm.MethodName) jdk_67_method_1_code (1 : Nat) (Option.none : Option Jvm.ClassFile.FieldType)).before args0 about1 = true := code_word (m := ⟨12, 0⟩) (meth := k12m0) (c := k12c0) (by decide +kernel) rfl rfl rfl (by decide +kernel)
set_option maxRecDepth 65536 in
theorem w_c9 : (Jvm.Cond.code ({ cls := "java/lang/AbstractStringBuilder", name := "<init>", desc := "(I)V" } : Jvm.MethodName) jdk_68_method_2_code (2 : Nat) (Option.none : Option Jvm.ClassFile.FieldType)).before args0 about1 = true := code_word (m := ⟨11, 1⟩) (meth := k11m1) (c := k11c1) (by decide +kernel) rfl rfl rfl (by decide +kernel)
set_option maxRecDepth 65536 in
theorem w_c10 : (Jvm.Cond.code ({ cls := "java/lang/StringBuilder", name := "append", desc := "(Ljava/lang/String;)Ljava/lang/StringBuilder;" } : Jvm.MethodName) jdk_67_method_7_code (2 : Nat) (Option.some (Jvm.ClassFile.FieldType.object "java/lang/StringBuilder"))).before args0 about1 = true := code_word (m := ⟨12, 1⟩) (meth := k12m1) (c := k12c1) (by decide +kernel) rfl rfl rfl (by decide +kernel)
set_option maxRecDepth 65536 in
theorem w_c11 : (Jvm.Cond.code ({ cls := "java/lang/AbstractStringBuilder", name := "append", desc := "(Ljava/lang/String;)Ljava/lang/AbstractStringBuilder;" } : Jvm.MethodName) jdk_68_method_22_code (3 : Nat) (Option.some (Jvm.ClassFile.FieldType.object "java/lang/AbstractStringBuilder"))).before args0 about1 = true := code_word (m := ⟨11, 4⟩) (meth := k11m4) (c := k11c4) (by decide +kernel) rfl rfl rfl (by decide +kernel)
set_option maxRecDepth 65536 in
theorem w_c12 : (Jvm.Cond.code ({ cls := "java/lang/String", name := "length", desc := "()I" } : Jvm.MethodName) jdk_42_method_54_code (1 : Nat) (Option.some Jvm.ClassFile.FieldType.int)).before args0 about1 = true := code_word (m := ⟨7, 3⟩) (meth := k7m3) (c := k7c3) (by decide +kernel) rfl rfl rfl (by decide +kernel)
set_option maxRecDepth 65536 in
theorem w_c13 : (Jvm.Cond.code ({ cls := "java/lang/String", name := "coder", desc := "()B" } : Jvm.MethodName) jdk_42_method_152_code (1 : Nat) (Option.some Jvm.ClassFile.FieldType.byte)).before args0 about1 = true := code_word (m := ⟨7, 8⟩) (meth := k7m8) (c := k7c8) (by decide +kernel) rfl rfl rfl (by decide +kernel)
set_option maxRecDepth 65536 in
theorem w_c14 : (Jvm.Cond.code ({ cls := "java/lang/AbstractStringBuilder", name := "ensureCapacityInternal", desc := "(I)V" } : Jvm.MethodName) jdk_68_method_9_code (3 : Nat) (Option.none : Option Jvm.ClassFile.FieldType)).before args0 about1 = true := code_word (m := ⟨11, 3⟩) (meth := k11m3) (c := k11c3) (by decide +kernel) rfl rfl rfl (by decide +kernel)
set_option maxRecDepth 65536 in
theorem w_c15 : (Jvm.Cond.code ({ cls := "java/lang/AbstractStringBuilder", name := "putStringAt", desc := "(ILjava/lang/String;)V" } : Jvm.MethodName) jdk_68_method_73_code (3 : Nat) (Option.none : Option Jvm.ClassFile.FieldType)).before args0 about1 = true := code_word (m := ⟨11, 9⟩) (meth := k11m9) (c := k11c9) (by decide +kernel) rfl rfl rfl (by decide +kernel)
set_option maxRecDepth 65536 in
theorem w_c16 : (Jvm.Cond.code ({ cls := "java/lang/AbstractStringBuilder", name := "inflateIfNeededFor", desc := "(Ljava/lang/String;)V" } : Jvm.MethodName) jdk_68_method_71_code (2 : Nat) (Option.none : Option Jvm.ClassFile.FieldType)).before args0 about1 = true := code_word (m := ⟨11, 8⟩) (meth := k11m8) (c := k11c8) (by decide +kernel) rfl rfl rfl (by decide +kernel)
set_option maxRecDepth 65536 in
theorem w_c17 : (Jvm.Cond.code ({ cls := "java/lang/String", name := "getBytes", desc := "([BIB)V" } : Jvm.MethodName) jdk_42_method_147_code (4 : Nat) (Option.none : Option Jvm.ClassFile.FieldType)).before args0 about1 = true := code_word (m := ⟨7, 5⟩) (meth := k7m5) (c := k7c5) (by decide +kernel) rfl rfl rfl (by decide +kernel)
set_option maxRecDepth 65536 in
theorem w_c18 : (Jvm.Cond.code ({ cls := "java/lang/StringBuilder", name := "toString", desc := "()Ljava/lang/String;" } : Jvm.MethodName) jdk_67_method_42_code (1 : Nat) (Option.some (Jvm.ClassFile.FieldType.object "java/lang/String"))).before args0 about1 = true := code_word (m := ⟨12, 2⟩) (meth := k12m2) (c := k12c2) (by decide +kernel) rfl rfl rfl (by decide +kernel)
set_option maxRecDepth 65536 in
theorem w_c19 : (Jvm.Cond.code ({ cls := "java/lang/String", name := "<init>", desc := "(Ljava/lang/StringBuilder;)V" } : Jvm.MethodName) jdk_42_method_53_code (2 : Nat) (Option.none : Option Jvm.ClassFile.FieldType)).before args0 about1 = true := code_word (m := ⟨7, 2⟩) (meth := k7m2) (c := k7c2) (by decide +kernel) rfl rfl rfl (by decide +kernel)
set_option maxRecDepth 65536 in
theorem w_c20 : (Jvm.Cond.code ({ cls := "java/lang/String", name := "<init>", desc := "(Ljava/lang/AbstractStringBuilder;Ljava/lang/Void;)V" } : Jvm.MethodName) jdk_42_method_150_code (5 : Nat) (Option.none : Option Jvm.ClassFile.FieldType)).before args0 about1 = true := code_word (m := ⟨7, 7⟩) (meth := k7m7) (c := k7c7) (by decide +kernel) rfl rfl rfl (by decide +kernel)
set_option maxRecDepth 65536 in
theorem w_c21 : (Jvm.Cond.code ({ cls := "java/lang/AbstractStringBuilder", name := "getValue", desc := "()[B" } : Jvm.MethodName) jdk_68_method_64_code (1 : Nat) (Option.some (Jvm.ClassFile.FieldType.array Jvm.ClassFile.FieldType.byte))).before args0 about1 = true := code_word (m := ⟨11, 6⟩) (meth := k11m6) (c := k11c6) (by decide +kernel) rfl rfl rfl (by decide +kernel)
set_option maxRecDepth 65536 in
theorem w_c22 : (Jvm.Cond.code ({ cls := "java/lang/StringBuilder", name := "length", desc := "()I" } : Jvm.MethodName) jdk_67_method_93_code (1 : Nat) (Option.some Jvm.ClassFile.FieldType.int)).before args0 about1 = true := code_word (m := ⟨12, 3⟩) (meth := k12m3) (c := k12c3) (by decide +kernel) rfl rfl rfl (by decide +kernel)
set_option maxRecDepth 65536 in
theorem w_c23 : (Jvm.Cond.code ({ cls := "java/lang/AbstractStringBuilder", name := "length", desc := "()I" } : Jvm.MethodName) jdk_68_method_6_code (1 : Nat) (Option.some Jvm.ClassFile.FieldType.int)).before args0 about1 = true := code_word (m := ⟨11, 2⟩) (meth := k11m2) (c := k11c2) (by decide +kernel) rfl rfl rfl (by decide +kernel)
set_option maxRecDepth 65536 in
theorem w_c24 : (Jvm.Cond.code ({ cls := "java/lang/AbstractStringBuilder", name := "isLatin1", desc := "()Z" } : Jvm.MethodName) jdk_68_method_68_code (1 : Nat) (Option.some Jvm.ClassFile.FieldType.boolean)).before args0 about1 = true := code_word (m := ⟨11, 7⟩) (meth := k11m7) (c := k11c7) (by decide +kernel) rfl rfl rfl (by decide +kernel)
set_option maxRecDepth 65536 in
theorem w_c25 : (Jvm.Cond.code ({ cls := "java/util/Arrays", name := "copyOfRange", desc := "([BII)[B" } : Jvm.MethodName) jdk_65_method_132_code (3 : Nat) (Option.some (Jvm.ClassFile.FieldType.array Jvm.ClassFile.FieldType.byte))).before args0 about1 = true := code_word (m := ⟨14, 2⟩) (meth := k14m2) (c := k14c2) (by decide +kernel) rfl rfl rfl (by decide +kernel)
set_option maxRecDepth 65536 in
theorem w_c26 : (Jvm.Cond.code ({ cls := "java/util/Arrays", name := "copyOfRangeByte", desc := "([BII)[B" } : Jvm.MethodName) jdk_65_method_133_code (5 : Nat) (Option.some (Jvm.ClassFile.FieldType.array Jvm.ClassFile.FieldType.byte))).before args0 about1 = true := code_word (m := ⟨14, 3⟩) (meth := k14m3) (c := k14c3) (by decide +kernel) rfl rfl rfl (by decide +kernel)
set_option maxRecDepth 65536 in
theorem w_c27 : (Jvm.Cond.code ({ cls := "java/util/Arrays", name := "checkLength", desc := "(II)V" } : Jvm.MethodName) jdk_65_method_131_code (2 : Nat) (Option.none : Option Jvm.ClassFile.FieldType)).before args0 about1 = true := code_word (m := ⟨14, 1⟩) (meth := k14m1) (c := k14c1) (by decide +kernel) rfl rfl rfl (by decide +kernel)
set_option maxRecDepth 65536 in
theorem w_c28 : (Jvm.Cond.code ({ cls := "java/lang/Math", name := "min", desc := "(II)I" } : Jvm.MethodName) jdk_29_method_69_code (2 : Nat) (Option.some Jvm.ClassFile.FieldType.int)).before args0 about1 = true := code_word (m := ⟨15, 1⟩) (meth := k15m1) (c := k15c1) (by decide +kernel) rfl rfl rfl (by decide +kernel)
set_option maxRecDepth 65536 in
theorem w_c29 : (Jvm.Cond.code ({ cls := "com/example/spectraloom/spectraloom/model/LinkToStringPinLaw", name := "shown", desc := "(Ljava/lang/String;)Ljava/lang/String;" } : Jvm.MethodName) method_3_code (1 : Nat) (Option.some (Jvm.ClassFile.FieldType.object "java/lang/String"))).before args0 about1 = true := code_word (m := ⟨1, 2⟩) (meth := k1m2) (c := k1c2) (by decide +kernel) rfl rfl rfl (by decide +kernel)
set_option maxRecDepth 65536 in
theorem w_c30 : (Jvm.Cond.code ({ cls := "com/example/spectraloom/spectraloom/model/LinkToStringPinLaw", name := "at", desc := "(Ljava/lang/String;Ljava/lang/String;Ljava/lang/String;I)Z" } : Jvm.MethodName) method_4_code (5 : Nat) (Option.some Jvm.ClassFile.FieldType.boolean)).before args0 about1 = true := code_word (m := ⟨1, 3⟩) (meth := k1m3) (c := k1c3) (by decide +kernel) rfl rfl rfl (by decide +kernel)
set_option maxRecDepth 65536 in
theorem w_c31 : (Jvm.Cond.code ({ cls := "java/lang/String", name := "charAt", desc := "(I)C" } : Jvm.MethodName) jdk_42_method_56_code (2 : Nat) (Option.some Jvm.ClassFile.FieldType.char)).before args0 about1 = true := code_word (m := ⟨7, 4⟩) (meth := k7m4) (c := k7c4) (by decide +kernel) rfl rfl rfl (by decide +kernel)
set_option maxRecDepth 65536 in
theorem w_c32 : (Jvm.Cond.code ({ cls := "java/lang/String", name := "isLatin1", desc := "()Z" } : Jvm.MethodName) jdk_42_method_154_code (1 : Nat) (Option.some Jvm.ClassFile.FieldType.boolean)).before args0 about1 = true := code_word (m := ⟨7, 9⟩) (meth := k7m9) (c := k7c9) (by decide +kernel) rfl rfl rfl (by decide +kernel)
set_option maxRecDepth 65536 in
theorem w_c33 : (Jvm.Cond.code ({ cls := "java/lang/StringLatin1", name := "charAt", desc := "([BI)C" } : Jvm.MethodName) jdk_43_method_2_code (2 : Nat) (Option.some Jvm.ClassFile.FieldType.char)).before args0 about1 = true := code_word (m := ⟨16, 1⟩) (meth := k16m1) (c := k16c1) (by decide +kernel) rfl rfl rfl (by decide +kernel)
set_option maxRecDepth 65536 in
theorem w_c34 : (Jvm.Cond.code ({ cls := "java/lang/String", name := "checkIndex", desc := "(II)V" } : Jvm.MethodName) jdk_42_method_155_code (2 : Nat) (Option.none : Option Jvm.ClassFile.FieldType)).before args0 about1 = true := code_word (m := ⟨7, 10⟩) (meth := k7m10) (c := k7c10) (by decide +kernel) rfl rfl rfl (by decide +kernel)
set_option maxRecDepth 65536 in
theorem w_c35 : (Jvm.Cond.code ({ cls := "jdk/internal/util/Preconditions", name := "checkIndex", desc := "(IILjava/util/function/BiFunction;)I" } : Jvm.MethodName) jdk_41_method_11_code (3 : Nat) (Option.some Jvm.ClassFile.FieldType.int)).before args0 about1 = true := code_word (m := ⟨17, 1⟩) (meth := k17m1) (c := k17c1) (by decide +kernel) rfl rfl rfl (by decide +kernel)
set_option maxRecDepth 65536 in
theorem w_c36 : (Jvm.Cond.code ({ cls := "java/lang/StringUTF16", name := "compress", desc := "([CII)[B" } : Jvm.MethodName) jdk_52_method_16_code (6 : Nat) (Option.some (Jvm.ClassFile.FieldType.array Jvm.ClassFile.FieldType.byte))).before args0 about1 = true := code_word (m := ⟨18, 2⟩) (meth := k18m2) (c := k18c2) (by decide +kernel) rfl rfl rfl (by decide +kernel)
set_option maxRecDepth 65536 in
theorem w_c37 : (Jvm.Cond.code ({ cls := "java/lang/StringUTF16", name := "compress", desc := "([CI[BII)I" } : Jvm.MethodName) jdk_52_method_21_code (7 : Nat) (Option.some Jvm.ClassFile.FieldType.int)).before args0 about1 = true := code_word (m := ⟨18, 3⟩) (meth := k18m3) (c := k18c3) (by decide +kernel) rfl rfl rfl (by decide +kernel)
set_option maxRecDepth 65536 in
theorem w_c38 : (Jvm.Cond.code ({ cls := "java/lang/StringUTF16", name := "coderFromArrayLen", desc := "([BI)B" } : Jvm.MethodName) jdk_52_method_15_code (2 : Nat) (Option.some Jvm.ClassFile.FieldType.byte)).before args0 about1 = true := code_word (m := ⟨18, 1⟩) (meth := k18m1) (c := k18c1) (by decide +kernel) rfl rfl rfl (by decide +kernel)
set_option maxRecDepth 65536 in
theorem w_c39 : (Jvm.Cond.code ({ cls := "java/lang/AbstractStringBuilder", name := "appendNull", desc := "()Ljava/lang/AbstractStringBuilder;" } : Jvm.MethodName) jdk_68_method_26_code (3 : Nat) (Option.some (Jvm.ClassFile.FieldType.object "java/lang/AbstractStringBuilder"))).before args0 about1 = true := code_word (m := ⟨11, 5⟩) (meth := k11m5) (c := k11c5) (by decide +kernel) rfl rfl rfl (by decide +kernel)
def codes1 : List Jvm.Cond := [Jvm.Cond.code x code maxLocals ret, Jvm.Cond.code ({ cls := "com/example/spectraloom/spectraloom/model/LinkToStringPinLaw", name := "mk", desc := "(I)Ljava/lang/String;" } : Jvm.MethodName) method_2_code (4 : Nat) (Option.some (Jvm.ClassFile.FieldType.object "java/lang/String")), Jvm.Cond.code ({ cls := "java/lang/String", name := "<init>", desc := "([C)V" } : Jvm.MethodName) jdk_42_method_3_code (2 : Nat) (Option.none : Option Jvm.ClassFile.FieldType), Jvm.Cond.code ({ cls := "java/lang/String", name := "<init>", desc := "([CIILjava/lang/Void;)V" } : Jvm.MethodName) jdk_42_method_149_code (6 : Nat) (Option.none : Option Jvm.ClassFile.FieldType), Jvm.Cond.code ({ cls := "java/lang/Object", name := "<init>", desc := "()V" } : Jvm.MethodName) object_method_1_code (1 : Nat) (Option.none : Option Jvm.ClassFile.FieldType), Jvm.Cond.code ({ cls := "com/example/spectraloom/spectraloom/model/Link", name := "<init>", desc := "(Ljava/lang/String;Ljava/lang/String;D)V" } : Jvm.MethodName) prog_19_method_1_code (5 : Nat) (Option.none : Option Jvm.ClassFile.FieldType), Jvm.Cond.code ({ cls := "java/lang/Record", name := "<init>", desc := "()V" } : Jvm.MethodName) jdk_30_method_1_code (1 : Nat) (Option.none : Option Jvm.ClassFile.FieldType), Jvm.Cond.code ({ cls := "com/example/spectraloom/spectraloom/model/Link", name := "toString", desc := "()Ljava/lang/String;" } : Jvm.MethodName) prog_19_method_2_code (1 : Nat) (Option.some (Jvm.ClassFile.FieldType.object "java/lang/String")), Jvm.Cond.code ({ cls := "java/lang/StringBuilder", name := "<init>", desc := "()V" } : Jvm.MethodName) jdk_67_method_1_code (1 : Nat) (Option.none : Option Jvm.ClassFile.FieldType), Jvm.Cond.code ({ cls := "java/lang/AbstractStringBuilder", name := "<init>", desc := "(I)V" } : Jvm.MethodName) jdk_68_method_2_code (2 : Nat) (Option.none : Option Jvm.ClassFile.FieldType), Jvm.Cond.code ({ cls := "java/lang/StringBuilder", name := "append", desc := "(Ljava/lang/String;)Ljava/lang/StringBuilder;" } : Jvm.MethodName) jdk_67_method_7_code (2 : Nat) (Option.some (Jvm.ClassFile.FieldType.object "java/lang/StringBuilder")), Jvm.Cond.code ({ cls := "java/lang/AbstractStringBuilder", name := "append", desc := "(Ljava/lang/String;)Ljava/lang/AbstractStringBuilder;" } : Jvm.MethodName) jdk_68_method_22_code (3 : Nat) (Option.some (Jvm.ClassFile.FieldType.object "java/lang/AbstractStringBuilder")), Jvm.Cond.code ({ cls := "java/lang/String", name := "length", desc := "()I" } : Jvm.MethodName) jdk_42_method_54_code (1 : Nat) (Option.some Jvm.ClassFile.FieldType.int), Jvm.Cond.code ({ cls := "java/lang/String", name := "coder", desc := "()B" } : Jvm.MethodName) jdk_42_method_152_code (1 : Nat) (Option.some Jvm.ClassFile.FieldType.byte), Jvm.Cond.code ({ cls := "java/lang/AbstractStringBuilder", name := "ensureCapacityInternal", desc := "(I)V" } : Jvm.MethodName) jdk_68_method_9_code (3 : Nat) (Option.none : Option Jvm.ClassFile.FieldType), Jvm.Cond.code ({ cls := "java/lang/AbstractStringBuilder", name := "putStringAt", desc := "(ILjava/lang/String;)V" } : Jvm.MethodName) jdk_68_method_73_code (3 : Nat) (Option.none : Option Jvm.ClassFile.FieldType), Jvm.Cond.code ({ cls := "java/lang/AbstractStringBuilder", name := "inflateIfNeededFor", desc := "(Ljava/lang/String;)V" } : Jvm.MethodName) jdk_68_method_71_code (2 : Nat) (Option.none : Option Jvm.ClassFile.FieldType), Jvm.Cond.code ({ cls := "java/lang/String", name := "getBytes", desc := "([BIB)V" } : Jvm.MethodName) jdk_42_method_147_code (4 : Nat) (Option.none : Option Jvm.ClassFile.FieldType), Jvm.Cond.code ({ cls := "java/lang/StringBuilder", name := "toString", desc := "()Ljava/lang/String;" } : Jvm.MethodName) jdk_67_method_42_code (1 : Nat) (Option.some (Jvm.ClassFile.FieldType.object "java/lang/String")), Jvm.Cond.code ({ cls := "java/lang/String", name := "<init>", desc := "(Ljava/lang/StringBuilder;)V" } : Jvm.MethodName) jdk_42_method_53_code (2 : Nat) (Option.none : Option Jvm.ClassFile.FieldType), Jvm.Cond.code ({ cls := "java/lang/String", name := "<init>", desc := "(Ljava/lang/AbstractStringBuilder;Ljava/lang/Void;)V" } : Jvm.MethodName) jdk_42_method_150_code (5 : Nat) (Option.none : Option Jvm.ClassFile.FieldType), Jvm.Cond.code ({ cls := "java/lang/AbstractStringBuilder", name := "getValue", desc := "()[B" } : Jvm.MethodName) jdk_68_method_64_code (1 : Nat) (Option.some (Jvm.ClassFile.FieldType.array Jvm.ClassFile.FieldType.byte)), Jvm.Cond.code ({ cls := "java/lang/StringBuilder", name := "length", desc := "()I" } : Jvm.MethodName) jdk_67_method_93_code (1 : Nat) (Option.some Jvm.ClassFile.FieldType.int), Jvm.Cond.code ({ cls := "java/lang/AbstractStringBuilder", name := "length", desc := "()I" } : Jvm.MethodName) jdk_68_method_6_code (1 : Nat) (Option.some Jvm.ClassFile.FieldType.int), Jvm.Cond.code ({ cls := "java/lang/AbstractStringBuilder", name := "isLatin1", desc := "()Z" } : Jvm.MethodName) jdk_68_method_68_code (1 : Nat) (Option.some Jvm.ClassFile.FieldType.boolean), Jvm.Cond.code ({ cls := "java/util/Arrays", name := "copyOfRange", desc := "([BII)[B" } : Jvm.MethodName) jdk_65_method_132_code (3 : Nat) (Option.some (Jvm.ClassFile.FieldType.array Jvm.ClassFile.FieldType.byte)), Jvm.Cond.code ({ cls := "java/util/Arrays", name := "copyOfRangeByte", desc := "([BII)[B" } : Jvm.MethodName) jdk_65_method_133_code (5 : Nat) (Option.some (Jvm.ClassFile.FieldType.array Jvm.ClassFile.FieldType.byte)), Jvm.Cond.code ({ cls := "java/util/Arrays", name := "checkLength", desc := "(II)V" } : Jvm.MethodName) jdk_65_method_131_code (2 : Nat) (Option.none : Option Jvm.ClassFile.FieldType), Jvm.Cond.code ({ cls := "java/lang/Math", name := "min", desc := "(II)I" } : Jvm.MethodName) jdk_29_method_69_code (2 : Nat) (Option.some Jvm.ClassFile.FieldType.int), Jvm.Cond.code ({ cls := "com/example/spectraloom/spectraloom/model/LinkToStringPinLaw", name := "shown", desc := "(Ljava/lang/String;)Ljava/lang/String;" } : Jvm.MethodName) method_3_code (1 : Nat) (Option.some (Jvm.ClassFile.FieldType.object "java/lang/String")), Jvm.Cond.code ({ cls := "com/example/spectraloom/spectraloom/model/LinkToStringPinLaw", name := "at", desc := "(Ljava/lang/String;Ljava/lang/String;Ljava/lang/String;I)Z" } : Jvm.MethodName) method_4_code (5 : Nat) (Option.some Jvm.ClassFile.FieldType.boolean), Jvm.Cond.code ({ cls := "java/lang/String", name := "charAt", desc := "(I)C" } : Jvm.MethodName) jdk_42_method_56_code (2 : Nat) (Option.some Jvm.ClassFile.FieldType.char), Jvm.Cond.code ({ cls := "java/lang/String", name := "isLatin1", desc := "()Z" } : Jvm.MethodName) jdk_42_method_154_code (1 : Nat) (Option.some Jvm.ClassFile.FieldType.boolean), Jvm.Cond.code ({ cls := "java/lang/StringLatin1", name := "charAt", desc := "([BI)C" } : Jvm.MethodName) jdk_43_method_2_code (2 : Nat) (Option.some Jvm.ClassFile.FieldType.char), Jvm.Cond.code ({ cls := "java/lang/String", name := "checkIndex", desc := "(II)V" } : Jvm.MethodName) jdk_42_method_155_code (2 : Nat) (Option.none : Option Jvm.ClassFile.FieldType), Jvm.Cond.code ({ cls := "jdk/internal/util/Preconditions", name := "checkIndex", desc := "(IILjava/util/function/BiFunction;)I" } : Jvm.MethodName) jdk_41_method_11_code (3 : Nat) (Option.some Jvm.ClassFile.FieldType.int), Jvm.Cond.code ({ cls := "java/lang/StringUTF16", name := "compress", desc := "([CII)[B" } : Jvm.MethodName) jdk_52_method_16_code (6 : Nat) (Option.some (Jvm.ClassFile.FieldType.array Jvm.ClassFile.FieldType.byte)), Jvm.Cond.code ({ cls := "java/lang/StringUTF16", name := "compress", desc := "([CI[BII)I" } : Jvm.MethodName) jdk_52_method_21_code (7 : Nat) (Option.some Jvm.ClassFile.FieldType.int), Jvm.Cond.code ({ cls := "java/lang/StringUTF16", name := "coderFromArrayLen", desc := "([BI)B" } : Jvm.MethodName) jdk_52_method_15_code (2 : Nat) (Option.some Jvm.ClassFile.FieldType.byte), Jvm.Cond.code ({ cls := "java/lang/AbstractStringBuilder", name := "appendNull", desc := "()Ljava/lang/AbstractStringBuilder;" } : Jvm.MethodName) jdk_68_method_26_code (3 : Nat) (Option.some (Jvm.ClassFile.FieldType.object "java/lang/AbstractStringBuilder"))]
set_option maxRecDepth 65536 in
theorem codes_eq : words1.filter isCode = codes1 := rfl
theorem w_codes : ∀ c ∈ words1.filter isCode, c.before args0 about1 = true := by
  rw [codes_eq]
  intro c hc
  simp only [codes1, List.mem_cons, List.not_mem_nil, or_false] at hc
  rcases hc with rfl | rfl | rfl | rfl | rfl | rfl | rfl | rfl | rfl | rfl | rfl | rfl | rfl | rfl | rfl | rfl | rfl | rfl | rfl | rfl | rfl | rfl | rfl | rfl | rfl | rfl | rfl | rfl | rfl | rfl | rfl | rfl | rfl | rfl | rfl | rfl | rfl | rfl | rfl | rfl
  · exact w_c0
  · exact w_c1
  · exact w_c2
  · exact w_c3
  · exact w_c4
  · exact w_c5
  · exact w_c6
  · exact w_c7
  · exact w_c8
  · exact w_c9
  · exact w_c10
  · exact w_c11
  · exact w_c12
  · exact w_c13
  · exact w_c14
  · exact w_c15
  · exact w_c16
  · exact w_c17
  · exact w_c18
  · exact w_c19
  · exact w_c20
  · exact w_c21
  · exact w_c22
  · exact w_c23
  · exact w_c24
  · exact w_c25
  · exact w_c26
  · exact w_c27
  · exact w_c28
  · exact w_c29
  · exact w_c30
  · exact w_c31
  · exact w_c32
  · exact w_c33
  · exact w_c34
  · exact w_c35
  · exact w_c36
  · exact w_c37
  · exact w_c38
  · exact w_c39
set_option maxRecDepth 65536 in
theorem w_t1 : (words1.take 24).all (fun c => isCode c || c.before args0 about1) = true := by decide +kernel
set_option maxRecDepth 65536 in
theorem w_t2 : ((words1.drop 24).take 24).all (fun c => isCode c || c.before args0 about1) = true := by decide +kernel
set_option maxRecDepth 65536 in
theorem w_t3 : (((words1.drop 24).drop 24).take 24).all (fun c => isCode c || c.before args0 about1) = true := by decide +kernel
set_option maxRecDepth 65536 in
theorem w_t4 : ((((words1.drop 24).drop 24).drop 24).take 24).all (fun c => isCode c || c.before args0 about1) = true := by decide +kernel
set_option maxRecDepth 65536 in
theorem w_t5 : (((((words1.drop 24).drop 24).drop 24).drop 24).take 24).all (fun c => isCode c || c.before args0 about1) = true := by decide +kernel
set_option maxRecDepth 65536 in
theorem w_t6 : ((((((words1.drop 24).drop 24).drop 24).drop 24).drop 24).take 24).all (fun c => isCode c || c.before args0 about1) = true := by decide +kernel
set_option maxRecDepth 65536 in
theorem w_t7 : (((((((words1.drop 24).drop 24).drop 24).drop 24).drop 24).drop 24).take 24).all (fun c => isCode c || c.before args0 about1) = true := by decide +kernel
set_option maxRecDepth 65536 in
theorem w_t8 : ((((((((words1.drop 24).drop 24).drop 24).drop 24).drop 24).drop 24).drop 24).take 24).all (fun c => isCode c || c.before args0 about1) = true := by decide +kernel
set_option maxRecDepth 65536 in
theorem w_t9 : ((((((((words1.drop 24).drop 24).drop 24).drop 24).drop 24).drop 24).drop 24).drop 24).all (fun c => isCode c || c.before args0 about1) = true := by decide +kernel
theorem w_tables : (allAtoms (Jvm.Cond.code x code maxLocals ret :: tables_1)).before args0 about1 = true := by
  rw [allAtoms_all]
  show words1.all (fun c => c.before args0 about1) = true
  refine all_split ?_ w_codes
  rw [← List.take_append_drop 24 words1, List.all_append, w_t1, ← List.take_append_drop 24 (words1.drop 24), List.all_append, w_t2, ← List.take_append_drop 24 ((words1.drop 24).drop 24), List.all_append, w_t3, ← List.take_append_drop 24 (((words1.drop 24).drop 24).drop 24), List.all_append, w_t4, ← List.take_append_drop 24 ((((words1.drop 24).drop 24).drop 24).drop 24), List.all_append, w_t5, ← List.take_append_drop 24 (((((words1.drop 24).drop 24).drop 24).drop 24).drop 24), List.all_append, w_t6, ← List.take_append_drop 24 ((((((words1.drop 24).drop 24).drop 24).drop 24).drop 24).drop 24), List.all_append, w_t7, ← List.take_append_drop 24 (((((((words1.drop 24).drop 24).drop 24).drop 24).drop 24).drop 24).drop 24), List.all_append, w_t8, w_t9]
  rfl
set_option maxRecDepth 65536 in
theorem w_rest : rest_1_c.before args0 about1 = true := by decide +kernel
set_option maxRecDepth 65536 in
theorem w_case : (Jvm.Cond.and given_1 narrow_1).before args0 about1 = true := by decide +kernel
set_option maxRecDepth 65536 in
theorem w_consts : constsHeld consts_1 about1 := Jvm.Lit.constsHeldB_iff.mp (by decide +kernel)
theorem w_applies : (headSpec (Jvm.Cond.code x code maxLocals ret :: tables_1) room_1).applies x e0.platform about1 = true :=
  (Spec.applies_iff w_frames).mpr ⟨w_running, w_runnable, w_alone, w_named, w_hears, w_ripe, w_room, w_tables⟩
theorem atStart : AtStart classFile x code maxLocals ret World_1 tables_1 room_1 Calls_1 rest_1 Pre_1 launch0 p0 e0 about1 theMethod args0 below0 :=
  ⟨lists_1, trivial, launch0.admits_env _ _ _, launch0.least_env, fairChoices_fair.cas, fairChoices_fair.clock, w_frames, w_args, w_heap, w_applies, ⟨w_consts, trivial⟩, w_rest, w_case⟩
end start1
theorem witness_1 : WitnessClaimed_1 := ⟨start1.p0, start1.e0, start1.about1, start1.theMethod, start1.args0, start1.below0, start1.atStart⟩
end Jvm.Pilot.@@N@@
