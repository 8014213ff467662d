import JvmDerived
import JvmDerived.Pilot.@@N@@Statement
import JvmDerived.Pilot.@@N@@Code
set_option linter.unusedVariables false
set_option linter.unusedSimpArgs false
namespace Jvm.Pilot.@@N@@
open Jvm Jvm.ClassFile Sem Op Lib Jvm.Free Jvm.Stand Jvm.LawKit Jvm.RoadKit Bundle Jvm.Pilot.@@N@@.Jvm.D
/-! my own small kit: a walk by continuation -/
section Own
variable {p : Program} {l : Launch} {e : Env} {R : Room} {s : State} {m : MethodId} {args : Array Value} {below : List Frame} {meth : Method} {c : Code} {T T' : State} {locs : List Loc} {cells slots : Nat} {Z : State} {a0 : Array Value} {h h' h0 : Heap} {g g' : JFrame} {a b : Addr} {ty : FieldType} {vs : List Value} {v w : Value} {sl : Nat} {ws : List Addr}
/-- from the frame g over T the run comes to an end with G -/
def own_Go (p : Program) (e : Env) (below : List Frame) (G : Outcome → State → Prop) (T : State) (g : JFrame) : Prop := ∃ s₂ o, Steps p.tables e below (T.setTop g) s₂ ∧ s₂.status = .running ∧ Ended s₂ below o ∧ G o s₂
def own_End (s : State) (kc ks : Nat) (Q : Option Value → Heap → List Loc → Prop) (o : Outcome) (U' : State) : Prop := ∃ v L, o = .returned v ∧ Q v U'.heap L ∧ FrameEnd s o U' L kc ks
def own_Met (l : Launch) (Z : State) (y : MethodName) (bytes : ByteArray) (maxL : Nat) (ret : Option FieldType) (rm : Room) (as' : Array Value) (h0 : Heap) (Q : Option Value → Heap → List Loc → Prop) : Prop :=
  ∀ ws : List Jvm.Cond, MetFree l y (head1 (Jvm.Cond.code y bytes maxL ret :: ws) rm) (fun a U => a = as' ∧ Z.Warmed39 U.vm ∧ U.heap = h0) (fun _ _ _ _ _ => True) (fun _ U o U' => ∃ v L, o = .returned v ∧ Q v U'.heap L ∧ FrameEnd U o U' L rm.cells rm.slots)
theorem own_via {G : Outcome → State → Prop} (q : ∀ t, Steps p.tables e below (T'.setTop g') t → Steps p.tables e below (T.setTop g) t) (k : own_Go p e below G T' g') : own_Go p e below G T g := by
  obtain ⟨t, o, h1, r⟩ := k; exact ⟨t, o, q t h1, r⟩
theorem own_cast {G : Outcome → State → Prop} (q : g = g') (k : own_Go p e below G T g') : own_Go p e below G T g := q ▸ k
theorem own_intro {y : MethodName} {bytes : ByteArray} {maxL : Nat} {ret : Option FieldType} {rm : Room} {as' : Array Value} {Q : Option Value → Heap → List Loc → Prop} (hp : plainFor y = true)
    (body : ∀ (p : Program) (e : Env) (s : State) (m : MethodId) (below : List Frame) (meth : Method) (c : Code) (s₁ : State), p.tables.exec = Jvm.exec → c.code = bytes → c.maxLocals = maxL → s.vm.findClass y.cls = some m.cls → meth.name = y.name → Z.Warmed39 s.vm → meth.sig.returnType = ret → meth.locks = false → Stand p l e rm s m as' below meth c s₁ [] 0 0 → s₁.heap = h0 → own_Go p e below (own_End s rm.cells rm.slots Q) s₁ (entryFrame m as' maxL)) : own_Met l Z y bytes maxL ret rm as' h0 Q := by
  intro ws
  refine MetFree.of_bodySF hp hisR ?_
  intro p e s m args below meth c s₁ Bd hml hP hK
  obtain ⟨rfl, hZ, hh⟩ := hP
  exact body p e s m below meth c s₁ Bd.exec Bd.bytes hml (findClass_of_methodNamed Bd.named) (name_of_methodNamed Bd.named Bd.method).1 hZ Bd.returns Bd.notSynchronized (Stand.of_body Bd) (by rw [← hh, Bd.state]; rfl)
theorem own_ends {kc ks : Nat} {Q : Option Value → Heap → List Loc → Prop} (X : Stand p l e R s m args below meth c T locs cells slots) (hlk : meth.locks = false) {u : Option Value} (hv : meth.sig.returnType = none → u = none) (hq : Q u T.heap locs) (hc : cells ≤ kc) (hs : slots ≤ ks)
    (st : ∀ fs, (∀ (f : JFrame) (acts : List Action), f.method = m → f.locked = none → f.entered = [] → (doReturn e (T.setTop f) acts u).1 = T.setFrames fs) → Steps p.tables e below (T.setTop g) (T.setFrames fs)) : own_Go p e below (own_End s kc ks Q) T g := by
  obtain ⟨fs, hr, hrun, hended, hW, hsame⟩ := X.leave (v := u) hv hlk
  exact ⟨_, _, st fs hr, hrun, hended, _, _, rfl, hq, ⟨_, rfl⟩, hW, hsame.mono hc hs⟩
theorem own_retI {kc ks : Nat} {Q : Option Value → Heap → List Loc → Prop} (X : Stand p l e R s m args below meth c T locs cells slots) (hx : p.tables.exec = Jvm.exec) (hlk : meth.locks = false) {pc : Nat} {Ls : Array Slot} {z : Int32} {rest : List Value} (hret : meth.sig.returnType = some .int) (hd : decode c.code pc = .ok (.ireturn, 1)) (hc : cells ≤ kc) (hs : slots ≤ ks) (hq : Q (some (.int z)) T.heap locs) : own_Go p e below (own_End s kc ks Q) T (mkF m pc Ls (.int z :: rest)) :=
  own_ends X hlk (fun q => by rw [hret] at q; cases q) hq hc hs fun fs hr => retOut X hx hret rfl (Or.inl ⟨rfl, Or.inl rfl, _, rfl⟩) hd hr
theorem own_retJ {kc ks : Nat} {Q : Option Value → Heap → List Loc → Prop} (X : Stand p l e R s m args below meth c T locs cells slots) (hx : p.tables.exec = Jvm.exec) (hlk : meth.locks = false) {pc : Nat} {Ls : Array Slot} {z : Int64} {rest : List Value} (hret : meth.sig.returnType = some .long) (hd : decode c.code pc = .ok (.lreturn, 1)) (hc : cells ≤ kc) (hs : slots ≤ ks) (hq : Q (some (.long z)) T.heap locs) : own_Go p e below (own_End s kc ks Q) T (mkF m pc Ls (.long z :: rest)) :=
  own_ends X hlk (fun q => by rw [hret] at q; cases q) hq hc hs fun fs hr => retOut X hx hret rfl (Or.inr (Or.inl ⟨rfl, rfl, _, rfl⟩)) hd hr
theorem own_retA {kc ks : Nat} {Q : Option Value → Heap → List Loc → Prop} (X : Stand p l e R s m args below meth c T locs cells slots) (hx : p.tables.exec = Jvm.exec) (hlk : meth.locks = false) {pc : Nat} {Ls : Array Slot} {z : Value} {rest : List Value} (hret : meth.sig.returnType = some ty) (ht : ty.isReference = true) (hz : z.isRef = true) (hd : decode c.code pc = .ok (.areturn, 1)) (hc : cells ≤ kc) (hs : slots ≤ ks) (hq : Q (some z) T.heap locs) : own_Go p e below (own_End s kc ks Q) T (mkF m pc Ls (z :: rest)) :=
  own_ends X hlk (fun q => by rw [hret] at q; cases q) hq hc hs fun fs hr => retOut X hx hret (by cases ty <;> first | rfl | cases ht) (Or.inr (Or.inr (Or.inr (Or.inr ⟨rfl, ht, hz⟩)))) hd hr
theorem own_retN {kc ks : Nat} {Q : Option Value → Heap → List Loc → Prop} (X : Stand p l e R s m args below meth c T locs cells slots) (hx : p.tables.exec = Jvm.exec) (hlk : meth.locks = false) {pc : Nat} {Ls : Array Slot} {z : Int32} {rest : List Value} (hret : meth.sig.returnType = some ty) (ht : ty = .boolean ∨ ty = .byte ∨ ty = .char ∨ ty = .short) (hd : decode c.code pc = .ok (.ireturn, 1)) (hc : cells ≤ kc) (hs : slots ≤ ks) (hq : Q (some (.int (nar ty z))) T.heap locs) : own_Go p e below (own_End s kc ks Q) T (mkF m pc Ls (.int z :: rest)) :=
  own_ends X hlk (fun q => by rw [hret] at q; cases q) hq hc hs fun fs hr => retN X hx hret ht hd hr
theorem own_retV {kc ks : Nat} {Q : Option Value → Heap → List Loc → Prop} (X : Stand p l e R s m args below meth c T locs cells slots) (hx : p.tables.exec = Jvm.exec) (hlk : meth.locks = false) {pc : Nat} {Ls : Array Slot} (hret : meth.sig.returnType = none) (hd : decode c.code pc = .ok (.return_, 1)) (hc : cells ≤ kc) (hs : slots ≤ ks) (hq : Q none T.heap locs) : own_Go p e below (own_End s kc ks Q) T (mkF m pc Ls []) :=
  own_ends X hlk (fun _ => rfl) hq hc hs fun fs hr => X.returnOut hx hret hd hr
theorem own_callSt {y : MethodName} {bytes : ByteArray} {maxL : Nat} {ret : Option FieldType} {rm : Room} {Q : Option Value → Heap → List Loc → Prop} (X : Stand p l e R s m args below meth c T locs cells slots) (hx : p.tables.exec = Jvm.exec) (hZ : Z.Warmed39 s.vm) {own : String} {index : Nat} (hown : s.vm.findClass own = some m.cls)
    (w1 : (Jvm.Cond.methodLink own index y).before a0 Z = true) (w2 : (Jvm.Cond.static y).before a0 Z = true) (w3 : (Jvm.Cond.initialized y.cls).before a0 Z = true) (w4 : (Jvm.Cond.code y bytes maxL ret).before a0 Z = true) (hy : y.cls ≠ "java/lang/invoke/MethodHandle" ∧ y.cls ≠ "java/lang/invoke/VarHandle") {argsL rest : List Value}
    (M : own_Met l Z y bytes maxL ret rm argsL.toArray h Q) (eT : T.heap = h) {W : Nat} (hf : rm.frames + 1 ≤ R.frames) (hl : W + (maxL + 11) + rm.locals ≤ R.locals) {g : JFrame} (hg : g.method = m) (hsize : g.locals.size = c.maxLocals) (hlen : ∀ sig, parseMethodDescriptor y.desc = some sig → argsL.length = sig.parameters.length) (hs : g.stack = argsL.reverse ++ rest) (hW : 2 * g.monitorRoom + (rest.map fun v => v.category).sum ≤ W) (hd : decode c.code g.pc = .ok (.invokestatic index, 3)) (hc : cells + rm.cells ≤ R.cells) (hsl : slots + rm.slots ≤ R.slots) :
    ∃ v T' L, Stand p l e R s m args below meth c T' (locs ++ L) (cells + rm.cells) (slots + rm.slots) ∧ Q v T'.heap L ∧ ∀ target, Steps p.tables e below (T'.setTop { g with pc := g.pc + 3, stack := v.toList ++ rest }) target → Steps p.tables e below (T.setTop g) target := by
  obtain ⟨v, _, ⟨T', L', k', n'⟩, -, X', ⟨L, hQ, l1, l2, l3⟩, st⟩ := Jvm.LawKit.callS X hx (y := y) hown (mvT hZ w1) (mvT hZ w2) (mvT hZ w3) (mvT hZ w4) hy (backOf (W := W) (M []) hZ w4 w3 hf hl) hg hsize (argsL := argsL) (rest := rest) hlen hs hW hd (fun _ _ => ⟨rfl, eT, hc, hsl⟩)
  dsimp only [Pt.U, Pt.locs, Pt.cells, Pt.slots] at X' l1 l2 l3 st hQ
  subst l1 l2 l3
  exact ⟨v, T', L, X', hQ, st⟩
theorem own_callSp {y : MethodName} {bytes : ByteArray} {maxL : Nat} {rm : Room} {Q : Option Value → Heap → List Loc → Prop} (X : Stand p l e R s m args below meth c T locs cells slots) (hx : p.tables.exec = Jvm.exec) (hZ : Z.Warmed39 s.vm) {own : String} {index : Nat} (hown : s.vm.findClass own = some m.cls) (hy1 : y.name = "<init>")
    (w1 : (Jvm.Cond.methodLink own index y).before a0 Z = true) (w2 : (Jvm.Cond.instanceMethod y).before a0 Z = true) (w3 : (Jvm.Cond.initialized y.cls).before a0 Z = true) (w4 : (Jvm.Cond.code y bytes maxL none).before a0 Z = true) (hy : y.cls ≠ "java/lang/invoke/MethodHandle" ∧ y.cls ≠ "java/lang/invoke/VarHandle") {argsL rest : List Value}
    (M : own_Met l Z y bytes maxL none rm (.ref a :: argsL).toArray h Q) (eT : T.heap = h) {W : Nat} (hf : rm.frames + 1 ≤ R.frames) (hl : W + (maxL + 11) + rm.locals ≤ R.locals) {g : JFrame} (hg : g.method = m) (hsize : g.locals.size = c.maxLocals) (hlen : ∀ sig, parseMethodDescriptor y.desc = some sig → argsL.length = sig.parameters.length) (hs : g.stack = argsL.reverse ++ .ref a :: rest) (hW : 2 * g.monitorRoom + (rest.map fun v => v.category).sum ≤ W) (hd : decode c.code g.pc = .ok (.invokespecial index, 3)) (hc : cells + rm.cells ≤ R.cells) (hsl : slots + rm.slots ≤ R.slots) :
    ∃ v T' L, Stand p l e R s m args below meth c T' (locs ++ L) (cells + rm.cells) (slots + rm.slots) ∧ Q v T'.heap L ∧ ∀ target, Steps p.tables e below (T'.setTop { g with pc := g.pc + 3, stack := v.toList ++ rest }) target → Steps p.tables e below (T.setTop g) target := by
  obtain ⟨v, _, ⟨T', L', k', n'⟩, -, X', ⟨L, hQ, l1, l2, l3⟩, st⟩ := X.specialBack hx (y := y) hy1 hown (mvT hZ w1) (mvT hZ w2) (mvT hZ w4) hy (backOf (W := W) (M []) hZ w4 w3 hf hl) hg hsize (Steps.refl _) (a := a) (argsL := argsL) (rest := rest) hlen hs hW hd (fun _ _ => ⟨rfl, eT, hc, hsl⟩)
  dsimp only [Pt.U, Pt.locs, Pt.cells, Pt.slots] at X' l1 l2 l3 st hQ
  subst l1 l2 l3
  exact ⟨v, T', L, X', hQ, fun _ k => st.trans k⟩
theorem own_callVi {y z : MethodName} {bytes : ByteArray} {maxL : Nat} {ret : Option FieldType} {rm : Room} {Q : Option Value → Heap → List Loc → Prop} {C : String} (X : Stand p l e R s m args below meth c T locs cells slots) (hx : p.tables.exec = Jvm.exec) (hZ : Z.Warmed39 s.vm) {own : String} {index : Nat} (hown : s.vm.findClass own = some m.cls)
    (w1 : (Jvm.Cond.methodLink own index y).before a0 Z = true) (w2 : (Jvm.Cond.declares y).before a0 Z = true) (nf : NotFace s y) (w5 : (Jvm.Cond.selects C y z).before a0 Z = true) (w6 : (Jvm.Cond.instanceMethod z).before a0 Z = true) (w3 : (Jvm.Cond.initialized z.cls).before a0 Z = true) (w4 : (Jvm.Cond.code z bytes maxL ret).before a0 Z = true) (hy : y.cls ≠ "java/lang/invoke/MethodHandle" ∧ y.cls ≠ "java/lang/invoke/VarHandle") (E : Exa Z h a C) {argsL rest : List Value}
    (M : own_Met l Z z bytes maxL ret rm (.ref a :: argsL).toArray h Q) (eT : T.heap = h) {W : Nat} (hf : rm.frames + 1 ≤ R.frames) (hl : W + (maxL + 11) + rm.locals ≤ R.locals) {g : JFrame} (hg : g.method = m) (hsize : g.locals.size = c.maxLocals) (hlen : ∀ sig, parseMethodDescriptor y.desc = some sig → argsL.length = sig.parameters.length) (hs : g.stack = argsL.reverse ++ .ref a :: rest) (hW : 2 * g.monitorRoom + (rest.map fun v => v.category).sum ≤ W) (hd : decode c.code g.pc = .ok (.invokevirtual index, 3)) (hc : cells + rm.cells ≤ R.cells) (hsl : slots + rm.slots ≤ R.slots) :
    ∃ v T' L, Stand p l e R s m args below meth c T' (locs ++ L) (cells + rm.cells) (slots + rm.slots) ∧ Q v T'.heap L ∧ ∀ target, Steps p.tables e below (T'.setTop { g with pc := g.pc + 3, stack := v.toList ++ rest }) target → Steps p.tables e below (T.setTop g) target := by
  obtain ⟨cq, kq, qa, qb, qc⟩ := isOf hZ eT E
  obtain ⟨v, _, ⟨T', L', k', n'⟩, -, X', ⟨L, hQ, l1, l2, l3⟩, st⟩ := X.virtualBack hx (y := y) (z := z) hown (mvT hZ w1) (mvT hZ w2) nf (mvT hZ w5) (mvT hZ w6) hy (backOf (W := W) (M []) hZ w4 w3 hf hl) qa qc hg hsize (Steps.refl _) (argsL := argsL) (rest := rest) hlen hs hW hd (fun _ _ => ⟨rfl, eT, hc, hsl⟩)
  dsimp only [Pt.U, Pt.locs, Pt.cells, Pt.slots] at X' l1 l2 l3 st hQ
  subst l1 l2 l3
  exact ⟨v, T', L, X', hQ, fun _ k => st.trans k⟩
/-- the whole contents of an array -/
def own_Av (Z : State) (h : Heap) (a : Addr) (ty : FieldType) (vs : List Value) : Prop := ∃ c : Cell, Arr Z h a c ty ∧ c.slots = vs.toArray ∧ vs.length < 2 ^ 31
theorem own_Av.lt (F : own_Av Z h a ty vs) : a < h.size := by obtain ⟨c, A, -⟩ := F; exact A.lt
theorem own_Av.ext (F : own_Av Z h a ty vs) (E : Ext h h') : own_Av Z h' a ty vs := by obtain ⟨c, A, r⟩ := F; exact ⟨c, A.ext E, r⟩
theorem own_Av.other (F : own_Av Z h b ty vs) (W : Wr h h' a sl v) (q : b ≠ a) : own_Av Z h' b ty vs := by obtain ⟨c, A, r⟩ := F; exact ⟨c, A.other W q, r⟩
theorem own_Av.keep (F : own_Av Z h a ty vs) (K : Keep h h' ws) (q : a ∉ ws) : own_Av Z h' a ty vs := by obtain ⟨c, A, r⟩ := F; exact ⟨c, ⟨K.2.1 a c A.1 q, A.2⟩, r⟩
theorem own_Av.len (F : own_Av Z h a ty vs) : vs.length < 2 ^ 31 := by obtain ⟨c, A, r, q⟩ := F; exact q
theorem own_Av.new {k : ClassId} {z : Int32} (A : Arr Z h a (newA k ty z) ty) : own_Av Z h a ty (List.replicate z.toNatClampNeg (defaultValue ty)) := ⟨_, A, by simp [newA], by rw [List.length_replicate]; have := z.toInt_lt; simp only [Int32.toNatClampNeg]; omega⟩
theorem own_Av.set (F : own_Av Z h a ty vs) {j : Nat} (W : Wr h h' a j v) : own_Av Z h' a ty (vs.set j v) := by
  obtain ⟨c, A, r, q⟩ := F
  refine ⟨_, A.same W, ?_, by rw [List.length_set]; exact q⟩
  simp [Cell.setSlot, r]
theorem own_in {c : Cell} {j : Int32} (r : c.slots = vs.toArray) (hj : ¬ j < 0) (hl : j.toNatClampNeg < vs.length) : ¬ (j < 0 ∨ c.slots.size ≤ j.toNatClampNeg) := by
  rw [r]; simp; exact ⟨Int32.not_lt.mp hj, hl⟩
theorem own_lt_of {α : Type} {vs : List α} {j : Nat} {v : α} (q : vs[j]? = some v) : j < vs.length := (List.getElem?_eq_some_iff.mp q).1
theorem own_ldI (X : Stand p l e R s m args below meth c T locs cells slots) (hx : p.tables.exec = Jvm.exec) (hZ : Z.Warmed39 s.vm) (eT : T.heap = h) (F : own_Av Z h a .int vs) {j : Int32} (hj : ¬ j < 0) (hv : vs[j.toNatClampNeg]? = some v) {g : JFrame} (hg : g.method = m) {rest : List Value} (hs : g.stack = .int j :: .ref a :: rest) (hd : decode c.code g.pc = .ok (.iaload, 1)) :
    ∀ target, Steps p.tables e below (T.setTop { g with pc := g.pc + 1, stack := v :: rest }) target → Steps p.tables e below (T.setTop g) target := by
  obtain ⟨cl, A, r, -⟩ := F
  exact X.iaload hx (j := j) (v := v) (by rw [eT]; exact A.1) (State.isArrayOf_alike hZ.alike A.2.1) A.2.2 (own_in r hj (own_lt_of hv)) (by rw [r]; simpa using hv) hg hs hd
theorem own_ldJ (X : Stand p l e R s m args below meth c T locs cells slots) (hx : p.tables.exec = Jvm.exec) (hZ : Z.Warmed39 s.vm) (eT : T.heap = h) (F : own_Av Z h a .long vs) {j : Int32} (hj : ¬ j < 0) (hv : vs[j.toNatClampNeg]? = some v) {g : JFrame} (hg : g.method = m) {rest : List Value} (hs : g.stack = .int j :: .ref a :: rest) (hd : decode c.code g.pc = .ok (.laload, 1)) :
    ∀ target, Steps p.tables e below (T.setTop { g with pc := g.pc + 1, stack := v :: rest }) target → Steps p.tables e below (T.setTop g) target := by
  obtain ⟨cl, A, r, -⟩ := F
  exact X.laload hx (j := j) (v := v) (by rw [eT]; exact A.1) (State.isArrayOf_alike hZ.alike A.2.1) A.2.2 (own_in r hj (own_lt_of hv)) (by rw [r]; simpa using hv) hg hs hd
theorem own_ldB (X : Stand p l e R s m args below meth c T locs cells slots) (hx : p.tables.exec = Jvm.exec) (hZ : Z.Warmed39 s.vm) (eT : T.heap = h) (F : own_Av Z h a .byte vs) {j : Int32} (hj : ¬ j < 0) (hv : vs[j.toNatClampNeg]? = some v) {g : JFrame} (hg : g.method = m) {rest : List Value} (hs : g.stack = .int j :: .ref a :: rest) (hd : decode c.code g.pc = .ok (.baload, 1)) :
    ∀ target, Steps p.tables e below (T.setTop { g with pc := g.pc + 1, stack := v :: rest }) target → Steps p.tables e below (T.setTop g) target := by
  obtain ⟨cl, A, r, -⟩ := F
  exact X.baloadBytes hx (j := j) (v := v) (by rw [eT]; exact A.1) (State.isArrayOf_alike hZ.alike A.2.1) A.2.2 (own_in r hj (own_lt_of hv)) (by rw [r]; simpa using hv) hg hs hd
theorem own_ldZ (X : Stand p l e R s m args below meth c T locs cells slots) (hx : p.tables.exec = Jvm.exec) (hZ : Z.Warmed39 s.vm) (eT : T.heap = h) (F : own_Av Z h a .boolean vs) {j : Int32} (hj : ¬ j < 0) (hv : vs[j.toNatClampNeg]? = some v) {g : JFrame} (hg : g.method = m) {rest : List Value} (hs : g.stack = .int j :: .ref a :: rest) (hd : decode c.code g.pc = .ok (.baload, 1)) :
    ∀ target, Steps p.tables e below (T.setTop { g with pc := g.pc + 1, stack := v :: rest }) target → Steps p.tables e below (T.setTop g) target := by
  obtain ⟨cl, A, r, -⟩ := F
  exact X.baloadBooleans hx (j := j) (v := v) (by rw [eT]; exact A.1) (State.isArrayOf_alike hZ.alike A.2.1) A.2.2 (own_in r hj (own_lt_of hv)) (by rw [r]; simpa using hv) hg hs hd
theorem own_alen (X : Stand p l e R s m args below meth c T locs cells slots) (hx : p.tables.exec = Jvm.exec) (hZ : Z.Warmed39 s.vm) (eT : T.heap = h) (F : own_Av Z h a ty vs) {n : Int32} (hn : vs.length.toInt32 = n) {g : JFrame} (hg : g.method = m) {rest : List Value} (hs : g.stack = .ref a :: rest) (hd : decode c.code g.pc = .ok (.arraylength, 1)) :
    ∀ target, Steps p.tables e below (T.setTop { g with pc := g.pc + 1, stack := .int n :: rest }) target → Steps p.tables e below (T.setTop g) target := by
  obtain ⟨cl, A, r, -⟩ := F
  have q := X.arraylength hx (by rw [eT]; exact A.1) (State.isArrayOf_alike hZ.alike A.2.1) hg hs hd
  have e1 : cl.slots.size.toInt32 = n := by rw [r]; simpa using hn
  rw [e1] at q; exact q
theorem own_stI (X : Stand p l e R s m args below meth c T locs cells slots) (hx : p.tables.exec = Jvm.exec) (hZ : Z.Warmed39 s.vm) (eT : T.heap = h) (F : own_Av Z h a .int vs) {j x : Int32} (hj : ¬ j < 0) (hl : j.toNatClampNeg < vs.length) {g : JFrame} (hg : g.method = m) {rest : List Value} (hs : g.stack = .int x :: .int j :: .ref a :: rest) (hd : decode c.code g.pc = .ok (.iastore, 1)) :
    ∃ T' h', Stand p l e R s m args below meth c T' (locs ++ [⟨a, j.toNatClampNeg⟩]) cells slots ∧ T'.heap = h' ∧ Wr h h' a j.toNatClampNeg (.int x) ∧ own_Av Z h' a .int (vs.set j.toNatClampNeg (.int x)) ∧ ∀ target, Steps p.tables e below (T'.setTop { g with pc := g.pc + 1, stack := rest }) target → Steps p.tables e below (T.setTop g) target := by
  obtain ⟨cl, A, r, q⟩ := F
  obtain ⟨T', h', X', e', W, st⟩ := stI X hx hZ eT A (own_in r hj hl) hg hs hd
  exact ⟨T', h', X', e', W, own_Av.set ⟨cl, A, r, q⟩ W, st⟩
theorem own_stJ (X : Stand p l e R s m args below meth c T locs cells slots) (hx : p.tables.exec = Jvm.exec) (hZ : Z.Warmed39 s.vm) (eT : T.heap = h) (F : own_Av Z h a .long vs) {j : Int32} {x : Int64} (hj : ¬ j < 0) (hl : j.toNatClampNeg < vs.length) {g : JFrame} (hg : g.method = m) {rest : List Value} (hs : g.stack = .long x :: .int j :: .ref a :: rest) (hd : decode c.code g.pc = .ok (.lastore, 1)) :
    ∃ T' h', Stand p l e R s m args below meth c T' (locs ++ [⟨a, j.toNatClampNeg⟩]) cells slots ∧ T'.heap = h' ∧ Wr h h' a j.toNatClampNeg (.long x) ∧ own_Av Z h' a .long (vs.set j.toNatClampNeg (.long x)) ∧ ∀ target, Steps p.tables e below (T'.setTop { g with pc := g.pc + 1, stack := rest }) target → Steps p.tables e below (T.setTop g) target := by
  obtain ⟨cl, A, r, q⟩ := F
  obtain ⟨T', h', X', e', W, st⟩ := stJ X hx hZ eT A (own_in r hj hl) hg hs hd
  exact ⟨T', h', X', e', W, own_Av.set ⟨cl, A, r, q⟩ W, st⟩
theorem own_stB (X : Stand p l e R s m args below meth c T locs cells slots) (hx : p.tables.exec = Jvm.exec) (hZ : Z.Warmed39 s.vm) (eT : T.heap = h) (F : own_Av Z h a .byte vs) {j x : Int32} (hj : ¬ j < 0) (hl : j.toNatClampNeg < vs.length) {g : JFrame} (hg : g.method = m) {rest : List Value} (hs : g.stack = .int x :: .int j :: .ref a :: rest) (hd : decode c.code g.pc = .ok (.bastore, 1)) :
    ∃ T' h', Stand p l e R s m args below meth c T' (locs ++ [⟨a, j.toNatClampNeg⟩]) cells slots ∧ T'.heap = h' ∧ Wr h h' a j.toNatClampNeg (.int x.toInt8.toInt32) ∧ own_Av Z h' a .byte (vs.set j.toNatClampNeg (.int x.toInt8.toInt32)) ∧ ∀ target, Steps p.tables e below (T'.setTop { g with pc := g.pc + 1, stack := rest }) target → Steps p.tables e below (T.setTop g) target := by
  obtain ⟨cl, A, r, q⟩ := F
  obtain ⟨T', h', X', e', W, st⟩ := stB X hx hZ eT A (own_in r hj hl) hg hs hd
  exact ⟨T', h', X', e', W, own_Av.set ⟨cl, A, r, q⟩ W, st⟩
theorem own_stZ (X : Stand p l e R s m args below meth c T locs cells slots) (hx : p.tables.exec = Jvm.exec) (hZ : Z.Warmed39 s.vm) (eT : T.heap = h) (F : own_Av Z h a .boolean vs) {j x : Int32} (hj : ¬ j < 0) (hl : j.toNatClampNeg < vs.length) {g : JFrame} (hg : g.method = m) {rest : List Value} (hs : g.stack = .int x :: .int j :: .ref a :: rest) (hd : decode c.code g.pc = .ok (.bastore, 1)) :
    ∃ T' h', Stand p l e R s m args below meth c T' (locs ++ [⟨a, j.toNatClampNeg⟩]) cells slots ∧ T'.heap = h' ∧ Wr h h' a j.toNatClampNeg (.int (x &&& 1)) ∧ own_Av Z h' a .boolean (vs.set j.toNatClampNeg (.int (x &&& 1))) ∧ ∀ target, Steps p.tables e below (T'.setTop { g with pc := g.pc + 1, stack := rest }) target → Steps p.tables e below (T.setTop g) target := by
  obtain ⟨cl, A, r, q⟩ := F
  obtain ⟨T', h', X', e', W, st⟩ := stZ X hx hZ eT A (own_in r hj hl) hg hs hd
  exact ⟨T', h', X', e', W, own_Av.set ⟨cl, A, r, q⟩ W, st⟩
theorem own_len {t : Term} {n : Int32} {cl : Cell} (q : (Jvm.Cond.eq (.length t) (.int n)).value args s none s [] = some true) (ht : t.eval args s none [] s = some (.ref a)) (A : Arr s s.heap a cl ty) (hn : ¬ n < 0) : cl.slots.size = n.toNatClampNeg := by
  have ha := Arr.fin (State.Warmed39.refl s).alike A
  by_cases hl : cl.slots.size < 2 ^ 31
  · have e1 := len_f (t := t) ht ha hl
    have e2 : cl.slots.size.toInt32 = n := by
      simp only [Cond.value, e1] at q
      simpa [Term.eval] using q
    rw [← e2]
    simp only [Int32.toNatClampNeg, len_toInt hl]; rfl
  · exfalso
    have e1 : (Term.length t).eval args s none [] s = none := by
      have hl' : ¬ cl.slots.size < 2147483648 := hl
      simp [Term.eval, ht, ha, hl']
    simp [Cond.value, e1] at q
theorem own_elemJ {t : Term} {j : Int32} {v : Int64} {cl : Cell} (q : (Jvm.Cond.eq (.elem t (.int j)) (.long v)).value args s none s [] = some true) (ht : t.eval args s none [] s = some (.ref a)) (A : Arr s s.heap a cl ty) : cl.slots[j.toNatClampNeg]? = some (.long v) := by
  cases e1 : (Term.elem t (.int j)).eval args s none [] s with
  | none => simp [Cond.value, e1] at q
  | some x =>
    have e2 := (elem_in e1 ht rfl A.1).2
    rw [e2]
    simp only [Cond.value, e1] at q
    cases x <;> simp [Term.eval] at q
    rw [q]
theorem own_elemI {t : Term} {j : Int32} {v : Int32} {cl : Cell} (q : (Jvm.Cond.eq (.elem t (.int j)) (.int v)).value args s none s [] = some true) (ht : t.eval args s none [] s = some (.ref a)) (A : Arr s s.heap a cl ty) : cl.slots[j.toNatClampNeg]? = some (.int v) := by
  cases e1 : (Term.elem t (.int j)).eval args s none [] s with
  | none => simp [Cond.value, e1] at q
  | some x =>
    have e2 := (elem_in e1 ht rfl A.1).2
    rw [e2]
    simp only [Cond.value, e1] at q
    cases x <;> simp [Term.eval] at q
    rw [q]
theorem own_Av.of {cl : Cell} (A : Arr Z h a cl ty) (hs : cl.slots.size = vs.length) (hv : ∀ i, i < vs.length → cl.slots[i]? = vs[i]?) (hl : vs.length < 2 ^ 31) : own_Av Z h a ty vs := by
  refine ⟨cl, A, ?_, hl⟩
  apply Array.ext
  · simpa using hs
  · intro i h1 h2
    have h3 : i < vs.length := by rw [← hs]; exact h1
    have := hv i h3
    rw [Array.getElem?_eq_getElem h1, List.getElem?_eq_getElem h3] at this
    simpa using this
theorem own_Sta.keep0 {C n d : String} (F : Sta Z h C n d v) (K : Keep h h' []) : Sta Z h' C n d v := by
  obtain ⟨cf, i, k, f, st, cell, h1, h2, h3, h4, h5, r⟩ := F; exact ⟨cf, i, k, f, st, cell, h1, h2, h3, h4, K.2.1 _ _ h5 nin0, r⟩
theorem own_fldJ {t : Term} {C n d : String} {z : Int64} (q : (Jvm.Cond.eq (.field t C n d) (.long z)).value args s none s [] = some true) (ht : t.eval args s none [] s = some (.ref a)) : Fld s s.heap a C n d (.long z) := by
  have e0 := fld_at (C := C) (n := n) (dd := d) ht
  refine Fld.start ?_
  cases e1 : s.fieldOf? a C n d with
  | none => rw [e1] at e0; simp [Cond.value, e0] at q
  | some x =>
    rw [e1] at e0
    simp only [Cond.value, e0] at q
    cases x <;> simp [Term.eval] at q
    rw [q]
theorem own_cloneI (X : Stand p l e R s m args below meth c T locs cells slots) (hx : p.tables.exec = Jvm.exec) (hZ : Z.Warmed39 s.vm) {own : String} {index : Nat} (hown : s.vm.findClass own = some m.cls)
    (w1 : (Jvm.Cond.methodLink own index ⟨"[I", "clone", "()Ljava/lang/Object;"⟩).before a0 Z = true) (w2 : (Jvm.Cond.sameMethod "[I" "java/lang/Object" "clone" "()Ljava/lang/Object;").before a0 Z = true) (w3 : (Jvm.Cond.native ⟨"java/lang/Object", "clone", "()Ljava/lang/Object;"⟩).before a0 Z = true)
    (w4 : (Jvm.Cond.instanceMethod ⟨"java/lang/Object", "clone", "()Ljava/lang/Object;"⟩).before a0 Z = true) (w5 : (Jvm.Cond.selects "[I" ⟨"[I", "clone", "()Ljava/lang/Object;"⟩ ⟨"java/lang/Object", "clone", "()Ljava/lang/Object;"⟩).before a0 Z = true) (w6 : (Jvm.Cond.castable "[I" "java/lang/Cloneable").before a0 Z = true)
    (eT : T.heap = h) {I : List Int32} (F : own_Av Z h a .int (I.map Value.int)) (E : Exa Z h a "[I") {g : JFrame} (hg : g.method = m) (hsize : g.locals.size = c.maxLocals) {rest : List Value} (hs : g.stack = .ref a :: rest) (hd : decode c.code g.pc = .ok (.invokevirtual index, 3))
    (hf : 1 ≤ R.frames) {W cap : Nat} (hW : 2 * g.monitorRoom + (rest.map fun v => v.category).sum ≤ W) (hl : W + 14 ≤ R.locals) (hcap : I.length ≤ cap) (hc : cells + 1 ≤ R.cells) (hsl : slots + cap ≤ R.slots) :
    ∃ T' h', Stand p l e R s m args below meth c T' locs (cells + 1) (slots + cap) ∧ T'.heap = h' ∧ Ext h h' ∧ own_Av Z h' h.size .int (I.map Value.int) ∧ Exa Z h' h.size "[I" ∧
      ∀ target, Steps p.tables e below (T'.setTop { g with pc := g.pc + 3, stack := .ref h.size :: rest }) target → Steps p.tables e below (T.setTop g) target := by
  obtain ⟨cl, A, r, q⟩ := F
  have FC : FitC Z cl := fitC_of A fun i hi v hv => by
    rw [r] at hv
    simp only [List.getElem?_toArray, List.getElem?_map, Option.map_eq_some_iff] at hv
    obtain ⟨z, -, rfl⟩ := hv
    rfl
  obtain ⟨T', h', X', e', ex, A', E', st⟩ := cloneA X hx hZ hown w1 w2 w3 w4 w5 w6 eT A E FC hg hsize hs hd hf hW hl (by rw [r]; simpa using hcap) hc hsl
  exact ⟨T', h', X', e', ex, ⟨cloneOf cl, A', r, q⟩, E', st⟩
theorem own_callPr {y y' : MethodName} {bytes : ByteArray} {maxL : Nat} {ret : Option FieldType} {rm : Room} {Q : Option Value → Heap → List Loc → Prop} (X : Stand p l e R s m args below meth c T locs cells slots) (hx : p.tables.exec = Jvm.exec) (hZ : Z.Warmed39 s.vm) {own : String} {index : Nat} (hown : s.vm.findClass own = some m.cls)
    (w1 : (Jvm.Cond.methodLink own index y).before a0 Z = true) (w2 : (Jvm.Cond.privateMethod y).before a0 Z = true) (w6 : (Jvm.Cond.instanceMethod y).before a0 Z = true) (w3 : (Jvm.Cond.initialized y.cls).before a0 Z = true) (w4 : (Jvm.Cond.code y bytes maxL ret).before a0 Z = true) (w7 : (Jvm.Cond.selects y.cls y' y').before a0 Z = true) (w8 : (Jvm.Cond.instanceMethod y').before a0 Z = true) (hcl : y'.cls = y.cls) (hy : y.cls ≠ "java/lang/invoke/MethodHandle" ∧ y.cls ≠ "java/lang/invoke/VarHandle") {C : String} (E : Exa Z h a C) {argsL rest : List Value}
    (M : own_Met l Z y bytes maxL ret rm (.ref a :: argsL).toArray h Q) (eT : T.heap = h) {W : Nat} (hf : rm.frames + 1 ≤ R.frames) (hl : W + (maxL + 11) + rm.locals ≤ R.locals) {g : JFrame} (hg : g.method = m) (hsize : g.locals.size = c.maxLocals) (hlen : ∀ sig, parseMethodDescriptor y.desc = some sig → argsL.length = sig.parameters.length) (hs : g.stack = argsL.reverse ++ .ref a :: rest) (hW : 2 * g.monitorRoom + (rest.map fun v => v.category).sum ≤ W) (hd : decode c.code g.pc = .ok (.invokevirtual index, 3)) (hc : cells + rm.cells ≤ R.cells) (hsl : slots + rm.slots ≤ R.slots) :
    ∃ v T' L, Stand p l e R s m args below meth c T' (locs ++ L) (cells + rm.cells) (slots + rm.slots) ∧ Q v T'.heap L ∧ ∀ target, Steps p.tables e below (T'.setTop { g with pc := g.pc + 3, stack := v.toList ++ rest }) target → Steps p.tables e below (T.setTop g) target := by
  obtain ⟨cq, qa, qb⟩ := E.cell
  have nf := notFace_of_selects (args := #[]) (mvT hZ w7)
  obtain ⟨mk', meth', hn', -⟩ := Cond.instanceMethod_spec (mvT (args := #[]) hZ w8)
  obtain ⟨k', hk', hni⟩ := nf mk' hn'
  have hc' := findClass_of_methodNamed hn'
  rw [hcl] at hc'
  have hpriv := Cond.privateMethod_at (mvP hZ w2 (args := #[]))
  have hsel := selects_self_of_private (args := args) hc' hk' hni hpriv (mvT hZ w6) hy
  obtain ⟨v, _, ⟨T', L', k', n'⟩, -, X', ⟨L, hQ, l1, l2, l3⟩, st⟩ := X.privateBack hx (y := y) hown (mvT hZ w1) (mvT hZ w6) hsel hpriv (mvT hZ w4) hy (backOf (W := W) (M []) hZ w4 w3 hf hl) hg hsize (Steps.refl _) (a := a) (by rw [eT]; exact qa) qb (argsL := argsL) (rest := rest) hlen hs hW hd (fun _ _ => ⟨rfl, eT, hc, hsl⟩)
  dsimp only [Pt.U, Pt.locs, Pt.cells, Pt.slots] at X' l1 l2 l3 st hQ
  subst l1 l2 l3
  exact ⟨v, T', L, X', hQ, fun _ k => st.trans k⟩
theorem own_clone {ad : String} (X : Stand p l e R s m args below meth c T locs cells slots) (hx : p.tables.exec = Jvm.exec) (hZ : Z.Warmed39 s.vm) {own : String} {index : Nat} (hown : s.vm.findClass own = some m.cls)
    (w1 : (Jvm.Cond.methodLink own index ⟨ad, "clone", "()Ljava/lang/Object;"⟩).before a0 Z = true) (w2 : (Jvm.Cond.sameMethod ad "java/lang/Object" "clone" "()Ljava/lang/Object;").before a0 Z = true) (w3 : (Jvm.Cond.native ⟨"java/lang/Object", "clone", "()Ljava/lang/Object;"⟩).before a0 Z = true)
    (w4 : (Jvm.Cond.instanceMethod ⟨"java/lang/Object", "clone", "()Ljava/lang/Object;"⟩).before a0 Z = true) (w5 : (Jvm.Cond.selects ad ⟨ad, "clone", "()Ljava/lang/Object;"⟩ ⟨"java/lang/Object", "clone", "()Ljava/lang/Object;"⟩).before a0 Z = true) (w6 : (Jvm.Cond.castable ad "java/lang/Cloneable").before a0 Z = true)
    (eT : T.heap = h) (F : own_Av Z h a ty vs) (hfit : ∀ v ∈ vs, fits ty v = true) (E : Exa Z h a ad) {g : JFrame} (hg : g.method = m) (hsize : g.locals.size = c.maxLocals) {rest : List Value} (hs : g.stack = .ref a :: rest) (hd : decode c.code g.pc = .ok (.invokevirtual index, 3))
    (hf : 1 ≤ R.frames) {W cap : Nat} (hW : 2 * g.monitorRoom + (rest.map fun v => v.category).sum ≤ W) (hl : W + 14 ≤ R.locals) (hcap : vs.length ≤ cap) (hc : cells + 1 ≤ R.cells) (hsl : slots + cap ≤ R.slots) :
    ∃ T' h', Stand p l e R s m args below meth c T' locs (cells + 1) (slots + cap) ∧ T'.heap = h' ∧ Ext h h' ∧ own_Av Z h' h.size ty vs ∧ Exa Z h' h.size ad ∧
      ∀ target, Steps p.tables e below (T'.setTop { g with pc := g.pc + 3, stack := .ref h.size :: rest }) target → Steps p.tables e below (T.setTop g) target := by
  obtain ⟨cl, A, r, q⟩ := F
  have FC : FitC Z cl := fitC_of A fun i hi v hv => by
    rw [r] at hv
    simp only [List.getElem?_toArray] at hv
    exact hfit v (List.mem_of_getElem? hv)
  obtain ⟨T', h', X', e', ex, A', E', st⟩ := cloneA X hx hZ hown w1 w2 w3 w4 w5 w6 eT A E FC hg hsize hs hd hf hW hl (by rw [r]; simpa using hcap) hc hsl
  exact ⟨T', h', X', e', ex, ⟨cloneOf cl, A', r, q⟩, E', st⟩
theorem own_Av.arv (F : own_Av Z h a ty vs) {dv : Value} (hfit : ∀ v ∈ vs, fits ty v = true) : ∃ k, Arv Z h a k ty vs.length.toInt32 vs dv := by
  obtain ⟨cl, A, r, q⟩ := F
  have e1 : vs.length.toInt32.toNatClampNeg = vs.length := by simp only [Int32.toNatClampNeg, len_toInt q]; rfl
  have hs : cl.slots.size = vs.length := by rw [r]; simp
  refine ⟨cl.cls, cl, A, rfl, by rw [e1, hs], ?_, fun k hk => ?_, fun i hi => ?_⟩
  · rw [Int32.lt_iff_toInt_lt, len_toInt q]; have : (0 : Int32).toInt = 0 := by decide
    omega
  · rw [hs] at hk; rw [r]; simp [List.getD_eq_getElem?_getD, List.getElem?_eq_getElem hk]
  · rw [hs] at hi
    have : vs.getD i dv = vs[i] := by simp [List.getD_eq_getElem?_getD, List.getElem?_eq_getElem hi]
    rw [this]; exact hfit _ (List.getElem_mem hi)
theorem own_stC (X : Stand p l e R s m args below meth c T locs cells slots) (hx : p.tables.exec = Jvm.exec) (hZ : Z.Warmed39 s.vm) (eT : T.heap = h) (F : own_Av Z h a .char vs) {j x : Int32} (hj : ¬ j < 0) (hl : j.toNatClampNeg < vs.length) {g : JFrame} (hg : g.method = m) {rest : List Value} (hs : g.stack = .int x :: .int j :: .ref a :: rest) (hd : decode c.code g.pc = .ok (.castore, 1)) :
    ∃ T' h', Stand p l e R s m args below meth c T' (locs ++ [⟨a, j.toNatClampNeg⟩]) cells slots ∧ T'.heap = h' ∧ Wr h h' a j.toNatClampNeg (.int x.toUInt32.toUInt16.toUInt32.toInt32) ∧ own_Av Z h' a .char (vs.set j.toNatClampNeg (.int x.toUInt32.toUInt16.toUInt32.toInt32)) ∧ ∀ target, Steps p.tables e below (T'.setTop { g with pc := g.pc + 1, stack := rest }) target → Steps p.tables e below (T.setTop g) target := by
  obtain ⟨cl, A, r, q⟩ := F
  obtain ⟨T', h', X', e', W, st⟩ := stC X hx hZ eT A (own_in r hj hl) hg hs hd
  exact ⟨T', h', X', e', W, own_Av.set ⟨cl, A, r, q⟩ W, st⟩
theorem own_ne_of (q : a < h.size) (r : h.size ≤ b) : a ≠ b := Nat.ne_of_lt (Nat.lt_of_lt_of_le q r)
end Own
theorem own_d4_0 : decode prog_24_method_1_code 0 = .ok (.aload_n 0, 1) := by decide +kernel
theorem own_d4_1 : decode prog_24_method_1_code 1 = .ok (.invokespecial 1, 3) := by decide +kernel
theorem own_d4_4 : decode prog_24_method_1_code 4 = .ok (.aload_n 0, 1) := by decide +kernel
theorem own_d4_5 : decode prog_24_method_1_code 5 = .ok (.lload_n 1, 1) := by decide +kernel
theorem own_d4_6 : decode prog_24_method_1_code 6 = .ok (.putfield 7, 3) := by decide +kernel
theorem own_d4_9 : decode prog_24_method_1_code 9 = .ok (.aload_n 0, 1) := by decide +kernel
theorem own_d4_10 : decode prog_24_method_1_code 10 = .ok (.lload_n 3, 1) := by decide +kernel
theorem own_d4_11 : decode prog_24_method_1_code 11 = .ok (.putfield 13, 3) := by decide +kernel
theorem own_d4_14 : decode prog_24_method_1_code 14 = .ok (.return_, 1) := by decide +kernel
theorem own_pn0 : plainName "com/example/surrogate/surrogate/KeyRange" = true := by first | (simp [plainName, overriddenIn]; done) | decide +kernel
set_option maxHeartbeats 40000000 in
theorem own_mt4_ef (m : MethodId) (x0 : Addr) (x1 : Int64) (x2 : Int64) : entryFrame m #[(.ref x0), (.long x1), (.long x2)] 5 = mkF m 0 #[.val (.ref x0), .val (.long x1), .second, .val (.long x2), .second] [] := by first | (simp [entryFrame, mkF, argsToLocals, Value.category, maxLocals]; done) | rfl
set_option maxRecDepth 65536 in
set_option maxHeartbeats 40000000 in
theorem own_mt4 (l : Launch) (Z : State) (a0 : Array Value) (hw : ∀ d ∈ tables_1, d.before a0 Z = true) (x0 : Addr) (x1 : Int64) (x2 : Int64) (h0 : Heap) (n0 : Nat) (Z0 : n0 ≤ h0.size) (ge_x0 : n0 ≤ x0) (E_x0 : Exa Z h0 x0 "com/example/surrogate/surrogate/KeyRange") (F_lowest : Fld Z h0 x0 "com/example/surrogate/surrogate/KeyRange" "lowest" "J" (.long (0 : Int64))) (F_highest : Fld Z h0 x0 "com/example/surrogate/surrogate/KeyRange" "highest" "J" (.long (0 : Int64))) :
    own_Met l Z (⟨"com/example/surrogate/surrogate/KeyRange", "<init>", "(JJ)V"⟩ : MethodName) prog_24_method_1_code 5 none ({ frames := 1, cells := 0, slots := 0, locals := 12 } : Room) #[(.ref x0), (.long x1), (.long x2)] h0 (fun v h L => v = none ∧ Fr n0 L ∧ Keep h0 h [x0] ∧ Exa Z h x0 "com/example/surrogate/surrogate/KeyRange" ∧ Fld Z h x0 "com/example/surrogate/surrogate/KeyRange" "lowest" "J" (.long x1) ∧ Fld Z h x0 "com/example/surrogate/surrogate/KeyRange" "highest" "J" (.long x2)) := by
  refine own_intro (plainFor_of_name own_pn0) ?_
  intro p e s m below meth c s₁ hx hby hml hown hnm hZ hret hlk X0 e0
  refine own_cast (own_mt4_ef m x0 x1 x2) ?_
  have N0 := Fr.nil n0
  have K0 : Keep h0 h0 [x0] := Keep.refl _ _
  refine own_via (T' := s₁) (g' := (mkF m 1 #[.val (.ref x0), .val (.long x1), .second, .val (.long x2), .second] [(.ref x0)])) (fun t k => XS.aloadN X0.here hx rfl (hb hby own_d4_0) rfl rfl k) ?_
  obtain ⟨T1, X1, e1, st1⟩ := initO X0 hx hZ hown (hw _ (List.mem_of_getElem? (i := 47) rfl)) (hw _ (List.mem_of_getElem? (i := 48) rfl)) (hw _ (List.mem_of_getElem? (i := 49) rfl)) e0 (g := (mkF m 1 #[.val (.ref x0), .val (.long x1), .second, .val (.long x2), .second] [(.ref x0)])) rfl (by rw [hml]; rfl) rfl (hb hby own_d4_1) (by decide) (W := 0) (by show 2 * 0 + _ ≤ _; exact Nat.le_of_eq rfl) (by decide)
  refine own_via (T' := T1) (g' := (mkF m 4 #[.val (.ref x0), .val (.long x1), .second, .val (.long x2), .second] [])) st1 ?_
  refine own_via (T' := T1) (g' := (mkF m 6 #[.val (.ref x0), .val (.long x1), .second, .val (.long x2), .second] [(.long x1), (.ref x0)])) (fun t k => XS.aloadN X1.here hx rfl (hb hby own_d4_4) rfl rfl (XS.lloadN X1.here hx rfl (hb hby own_d4_5) rfl k)) ?_
  obtain ⟨T2, h2, X2, e2, W2, st2⟩ := putF X1 hx hZ hown (host := "") (Or.inl (hw _ (List.mem_of_getElem? (i := 11) rfl))) Via.refl e1 F_lowest E_x0 (Or.inr ⟨(hw _ (List.mem_of_getElem? (i := 12) rfl)), rfl, hnm⟩) (hw _ (List.mem_of_getElem? (i := 43) rfl)) (ty := .long) (by decide) rfl rfl (g := (mkF m 6 #[.val (.ref x0), .val (.long x1), .second, .val (.long x2), .second] [(.long x1), (.ref x0)])) rfl rfl (hb hby own_d4_6)
  have Fw2 := F_lowest.same W2
  have E_x0_at3 := E_x0.wr W2
  have F_highest_at4 := F_highest.other W2 (Or.inr (slot_ne (Or.inr (hw _ (List.mem_of_getElem? (i := 19) rfl))) (Or.inr (hw _ (List.mem_of_getElem? (i := 12) rfl))) (by decide) (t := .long) (t' := .long) (by decide) (by decide)))
  have N2 := Fr.snoc X2 N0 ge_x0
  have Z2 : n0 ≤ h2.size := Nat.le_trans Z0 (Nat.le_of_eq W2.size.symm)
  have K2 : Keep h0 h2 [x0] := K0.wr W2 (Or.inl (List.mem_of_getElem? (i := 0) rfl))
  refine own_via (T' := T2) (g' := (mkF m 9 #[.val (.ref x0), .val (.long x1), .second, .val (.long x2), .second] [])) st2 ?_
  refine own_via (T' := T2) (g' := (mkF m 11 #[.val (.ref x0), .val (.long x1), .second, .val (.long x2), .second] [(.long x2), (.ref x0)])) (fun t k => XS.aloadN X2.here hx rfl (hb hby own_d4_9) rfl rfl (XS.lloadN X2.here hx rfl (hb hby own_d4_10) rfl k)) ?_
  obtain ⟨T5, h5, X5, e5, W5, st5⟩ := putF X2 hx hZ hown (host := "") (Or.inl (hw _ (List.mem_of_getElem? (i := 18) rfl))) Via.refl e2 F_highest_at4 E_x0_at3 (Or.inr ⟨(hw _ (List.mem_of_getElem? (i := 19) rfl)), rfl, hnm⟩) (hw _ (List.mem_of_getElem? (i := 43) rfl)) (ty := .long) (by decide) rfl rfl (g := (mkF m 11 #[.val (.ref x0), .val (.long x1), .second, .val (.long x2), .second] [(.long x2), (.ref x0)])) rfl rfl (hb hby own_d4_11)
  have Fw5 := F_highest_at4.same W5
  have E_x0_at6 := E_x0_at3.wr W5
  have Fw2_at7 := Fw2.other W5 (Or.inr (slot_ne (Or.inr (hw _ (List.mem_of_getElem? (i := 12) rfl))) (Or.inr (hw _ (List.mem_of_getElem? (i := 19) rfl))) (by decide) (t := .long) (t' := .long) (by decide) (by decide)))
  have N5 := Fr.snoc X5 N2 ge_x0
  have Z5 : n0 ≤ h5.size := Nat.le_trans Z2 (Nat.le_of_eq W5.size.symm)
  have K5 : Keep h0 h5 [x0] := K2.wr W5 (Or.inl (List.mem_of_getElem? (i := 0) rfl))
  refine own_via (T' := T5) (g' := (mkF m 14 #[.val (.ref x0), .val (.long x1), .second, .val (.long x2), .second] [])) st5 ?_
  refine own_retV X5 hx hlk hret (hb hby own_d4_14) (by decide) (by decide) ?_
  rw [e5]; exact ⟨rfl, N5, K5, E_x0_at6, Fw2_at7, Fw5⟩
theorem own_d2_0 : decode prog_24_method_4_code 0 = .ok (.aload_n 0, 1) := by decide +kernel
theorem own_d2_1 : decode prog_24_method_4_code 1 = .ok (.getfield 7, 3) := by decide +kernel
theorem own_d2_4 : decode prog_24_method_4_code 4 = .ok (.lreturn, 1) := by decide +kernel
def own_low (lo : Int64) : Int64 := lo
set_option maxHeartbeats 40000000 in
theorem own_mt2_ef (m : MethodId) (x0 : Addr) : entryFrame m #[(.ref x0)] 1 = mkF m 0 #[.val (.ref x0)] [] := by first | (simp [entryFrame, mkF, argsToLocals, Value.category, maxLocals]; done) | rfl
set_option maxRecDepth 65536 in
set_option maxHeartbeats 40000000 in
theorem own_mt2 (l : Launch) (Z : State) (a0 : Array Value) (hw : ∀ d ∈ tables_1, d.before a0 Z = true) (x0 : Addr) (lo : Int64) (h0 : Heap) (F_lowest : Fld Z h0 x0 "com/example/surrogate/surrogate/KeyRange" "lowest" "J" (.long lo)) :
    own_Met l Z (⟨"com/example/surrogate/surrogate/KeyRange", "lowest", "()J"⟩ : MethodName) prog_24_method_4_code 1 (some .long) ({ frames := 0, cells := 0, slots := 0, locals := 0 } : Room) #[(.ref x0)] h0 (fun v h L => v = some (.long (own_low lo)) ∧ h = h0 ∧ L = []) := by
  refine own_intro (plainFor_of_name own_pn0) ?_
  intro p e s m below meth c s₁ hx hby hml hown hnm hZ hret hlk X0 e0
  refine own_cast (own_mt2_ef m x0) ?_
  refine own_via (T' := s₁) (g' := (mkF m 1 #[.val (.ref x0)] [(.ref x0)])) (fun t k => XS.aloadN X0.here hx rfl (hb hby own_d2_0) rfl rfl k) ?_
  obtain ⟨T1, X1, e1, st1⟩ := getF X0 hx hZ hown (host := "") (Or.inl (hw _ (List.mem_of_getElem? (i := 11) rfl))) Via.refl e0 F_lowest (g := (mkF m 1 #[.val (.ref x0)] [(.ref x0)])) rfl rfl (hb hby own_d2_1)
  refine own_via (T' := T1) (g' := (mkF m 4 #[.val (.ref x0)] [(.long lo)])) st1 ?_
  refine own_retJ X1 hx hlk hret (hb hby own_d2_4) (by decide) (by decide) ?_
  exact ⟨by rw [own_low] <;> rfl, e1, rfl⟩
theorem own_d3_0 : decode prog_24_method_5_code 0 = .ok (.aload_n 0, 1) := by decide +kernel
theorem own_d3_1 : decode prog_24_method_5_code 1 = .ok (.getfield 13, 3) := by decide +kernel
theorem own_d3_4 : decode prog_24_method_5_code 4 = .ok (.lreturn, 1) := by decide +kernel
def own_high (hi : Int64) : Int64 := hi
set_option maxHeartbeats 40000000 in
theorem own_mt3_ef (m : MethodId) (x0 : Addr) : entryFrame m #[(.ref x0)] 1 = mkF m 0 #[.val (.ref x0)] [] := by first | (simp [entryFrame, mkF, argsToLocals, Value.category, maxLocals]; done) | rfl
set_option maxRecDepth 65536 in
set_option maxHeartbeats 40000000 in
theorem own_mt3 (l : Launch) (Z : State) (a0 : Array Value) (hw : ∀ d ∈ tables_1, d.before a0 Z = true) (x0 : Addr) (hi : Int64) (h0 : Heap) (F_highest : Fld Z h0 x0 "com/example/surrogate/surrogate/KeyRange" "highest" "J" (.long hi)) :
    own_Met l Z (⟨"com/example/surrogate/surrogate/KeyRange", "highest", "()J"⟩ : MethodName) prog_24_method_5_code 1 (some .long) ({ frames := 0, cells := 0, slots := 0, locals := 0 } : Room) #[(.ref x0)] h0 (fun v h L => v = some (.long (own_high hi)) ∧ h = h0 ∧ L = []) := by
  refine own_intro (plainFor_of_name own_pn0) ?_
  intro p e s m below meth c s₁ hx hby hml hown hnm hZ hret hlk X0 e0
  refine own_cast (own_mt3_ef m x0) ?_
  refine own_via (T' := s₁) (g' := (mkF m 1 #[.val (.ref x0)] [(.ref x0)])) (fun t k => XS.aloadN X0.here hx rfl (hb hby own_d3_0) rfl rfl k) ?_
  obtain ⟨T1, X1, e1, st1⟩ := getF X0 hx hZ hown (host := "") (Or.inl (hw _ (List.mem_of_getElem? (i := 18) rfl))) Via.refl e0 F_highest (g := (mkF m 1 #[.val (.ref x0)] [(.ref x0)])) rfl rfl (hb hby own_d3_1)
  refine own_via (T' := T1) (g' := (mkF m 4 #[.val (.ref x0)] [(.long hi)])) st1 ?_
  refine own_retJ X1 hx hlk hret (hb hby own_d3_4) (by decide) (by decide) ?_
  exact ⟨by rw [own_high] <;> rfl, e1, rfl⟩
theorem own_d1_0 : decode prog_24_method_3_code 0 = .ok (.iload_n 0, 1) := by decide +kernel
theorem own_d1_1 : decode prog_24_method_3_code 1 = .ok (.iconst 1, 1) := by decide +kernel
theorem own_d1_2 : decode prog_24_method_3_code 2 = .ok (.if_icmp .lt 7, 3) := by decide +kernel
theorem own_d1_5 : decode prog_24_method_3_code 5 = .ok (.iload_n 1, 1) := by decide +kernel
theorem own_d1_6 : decode prog_24_method_3_code 6 = .ok (.ifCond .eq 7, 3) := by decide +kernel
theorem own_d1_9 : decode prog_24_method_3_code 9 = .ok (.getstatic 23, 3) := by decide +kernel
theorem own_d1_12 : decode prog_24_method_3_code 12 = .ok (.areturn, 1) := by decide +kernel
theorem own_d1_13 : decode prog_24_method_3_code 13 = .ok (.iload_n 0, 1) := by decide +kernel
theorem own_d1_14 : decode prog_24_method_3_code 14 = .ok (.bipush 18, 2) := by decide +kernel
theorem own_d1_16 : decode prog_24_method_3_code 16 = .ok (.if_icmp .le 25, 3) := by decide +kernel
theorem own_d1_19 : decode prog_24_method_3_code 19 = .ok (.iload_n 2, 1) := by decide +kernel
theorem own_d1_20 : decode prog_24_method_3_code 20 = .ok (.ifCond .eq 9, 3) := by decide +kernel
theorem own_d1_23 : decode prog_24_method_3_code 23 = .ok (.getstatic 23, 3) := by decide +kernel
theorem own_d1_26 : decode prog_24_method_3_code 26 = .ok (.goto 14, 3) := by decide +kernel
theorem own_d1_29 : decode prog_24_method_3_code 29 = .ok (.new 8, 3) := by decide +kernel
theorem own_d1_32 : decode prog_24_method_3_code 32 = .ok (.dup, 1) := by decide +kernel
theorem own_d1_33 : decode prog_24_method_3_code 33 = .ok (.lconst 0, 1) := by decide +kernel
theorem own_d1_34 : decode prog_24_method_3_code 34 = .ok (.ldc2_w 18, 3) := by decide +kernel
theorem own_d1_37 : decode prog_24_method_3_code 37 = .ok (.invokespecial 20, 3) := by decide +kernel
theorem own_d1_40 : decode prog_24_method_3_code 40 = .ok (.areturn, 1) := by decide +kernel
theorem own_d1_41 : decode prog_24_method_3_code 41 = .ok (.lconst 1, 1) := by decide +kernel
theorem own_d1_42 : decode prog_24_method_3_code 42 = .ok (.lstore_n 3, 1) := by decide +kernel
theorem own_d1_43 : decode prog_24_method_3_code 43 = .ok (.iconst 0, 1) := by decide +kernel
theorem own_d1_44 : decode prog_24_method_3_code 44 = .ok (.istore 5, 2) := by decide +kernel
theorem own_d1_46 : decode prog_24_method_3_code 46 = .ok (.iload 5, 2) := by decide +kernel
theorem own_d1_48 : decode prog_24_method_3_code 48 = .ok (.iload_n 0, 1) := by decide +kernel
theorem own_d1_49 : decode prog_24_method_3_code 49 = .ok (.if_icmp .ge 15, 3) := by decide +kernel
theorem own_d1_52 : decode prog_24_method_3_code 52 = .ok (.lload_n 3, 1) := by decide +kernel
theorem own_d1_53 : decode prog_24_method_3_code 53 = .ok (.ldc2_w 27, 3) := by decide +kernel
theorem own_d1_56 : decode prog_24_method_3_code 56 = .ok (.lmul, 1) := by decide +kernel
theorem own_d1_57 : decode prog_24_method_3_code 57 = .ok (.lstore_n 3, 1) := by decide +kernel
theorem own_d1_58 : decode prog_24_method_3_code 58 = .ok (.iinc 5 1, 3) := by decide +kernel
theorem own_d1_61 : decode prog_24_method_3_code 61 = .ok (.goto (-15), 3) := by decide +kernel
theorem own_d1_64 : decode prog_24_method_3_code 64 = .ok (.lload_n 3, 1) := by decide +kernel
theorem own_d1_65 : decode prog_24_method_3_code 65 = .ok (.lconst 1, 1) := by decide +kernel
theorem own_d1_66 : decode prog_24_method_3_code 66 = .ok (.lsub, 1) := by decide +kernel
theorem own_d1_67 : decode prog_24_method_3_code 67 = .ok (.lstore_n 3, 1) := by decide +kernel
theorem own_d1_68 : decode prog_24_method_3_code 68 = .ok (.new 8, 3) := by decide +kernel
theorem own_d1_71 : decode prog_24_method_3_code 71 = .ok (.dup, 1) := by decide +kernel
theorem own_d1_72 : decode prog_24_method_3_code 72 = .ok (.iload_n 2, 1) := by decide +kernel
theorem own_d1_73 : decode prog_24_method_3_code 73 = .ok (.ifCond .eq 8, 3) := by decide +kernel
theorem own_d1_76 : decode prog_24_method_3_code 76 = .ok (.lload_n 3, 1) := by decide +kernel
theorem own_d1_77 : decode prog_24_method_3_code 77 = .ok (.lneg, 1) := by decide +kernel
theorem own_d1_78 : decode prog_24_method_3_code 78 = .ok (.goto 4, 3) := by decide +kernel
theorem own_d1_81 : decode prog_24_method_3_code 81 = .ok (.lconst 0, 1) := by decide +kernel
theorem own_d1_82 : decode prog_24_method_3_code 82 = .ok (.lload_n 3, 1) := by decide +kernel
theorem own_d1_83 : decode prog_24_method_3_code 83 = .ok (.invokespecial 20, 3) := by decide +kernel
theorem own_d1_86 : decode prog_24_method_3_code 86 = .ok (.areturn, 1) := by decide +kernel
theorem own_pd0 : parseMethodDescriptor "(JJ)V" = some ⟨[.long, .long], none⟩ := by decide +kernel
def own_dec_r_lowest (x0 : Int32) (x1 : Int32) (x2 : Int32) : Int64 := (if x0 < (1 : Int32) then (-9223372036854775808 : Int64) else (if x1 = (0 : Int32) then (if (18 : Int32) < x0 then (if x2 = (0 : Int32) then (0 : Int64) else (-9223372036854775808 : Int64)) else (if (0 : Int32) < x0 then (if (1 : Int32) < x0 then (if (2 : Int32) < x0 then (if (3 : Int32) < x0 then (if (4 : Int32) < x0 then (if (5 : Int32) < x0 then (if (6 : Int32) < x0 then (if (7 : Int32) < x0 then (if (8 : Int32) < x0 then (if (9 : Int32) < x0 then (if (10 : Int32) < x0 then (if (11 : Int32) < x0 then (if (12 : Int32) < x0 then (if (13 : Int32) < x0 then (if (14 : Int32) < x0 then (if (15 : Int32) < x0 then (if (16 : Int32) < x0 then (if (17 : Int32) < x0 then (if x2 = (0 : Int32) then (0 : Int64) else (-999999999999999999 : Int64)) else (if x2 = (0 : Int32) then (0 : Int64) else (-99999999999999999 : Int64))) else (if x2 = (0 : Int32) then (0 : Int64) else (-9999999999999999 : Int64))) else (if x2 = (0 : Int32) then (0 : Int64) else (-999999999999999 : Int64))) else (if x2 = (0 : Int32) then (0 : Int64) else (-99999999999999 : Int64))) else (if x2 = (0 : Int32) then (0 : Int64) else (-9999999999999 : Int64))) else (if x2 = (0 : Int32) then (0 : Int64) else (-999999999999 : Int64))) else (if x2 = (0 : Int32) then (0 : Int64) else (-99999999999 : Int64))) else (if x2 = (0 : Int32) then (0 : Int64) else (-9999999999 : Int64))) else (if x2 = (0 : Int32) then (0 : Int64) else (-999999999 : Int64))) else (if x2 = (0 : Int32) then (0 : Int64) else (-99999999 : Int64))) else (if x2 = (0 : Int32) then (0 : Int64) else (-9999999 : Int64))) else (if x2 = (0 : Int32) then (0 : Int64) else (-999999 : Int64))) else (if x2 = (0 : Int32) then (0 : Int64) else (-99999 : Int64))) else (if x2 = (0 : Int32) then (0 : Int64) else (-9999 : Int64))) else (if x2 = (0 : Int32) then (0 : Int64) else (-999 : Int64))) else (if x2 = (0 : Int32) then (0 : Int64) else (-99 : Int64))) else (if x2 = (0 : Int32) then (0 : Int64) else (-9 : Int64))) else (if x2 = (0 : Int32) then (0 : Int64) else (0 : Int64)))) else (-9223372036854775808 : Int64)))
def own_dec_r_highest (x0 : Int32) (x1 : Int32) (x2 : Int32) : Int64 := (if x0 < (1 : Int32) then (9223372036854775807 : Int64) else (if x1 = (0 : Int32) then (if (18 : Int32) < x0 then (if x2 = (0 : Int32) then (9223372036854775807 : Int64) else (9223372036854775807 : Int64)) else (if (0 : Int32) < x0 then (if (1 : Int32) < x0 then (if (2 : Int32) < x0 then (if (3 : Int32) < x0 then (if (4 : Int32) < x0 then (if (5 : Int32) < x0 then (if (6 : Int32) < x0 then (if (7 : Int32) < x0 then (if (8 : Int32) < x0 then (if (9 : Int32) < x0 then (if (10 : Int32) < x0 then (if (11 : Int32) < x0 then (if (12 : Int32) < x0 then (if (13 : Int32) < x0 then (if (14 : Int32) < x0 then (if (15 : Int32) < x0 then (if (16 : Int32) < x0 then (if (17 : Int32) < x0 then (if x2 = (0 : Int32) then (999999999999999999 : Int64) else (999999999999999999 : Int64)) else (if x2 = (0 : Int32) then (99999999999999999 : Int64) else (99999999999999999 : Int64))) else (if x2 = (0 : Int32) then (9999999999999999 : Int64) else (9999999999999999 : Int64))) else (if x2 = (0 : Int32) then (999999999999999 : Int64) else (999999999999999 : Int64))) else (if x2 = (0 : Int32) then (99999999999999 : Int64) else (99999999999999 : Int64))) else (if x2 = (0 : Int32) then (9999999999999 : Int64) else (9999999999999 : Int64))) else (if x2 = (0 : Int32) then (999999999999 : Int64) else (999999999999 : Int64))) else (if x2 = (0 : Int32) then (99999999999 : Int64) else (99999999999 : Int64))) else (if x2 = (0 : Int32) then (9999999999 : Int64) else (9999999999 : Int64))) else (if x2 = (0 : Int32) then (999999999 : Int64) else (999999999 : Int64))) else (if x2 = (0 : Int32) then (99999999 : Int64) else (99999999 : Int64))) else (if x2 = (0 : Int32) then (9999999 : Int64) else (9999999 : Int64))) else (if x2 = (0 : Int32) then (999999 : Int64) else (999999 : Int64))) else (if x2 = (0 : Int32) then (99999 : Int64) else (99999 : Int64))) else (if x2 = (0 : Int32) then (9999 : Int64) else (9999 : Int64))) else (if x2 = (0 : Int32) then (999 : Int64) else (999 : Int64))) else (if x2 = (0 : Int32) then (99 : Int64) else (99 : Int64))) else (if x2 = (0 : Int32) then (9 : Int64) else (9 : Int64))) else (if x2 = (0 : Int32) then (0 : Int64) else (0 : Int64)))) else (9223372036854775807 : Int64)))
set_option maxHeartbeats 40000000 in
theorem own_mt1_ef (m : MethodId) (x0 : Int32) (x1 : Int32) (x2 : Int32) : entryFrame m #[(.int x0), (.int x1), (.int x2)] 6 = mkF m 0 #[.val (.int x0), .val (.int x1), .val (.int x2), .unset, .unset, .unset] [] := by first | (simp [entryFrame, mkF, argsToLocals, Value.category, maxLocals]; done) | rfl
set_option maxRecDepth 65536 in
set_option maxHeartbeats 40000000 in
theorem own_mt1 (l : Launch) (Z : State) (a0 : Array Value) (hw : ∀ d ∈ tables_1, d.before a0 Z = true) (x0 : Int32) (x1 : Int32) (x2 : Int32) (ev : Addr) (h0 : Heap) (n0 : Nat) (Z0 : n0 ≤ h0.size) (S_ev : Sta Z h0 "com/example/surrogate/surrogate/KeyRange" "EVERY_LONG" "Lcom/example/surrogate/surrogate/KeyRange;" (.ref ev)) (E_ev : Exa Z h0 ev "com/example/surrogate/surrogate/KeyRange") (Fe_lowest : Fld Z h0 ev "com/example/surrogate/surrogate/KeyRange" "lowest" "J" (.long (-9223372036854775808 : Int64))) (Fe_highest : Fld Z h0 ev "com/example/surrogate/surrogate/KeyRange" "highest" "J" (.long (9223372036854775807 : Int64))) :
    own_Met l Z (⟨"com/example/surrogate/surrogate/KeyRange", "ofDecimal", "(IIZ)Lcom/example/surrogate/surrogate/KeyRange;"⟩ : MethodName) prog_24_method_3_code 6 (some (.object "com/example/surrogate/surrogate/KeyRange")) ({ frames := 2, cells := 1, slots := 2, locals := 29 } : Room) #[(.int x0), (.int x1), (.int x2)] h0 (fun v h L => ∃ r : Addr, v = some (.ref r) ∧ Fr n0 L ∧ Keep h0 h [] ∧ Exa Z h r "com/example/surrogate/surrogate/KeyRange" ∧ Fld Z h r "com/example/surrogate/surrogate/KeyRange" "lowest" "J" (.long (own_dec_r_lowest x0 x1 x2)) ∧ Fld Z h r "com/example/surrogate/surrogate/KeyRange" "highest" "J" (.long (own_dec_r_highest x0 x1 x2))) := by
  refine own_intro (plainFor_of_name own_pn0) ?_
  intro p e s m below meth c s₁ hx hby hml hown hnm hZ hret hlk X0 e0
  refine own_cast (own_mt1_ef m x0 x1 x2) ?_
  have N0 := Fr.nil n0
  have K0 : Keep h0 h0 [] := Keep.refl _ _
  refine own_via (T' := s₁) (g' := (mkF m 2 #[.val (.int x0), .val (.int x1), .val (.int x2), .unset, .unset, .unset] [(.int (1 : Int32)), (.int x0)])) (fun t k => XS.iloadN X0.here hx rfl (hb hby own_d1_0) rfl (XS.iconst X0.here hx rfl (hb hby own_d1_1) k)) ?_
  by_cases hc1 : x0 < (1 : Int32)
  · refine own_via (T' := s₁) (g' := (mkF m 9 #[.val (.int x0), .val (.int x1), .val (.int x2), .unset, .unset, .unset] [])) (fun t k => XS.icmpYes X0.here hx rfl (pc0 := 2) (pc' := 9) rfl (hb hby own_d1_2) rfl (tlt hc1).1 (by decide) (by decide) k) ?_
    obtain ⟨T2, X2, e2, st2⟩ := getS2 X0 hx hZ hown (host := "") (Or.inl (hw _ (List.mem_of_getElem? (i := 4) rfl))) Via.refl e0 S_ev (g := (mkF m 9 #[.val (.int x0), .val (.int x1), .val (.int x2), .unset, .unset, .unset] [])) rfl (hb hby own_d1_9)
    refine own_via (T' := T2) (g' := (mkF m 12 #[.val (.int x0), .val (.int x1), .val (.int x2), .unset, .unset, .unset] [(.ref ev)])) st2 ?_
    refine own_retA X2 hx hlk hret rfl rfl (hb hby own_d1_12) (by decide) (by decide) ?_
    rw [e2]; exact ⟨ev, rfl, N0, K0, E_ev, (by rw [own_dec_r_lowest, if_pos hc1]; exact Fe_lowest), (by rw [own_dec_r_highest, if_pos hc1]; exact Fe_highest)⟩
  · refine own_via (T' := s₁) (g' := (mkF m 6 #[.val (.int x0), .val (.int x1), .val (.int x2), .unset, .unset, .unset] [(.int x1)])) (fun t k => XS.icmpNo X0.here hx rfl (hb hby own_d1_2) rfl (flt hc1).1 (XS.iloadN X0.here hx rfl (hb hby own_d1_5) rfl k)) ?_
    by_cases hc3 : x1 = (0 : Int32)
    · refine own_via (T' := s₁) (g' := (mkF m 16 #[.val (.int x0), .val (.int x1), .val (.int x2), .unset, .unset, .unset] [(.int (18 : Int32)), (.int x0)])) (fun t k => XS.ifYes X0.here hx rfl (pc0 := 6) (pc' := 13) rfl (hb hby own_d1_6) rfl ((if0 _ _).trans (teq hc3).1) (by decide) (by decide) (XS.iloadN X0.here hx rfl (hb hby own_d1_13) rfl (XS.bipush X0.here hx rfl (hb hby own_d1_14) k))) ?_
      by_cases hc4 : (18 : Int32) < x0
      · refine own_via (T' := s₁) (g' := (mkF m 20 #[.val (.int x0), .val (.int x1), .val (.int x2), .unset, .unset, .unset] [(.int x2)])) (fun t k => XS.icmpNo X0.here hx rfl (hb hby own_d1_16) rfl (tlt hc4).2.2.2 (XS.iloadN X0.here hx rfl (hb hby own_d1_19) rfl k)) ?_
        by_cases hc5 : x2 = (0 : Int32)
        · refine own_via (T' := s₁) (g' := (mkF m 29 #[.val (.int x0), .val (.int x1), .val (.int x2), .unset, .unset, .unset] [])) (fun t k => XS.ifYes X0.here hx rfl (pc0 := 20) (pc' := 29) rfl (hb hby own_d1_20) rfl ((if0 _ _).trans (teq hc5).1) (by decide) (by decide) k) ?_
          obtain ⟨T6, h6, X6, e6, E6, A6, D6, -, st6⟩ := newO X0 hx hZ hown (hw _ (List.mem_of_getElem? (i := 42) rfl)) (hw _ (List.mem_of_getElem? (i := 43) rfl)) (hw _ (List.mem_of_getElem? (i := 2) rfl)) e0 (g := (mkF m 29 #[.val (.int x0), .val (.int x1), .val (.int x2), .unset, .unset, .unset] [])) rfl (hb hby own_d1_29) (by decide) (by decide)
          obtain ⟨b6, g6⟩ : ∃ z, z = h0.size := ⟨_, rfl⟩
          rw [← g6] at A6 D6 st6
          have bd_b6 : h0.size ≤ b6 := Nat.le_of_eq g6.symm
          have ne_ev_b6 : ev ≠ b6 := own_ne_of E_ev.lt bd_b6
          have ge_b6 : n0 ≤ b6 := Nat.le_trans Z0 bd_b6
          have Z6 : n0 ≤ h6.size := Nat.le_trans Z0 E6.1
          have bo_b6 : h0.size ≤ b6 := Nat.le_trans K0.1 bd_b6
          have K6 : Keep h0 h6 [] := K0.ext E6
          have S_ev_at7 := S_ev.ext E6
          have E_ev_at8 := E_ev.ext E6
          have Fe_lowest_at9 := Fe_lowest.ext E6
          have Fe_highest_at10 := Fe_highest.ext E6
          have Flowest_6 : Fld Z h6 b6 "com/example/surrogate/surrogate/KeyRange" "lowest" "J" (.long (0 : Int64)) := D6 (Or.inr (hw _ (List.mem_of_getElem? (i := 12) rfl))) (ty := .long) (by decide)
          have Fhighest_6 : Fld Z h6 b6 "com/example/surrogate/surrogate/KeyRange" "highest" "J" (.long (0 : Int64)) := D6 (Or.inr (hw _ (List.mem_of_getElem? (i := 19) rfl))) (ty := .long) (by decide)
          refine own_via (T' := T6) (g' := (mkF m 32 #[.val (.int x0), .val (.int x1), .val (.int x2), .unset, .unset, .unset] [(.ref b6)])) st6 ?_
          refine own_via (T' := T6) (g' := (mkF m 34 #[.val (.int x0), .val (.int x1), .val (.int x2), .unset, .unset, .unset] [(.long (0 : Int64)), (.ref b6), (.ref b6)])) (fun t k => XS.dup X6.here hx rfl (hb hby own_d1_32) rfl rfl (XS.lconst X6.here hx rfl (hb hby own_d1_33) k)) ?_
          refine own_via (T' := T6) (g' := (mkF m 37 #[.val (.int x0), .val (.int x1), .val (.int x2), .unset, .unset, .unset] [(.long (9223372036854775807 : Int64)), (.long (0 : Int64)), (.ref b6), (.ref b6)])) (X6.ldc2Long hx hown (mvT hZ (hw _ (List.mem_of_getElem? (i := 50) rfl))) (g := (mkF m 34 #[.val (.int x0), .val (.int x1), .val (.int x2), .unset, .unset, .unset] [(.long (0 : Int64)), (.ref b6), (.ref b6)])) rfl (hb hby own_d1_34)) ?_
          obtain ⟨v11, T11, L11, X11, hQ11, st11⟩ := own_callSp (y := (⟨"com/example/surrogate/surrogate/KeyRange", "<init>", "(JJ)V"⟩ : MethodName)) (a := b6) (argsL := [(.long (0 : Int64)), (.long (9223372036854775807 : Int64))]) (rest := [(.ref b6)]) X6 hx hZ hown rfl (hw _ (List.mem_of_getElem? (i := 44) rfl)) (hw _ (List.mem_of_getElem? (i := 45) rfl)) (hw _ (List.mem_of_getElem? (i := 2) rfl)) (hw _ (List.mem_of_getElem? (i := 46) rfl)) (by decide) (own_mt4 l Z a0 hw b6 (0 : Int64) (9223372036854775807 : Int64) h6 n0 Z6 ge_b6 A6 Flowest_6 Fhighest_6) e6 (W := 1) (by decide) (by decide) (g := (mkF m 37 #[.val (.int x0), .val (.int x1), .val (.int x2), .unset, .unset, .unset] [(.long (9223372036854775807 : Int64)), (.long (0 : Int64)), (.ref b6), (.ref b6)])) rfl (by rw [hml]; rfl) (lenOf own_pd0 rfl) rfl (by show 2 * 0 + _ ≤ _; exact Nat.le_of_eq rfl) (hb hby own_d1_37) (by decide) (by decide)
          obtain ⟨rfl, Nq11, K11q, G11_0, G11_1, G11_2⟩ := hQ11
          have N11 := Fr.app N0 Nq11
          have Z11 : n0 ≤ T11.heap.size := Nat.le_trans Z6 K11q.1
          have K11 : Keep h0 T11.heap [] := K6.trans K11q (allS (Or.inr bo_b6) all0)
          have E_ev_at13 := E_ev_at8.keep K11q
          have Fe_lowest_at14 := Fe_lowest_at9.keep K11q (ninS ne_ev_b6 nin0)
          have Fe_highest_at15 := Fe_highest_at10.keep K11q (ninS ne_ev_b6 nin0)
          have A6_at16 := A6.keep K11q
          refine own_via (T' := T11) (g' := (mkF m 40 #[.val (.int x0), .val (.int x1), .val (.int x2), .unset, .unset, .unset] [(.ref b6)])) st11 ?_
          refine own_retA X11 hx hlk hret rfl rfl (hb hby own_d1_40) (by decide) (by decide) ?_
          exact ⟨b6, rfl, N11, K11, G11_0, (by rw [own_dec_r_lowest, if_neg hc1, if_pos hc3, if_pos hc4, if_pos hc5]; exact G11_1), (by rw [own_dec_r_highest, if_neg hc1, if_pos hc3, if_pos hc4, if_pos hc5]; exact G11_2)⟩
        · refine own_via (T' := s₁) (g' := (mkF m 23 #[.val (.int x0), .val (.int x1), .val (.int x2), .unset, .unset, .unset] [])) (fun t k => XS.ifNo X0.here hx rfl (hb hby own_d1_20) rfl ((if0 _ _).trans (feq hc5).1) k) ?_
          obtain ⟨T17, X17, e17, st17⟩ := getS2 X0 hx hZ hown (host := "") (Or.inl (hw _ (List.mem_of_getElem? (i := 4) rfl))) Via.refl e0 S_ev (g := (mkF m 23 #[.val (.int x0), .val (.int x1), .val (.int x2), .unset, .unset, .unset] [])) rfl (hb hby own_d1_23)
          refine own_via (T' := T17) (g' := (mkF m 26 #[.val (.int x0), .val (.int x1), .val (.int x2), .unset, .unset, .unset] [(.ref ev)])) st17 ?_
          refine own_via (T' := T17) (g' := (mkF m 40 #[.val (.int x0), .val (.int x1), .val (.int x2), .unset, .unset, .unset] [(.ref ev)])) (fun t k => XS.goto X17.here hx rfl (pc0 := 26) (pc' := 40) rfl (hb hby own_d1_26) (by decide) (by decide) k) ?_
          refine own_retA X17 hx hlk hret rfl rfl (hb hby own_d1_40) (by decide) (by decide) ?_
          rw [e17]; exact ⟨ev, rfl, N0, K0, E_ev, (by rw [own_dec_r_lowest, if_neg hc1, if_pos hc3, if_pos hc4, if_neg hc5]; exact Fe_lowest), (by rw [own_dec_r_highest, if_neg hc1, if_pos hc3, if_pos hc4, if_neg hc5]; exact Fe_highest)⟩
      · refine own_via (T' := s₁) (g' := (mkF m 49 #[.val (.int x0), .val (.int x1), .val (.int x2), .val (.long (1 : Int64)), .second, .val (.int (0 : Int32))] [(.int x0), (.int (0 : Int32))])) (fun t k => XS.icmpYes X0.here hx rfl (pc0 := 16) (pc' := 41) rfl (hb hby own_d1_16) rfl (flt hc4).2.2.2 (by decide) (by decide) (XS.lconst X0.here hx rfl (hb hby own_d1_41) (XS.lstoreN X0.here hx rfl (hb hby own_d1_42) rfl (l' := #[.val (.int x0), .val (.int x1), .val (.int x2), .val (.long (1 : Int64)), .second, .unset]) rfl (XS.iconst X0.here hx rfl (hb hby own_d1_43) (XS.istore X0.here hx rfl (hb hby own_d1_44) rfl (l' := #[.val (.int x0), .val (.int x1), .val (.int x2), .val (.long (1 : Int64)), .second, .val (.int (0 : Int32))]) rfl (XS.iload X0.here hx rfl (hb hby own_d1_46) rfl (XS.iloadN X0.here hx rfl (hb hby own_d1_48) rfl k))))))) ?_
        by_cases hc18 : (0 : Int32) < x0
        · refine own_via (T' := s₁) (g' := (mkF m 53 #[.val (.int x0), .val (.int x1), .val (.int x2), .val (.long (1 : Int64)), .second, .val (.int (0 : Int32))] [(.long (1 : Int64))])) (fun t k => XS.icmpNo X0.here hx rfl (hb hby own_d1_49) rfl (tlt hc18).2.1 (XS.lloadN X0.here hx rfl (hb hby own_d1_52) rfl k)) ?_
          refine own_via (T' := s₁) (g' := (mkF m 56 #[.val (.int x0), .val (.int x1), .val (.int x2), .val (.long (1 : Int64)), .second, .val (.int (0 : Int32))] [(.long (10 : Int64)), (.long (1 : Int64))])) (X0.ldc2Long hx hown (mvT hZ (hw _ (List.mem_of_getElem? (i := 41) rfl))) (g := (mkF m 53 #[.val (.int x0), .val (.int x1), .val (.int x2), .val (.long (1 : Int64)), .second, .val (.int (0 : Int32))] [(.long (1 : Int64))])) rfl (hb hby own_d1_53)) ?_
          refine own_via (T' := s₁) (g' := (mkF m 49 #[.val (.int x0), .val (.int x1), .val (.int x2), .val (.long (10 : Int64)), .second, .val (.int (1 : Int32))] [(.int x0), (.int (1 : Int32))])) (fun t k => XS.lmul X0.here hx rfl (hb hby own_d1_56) rfl (XS.lstoreN X0.here hx rfl (hb hby own_d1_57) rfl (l' := #[.val (.int x0), .val (.int x1), .val (.int x2), .val (.long (10 : Int64)), .second, .val (.int (0 : Int32))]) rfl (XS.iinc X0.here hx rfl (hb hby own_d1_58) rfl (l' := #[.val (.int x0), .val (.int x1), .val (.int x2), .val (.long (10 : Int64)), .second, .val (.int (1 : Int32))]) rfl (XS.goto X0.here hx rfl (pc0 := 61) (pc' := 46) rfl (hb hby own_d1_61) (by decide) (by decide) (XS.iload X0.here hx rfl (hb hby own_d1_46) rfl (XS.iloadN X0.here hx rfl (hb hby own_d1_48) rfl k)))))) ?_
          by_cases hc19 : (1 : Int32) < x0
          · refine own_via (T' := s₁) (g' := (mkF m 53 #[.val (.int x0), .val (.int x1), .val (.int x2), .val (.long (10 : Int64)), .second, .val (.int (1 : Int32))] [(.long (10 : Int64))])) (fun t k => XS.icmpNo X0.here hx rfl (hb hby own_d1_49) rfl (tlt hc19).2.1 (XS.lloadN X0.here hx rfl (hb hby own_d1_52) rfl k)) ?_
            refine own_via (T' := s₁) (g' := (mkF m 56 #[.val (.int x0), .val (.int x1), .val (.int x2), .val (.long (10 : Int64)), .second, .val (.int (1 : Int32))] [(.long (10 : Int64)), (.long (10 : Int64))])) (X0.ldc2Long hx hown (mvT hZ (hw _ (List.mem_of_getElem? (i := 41) rfl))) (g := (mkF m 53 #[.val (.int x0), .val (.int x1), .val (.int x2), .val (.long (10 : Int64)), .second, .val (.int (1 : Int32))] [(.long (10 : Int64))])) rfl (hb hby own_d1_53)) ?_
            refine own_via (T' := s₁) (g' := (mkF m 49 #[.val (.int x0), .val (.int x1), .val (.int x2), .val (.long (100 : Int64)), .second, .val (.int (2 : Int32))] [(.int x0), (.int (2 : Int32))])) (fun t k => XS.lmul X0.here hx rfl (hb hby own_d1_56) rfl (XS.lstoreN X0.here hx rfl (hb hby own_d1_57) rfl (l' := #[.val (.int x0), .val (.int x1), .val (.int x2), .val (.long (100 : Int64)), .second, .val (.int (1 : Int32))]) rfl (XS.iinc X0.here hx rfl (hb hby own_d1_58) rfl (l' := #[.val (.int x0), .val (.int x1), .val (.int x2), .val (.long (100 : Int64)), .second, .val (.int (2 : Int32))]) rfl (XS.goto X0.here hx rfl (pc0 := 61) (pc' := 46) rfl (hb hby own_d1_61) (by decide) (by decide) (XS.iload X0.here hx rfl (hb hby own_d1_46) rfl (XS.iloadN X0.here hx rfl (hb hby own_d1_48) rfl k)))))) ?_
            by_cases hc20 : (2 : Int32) < x0
            · refine own_via (T' := s₁) (g' := (mkF m 53 #[.val (.int x0), .val (.int x1), .val (.int x2), .val (.long (100 : Int64)), .second, .val (.int (2 : Int32))] [(.long (100 : Int64))])) (fun t k => XS.icmpNo X0.here hx rfl (hb hby own_d1_49) rfl (tlt hc20).2.1 (XS.lloadN X0.here hx rfl (hb hby own_d1_52) rfl k)) ?_
              refine own_via (T' := s₁) (g' := (mkF m 56 #[.val (.int x0), .val (.int x1), .val (.int x2), .val (.long (100 : Int64)), .second, .val (.int (2 : Int32))] [(.long (10 : Int64)), (.long (100 : Int64))])) (X0.ldc2Long hx hown (mvT hZ (hw _ (List.mem_of_getElem? (i := 41) rfl))) (g := (mkF m 53 #[.val (.int x0), .val (.int x1), .val (.int x2), .val (.long (100 : Int64)), .second, .val (.int (2 : Int32))] [(.long (100 : Int64))])) rfl (hb hby own_d1_53)) ?_
              refine own_via (T' := s₁) (g' := (mkF m 49 #[.val (.int x0), .val (.int x1), .val (.int x2), .val (.long (1000 : Int64)), .second, .val (.int (3 : Int32))] [(.int x0), (.int (3 : Int32))])) (fun t k => XS.lmul X0.here hx rfl (hb hby own_d1_56) rfl (XS.lstoreN X0.here hx rfl (hb hby own_d1_57) rfl (l' := #[.val (.int x0), .val (.int x1), .val (.int x2), .val (.long (1000 : Int64)), .second, .val (.int (2 : Int32))]) rfl (XS.iinc X0.here hx rfl (hb hby own_d1_58) rfl (l' := #[.val (.int x0), .val (.int x1), .val (.int x2), .val (.long (1000 : Int64)), .second, .val (.int (3 : Int32))]) rfl (XS.goto X0.here hx rfl (pc0 := 61) (pc' := 46) rfl (hb hby own_d1_61) (by decide) (by decide) (XS.iload X0.here hx rfl (hb hby own_d1_46) rfl (XS.iloadN X0.here hx rfl (hb hby own_d1_48) rfl k)))))) ?_
              by_cases hc21 : (3 : Int32) < x0
              · refine own_via (T' := s₁) (g' := (mkF m 53 #[.val (.int x0), .val (.int x1), .val (.int x2), .val (.long (1000 : Int64)), .second, .val (.int (3 : Int32))] [(.long (1000 : Int64))])) (fun t k => XS.icmpNo X0.here hx rfl (hb hby own_d1_49) rfl (tlt hc21).2.1 (XS.lloadN X0.here hx rfl (hb hby own_d1_52) rfl k)) ?_
                refine own_via (T' := s₁) (g' := (mkF m 56 #[.val (.int x0), .val (.int x1), .val (.int x2), .val (.long (1000 : Int64)), .second, .val (.int (3 : Int32))] [(.long (10 : Int64)), (.long (1000 : Int64))])) (X0.ldc2Long hx hown (mvT hZ (hw _ (List.mem_of_getElem? (i := 41) rfl))) (g := (mkF m 53 #[.val (.int x0), .val (.int x1), .val (.int x2), .val (.long (1000 : Int64)), .second, .val (.int (3 : Int32))] [(.long (1000 : Int64))])) rfl (hb hby own_d1_53)) ?_
                refine own_via (T' := s₁) (g' := (mkF m 49 #[.val (.int x0), .val (.int x1), .val (.int x2), .val (.long (10000 : Int64)), .second, .val (.int (4 : Int32))] [(.int x0), (.int (4 : Int32))])) (fun t k => XS.lmul X0.here hx rfl (hb hby own_d1_56) rfl (XS.lstoreN X0.here hx rfl (hb hby own_d1_57) rfl (l' := #[.val (.int x0), .val (.int x1), .val (.int x2), .val (.long (10000 : Int64)), .second, .val (.int (3 : Int32))]) rfl (XS.iinc X0.here hx rfl (hb hby own_d1_58) rfl (l' := #[.val (.int x0), .val (.int x1), .val (.int x2), .val (.long (10000 : Int64)), .second, .val (.int (4 : Int32))]) rfl (XS.goto X0.here hx rfl (pc0 := 61) (pc' := 46) rfl (hb hby own_d1_61) (by decide) (by decide) (XS.iload X0.here hx rfl (hb hby own_d1_46) rfl (XS.iloadN X0.here hx rfl (hb hby own_d1_48) rfl k)))))) ?_
                by_cases hc22 : (4 : Int32) < x0
                · refine own_via (T' := s₁) (g' := (mkF m 53 #[.val (.int x0), .val (.int x1), .val (.int x2), .val (.long (10000 : Int64)), .second, .val (.int (4 : Int32))] [(.long (10000 : Int64))])) (fun t k => XS.icmpNo X0.here hx rfl (hb hby own_d1_49) rfl (tlt hc22).2.1 (XS.lloadN X0.here hx rfl (hb hby own_d1_52) rfl k)) ?_
                  refine own_via (T' := s₁) (g' := (mkF m 56 #[.val (.int x0), .val (.int x1), .val (.int x2), .val (.long (10000 : Int64)), .second, .val (.int (4 : Int32))] [(.long (10 : Int64)), (.long (10000 : Int64))])) (X0.ldc2Long hx hown (mvT hZ (hw _ (List.mem_of_getElem? (i := 41) rfl))) (g := (mkF m 53 #[.val (.int x0), .val (.int x1), .val (.int x2), .val (.long (10000 : Int64)), .second, .val (.int (4 : Int32))] [(.long (10000 : Int64))])) rfl (hb hby own_d1_53)) ?_
                  refine own_via (T' := s₁) (g' := (mkF m 49 #[.val (.int x0), .val (.int x1), .val (.int x2), .val (.long (100000 : Int64)), .second, .val (.int (5 : Int32))] [(.int x0), (.int (5 : Int32))])) (fun t k => XS.lmul X0.here hx rfl (hb hby own_d1_56) rfl (XS.lstoreN X0.here hx rfl (hb hby own_d1_57) rfl (l' := #[.val (.int x0), .val (.int x1), .val (.int x2), .val (.long (100000 : Int64)), .second, .val (.int (4 : Int32))]) rfl (XS.iinc X0.here hx rfl (hb hby own_d1_58) rfl (l' := #[.val (.int x0), .val (.int x1), .val (.int x2), .val (.long (100000 : Int64)), .second, .val (.int (5 : Int32))]) rfl (XS.goto X0.here hx rfl (pc0 := 61) (pc' := 46) rfl (hb hby own_d1_61) (by decide) (by decide) (XS.iload X0.here hx rfl (hb hby own_d1_46) rfl (XS.iloadN X0.here hx rfl (hb hby own_d1_48) rfl k)))))) ?_
                  by_cases hc23 : (5 : Int32) < x0
                  · refine own_via (T' := s₁) (g' := (mkF m 53 #[.val (.int x0), .val (.int x1), .val (.int x2), .val (.long (100000 : Int64)), .second, .val (.int (5 : Int32))] [(.long (100000 : Int64))])) (fun t k => XS.icmpNo X0.here hx rfl (hb hby own_d1_49) rfl (tlt hc23).2.1 (XS.lloadN X0.here hx rfl (hb hby own_d1_52) rfl k)) ?_
                    refine own_via (T' := s₁) (g' := (mkF m 56 #[.val (.int x0), .val (.int x1), .val (.int x2), .val (.long (100000 : Int64)), .second, .val (.int (5 : Int32))] [(.long (10 : Int64)), (.long (100000 : Int64))])) (X0.ldc2Long hx hown (mvT hZ (hw _ (List.mem_of_getElem? (i := 41) rfl))) (g := (mkF m 53 #[.val (.int x0), .val (.int x1), .val (.int x2), .val (.long (100000 : Int64)), .second, .val (.int (5 : Int32))] [(.long (100000 : Int64))])) rfl (hb hby own_d1_53)) ?_
                    refine own_via (T' := s₁) (g' := (mkF m 49 #[.val (.int x0), .val (.int x1), .val (.int x2), .val (.long (1000000 : Int64)), .second, .val (.int (6 : Int32))] [(.int x0), (.int (6 : Int32))])) (fun t k => XS.lmul X0.here hx rfl (hb hby own_d1_56) rfl (XS.lstoreN X0.here hx rfl (hb hby own_d1_57) rfl (l' := #[.val (.int x0), .val (.int x1), .val (.int x2), .val (.long (1000000 : Int64)), .second, .val (.int (5 : Int32))]) rfl (XS.iinc X0.here hx rfl (hb hby own_d1_58) rfl (l' := #[.val (.int x0), .val (.int x1), .val (.int x2), .val (.long (1000000 : Int64)), .second, .val (.int (6 : Int32))]) rfl (XS.goto X0.here hx rfl (pc0 := 61) (pc' := 46) rfl (hb hby own_d1_61) (by decide) (by decide) (XS.iload X0.here hx rfl (hb hby own_d1_46) rfl (XS.iloadN X0.here hx rfl (hb hby own_d1_48) rfl k)))))) ?_
                    by_cases hc24 : (6 : Int32) < x0
                    · refine own_via (T' := s₁) (g' := (mkF m 53 #[.val (.int x0), .val (.int x1), .val (.int x2), .val (.long (1000000 : Int64)), .second, .val (.int (6 : Int32))] [(.long (1000000 : Int64))])) (fun t k => XS.icmpNo X0.here hx rfl (hb hby own_d1_49) rfl (tlt hc24).2.1 (XS.lloadN X0.here hx rfl (hb hby own_d1_52) rfl k)) ?_
                      refine own_via (T' := s₁) (g' := (mkF m 56 #[.val (.int x0), .val (.int x1), .val (.int x2), .val (.long (1000000 : Int64)), .second, .val (.int (6 : Int32))] [(.long (10 : Int64)), (.long (1000000 : Int64))])) (X0.ldc2Long hx hown (mvT hZ (hw _ (List.mem_of_getElem? (i := 41) rfl))) (g := (mkF m 53 #[.val (.int x0), .val (.int x1), .val (.int x2), .val (.long (1000000 : Int64)), .second, .val (.int (6 : Int32))] [(.long (1000000 : Int64))])) rfl (hb hby own_d1_53)) ?_
                      refine own_via (T' := s₁) (g' := (mkF m 49 #[.val (.int x0), .val (.int x1), .val (.int x2), .val (.long (10000000 : Int64)), .second, .val (.int (7 : Int32))] [(.int x0), (.int (7 : Int32))])) (fun t k => XS.lmul X0.here hx rfl (hb hby own_d1_56) rfl (XS.lstoreN X0.here hx rfl (hb hby own_d1_57) rfl (l' := #[.val (.int x0), .val (.int x1), .val (.int x2), .val (.long (10000000 : Int64)), .second, .val (.int (6 : Int32))]) rfl (XS.iinc X0.here hx rfl (hb hby own_d1_58) rfl (l' := #[.val (.int x0), .val (.int x1), .val (.int x2), .val (.long (10000000 : Int64)), .second, .val (.int (7 : Int32))]) rfl (XS.goto X0.here hx rfl (pc0 := 61) (pc' := 46) rfl (hb hby own_d1_61) (by decide) (by decide) (XS.iload X0.here hx rfl (hb hby own_d1_46) rfl (XS.iloadN X0.here hx rfl (hb hby own_d1_48) rfl k)))))) ?_
                      by_cases hc25 : (7 : Int32) < x0
                      · refine own_via (T' := s₁) (g' := (mkF m 53 #[.val (.int x0), .val (.int x1), .val (.int x2), .val (.long (10000000 : Int64)), .second, .val (.int (7 : Int32))] [(.long (10000000 : Int64))])) (fun t k => XS.icmpNo X0.here hx rfl (hb hby own_d1_49) rfl (tlt hc25).2.1 (XS.lloadN X0.here hx rfl (hb hby own_d1_52) rfl k)) ?_
                        refine own_via (T' := s₁) (g' := (mkF m 56 #[.val (.int x0), .val (.int x1), .val (.int x2), .val (.long (10000000 : Int64)), .second, .val (.int (7 : Int32))] [(.long (10 : Int64)), (.long (10000000 : Int64))])) (X0.ldc2Long hx hown (mvT hZ (hw _ (List.mem_of_getElem? (i := 41) rfl))) (g := (mkF m 53 #[.val (.int x0), .val (.int x1), .val (.int x2), .val (.long (10000000 : Int64)), .second, .val (.int (7 : Int32))] [(.long (10000000 : Int64))])) rfl (hb hby own_d1_53)) ?_
                        refine own_via (T' := s₁) (g' := (mkF m 49 #[.val (.int x0), .val (.int x1), .val (.int x2), .val (.long (100000000 : Int64)), .second, .val (.int (8 : Int32))] [(.int x0), (.int (8 : Int32))])) (fun t k => XS.lmul X0.here hx rfl (hb hby own_d1_56) rfl (XS.lstoreN X0.here hx rfl (hb hby own_d1_57) rfl (l' := #[.val (.int x0), .val (.int x1), .val (.int x2), .val (.long (100000000 : Int64)), .second, .val (.int (7 : Int32))]) rfl (XS.iinc X0.here hx rfl (hb hby own_d1_58) rfl (l' := #[.val (.int x0), .val (.int x1), .val (.int x2), .val (.long (100000000 : Int64)), .second, .val (.int (8 : Int32))]) rfl (XS.goto X0.here hx rfl (pc0 := 61) (pc' := 46) rfl (hb hby own_d1_61) (by decide) (by decide) (XS.iload X0.here hx rfl (hb hby own_d1_46) rfl (XS.iloadN X0.here hx rfl (hb hby own_d1_48) rfl k)))))) ?_
                        by_cases hc26 : (8 : Int32) < x0
                        · refine own_via (T' := s₁) (g' := (mkF m 53 #[.val (.int x0), .val (.int x1), .val (.int x2), .val (.long (100000000 : Int64)), .second, .val (.int (8 : Int32))] [(.long (100000000 : Int64))])) (fun t k => XS.icmpNo X0.here hx rfl (hb hby own_d1_49) rfl (tlt hc26).2.1 (XS.lloadN X0.here hx rfl (hb hby own_d1_52) rfl k)) ?_
                          refine own_via (T' := s₁) (g' := (mkF m 56 #[.val (.int x0), .val (.int x1), .val (.int x2), .val (.long (100000000 : Int64)), .second, .val (.int (8 : Int32))] [(.long (10 : Int64)), (.long (100000000 : Int64))])) (X0.ldc2Long hx hown (mvT hZ (hw _ (List.mem_of_getElem? (i := 41) rfl))) (g := (mkF m 53 #[.val (.int x0), .val (.int x1), .val (.int x2), .val (.long (100000000 : Int64)), .second, .val (.int (8 : Int32))] [(.long (100000000 : Int64))])) rfl (hb hby own_d1_53)) ?_
                          refine own_via (T' := s₁) (g' := (mkF m 49 #[.val (.int x0), .val (.int x1), .val (.int x2), .val (.long (1000000000 : Int64)), .second, .val (.int (9 : Int32))] [(.int x0), (.int (9 : Int32))])) (fun t k => XS.lmul X0.here hx rfl (hb hby own_d1_56) rfl (XS.lstoreN X0.here hx rfl (hb hby own_d1_57) rfl (l' := #[.val (.int x0), .val (.int x1), .val (.int x2), .val (.long (1000000000 : Int64)), .second, .val (.int (8 : Int32))]) rfl (XS.iinc X0.here hx rfl (hb hby own_d1_58) rfl (l' := #[.val (.int x0), .val (.int x1), .val (.int x2), .val (.long (1000000000 : Int64)), .second, .val (.int (9 : Int32))]) rfl (XS.goto X0.here hx rfl (pc0 := 61) (pc' := 46) rfl (hb hby own_d1_61) (by decide) (by decide) (XS.iload X0.here hx rfl (hb hby own_d1_46) rfl (XS.iloadN X0.here hx rfl (hb hby own_d1_48) rfl k)))))) ?_
                          by_cases hc27 : (9 : Int32) < x0
                          · refine own_via (T' := s₁) (g' := (mkF m 53 #[.val (.int x0), .val (.int x1), .val (.int x2), .val (.long (1000000000 : Int64)), .second, .val (.int (9 : Int32))] [(.long (1000000000 : Int64))])) (fun t k => XS.icmpNo X0.here hx rfl (hb hby own_d1_49) rfl (tlt hc27).2.1 (XS.lloadN X0.here hx rfl (hb hby own_d1_52) rfl k)) ?_
                            refine own_via (T' := s₁) (g' := (mkF m 56 #[.val (.int x0), .val (.int x1), .val (.int x2), .val (.long (1000000000 : Int64)), .second, .val (.int (9 : Int32))] [(.long (10 : Int64)), (.long (1000000000 : Int64))])) (X0.ldc2Long hx hown (mvT hZ (hw _ (List.mem_of_getElem? (i := 41) rfl))) (g := (mkF m 53 #[.val (.int x0), .val (.int x1), .val (.int x2), .val (.long (1000000000 : Int64)), .second, .val (.int (9 : Int32))] [(.long (1000000000 : Int64))])) rfl (hb hby own_d1_53)) ?_
                            refine own_via (T' := s₁) (g' := (mkF m 49 #[.val (.int x0), .val (.int x1), .val (.int x2), .val (.long (10000000000 : Int64)), .second, .val (.int (10 : Int32))] [(.int x0), (.int (10 : Int32))])) (fun t k => XS.lmul X0.here hx rfl (hb hby own_d1_56) rfl (XS.lstoreN X0.here hx rfl (hb hby own_d1_57) rfl (l' := #[.val (.int x0), .val (.int x1), .val (.int x2), .val (.long (10000000000 : Int64)), .second, .val (.int (9 : Int32))]) rfl (XS.iinc X0.here hx rfl (hb hby own_d1_58) rfl (l' := #[.val (.int x0), .val (.int x1), .val (.int x2), .val (.long (10000000000 : Int64)), .second, .val (.int (10 : Int32))]) rfl (XS.goto X0.here hx rfl (pc0 := 61) (pc' := 46) rfl (hb hby own_d1_61) (by decide) (by decide) (XS.iload X0.here hx rfl (hb hby own_d1_46) rfl (XS.iloadN X0.here hx rfl (hb hby own_d1_48) rfl k)))))) ?_
                            by_cases hc28 : (10 : Int32) < x0
                            · refine own_via (T' := s₁) (g' := (mkF m 53 #[.val (.int x0), .val (.int x1), .val (.int x2), .val (.long (10000000000 : Int64)), .second, .val (.int (10 : Int32))] [(.long (10000000000 : Int64))])) (fun t k => XS.icmpNo X0.here hx rfl (hb hby own_d1_49) rfl (tlt hc28).2.1 (XS.lloadN X0.here hx rfl (hb hby own_d1_52) rfl k)) ?_
                              refine own_via (T' := s₁) (g' := (mkF m 56 #[.val (.int x0), .val (.int x1), .val (.int x2), .val (.long (10000000000 : Int64)), .second, .val (.int (10 : Int32))] [(.long (10 : Int64)), (.long (10000000000 : Int64))])) (X0.ldc2Long hx hown (mvT hZ (hw _ (List.mem_of_getElem? (i := 41) rfl))) (g := (mkF m 53 #[.val (.int x0), .val (.int x1), .val (.int x2), .val (.long (10000000000 : Int64)), .second, .val (.int (10 : Int32))] [(.long (10000000000 : Int64))])) rfl (hb hby own_d1_53)) ?_
                              refine own_via (T' := s₁) (g' := (mkF m 49 #[.val (.int x0), .val (.int x1), .val (.int x2), .val (.long (100000000000 : Int64)), .second, .val (.int (11 : Int32))] [(.int x0), (.int (11 : Int32))])) (fun t k => XS.lmul X0.here hx rfl (hb hby own_d1_56) rfl (XS.lstoreN X0.here hx rfl (hb hby own_d1_57) rfl (l' := #[.val (.int x0), .val (.int x1), .val (.int x2), .val (.long (100000000000 : Int64)), .second, .val (.int (10 : Int32))]) rfl (XS.iinc X0.here hx rfl (hb hby own_d1_58) rfl (l' := #[.val (.int x0), .val (.int x1), .val (.int x2), .val (.long (100000000000 : Int64)), .second, .val (.int (11 : Int32))]) rfl (XS.goto X0.here hx rfl (pc0 := 61) (pc' := 46) rfl (hb hby own_d1_61) (by decide) (by decide) (XS.iload X0.here hx rfl (hb hby own_d1_46) rfl (XS.iloadN X0.here hx rfl (hb hby own_d1_48) rfl k)))))) ?_
                              by_cases hc29 : (11 : Int32) < x0
                              · refine own_via (T' := s₁) (g' := (mkF m 53 #[.val (.int x0), .val (.int x1), .val (.int x2), .val (.long (100000000000 : Int64)), .second, .val (.int (11 : Int32))] [(.long (100000000000 : Int64))])) (fun t k => XS.icmpNo X0.here hx rfl (hb hby own_d1_49) rfl (tlt hc29).2.1 (XS.lloadN X0.here hx rfl (hb hby own_d1_52) rfl k)) ?_
                                refine own_via (T' := s₁) (g' := (mkF m 56 #[.val (.int x0), .val (.int x1), .val (.int x2), .val (.long (100000000000 : Int64)), .second, .val (.int (11 : Int32))] [(.long (10 : Int64)), (.long (100000000000 : Int64))])) (X0.ldc2Long hx hown (mvT hZ (hw _ (List.mem_of_getElem? (i := 41) rfl))) (g := (mkF m 53 #[.val (.int x0), .val (.int x1), .val (.int x2), .val (.long (100000000000 : Int64)), .second, .val (.int (11 : Int32))] [(.long (100000000000 : Int64))])) rfl (hb hby own_d1_53)) ?_
                                refine own_via (T' := s₁) (g' := (mkF m 49 #[.val (.int x0), .val (.int x1), .val (.int x2), .val (.long (1000000000000 : Int64)), .second, .val (.int (12 : Int32))] [(.int x0), (.int (12 : Int32))])) (fun t k => XS.lmul X0.here hx rfl (hb hby own_d1_56) rfl (XS.lstoreN X0.here hx rfl (hb hby own_d1_57) rfl (l' := #[.val (.int x0), .val (.int x1), .val (.int x2), .val (.long (1000000000000 : Int64)), .second, .val (.int (11 : Int32))]) rfl (XS.iinc X0.here hx rfl (hb hby own_d1_58) rfl (l' := #[.val (.int x0), .val (.int x1), .val (.int x2), .val (.long (1000000000000 : Int64)), .second, .val (.int (12 : Int32))]) rfl (XS.goto X0.here hx rfl (pc0 := 61) (pc' := 46) rfl (hb hby own_d1_61) (by decide) (by decide) (XS.iload X0.here hx rfl (hb hby own_d1_46) rfl (XS.iloadN X0.here hx rfl (hb hby own_d1_48) rfl k)))))) ?_
                                by_cases hc30 : (12 : Int32) < x0
                                · refine own_via (T' := s₁) (g' := (mkF m 53 #[.val (.int x0), .val (.int x1), .val (.int x2), .val (.long (1000000000000 : Int64)), .second, .val (.int (12 : Int32))] [(.long (1000000000000 : Int64))])) (fun t k => XS.icmpNo X0.here hx rfl (hb hby own_d1_49) rfl (tlt hc30).2.1 (XS.lloadN X0.here hx rfl (hb hby own_d1_52) rfl k)) ?_
                                  refine own_via (T' := s₁) (g' := (mkF m 56 #[.val (.int x0), .val (.int x1), .val (.int x2), .val (.long (1000000000000 : Int64)), .second, .val (.int (12 : Int32))] [(.long (10 : Int64)), (.long (1000000000000 : Int64))])) (X0.ldc2Long hx hown (mvT hZ (hw _ (List.mem_of_getElem? (i := 41) rfl))) (g := (mkF m 53 #[.val (.int x0), .val (.int x1), .val (.int x2), .val (.long (1000000000000 : Int64)), .second, .val (.int (12 : Int32))] [(.long (1000000000000 : Int64))])) rfl (hb hby own_d1_53)) ?_
                                  refine own_via (T' := s₁) (g' := (mkF m 49 #[.val (.int x0), .val (.int x1), .val (.int x2), .val (.long (10000000000000 : Int64)), .second, .val (.int (13 : Int32))] [(.int x0), (.int (13 : Int32))])) (fun t k => XS.lmul X0.here hx rfl (hb hby own_d1_56) rfl (XS.lstoreN X0.here hx rfl (hb hby own_d1_57) rfl (l' := #[.val (.int x0), .val (.int x1), .val (.int x2), .val (.long (10000000000000 : Int64)), .second, .val (.int (12 : Int32))]) rfl (XS.iinc X0.here hx rfl (hb hby own_d1_58) rfl (l' := #[.val (.int x0), .val (.int x1), .val (.int x2), .val (.long (10000000000000 : Int64)), .second, .val (.int (13 : Int32))]) rfl (XS.goto X0.here hx rfl (pc0 := 61) (pc' := 46) rfl (hb hby own_d1_61) (by decide) (by decide) (XS.iload X0.here hx rfl (hb hby own_d1_46) rfl (XS.iloadN X0.here hx rfl (hb hby own_d1_48) rfl k)))))) ?_
                                  by_cases hc31 : (13 : Int32) < x0
                                  · refine own_via (T' := s₁) (g' := (mkF m 53 #[.val (.int x0), .val (.int x1), .val (.int x2), .val (.long (10000000000000 : Int64)), .second, .val (.int (13 : Int32))] [(.long (10000000000000 : Int64))])) (fun t k => XS.icmpNo X0.here hx rfl (hb hby own_d1_49) rfl (tlt hc31).2.1 (XS.lloadN X0.here hx rfl (hb hby own_d1_52) rfl k)) ?_
                                    refine own_via (T' := s₁) (g' := (mkF m 56 #[.val (.int x0), .val (.int x1), .val (.int x2), .val (.long (10000000000000 : Int64)), .second, .val (.int (13 : Int32))] [(.long (10 : Int64)), (.long (10000000000000 : Int64))])) (X0.ldc2Long hx hown (mvT hZ (hw _ (List.mem_of_getElem? (i := 41) rfl))) (g := (mkF m 53 #[.val (.int x0), .val (.int x1), .val (.int x2), .val (.long (10000000000000 : Int64)), .second, .val (.int (13 : Int32))] [(.long (10000000000000 : Int64))])) rfl (hb hby own_d1_53)) ?_
                                    refine own_via (T' := s₁) (g' := (mkF m 49 #[.val (.int x0), .val (.int x1), .val (.int x2), .val (.long (100000000000000 : Int64)), .second, .val (.int (14 : Int32))] [(.int x0), (.int (14 : Int32))])) (fun t k => XS.lmul X0.here hx rfl (hb hby own_d1_56) rfl (XS.lstoreN X0.here hx rfl (hb hby own_d1_57) rfl (l' := #[.val (.int x0), .val (.int x1), .val (.int x2), .val (.long (100000000000000 : Int64)), .second, .val (.int (13 : Int32))]) rfl (XS.iinc X0.here hx rfl (hb hby own_d1_58) rfl (l' := #[.val (.int x0), .val (.int x1), .val (.int x2), .val (.long (100000000000000 : Int64)), .second, .val (.int (14 : Int32))]) rfl (XS.goto X0.here hx rfl (pc0 := 61) (pc' := 46) rfl (hb hby own_d1_61) (by decide) (by decide) (XS.iload X0.here hx rfl (hb hby own_d1_46) rfl (XS.iloadN X0.here hx rfl (hb hby own_d1_48) rfl k)))))) ?_
                                    by_cases hc32 : (14 : Int32) < x0
                                    · refine own_via (T' := s₁) (g' := (mkF m 53 #[.val (.int x0), .val (.int x1), .val (.int x2), .val (.long (100000000000000 : Int64)), .second, .val (.int (14 : Int32))] [(.long (100000000000000 : Int64))])) (fun t k => XS.icmpNo X0.here hx rfl (hb hby own_d1_49) rfl (tlt hc32).2.1 (XS.lloadN X0.here hx rfl (hb hby own_d1_52) rfl k)) ?_
                                      refine own_via (T' := s₁) (g' := (mkF m 56 #[.val (.int x0), .val (.int x1), .val (.int x2), .val (.long (100000000000000 : Int64)), .second, .val (.int (14 : Int32))] [(.long (10 : Int64)), (.long (100000000000000 : Int64))])) (X0.ldc2Long hx hown (mvT hZ (hw _ (List.mem_of_getElem? (i := 41) rfl))) (g := (mkF m 53 #[.val (.int x0), .val (.int x1), .val (.int x2), .val (.long (100000000000000 : Int64)), .second, .val (.int (14 : Int32))] [(.long (100000000000000 : Int64))])) rfl (hb hby own_d1_53)) ?_
                                      refine own_via (T' := s₁) (g' := (mkF m 49 #[.val (.int x0), .val (.int x1), .val (.int x2), .val (.long (1000000000000000 : Int64)), .second, .val (.int (15 : Int32))] [(.int x0), (.int (15 : Int32))])) (fun t k => XS.lmul X0.here hx rfl (hb hby own_d1_56) rfl (XS.lstoreN X0.here hx rfl (hb hby own_d1_57) rfl (l' := #[.val (.int x0), .val (.int x1), .val (.int x2), .val (.long (1000000000000000 : Int64)), .second, .val (.int (14 : Int32))]) rfl (XS.iinc X0.here hx rfl (hb hby own_d1_58) rfl (l' := #[.val (.int x0), .val (.int x1), .val (.int x2), .val (.long (1000000000000000 : Int64)), .second, .val (.int (15 : Int32))]) rfl (XS.goto X0.here hx rfl (pc0 := 61) (pc' := 46) rfl (hb hby own_d1_61) (by decide) (by decide) (XS.iload X0.here hx rfl (hb hby own_d1_46) rfl (XS.iloadN X0.here hx rfl (hb hby own_d1_48) rfl k)))))) ?_
                                      by_cases hc33 : (15 : Int32) < x0
                                      · refine own_via (T' := s₁) (g' := (mkF m 53 #[.val (.int x0), .val (.int x1), .val (.int x2), .val (.long (1000000000000000 : Int64)), .second, .val (.int (15 : Int32))] [(.long (1000000000000000 : Int64))])) (fun t k => XS.icmpNo X0.here hx rfl (hb hby own_d1_49) rfl (tlt hc33).2.1 (XS.lloadN X0.here hx rfl (hb hby own_d1_52) rfl k)) ?_
                                        refine own_via (T' := s₁) (g' := (mkF m 56 #[.val (.int x0), .val (.int x1), .val (.int x2), .val (.long (1000000000000000 : Int64)), .second, .val (.int (15 : Int32))] [(.long (10 : Int64)), (.long (1000000000000000 : Int64))])) (X0.ldc2Long hx hown (mvT hZ (hw _ (List.mem_of_getElem? (i := 41) rfl))) (g := (mkF m 53 #[.val (.int x0), .val (.int x1), .val (.int x2), .val (.long (1000000000000000 : Int64)), .second, .val (.int (15 : Int32))] [(.long (1000000000000000 : Int64))])) rfl (hb hby own_d1_53)) ?_
                                        refine own_via (T' := s₁) (g' := (mkF m 49 #[.val (.int x0), .val (.int x1), .val (.int x2), .val (.long (10000000000000000 : Int64)), .second, .val (.int (16 : Int32))] [(.int x0), (.int (16 : Int32))])) (fun t k => XS.lmul X0.here hx rfl (hb hby own_d1_56) rfl (XS.lstoreN X0.here hx rfl (hb hby own_d1_57) rfl (l' := #[.val (.int x0), .val (.int x1), .val (.int x2), .val (.long (10000000000000000 : Int64)), .second, .val (.int (15 : Int32))]) rfl (XS.iinc X0.here hx rfl (hb hby own_d1_58) rfl (l' := #[.val (.int x0), .val (.int x1), .val (.int x2), .val (.long (10000000000000000 : Int64)), .second, .val (.int (16 : Int32))]) rfl (XS.goto X0.here hx rfl (pc0 := 61) (pc' := 46) rfl (hb hby own_d1_61) (by decide) (by decide) (XS.iload X0.here hx rfl (hb hby own_d1_46) rfl (XS.iloadN X0.here hx rfl (hb hby own_d1_48) rfl k)))))) ?_
                                        by_cases hc34 : (16 : Int32) < x0
                                        · refine own_via (T' := s₁) (g' := (mkF m 53 #[.val (.int x0), .val (.int x1), .val (.int x2), .val (.long (10000000000000000 : Int64)), .second, .val (.int (16 : Int32))] [(.long (10000000000000000 : Int64))])) (fun t k => XS.icmpNo X0.here hx rfl (hb hby own_d1_49) rfl (tlt hc34).2.1 (XS.lloadN X0.here hx rfl (hb hby own_d1_52) rfl k)) ?_
                                          refine own_via (T' := s₁) (g' := (mkF m 56 #[.val (.int x0), .val (.int x1), .val (.int x2), .val (.long (10000000000000000 : Int64)), .second, .val (.int (16 : Int32))] [(.long (10 : Int64)), (.long (10000000000000000 : Int64))])) (X0.ldc2Long hx hown (mvT hZ (hw _ (List.mem_of_getElem? (i := 41) rfl))) (g := (mkF m 53 #[.val (.int x0), .val (.int x1), .val (.int x2), .val (.long (10000000000000000 : Int64)), .second, .val (.int (16 : Int32))] [(.long (10000000000000000 : Int64))])) rfl (hb hby own_d1_53)) ?_
                                          refine own_via (T' := s₁) (g' := (mkF m 49 #[.val (.int x0), .val (.int x1), .val (.int x2), .val (.long (100000000000000000 : Int64)), .second, .val (.int (17 : Int32))] [(.int x0), (.int (17 : Int32))])) (fun t k => XS.lmul X0.here hx rfl (hb hby own_d1_56) rfl (XS.lstoreN X0.here hx rfl (hb hby own_d1_57) rfl (l' := #[.val (.int x0), .val (.int x1), .val (.int x2), .val (.long (100000000000000000 : Int64)), .second, .val (.int (16 : Int32))]) rfl (XS.iinc X0.here hx rfl (hb hby own_d1_58) rfl (l' := #[.val (.int x0), .val (.int x1), .val (.int x2), .val (.long (100000000000000000 : Int64)), .second, .val (.int (17 : Int32))]) rfl (XS.goto X0.here hx rfl (pc0 := 61) (pc' := 46) rfl (hb hby own_d1_61) (by decide) (by decide) (XS.iload X0.here hx rfl (hb hby own_d1_46) rfl (XS.iloadN X0.here hx rfl (hb hby own_d1_48) rfl k)))))) ?_
                                          by_cases hc35 : (17 : Int32) < x0
                                          · refine own_via (T' := s₁) (g' := (mkF m 53 #[.val (.int x0), .val (.int x1), .val (.int x2), .val (.long (100000000000000000 : Int64)), .second, .val (.int (17 : Int32))] [(.long (100000000000000000 : Int64))])) (fun t k => XS.icmpNo X0.here hx rfl (hb hby own_d1_49) rfl (tlt hc35).2.1 (XS.lloadN X0.here hx rfl (hb hby own_d1_52) rfl k)) ?_
                                            refine own_via (T' := s₁) (g' := (mkF m 56 #[.val (.int x0), .val (.int x1), .val (.int x2), .val (.long (100000000000000000 : Int64)), .second, .val (.int (17 : Int32))] [(.long (10 : Int64)), (.long (100000000000000000 : Int64))])) (X0.ldc2Long hx hown (mvT hZ (hw _ (List.mem_of_getElem? (i := 41) rfl))) (g := (mkF m 53 #[.val (.int x0), .val (.int x1), .val (.int x2), .val (.long (100000000000000000 : Int64)), .second, .val (.int (17 : Int32))] [(.long (100000000000000000 : Int64))])) rfl (hb hby own_d1_53)) ?_
                                            refine own_via (T' := s₁) (g' := (mkF m 49 #[.val (.int x0), .val (.int x1), .val (.int x2), .val (.long (1000000000000000000 : Int64)), .second, .val (.int (18 : Int32))] [(.int x0), (.int (18 : Int32))])) (fun t k => XS.lmul X0.here hx rfl (hb hby own_d1_56) rfl (XS.lstoreN X0.here hx rfl (hb hby own_d1_57) rfl (l' := #[.val (.int x0), .val (.int x1), .val (.int x2), .val (.long (1000000000000000000 : Int64)), .second, .val (.int (17 : Int32))]) rfl (XS.iinc X0.here hx rfl (hb hby own_d1_58) rfl (l' := #[.val (.int x0), .val (.int x1), .val (.int x2), .val (.long (1000000000000000000 : Int64)), .second, .val (.int (18 : Int32))]) rfl (XS.goto X0.here hx rfl (pc0 := 61) (pc' := 46) rfl (hb hby own_d1_61) (by decide) (by decide) (XS.iload X0.here hx rfl (hb hby own_d1_46) rfl (XS.iloadN X0.here hx rfl (hb hby own_d1_48) rfl k)))))) ?_
                                            refine own_via (T' := s₁) (g' := (mkF m 68 #[.val (.int x0), .val (.int x1), .val (.int x2), .val (.long (999999999999999999 : Int64)), .second, .val (.int (18 : Int32))] [])) (fun t k => XS.icmpYes X0.here hx rfl (pc0 := 49) (pc' := 64) rfl (hb hby own_d1_49) rfl (flt hc4).2.1 (by decide) (by decide) (XS.lloadN X0.here hx rfl (hb hby own_d1_64) rfl (XS.lconst X0.here hx rfl (hb hby own_d1_65) (XS.lsub X0.here hx rfl (hb hby own_d1_66) rfl (XS.lstoreN X0.here hx rfl (hb hby own_d1_67) rfl (l' := #[.val (.int x0), .val (.int x1), .val (.int x2), .val (.long (999999999999999999 : Int64)), .second, .val (.int (18 : Int32))]) rfl k))))) ?_
                                            obtain ⟨T36, h36, X36, e36, E36, A36, D36, -, st36⟩ := newO X0 hx hZ hown (hw _ (List.mem_of_getElem? (i := 42) rfl)) (hw _ (List.mem_of_getElem? (i := 43) rfl)) (hw _ (List.mem_of_getElem? (i := 2) rfl)) e0 (g := (mkF m 68 #[.val (.int x0), .val (.int x1), .val (.int x2), .val (.long (999999999999999999 : Int64)), .second, .val (.int (18 : Int32))] [])) rfl (hb hby own_d1_68) (by decide) (by decide)
                                            obtain ⟨b36, g36⟩ : ∃ z, z = h0.size := ⟨_, rfl⟩
                                            rw [← g36] at A36 D36 st36
                                            have bd_b36 : h0.size ≤ b36 := Nat.le_of_eq g36.symm
                                            have ne_ev_b36 : ev ≠ b36 := own_ne_of E_ev.lt bd_b36
                                            have ge_b36 : n0 ≤ b36 := Nat.le_trans Z0 bd_b36
                                            have Z36 : n0 ≤ h36.size := Nat.le_trans Z0 E36.1
                                            have bo_b36 : h0.size ≤ b36 := Nat.le_trans K0.1 bd_b36
                                            have K36 : Keep h0 h36 [] := K0.ext E36
                                            have S_ev_at37 := S_ev.ext E36
                                            have E_ev_at38 := E_ev.ext E36
                                            have Fe_lowest_at39 := Fe_lowest.ext E36
                                            have Fe_highest_at40 := Fe_highest.ext E36
                                            have Flowest_36 : Fld Z h36 b36 "com/example/surrogate/surrogate/KeyRange" "lowest" "J" (.long (0 : Int64)) := D36 (Or.inr (hw _ (List.mem_of_getElem? (i := 12) rfl))) (ty := .long) (by decide)
                                            have Fhighest_36 : Fld Z h36 b36 "com/example/surrogate/surrogate/KeyRange" "highest" "J" (.long (0 : Int64)) := D36 (Or.inr (hw _ (List.mem_of_getElem? (i := 19) rfl))) (ty := .long) (by decide)
                                            refine own_via (T' := T36) (g' := (mkF m 71 #[.val (.int x0), .val (.int x1), .val (.int x2), .val (.long (999999999999999999 : Int64)), .second, .val (.int (18 : Int32))] [(.ref b36)])) st36 ?_
                                            refine own_via (T' := T36) (g' := (mkF m 73 #[.val (.int x0), .val (.int x1), .val (.int x2), .val (.long (999999999999999999 : Int64)), .second, .val (.int (18 : Int32))] [(.int x2), (.ref b36), (.ref b36)])) (fun t k => XS.dup X36.here hx rfl (hb hby own_d1_71) rfl rfl (XS.iloadN X36.here hx rfl (hb hby own_d1_72) rfl k)) ?_
                                            by_cases hc41 : x2 = (0 : Int32)
                                            · refine own_via (T' := T36) (g' := (mkF m 83 #[.val (.int x0), .val (.int x1), .val (.int x2), .val (.long (999999999999999999 : Int64)), .second, .val (.int (18 : Int32))] [(.long (999999999999999999 : Int64)), (.long (0 : Int64)), (.ref b36), (.ref b36)])) (fun t k => XS.ifYes X36.here hx rfl (pc0 := 73) (pc' := 81) rfl (hb hby own_d1_73) rfl ((if0 _ _).trans (teq hc41).1) (by decide) (by decide) (XS.lconst X36.here hx rfl (hb hby own_d1_81) (XS.lloadN X36.here hx rfl (hb hby own_d1_82) rfl k))) ?_
                                              obtain ⟨v42, T42, L42, X42, hQ42, st42⟩ := own_callSp (y := (⟨"com/example/surrogate/surrogate/KeyRange", "<init>", "(JJ)V"⟩ : MethodName)) (a := b36) (argsL := [(.long (0 : Int64)), (.long (999999999999999999 : Int64))]) (rest := [(.ref b36)]) X36 hx hZ hown rfl (hw _ (List.mem_of_getElem? (i := 44) rfl)) (hw _ (List.mem_of_getElem? (i := 45) rfl)) (hw _ (List.mem_of_getElem? (i := 2) rfl)) (hw _ (List.mem_of_getElem? (i := 46) rfl)) (by decide) (own_mt4 l Z a0 hw b36 (0 : Int64) (999999999999999999 : Int64) h36 n0 Z36 ge_b36 A36 Flowest_36 Fhighest_36) e36 (W := 1) (by decide) (by decide) (g := (mkF m 83 #[.val (.int x0), .val (.int x1), .val (.int x2), .val (.long (999999999999999999 : Int64)), .second, .val (.int (18 : Int32))] [(.long (999999999999999999 : Int64)), (.long (0 : Int64)), (.ref b36), (.ref b36)])) rfl (by rw [hml]; rfl) (lenOf own_pd0 rfl) rfl (by show 2 * 0 + _ ≤ _; exact Nat.le_of_eq rfl) (hb hby own_d1_83) (by decide) (by decide)
                                              obtain ⟨rfl, Nq42, K42q, G42_0, G42_1, G42_2⟩ := hQ42
                                              have N42 := Fr.app N0 Nq42
                                              have Z42 : n0 ≤ T42.heap.size := Nat.le_trans Z36 K42q.1
                                              have K42 : Keep h0 T42.heap [] := K36.trans K42q (allS (Or.inr bo_b36) all0)
                                              have E_ev_at44 := E_ev_at38.keep K42q
                                              have Fe_lowest_at45 := Fe_lowest_at39.keep K42q (ninS ne_ev_b36 nin0)
                                              have Fe_highest_at46 := Fe_highest_at40.keep K42q (ninS ne_ev_b36 nin0)
                                              have A36_at47 := A36.keep K42q
                                              refine own_via (T' := T42) (g' := (mkF m 86 #[.val (.int x0), .val (.int x1), .val (.int x2), .val (.long (999999999999999999 : Int64)), .second, .val (.int (18 : Int32))] [(.ref b36)])) st42 ?_
                                              refine own_retA X42 hx hlk hret rfl rfl (hb hby own_d1_86) (by decide) (by decide) ?_
                                              exact ⟨b36, rfl, N42, K42, G42_0, (by rw [own_dec_r_lowest, if_neg hc1, if_pos hc3, if_neg hc4, if_pos hc18, if_pos hc19, if_pos hc20, if_pos hc21, if_pos hc22, if_pos hc23, if_pos hc24, if_pos hc25, if_pos hc26, if_pos hc27, if_pos hc28, if_pos hc29, if_pos hc30, if_pos hc31, if_pos hc32, if_pos hc33, if_pos hc34, if_pos hc35, if_pos hc41]; exact G42_1), (by rw [own_dec_r_highest, if_neg hc1, if_pos hc3, if_neg hc4, if_pos hc18, if_pos hc19, if_pos hc20, if_pos hc21, if_pos hc22, if_pos hc23, if_pos hc24, if_pos hc25, if_pos hc26, if_pos hc27, if_pos hc28, if_pos hc29, if_pos hc30, if_pos hc31, if_pos hc32, if_pos hc33, if_pos hc34, if_pos hc35, if_pos hc41]; exact G42_2)⟩
                                            · refine own_via (T' := T36) (g' := (mkF m 83 #[.val (.int x0), .val (.int x1), .val (.int x2), .val (.long (999999999999999999 : Int64)), .second, .val (.int (18 : Int32))] [(.long (999999999999999999 : Int64)), (.long (-999999999999999999 : Int64)), (.ref b36), (.ref b36)])) (fun t k => XS.ifNo X36.here hx rfl (hb hby own_d1_73) rfl ((if0 _ _).trans (feq hc41).1) (XS.lloadN X36.here hx rfl (hb hby own_d1_76) rfl (XS.lneg X36.here hx rfl (hb hby own_d1_77) rfl (XS.goto X36.here hx rfl (pc0 := 78) (pc' := 82) rfl (hb hby own_d1_78) (by decide) (by decide) (XS.lloadN X36.here hx rfl (hb hby own_d1_82) rfl k))))) ?_
                                              obtain ⟨v48, T48, L48, X48, hQ48, st48⟩ := own_callSp (y := (⟨"com/example/surrogate/surrogate/KeyRange", "<init>", "(JJ)V"⟩ : MethodName)) (a := b36) (argsL := [(.long (-999999999999999999 : Int64)), (.long (999999999999999999 : Int64))]) (rest := [(.ref b36)]) X36 hx hZ hown rfl (hw _ (List.mem_of_getElem? (i := 44) rfl)) (hw _ (List.mem_of_getElem? (i := 45) rfl)) (hw _ (List.mem_of_getElem? (i := 2) rfl)) (hw _ (List.mem_of_getElem? (i := 46) rfl)) (by decide) (own_mt4 l Z a0 hw b36 (-999999999999999999 : Int64) (999999999999999999 : Int64) h36 n0 Z36 ge_b36 A36 Flowest_36 Fhighest_36) e36 (W := 1) (by decide) (by decide) (g := (mkF m 83 #[.val (.int x0), .val (.int x1), .val (.int x2), .val (.long (999999999999999999 : Int64)), .second, .val (.int (18 : Int32))] [(.long (999999999999999999 : Int64)), (.long (-999999999999999999 : Int64)), (.ref b36), (.ref b36)])) rfl (by rw [hml]; rfl) (lenOf own_pd0 rfl) rfl (by show 2 * 0 + _ ≤ _; exact Nat.le_of_eq rfl) (hb hby own_d1_83) (by decide) (by decide)
                                              obtain ⟨rfl, Nq48, K48q, G48_0, G48_1, G48_2⟩ := hQ48
                                              have N48 := Fr.app N0 Nq48
                                              have Z48 : n0 ≤ T48.heap.size := Nat.le_trans Z36 K48q.1
                                              have K48 : Keep h0 T48.heap [] := K36.trans K48q (allS (Or.inr bo_b36) all0)
                                              have E_ev_at50 := E_ev_at38.keep K48q
                                              have Fe_lowest_at51 := Fe_lowest_at39.keep K48q (ninS ne_ev_b36 nin0)
                                              have Fe_highest_at52 := Fe_highest_at40.keep K48q (ninS ne_ev_b36 nin0)
                                              have A36_at53 := A36.keep K48q
                                              refine own_via (T' := T48) (g' := (mkF m 86 #[.val (.int x0), .val (.int x1), .val (.int x2), .val (.long (999999999999999999 : Int64)), .second, .val (.int (18 : Int32))] [(.ref b36)])) st48 ?_
                                              refine own_retA X48 hx hlk hret rfl rfl (hb hby own_d1_86) (by decide) (by decide) ?_
                                              exact ⟨b36, rfl, N48, K48, G48_0, (by rw [own_dec_r_lowest, if_neg hc1, if_pos hc3, if_neg hc4, if_pos hc18, if_pos hc19, if_pos hc20, if_pos hc21, if_pos hc22, if_pos hc23, if_pos hc24, if_pos hc25, if_pos hc26, if_pos hc27, if_pos hc28, if_pos hc29, if_pos hc30, if_pos hc31, if_pos hc32, if_pos hc33, if_pos hc34, if_pos hc35, if_neg hc41]; exact G48_1), (by rw [own_dec_r_highest, if_neg hc1, if_pos hc3, if_neg hc4, if_pos hc18, if_pos hc19, if_pos hc20, if_pos hc21, if_pos hc22, if_pos hc23, if_pos hc24, if_pos hc25, if_pos hc26, if_pos hc27, if_pos hc28, if_pos hc29, if_pos hc30, if_pos hc31, if_pos hc32, if_pos hc33, if_pos hc34, if_pos hc35, if_neg hc41]; exact G48_2)⟩
                                          · refine own_via (T' := s₁) (g' := (mkF m 68 #[.val (.int x0), .val (.int x1), .val (.int x2), .val (.long (99999999999999999 : Int64)), .second, .val (.int (17 : Int32))] [])) (fun t k => XS.icmpYes X0.here hx rfl (pc0 := 49) (pc' := 64) rfl (hb hby own_d1_49) rfl (flt hc35).2.1 (by decide) (by decide) (XS.lloadN X0.here hx rfl (hb hby own_d1_64) rfl (XS.lconst X0.here hx rfl (hb hby own_d1_65) (XS.lsub X0.here hx rfl (hb hby own_d1_66) rfl (XS.lstoreN X0.here hx rfl (hb hby own_d1_67) rfl (l' := #[.val (.int x0), .val (.int x1), .val (.int x2), .val (.long (99999999999999999 : Int64)), .second, .val (.int (17 : Int32))]) rfl k))))) ?_
                                            obtain ⟨T54, h54, X54, e54, E54, A54, D54, -, st54⟩ := newO X0 hx hZ hown (hw _ (List.mem_of_getElem? (i := 42) rfl)) (hw _ (List.mem_of_getElem? (i := 43) rfl)) (hw _ (List.mem_of_getElem? (i := 2) rfl)) e0 (g := (mkF m 68 #[.val (.int x0), .val (.int x1), .val (.int x2), .val (.long (99999999999999999 : Int64)), .second, .val (.int (17 : Int32))] [])) rfl (hb hby own_d1_68) (by decide) (by decide)
                                            obtain ⟨b54, g54⟩ : ∃ z, z = h0.size := ⟨_, rfl⟩
                                            rw [← g54] at A54 D54 st54
                                            have bd_b54 : h0.size ≤ b54 := Nat.le_of_eq g54.symm
                                            have ne_ev_b54 : ev ≠ b54 := own_ne_of E_ev.lt bd_b54
                                            have ge_b54 : n0 ≤ b54 := Nat.le_trans Z0 bd_b54
                                            have Z54 : n0 ≤ h54.size := Nat.le_trans Z0 E54.1
                                            have bo_b54 : h0.size ≤ b54 := Nat.le_trans K0.1 bd_b54
                                            have K54 : Keep h0 h54 [] := K0.ext E54
                                            have S_ev_at55 := S_ev.ext E54
                                            have E_ev_at56 := E_ev.ext E54
                                            have Fe_lowest_at57 := Fe_lowest.ext E54
                                            have Fe_highest_at58 := Fe_highest.ext E54
                                            have Flowest_54 : Fld Z h54 b54 "com/example/surrogate/surrogate/KeyRange" "lowest" "J" (.long (0 : Int64)) := D54 (Or.inr (hw _ (List.mem_of_getElem? (i := 12) rfl))) (ty := .long) (by decide)
                                            have Fhighest_54 : Fld Z h54 b54 "com/example/surrogate/surrogate/KeyRange" "highest" "J" (.long (0 : Int64)) := D54 (Or.inr (hw _ (List.mem_of_getElem? (i := 19) rfl))) (ty := .long) (by decide)
                                            refine own_via (T' := T54) (g' := (mkF m 71 #[.val (.int x0), .val (.int x1), .val (.int x2), .val (.long (99999999999999999 : Int64)), .second, .val (.int (17 : Int32))] [(.ref b54)])) st54 ?_
                                            refine own_via (T' := T54) (g' := (mkF m 73 #[.val (.int x0), .val (.int x1), .val (.int x2), .val (.long (99999999999999999 : Int64)), .second, .val (.int (17 : Int32))] [(.int x2), (.ref b54), (.ref b54)])) (fun t k => XS.dup X54.here hx rfl (hb hby own_d1_71) rfl rfl (XS.iloadN X54.here hx rfl (hb hby own_d1_72) rfl k)) ?_
                                            by_cases hc59 : x2 = (0 : Int32)
                                            · refine own_via (T' := T54) (g' := (mkF m 83 #[.val (.int x0), .val (.int x1), .val (.int x2), .val (.long (99999999999999999 : Int64)), .second, .val (.int (17 : Int32))] [(.long (99999999999999999 : Int64)), (.long (0 : Int64)), (.ref b54), (.ref b54)])) (fun t k => XS.ifYes X54.here hx rfl (pc0 := 73) (pc' := 81) rfl (hb hby own_d1_73) rfl ((if0 _ _).trans (teq hc59).1) (by decide) (by decide) (XS.lconst X54.here hx rfl (hb hby own_d1_81) (XS.lloadN X54.here hx rfl (hb hby own_d1_82) rfl k))) ?_
                                              obtain ⟨v60, T60, L60, X60, hQ60, st60⟩ := own_callSp (y := (⟨"com/example/surrogate/surrogate/KeyRange", "<init>", "(JJ)V"⟩ : MethodName)) (a := b54) (argsL := [(.long (0 : Int64)), (.long (99999999999999999 : Int64))]) (rest := [(.ref b54)]) X54 hx hZ hown rfl (hw _ (List.mem_of_getElem? (i := 44) rfl)) (hw _ (List.mem_of_getElem? (i := 45) rfl)) (hw _ (List.mem_of_getElem? (i := 2) rfl)) (hw _ (List.mem_of_getElem? (i := 46) rfl)) (by decide) (own_mt4 l Z a0 hw b54 (0 : Int64) (99999999999999999 : Int64) h54 n0 Z54 ge_b54 A54 Flowest_54 Fhighest_54) e54 (W := 1) (by decide) (by decide) (g := (mkF m 83 #[.val (.int x0), .val (.int x1), .val (.int x2), .val (.long (99999999999999999 : Int64)), .second, .val (.int (17 : Int32))] [(.long (99999999999999999 : Int64)), (.long (0 : Int64)), (.ref b54), (.ref b54)])) rfl (by rw [hml]; rfl) (lenOf own_pd0 rfl) rfl (by show 2 * 0 + _ ≤ _; exact Nat.le_of_eq rfl) (hb hby own_d1_83) (by decide) (by decide)
                                              obtain ⟨rfl, Nq60, K60q, G60_0, G60_1, G60_2⟩ := hQ60
                                              have N60 := Fr.app N0 Nq60
                                              have Z60 : n0 ≤ T60.heap.size := Nat.le_trans Z54 K60q.1
                                              have K60 : Keep h0 T60.heap [] := K54.trans K60q (allS (Or.inr bo_b54) all0)
                                              have E_ev_at62 := E_ev_at56.keep K60q
                                              have Fe_lowest_at63 := Fe_lowest_at57.keep K60q (ninS ne_ev_b54 nin0)
                                              have Fe_highest_at64 := Fe_highest_at58.keep K60q (ninS ne_ev_b54 nin0)
                                              have A54_at65 := A54.keep K60q
                                              refine own_via (T' := T60) (g' := (mkF m 86 #[.val (.int x0), .val (.int x1), .val (.int x2), .val (.long (99999999999999999 : Int64)), .second, .val (.int (17 : Int32))] [(.ref b54)])) st60 ?_
                                              refine own_retA X60 hx hlk hret rfl rfl (hb hby own_d1_86) (by decide) (by decide) ?_
                                              exact ⟨b54, rfl, N60, K60, G60_0, (by rw [own_dec_r_lowest, if_neg hc1, if_pos hc3, if_neg hc4, if_pos hc18, if_pos hc19, if_pos hc20, if_pos hc21, if_pos hc22, if_pos hc23, if_pos hc24, if_pos hc25, if_pos hc26, if_pos hc27, if_pos hc28, if_pos hc29, if_pos hc30, if_pos hc31, if_pos hc32, if_pos hc33, if_pos hc34, if_neg hc35, if_pos hc59]; exact G60_1), (by rw [own_dec_r_highest, if_neg hc1, if_pos hc3, if_neg hc4, if_pos hc18, if_pos hc19, if_pos hc20, if_pos hc21, if_pos hc22, if_pos hc23, if_pos hc24, if_pos hc25, if_pos hc26, if_pos hc27, if_pos hc28, if_pos hc29, if_pos hc30, if_pos hc31, if_pos hc32, if_pos hc33, if_pos hc34, if_neg hc35, if_pos hc59]; exact G60_2)⟩
                                            · refine own_via (T' := T54) (g' := (mkF m 83 #[.val (.int x0), .val (.int x1), .val (.int x2), .val (.long (99999999999999999 : Int64)), .second, .val (.int (17 : Int32))] [(.long (99999999999999999 : Int64)), (.long (-99999999999999999 : Int64)), (.ref b54), (.ref b54)])) (fun t k => XS.ifNo X54.here hx rfl (hb hby own_d1_73) rfl ((if0 _ _).trans (feq hc59).1) (XS.lloadN X54.here hx rfl (hb hby own_d1_76) rfl (XS.lneg X54.here hx rfl (hb hby own_d1_77) rfl (XS.goto X54.here hx rfl (pc0 := 78) (pc' := 82) rfl (hb hby own_d1_78) (by decide) (by decide) (XS.lloadN X54.here hx rfl (hb hby own_d1_82) rfl k))))) ?_
                                              obtain ⟨v66, T66, L66, X66, hQ66, st66⟩ := own_callSp (y := (⟨"com/example/surrogate/surrogate/KeyRange", "<init>", "(JJ)V"⟩ : MethodName)) (a := b54) (argsL := [(.long (-99999999999999999 : Int64)), (.long (99999999999999999 : Int64))]) (rest := [(.ref b54)]) X54 hx hZ hown rfl (hw _ (List.mem_of_getElem? (i := 44) rfl)) (hw _ (List.mem_of_getElem? (i := 45) rfl)) (hw _ (List.mem_of_getElem? (i := 2) rfl)) (hw _ (List.mem_of_getElem? (i := 46) rfl)) (by decide) (own_mt4 l Z a0 hw b54 (-99999999999999999 : Int64) (99999999999999999 : Int64) h54 n0 Z54 ge_b54 A54 Flowest_54 Fhighest_54) e54 (W := 1) (by decide) (by decide) (g := (mkF m 83 #[.val (.int x0), .val (.int x1), .val (.int x2), .val (.long (99999999999999999 : Int64)), .second, .val (.int (17 : Int32))] [(.long (99999999999999999 : Int64)), (.long (-99999999999999999 : Int64)), (.ref b54), (.ref b54)])) rfl (by rw [hml]; rfl) (lenOf own_pd0 rfl) rfl (by show 2 * 0 + _ ≤ _; exact Nat.le_of_eq rfl) (hb hby own_d1_83) (by decide) (by decide)
                                              obtain ⟨rfl, Nq66, K66q, G66_0, G66_1, G66_2⟩ := hQ66
                                              have N66 := Fr.app N0 Nq66
                                              have Z66 : n0 ≤ T66.heap.size := Nat.le_trans Z54 K66q.1
                                              have K66 : Keep h0 T66.heap [] := K54.trans K66q (allS (Or.inr bo_b54) all0)
                                              have E_ev_at68 := E_ev_at56.keep K66q
                                              have Fe_lowest_at69 := Fe_lowest_at57.keep K66q (ninS ne_ev_b54 nin0)
                                              have Fe_highest_at70 := Fe_highest_at58.keep K66q (ninS ne_ev_b54 nin0)
                                              have A54_at71 := A54.keep K66q
                                              refine own_via (T' := T66) (g' := (mkF m 86 #[.val (.int x0), .val (.int x1), .val (.int x2), .val (.long (99999999999999999 : Int64)), .second, .val (.int (17 : Int32))] [(.ref b54)])) st66 ?_
                                              refine own_retA X66 hx hlk hret rfl rfl (hb hby own_d1_86) (by decide) (by decide) ?_
                                              exact ⟨b54, rfl, N66, K66, G66_0, (by rw [own_dec_r_lowest, if_neg hc1, if_pos hc3, if_neg hc4, if_pos hc18, if_pos hc19, if_pos hc20, if_pos hc21, if_pos hc22, if_pos hc23, if_pos hc24, if_pos hc25, if_pos hc26, if_pos hc27, if_pos hc28, if_pos hc29, if_pos hc30, if_pos hc31, if_pos hc32, if_pos hc33, if_pos hc34, if_neg hc35, if_neg hc59]; exact G66_1), (by rw [own_dec_r_highest, if_neg hc1, if_pos hc3, if_neg hc4, if_pos hc18, if_pos hc19, if_pos hc20, if_pos hc21, if_pos hc22, if_pos hc23, if_pos hc24, if_pos hc25, if_pos hc26, if_pos hc27, if_pos hc28, if_pos hc29, if_pos hc30, if_pos hc31, if_pos hc32, if_pos hc33, if_pos hc34, if_neg hc35, if_neg hc59]; exact G66_2)⟩
                                        · refine own_via (T' := s₁) (g' := (mkF m 68 #[.val (.int x0), .val (.int x1), .val (.int x2), .val (.long (9999999999999999 : Int64)), .second, .val (.int (16 : Int32))] [])) (fun t k => XS.icmpYes X0.here hx rfl (pc0 := 49) (pc' := 64) rfl (hb hby own_d1_49) rfl (flt hc34).2.1 (by decide) (by decide) (XS.lloadN X0.here hx rfl (hb hby own_d1_64) rfl (XS.lconst X0.here hx rfl (hb hby own_d1_65) (XS.lsub X0.here hx rfl (hb hby own_d1_66) rfl (XS.lstoreN X0.here hx rfl (hb hby own_d1_67) rfl (l' := #[.val (.int x0), .val (.int x1), .val (.int x2), .val (.long (9999999999999999 : Int64)), .second, .val (.int (16 : Int32))]) rfl k))))) ?_
                                          obtain ⟨T72, h72, X72, e72, E72, A72, D72, -, st72⟩ := newO X0 hx hZ hown (hw _ (List.mem_of_getElem? (i := 42) rfl)) (hw _ (List.mem_of_getElem? (i := 43) rfl)) (hw _ (List.mem_of_getElem? (i := 2) rfl)) e0 (g := (mkF m 68 #[.val (.int x0), .val (.int x1), .val (.int x2), .val (.long (9999999999999999 : Int64)), .second, .val (.int (16 : Int32))] [])) rfl (hb hby own_d1_68) (by decide) (by decide)
                                          obtain ⟨b72, g72⟩ : ∃ z, z = h0.size := ⟨_, rfl⟩
                                          rw [← g72] at A72 D72 st72
                                          have bd_b72 : h0.size ≤ b72 := Nat.le_of_eq g72.symm
                                          have ne_ev_b72 : ev ≠ b72 := own_ne_of E_ev.lt bd_b72
                                          have ge_b72 : n0 ≤ b72 := Nat.le_trans Z0 bd_b72
                                          have Z72 : n0 ≤ h72.size := Nat.le_trans Z0 E72.1
                                          have bo_b72 : h0.size ≤ b72 := Nat.le_trans K0.1 bd_b72
                                          have K72 : Keep h0 h72 [] := K0.ext E72
                                          have S_ev_at73 := S_ev.ext E72
                                          have E_ev_at74 := E_ev.ext E72
                                          have Fe_lowest_at75 := Fe_lowest.ext E72
                                          have Fe_highest_at76 := Fe_highest.ext E72
                                          have Flowest_72 : Fld Z h72 b72 "com/example/surrogate/surrogate/KeyRange" "lowest" "J" (.long (0 : Int64)) := D72 (Or.inr (hw _ (List.mem_of_getElem? (i := 12) rfl))) (ty := .long) (by decide)
                                          have Fhighest_72 : Fld Z h72 b72 "com/example/surrogate/surrogate/KeyRange" "highest" "J" (.long (0 : Int64)) := D72 (Or.inr (hw _ (List.mem_of_getElem? (i := 19) rfl))) (ty := .long) (by decide)
                                          refine own_via (T' := T72) (g' := (mkF m 71 #[.val (.int x0), .val (.int x1), .val (.int x2), .val (.long (9999999999999999 : Int64)), .second, .val (.int (16 : Int32))] [(.ref b72)])) st72 ?_
                                          refine own_via (T' := T72) (g' := (mkF m 73 #[.val (.int x0), .val (.int x1), .val (.int x2), .val (.long (9999999999999999 : Int64)), .second, .val (.int (16 : Int32))] [(.int x2), (.ref b72), (.ref b72)])) (fun t k => XS.dup X72.here hx rfl (hb hby own_d1_71) rfl rfl (XS.iloadN X72.here hx rfl (hb hby own_d1_72) rfl k)) ?_
                                          by_cases hc77 : x2 = (0 : Int32)
                                          · refine own_via (T' := T72) (g' := (mkF m 83 #[.val (.int x0), .val (.int x1), .val (.int x2), .val (.long (9999999999999999 : Int64)), .second, .val (.int (16 : Int32))] [(.long (9999999999999999 : Int64)), (.long (0 : Int64)), (.ref b72), (.ref b72)])) (fun t k => XS.ifYes X72.here hx rfl (pc0 := 73) (pc' := 81) rfl (hb hby own_d1_73) rfl ((if0 _ _).trans (teq hc77).1) (by decide) (by decide) (XS.lconst X72.here hx rfl (hb hby own_d1_81) (XS.lloadN X72.here hx rfl (hb hby own_d1_82) rfl k))) ?_
                                            obtain ⟨v78, T78, L78, X78, hQ78, st78⟩ := own_callSp (y := (⟨"com/example/surrogate/surrogate/KeyRange", "<init>", "(JJ)V"⟩ : MethodName)) (a := b72) (argsL := [(.long (0 : Int64)), (.long (9999999999999999 : Int64))]) (rest := [(.ref b72)]) X72 hx hZ hown rfl (hw _ (List.mem_of_getElem? (i := 44) rfl)) (hw _ (List.mem_of_getElem? (i := 45) rfl)) (hw _ (List.mem_of_getElem? (i := 2) rfl)) (hw _ (List.mem_of_getElem? (i := 46) rfl)) (by decide) (own_mt4 l Z a0 hw b72 (0 : Int64) (9999999999999999 : Int64) h72 n0 Z72 ge_b72 A72 Flowest_72 Fhighest_72) e72 (W := 1) (by decide) (by decide) (g := (mkF m 83 #[.val (.int x0), .val (.int x1), .val (.int x2), .val (.long (9999999999999999 : Int64)), .second, .val (.int (16 : Int32))] [(.long (9999999999999999 : Int64)), (.long (0 : Int64)), (.ref b72), (.ref b72)])) rfl (by rw [hml]; rfl) (lenOf own_pd0 rfl) rfl (by show 2 * 0 + _ ≤ _; exact Nat.le_of_eq rfl) (hb hby own_d1_83) (by decide) (by decide)
                                            obtain ⟨rfl, Nq78, K78q, G78_0, G78_1, G78_2⟩ := hQ78
                                            have N78 := Fr.app N0 Nq78
                                            have Z78 : n0 ≤ T78.heap.size := Nat.le_trans Z72 K78q.1
                                            have K78 : Keep h0 T78.heap [] := K72.trans K78q (allS (Or.inr bo_b72) all0)
                                            have E_ev_at80 := E_ev_at74.keep K78q
                                            have Fe_lowest_at81 := Fe_lowest_at75.keep K78q (ninS ne_ev_b72 nin0)
                                            have Fe_highest_at82 := Fe_highest_at76.keep K78q (ninS ne_ev_b72 nin0)
                                            have A72_at83 := A72.keep K78q
                                            refine own_via (T' := T78) (g' := (mkF m 86 #[.val (.int x0), .val (.int x1), .val (.int x2), .val (.long (9999999999999999 : Int64)), .second, .val (.int (16 : Int32))] [(.ref b72)])) st78 ?_
                                            refine own_retA X78 hx hlk hret rfl rfl (hb hby own_d1_86) (by decide) (by decide) ?_
                                            exact ⟨b72, rfl, N78, K78, G78_0, (by rw [own_dec_r_lowest, if_neg hc1, if_pos hc3, if_neg hc4, if_pos hc18, if_pos hc19, if_pos hc20, if_pos hc21, if_pos hc22, if_pos hc23, if_pos hc24, if_pos hc25, if_pos hc26, if_pos hc27, if_pos hc28, if_pos hc29, if_pos hc30, if_pos hc31, if_pos hc32, if_pos hc33, if_neg hc34, if_pos hc77]; exact G78_1), (by rw [own_dec_r_highest, if_neg hc1, if_pos hc3, if_neg hc4, if_pos hc18, if_pos hc19, if_pos hc20, if_pos hc21, if_pos hc22, if_pos hc23, if_pos hc24, if_pos hc25, if_pos hc26, if_pos hc27, if_pos hc28, if_pos hc29, if_pos hc30, if_pos hc31, if_pos hc32, if_pos hc33, if_neg hc34, if_pos hc77]; exact G78_2)⟩
                                          · refine own_via (T' := T72) (g' := (mkF m 83 #[.val (.int x0), .val (.int x1), .val (.int x2), .val (.long (9999999999999999 : Int64)), .second, .val (.int (16 : Int32))] [(.long (9999999999999999 : Int64)), (.long (-9999999999999999 : Int64)), (.ref b72), (.ref b72)])) (fun t k => XS.ifNo X72.here hx rfl (hb hby own_d1_73) rfl ((if0 _ _).trans (feq hc77).1) (XS.lloadN X72.here hx rfl (hb hby own_d1_76) rfl (XS.lneg X72.here hx rfl (hb hby own_d1_77) rfl (XS.goto X72.here hx rfl (pc0 := 78) (pc' := 82) rfl (hb hby own_d1_78) (by decide) (by decide) (XS.lloadN X72.here hx rfl (hb hby own_d1_82) rfl k))))) ?_
                                            obtain ⟨v84, T84, L84, X84, hQ84, st84⟩ := own_callSp (y := (⟨"com/example/surrogate/surrogate/KeyRange", "<init>", "(JJ)V"⟩ : MethodName)) (a := b72) (argsL := [(.long (-9999999999999999 : Int64)), (.long (9999999999999999 : Int64))]) (rest := [(.ref b72)]) X72 hx hZ hown rfl (hw _ (List.mem_of_getElem? (i := 44) rfl)) (hw _ (List.mem_of_getElem? (i := 45) rfl)) (hw _ (List.mem_of_getElem? (i := 2) rfl)) (hw _ (List.mem_of_getElem? (i := 46) rfl)) (by decide) (own_mt4 l Z a0 hw b72 (-9999999999999999 : Int64) (9999999999999999 : Int64) h72 n0 Z72 ge_b72 A72 Flowest_72 Fhighest_72) e72 (W := 1) (by decide) (by decide) (g := (mkF m 83 #[.val (.int x0), .val (.int x1), .val (.int x2), .val (.long (9999999999999999 : Int64)), .second, .val (.int (16 : Int32))] [(.long (9999999999999999 : Int64)), (.long (-9999999999999999 : Int64)), (.ref b72), (.ref b72)])) rfl (by rw [hml]; rfl) (lenOf own_pd0 rfl) rfl (by show 2 * 0 + _ ≤ _; exact Nat.le_of_eq rfl) (hb hby own_d1_83) (by decide) (by decide)
                                            obtain ⟨rfl, Nq84, K84q, G84_0, G84_1, G84_2⟩ := hQ84
                                            have N84 := Fr.app N0 Nq84
                                            have Z84 : n0 ≤ T84.heap.size := Nat.le_trans Z72 K84q.1
                                            have K84 : Keep h0 T84.heap [] := K72.trans K84q (allS (Or.inr bo_b72) all0)
                                            have E_ev_at86 := E_ev_at74.keep K84q
                                            have Fe_lowest_at87 := Fe_lowest_at75.keep K84q (ninS ne_ev_b72 nin0)
                                            have Fe_highest_at88 := Fe_highest_at76.keep K84q (ninS ne_ev_b72 nin0)
                                            have A72_at89 := A72.keep K84q
                                            refine own_via (T' := T84) (g' := (mkF m 86 #[.val (.int x0), .val (.int x1), .val (.int x2), .val (.long (9999999999999999 : Int64)), .second, .val (.int (16 : Int32))] [(.ref b72)])) st84 ?_
                                            refine own_retA X84 hx hlk hret rfl rfl (hb hby own_d1_86) (by decide) (by decide) ?_
                                            exact ⟨b72, rfl, N84, K84, G84_0, (by rw [own_dec_r_lowest, if_neg hc1, if_pos hc3, if_neg hc4, if_pos hc18, if_pos hc19, if_pos hc20, if_pos hc21, if_pos hc22, if_pos hc23, if_pos hc24, if_pos hc25, if_pos hc26, if_pos hc27, if_pos hc28, if_pos hc29, if_pos hc30, if_pos hc31, if_pos hc32, if_pos hc33, if_neg hc34, if_neg hc77]; exact G84_1), (by rw [own_dec_r_highest, if_neg hc1, if_pos hc3, if_neg hc4, if_pos hc18, if_pos hc19, if_pos hc20, if_pos hc21, if_pos hc22, if_pos hc23, if_pos hc24, if_pos hc25, if_pos hc26, if_pos hc27, if_pos hc28, if_pos hc29, if_pos hc30, if_pos hc31, if_pos hc32, if_pos hc33, if_neg hc34, if_neg hc77]; exact G84_2)⟩
                                      · refine own_via (T' := s₁) (g' := (mkF m 68 #[.val (.int x0), .val (.int x1), .val (.int x2), .val (.long (999999999999999 : Int64)), .second, .val (.int (15 : Int32))] [])) (fun t k => XS.icmpYes X0.here hx rfl (pc0 := 49) (pc' := 64) rfl (hb hby own_d1_49) rfl (flt hc33).2.1 (by decide) (by decide) (XS.lloadN X0.here hx rfl (hb hby own_d1_64) rfl (XS.lconst X0.here hx rfl (hb hby own_d1_65) (XS.lsub X0.here hx rfl (hb hby own_d1_66) rfl (XS.lstoreN X0.here hx rfl (hb hby own_d1_67) rfl (l' := #[.val (.int x0), .val (.int x1), .val (.int x2), .val (.long (999999999999999 : Int64)), .second, .val (.int (15 : Int32))]) rfl k))))) ?_
                                        obtain ⟨T90, h90, X90, e90, E90, A90, D90, -, st90⟩ := newO X0 hx hZ hown (hw _ (List.mem_of_getElem? (i := 42) rfl)) (hw _ (List.mem_of_getElem? (i := 43) rfl)) (hw _ (List.mem_of_getElem? (i := 2) rfl)) e0 (g := (mkF m 68 #[.val (.int x0), .val (.int x1), .val (.int x2), .val (.long (999999999999999 : Int64)), .second, .val (.int (15 : Int32))] [])) rfl (hb hby own_d1_68) (by decide) (by decide)
                                        obtain ⟨b90, g90⟩ : ∃ z, z = h0.size := ⟨_, rfl⟩
                                        rw [← g90] at A90 D90 st90
                                        have bd_b90 : h0.size ≤ b90 := Nat.le_of_eq g90.symm
                                        have ne_ev_b90 : ev ≠ b90 := own_ne_of E_ev.lt bd_b90
                                        have ge_b90 : n0 ≤ b90 := Nat.le_trans Z0 bd_b90
                                        have Z90 : n0 ≤ h90.size := Nat.le_trans Z0 E90.1
                                        have bo_b90 : h0.size ≤ b90 := Nat.le_trans K0.1 bd_b90
                                        have K90 : Keep h0 h90 [] := K0.ext E90
                                        have S_ev_at91 := S_ev.ext E90
                                        have E_ev_at92 := E_ev.ext E90
                                        have Fe_lowest_at93 := Fe_lowest.ext E90
                                        have Fe_highest_at94 := Fe_highest.ext E90
                                        have Flowest_90 : Fld Z h90 b90 "com/example/surrogate/surrogate/KeyRange" "lowest" "J" (.long (0 : Int64)) := D90 (Or.inr (hw _ (List.mem_of_getElem? (i := 12) rfl))) (ty := .long) (by decide)
                                        have Fhighest_90 : Fld Z h90 b90 "com/example/surrogate/surrogate/KeyRange" "highest" "J" (.long (0 : Int64)) := D90 (Or.inr (hw _ (List.mem_of_getElem? (i := 19) rfl))) (ty := .long) (by decide)
                                        refine own_via (T' := T90) (g' := (mkF m 71 #[.val (.int x0), .val (.int x1), .val (.int x2), .val (.long (999999999999999 : Int64)), .second, .val (.int (15 : Int32))] [(.ref b90)])) st90 ?_
                                        refine own_via (T' := T90) (g' := (mkF m 73 #[.val (.int x0), .val (.int x1), .val (.int x2), .val (.long (999999999999999 : Int64)), .second, .val (.int (15 : Int32))] [(.int x2), (.ref b90), (.ref b90)])) (fun t k => XS.dup X90.here hx rfl (hb hby own_d1_71) rfl rfl (XS.iloadN X90.here hx rfl (hb hby own_d1_72) rfl k)) ?_
                                        by_cases hc95 : x2 = (0 : Int32)
                                        · refine own_via (T' := T90) (g' := (mkF m 83 #[.val (.int x0), .val (.int x1), .val (.int x2), .val (.long (999999999999999 : Int64)), .second, .val (.int (15 : Int32))] [(.long (999999999999999 : Int64)), (.long (0 : Int64)), (.ref b90), (.ref b90)])) (fun t k => XS.ifYes X90.here hx rfl (pc0 := 73) (pc' := 81) rfl (hb hby own_d1_73) rfl ((if0 _ _).trans (teq hc95).1) (by decide) (by decide) (XS.lconst X90.here hx rfl (hb hby own_d1_81) (XS.lloadN X90.here hx rfl (hb hby own_d1_82) rfl k))) ?_
                                          obtain ⟨v96, T96, L96, X96, hQ96, st96⟩ := own_callSp (y := (⟨"com/example/surrogate/surrogate/KeyRange", "<init>", "(JJ)V"⟩ : MethodName)) (a := b90) (argsL := [(.long (0 : Int64)), (.long (999999999999999 : Int64))]) (rest := [(.ref b90)]) X90 hx hZ hown rfl (hw _ (List.mem_of_getElem? (i := 44) rfl)) (hw _ (List.mem_of_getElem? (i := 45) rfl)) (hw _ (List.mem_of_getElem? (i := 2) rfl)) (hw _ (List.mem_of_getElem? (i := 46) rfl)) (by decide) (own_mt4 l Z a0 hw b90 (0 : Int64) (999999999999999 : Int64) h90 n0 Z90 ge_b90 A90 Flowest_90 Fhighest_90) e90 (W := 1) (by decide) (by decide) (g := (mkF m 83 #[.val (.int x0), .val (.int x1), .val (.int x2), .val (.long (999999999999999 : Int64)), .second, .val (.int (15 : Int32))] [(.long (999999999999999 : Int64)), (.long (0 : Int64)), (.ref b90), (.ref b90)])) rfl (by rw [hml]; rfl) (lenOf own_pd0 rfl) rfl (by show 2 * 0 + _ ≤ _; exact Nat.le_of_eq rfl) (hb hby own_d1_83) (by decide) (by decide)
                                          obtain ⟨rfl, Nq96, K96q, G96_0, G96_1, G96_2⟩ := hQ96
                                          have N96 := Fr.app N0 Nq96
                                          have Z96 : n0 ≤ T96.heap.size := Nat.le_trans Z90 K96q.1
                                          have K96 : Keep h0 T96.heap [] := K90.trans K96q (allS (Or.inr bo_b90) all0)
                                          have E_ev_at98 := E_ev_at92.keep K96q
                                          have Fe_lowest_at99 := Fe_lowest_at93.keep K96q (ninS ne_ev_b90 nin0)
                                          have Fe_highest_at100 := Fe_highest_at94.keep K96q (ninS ne_ev_b90 nin0)
                                          have A90_at101 := A90.keep K96q
                                          refine own_via (T' := T96) (g' := (mkF m 86 #[.val (.int x0), .val (.int x1), .val (.int x2), .val (.long (999999999999999 : Int64)), .second, .val (.int (15 : Int32))] [(.ref b90)])) st96 ?_
                                          refine own_retA X96 hx hlk hret rfl rfl (hb hby own_d1_86) (by decide) (by decide) ?_
                                          exact ⟨b90, rfl, N96, K96, G96_0, (by rw [own_dec_r_lowest, if_neg hc1, if_pos hc3, if_neg hc4, if_pos hc18, if_pos hc19, if_pos hc20, if_pos hc21, if_pos hc22, if_pos hc23, if_pos hc24, if_pos hc25, if_pos hc26, if_pos hc27, if_pos hc28, if_pos hc29, if_pos hc30, if_pos hc31, if_pos hc32, if_neg hc33, if_pos hc95]; exact G96_1), (by rw [own_dec_r_highest, if_neg hc1, if_pos hc3, if_neg hc4, if_pos hc18, if_pos hc19, if_pos hc20, if_pos hc21, if_pos hc22, if_pos hc23, if_pos hc24, if_pos hc25, if_pos hc26, if_pos hc27, if_pos hc28, if_pos hc29, if_pos hc30, if_pos hc31, if_pos hc32, if_neg hc33, if_pos hc95]; exact G96_2)⟩
                                        · refine own_via (T' := T90) (g' := (mkF m 83 #[.val (.int x0), .val (.int x1), .val (.int x2), .val (.long (999999999999999 : Int64)), .second, .val (.int (15 : Int32))] [(.long (999999999999999 : Int64)), (.long (-999999999999999 : Int64)), (.ref b90), (.ref b90)])) (fun t k => XS.ifNo X90.here hx rfl (hb hby own_d1_73) rfl ((if0 _ _).trans (feq hc95).1) (XS.lloadN X90.here hx rfl (hb hby own_d1_76) rfl (XS.lneg X90.here hx rfl (hb hby own_d1_77) rfl (XS.goto X90.here hx rfl (pc0 := 78) (pc' := 82) rfl (hb hby own_d1_78) (by decide) (by decide) (XS.lloadN X90.here hx rfl (hb hby own_d1_82) rfl k))))) ?_
                                          obtain ⟨v102, T102, L102, X102, hQ102, st102⟩ := own_callSp (y := (⟨"com/example/surrogate/surrogate/KeyRange", "<init>", "(JJ)V"⟩ : MethodName)) (a := b90) (argsL := [(.long (-999999999999999 : Int64)), (.long (999999999999999 : Int64))]) (rest := [(.ref b90)]) X90 hx hZ hown rfl (hw _ (List.mem_of_getElem? (i := 44) rfl)) (hw _ (List.mem_of_getElem? (i := 45) rfl)) (hw _ (List.mem_of_getElem? (i := 2) rfl)) (hw _ (List.mem_of_getElem? (i := 46) rfl)) (by decide) (own_mt4 l Z a0 hw b90 (-999999999999999 : Int64) (999999999999999 : Int64) h90 n0 Z90 ge_b90 A90 Flowest_90 Fhighest_90) e90 (W := 1) (by decide) (by decide) (g := (mkF m 83 #[.val (.int x0), .val (.int x1), .val (.int x2), .val (.long (999999999999999 : Int64)), .second, .val (.int (15 : Int32))] [(.long (999999999999999 : Int64)), (.long (-999999999999999 : Int64)), (.ref b90), (.ref b90)])) rfl (by rw [hml]; rfl) (lenOf own_pd0 rfl) rfl (by show 2 * 0 + _ ≤ _; exact Nat.le_of_eq rfl) (hb hby own_d1_83) (by decide) (by decide)
                                          obtain ⟨rfl, Nq102, K102q, G102_0, G102_1, G102_2⟩ := hQ102
                                          have N102 := Fr.app N0 Nq102
                                          have Z102 : n0 ≤ T102.heap.size := Nat.le_trans Z90 K102q.1
                                          have K102 : Keep h0 T102.heap [] := K90.trans K102q (allS (Or.inr bo_b90) all0)
                                          have E_ev_at104 := E_ev_at92.keep K102q
                                          have Fe_lowest_at105 := Fe_lowest_at93.keep K102q (ninS ne_ev_b90 nin0)
                                          have Fe_highest_at106 := Fe_highest_at94.keep K102q (ninS ne_ev_b90 nin0)
                                          have A90_at107 := A90.keep K102q
                                          refine own_via (T' := T102) (g' := (mkF m 86 #[.val (.int x0), .val (.int x1), .val (.int x2), .val (.long (999999999999999 : Int64)), .second, .val (.int (15 : Int32))] [(.ref b90)])) st102 ?_
                                          refine own_retA X102 hx hlk hret rfl rfl (hb hby own_d1_86) (by decide) (by decide) ?_
                                          exact ⟨b90, rfl, N102, K102, G102_0, (by rw [own_dec_r_lowest, if_neg hc1, if_pos hc3, if_neg hc4, if_pos hc18, if_pos hc19, if_pos hc20, if_pos hc21, if_pos hc22, if_pos hc23, if_pos hc24, if_pos hc25, if_pos hc26, if_pos hc27, if_pos hc28, if_pos hc29, if_pos hc30, if_pos hc31, if_pos hc32, if_neg hc33, if_neg hc95]; exact G102_1), (by rw [own_dec_r_highest, if_neg hc1, if_pos hc3, if_neg hc4, if_pos hc18, if_pos hc19, if_pos hc20, if_pos hc21, if_pos hc22, if_pos hc23, if_pos hc24, if_pos hc25, if_pos hc26, if_pos hc27, if_pos hc28, if_pos hc29, if_pos hc30, if_pos hc31, if_pos hc32, if_neg hc33, if_neg hc95]; exact G102_2)⟩
                                    · refine own_via (T' := s₁) (g' := (mkF m 68 #[.val (.int x0), .val (.int x1), .val (.int x2), .val (.long (99999999999999 : Int64)), .second, .val (.int (14 : Int32))] [])) (fun t k => XS.icmpYes X0.here hx rfl (pc0 := 49) (pc' := 64) rfl (hb hby own_d1_49) rfl (flt hc32).2.1 (by decide) (by decide) (XS.lloadN X0.here hx rfl (hb hby own_d1_64) rfl (XS.lconst X0.here hx rfl (hb hby own_d1_65) (XS.lsub X0.here hx rfl (hb hby own_d1_66) rfl (XS.lstoreN X0.here hx rfl (hb hby own_d1_67) rfl (l' := #[.val (.int x0), .val (.int x1), .val (.int x2), .val (.long (99999999999999 : Int64)), .second, .val (.int (14 : Int32))]) rfl k))))) ?_
                                      obtain ⟨T108, h108, X108, e108, E108, A108, D108, -, st108⟩ := newO X0 hx hZ hown (hw _ (List.mem_of_getElem? (i := 42) rfl)) (hw _ (List.mem_of_getElem? (i := 43) rfl)) (hw _ (List.mem_of_getElem? (i := 2) rfl)) e0 (g := (mkF m 68 #[.val (.int x0), .val (.int x1), .val (.int x2), .val (.long (99999999999999 : Int64)), .second, .val (.int (14 : Int32))] [])) rfl (hb hby own_d1_68) (by decide) (by decide)
                                      obtain ⟨b108, g108⟩ : ∃ z, z = h0.size := ⟨_, rfl⟩
                                      rw [← g108] at A108 D108 st108
                                      have bd_b108 : h0.size ≤ b108 := Nat.le_of_eq g108.symm
                                      have ne_ev_b108 : ev ≠ b108 := own_ne_of E_ev.lt bd_b108
                                      have ge_b108 : n0 ≤ b108 := Nat.le_trans Z0 bd_b108
                                      have Z108 : n0 ≤ h108.size := Nat.le_trans Z0 E108.1
                                      have bo_b108 : h0.size ≤ b108 := Nat.le_trans K0.1 bd_b108
                                      have K108 : Keep h0 h108 [] := K0.ext E108
                                      have S_ev_at109 := S_ev.ext E108
                                      have E_ev_at110 := E_ev.ext E108
                                      have Fe_lowest_at111 := Fe_lowest.ext E108
                                      have Fe_highest_at112 := Fe_highest.ext E108
                                      have Flowest_108 : Fld Z h108 b108 "com/example/surrogate/surrogate/KeyRange" "lowest" "J" (.long (0 : Int64)) := D108 (Or.inr (hw _ (List.mem_of_getElem? (i := 12) rfl))) (ty := .long) (by decide)
                                      have Fhighest_108 : Fld Z h108 b108 "com/example/surrogate/surrogate/KeyRange" "highest" "J" (.long (0 : Int64)) := D108 (Or.inr (hw _ (List.mem_of_getElem? (i := 19) rfl))) (ty := .long) (by decide)
                                      refine own_via (T' := T108) (g' := (mkF m 71 #[.val (.int x0), .val (.int x1), .val (.int x2), .val (.long (99999999999999 : Int64)), .second, .val (.int (14 : Int32))] [(.ref b108)])) st108 ?_
                                      refine own_via (T' := T108) (g' := (mkF m 73 #[.val (.int x0), .val (.int x1), .val (.int x2), .val (.long (99999999999999 : Int64)), .second, .val (.int (14 : Int32))] [(.int x2), (.ref b108), (.ref b108)])) (fun t k => XS.dup X108.here hx rfl (hb hby own_d1_71) rfl rfl (XS.iloadN X108.here hx rfl (hb hby own_d1_72) rfl k)) ?_
                                      by_cases hc113 : x2 = (0 : Int32)
                                      · refine own_via (T' := T108) (g' := (mkF m 83 #[.val (.int x0), .val (.int x1), .val (.int x2), .val (.long (99999999999999 : Int64)), .second, .val (.int (14 : Int32))] [(.long (99999999999999 : Int64)), (.long (0 : Int64)), (.ref b108), (.ref b108)])) (fun t k => XS.ifYes X108.here hx rfl (pc0 := 73) (pc' := 81) rfl (hb hby own_d1_73) rfl ((if0 _ _).trans (teq hc113).1) (by decide) (by decide) (XS.lconst X108.here hx rfl (hb hby own_d1_81) (XS.lloadN X108.here hx rfl (hb hby own_d1_82) rfl k))) ?_
                                        obtain ⟨v114, T114, L114, X114, hQ114, st114⟩ := own_callSp (y := (⟨"com/example/surrogate/surrogate/KeyRange", "<init>", "(JJ)V"⟩ : MethodName)) (a := b108) (argsL := [(.long (0 : Int64)), (.long (99999999999999 : Int64))]) (rest := [(.ref b108)]) X108 hx hZ hown rfl (hw _ (List.mem_of_getElem? (i := 44) rfl)) (hw _ (List.mem_of_getElem? (i := 45) rfl)) (hw _ (List.mem_of_getElem? (i := 2) rfl)) (hw _ (List.mem_of_getElem? (i := 46) rfl)) (by decide) (own_mt4 l Z a0 hw b108 (0 : Int64) (99999999999999 : Int64) h108 n0 Z108 ge_b108 A108 Flowest_108 Fhighest_108) e108 (W := 1) (by decide) (by decide) (g := (mkF m 83 #[.val (.int x0), .val (.int x1), .val (.int x2), .val (.long (99999999999999 : Int64)), .second, .val (.int (14 : Int32))] [(.long (99999999999999 : Int64)), (.long (0 : Int64)), (.ref b108), (.ref b108)])) rfl (by rw [hml]; rfl) (lenOf own_pd0 rfl) rfl (by show 2 * 0 + _ ≤ _; exact Nat.le_of_eq rfl) (hb hby own_d1_83) (by decide) (by decide)
                                        obtain ⟨rfl, Nq114, K114q, G114_0, G114_1, G114_2⟩ := hQ114
                                        have N114 := Fr.app N0 Nq114
                                        have Z114 : n0 ≤ T114.heap.size := Nat.le_trans Z108 K114q.1
                                        have K114 : Keep h0 T114.heap [] := K108.trans K114q (allS (Or.inr bo_b108) all0)
                                        have E_ev_at116 := E_ev_at110.keep K114q
                                        have Fe_lowest_at117 := Fe_lowest_at111.keep K114q (ninS ne_ev_b108 nin0)
                                        have Fe_highest_at118 := Fe_highest_at112.keep K114q (ninS ne_ev_b108 nin0)
                                        have A108_at119 := A108.keep K114q
                                        refine own_via (T' := T114) (g' := (mkF m 86 #[.val (.int x0), .val (.int x1), .val (.int x2), .val (.long (99999999999999 : Int64)), .second, .val (.int (14 : Int32))] [(.ref b108)])) st114 ?_
                                        refine own_retA X114 hx hlk hret rfl rfl (hb hby own_d1_86) (by decide) (by decide) ?_
                                        exact ⟨b108, rfl, N114, K114, G114_0, (by rw [own_dec_r_lowest, if_neg hc1, if_pos hc3, if_neg hc4, if_pos hc18, if_pos hc19, if_pos hc20, if_pos hc21, if_pos hc22, if_pos hc23, if_pos hc24, if_pos hc25, if_pos hc26, if_pos hc27, if_pos hc28, if_pos hc29, if_pos hc30, if_pos hc31, if_neg hc32, if_pos hc113]; exact G114_1), (by rw [own_dec_r_highest, if_neg hc1, if_pos hc3, if_neg hc4, if_pos hc18, if_pos hc19, if_pos hc20, if_pos hc21, if_pos hc22, if_pos hc23, if_pos hc24, if_pos hc25, if_pos hc26, if_pos hc27, if_pos hc28, if_pos hc29, if_pos hc30, if_pos hc31, if_neg hc32, if_pos hc113]; exact G114_2)⟩
                                      · refine own_via (T' := T108) (g' := (mkF m 83 #[.val (.int x0), .val (.int x1), .val (.int x2), .val (.long (99999999999999 : Int64)), .second, .val (.int (14 : Int32))] [(.long (99999999999999 : Int64)), (.long (-99999999999999 : Int64)), (.ref b108), (.ref b108)])) (fun t k => XS.ifNo X108.here hx rfl (hb hby own_d1_73) rfl ((if0 _ _).trans (feq hc113).1) (XS.lloadN X108.here hx rfl (hb hby own_d1_76) rfl (XS.lneg X108.here hx rfl (hb hby own_d1_77) rfl (XS.goto X108.here hx rfl (pc0 := 78) (pc' := 82) rfl (hb hby own_d1_78) (by decide) (by decide) (XS.lloadN X108.here hx rfl (hb hby own_d1_82) rfl k))))) ?_
                                        obtain ⟨v120, T120, L120, X120, hQ120, st120⟩ := own_callSp (y := (⟨"com/example/surrogate/surrogate/KeyRange", "<init>", "(JJ)V"⟩ : MethodName)) (a := b108) (argsL := [(.long (-99999999999999 : Int64)), (.long (99999999999999 : Int64))]) (rest := [(.ref b108)]) X108 hx hZ hown rfl (hw _ (List.mem_of_getElem? (i := 44) rfl)) (hw _ (List.mem_of_getElem? (i := 45) rfl)) (hw _ (List.mem_of_getElem? (i := 2) rfl)) (hw _ (List.mem_of_getElem? (i := 46) rfl)) (by decide) (own_mt4 l Z a0 hw b108 (-99999999999999 : Int64) (99999999999999 : Int64) h108 n0 Z108 ge_b108 A108 Flowest_108 Fhighest_108) e108 (W := 1) (by decide) (by decide) (g := (mkF m 83 #[.val (.int x0), .val (.int x1), .val (.int x2), .val (.long (99999999999999 : Int64)), .second, .val (.int (14 : Int32))] [(.long (99999999999999 : Int64)), (.long (-99999999999999 : Int64)), (.ref b108), (.ref b108)])) rfl (by rw [hml]; rfl) (lenOf own_pd0 rfl) rfl (by show 2 * 0 + _ ≤ _; exact Nat.le_of_eq rfl) (hb hby own_d1_83) (by decide) (by decide)
                                        obtain ⟨rfl, Nq120, K120q, G120_0, G120_1, G120_2⟩ := hQ120
                                        have N120 := Fr.app N0 Nq120
                                        have Z120 : n0 ≤ T120.heap.size := Nat.le_trans Z108 K120q.1
                                        have K120 : Keep h0 T120.heap [] := K108.trans K120q (allS (Or.inr bo_b108) all0)
                                        have E_ev_at122 := E_ev_at110.keep K120q
                                        have Fe_lowest_at123 := Fe_lowest_at111.keep K120q (ninS ne_ev_b108 nin0)
                                        have Fe_highest_at124 := Fe_highest_at112.keep K120q (ninS ne_ev_b108 nin0)
                                        have A108_at125 := A108.keep K120q
                                        refine own_via (T' := T120) (g' := (mkF m 86 #[.val (.int x0), .val (.int x1), .val (.int x2), .val (.long (99999999999999 : Int64)), .second, .val (.int (14 : Int32))] [(.ref b108)])) st120 ?_
                                        refine own_retA X120 hx hlk hret rfl rfl (hb hby own_d1_86) (by decide) (by decide) ?_
                                        exact ⟨b108, rfl, N120, K120, G120_0, (by rw [own_dec_r_lowest, if_neg hc1, if_pos hc3, if_neg hc4, if_pos hc18, if_pos hc19, if_pos hc20, if_pos hc21, if_pos hc22, if_pos hc23, if_pos hc24, if_pos hc25, if_pos hc26, if_pos hc27, if_pos hc28, if_pos hc29, if_pos hc30, if_pos hc31, if_neg hc32, if_neg hc113]; exact G120_1), (by rw [own_dec_r_highest, if_neg hc1, if_pos hc3, if_neg hc4, if_pos hc18, if_pos hc19, if_pos hc20, if_pos hc21, if_pos hc22, if_pos hc23, if_pos hc24, if_pos hc25, if_pos hc26, if_pos hc27, if_pos hc28, if_pos hc29, if_pos hc30, if_pos hc31, if_neg hc32, if_neg hc113]; exact G120_2)⟩
                                  · refine own_via (T' := s₁) (g' := (mkF m 68 #[.val (.int x0), .val (.int x1), .val (.int x2), .val (.long (9999999999999 : Int64)), .second, .val (.int (13 : Int32))] [])) (fun t k => XS.icmpYes X0.here hx rfl (pc0 := 49) (pc' := 64) rfl (hb hby own_d1_49) rfl (flt hc31).2.1 (by decide) (by decide) (XS.lloadN X0.here hx rfl (hb hby own_d1_64) rfl (XS.lconst X0.here hx rfl (hb hby own_d1_65) (XS.lsub X0.here hx rfl (hb hby own_d1_66) rfl (XS.lstoreN X0.here hx rfl (hb hby own_d1_67) rfl (l' := #[.val (.int x0), .val (.int x1), .val (.int x2), .val (.long (9999999999999 : Int64)), .second, .val (.int (13 : Int32))]) rfl k))))) ?_
                                    obtain ⟨T126, h126, X126, e126, E126, A126, D126, -, st126⟩ := newO X0 hx hZ hown (hw _ (List.mem_of_getElem? (i := 42) rfl)) (hw _ (List.mem_of_getElem? (i := 43) rfl)) (hw _ (List.mem_of_getElem? (i := 2) rfl)) e0 (g := (mkF m 68 #[.val (.int x0), .val (.int x1), .val (.int x2), .val (.long (9999999999999 : Int64)), .second, .val (.int (13 : Int32))] [])) rfl (hb hby own_d1_68) (by decide) (by decide)
                                    obtain ⟨b126, g126⟩ : ∃ z, z = h0.size := ⟨_, rfl⟩
                                    rw [← g126] at A126 D126 st126
                                    have bd_b126 : h0.size ≤ b126 := Nat.le_of_eq g126.symm
                                    have ne_ev_b126 : ev ≠ b126 := own_ne_of E_ev.lt bd_b126
                                    have ge_b126 : n0 ≤ b126 := Nat.le_trans Z0 bd_b126
                                    have Z126 : n0 ≤ h126.size := Nat.le_trans Z0 E126.1
                                    have bo_b126 : h0.size ≤ b126 := Nat.le_trans K0.1 bd_b126
                                    have K126 : Keep h0 h126 [] := K0.ext E126
                                    have S_ev_at127 := S_ev.ext E126
                                    have E_ev_at128 := E_ev.ext E126
                                    have Fe_lowest_at129 := Fe_lowest.ext E126
                                    have Fe_highest_at130 := Fe_highest.ext E126
                                    have Flowest_126 : Fld Z h126 b126 "com/example/surrogate/surrogate/KeyRange" "lowest" "J" (.long (0 : Int64)) := D126 (Or.inr (hw _ (List.mem_of_getElem? (i := 12) rfl))) (ty := .long) (by decide)
                                    have Fhighest_126 : Fld Z h126 b126 "com/example/surrogate/surrogate/KeyRange" "highest" "J" (.long (0 : Int64)) := D126 (Or.inr (hw _ (List.mem_of_getElem? (i := 19) rfl))) (ty := .long) (by decide)
                                    refine own_via (T' := T126) (g' := (mkF m 71 #[.val (.int x0), .val (.int x1), .val (.int x2), .val (.long (9999999999999 : Int64)), .second, .val (.int (13 : Int32))] [(.ref b126)])) st126 ?_
                                    refine own_via (T' := T126) (g' := (mkF m 73 #[.val (.int x0), .val (.int x1), .val (.int x2), .val (.long (9999999999999 : Int64)), .second, .val (.int (13 : Int32))] [(.int x2), (.ref b126), (.ref b126)])) (fun t k => XS.dup X126.here hx rfl (hb hby own_d1_71) rfl rfl (XS.iloadN X126.here hx rfl (hb hby own_d1_72) rfl k)) ?_
                                    by_cases hc131 : x2 = (0 : Int32)
                                    · refine own_via (T' := T126) (g' := (mkF m 83 #[.val (.int x0), .val (.int x1), .val (.int x2), .val (.long (9999999999999 : Int64)), .second, .val (.int (13 : Int32))] [(.long (9999999999999 : Int64)), (.long (0 : Int64)), (.ref b126), (.ref b126)])) (fun t k => XS.ifYes X126.here hx rfl (pc0 := 73) (pc' := 81) rfl (hb hby own_d1_73) rfl ((if0 _ _).trans (teq hc131).1) (by decide) (by decide) (XS.lconst X126.here hx rfl (hb hby own_d1_81) (XS.lloadN X126.here hx rfl (hb hby own_d1_82) rfl k))) ?_
                                      obtain ⟨v132, T132, L132, X132, hQ132, st132⟩ := own_callSp (y := (⟨"com/example/surrogate/surrogate/KeyRange", "<init>", "(JJ)V"⟩ : MethodName)) (a := b126) (argsL := [(.long (0 : Int64)), (.long (9999999999999 : Int64))]) (rest := [(.ref b126)]) X126 hx hZ hown rfl (hw _ (List.mem_of_getElem? (i := 44) rfl)) (hw _ (List.mem_of_getElem? (i := 45) rfl)) (hw _ (List.mem_of_getElem? (i := 2) rfl)) (hw _ (List.mem_of_getElem? (i := 46) rfl)) (by decide) (own_mt4 l Z a0 hw b126 (0 : Int64) (9999999999999 : Int64) h126 n0 Z126 ge_b126 A126 Flowest_126 Fhighest_126) e126 (W := 1) (by decide) (by decide) (g := (mkF m 83 #[.val (.int x0), .val (.int x1), .val (.int x2), .val (.long (9999999999999 : Int64)), .second, .val (.int (13 : Int32))] [(.long (9999999999999 : Int64)), (.long (0 : Int64)), (.ref b126), (.ref b126)])) rfl (by rw [hml]; rfl) (lenOf own_pd0 rfl) rfl (by show 2 * 0 + _ ≤ _; exact Nat.le_of_eq rfl) (hb hby own_d1_83) (by decide) (by decide)
                                      obtain ⟨rfl, Nq132, K132q, G132_0, G132_1, G132_2⟩ := hQ132
                                      have N132 := Fr.app N0 Nq132
                                      have Z132 : n0 ≤ T132.heap.size := Nat.le_trans Z126 K132q.1
                                      have K132 : Keep h0 T132.heap [] := K126.trans K132q (allS (Or.inr bo_b126) all0)
                                      have E_ev_at134 := E_ev_at128.keep K132q
                                      have Fe_lowest_at135 := Fe_lowest_at129.keep K132q (ninS ne_ev_b126 nin0)
                                      have Fe_highest_at136 := Fe_highest_at130.keep K132q (ninS ne_ev_b126 nin0)
                                      have A126_at137 := A126.keep K132q
                                      refine own_via (T' := T132) (g' := (mkF m 86 #[.val (.int x0), .val (.int x1), .val (.int x2), .val (.long (9999999999999 : Int64)), .second, .val (.int (13 : Int32))] [(.ref b126)])) st132 ?_
                                      refine own_retA X132 hx hlk hret rfl rfl (hb hby own_d1_86) (by decide) (by decide) ?_
                                      exact ⟨b126, rfl, N132, K132, G132_0, (by rw [own_dec_r_lowest, if_neg hc1, if_pos hc3, if_neg hc4, if_pos hc18, if_pos hc19, if_pos hc20, if_pos hc21, if_pos hc22, if_pos hc23, if_pos hc24, if_pos hc25, if_pos hc26, if_pos hc27, if_pos hc28, if_pos hc29, if_pos hc30, if_neg hc31, if_pos hc131]; exact G132_1), (by rw [own_dec_r_highest, if_neg hc1, if_pos hc3, if_neg hc4, if_pos hc18, if_pos hc19, if_pos hc20, if_pos hc21, if_pos hc22, if_pos hc23, if_pos hc24, if_pos hc25, if_pos hc26, if_pos hc27, if_pos hc28, if_pos hc29, if_pos hc30, if_neg hc31, if_pos hc131]; exact G132_2)⟩
                                    · refine own_via (T' := T126) (g' := (mkF m 83 #[.val (.int x0), .val (.int x1), .val (.int x2), .val (.long (9999999999999 : Int64)), .second, .val (.int (13 : Int32))] [(.long (9999999999999 : Int64)), (.long (-9999999999999 : Int64)), (.ref b126), (.ref b126)])) (fun t k => XS.ifNo X126.here hx rfl (hb hby own_d1_73) rfl ((if0 _ _).trans (feq hc131).1) (XS.lloadN X126.here hx rfl (hb hby own_d1_76) rfl (XS.lneg X126.here hx rfl (hb hby own_d1_77) rfl (XS.goto X126.here hx rfl (pc0 := 78) (pc' := 82) rfl (hb hby own_d1_78) (by decide) (by decide) (XS.lloadN X126.here hx rfl (hb hby own_d1_82) rfl k))))) ?_
                                      obtain ⟨v138, T138, L138, X138, hQ138, st138⟩ := own_callSp (y := (⟨"com/example/surrogate/surrogate/KeyRange", "<init>", "(JJ)V"⟩ : MethodName)) (a := b126) (argsL := [(.long (-9999999999999 : Int64)), (.long (9999999999999 : Int64))]) (rest := [(.ref b126)]) X126 hx hZ hown rfl (hw _ (List.mem_of_getElem? (i := 44) rfl)) (hw _ (List.mem_of_getElem? (i := 45) rfl)) (hw _ (List.mem_of_getElem? (i := 2) rfl)) (hw _ (List.mem_of_getElem? (i := 46) rfl)) (by decide) (own_mt4 l Z a0 hw b126 (-9999999999999 : Int64) (9999999999999 : Int64) h126 n0 Z126 ge_b126 A126 Flowest_126 Fhighest_126) e126 (W := 1) (by decide) (by decide) (g := (mkF m 83 #[.val (.int x0), .val (.int x1), .val (.int x2), .val (.long (9999999999999 : Int64)), .second, .val (.int (13 : Int32))] [(.long (9999999999999 : Int64)), (.long (-9999999999999 : Int64)), (.ref b126), (.ref b126)])) rfl (by rw [hml]; rfl) (lenOf own_pd0 rfl) rfl (by show 2 * 0 + _ ≤ _; exact Nat.le_of_eq rfl) (hb hby own_d1_83) (by decide) (by decide)
                                      obtain ⟨rfl, Nq138, K138q, G138_0, G138_1, G138_2⟩ := hQ138
                                      have N138 := Fr.app N0 Nq138
                                      have Z138 : n0 ≤ T138.heap.size := Nat.le_trans Z126 K138q.1
                                      have K138 : Keep h0 T138.heap [] := K126.trans K138q (allS (Or.inr bo_b126) all0)
                                      have E_ev_at140 := E_ev_at128.keep K138q
                                      have Fe_lowest_at141 := Fe_lowest_at129.keep K138q (ninS ne_ev_b126 nin0)
                                      have Fe_highest_at142 := Fe_highest_at130.keep K138q (ninS ne_ev_b126 nin0)
                                      have A126_at143 := A126.keep K138q
                                      refine own_via (T' := T138) (g' := (mkF m 86 #[.val (.int x0), .val (.int x1), .val (.int x2), .val (.long (9999999999999 : Int64)), .second, .val (.int (13 : Int32))] [(.ref b126)])) st138 ?_
                                      refine own_retA X138 hx hlk hret rfl rfl (hb hby own_d1_86) (by decide) (by decide) ?_
                                      exact ⟨b126, rfl, N138, K138, G138_0, (by rw [own_dec_r_lowest, if_neg hc1, if_pos hc3, if_neg hc4, if_pos hc18, if_pos hc19, if_pos hc20, if_pos hc21, if_pos hc22, if_pos hc23, if_pos hc24, if_pos hc25, if_pos hc26, if_pos hc27, if_pos hc28, if_pos hc29, if_pos hc30, if_neg hc31, if_neg hc131]; exact G138_1), (by rw [own_dec_r_highest, if_neg hc1, if_pos hc3, if_neg hc4, if_pos hc18, if_pos hc19, if_pos hc20, if_pos hc21, if_pos hc22, if_pos hc23, if_pos hc24, if_pos hc25, if_pos hc26, if_pos hc27, if_pos hc28, if_pos hc29, if_pos hc30, if_neg hc31, if_neg hc131]; exact G138_2)⟩
                                · refine own_via (T' := s₁) (g' := (mkF m 68 #[.val (.int x0), .val (.int x1), .val (.int x2), .val (.long (999999999999 : Int64)), .second, .val (.int (12 : Int32))] [])) (fun t k => XS.icmpYes X0.here hx rfl (pc0 := 49) (pc' := 64) rfl (hb hby own_d1_49) rfl (flt hc30).2.1 (by decide) (by decide) (XS.lloadN X0.here hx rfl (hb hby own_d1_64) rfl (XS.lconst X0.here hx rfl (hb hby own_d1_65) (XS.lsub X0.here hx rfl (hb hby own_d1_66) rfl (XS.lstoreN X0.here hx rfl (hb hby own_d1_67) rfl (l' := #[.val (.int x0), .val (.int x1), .val (.int x2), .val (.long (999999999999 : Int64)), .second, .val (.int (12 : Int32))]) rfl k))))) ?_
                                  obtain ⟨T144, h144, X144, e144, E144, A144, D144, -, st144⟩ := newO X0 hx hZ hown (hw _ (List.mem_of_getElem? (i := 42) rfl)) (hw _ (List.mem_of_getElem? (i := 43) rfl)) (hw _ (List.mem_of_getElem? (i := 2) rfl)) e0 (g := (mkF m 68 #[.val (.int x0), .val (.int x1), .val (.int x2), .val (.long (999999999999 : Int64)), .second, .val (.int (12 : Int32))] [])) rfl (hb hby own_d1_68) (by decide) (by decide)
                                  obtain ⟨b144, g144⟩ : ∃ z, z = h0.size := ⟨_, rfl⟩
                                  rw [← g144] at A144 D144 st144
                                  have bd_b144 : h0.size ≤ b144 := Nat.le_of_eq g144.symm
                                  have ne_ev_b144 : ev ≠ b144 := own_ne_of E_ev.lt bd_b144
                                  have ge_b144 : n0 ≤ b144 := Nat.le_trans Z0 bd_b144
                                  have Z144 : n0 ≤ h144.size := Nat.le_trans Z0 E144.1
                                  have bo_b144 : h0.size ≤ b144 := Nat.le_trans K0.1 bd_b144
                                  have K144 : Keep h0 h144 [] := K0.ext E144
                                  have S_ev_at145 := S_ev.ext E144
                                  have E_ev_at146 := E_ev.ext E144
                                  have Fe_lowest_at147 := Fe_lowest.ext E144
                                  have Fe_highest_at148 := Fe_highest.ext E144
                                  have Flowest_144 : Fld Z h144 b144 "com/example/surrogate/surrogate/KeyRange" "lowest" "J" (.long (0 : Int64)) := D144 (Or.inr (hw _ (List.mem_of_getElem? (i := 12) rfl))) (ty := .long) (by decide)
                                  have Fhighest_144 : Fld Z h144 b144 "com/example/surrogate/surrogate/KeyRange" "highest" "J" (.long (0 : Int64)) := D144 (Or.inr (hw _ (List.mem_of_getElem? (i := 19) rfl))) (ty := .long) (by decide)
                                  refine own_via (T' := T144) (g' := (mkF m 71 #[.val (.int x0), .val (.int x1), .val (.int x2), .val (.long (999999999999 : Int64)), .second, .val (.int (12 : Int32))] [(.ref b144)])) st144 ?_
                                  refine own_via (T' := T144) (g' := (mkF m 73 #[.val (.int x0), .val (.int x1), .val (.int x2), .val (.long (999999999999 : Int64)), .second, .val (.int (12 : Int32))] [(.int x2), (.ref b144), (.ref b144)])) (fun t k => XS.dup X144.here hx rfl (hb hby own_d1_71) rfl rfl (XS.iloadN X144.here hx rfl (hb hby own_d1_72) rfl k)) ?_
                                  by_cases hc149 : x2 = (0 : Int32)
                                  · refine own_via (T' := T144) (g' := (mkF m 83 #[.val (.int x0), .val (.int x1), .val (.int x2), .val (.long (999999999999 : Int64)), .second, .val (.int (12 : Int32))] [(.long (999999999999 : Int64)), (.long (0 : Int64)), (.ref b144), (.ref b144)])) (fun t k => XS.ifYes X144.here hx rfl (pc0 := 73) (pc' := 81) rfl (hb hby own_d1_73) rfl ((if0 _ _).trans (teq hc149).1) (by decide) (by decide) (XS.lconst X144.here hx rfl (hb hby own_d1_81) (XS.lloadN X144.here hx rfl (hb hby own_d1_82) rfl k))) ?_
                                    obtain ⟨v150, T150, L150, X150, hQ150, st150⟩ := own_callSp (y := (⟨"com/example/surrogate/surrogate/KeyRange", "<init>", "(JJ)V"⟩ : MethodName)) (a := b144) (argsL := [(.long (0 : Int64)), (.long (999999999999 : Int64))]) (rest := [(.ref b144)]) X144 hx hZ hown rfl (hw _ (List.mem_of_getElem? (i := 44) rfl)) (hw _ (List.mem_of_getElem? (i := 45) rfl)) (hw _ (List.mem_of_getElem? (i := 2) rfl)) (hw _ (List.mem_of_getElem? (i := 46) rfl)) (by decide) (own_mt4 l Z a0 hw b144 (0 : Int64) (999999999999 : Int64) h144 n0 Z144 ge_b144 A144 Flowest_144 Fhighest_144) e144 (W := 1) (by decide) (by decide) (g := (mkF m 83 #[.val (.int x0), .val (.int x1), .val (.int x2), .val (.long (999999999999 : Int64)), .second, .val (.int (12 : Int32))] [(.long (999999999999 : Int64)), (.long (0 : Int64)), (.ref b144), (.ref b144)])) rfl (by rw [hml]; rfl) (lenOf own_pd0 rfl) rfl (by show 2 * 0 + _ ≤ _; exact Nat.le_of_eq rfl) (hb hby own_d1_83) (by decide) (by decide)
                                    obtain ⟨rfl, Nq150, K150q, G150_0, G150_1, G150_2⟩ := hQ150
                                    have N150 := Fr.app N0 Nq150
                                    have Z150 : n0 ≤ T150.heap.size := Nat.le_trans Z144 K150q.1
                                    have K150 : Keep h0 T150.heap [] := K144.trans K150q (allS (Or.inr bo_b144) all0)
                                    have E_ev_at152 := E_ev_at146.keep K150q
                                    have Fe_lowest_at153 := Fe_lowest_at147.keep K150q (ninS ne_ev_b144 nin0)
                                    have Fe_highest_at154 := Fe_highest_at148.keep K150q (ninS ne_ev_b144 nin0)
                                    have A144_at155 := A144.keep K150q
                                    refine own_via (T' := T150) (g' := (mkF m 86 #[.val (.int x0), .val (.int x1), .val (.int x2), .val (.long (999999999999 : Int64)), .second, .val (.int (12 : Int32))] [(.ref b144)])) st150 ?_
                                    refine own_retA X150 hx hlk hret rfl rfl (hb hby own_d1_86) (by decide) (by decide) ?_
                                    exact ⟨b144, rfl, N150, K150, G150_0, (by rw [own_dec_r_lowest, if_neg hc1, if_pos hc3, if_neg hc4, if_pos hc18, if_pos hc19, if_pos hc20, if_pos hc21, if_pos hc22, if_pos hc23, if_pos hc24, if_pos hc25, if_pos hc26, if_pos hc27, if_pos hc28, if_pos hc29, if_neg hc30, if_pos hc149]; exact G150_1), (by rw [own_dec_r_highest, if_neg hc1, if_pos hc3, if_neg hc4, if_pos hc18, if_pos hc19, if_pos hc20, if_pos hc21, if_pos hc22, if_pos hc23, if_pos hc24, if_pos hc25, if_pos hc26, if_pos hc27, if_pos hc28, if_pos hc29, if_neg hc30, if_pos hc149]; exact G150_2)⟩
                                  · refine own_via (T' := T144) (g' := (mkF m 83 #[.val (.int x0), .val (.int x1), .val (.int x2), .val (.long (999999999999 : Int64)), .second, .val (.int (12 : Int32))] [(.long (999999999999 : Int64)), (.long (-999999999999 : Int64)), (.ref b144), (.ref b144)])) (fun t k => XS.ifNo X144.here hx rfl (hb hby own_d1_73) rfl ((if0 _ _).trans (feq hc149).1) (XS.lloadN X144.here hx rfl (hb hby own_d1_76) rfl (XS.lneg X144.here hx rfl (hb hby own_d1_77) rfl (XS.goto X144.here hx rfl (pc0 := 78) (pc' := 82) rfl (hb hby own_d1_78) (by decide) (by decide) (XS.lloadN X144.here hx rfl (hb hby own_d1_82) rfl k))))) ?_
                                    obtain ⟨v156, T156, L156, X156, hQ156, st156⟩ := own_callSp (y := (⟨"com/example/surrogate/surrogate/KeyRange", "<init>", "(JJ)V"⟩ : MethodName)) (a := b144) (argsL := [(.long (-999999999999 : Int64)), (.long (999999999999 : Int64))]) (rest := [(.ref b144)]) X144 hx hZ hown rfl (hw _ (List.mem_of_getElem? (i := 44) rfl)) (hw _ (List.mem_of_getElem? (i := 45) rfl)) (hw _ (List.mem_of_getElem? (i := 2) rfl)) (hw _ (List.mem_of_getElem? (i := 46) rfl)) (by decide) (own_mt4 l Z a0 hw b144 (-999999999999 : Int64) (999999999999 : Int64) h144 n0 Z144 ge_b144 A144 Flowest_144 Fhighest_144) e144 (W := 1) (by decide) (by decide) (g := (mkF m 83 #[.val (.int x0), .val (.int x1), .val (.int x2), .val (.long (999999999999 : Int64)), .second, .val (.int (12 : Int32))] [(.long (999999999999 : Int64)), (.long (-999999999999 : Int64)), (.ref b144), (.ref b144)])) rfl (by rw [hml]; rfl) (lenOf own_pd0 rfl) rfl (by show 2 * 0 + _ ≤ _; exact Nat.le_of_eq rfl) (hb hby own_d1_83) (by decide) (by decide)
                                    obtain ⟨rfl, Nq156, K156q, G156_0, G156_1, G156_2⟩ := hQ156
                                    have N156 := Fr.app N0 Nq156
                                    have Z156 : n0 ≤ T156.heap.size := Nat.le_trans Z144 K156q.1
                                    have K156 : Keep h0 T156.heap [] := K144.trans K156q (allS (Or.inr bo_b144) all0)
                                    have E_ev_at158 := E_ev_at146.keep K156q
                                    have Fe_lowest_at159 := Fe_lowest_at147.keep K156q (ninS ne_ev_b144 nin0)
                                    have Fe_highest_at160 := Fe_highest_at148.keep K156q (ninS ne_ev_b144 nin0)
                                    have A144_at161 := A144.keep K156q
                                    refine own_via (T' := T156) (g' := (mkF m 86 #[.val (.int x0), .val (.int x1), .val (.int x2), .val (.long (999999999999 : Int64)), .second, .val (.int (12 : Int32))] [(.ref b144)])) st156 ?_
                                    refine own_retA X156 hx hlk hret rfl rfl (hb hby own_d1_86) (by decide) (by decide) ?_
                                    exact ⟨b144, rfl, N156, K156, G156_0, (by rw [own_dec_r_lowest, if_neg hc1, if_pos hc3, if_neg hc4, if_pos hc18, if_pos hc19, if_pos hc20, if_pos hc21, if_pos hc22, if_pos hc23, if_pos hc24, if_pos hc25, if_pos hc26, if_pos hc27, if_pos hc28, if_pos hc29, if_neg hc30, if_neg hc149]; exact G156_1), (by rw [own_dec_r_highest, if_neg hc1, if_pos hc3, if_neg hc4, if_pos hc18, if_pos hc19, if_pos hc20, if_pos hc21, if_pos hc22, if_pos hc23, if_pos hc24, if_pos hc25, if_pos hc26, if_pos hc27, if_pos hc28, if_pos hc29, if_neg hc30, if_neg hc149]; exact G156_2)⟩
                              · refine own_via (T' := s₁) (g' := (mkF m 68 #[.val (.int x0), .val (.int x1), .val (.int x2), .val (.long (99999999999 : Int64)), .second, .val (.int (11 : Int32))] [])) (fun t k => XS.icmpYes X0.here hx rfl (pc0 := 49) (pc' := 64) rfl (hb hby own_d1_49) rfl (flt hc29).2.1 (by decide) (by decide) (XS.lloadN X0.here hx rfl (hb hby own_d1_64) rfl (XS.lconst X0.here hx rfl (hb hby own_d1_65) (XS.lsub X0.here hx rfl (hb hby own_d1_66) rfl (XS.lstoreN X0.here hx rfl (hb hby own_d1_67) rfl (l' := #[.val (.int x0), .val (.int x1), .val (.int x2), .val (.long (99999999999 : Int64)), .second, .val (.int (11 : Int32))]) rfl k))))) ?_
                                obtain ⟨T162, h162, X162, e162, E162, A162, D162, -, st162⟩ := newO X0 hx hZ hown (hw _ (List.mem_of_getElem? (i := 42) rfl)) (hw _ (List.mem_of_getElem? (i := 43) rfl)) (hw _ (List.mem_of_getElem? (i := 2) rfl)) e0 (g := (mkF m 68 #[.val (.int x0), .val (.int x1), .val (.int x2), .val (.long (99999999999 : Int64)), .second, .val (.int (11 : Int32))] [])) rfl (hb hby own_d1_68) (by decide) (by decide)
                                obtain ⟨b162, g162⟩ : ∃ z, z = h0.size := ⟨_, rfl⟩
                                rw [← g162] at A162 D162 st162
                                have bd_b162 : h0.size ≤ b162 := Nat.le_of_eq g162.symm
                                have ne_ev_b162 : ev ≠ b162 := own_ne_of E_ev.lt bd_b162
                                have ge_b162 : n0 ≤ b162 := Nat.le_trans Z0 bd_b162
                                have Z162 : n0 ≤ h162.size := Nat.le_trans Z0 E162.1
                                have bo_b162 : h0.size ≤ b162 := Nat.le_trans K0.1 bd_b162
                                have K162 : Keep h0 h162 [] := K0.ext E162
                                have S_ev_at163 := S_ev.ext E162
                                have E_ev_at164 := E_ev.ext E162
                                have Fe_lowest_at165 := Fe_lowest.ext E162
                                have Fe_highest_at166 := Fe_highest.ext E162
                                have Flowest_162 : Fld Z h162 b162 "com/example/surrogate/surrogate/KeyRange" "lowest" "J" (.long (0 : Int64)) := D162 (Or.inr (hw _ (List.mem_of_getElem? (i := 12) rfl))) (ty := .long) (by decide)
                                have Fhighest_162 : Fld Z h162 b162 "com/example/surrogate/surrogate/KeyRange" "highest" "J" (.long (0 : Int64)) := D162 (Or.inr (hw _ (List.mem_of_getElem? (i := 19) rfl))) (ty := .long) (by decide)
                                refine own_via (T' := T162) (g' := (mkF m 71 #[.val (.int x0), .val (.int x1), .val (.int x2), .val (.long (99999999999 : Int64)), .second, .val (.int (11 : Int32))] [(.ref b162)])) st162 ?_
                                refine own_via (T' := T162) (g' := (mkF m 73 #[.val (.int x0), .val (.int x1), .val (.int x2), .val (.long (99999999999 : Int64)), .second, .val (.int (11 : Int32))] [(.int x2), (.ref b162), (.ref b162)])) (fun t k => XS.dup X162.here hx rfl (hb hby own_d1_71) rfl rfl (XS.iloadN X162.here hx rfl (hb hby own_d1_72) rfl k)) ?_
                                by_cases hc167 : x2 = (0 : Int32)
                                · refine own_via (T' := T162) (g' := (mkF m 83 #[.val (.int x0), .val (.int x1), .val (.int x2), .val (.long (99999999999 : Int64)), .second, .val (.int (11 : Int32))] [(.long (99999999999 : Int64)), (.long (0 : Int64)), (.ref b162), (.ref b162)])) (fun t k => XS.ifYes X162.here hx rfl (pc0 := 73) (pc' := 81) rfl (hb hby own_d1_73) rfl ((if0 _ _).trans (teq hc167).1) (by decide) (by decide) (XS.lconst X162.here hx rfl (hb hby own_d1_81) (XS.lloadN X162.here hx rfl (hb hby own_d1_82) rfl k))) ?_
                                  obtain ⟨v168, T168, L168, X168, hQ168, st168⟩ := own_callSp (y := (⟨"com/example/surrogate/surrogate/KeyRange", "<init>", "(JJ)V"⟩ : MethodName)) (a := b162) (argsL := [(.long (0 : Int64)), (.long (99999999999 : Int64))]) (rest := [(.ref b162)]) X162 hx hZ hown rfl (hw _ (List.mem_of_getElem? (i := 44) rfl)) (hw _ (List.mem_of_getElem? (i := 45) rfl)) (hw _ (List.mem_of_getElem? (i := 2) rfl)) (hw _ (List.mem_of_getElem? (i := 46) rfl)) (by decide) (own_mt4 l Z a0 hw b162 (0 : Int64) (99999999999 : Int64) h162 n0 Z162 ge_b162 A162 Flowest_162 Fhighest_162) e162 (W := 1) (by decide) (by decide) (g := (mkF m 83 #[.val (.int x0), .val (.int x1), .val (.int x2), .val (.long (99999999999 : Int64)), .second, .val (.int (11 : Int32))] [(.long (99999999999 : Int64)), (.long (0 : Int64)), (.ref b162), (.ref b162)])) rfl (by rw [hml]; rfl) (lenOf own_pd0 rfl) rfl (by show 2 * 0 + _ ≤ _; exact Nat.le_of_eq rfl) (hb hby own_d1_83) (by decide) (by decide)
                                  obtain ⟨rfl, Nq168, K168q, G168_0, G168_1, G168_2⟩ := hQ168
                                  have N168 := Fr.app N0 Nq168
                                  have Z168 : n0 ≤ T168.heap.size := Nat.le_trans Z162 K168q.1
                                  have K168 : Keep h0 T168.heap [] := K162.trans K168q (allS (Or.inr bo_b162) all0)
                                  have E_ev_at170 := E_ev_at164.keep K168q
                                  have Fe_lowest_at171 := Fe_lowest_at165.keep K168q (ninS ne_ev_b162 nin0)
                                  have Fe_highest_at172 := Fe_highest_at166.keep K168q (ninS ne_ev_b162 nin0)
                                  have A162_at173 := A162.keep K168q
                                  refine own_via (T' := T168) (g' := (mkF m 86 #[.val (.int x0), .val (.int x1), .val (.int x2), .val (.long (99999999999 : Int64)), .second, .val (.int (11 : Int32))] [(.ref b162)])) st168 ?_
                                  refine own_retA X168 hx hlk hret rfl rfl (hb hby own_d1_86) (by decide) (by decide) ?_
                                  exact ⟨b162, rfl, N168, K168, G168_0, (by rw [own_dec_r_lowest, if_neg hc1, if_pos hc3, if_neg hc4, if_pos hc18, if_pos hc19, if_pos hc20, if_pos hc21, if_pos hc22, if_pos hc23, if_pos hc24, if_pos hc25, if_pos hc26, if_pos hc27, if_pos hc28, if_neg hc29, if_pos hc167]; exact G168_1), (by rw [own_dec_r_highest, if_neg hc1, if_pos hc3, if_neg hc4, if_pos hc18, if_pos hc19, if_pos hc20, if_pos hc21, if_pos hc22, if_pos hc23, if_pos hc24, if_pos hc25, if_pos hc26, if_pos hc27, if_pos hc28, if_neg hc29, if_pos hc167]; exact G168_2)⟩
                                · refine own_via (T' := T162) (g' := (mkF m 83 #[.val (.int x0), .val (.int x1), .val (.int x2), .val (.long (99999999999 : Int64)), .second, .val (.int (11 : Int32))] [(.long (99999999999 : Int64)), (.long (-99999999999 : Int64)), (.ref b162), (.ref b162)])) (fun t k => XS.ifNo X162.here hx rfl (hb hby own_d1_73) rfl ((if0 _ _).trans (feq hc167).1) (XS.lloadN X162.here hx rfl (hb hby own_d1_76) rfl (XS.lneg X162.here hx rfl (hb hby own_d1_77) rfl (XS.goto X162.here hx rfl (pc0 := 78) (pc' := 82) rfl (hb hby own_d1_78) (by decide) (by decide) (XS.lloadN X162.here hx rfl (hb hby own_d1_82) rfl k))))) ?_
                                  obtain ⟨v174, T174, L174, X174, hQ174, st174⟩ := own_callSp (y := (⟨"com/example/surrogate/surrogate/KeyRange", "<init>", "(JJ)V"⟩ : MethodName)) (a := b162) (argsL := [(.long (-99999999999 : Int64)), (.long (99999999999 : Int64))]) (rest := [(.ref b162)]) X162 hx hZ hown rfl (hw _ (List.mem_of_getElem? (i := 44) rfl)) (hw _ (List.mem_of_getElem? (i := 45) rfl)) (hw _ (List.mem_of_getElem? (i := 2) rfl)) (hw _ (List.mem_of_getElem? (i := 46) rfl)) (by decide) (own_mt4 l Z a0 hw b162 (-99999999999 : Int64) (99999999999 : Int64) h162 n0 Z162 ge_b162 A162 Flowest_162 Fhighest_162) e162 (W := 1) (by decide) (by decide) (g := (mkF m 83 #[.val (.int x0), .val (.int x1), .val (.int x2), .val (.long (99999999999 : Int64)), .second, .val (.int (11 : Int32))] [(.long (99999999999 : Int64)), (.long (-99999999999 : Int64)), (.ref b162), (.ref b162)])) rfl (by rw [hml]; rfl) (lenOf own_pd0 rfl) rfl (by show 2 * 0 + _ ≤ _; exact Nat.le_of_eq rfl) (hb hby own_d1_83) (by decide) (by decide)
                                  obtain ⟨rfl, Nq174, K174q, G174_0, G174_1, G174_2⟩ := hQ174
                                  have N174 := Fr.app N0 Nq174
                                  have Z174 : n0 ≤ T174.heap.size := Nat.le_trans Z162 K174q.1
                                  have K174 : Keep h0 T174.heap [] := K162.trans K174q (allS (Or.inr bo_b162) all0)
                                  have E_ev_at176 := E_ev_at164.keep K174q
                                  have Fe_lowest_at177 := Fe_lowest_at165.keep K174q (ninS ne_ev_b162 nin0)
                                  have Fe_highest_at178 := Fe_highest_at166.keep K174q (ninS ne_ev_b162 nin0)
                                  have A162_at179 := A162.keep K174q
                                  refine own_via (T' := T174) (g' := (mkF m 86 #[.val (.int x0), .val (.int x1), .val (.int x2), .val (.long (99999999999 : Int64)), .second, .val (.int (11 : Int32))] [(.ref b162)])) st174 ?_
                                  refine own_retA X174 hx hlk hret rfl rfl (hb hby own_d1_86) (by decide) (by decide) ?_
                                  exact ⟨b162, rfl, N174, K174, G174_0, (by rw [own_dec_r_lowest, if_neg hc1, if_pos hc3, if_neg hc4, if_pos hc18, if_pos hc19, if_pos hc20, if_pos hc21, if_pos hc22, if_pos hc23, if_pos hc24, if_pos hc25, if_pos hc26, if_pos hc27, if_pos hc28, if_neg hc29, if_neg hc167]; exact G174_1), (by rw [own_dec_r_highest, if_neg hc1, if_pos hc3, if_neg hc4, if_pos hc18, if_pos hc19, if_pos hc20, if_pos hc21, if_pos hc22, if_pos hc23, if_pos hc24, if_pos hc25, if_pos hc26, if_pos hc27, if_pos hc28, if_neg hc29, if_neg hc167]; exact G174_2)⟩
                            · refine own_via (T' := s₁) (g' := (mkF m 68 #[.val (.int x0), .val (.int x1), .val (.int x2), .val (.long (9999999999 : Int64)), .second, .val (.int (10 : Int32))] [])) (fun t k => XS.icmpYes X0.here hx rfl (pc0 := 49) (pc' := 64) rfl (hb hby own_d1_49) rfl (flt hc28).2.1 (by decide) (by decide) (XS.lloadN X0.here hx rfl (hb hby own_d1_64) rfl (XS.lconst X0.here hx rfl (hb hby own_d1_65) (XS.lsub X0.here hx rfl (hb hby own_d1_66) rfl (XS.lstoreN X0.here hx rfl (hb hby own_d1_67) rfl (l' := #[.val (.int x0), .val (.int x1), .val (.int x2), .val (.long (9999999999 : Int64)), .second, .val (.int (10 : Int32))]) rfl k))))) ?_
                              obtain ⟨T180, h180, X180, e180, E180, A180, D180, -, st180⟩ := newO X0 hx hZ hown (hw _ (List.mem_of_getElem? (i := 42) rfl)) (hw _ (List.mem_of_getElem? (i := 43) rfl)) (hw _ (List.mem_of_getElem? (i := 2) rfl)) e0 (g := (mkF m 68 #[.val (.int x0), .val (.int x1), .val (.int x2), .val (.long (9999999999 : Int64)), .second, .val (.int (10 : Int32))] [])) rfl (hb hby own_d1_68) (by decide) (by decide)
                              obtain ⟨b180, g180⟩ : ∃ z, z = h0.size := ⟨_, rfl⟩
                              rw [← g180] at A180 D180 st180
                              have bd_b180 : h0.size ≤ b180 := Nat.le_of_eq g180.symm
                              have ne_ev_b180 : ev ≠ b180 := own_ne_of E_ev.lt bd_b180
                              have ge_b180 : n0 ≤ b180 := Nat.le_trans Z0 bd_b180
                              have Z180 : n0 ≤ h180.size := Nat.le_trans Z0 E180.1
                              have bo_b180 : h0.size ≤ b180 := Nat.le_trans K0.1 bd_b180
                              have K180 : Keep h0 h180 [] := K0.ext E180
                              have S_ev_at181 := S_ev.ext E180
                              have E_ev_at182 := E_ev.ext E180
                              have Fe_lowest_at183 := Fe_lowest.ext E180
                              have Fe_highest_at184 := Fe_highest.ext E180
                              have Flowest_180 : Fld Z h180 b180 "com/example/surrogate/surrogate/KeyRange" "lowest" "J" (.long (0 : Int64)) := D180 (Or.inr (hw _ (List.mem_of_getElem? (i := 12) rfl))) (ty := .long) (by decide)
                              have Fhighest_180 : Fld Z h180 b180 "com/example/surrogate/surrogate/KeyRange" "highest" "J" (.long (0 : Int64)) := D180 (Or.inr (hw _ (List.mem_of_getElem? (i := 19) rfl))) (ty := .long) (by decide)
                              refine own_via (T' := T180) (g' := (mkF m 71 #[.val (.int x0), .val (.int x1), .val (.int x2), .val (.long (9999999999 : Int64)), .second, .val (.int (10 : Int32))] [(.ref b180)])) st180 ?_
                              refine own_via (T' := T180) (g' := (mkF m 73 #[.val (.int x0), .val (.int x1), .val (.int x2), .val (.long (9999999999 : Int64)), .second, .val (.int (10 : Int32))] [(.int x2), (.ref b180), (.ref b180)])) (fun t k => XS.dup X180.here hx rfl (hb hby own_d1_71) rfl rfl (XS.iloadN X180.here hx rfl (hb hby own_d1_72) rfl k)) ?_
                              by_cases hc185 : x2 = (0 : Int32)
                              · refine own_via (T' := T180) (g' := (mkF m 83 #[.val (.int x0), .val (.int x1), .val (.int x2), .val (.long (9999999999 : Int64)), .second, .val (.int (10 : Int32))] [(.long (9999999999 : Int64)), (.long (0 : Int64)), (.ref b180), (.ref b180)])) (fun t k => XS.ifYes X180.here hx rfl (pc0 := 73) (pc' := 81) rfl (hb hby own_d1_73) rfl ((if0 _ _).trans (teq hc185).1) (by decide) (by decide) (XS.lconst X180.here hx rfl (hb hby own_d1_81) (XS.lloadN X180.here hx rfl (hb hby own_d1_82) rfl k))) ?_
                                obtain ⟨v186, T186, L186, X186, hQ186, st186⟩ := own_callSp (y := (⟨"com/example/surrogate/surrogate/KeyRange", "<init>", "(JJ)V"⟩ : MethodName)) (a := b180) (argsL := [(.long (0 : Int64)), (.long (9999999999 : Int64))]) (rest := [(.ref b180)]) X180 hx hZ hown rfl (hw _ (List.mem_of_getElem? (i := 44) rfl)) (hw _ (List.mem_of_getElem? (i := 45) rfl)) (hw _ (List.mem_of_getElem? (i := 2) rfl)) (hw _ (List.mem_of_getElem? (i := 46) rfl)) (by decide) (own_mt4 l Z a0 hw b180 (0 : Int64) (9999999999 : Int64) h180 n0 Z180 ge_b180 A180 Flowest_180 Fhighest_180) e180 (W := 1) (by decide) (by decide) (g := (mkF m 83 #[.val (.int x0), .val (.int x1), .val (.int x2), .val (.long (9999999999 : Int64)), .second, .val (.int (10 : Int32))] [(.long (9999999999 : Int64)), (.long (0 : Int64)), (.ref b180), (.ref b180)])) rfl (by rw [hml]; rfl) (lenOf own_pd0 rfl) rfl (by show 2 * 0 + _ ≤ _; exact Nat.le_of_eq rfl) (hb hby own_d1_83) (by decide) (by decide)
                                obtain ⟨rfl, Nq186, K186q, G186_0, G186_1, G186_2⟩ := hQ186
                                have N186 := Fr.app N0 Nq186
                                have Z186 : n0 ≤ T186.heap.size := Nat.le_trans Z180 K186q.1
                                have K186 : Keep h0 T186.heap [] := K180.trans K186q (allS (Or.inr bo_b180) all0)
                                have E_ev_at188 := E_ev_at182.keep K186q
                                have Fe_lowest_at189 := Fe_lowest_at183.keep K186q (ninS ne_ev_b180 nin0)
                                have Fe_highest_at190 := Fe_highest_at184.keep K186q (ninS ne_ev_b180 nin0)
                                have A180_at191 := A180.keep K186q
                                refine own_via (T' := T186) (g' := (mkF m 86 #[.val (.int x0), .val (.int x1), .val (.int x2), .val (.long (9999999999 : Int64)), .second, .val (.int (10 : Int32))] [(.ref b180)])) st186 ?_
                                refine own_retA X186 hx hlk hret rfl rfl (hb hby own_d1_86) (by decide) (by decide) ?_
                                exact ⟨b180, rfl, N186, K186, G186_0, (by rw [own_dec_r_lowest, if_neg hc1, if_pos hc3, if_neg hc4, if_pos hc18, if_pos hc19, if_pos hc20, if_pos hc21, if_pos hc22, if_pos hc23, if_pos hc24, if_pos hc25, if_pos hc26, if_pos hc27, if_neg hc28, if_pos hc185]; exact G186_1), (by rw [own_dec_r_highest, if_neg hc1, if_pos hc3, if_neg hc4, if_pos hc18, if_pos hc19, if_pos hc20, if_pos hc21, if_pos hc22, if_pos hc23, if_pos hc24, if_pos hc25, if_pos hc26, if_pos hc27, if_neg hc28, if_pos hc185]; exact G186_2)⟩
                              · refine own_via (T' := T180) (g' := (mkF m 83 #[.val (.int x0), .val (.int x1), .val (.int x2), .val (.long (9999999999 : Int64)), .second, .val (.int (10 : Int32))] [(.long (9999999999 : Int64)), (.long (-9999999999 : Int64)), (.ref b180), (.ref b180)])) (fun t k => XS.ifNo X180.here hx rfl (hb hby own_d1_73) rfl ((if0 _ _).trans (feq hc185).1) (XS.lloadN X180.here hx rfl (hb hby own_d1_76) rfl (XS.lneg X180.here hx rfl (hb hby own_d1_77) rfl (XS.goto X180.here hx rfl (pc0 := 78) (pc' := 82) rfl (hb hby own_d1_78) (by decide) (by decide) (XS.lloadN X180.here hx rfl (hb hby own_d1_82) rfl k))))) ?_
                                obtain ⟨v192, T192, L192, X192, hQ192, st192⟩ := own_callSp (y := (⟨"com/example/surrogate/surrogate/KeyRange", "<init>", "(JJ)V"⟩ : MethodName)) (a := b180) (argsL := [(.long (-9999999999 : Int64)), (.long (9999999999 : Int64))]) (rest := [(.ref b180)]) X180 hx hZ hown rfl (hw _ (List.mem_of_getElem? (i := 44) rfl)) (hw _ (List.mem_of_getElem? (i := 45) rfl)) (hw _ (List.mem_of_getElem? (i := 2) rfl)) (hw _ (List.mem_of_getElem? (i := 46) rfl)) (by decide) (own_mt4 l Z a0 hw b180 (-9999999999 : Int64) (9999999999 : Int64) h180 n0 Z180 ge_b180 A180 Flowest_180 Fhighest_180) e180 (W := 1) (by decide) (by decide) (g := (mkF m 83 #[.val (.int x0), .val (.int x1), .val (.int x2), .val (.long (9999999999 : Int64)), .second, .val (.int (10 : Int32))] [(.long (9999999999 : Int64)), (.long (-9999999999 : Int64)), (.ref b180), (.ref b180)])) rfl (by rw [hml]; rfl) (lenOf own_pd0 rfl) rfl (by show 2 * 0 + _ ≤ _; exact Nat.le_of_eq rfl) (hb hby own_d1_83) (by decide) (by decide)
                                obtain ⟨rfl, Nq192, K192q, G192_0, G192_1, G192_2⟩ := hQ192
                                have N192 := Fr.app N0 Nq192
                                have Z192 : n0 ≤ T192.heap.size := Nat.le_trans Z180 K192q.1
                                have K192 : Keep h0 T192.heap [] := K180.trans K192q (allS (Or.inr bo_b180) all0)
                                have E_ev_at194 := E_ev_at182.keep K192q
                                have Fe_lowest_at195 := Fe_lowest_at183.keep K192q (ninS ne_ev_b180 nin0)
                                have Fe_highest_at196 := Fe_highest_at184.keep K192q (ninS ne_ev_b180 nin0)
                                have A180_at197 := A180.keep K192q
                                refine own_via (T' := T192) (g' := (mkF m 86 #[.val (.int x0), .val (.int x1), .val (.int x2), .val (.long (9999999999 : Int64)), .second, .val (.int (10 : Int32))] [(.ref b180)])) st192 ?_
                                refine own_retA X192 hx hlk hret rfl rfl (hb hby own_d1_86) (by decide) (by decide) ?_
                                exact ⟨b180, rfl, N192, K192, G192_0, (by rw [own_dec_r_lowest, if_neg hc1, if_pos hc3, if_neg hc4, if_pos hc18, if_pos hc19, if_pos hc20, if_pos hc21, if_pos hc22, if_pos hc23, if_pos hc24, if_pos hc25, if_pos hc26, if_pos hc27, if_neg hc28, if_neg hc185]; exact G192_1), (by rw [own_dec_r_highest, if_neg hc1, if_pos hc3, if_neg hc4, if_pos hc18, if_pos hc19, if_pos hc20, if_pos hc21, if_pos hc22, if_pos hc23, if_pos hc24, if_pos hc25, if_pos hc26, if_pos hc27, if_neg hc28, if_neg hc185]; exact G192_2)⟩
                          · refine own_via (T' := s₁) (g' := (mkF m 68 #[.val (.int x0), .val (.int x1), .val (.int x2), .val (.long (999999999 : Int64)), .second, .val (.int (9 : Int32))] [])) (fun t k => XS.icmpYes X0.here hx rfl (pc0 := 49) (pc' := 64) rfl (hb hby own_d1_49) rfl (flt hc27).2.1 (by decide) (by decide) (XS.lloadN X0.here hx rfl (hb hby own_d1_64) rfl (XS.lconst X0.here hx rfl (hb hby own_d1_65) (XS.lsub X0.here hx rfl (hb hby own_d1_66) rfl (XS.lstoreN X0.here hx rfl (hb hby own_d1_67) rfl (l' := #[.val (.int x0), .val (.int x1), .val (.int x2), .val (.long (999999999 : Int64)), .second, .val (.int (9 : Int32))]) rfl k))))) ?_
                            obtain ⟨T198, h198, X198, e198, E198, A198, D198, -, st198⟩ := newO X0 hx hZ hown (hw _ (List.mem_of_getElem? (i := 42) rfl)) (hw _ (List.mem_of_getElem? (i := 43) rfl)) (hw _ (List.mem_of_getElem? (i := 2) rfl)) e0 (g := (mkF m 68 #[.val (.int x0), .val (.int x1), .val (.int x2), .val (.long (999999999 : Int64)), .second, .val (.int (9 : Int32))] [])) rfl (hb hby own_d1_68) (by decide) (by decide)
                            obtain ⟨b198, g198⟩ : ∃ z, z = h0.size := ⟨_, rfl⟩
                            rw [← g198] at A198 D198 st198
                            have bd_b198 : h0.size ≤ b198 := Nat.le_of_eq g198.symm
                            have ne_ev_b198 : ev ≠ b198 := own_ne_of E_ev.lt bd_b198
                            have ge_b198 : n0 ≤ b198 := Nat.le_trans Z0 bd_b198
                            have Z198 : n0 ≤ h198.size := Nat.le_trans Z0 E198.1
                            have bo_b198 : h0.size ≤ b198 := Nat.le_trans K0.1 bd_b198
                            have K198 : Keep h0 h198 [] := K0.ext E198
                            have S_ev_at199 := S_ev.ext E198
                            have E_ev_at200 := E_ev.ext E198
                            have Fe_lowest_at201 := Fe_lowest.ext E198
                            have Fe_highest_at202 := Fe_highest.ext E198
                            have Flowest_198 : Fld Z h198 b198 "com/example/surrogate/surrogate/KeyRange" "lowest" "J" (.long (0 : Int64)) := D198 (Or.inr (hw _ (List.mem_of_getElem? (i := 12) rfl))) (ty := .long) (by decide)
                            have Fhighest_198 : Fld Z h198 b198 "com/example/surrogate/surrogate/KeyRange" "highest" "J" (.long (0 : Int64)) := D198 (Or.inr (hw _ (List.mem_of_getElem? (i := 19) rfl))) (ty := .long) (by decide)
                            refine own_via (T' := T198) (g' := (mkF m 71 #[.val (.int x0), .val (.int x1), .val (.int x2), .val (.long (999999999 : Int64)), .second, .val (.int (9 : Int32))] [(.ref b198)])) st198 ?_
                            refine own_via (T' := T198) (g' := (mkF m 73 #[.val (.int x0), .val (.int x1), .val (.int x2), .val (.long (999999999 : Int64)), .second, .val (.int (9 : Int32))] [(.int x2), (.ref b198), (.ref b198)])) (fun t k => XS.dup X198.here hx rfl (hb hby own_d1_71) rfl rfl (XS.iloadN X198.here hx rfl (hb hby own_d1_72) rfl k)) ?_
                            by_cases hc203 : x2 = (0 : Int32)
                            · refine own_via (T' := T198) (g' := (mkF m 83 #[.val (.int x0), .val (.int x1), .val (.int x2), .val (.long (999999999 : Int64)), .second, .val (.int (9 : Int32))] [(.long (999999999 : Int64)), (.long (0 : Int64)), (.ref b198), (.ref b198)])) (fun t k => XS.ifYes X198.here hx rfl (pc0 := 73) (pc' := 81) rfl (hb hby own_d1_73) rfl ((if0 _ _).trans (teq hc203).1) (by decide) (by decide) (XS.lconst X198.here hx rfl (hb hby own_d1_81) (XS.lloadN X198.here hx rfl (hb hby own_d1_82) rfl k))) ?_
                              obtain ⟨v204, T204, L204, X204, hQ204, st204⟩ := own_callSp (y := (⟨"com/example/surrogate/surrogate/KeyRange", "<init>", "(JJ)V"⟩ : MethodName)) (a := b198) (argsL := [(.long (0 : Int64)), (.long (999999999 : Int64))]) (rest := [(.ref b198)]) X198 hx hZ hown rfl (hw _ (List.mem_of_getElem? (i := 44) rfl)) (hw _ (List.mem_of_getElem? (i := 45) rfl)) (hw _ (List.mem_of_getElem? (i := 2) rfl)) (hw _ (List.mem_of_getElem? (i := 46) rfl)) (by decide) (own_mt4 l Z a0 hw b198 (0 : Int64) (999999999 : Int64) h198 n0 Z198 ge_b198 A198 Flowest_198 Fhighest_198) e198 (W := 1) (by decide) (by decide) (g := (mkF m 83 #[.val (.int x0), .val (.int x1), .val (.int x2), .val (.long (999999999 : Int64)), .second, .val (.int (9 : Int32))] [(.long (999999999 : Int64)), (.long (0 : Int64)), (.ref b198), (.ref b198)])) rfl (by rw [hml]; rfl) (lenOf own_pd0 rfl) rfl (by show 2 * 0 + _ ≤ _; exact Nat.le_of_eq rfl) (hb hby own_d1_83) (by decide) (by decide)
                              obtain ⟨rfl, Nq204, K204q, G204_0, G204_1, G204_2⟩ := hQ204
                              have N204 := Fr.app N0 Nq204
                              have Z204 : n0 ≤ T204.heap.size := Nat.le_trans Z198 K204q.1
                              have K204 : Keep h0 T204.heap [] := K198.trans K204q (allS (Or.inr bo_b198) all0)
                              have E_ev_at206 := E_ev_at200.keep K204q
                              have Fe_lowest_at207 := Fe_lowest_at201.keep K204q (ninS ne_ev_b198 nin0)
                              have Fe_highest_at208 := Fe_highest_at202.keep K204q (ninS ne_ev_b198 nin0)
                              have A198_at209 := A198.keep K204q
                              refine own_via (T' := T204) (g' := (mkF m 86 #[.val (.int x0), .val (.int x1), .val (.int x2), .val (.long (999999999 : Int64)), .second, .val (.int (9 : Int32))] [(.ref b198)])) st204 ?_
                              refine own_retA X204 hx hlk hret rfl rfl (hb hby own_d1_86) (by decide) (by decide) ?_
                              exact ⟨b198, rfl, N204, K204, G204_0, (by rw [own_dec_r_lowest, if_neg hc1, if_pos hc3, if_neg hc4, if_pos hc18, if_pos hc19, if_pos hc20, if_pos hc21, if_pos hc22, if_pos hc23, if_pos hc24, if_pos hc25, if_pos hc26, if_neg hc27, if_pos hc203]; exact G204_1), (by rw [own_dec_r_highest, if_neg hc1, if_pos hc3, if_neg hc4, if_pos hc18, if_pos hc19, if_pos hc20, if_pos hc21, if_pos hc22, if_pos hc23, if_pos hc24, if_pos hc25, if_pos hc26, if_neg hc27, if_pos hc203]; exact G204_2)⟩
                            · refine own_via (T' := T198) (g' := (mkF m 83 #[.val (.int x0), .val (.int x1), .val (.int x2), .val (.long (999999999 : Int64)), .second, .val (.int (9 : Int32))] [(.long (999999999 : Int64)), (.long (-999999999 : Int64)), (.ref b198), (.ref b198)])) (fun t k => XS.ifNo X198.here hx rfl (hb hby own_d1_73) rfl ((if0 _ _).trans (feq hc203).1) (XS.lloadN X198.here hx rfl (hb hby own_d1_76) rfl (XS.lneg X198.here hx rfl (hb hby own_d1_77) rfl (XS.goto X198.here hx rfl (pc0 := 78) (pc' := 82) rfl (hb hby own_d1_78) (by decide) (by decide) (XS.lloadN X198.here hx rfl (hb hby own_d1_82) rfl k))))) ?_
                              obtain ⟨v210, T210, L210, X210, hQ210, st210⟩ := own_callSp (y := (⟨"com/example/surrogate/surrogate/KeyRange", "<init>", "(JJ)V"⟩ : MethodName)) (a := b198) (argsL := [(.long (-999999999 : Int64)), (.long (999999999 : Int64))]) (rest := [(.ref b198)]) X198 hx hZ hown rfl (hw _ (List.mem_of_getElem? (i := 44) rfl)) (hw _ (List.mem_of_getElem? (i := 45) rfl)) (hw _ (List.mem_of_getElem? (i := 2) rfl)) (hw _ (List.mem_of_getElem? (i := 46) rfl)) (by decide) (own_mt4 l Z a0 hw b198 (-999999999 : Int64) (999999999 : Int64) h198 n0 Z198 ge_b198 A198 Flowest_198 Fhighest_198) e198 (W := 1) (by decide) (by decide) (g := (mkF m 83 #[.val (.int x0), .val (.int x1), .val (.int x2), .val (.long (999999999 : Int64)), .second, .val (.int (9 : Int32))] [(.long (999999999 : Int64)), (.long (-999999999 : Int64)), (.ref b198), (.ref b198)])) rfl (by rw [hml]; rfl) (lenOf own_pd0 rfl) rfl (by show 2 * 0 + _ ≤ _; exact Nat.le_of_eq rfl) (hb hby own_d1_83) (by decide) (by decide)
                              obtain ⟨rfl, Nq210, K210q, G210_0, G210_1, G210_2⟩ := hQ210
                              have N210 := Fr.app N0 Nq210
                              have Z210 : n0 ≤ T210.heap.size := Nat.le_trans Z198 K210q.1
                              have K210 : Keep h0 T210.heap [] := K198.trans K210q (allS (Or.inr bo_b198) all0)
                              have E_ev_at212 := E_ev_at200.keep K210q
                              have Fe_lowest_at213 := Fe_lowest_at201.keep K210q (ninS ne_ev_b198 nin0)
                              have Fe_highest_at214 := Fe_highest_at202.keep K210q (ninS ne_ev_b198 nin0)
                              have A198_at215 := A198.keep K210q
                              refine own_via (T' := T210) (g' := (mkF m 86 #[.val (.int x0), .val (.int x1), .val (.int x2), .val (.long (999999999 : Int64)), .second, .val (.int (9 : Int32))] [(.ref b198)])) st210 ?_
                              refine own_retA X210 hx hlk hret rfl rfl (hb hby own_d1_86) (by decide) (by decide) ?_
                              exact ⟨b198, rfl, N210, K210, G210_0, (by rw [own_dec_r_lowest, if_neg hc1, if_pos hc3, if_neg hc4, if_pos hc18, if_pos hc19, if_pos hc20, if_pos hc21, if_pos hc22, if_pos hc23, if_pos hc24, if_pos hc25, if_pos hc26, if_neg hc27, if_neg hc203]; exact G210_1), (by rw [own_dec_r_highest, if_neg hc1, if_pos hc3, if_neg hc4, if_pos hc18, if_pos hc19, if_pos hc20, if_pos hc21, if_pos hc22, if_pos hc23, if_pos hc24, if_pos hc25, if_pos hc26, if_neg hc27, if_neg hc203]; exact G210_2)⟩
                        · refine own_via (T' := s₁) (g' := (mkF m 68 #[.val (.int x0), .val (.int x1), .val (.int x2), .val (.long (99999999 : Int64)), .second, .val (.int (8 : Int32))] [])) (fun t k => XS.icmpYes X0.here hx rfl (pc0 := 49) (pc' := 64) rfl (hb hby own_d1_49) rfl (flt hc26).2.1 (by decide) (by decide) (XS.lloadN X0.here hx rfl (hb hby own_d1_64) rfl (XS.lconst X0.here hx rfl (hb hby own_d1_65) (XS.lsub X0.here hx rfl (hb hby own_d1_66) rfl (XS.lstoreN X0.here hx rfl (hb hby own_d1_67) rfl (l' := #[.val (.int x0), .val (.int x1), .val (.int x2), .val (.long (99999999 : Int64)), .second, .val (.int (8 : Int32))]) rfl k))))) ?_
                          obtain ⟨T216, h216, X216, e216, E216, A216, D216, -, st216⟩ := newO X0 hx hZ hown (hw _ (List.mem_of_getElem? (i := 42) rfl)) (hw _ (List.mem_of_getElem? (i := 43) rfl)) (hw _ (List.mem_of_getElem? (i := 2) rfl)) e0 (g := (mkF m 68 #[.val (.int x0), .val (.int x1), .val (.int x2), .val (.long (99999999 : Int64)), .second, .val (.int (8 : Int32))] [])) rfl (hb hby own_d1_68) (by decide) (by decide)
                          obtain ⟨b216, g216⟩ : ∃ z, z = h0.size := ⟨_, rfl⟩
                          rw [← g216] at A216 D216 st216
                          have bd_b216 : h0.size ≤ b216 := Nat.le_of_eq g216.symm
                          have ne_ev_b216 : ev ≠ b216 := own_ne_of E_ev.lt bd_b216
                          have ge_b216 : n0 ≤ b216 := Nat.le_trans Z0 bd_b216
                          have Z216 : n0 ≤ h216.size := Nat.le_trans Z0 E216.1
                          have bo_b216 : h0.size ≤ b216 := Nat.le_trans K0.1 bd_b216
                          have K216 : Keep h0 h216 [] := K0.ext E216
                          have S_ev_at217 := S_ev.ext E216
                          have E_ev_at218 := E_ev.ext E216
                          have Fe_lowest_at219 := Fe_lowest.ext E216
                          have Fe_highest_at220 := Fe_highest.ext E216
                          have Flowest_216 : Fld Z h216 b216 "com/example/surrogate/surrogate/KeyRange" "lowest" "J" (.long (0 : Int64)) := D216 (Or.inr (hw _ (List.mem_of_getElem? (i := 12) rfl))) (ty := .long) (by decide)
                          have Fhighest_216 : Fld Z h216 b216 "com/example/surrogate/surrogate/KeyRange" "highest" "J" (.long (0 : Int64)) := D216 (Or.inr (hw _ (List.mem_of_getElem? (i := 19) rfl))) (ty := .long) (by decide)
                          refine own_via (T' := T216) (g' := (mkF m 71 #[.val (.int x0), .val (.int x1), .val (.int x2), .val (.long (99999999 : Int64)), .second, .val (.int (8 : Int32))] [(.ref b216)])) st216 ?_
                          refine own_via (T' := T216) (g' := (mkF m 73 #[.val (.int x0), .val (.int x1), .val (.int x2), .val (.long (99999999 : Int64)), .second, .val (.int (8 : Int32))] [(.int x2), (.ref b216), (.ref b216)])) (fun t k => XS.dup X216.here hx rfl (hb hby own_d1_71) rfl rfl (XS.iloadN X216.here hx rfl (hb hby own_d1_72) rfl k)) ?_
                          by_cases hc221 : x2 = (0 : Int32)
                          · refine own_via (T' := T216) (g' := (mkF m 83 #[.val (.int x0), .val (.int x1), .val (.int x2), .val (.long (99999999 : Int64)), .second, .val (.int (8 : Int32))] [(.long (99999999 : Int64)), (.long (0 : Int64)), (.ref b216), (.ref b216)])) (fun t k => XS.ifYes X216.here hx rfl (pc0 := 73) (pc' := 81) rfl (hb hby own_d1_73) rfl ((if0 _ _).trans (teq hc221).1) (by decide) (by decide) (XS.lconst X216.here hx rfl (hb hby own_d1_81) (XS.lloadN X216.here hx rfl (hb hby own_d1_82) rfl k))) ?_
                            obtain ⟨v222, T222, L222, X222, hQ222, st222⟩ := own_callSp (y := (⟨"com/example/surrogate/surrogate/KeyRange", "<init>", "(JJ)V"⟩ : MethodName)) (a := b216) (argsL := [(.long (0 : Int64)), (.long (99999999 : Int64))]) (rest := [(.ref b216)]) X216 hx hZ hown rfl (hw _ (List.mem_of_getElem? (i := 44) rfl)) (hw _ (List.mem_of_getElem? (i := 45) rfl)) (hw _ (List.mem_of_getElem? (i := 2) rfl)) (hw _ (List.mem_of_getElem? (i := 46) rfl)) (by decide) (own_mt4 l Z a0 hw b216 (0 : Int64) (99999999 : Int64) h216 n0 Z216 ge_b216 A216 Flowest_216 Fhighest_216) e216 (W := 1) (by decide) (by decide) (g := (mkF m 83 #[.val (.int x0), .val (.int x1), .val (.int x2), .val (.long (99999999 : Int64)), .second, .val (.int (8 : Int32))] [(.long (99999999 : Int64)), (.long (0 : Int64)), (.ref b216), (.ref b216)])) rfl (by rw [hml]; rfl) (lenOf own_pd0 rfl) rfl (by show 2 * 0 + _ ≤ _; exact Nat.le_of_eq rfl) (hb hby own_d1_83) (by decide) (by decide)
                            obtain ⟨rfl, Nq222, K222q, G222_0, G222_1, G222_2⟩ := hQ222
                            have N222 := Fr.app N0 Nq222
                            have Z222 : n0 ≤ T222.heap.size := Nat.le_trans Z216 K222q.1
                            have K222 : Keep h0 T222.heap [] := K216.trans K222q (allS (Or.inr bo_b216) all0)
                            have E_ev_at224 := E_ev_at218.keep K222q
                            have Fe_lowest_at225 := Fe_lowest_at219.keep K222q (ninS ne_ev_b216 nin0)
                            have Fe_highest_at226 := Fe_highest_at220.keep K222q (ninS ne_ev_b216 nin0)
                            have A216_at227 := A216.keep K222q
                            refine own_via (T' := T222) (g' := (mkF m 86 #[.val (.int x0), .val (.int x1), .val (.int x2), .val (.long (99999999 : Int64)), .second, .val (.int (8 : Int32))] [(.ref b216)])) st222 ?_
                            refine own_retA X222 hx hlk hret rfl rfl (hb hby own_d1_86) (by decide) (by decide) ?_
                            exact ⟨b216, rfl, N222, K222, G222_0, (by rw [own_dec_r_lowest, if_neg hc1, if_pos hc3, if_neg hc4, if_pos hc18, if_pos hc19, if_pos hc20, if_pos hc21, if_pos hc22, if_pos hc23, if_pos hc24, if_pos hc25, if_neg hc26, if_pos hc221]; exact G222_1), (by rw [own_dec_r_highest, if_neg hc1, if_pos hc3, if_neg hc4, if_pos hc18, if_pos hc19, if_pos hc20, if_pos hc21, if_pos hc22, if_pos hc23, if_pos hc24, if_pos hc25, if_neg hc26, if_pos hc221]; exact G222_2)⟩
                          · refine own_via (T' := T216) (g' := (mkF m 83 #[.val (.int x0), .val (.int x1), .val (.int x2), .val (.long (99999999 : Int64)), .second, .val (.int (8 : Int32))] [(.long (99999999 : Int64)), (.long (-99999999 : Int64)), (.ref b216), (.ref b216)])) (fun t k => XS.ifNo X216.here hx rfl (hb hby own_d1_73) rfl ((if0 _ _).trans (feq hc221).1) (XS.lloadN X216.here hx rfl (hb hby own_d1_76) rfl (XS.lneg X216.here hx rfl (hb hby own_d1_77) rfl (XS.goto X216.here hx rfl (pc0 := 78) (pc' := 82) rfl (hb hby own_d1_78) (by decide) (by decide) (XS.lloadN X216.here hx rfl (hb hby own_d1_82) rfl k))))) ?_
                            obtain ⟨v228, T228, L228, X228, hQ228, st228⟩ := own_callSp (y := (⟨"com/example/surrogate/surrogate/KeyRange", "<init>", "(JJ)V"⟩ : MethodName)) (a := b216) (argsL := [(.long (-99999999 : Int64)), (.long (99999999 : Int64))]) (rest := [(.ref b216)]) X216 hx hZ hown rfl (hw _ (List.mem_of_getElem? (i := 44) rfl)) (hw _ (List.mem_of_getElem? (i := 45) rfl)) (hw _ (List.mem_of_getElem? (i := 2) rfl)) (hw _ (List.mem_of_getElem? (i := 46) rfl)) (by decide) (own_mt4 l Z a0 hw b216 (-99999999 : Int64) (99999999 : Int64) h216 n0 Z216 ge_b216 A216 Flowest_216 Fhighest_216) e216 (W := 1) (by decide) (by decide) (g := (mkF m 83 #[.val (.int x0), .val (.int x1), .val (.int x2), .val (.long (99999999 : Int64)), .second, .val (.int (8 : Int32))] [(.long (99999999 : Int64)), (.long (-99999999 : Int64)), (.ref b216), (.ref b216)])) rfl (by rw [hml]; rfl) (lenOf own_pd0 rfl) rfl (by show 2 * 0 + _ ≤ _; exact Nat.le_of_eq rfl) (hb hby own_d1_83) (by decide) (by decide)
                            obtain ⟨rfl, Nq228, K228q, G228_0, G228_1, G228_2⟩ := hQ228
                            have N228 := Fr.app N0 Nq228
                            have Z228 : n0 ≤ T228.heap.size := Nat.le_trans Z216 K228q.1
                            have K228 : Keep h0 T228.heap [] := K216.trans K228q (allS (Or.inr bo_b216) all0)
                            have E_ev_at230 := E_ev_at218.keep K228q
                            have Fe_lowest_at231 := Fe_lowest_at219.keep K228q (ninS ne_ev_b216 nin0)
                            have Fe_highest_at232 := Fe_highest_at220.keep K228q (ninS ne_ev_b216 nin0)
                            have A216_at233 := A216.keep K228q
                            refine own_via (T' := T228) (g' := (mkF m 86 #[.val (.int x0), .val (.int x1), .val (.int x2), .val (.long (99999999 : Int64)), .second, .val (.int (8 : Int32))] [(.ref b216)])) st228 ?_
                            refine own_retA X228 hx hlk hret rfl rfl (hb hby own_d1_86) (by decide) (by decide) ?_
                            exact ⟨b216, rfl, N228, K228, G228_0, (by rw [own_dec_r_lowest, if_neg hc1, if_pos hc3, if_neg hc4, if_pos hc18, if_pos hc19, if_pos hc20, if_pos hc21, if_pos hc22, if_pos hc23, if_pos hc24, if_pos hc25, if_neg hc26, if_neg hc221]; exact G228_1), (by rw [own_dec_r_highest, if_neg hc1, if_pos hc3, if_neg hc4, if_pos hc18, if_pos hc19, if_pos hc20, if_pos hc21, if_pos hc22, if_pos hc23, if_pos hc24, if_pos hc25, if_neg hc26, if_neg hc221]; exact G228_2)⟩
                      · refine own_via (T' := s₁) (g' := (mkF m 68 #[.val (.int x0), .val (.int x1), .val (.int x2), .val (.long (9999999 : Int64)), .second, .val (.int (7 : Int32))] [])) (fun t k => XS.icmpYes X0.here hx rfl (pc0 := 49) (pc' := 64) rfl (hb hby own_d1_49) rfl (flt hc25).2.1 (by decide) (by decide) (XS.lloadN X0.here hx rfl (hb hby own_d1_64) rfl (XS.lconst X0.here hx rfl (hb hby own_d1_65) (XS.lsub X0.here hx rfl (hb hby own_d1_66) rfl (XS.lstoreN X0.here hx rfl (hb hby own_d1_67) rfl (l' := #[.val (.int x0), .val (.int x1), .val (.int x2), .val (.long (9999999 : Int64)), .second, .val (.int (7 : Int32))]) rfl k))))) ?_
                        obtain ⟨T234, h234, X234, e234, E234, A234, D234, -, st234⟩ := newO X0 hx hZ hown (hw _ (List.mem_of_getElem? (i := 42) rfl)) (hw _ (List.mem_of_getElem? (i := 43) rfl)) (hw _ (List.mem_of_getElem? (i := 2) rfl)) e0 (g := (mkF m 68 #[.val (.int x0), .val (.int x1), .val (.int x2), .val (.long (9999999 : Int64)), .second, .val (.int (7 : Int32))] [])) rfl (hb hby own_d1_68) (by decide) (by decide)
                        obtain ⟨b234, g234⟩ : ∃ z, z = h0.size := ⟨_, rfl⟩
                        rw [← g234] at A234 D234 st234
                        have bd_b234 : h0.size ≤ b234 := Nat.le_of_eq g234.symm
                        have ne_ev_b234 : ev ≠ b234 := own_ne_of E_ev.lt bd_b234
                        have ge_b234 : n0 ≤ b234 := Nat.le_trans Z0 bd_b234
                        have Z234 : n0 ≤ h234.size := Nat.le_trans Z0 E234.1
                        have bo_b234 : h0.size ≤ b234 := Nat.le_trans K0.1 bd_b234
                        have K234 : Keep h0 h234 [] := K0.ext E234
                        have S_ev_at235 := S_ev.ext E234
                        have E_ev_at236 := E_ev.ext E234
                        have Fe_lowest_at237 := Fe_lowest.ext E234
                        have Fe_highest_at238 := Fe_highest.ext E234
                        have Flowest_234 : Fld Z h234 b234 "com/example/surrogate/surrogate/KeyRange" "lowest" "J" (.long (0 : Int64)) := D234 (Or.inr (hw _ (List.mem_of_getElem? (i := 12) rfl))) (ty := .long) (by decide)
                        have Fhighest_234 : Fld Z h234 b234 "com/example/surrogate/surrogate/KeyRange" "highest" "J" (.long (0 : Int64)) := D234 (Or.inr (hw _ (List.mem_of_getElem? (i := 19) rfl))) (ty := .long) (by decide)
                        refine own_via (T' := T234) (g' := (mkF m 71 #[.val (.int x0), .val (.int x1), .val (.int x2), .val (.long (9999999 : Int64)), .second, .val (.int (7 : Int32))] [(.ref b234)])) st234 ?_
                        refine own_via (T' := T234) (g' := (mkF m 73 #[.val (.int x0), .val (.int x1), .val (.int x2), .val (.long (9999999 : Int64)), .second, .val (.int (7 : Int32))] [(.int x2), (.ref b234), (.ref b234)])) (fun t k => XS.dup X234.here hx rfl (hb hby own_d1_71) rfl rfl (XS.iloadN X234.here hx rfl (hb hby own_d1_72) rfl k)) ?_
                        by_cases hc239 : x2 = (0 : Int32)
                        · refine own_via (T' := T234) (g' := (mkF m 83 #[.val (.int x0), .val (.int x1), .val (.int x2), .val (.long (9999999 : Int64)), .second, .val (.int (7 : Int32))] [(.long (9999999 : Int64)), (.long (0 : Int64)), (.ref b234), (.ref b234)])) (fun t k => XS.ifYes X234.here hx rfl (pc0 := 73) (pc' := 81) rfl (hb hby own_d1_73) rfl ((if0 _ _).trans (teq hc239).1) (by decide) (by decide) (XS.lconst X234.here hx rfl (hb hby own_d1_81) (XS.lloadN X234.here hx rfl (hb hby own_d1_82) rfl k))) ?_
                          obtain ⟨v240, T240, L240, X240, hQ240, st240⟩ := own_callSp (y := (⟨"com/example/surrogate/surrogate/KeyRange", "<init>", "(JJ)V"⟩ : MethodName)) (a := b234) (argsL := [(.long (0 : Int64)), (.long (9999999 : Int64))]) (rest := [(.ref b234)]) X234 hx hZ hown rfl (hw _ (List.mem_of_getElem? (i := 44) rfl)) (hw _ (List.mem_of_getElem? (i := 45) rfl)) (hw _ (List.mem_of_getElem? (i := 2) rfl)) (hw _ (List.mem_of_getElem? (i := 46) rfl)) (by decide) (own_mt4 l Z a0 hw b234 (0 : Int64) (9999999 : Int64) h234 n0 Z234 ge_b234 A234 Flowest_234 Fhighest_234) e234 (W := 1) (by decide) (by decide) (g := (mkF m 83 #[.val (.int x0), .val (.int x1), .val (.int x2), .val (.long (9999999 : Int64)), .second, .val (.int (7 : Int32))] [(.long (9999999 : Int64)), (.long (0 : Int64)), (.ref b234), (.ref b234)])) rfl (by rw [hml]; rfl) (lenOf own_pd0 rfl) rfl (by show 2 * 0 + _ ≤ _; exact Nat.le_of_eq rfl) (hb hby own_d1_83) (by decide) (by decide)
                          obtain ⟨rfl, Nq240, K240q, G240_0, G240_1, G240_2⟩ := hQ240
                          have N240 := Fr.app N0 Nq240
                          have Z240 : n0 ≤ T240.heap.size := Nat.le_trans Z234 K240q.1
                          have K240 : Keep h0 T240.heap [] := K234.trans K240q (allS (Or.inr bo_b234) all0)
                          have E_ev_at242 := E_ev_at236.keep K240q
                          have Fe_lowest_at243 := Fe_lowest_at237.keep K240q (ninS ne_ev_b234 nin0)
                          have Fe_highest_at244 := Fe_highest_at238.keep K240q (ninS ne_ev_b234 nin0)
                          have A234_at245 := A234.keep K240q
                          refine own_via (T' := T240) (g' := (mkF m 86 #[.val (.int x0), .val (.int x1), .val (.int x2), .val (.long (9999999 : Int64)), .second, .val (.int (7 : Int32))] [(.ref b234)])) st240 ?_
                          refine own_retA X240 hx hlk hret rfl rfl (hb hby own_d1_86) (by decide) (by decide) ?_
                          exact ⟨b234, rfl, N240, K240, G240_0, (by rw [own_dec_r_lowest, if_neg hc1, if_pos hc3, if_neg hc4, if_pos hc18, if_pos hc19, if_pos hc20, if_pos hc21, if_pos hc22, if_pos hc23, if_pos hc24, if_neg hc25, if_pos hc239]; exact G240_1), (by rw [own_dec_r_highest, if_neg hc1, if_pos hc3, if_neg hc4, if_pos hc18, if_pos hc19, if_pos hc20, if_pos hc21, if_pos hc22, if_pos hc23, if_pos hc24, if_neg hc25, if_pos hc239]; exact G240_2)⟩
                        · refine own_via (T' := T234) (g' := (mkF m 83 #[.val (.int x0), .val (.int x1), .val (.int x2), .val (.long (9999999 : Int64)), .second, .val (.int (7 : Int32))] [(.long (9999999 : Int64)), (.long (-9999999 : Int64)), (.ref b234), (.ref b234)])) (fun t k => XS.ifNo X234.here hx rfl (hb hby own_d1_73) rfl ((if0 _ _).trans (feq hc239).1) (XS.lloadN X234.here hx rfl (hb hby own_d1_76) rfl (XS.lneg X234.here hx rfl (hb hby own_d1_77) rfl (XS.goto X234.here hx rfl (pc0 := 78) (pc' := 82) rfl (hb hby own_d1_78) (by decide) (by decide) (XS.lloadN X234.here hx rfl (hb hby own_d1_82) rfl k))))) ?_
                          obtain ⟨v246, T246, L246, X246, hQ246, st246⟩ := own_callSp (y := (⟨"com/example/surrogate/surrogate/KeyRange", "<init>", "(JJ)V"⟩ : MethodName)) (a := b234) (argsL := [(.long (-9999999 : Int64)), (.long (9999999 : Int64))]) (rest := [(.ref b234)]) X234 hx hZ hown rfl (hw _ (List.mem_of_getElem? (i := 44) rfl)) (hw _ (List.mem_of_getElem? (i := 45) rfl)) (hw _ (List.mem_of_getElem? (i := 2) rfl)) (hw _ (List.mem_of_getElem? (i := 46) rfl)) (by decide) (own_mt4 l Z a0 hw b234 (-9999999 : Int64) (9999999 : Int64) h234 n0 Z234 ge_b234 A234 Flowest_234 Fhighest_234) e234 (W := 1) (by decide) (by decide) (g := (mkF m 83 #[.val (.int x0), .val (.int x1), .val (.int x2), .val (.long (9999999 : Int64)), .second, .val (.int (7 : Int32))] [(.long (9999999 : Int64)), (.long (-9999999 : Int64)), (.ref b234), (.ref b234)])) rfl (by rw [hml]; rfl) (lenOf own_pd0 rfl) rfl (by show 2 * 0 + _ ≤ _; exact Nat.le_of_eq rfl) (hb hby own_d1_83) (by decide) (by decide)
                          obtain ⟨rfl, Nq246, K246q, G246_0, G246_1, G246_2⟩ := hQ246
                          have N246 := Fr.app N0 Nq246
                          have Z246 : n0 ≤ T246.heap.size := Nat.le_trans Z234 K246q.1
                          have K246 : Keep h0 T246.heap [] := K234.trans K246q (allS (Or.inr bo_b234) all0)
                          have E_ev_at248 := E_ev_at236.keep K246q
                          have Fe_lowest_at249 := Fe_lowest_at237.keep K246q (ninS ne_ev_b234 nin0)
                          have Fe_highest_at250 := Fe_highest_at238.keep K246q (ninS ne_ev_b234 nin0)
                          have A234_at251 := A234.keep K246q
                          refine own_via (T' := T246) (g' := (mkF m 86 #[.val (.int x0), .val (.int x1), .val (.int x2), .val (.long (9999999 : Int64)), .second, .val (.int (7 : Int32))] [(.ref b234)])) st246 ?_
                          refine own_retA X246 hx hlk hret rfl rfl (hb hby own_d1_86) (by decide) (by decide) ?_
                          exact ⟨b234, rfl, N246, K246, G246_0, (by rw [own_dec_r_lowest, if_neg hc1, if_pos hc3, if_neg hc4, if_pos hc18, if_pos hc19, if_pos hc20, if_pos hc21, if_pos hc22, if_pos hc23, if_pos hc24, if_neg hc25, if_neg hc239]; exact G246_1), (by rw [own_dec_r_highest, if_neg hc1, if_pos hc3, if_neg hc4, if_pos hc18, if_pos hc19, if_pos hc20, if_pos hc21, if_pos hc22, if_pos hc23, if_pos hc24, if_neg hc25, if_neg hc239]; exact G246_2)⟩
                    · refine own_via (T' := s₁) (g' := (mkF m 68 #[.val (.int x0), .val (.int x1), .val (.int x2), .val (.long (999999 : Int64)), .second, .val (.int (6 : Int32))] [])) (fun t k => XS.icmpYes X0.here hx rfl (pc0 := 49) (pc' := 64) rfl (hb hby own_d1_49) rfl (flt hc24).2.1 (by decide) (by decide) (XS.lloadN X0.here hx rfl (hb hby own_d1_64) rfl (XS.lconst X0.here hx rfl (hb hby own_d1_65) (XS.lsub X0.here hx rfl (hb hby own_d1_66) rfl (XS.lstoreN X0.here hx rfl (hb hby own_d1_67) rfl (l' := #[.val (.int x0), .val (.int x1), .val (.int x2), .val (.long (999999 : Int64)), .second, .val (.int (6 : Int32))]) rfl k))))) ?_
                      obtain ⟨T252, h252, X252, e252, E252, A252, D252, -, st252⟩ := newO X0 hx hZ hown (hw _ (List.mem_of_getElem? (i := 42) rfl)) (hw _ (List.mem_of_getElem? (i := 43) rfl)) (hw _ (List.mem_of_getElem? (i := 2) rfl)) e0 (g := (mkF m 68 #[.val (.int x0), .val (.int x1), .val (.int x2), .val (.long (999999 : Int64)), .second, .val (.int (6 : Int32))] [])) rfl (hb hby own_d1_68) (by decide) (by decide)
                      obtain ⟨b252, g252⟩ : ∃ z, z = h0.size := ⟨_, rfl⟩
                      rw [← g252] at A252 D252 st252
                      have bd_b252 : h0.size ≤ b252 := Nat.le_of_eq g252.symm
                      have ne_ev_b252 : ev ≠ b252 := own_ne_of E_ev.lt bd_b252
                      have ge_b252 : n0 ≤ b252 := Nat.le_trans Z0 bd_b252
                      have Z252 : n0 ≤ h252.size := Nat.le_trans Z0 E252.1
                      have bo_b252 : h0.size ≤ b252 := Nat.le_trans K0.1 bd_b252
                      have K252 : Keep h0 h252 [] := K0.ext E252
                      have S_ev_at253 := S_ev.ext E252
                      have E_ev_at254 := E_ev.ext E252
                      have Fe_lowest_at255 := Fe_lowest.ext E252
                      have Fe_highest_at256 := Fe_highest.ext E252
                      have Flowest_252 : Fld Z h252 b252 "com/example/surrogate/surrogate/KeyRange" "lowest" "J" (.long (0 : Int64)) := D252 (Or.inr (hw _ (List.mem_of_getElem? (i := 12) rfl))) (ty := .long) (by decide)
                      have Fhighest_252 : Fld Z h252 b252 "com/example/surrogate/surrogate/KeyRange" "highest" "J" (.long (0 : Int64)) := D252 (Or.inr (hw _ (List.mem_of_getElem? (i := 19) rfl))) (ty := .long) (by decide)
                      refine own_via (T' := T252) (g' := (mkF m 71 #[.val (.int x0), .val (.int x1), .val (.int x2), .val (.long (999999 : Int64)), .second, .val (.int (6 : Int32))] [(.ref b252)])) st252 ?_
                      refine own_via (T' := T252) (g' := (mkF m 73 #[.val (.int x0), .val (.int x1), .val (.int x2), .val (.long (999999 : Int64)), .second, .val (.int (6 : Int32))] [(.int x2), (.ref b252), (.ref b252)])) (fun t k => XS.dup X252.here hx rfl (hb hby own_d1_71) rfl rfl (XS.iloadN X252.here hx rfl (hb hby own_d1_72) rfl k)) ?_
                      by_cases hc257 : x2 = (0 : Int32)
                      · refine own_via (T' := T252) (g' := (mkF m 83 #[.val (.int x0), .val (.int x1), .val (.int x2), .val (.long (999999 : Int64)), .second, .val (.int (6 : Int32))] [(.long (999999 : Int64)), (.long (0 : Int64)), (.ref b252), (.ref b252)])) (fun t k => XS.ifYes X252.here hx rfl (pc0 := 73) (pc' := 81) rfl (hb hby own_d1_73) rfl ((if0 _ _).trans (teq hc257).1) (by decide) (by decide) (XS.lconst X252.here hx rfl (hb hby own_d1_81) (XS.lloadN X252.here hx rfl (hb hby own_d1_82) rfl k))) ?_
                        obtain ⟨v258, T258, L258, X258, hQ258, st258⟩ := own_callSp (y := (⟨"com/example/surrogate/surrogate/KeyRange", "<init>", "(JJ)V"⟩ : MethodName)) (a := b252) (argsL := [(.long (0 : Int64)), (.long (999999 : Int64))]) (rest := [(.ref b252)]) X252 hx hZ hown rfl (hw _ (List.mem_of_getElem? (i := 44) rfl)) (hw _ (List.mem_of_getElem? (i := 45) rfl)) (hw _ (List.mem_of_getElem? (i := 2) rfl)) (hw _ (List.mem_of_getElem? (i := 46) rfl)) (by decide) (own_mt4 l Z a0 hw b252 (0 : Int64) (999999 : Int64) h252 n0 Z252 ge_b252 A252 Flowest_252 Fhighest_252) e252 (W := 1) (by decide) (by decide) (g := (mkF m 83 #[.val (.int x0), .val (.int x1), .val (.int x2), .val (.long (999999 : Int64)), .second, .val (.int (6 : Int32))] [(.long (999999 : Int64)), (.long (0 : Int64)), (.ref b252), (.ref b252)])) rfl (by rw [hml]; rfl) (lenOf own_pd0 rfl) rfl (by show 2 * 0 + _ ≤ _; exact Nat.le_of_eq rfl) (hb hby own_d1_83) (by decide) (by decide)
                        obtain ⟨rfl, Nq258, K258q, G258_0, G258_1, G258_2⟩ := hQ258
                        have N258 := Fr.app N0 Nq258
                        have Z258 : n0 ≤ T258.heap.size := Nat.le_trans Z252 K258q.1
                        have K258 : Keep h0 T258.heap [] := K252.trans K258q (allS (Or.inr bo_b252) all0)
                        have E_ev_at260 := E_ev_at254.keep K258q
                        have Fe_lowest_at261 := Fe_lowest_at255.keep K258q (ninS ne_ev_b252 nin0)
                        have Fe_highest_at262 := Fe_highest_at256.keep K258q (ninS ne_ev_b252 nin0)
                        have A252_at263 := A252.keep K258q
                        refine own_via (T' := T258) (g' := (mkF m 86 #[.val (.int x0), .val (.int x1), .val (.int x2), .val (.long (999999 : Int64)), .second, .val (.int (6 : Int32))] [(.ref b252)])) st258 ?_
                        refine own_retA X258 hx hlk hret rfl rfl (hb hby own_d1_86) (by decide) (by decide) ?_
                        exact ⟨b252, rfl, N258, K258, G258_0, (by rw [own_dec_r_lowest, if_neg hc1, if_pos hc3, if_neg hc4, if_pos hc18, if_pos hc19, if_pos hc20, if_pos hc21, if_pos hc22, if_pos hc23, if_neg hc24, if_pos hc257]; exact G258_1), (by rw [own_dec_r_highest, if_neg hc1, if_pos hc3, if_neg hc4, if_pos hc18, if_pos hc19, if_pos hc20, if_pos hc21, if_pos hc22, if_pos hc23, if_neg hc24, if_pos hc257]; exact G258_2)⟩
                      · refine own_via (T' := T252) (g' := (mkF m 83 #[.val (.int x0), .val (.int x1), .val (.int x2), .val (.long (999999 : Int64)), .second, .val (.int (6 : Int32))] [(.long (999999 : Int64)), (.long (-999999 : Int64)), (.ref b252), (.ref b252)])) (fun t k => XS.ifNo X252.here hx rfl (hb hby own_d1_73) rfl ((if0 _ _).trans (feq hc257).1) (XS.lloadN X252.here hx rfl (hb hby own_d1_76) rfl (XS.lneg X252.here hx rfl (hb hby own_d1_77) rfl (XS.goto X252.here hx rfl (pc0 := 78) (pc' := 82) rfl (hb hby own_d1_78) (by decide) (by decide) (XS.lloadN X252.here hx rfl (hb hby own_d1_82) rfl k))))) ?_
                        obtain ⟨v264, T264, L264, X264, hQ264, st264⟩ := own_callSp (y := (⟨"com/example/surrogate/surrogate/KeyRange", "<init>", "(JJ)V"⟩ : MethodName)) (a := b252) (argsL := [(.long (-999999 : Int64)), (.long (999999 : Int64))]) (rest := [(.ref b252)]) X252 hx hZ hown rfl (hw _ (List.mem_of_getElem? (i := 44) rfl)) (hw _ (List.mem_of_getElem? (i := 45) rfl)) (hw _ (List.mem_of_getElem? (i := 2) rfl)) (hw _ (List.mem_of_getElem? (i := 46) rfl)) (by decide) (own_mt4 l Z a0 hw b252 (-999999 : Int64) (999999 : Int64) h252 n0 Z252 ge_b252 A252 Flowest_252 Fhighest_252) e252 (W := 1) (by decide) (by decide) (g := (mkF m 83 #[.val (.int x0), .val (.int x1), .val (.int x2), .val (.long (999999 : Int64)), .second, .val (.int (6 : Int32))] [(.long (999999 : Int64)), (.long (-999999 : Int64)), (.ref b252), (.ref b252)])) rfl (by rw [hml]; rfl) (lenOf own_pd0 rfl) rfl (by show 2 * 0 + _ ≤ _; exact Nat.le_of_eq rfl) (hb hby own_d1_83) (by decide) (by decide)
                        obtain ⟨rfl, Nq264, K264q, G264_0, G264_1, G264_2⟩ := hQ264
                        have N264 := Fr.app N0 Nq264
                        have Z264 : n0 ≤ T264.heap.size := Nat.le_trans Z252 K264q.1
                        have K264 : Keep h0 T264.heap [] := K252.trans K264q (allS (Or.inr bo_b252) all0)
                        have E_ev_at266 := E_ev_at254.keep K264q
                        have Fe_lowest_at267 := Fe_lowest_at255.keep K264q (ninS ne_ev_b252 nin0)
                        have Fe_highest_at268 := Fe_highest_at256.keep K264q (ninS ne_ev_b252 nin0)
                        have A252_at269 := A252.keep K264q
                        refine own_via (T' := T264) (g' := (mkF m 86 #[.val (.int x0), .val (.int x1), .val (.int x2), .val (.long (999999 : Int64)), .second, .val (.int (6 : Int32))] [(.ref b252)])) st264 ?_
                        refine own_retA X264 hx hlk hret rfl rfl (hb hby own_d1_86) (by decide) (by decide) ?_
                        exact ⟨b252, rfl, N264, K264, G264_0, (by rw [own_dec_r_lowest, if_neg hc1, if_pos hc3, if_neg hc4, if_pos hc18, if_pos hc19, if_pos hc20, if_pos hc21, if_pos hc22, if_pos hc23, if_neg hc24, if_neg hc257]; exact G264_1), (by rw [own_dec_r_highest, if_neg hc1, if_pos hc3, if_neg hc4, if_pos hc18, if_pos hc19, if_pos hc20, if_pos hc21, if_pos hc22, if_pos hc23, if_neg hc24, if_neg hc257]; exact G264_2)⟩
                  · refine own_via (T' := s₁) (g' := (mkF m 68 #[.val (.int x0), .val (.int x1), .val (.int x2), .val (.long (99999 : Int64)), .second, .val (.int (5 : Int32))] [])) (fun t k => XS.icmpYes X0.here hx rfl (pc0 := 49) (pc' := 64) rfl (hb hby own_d1_49) rfl (flt hc23).2.1 (by decide) (by decide) (XS.lloadN X0.here hx rfl (hb hby own_d1_64) rfl (XS.lconst X0.here hx rfl (hb hby own_d1_65) (XS.lsub X0.here hx rfl (hb hby own_d1_66) rfl (XS.lstoreN X0.here hx rfl (hb hby own_d1_67) rfl (l' := #[.val (.int x0), .val (.int x1), .val (.int x2), .val (.long (99999 : Int64)), .second, .val (.int (5 : Int32))]) rfl k))))) ?_
                    obtain ⟨T270, h270, X270, e270, E270, A270, D270, -, st270⟩ := newO X0 hx hZ hown (hw _ (List.mem_of_getElem? (i := 42) rfl)) (hw _ (List.mem_of_getElem? (i := 43) rfl)) (hw _ (List.mem_of_getElem? (i := 2) rfl)) e0 (g := (mkF m 68 #[.val (.int x0), .val (.int x1), .val (.int x2), .val (.long (99999 : Int64)), .second, .val (.int (5 : Int32))] [])) rfl (hb hby own_d1_68) (by decide) (by decide)
                    obtain ⟨b270, g270⟩ : ∃ z, z = h0.size := ⟨_, rfl⟩
                    rw [← g270] at A270 D270 st270
                    have bd_b270 : h0.size ≤ b270 := Nat.le_of_eq g270.symm
                    have ne_ev_b270 : ev ≠ b270 := own_ne_of E_ev.lt bd_b270
                    have ge_b270 : n0 ≤ b270 := Nat.le_trans Z0 bd_b270
                    have Z270 : n0 ≤ h270.size := Nat.le_trans Z0 E270.1
                    have bo_b270 : h0.size ≤ b270 := Nat.le_trans K0.1 bd_b270
                    have K270 : Keep h0 h270 [] := K0.ext E270
                    have S_ev_at271 := S_ev.ext E270
                    have E_ev_at272 := E_ev.ext E270
                    have Fe_lowest_at273 := Fe_lowest.ext E270
                    have Fe_highest_at274 := Fe_highest.ext E270
                    have Flowest_270 : Fld Z h270 b270 "com/example/surrogate/surrogate/KeyRange" "lowest" "J" (.long (0 : Int64)) := D270 (Or.inr (hw _ (List.mem_of_getElem? (i := 12) rfl))) (ty := .long) (by decide)
                    have Fhighest_270 : Fld Z h270 b270 "com/example/surrogate/surrogate/KeyRange" "highest" "J" (.long (0 : Int64)) := D270 (Or.inr (hw _ (List.mem_of_getElem? (i := 19) rfl))) (ty := .long) (by decide)
                    refine own_via (T' := T270) (g' := (mkF m 71 #[.val (.int x0), .val (.int x1), .val (.int x2), .val (.long (99999 : Int64)), .second, .val (.int (5 : Int32))] [(.ref b270)])) st270 ?_
                    refine own_via (T' := T270) (g' := (mkF m 73 #[.val (.int x0), .val (.int x1), .val (.int x2), .val (.long (99999 : Int64)), .second, .val (.int (5 : Int32))] [(.int x2), (.ref b270), (.ref b270)])) (fun t k => XS.dup X270.here hx rfl (hb hby own_d1_71) rfl rfl (XS.iloadN X270.here hx rfl (hb hby own_d1_72) rfl k)) ?_
                    by_cases hc275 : x2 = (0 : Int32)
                    · refine own_via (T' := T270) (g' := (mkF m 83 #[.val (.int x0), .val (.int x1), .val (.int x2), .val (.long (99999 : Int64)), .second, .val (.int (5 : Int32))] [(.long (99999 : Int64)), (.long (0 : Int64)), (.ref b270), (.ref b270)])) (fun t k => XS.ifYes X270.here hx rfl (pc0 := 73) (pc' := 81) rfl (hb hby own_d1_73) rfl ((if0 _ _).trans (teq hc275).1) (by decide) (by decide) (XS.lconst X270.here hx rfl (hb hby own_d1_81) (XS.lloadN X270.here hx rfl (hb hby own_d1_82) rfl k))) ?_
                      obtain ⟨v276, T276, L276, X276, hQ276, st276⟩ := own_callSp (y := (⟨"com/example/surrogate/surrogate/KeyRange", "<init>", "(JJ)V"⟩ : MethodName)) (a := b270) (argsL := [(.long (0 : Int64)), (.long (99999 : Int64))]) (rest := [(.ref b270)]) X270 hx hZ hown rfl (hw _ (List.mem_of_getElem? (i := 44) rfl)) (hw _ (List.mem_of_getElem? (i := 45) rfl)) (hw _ (List.mem_of_getElem? (i := 2) rfl)) (hw _ (List.mem_of_getElem? (i := 46) rfl)) (by decide) (own_mt4 l Z a0 hw b270 (0 : Int64) (99999 : Int64) h270 n0 Z270 ge_b270 A270 Flowest_270 Fhighest_270) e270 (W := 1) (by decide) (by decide) (g := (mkF m 83 #[.val (.int x0), .val (.int x1), .val (.int x2), .val (.long (99999 : Int64)), .second, .val (.int (5 : Int32))] [(.long (99999 : Int64)), (.long (0 : Int64)), (.ref b270), (.ref b270)])) rfl (by rw [hml]; rfl) (lenOf own_pd0 rfl) rfl (by show 2 * 0 + _ ≤ _; exact Nat.le_of_eq rfl) (hb hby own_d1_83) (by decide) (by decide)
                      obtain ⟨rfl, Nq276, K276q, G276_0, G276_1, G276_2⟩ := hQ276
                      have N276 := Fr.app N0 Nq276
                      have Z276 : n0 ≤ T276.heap.size := Nat.le_trans Z270 K276q.1
                      have K276 : Keep h0 T276.heap [] := K270.trans K276q (allS (Or.inr bo_b270) all0)
                      have E_ev_at278 := E_ev_at272.keep K276q
                      have Fe_lowest_at279 := Fe_lowest_at273.keep K276q (ninS ne_ev_b270 nin0)
                      have Fe_highest_at280 := Fe_highest_at274.keep K276q (ninS ne_ev_b270 nin0)
                      have A270_at281 := A270.keep K276q
                      refine own_via (T' := T276) (g' := (mkF m 86 #[.val (.int x0), .val (.int x1), .val (.int x2), .val (.long (99999 : Int64)), .second, .val (.int (5 : Int32))] [(.ref b270)])) st276 ?_
                      refine own_retA X276 hx hlk hret rfl rfl (hb hby own_d1_86) (by decide) (by decide) ?_
                      exact ⟨b270, rfl, N276, K276, G276_0, (by rw [own_dec_r_lowest, if_neg hc1, if_pos hc3, if_neg hc4, if_pos hc18, if_pos hc19, if_pos hc20, if_pos hc21, if_pos hc22, if_neg hc23, if_pos hc275]; exact G276_1), (by rw [own_dec_r_highest, if_neg hc1, if_pos hc3, if_neg hc4, if_pos hc18, if_pos hc19, if_pos hc20, if_pos hc21, if_pos hc22, if_neg hc23, if_pos hc275]; exact G276_2)⟩
                    · refine own_via (T' := T270) (g' := (mkF m 83 #[.val (.int x0), .val (.int x1), .val (.int x2), .val (.long (99999 : Int64)), .second, .val (.int (5 : Int32))] [(.long (99999 : Int64)), (.long (-99999 : Int64)), (.ref b270), (.ref b270)])) (fun t k => XS.ifNo X270.here hx rfl (hb hby own_d1_73) rfl ((if0 _ _).trans (feq hc275).1) (XS.lloadN X270.here hx rfl (hb hby own_d1_76) rfl (XS.lneg X270.here hx rfl (hb hby own_d1_77) rfl (XS.goto X270.here hx rfl (pc0 := 78) (pc' := 82) rfl (hb hby own_d1_78) (by decide) (by decide) (XS.lloadN X270.here hx rfl (hb hby own_d1_82) rfl k))))) ?_
                      obtain ⟨v282, T282, L282, X282, hQ282, st282⟩ := own_callSp (y := (⟨"com/example/surrogate/surrogate/KeyRange", "<init>", "(JJ)V"⟩ : MethodName)) (a := b270) (argsL := [(.long (-99999 : Int64)), (.long (99999 : Int64))]) (rest := [(.ref b270)]) X270 hx hZ hown rfl (hw _ (List.mem_of_getElem? (i := 44) rfl)) (hw _ (List.mem_of_getElem? (i := 45) rfl)) (hw _ (List.mem_of_getElem? (i := 2) rfl)) (hw _ (List.mem_of_getElem? (i := 46) rfl)) (by decide) (own_mt4 l Z a0 hw b270 (-99999 : Int64) (99999 : Int64) h270 n0 Z270 ge_b270 A270 Flowest_270 Fhighest_270) e270 (W := 1) (by decide) (by decide) (g := (mkF m 83 #[.val (.int x0), .val (.int x1), .val (.int x2), .val (.long (99999 : Int64)), .second, .val (.int (5 : Int32))] [(.long (99999 : Int64)), (.long (-99999 : Int64)), (.ref b270), (.ref b270)])) rfl (by rw [hml]; rfl) (lenOf own_pd0 rfl) rfl (by show 2 * 0 + _ ≤ _; exact Nat.le_of_eq rfl) (hb hby own_d1_83) (by decide) (by decide)
                      obtain ⟨rfl, Nq282, K282q, G282_0, G282_1, G282_2⟩ := hQ282
                      have N282 := Fr.app N0 Nq282
                      have Z282 : n0 ≤ T282.heap.size := Nat.le_trans Z270 K282q.1
                      have K282 : Keep h0 T282.heap [] := K270.trans K282q (allS (Or.inr bo_b270) all0)
                      have E_ev_at284 := E_ev_at272.keep K282q
                      have Fe_lowest_at285 := Fe_lowest_at273.keep K282q (ninS ne_ev_b270 nin0)
                      have Fe_highest_at286 := Fe_highest_at274.keep K282q (ninS ne_ev_b270 nin0)
                      have A270_at287 := A270.keep K282q
                      refine own_via (T' := T282) (g' := (mkF m 86 #[.val (.int x0), .val (.int x1), .val (.int x2), .val (.long (99999 : Int64)), .second, .val (.int (5 : Int32))] [(.ref b270)])) st282 ?_
                      refine own_retA X282 hx hlk hret rfl rfl (hb hby own_d1_86) (by decide) (by decide) ?_
                      exact ⟨b270, rfl, N282, K282, G282_0, (by rw [own_dec_r_lowest, if_neg hc1, if_pos hc3, if_neg hc4, if_pos hc18, if_pos hc19, if_pos hc20, if_pos hc21, if_pos hc22, if_neg hc23, if_neg hc275]; exact G282_1), (by rw [own_dec_r_highest, if_neg hc1, if_pos hc3, if_neg hc4, if_pos hc18, if_pos hc19, if_pos hc20, if_pos hc21, if_pos hc22, if_neg hc23, if_neg hc275]; exact G282_2)⟩
                · refine own_via (T' := s₁) (g' := (mkF m 68 #[.val (.int x0), .val (.int x1), .val (.int x2), .val (.long (9999 : Int64)), .second, .val (.int (4 : Int32))] [])) (fun t k => XS.icmpYes X0.here hx rfl (pc0 := 49) (pc' := 64) rfl (hb hby own_d1_49) rfl (flt hc22).2.1 (by decide) (by decide) (XS.lloadN X0.here hx rfl (hb hby own_d1_64) rfl (XS.lconst X0.here hx rfl (hb hby own_d1_65) (XS.lsub X0.here hx rfl (hb hby own_d1_66) rfl (XS.lstoreN X0.here hx rfl (hb hby own_d1_67) rfl (l' := #[.val (.int x0), .val (.int x1), .val (.int x2), .val (.long (9999 : Int64)), .second, .val (.int (4 : Int32))]) rfl k))))) ?_
                  obtain ⟨T288, h288, X288, e288, E288, A288, D288, -, st288⟩ := newO X0 hx hZ hown (hw _ (List.mem_of_getElem? (i := 42) rfl)) (hw _ (List.mem_of_getElem? (i := 43) rfl)) (hw _ (List.mem_of_getElem? (i := 2) rfl)) e0 (g := (mkF m 68 #[.val (.int x0), .val (.int x1), .val (.int x2), .val (.long (9999 : Int64)), .second, .val (.int (4 : Int32))] [])) rfl (hb hby own_d1_68) (by decide) (by decide)
                  obtain ⟨b288, g288⟩ : ∃ z, z = h0.size := ⟨_, rfl⟩
                  rw [← g288] at A288 D288 st288
                  have bd_b288 : h0.size ≤ b288 := Nat.le_of_eq g288.symm
                  have ne_ev_b288 : ev ≠ b288 := own_ne_of E_ev.lt bd_b288
                  have ge_b288 : n0 ≤ b288 := Nat.le_trans Z0 bd_b288
                  have Z288 : n0 ≤ h288.size := Nat.le_trans Z0 E288.1
                  have bo_b288 : h0.size ≤ b288 := Nat.le_trans K0.1 bd_b288
                  have K288 : Keep h0 h288 [] := K0.ext E288
                  have S_ev_at289 := S_ev.ext E288
                  have E_ev_at290 := E_ev.ext E288
                  have Fe_lowest_at291 := Fe_lowest.ext E288
                  have Fe_highest_at292 := Fe_highest.ext E288
                  have Flowest_288 : Fld Z h288 b288 "com/example/surrogate/surrogate/KeyRange" "lowest" "J" (.long (0 : Int64)) := D288 (Or.inr (hw _ (List.mem_of_getElem? (i := 12) rfl))) (ty := .long) (by decide)
                  have Fhighest_288 : Fld Z h288 b288 "com/example/surrogate/surrogate/KeyRange" "highest" "J" (.long (0 : Int64)) := D288 (Or.inr (hw _ (List.mem_of_getElem? (i := 19) rfl))) (ty := .long) (by decide)
                  refine own_via (T' := T288) (g' := (mkF m 71 #[.val (.int x0), .val (.int x1), .val (.int x2), .val (.long (9999 : Int64)), .second, .val (.int (4 : Int32))] [(.ref b288)])) st288 ?_
                  refine own_via (T' := T288) (g' := (mkF m 73 #[.val (.int x0), .val (.int x1), .val (.int x2), .val (.long (9999 : Int64)), .second, .val (.int (4 : Int32))] [(.int x2), (.ref b288), (.ref b288)])) (fun t k => XS.dup X288.here hx rfl (hb hby own_d1_71) rfl rfl (XS.iloadN X288.here hx rfl (hb hby own_d1_72) rfl k)) ?_
                  by_cases hc293 : x2 = (0 : Int32)
                  · refine own_via (T' := T288) (g' := (mkF m 83 #[.val (.int x0), .val (.int x1), .val (.int x2), .val (.long (9999 : Int64)), .second, .val (.int (4 : Int32))] [(.long (9999 : Int64)), (.long (0 : Int64)), (.ref b288), (.ref b288)])) (fun t k => XS.ifYes X288.here hx rfl (pc0 := 73) (pc' := 81) rfl (hb hby own_d1_73) rfl ((if0 _ _).trans (teq hc293).1) (by decide) (by decide) (XS.lconst X288.here hx rfl (hb hby own_d1_81) (XS.lloadN X288.here hx rfl (hb hby own_d1_82) rfl k))) ?_
                    obtain ⟨v294, T294, L294, X294, hQ294, st294⟩ := own_callSp (y := (⟨"com/example/surrogate/surrogate/KeyRange", "<init>", "(JJ)V"⟩ : MethodName)) (a := b288) (argsL := [(.long (0 : Int64)), (.long (9999 : Int64))]) (rest := [(.ref b288)]) X288 hx hZ hown rfl (hw _ (List.mem_of_getElem? (i := 44) rfl)) (hw _ (List.mem_of_getElem? (i := 45) rfl)) (hw _ (List.mem_of_getElem? (i := 2) rfl)) (hw _ (List.mem_of_getElem? (i := 46) rfl)) (by decide) (own_mt4 l Z a0 hw b288 (0 : Int64) (9999 : Int64) h288 n0 Z288 ge_b288 A288 Flowest_288 Fhighest_288) e288 (W := 1) (by decide) (by decide) (g := (mkF m 83 #[.val (.int x0), .val (.int x1), .val (.int x2), .val (.long (9999 : Int64)), .second, .val (.int (4 : Int32))] [(.long (9999 : Int64)), (.long (0 : Int64)), (.ref b288), (.ref b288)])) rfl (by rw [hml]; rfl) (lenOf own_pd0 rfl) rfl (by show 2 * 0 + _ ≤ _; exact Nat.le_of_eq rfl) (hb hby own_d1_83) (by decide) (by decide)
                    obtain ⟨rfl, Nq294, K294q, G294_0, G294_1, G294_2⟩ := hQ294
                    have N294 := Fr.app N0 Nq294
                    have Z294 : n0 ≤ T294.heap.size := Nat.le_trans Z288 K294q.1
                    have K294 : Keep h0 T294.heap [] := K288.trans K294q (allS (Or.inr bo_b288) all0)
                    have E_ev_at296 := E_ev_at290.keep K294q
                    have Fe_lowest_at297 := Fe_lowest_at291.keep K294q (ninS ne_ev_b288 nin0)
                    have Fe_highest_at298 := Fe_highest_at292.keep K294q (ninS ne_ev_b288 nin0)
                    have A288_at299 := A288.keep K294q
                    refine own_via (T' := T294) (g' := (mkF m 86 #[.val (.int x0), .val (.int x1), .val (.int x2), .val (.long (9999 : Int64)), .second, .val (.int (4 : Int32))] [(.ref b288)])) st294 ?_
                    refine own_retA X294 hx hlk hret rfl rfl (hb hby own_d1_86) (by decide) (by decide) ?_
                    exact ⟨b288, rfl, N294, K294, G294_0, (by rw [own_dec_r_lowest, if_neg hc1, if_pos hc3, if_neg hc4, if_pos hc18, if_pos hc19, if_pos hc20, if_pos hc21, if_neg hc22, if_pos hc293]; exact G294_1), (by rw [own_dec_r_highest, if_neg hc1, if_pos hc3, if_neg hc4, if_pos hc18, if_pos hc19, if_pos hc20, if_pos hc21, if_neg hc22, if_pos hc293]; exact G294_2)⟩
                  · refine own_via (T' := T288) (g' := (mkF m 83 #[.val (.int x0), .val (.int x1), .val (.int x2), .val (.long (9999 : Int64)), .second, .val (.int (4 : Int32))] [(.long (9999 : Int64)), (.long (-9999 : Int64)), (.ref b288), (.ref b288)])) (fun t k => XS.ifNo X288.here hx rfl (hb hby own_d1_73) rfl ((if0 _ _).trans (feq hc293).1) (XS.lloadN X288.here hx rfl (hb hby own_d1_76) rfl (XS.lneg X288.here hx rfl (hb hby own_d1_77) rfl (XS.goto X288.here hx rfl (pc0 := 78) (pc' := 82) rfl (hb hby own_d1_78) (by decide) (by decide) (XS.lloadN X288.here hx rfl (hb hby own_d1_82) rfl k))))) ?_
                    obtain ⟨v300, T300, L300, X300, hQ300, st300⟩ := own_callSp (y := (⟨"com/example/surrogate/surrogate/KeyRange", "<init>", "(JJ)V"⟩ : MethodName)) (a := b288) (argsL := [(.long (-9999 : Int64)), (.long (9999 : Int64))]) (rest := [(.ref b288)]) X288 hx hZ hown rfl (hw _ (List.mem_of_getElem? (i := 44) rfl)) (hw _ (List.mem_of_getElem? (i := 45) rfl)) (hw _ (List.mem_of_getElem? (i := 2) rfl)) (hw _ (List.mem_of_getElem? (i := 46) rfl)) (by decide) (own_mt4 l Z a0 hw b288 (-9999 : Int64) (9999 : Int64) h288 n0 Z288 ge_b288 A288 Flowest_288 Fhighest_288) e288 (W := 1) (by decide) (by decide) (g := (mkF m 83 #[.val (.int x0), .val (.int x1), .val (.int x2), .val (.long (9999 : Int64)), .second, .val (.int (4 : Int32))] [(.long (9999 : Int64)), (.long (-9999 : Int64)), (.ref b288), (.ref b288)])) rfl (by rw [hml]; rfl) (lenOf own_pd0 rfl) rfl (by show 2 * 0 + _ ≤ _; exact Nat.le_of_eq rfl) (hb hby own_d1_83) (by decide) (by decide)
                    obtain ⟨rfl, Nq300, K300q, G300_0, G300_1, G300_2⟩ := hQ300
                    have N300 := Fr.app N0 Nq300
                    have Z300 : n0 ≤ T300.heap.size := Nat.le_trans Z288 K300q.1
                    have K300 : Keep h0 T300.heap [] := K288.trans K300q (allS (Or.inr bo_b288) all0)
                    have E_ev_at302 := E_ev_at290.keep K300q
                    have Fe_lowest_at303 := Fe_lowest_at291.keep K300q (ninS ne_ev_b288 nin0)
                    have Fe_highest_at304 := Fe_highest_at292.keep K300q (ninS ne_ev_b288 nin0)
                    have A288_at305 := A288.keep K300q
                    refine own_via (T' := T300) (g' := (mkF m 86 #[.val (.int x0), .val (.int x1), .val (.int x2), .val (.long (9999 : Int64)), .second, .val (.int (4 : Int32))] [(.ref b288)])) st300 ?_
                    refine own_retA X300 hx hlk hret rfl rfl (hb hby own_d1_86) (by decide) (by decide) ?_
                    exact ⟨b288, rfl, N300, K300, G300_0, (by rw [own_dec_r_lowest, if_neg hc1, if_pos hc3, if_neg hc4, if_pos hc18, if_pos hc19, if_pos hc20, if_pos hc21, if_neg hc22, if_neg hc293]; exact G300_1), (by rw [own_dec_r_highest, if_neg hc1, if_pos hc3, if_neg hc4, if_pos hc18, if_pos hc19, if_pos hc20, if_pos hc21, if_neg hc22, if_neg hc293]; exact G300_2)⟩
              · refine own_via (T' := s₁) (g' := (mkF m 68 #[.val (.int x0), .val (.int x1), .val (.int x2), .val (.long (999 : Int64)), .second, .val (.int (3 : Int32))] [])) (fun t k => XS.icmpYes X0.here hx rfl (pc0 := 49) (pc' := 64) rfl (hb hby own_d1_49) rfl (flt hc21).2.1 (by decide) (by decide) (XS.lloadN X0.here hx rfl (hb hby own_d1_64) rfl (XS.lconst X0.here hx rfl (hb hby own_d1_65) (XS.lsub X0.here hx rfl (hb hby own_d1_66) rfl (XS.lstoreN X0.here hx rfl (hb hby own_d1_67) rfl (l' := #[.val (.int x0), .val (.int x1), .val (.int x2), .val (.long (999 : Int64)), .second, .val (.int (3 : Int32))]) rfl k))))) ?_
                obtain ⟨T306, h306, X306, e306, E306, A306, D306, -, st306⟩ := newO X0 hx hZ hown (hw _ (List.mem_of_getElem? (i := 42) rfl)) (hw _ (List.mem_of_getElem? (i := 43) rfl)) (hw _ (List.mem_of_getElem? (i := 2) rfl)) e0 (g := (mkF m 68 #[.val (.int x0), .val (.int x1), .val (.int x2), .val (.long (999 : Int64)), .second, .val (.int (3 : Int32))] [])) rfl (hb hby own_d1_68) (by decide) (by decide)
                obtain ⟨b306, g306⟩ : ∃ z, z = h0.size := ⟨_, rfl⟩
                rw [← g306] at A306 D306 st306
                have bd_b306 : h0.size ≤ b306 := Nat.le_of_eq g306.symm
                have ne_ev_b306 : ev ≠ b306 := own_ne_of E_ev.lt bd_b306
                have ge_b306 : n0 ≤ b306 := Nat.le_trans Z0 bd_b306
                have Z306 : n0 ≤ h306.size := Nat.le_trans Z0 E306.1
                have bo_b306 : h0.size ≤ b306 := Nat.le_trans K0.1 bd_b306
                have K306 : Keep h0 h306 [] := K0.ext E306
                have S_ev_at307 := S_ev.ext E306
                have E_ev_at308 := E_ev.ext E306
                have Fe_lowest_at309 := Fe_lowest.ext E306
                have Fe_highest_at310 := Fe_highest.ext E306
                have Flowest_306 : Fld Z h306 b306 "com/example/surrogate/surrogate/KeyRange" "lowest" "J" (.long (0 : Int64)) := D306 (Or.inr (hw _ (List.mem_of_getElem? (i := 12) rfl))) (ty := .long) (by decide)
                have Fhighest_306 : Fld Z h306 b306 "com/example/surrogate/surrogate/KeyRange" "highest" "J" (.long (0 : Int64)) := D306 (Or.inr (hw _ (List.mem_of_getElem? (i := 19) rfl))) (ty := .long) (by decide)
                refine own_via (T' := T306) (g' := (mkF m 71 #[.val (.int x0), .val (.int x1), .val (.int x2), .val (.long (999 : Int64)), .second, .val (.int (3 : Int32))] [(.ref b306)])) st306 ?_
                refine own_via (T' := T306) (g' := (mkF m 73 #[.val (.int x0), .val (.int x1), .val (.int x2), .val (.long (999 : Int64)), .second, .val (.int (3 : Int32))] [(.int x2), (.ref b306), (.ref b306)])) (fun t k => XS.dup X306.here hx rfl (hb hby own_d1_71) rfl rfl (XS.iloadN X306.here hx rfl (hb hby own_d1_72) rfl k)) ?_
                by_cases hc311 : x2 = (0 : Int32)
                · refine own_via (T' := T306) (g' := (mkF m 83 #[.val (.int x0), .val (.int x1), .val (.int x2), .val (.long (999 : Int64)), .second, .val (.int (3 : Int32))] [(.long (999 : Int64)), (.long (0 : Int64)), (.ref b306), (.ref b306)])) (fun t k => XS.ifYes X306.here hx rfl (pc0 := 73) (pc' := 81) rfl (hb hby own_d1_73) rfl ((if0 _ _).trans (teq hc311).1) (by decide) (by decide) (XS.lconst X306.here hx rfl (hb hby own_d1_81) (XS.lloadN X306.here hx rfl (hb hby own_d1_82) rfl k))) ?_
                  obtain ⟨v312, T312, L312, X312, hQ312, st312⟩ := own_callSp (y := (⟨"com/example/surrogate/surrogate/KeyRange", "<init>", "(JJ)V"⟩ : MethodName)) (a := b306) (argsL := [(.long (0 : Int64)), (.long (999 : Int64))]) (rest := [(.ref b306)]) X306 hx hZ hown rfl (hw _ (List.mem_of_getElem? (i := 44) rfl)) (hw _ (List.mem_of_getElem? (i := 45) rfl)) (hw _ (List.mem_of_getElem? (i := 2) rfl)) (hw _ (List.mem_of_getElem? (i := 46) rfl)) (by decide) (own_mt4 l Z a0 hw b306 (0 : Int64) (999 : Int64) h306 n0 Z306 ge_b306 A306 Flowest_306 Fhighest_306) e306 (W := 1) (by decide) (by decide) (g := (mkF m 83 #[.val (.int x0), .val (.int x1), .val (.int x2), .val (.long (999 : Int64)), .second, .val (.int (3 : Int32))] [(.long (999 : Int64)), (.long (0 : Int64)), (.ref b306), (.ref b306)])) rfl (by rw [hml]; rfl) (lenOf own_pd0 rfl) rfl (by show 2 * 0 + _ ≤ _; exact Nat.le_of_eq rfl) (hb hby own_d1_83) (by decide) (by decide)
                  obtain ⟨rfl, Nq312, K312q, G312_0, G312_1, G312_2⟩ := hQ312
                  have N312 := Fr.app N0 Nq312
                  have Z312 : n0 ≤ T312.heap.size := Nat.le_trans Z306 K312q.1
                  have K312 : Keep h0 T312.heap [] := K306.trans K312q (allS (Or.inr bo_b306) all0)
                  have E_ev_at314 := E_ev_at308.keep K312q
                  have Fe_lowest_at315 := Fe_lowest_at309.keep K312q (ninS ne_ev_b306 nin0)
                  have Fe_highest_at316 := Fe_highest_at310.keep K312q (ninS ne_ev_b306 nin0)
                  have A306_at317 := A306.keep K312q
                  refine own_via (T' := T312) (g' := (mkF m 86 #[.val (.int x0), .val (.int x1), .val (.int x2), .val (.long (999 : Int64)), .second, .val (.int (3 : Int32))] [(.ref b306)])) st312 ?_
                  refine own_retA X312 hx hlk hret rfl rfl (hb hby own_d1_86) (by decide) (by decide) ?_
                  exact ⟨b306, rfl, N312, K312, G312_0, (by rw [own_dec_r_lowest, if_neg hc1, if_pos hc3, if_neg hc4, if_pos hc18, if_pos hc19, if_pos hc20, if_neg hc21, if_pos hc311]; exact G312_1), (by rw [own_dec_r_highest, if_neg hc1, if_pos hc3, if_neg hc4, if_pos hc18, if_pos hc19, if_pos hc20, if_neg hc21, if_pos hc311]; exact G312_2)⟩
                · refine own_via (T' := T306) (g' := (mkF m 83 #[.val (.int x0), .val (.int x1), .val (.int x2), .val (.long (999 : Int64)), .second, .val (.int (3 : Int32))] [(.long (999 : Int64)), (.long (-999 : Int64)), (.ref b306), (.ref b306)])) (fun t k => XS.ifNo X306.here hx rfl (hb hby own_d1_73) rfl ((if0 _ _).trans (feq hc311).1) (XS.lloadN X306.here hx rfl (hb hby own_d1_76) rfl (XS.lneg X306.here hx rfl (hb hby own_d1_77) rfl (XS.goto X306.here hx rfl (pc0 := 78) (pc' := 82) rfl (hb hby own_d1_78) (by decide) (by decide) (XS.lloadN X306.here hx rfl (hb hby own_d1_82) rfl k))))) ?_
                  obtain ⟨v318, T318, L318, X318, hQ318, st318⟩ := own_callSp (y := (⟨"com/example/surrogate/surrogate/KeyRange", "<init>", "(JJ)V"⟩ : MethodName)) (a := b306) (argsL := [(.long (-999 : Int64)), (.long (999 : Int64))]) (rest := [(.ref b306)]) X306 hx hZ hown rfl (hw _ (List.mem_of_getElem? (i := 44) rfl)) (hw _ (List.mem_of_getElem? (i := 45) rfl)) (hw _ (List.mem_of_getElem? (i := 2) rfl)) (hw _ (List.mem_of_getElem? (i := 46) rfl)) (by decide) (own_mt4 l Z a0 hw b306 (-999 : Int64) (999 : Int64) h306 n0 Z306 ge_b306 A306 Flowest_306 Fhighest_306) e306 (W := 1) (by decide) (by decide) (g := (mkF m 83 #[.val (.int x0), .val (.int x1), .val (.int x2), .val (.long (999 : Int64)), .second, .val (.int (3 : Int32))] [(.long (999 : Int64)), (.long (-999 : Int64)), (.ref b306), (.ref b306)])) rfl (by rw [hml]; rfl) (lenOf own_pd0 rfl) rfl (by show 2 * 0 + _ ≤ _; exact Nat.le_of_eq rfl) (hb hby own_d1_83) (by decide) (by decide)
                  obtain ⟨rfl, Nq318, K318q, G318_0, G318_1, G318_2⟩ := hQ318
                  have N318 := Fr.app N0 Nq318
                  have Z318 : n0 ≤ T318.heap.size := Nat.le_trans Z306 K318q.1
                  have K318 : Keep h0 T318.heap [] := K306.trans K318q (allS (Or.inr bo_b306) all0)
                  have E_ev_at320 := E_ev_at308.keep K318q
                  have Fe_lowest_at321 := Fe_lowest_at309.keep K318q (ninS ne_ev_b306 nin0)
                  have Fe_highest_at322 := Fe_highest_at310.keep K318q (ninS ne_ev_b306 nin0)
                  have A306_at323 := A306.keep K318q
                  refine own_via (T' := T318) (g' := (mkF m 86 #[.val (.int x0), .val (.int x1), .val (.int x2), .val (.long (999 : Int64)), .second, .val (.int (3 : Int32))] [(.ref b306)])) st318 ?_
                  refine own_retA X318 hx hlk hret rfl rfl (hb hby own_d1_86) (by decide) (by decide) ?_
                  exact ⟨b306, rfl, N318, K318, G318_0, (by rw [own_dec_r_lowest, if_neg hc1, if_pos hc3, if_neg hc4, if_pos hc18, if_pos hc19, if_pos hc20, if_neg hc21, if_neg hc311]; exact G318_1), (by rw [own_dec_r_highest, if_neg hc1, if_pos hc3, if_neg hc4, if_pos hc18, if_pos hc19, if_pos hc20, if_neg hc21, if_neg hc311]; exact G318_2)⟩
            · refine own_via (T' := s₁) (g' := (mkF m 68 #[.val (.int x0), .val (.int x1), .val (.int x2), .val (.long (99 : Int64)), .second, .val (.int (2 : Int32))] [])) (fun t k => XS.icmpYes X0.here hx rfl (pc0 := 49) (pc' := 64) rfl (hb hby own_d1_49) rfl (flt hc20).2.1 (by decide) (by decide) (XS.lloadN X0.here hx rfl (hb hby own_d1_64) rfl (XS.lconst X0.here hx rfl (hb hby own_d1_65) (XS.lsub X0.here hx rfl (hb hby own_d1_66) rfl (XS.lstoreN X0.here hx rfl (hb hby own_d1_67) rfl (l' := #[.val (.int x0), .val (.int x1), .val (.int x2), .val (.long (99 : Int64)), .second, .val (.int (2 : Int32))]) rfl k))))) ?_
              obtain ⟨T324, h324, X324, e324, E324, A324, D324, -, st324⟩ := newO X0 hx hZ hown (hw _ (List.mem_of_getElem? (i := 42) rfl)) (hw _ (List.mem_of_getElem? (i := 43) rfl)) (hw _ (List.mem_of_getElem? (i := 2) rfl)) e0 (g := (mkF m 68 #[.val (.int x0), .val (.int x1), .val (.int x2), .val (.long (99 : Int64)), .second, .val (.int (2 : Int32))] [])) rfl (hb hby own_d1_68) (by decide) (by decide)
              obtain ⟨b324, g324⟩ : ∃ z, z = h0.size := ⟨_, rfl⟩
              rw [← g324] at A324 D324 st324
              have bd_b324 : h0.size ≤ b324 := Nat.le_of_eq g324.symm
              have ne_ev_b324 : ev ≠ b324 := own_ne_of E_ev.lt bd_b324
              have ge_b324 : n0 ≤ b324 := Nat.le_trans Z0 bd_b324
              have Z324 : n0 ≤ h324.size := Nat.le_trans Z0 E324.1
              have bo_b324 : h0.size ≤ b324 := Nat.le_trans K0.1 bd_b324
              have K324 : Keep h0 h324 [] := K0.ext E324
              have S_ev_at325 := S_ev.ext E324
              have E_ev_at326 := E_ev.ext E324
              have Fe_lowest_at327 := Fe_lowest.ext E324
              have Fe_highest_at328 := Fe_highest.ext E324
              have Flowest_324 : Fld Z h324 b324 "com/example/surrogate/surrogate/KeyRange" "lowest" "J" (.long (0 : Int64)) := D324 (Or.inr (hw _ (List.mem_of_getElem? (i := 12) rfl))) (ty := .long) (by decide)
              have Fhighest_324 : Fld Z h324 b324 "com/example/surrogate/surrogate/KeyRange" "highest" "J" (.long (0 : Int64)) := D324 (Or.inr (hw _ (List.mem_of_getElem? (i := 19) rfl))) (ty := .long) (by decide)
              refine own_via (T' := T324) (g' := (mkF m 71 #[.val (.int x0), .val (.int x1), .val (.int x2), .val (.long (99 : Int64)), .second, .val (.int (2 : Int32))] [(.ref b324)])) st324 ?_
              refine own_via (T' := T324) (g' := (mkF m 73 #[.val (.int x0), .val (.int x1), .val (.int x2), .val (.long (99 : Int64)), .second, .val (.int (2 : Int32))] [(.int x2), (.ref b324), (.ref b324)])) (fun t k => XS.dup X324.here hx rfl (hb hby own_d1_71) rfl rfl (XS.iloadN X324.here hx rfl (hb hby own_d1_72) rfl k)) ?_
              by_cases hc329 : x2 = (0 : Int32)
              · refine own_via (T' := T324) (g' := (mkF m 83 #[.val (.int x0), .val (.int x1), .val (.int x2), .val (.long (99 : Int64)), .second, .val (.int (2 : Int32))] [(.long (99 : Int64)), (.long (0 : Int64)), (.ref b324), (.ref b324)])) (fun t k => XS.ifYes X324.here hx rfl (pc0 := 73) (pc' := 81) rfl (hb hby own_d1_73) rfl ((if0 _ _).trans (teq hc329).1) (by decide) (by decide) (XS.lconst X324.here hx rfl (hb hby own_d1_81) (XS.lloadN X324.here hx rfl (hb hby own_d1_82) rfl k))) ?_
                obtain ⟨v330, T330, L330, X330, hQ330, st330⟩ := own_callSp (y := (⟨"com/example/surrogate/surrogate/KeyRange", "<init>", "(JJ)V"⟩ : MethodName)) (a := b324) (argsL := [(.long (0 : Int64)), (.long (99 : Int64))]) (rest := [(.ref b324)]) X324 hx hZ hown rfl (hw _ (List.mem_of_getElem? (i := 44) rfl)) (hw _ (List.mem_of_getElem? (i := 45) rfl)) (hw _ (List.mem_of_getElem? (i := 2) rfl)) (hw _ (List.mem_of_getElem? (i := 46) rfl)) (by decide) (own_mt4 l Z a0 hw b324 (0 : Int64) (99 : Int64) h324 n0 Z324 ge_b324 A324 Flowest_324 Fhighest_324) e324 (W := 1) (by decide) (by decide) (g := (mkF m 83 #[.val (.int x0), .val (.int x1), .val (.int x2), .val (.long (99 : Int64)), .second, .val (.int (2 : Int32))] [(.long (99 : Int64)), (.long (0 : Int64)), (.ref b324), (.ref b324)])) rfl (by rw [hml]; rfl) (lenOf own_pd0 rfl) rfl (by show 2 * 0 + _ ≤ _; exact Nat.le_of_eq rfl) (hb hby own_d1_83) (by decide) (by decide)
                obtain ⟨rfl, Nq330, K330q, G330_0, G330_1, G330_2⟩ := hQ330
                have N330 := Fr.app N0 Nq330
                have Z330 : n0 ≤ T330.heap.size := Nat.le_trans Z324 K330q.1
                have K330 : Keep h0 T330.heap [] := K324.trans K330q (allS (Or.inr bo_b324) all0)
                have E_ev_at332 := E_ev_at326.keep K330q
                have Fe_lowest_at333 := Fe_lowest_at327.keep K330q (ninS ne_ev_b324 nin0)
                have Fe_highest_at334 := Fe_highest_at328.keep K330q (ninS ne_ev_b324 nin0)
                have A324_at335 := A324.keep K330q
                refine own_via (T' := T330) (g' := (mkF m 86 #[.val (.int x0), .val (.int x1), .val (.int x2), .val (.long (99 : Int64)), .second, .val (.int (2 : Int32))] [(.ref b324)])) st330 ?_
                refine own_retA X330 hx hlk hret rfl rfl (hb hby own_d1_86) (by decide) (by decide) ?_
                exact ⟨b324, rfl, N330, K330, G330_0, (by rw [own_dec_r_lowest, if_neg hc1, if_pos hc3, if_neg hc4, if_pos hc18, if_pos hc19, if_neg hc20, if_pos hc329]; exact G330_1), (by rw [own_dec_r_highest, if_neg hc1, if_pos hc3, if_neg hc4, if_pos hc18, if_pos hc19, if_neg hc20, if_pos hc329]; exact G330_2)⟩
              · refine own_via (T' := T324) (g' := (mkF m 83 #[.val (.int x0), .val (.int x1), .val (.int x2), .val (.long (99 : Int64)), .second, .val (.int (2 : Int32))] [(.long (99 : Int64)), (.long (-99 : Int64)), (.ref b324), (.ref b324)])) (fun t k => XS.ifNo X324.here hx rfl (hb hby own_d1_73) rfl ((if0 _ _).trans (feq hc329).1) (XS.lloadN X324.here hx rfl (hb hby own_d1_76) rfl (XS.lneg X324.here hx rfl (hb hby own_d1_77) rfl (XS.goto X324.here hx rfl (pc0 := 78) (pc' := 82) rfl (hb hby own_d1_78) (by decide) (by decide) (XS.lloadN X324.here hx rfl (hb hby own_d1_82) rfl k))))) ?_
                obtain ⟨v336, T336, L336, X336, hQ336, st336⟩ := own_callSp (y := (⟨"com/example/surrogate/surrogate/KeyRange", "<init>", "(JJ)V"⟩ : MethodName)) (a := b324) (argsL := [(.long (-99 : Int64)), (.long (99 : Int64))]) (rest := [(.ref b324)]) X324 hx hZ hown rfl (hw _ (List.mem_of_getElem? (i := 44) rfl)) (hw _ (List.mem_of_getElem? (i := 45) rfl)) (hw _ (List.mem_of_getElem? (i := 2) rfl)) (hw _ (List.mem_of_getElem? (i := 46) rfl)) (by decide) (own_mt4 l Z a0 hw b324 (-99 : Int64) (99 : Int64) h324 n0 Z324 ge_b324 A324 Flowest_324 Fhighest_324) e324 (W := 1) (by decide) (by decide) (g := (mkF m 83 #[.val (.int x0), .val (.int x1), .val (.int x2), .val (.long (99 : Int64)), .second, .val (.int (2 : Int32))] [(.long (99 : Int64)), (.long (-99 : Int64)), (.ref b324), (.ref b324)])) rfl (by rw [hml]; rfl) (lenOf own_pd0 rfl) rfl (by show 2 * 0 + _ ≤ _; exact Nat.le_of_eq rfl) (hb hby own_d1_83) (by decide) (by decide)
                obtain ⟨rfl, Nq336, K336q, G336_0, G336_1, G336_2⟩ := hQ336
                have N336 := Fr.app N0 Nq336
                have Z336 : n0 ≤ T336.heap.size := Nat.le_trans Z324 K336q.1
                have K336 : Keep h0 T336.heap [] := K324.trans K336q (allS (Or.inr bo_b324) all0)
                have E_ev_at338 := E_ev_at326.keep K336q
                have Fe_lowest_at339 := Fe_lowest_at327.keep K336q (ninS ne_ev_b324 nin0)
                have Fe_highest_at340 := Fe_highest_at328.keep K336q (ninS ne_ev_b324 nin0)
                have A324_at341 := A324.keep K336q
                refine own_via (T' := T336) (g' := (mkF m 86 #[.val (.int x0), .val (.int x1), .val (.int x2), .val (.long (99 : Int64)), .second, .val (.int (2 : Int32))] [(.ref b324)])) st336 ?_
                refine own_retA X336 hx hlk hret rfl rfl (hb hby own_d1_86) (by decide) (by decide) ?_
                exact ⟨b324, rfl, N336, K336, G336_0, (by rw [own_dec_r_lowest, if_neg hc1, if_pos hc3, if_neg hc4, if_pos hc18, if_pos hc19, if_neg hc20, if_neg hc329]; exact G336_1), (by rw [own_dec_r_highest, if_neg hc1, if_pos hc3, if_neg hc4, if_pos hc18, if_pos hc19, if_neg hc20, if_neg hc329]; exact G336_2)⟩
          · refine own_via (T' := s₁) (g' := (mkF m 68 #[.val (.int x0), .val (.int x1), .val (.int x2), .val (.long (9 : Int64)), .second, .val (.int (1 : Int32))] [])) (fun t k => XS.icmpYes X0.here hx rfl (pc0 := 49) (pc' := 64) rfl (hb hby own_d1_49) rfl (flt hc19).2.1 (by decide) (by decide) (XS.lloadN X0.here hx rfl (hb hby own_d1_64) rfl (XS.lconst X0.here hx rfl (hb hby own_d1_65) (XS.lsub X0.here hx rfl (hb hby own_d1_66) rfl (XS.lstoreN X0.here hx rfl (hb hby own_d1_67) rfl (l' := #[.val (.int x0), .val (.int x1), .val (.int x2), .val (.long (9 : Int64)), .second, .val (.int (1 : Int32))]) rfl k))))) ?_
            obtain ⟨T342, h342, X342, e342, E342, A342, D342, -, st342⟩ := newO X0 hx hZ hown (hw _ (List.mem_of_getElem? (i := 42) rfl)) (hw _ (List.mem_of_getElem? (i := 43) rfl)) (hw _ (List.mem_of_getElem? (i := 2) rfl)) e0 (g := (mkF m 68 #[.val (.int x0), .val (.int x1), .val (.int x2), .val (.long (9 : Int64)), .second, .val (.int (1 : Int32))] [])) rfl (hb hby own_d1_68) (by decide) (by decide)
            obtain ⟨b342, g342⟩ : ∃ z, z = h0.size := ⟨_, rfl⟩
            rw [← g342] at A342 D342 st342
            have bd_b342 : h0.size ≤ b342 := Nat.le_of_eq g342.symm
            have ne_ev_b342 : ev ≠ b342 := own_ne_of E_ev.lt bd_b342
            have ge_b342 : n0 ≤ b342 := Nat.le_trans Z0 bd_b342
            have Z342 : n0 ≤ h342.size := Nat.le_trans Z0 E342.1
            have bo_b342 : h0.size ≤ b342 := Nat.le_trans K0.1 bd_b342
            have K342 : Keep h0 h342 [] := K0.ext E342
            have S_ev_at343 := S_ev.ext E342
            have E_ev_at344 := E_ev.ext E342
            have Fe_lowest_at345 := Fe_lowest.ext E342
            have Fe_highest_at346 := Fe_highest.ext E342
            have Flowest_342 : Fld Z h342 b342 "com/example/surrogate/surrogate/KeyRange" "lowest" "J" (.long (0 : Int64)) := D342 (Or.inr (hw _ (List.mem_of_getElem? (i := 12) rfl))) (ty := .long) (by decide)
            have Fhighest_342 : Fld Z h342 b342 "com/example/surrogate/surrogate/KeyRange" "highest" "J" (.long (0 : Int64)) := D342 (Or.inr (hw _ (List.mem_of_getElem? (i := 19) rfl))) (ty := .long) (by decide)
            refine own_via (T' := T342) (g' := (mkF m 71 #[.val (.int x0), .val (.int x1), .val (.int x2), .val (.long (9 : Int64)), .second, .val (.int (1 : Int32))] [(.ref b342)])) st342 ?_
            refine own_via (T' := T342) (g' := (mkF m 73 #[.val (.int x0), .val (.int x1), .val (.int x2), .val (.long (9 : Int64)), .second, .val (.int (1 : Int32))] [(.int x2), (.ref b342), (.ref b342)])) (fun t k => XS.dup X342.here hx rfl (hb hby own_d1_71) rfl rfl (XS.iloadN X342.here hx rfl (hb hby own_d1_72) rfl k)) ?_
            by_cases hc347 : x2 = (0 : Int32)
            · refine own_via (T' := T342) (g' := (mkF m 83 #[.val (.int x0), .val (.int x1), .val (.int x2), .val (.long (9 : Int64)), .second, .val (.int (1 : Int32))] [(.long (9 : Int64)), (.long (0 : Int64)), (.ref b342), (.ref b342)])) (fun t k => XS.ifYes X342.here hx rfl (pc0 := 73) (pc' := 81) rfl (hb hby own_d1_73) rfl ((if0 _ _).trans (teq hc347).1) (by decide) (by decide) (XS.lconst X342.here hx rfl (hb hby own_d1_81) (XS.lloadN X342.here hx rfl (hb hby own_d1_82) rfl k))) ?_
              obtain ⟨v348, T348, L348, X348, hQ348, st348⟩ := own_callSp (y := (⟨"com/example/surrogate/surrogate/KeyRange", "<init>", "(JJ)V"⟩ : MethodName)) (a := b342) (argsL := [(.long (0 : Int64)), (.long (9 : Int64))]) (rest := [(.ref b342)]) X342 hx hZ hown rfl (hw _ (List.mem_of_getElem? (i := 44) rfl)) (hw _ (List.mem_of_getElem? (i := 45) rfl)) (hw _ (List.mem_of_getElem? (i := 2) rfl)) (hw _ (List.mem_of_getElem? (i := 46) rfl)) (by decide) (own_mt4 l Z a0 hw b342 (0 : Int64) (9 : Int64) h342 n0 Z342 ge_b342 A342 Flowest_342 Fhighest_342) e342 (W := 1) (by decide) (by decide) (g := (mkF m 83 #[.val (.int x0), .val (.int x1), .val (.int x2), .val (.long (9 : Int64)), .second, .val (.int (1 : Int32))] [(.long (9 : Int64)), (.long (0 : Int64)), (.ref b342), (.ref b342)])) rfl (by rw [hml]; rfl) (lenOf own_pd0 rfl) rfl (by show 2 * 0 + _ ≤ _; exact Nat.le_of_eq rfl) (hb hby own_d1_83) (by decide) (by decide)
              obtain ⟨rfl, Nq348, K348q, G348_0, G348_1, G348_2⟩ := hQ348
              have N348 := Fr.app N0 Nq348
              have Z348 : n0 ≤ T348.heap.size := Nat.le_trans Z342 K348q.1
              have K348 : Keep h0 T348.heap [] := K342.trans K348q (allS (Or.inr bo_b342) all0)
              have E_ev_at350 := E_ev_at344.keep K348q
              have Fe_lowest_at351 := Fe_lowest_at345.keep K348q (ninS ne_ev_b342 nin0)
              have Fe_highest_at352 := Fe_highest_at346.keep K348q (ninS ne_ev_b342 nin0)
              have A342_at353 := A342.keep K348q
              refine own_via (T' := T348) (g' := (mkF m 86 #[.val (.int x0), .val (.int x1), .val (.int x2), .val (.long (9 : Int64)), .second, .val (.int (1 : Int32))] [(.ref b342)])) st348 ?_
              refine own_retA X348 hx hlk hret rfl rfl (hb hby own_d1_86) (by decide) (by decide) ?_
              exact ⟨b342, rfl, N348, K348, G348_0, (by rw [own_dec_r_lowest, if_neg hc1, if_pos hc3, if_neg hc4, if_pos hc18, if_neg hc19, if_pos hc347]; exact G348_1), (by rw [own_dec_r_highest, if_neg hc1, if_pos hc3, if_neg hc4, if_pos hc18, if_neg hc19, if_pos hc347]; exact G348_2)⟩
            · refine own_via (T' := T342) (g' := (mkF m 83 #[.val (.int x0), .val (.int x1), .val (.int x2), .val (.long (9 : Int64)), .second, .val (.int (1 : Int32))] [(.long (9 : Int64)), (.long (-9 : Int64)), (.ref b342), (.ref b342)])) (fun t k => XS.ifNo X342.here hx rfl (hb hby own_d1_73) rfl ((if0 _ _).trans (feq hc347).1) (XS.lloadN X342.here hx rfl (hb hby own_d1_76) rfl (XS.lneg X342.here hx rfl (hb hby own_d1_77) rfl (XS.goto X342.here hx rfl (pc0 := 78) (pc' := 82) rfl (hb hby own_d1_78) (by decide) (by decide) (XS.lloadN X342.here hx rfl (hb hby own_d1_82) rfl k))))) ?_
              obtain ⟨v354, T354, L354, X354, hQ354, st354⟩ := own_callSp (y := (⟨"com/example/surrogate/surrogate/KeyRange", "<init>", "(JJ)V"⟩ : MethodName)) (a := b342) (argsL := [(.long (-9 : Int64)), (.long (9 : Int64))]) (rest := [(.ref b342)]) X342 hx hZ hown rfl (hw _ (List.mem_of_getElem? (i := 44) rfl)) (hw _ (List.mem_of_getElem? (i := 45) rfl)) (hw _ (List.mem_of_getElem? (i := 2) rfl)) (hw _ (List.mem_of_getElem? (i := 46) rfl)) (by decide) (own_mt4 l Z a0 hw b342 (-9 : Int64) (9 : Int64) h342 n0 Z342 ge_b342 A342 Flowest_342 Fhighest_342) e342 (W := 1) (by decide) (by decide) (g := (mkF m 83 #[.val (.int x0), .val (.int x1), .val (.int x2), .val (.long (9 : Int64)), .second, .val (.int (1 : Int32))] [(.long (9 : Int64)), (.long (-9 : Int64)), (.ref b342), (.ref b342)])) rfl (by rw [hml]; rfl) (lenOf own_pd0 rfl) rfl (by show 2 * 0 + _ ≤ _; exact Nat.le_of_eq rfl) (hb hby own_d1_83) (by decide) (by decide)
              obtain ⟨rfl, Nq354, K354q, G354_0, G354_1, G354_2⟩ := hQ354
              have N354 := Fr.app N0 Nq354
              have Z354 : n0 ≤ T354.heap.size := Nat.le_trans Z342 K354q.1
              have K354 : Keep h0 T354.heap [] := K342.trans K354q (allS (Or.inr bo_b342) all0)
              have E_ev_at356 := E_ev_at344.keep K354q
              have Fe_lowest_at357 := Fe_lowest_at345.keep K354q (ninS ne_ev_b342 nin0)
              have Fe_highest_at358 := Fe_highest_at346.keep K354q (ninS ne_ev_b342 nin0)
              have A342_at359 := A342.keep K354q
              refine own_via (T' := T354) (g' := (mkF m 86 #[.val (.int x0), .val (.int x1), .val (.int x2), .val (.long (9 : Int64)), .second, .val (.int (1 : Int32))] [(.ref b342)])) st354 ?_
              refine own_retA X354 hx hlk hret rfl rfl (hb hby own_d1_86) (by decide) (by decide) ?_
              exact ⟨b342, rfl, N354, K354, G354_0, (by rw [own_dec_r_lowest, if_neg hc1, if_pos hc3, if_neg hc4, if_pos hc18, if_neg hc19, if_neg hc347]; exact G354_1), (by rw [own_dec_r_highest, if_neg hc1, if_pos hc3, if_neg hc4, if_pos hc18, if_neg hc19, if_neg hc347]; exact G354_2)⟩
        · refine own_via (T' := s₁) (g' := (mkF m 68 #[.val (.int x0), .val (.int x1), .val (.int x2), .val (.long (0 : Int64)), .second, .val (.int (0 : Int32))] [])) (fun t k => XS.icmpYes X0.here hx rfl (pc0 := 49) (pc' := 64) rfl (hb hby own_d1_49) rfl (flt hc18).2.1 (by decide) (by decide) (XS.lloadN X0.here hx rfl (hb hby own_d1_64) rfl (XS.lconst X0.here hx rfl (hb hby own_d1_65) (XS.lsub X0.here hx rfl (hb hby own_d1_66) rfl (XS.lstoreN X0.here hx rfl (hb hby own_d1_67) rfl (l' := #[.val (.int x0), .val (.int x1), .val (.int x2), .val (.long (0 : Int64)), .second, .val (.int (0 : Int32))]) rfl k))))) ?_
          obtain ⟨T360, h360, X360, e360, E360, A360, D360, -, st360⟩ := newO X0 hx hZ hown (hw _ (List.mem_of_getElem? (i := 42) rfl)) (hw _ (List.mem_of_getElem? (i := 43) rfl)) (hw _ (List.mem_of_getElem? (i := 2) rfl)) e0 (g := (mkF m 68 #[.val (.int x0), .val (.int x1), .val (.int x2), .val (.long (0 : Int64)), .second, .val (.int (0 : Int32))] [])) rfl (hb hby own_d1_68) (by decide) (by decide)
          obtain ⟨b360, g360⟩ : ∃ z, z = h0.size := ⟨_, rfl⟩
          rw [← g360] at A360 D360 st360
          have bd_b360 : h0.size ≤ b360 := Nat.le_of_eq g360.symm
          have ne_ev_b360 : ev ≠ b360 := own_ne_of E_ev.lt bd_b360
          have ge_b360 : n0 ≤ b360 := Nat.le_trans Z0 bd_b360
          have Z360 : n0 ≤ h360.size := Nat.le_trans Z0 E360.1
          have bo_b360 : h0.size ≤ b360 := Nat.le_trans K0.1 bd_b360
          have K360 : Keep h0 h360 [] := K0.ext E360
          have S_ev_at361 := S_ev.ext E360
          have E_ev_at362 := E_ev.ext E360
          have Fe_lowest_at363 := Fe_lowest.ext E360
          have Fe_highest_at364 := Fe_highest.ext E360
          have Flowest_360 : Fld Z h360 b360 "com/example/surrogate/surrogate/KeyRange" "lowest" "J" (.long (0 : Int64)) := D360 (Or.inr (hw _ (List.mem_of_getElem? (i := 12) rfl))) (ty := .long) (by decide)
          have Fhighest_360 : Fld Z h360 b360 "com/example/surrogate/surrogate/KeyRange" "highest" "J" (.long (0 : Int64)) := D360 (Or.inr (hw _ (List.mem_of_getElem? (i := 19) rfl))) (ty := .long) (by decide)
          refine own_via (T' := T360) (g' := (mkF m 71 #[.val (.int x0), .val (.int x1), .val (.int x2), .val (.long (0 : Int64)), .second, .val (.int (0 : Int32))] [(.ref b360)])) st360 ?_
          refine own_via (T' := T360) (g' := (mkF m 73 #[.val (.int x0), .val (.int x1), .val (.int x2), .val (.long (0 : Int64)), .second, .val (.int (0 : Int32))] [(.int x2), (.ref b360), (.ref b360)])) (fun t k => XS.dup X360.here hx rfl (hb hby own_d1_71) rfl rfl (XS.iloadN X360.here hx rfl (hb hby own_d1_72) rfl k)) ?_
          by_cases hc365 : x2 = (0 : Int32)
          · refine own_via (T' := T360) (g' := (mkF m 83 #[.val (.int x0), .val (.int x1), .val (.int x2), .val (.long (0 : Int64)), .second, .val (.int (0 : Int32))] [(.long (0 : Int64)), (.long (0 : Int64)), (.ref b360), (.ref b360)])) (fun t k => XS.ifYes X360.here hx rfl (pc0 := 73) (pc' := 81) rfl (hb hby own_d1_73) rfl ((if0 _ _).trans (teq hc365).1) (by decide) (by decide) (XS.lconst X360.here hx rfl (hb hby own_d1_81) (XS.lloadN X360.here hx rfl (hb hby own_d1_82) rfl k))) ?_
            obtain ⟨v366, T366, L366, X366, hQ366, st366⟩ := own_callSp (y := (⟨"com/example/surrogate/surrogate/KeyRange", "<init>", "(JJ)V"⟩ : MethodName)) (a := b360) (argsL := [(.long (0 : Int64)), (.long (0 : Int64))]) (rest := [(.ref b360)]) X360 hx hZ hown rfl (hw _ (List.mem_of_getElem? (i := 44) rfl)) (hw _ (List.mem_of_getElem? (i := 45) rfl)) (hw _ (List.mem_of_getElem? (i := 2) rfl)) (hw _ (List.mem_of_getElem? (i := 46) rfl)) (by decide) (own_mt4 l Z a0 hw b360 (0 : Int64) (0 : Int64) h360 n0 Z360 ge_b360 A360 Flowest_360 Fhighest_360) e360 (W := 1) (by decide) (by decide) (g := (mkF m 83 #[.val (.int x0), .val (.int x1), .val (.int x2), .val (.long (0 : Int64)), .second, .val (.int (0 : Int32))] [(.long (0 : Int64)), (.long (0 : Int64)), (.ref b360), (.ref b360)])) rfl (by rw [hml]; rfl) (lenOf own_pd0 rfl) rfl (by show 2 * 0 + _ ≤ _; exact Nat.le_of_eq rfl) (hb hby own_d1_83) (by decide) (by decide)
            obtain ⟨rfl, Nq366, K366q, G366_0, G366_1, G366_2⟩ := hQ366
            have N366 := Fr.app N0 Nq366
            have Z366 : n0 ≤ T366.heap.size := Nat.le_trans Z360 K366q.1
            have K366 : Keep h0 T366.heap [] := K360.trans K366q (allS (Or.inr bo_b360) all0)
            have E_ev_at368 := E_ev_at362.keep K366q
            have Fe_lowest_at369 := Fe_lowest_at363.keep K366q (ninS ne_ev_b360 nin0)
            have Fe_highest_at370 := Fe_highest_at364.keep K366q (ninS ne_ev_b360 nin0)
            have A360_at371 := A360.keep K366q
            refine own_via (T' := T366) (g' := (mkF m 86 #[.val (.int x0), .val (.int x1), .val (.int x2), .val (.long (0 : Int64)), .second, .val (.int (0 : Int32))] [(.ref b360)])) st366 ?_
            refine own_retA X366 hx hlk hret rfl rfl (hb hby own_d1_86) (by decide) (by decide) ?_
            exact ⟨b360, rfl, N366, K366, G366_0, (by rw [own_dec_r_lowest, if_neg hc1, if_pos hc3, if_neg hc4, if_neg hc18, if_pos hc365]; exact G366_1), (by rw [own_dec_r_highest, if_neg hc1, if_pos hc3, if_neg hc4, if_neg hc18, if_pos hc365]; exact G366_2)⟩
          · refine own_via (T' := T360) (g' := (mkF m 83 #[.val (.int x0), .val (.int x1), .val (.int x2), .val (.long (0 : Int64)), .second, .val (.int (0 : Int32))] [(.long (0 : Int64)), (.long (0 : Int64)), (.ref b360), (.ref b360)])) (fun t k => XS.ifNo X360.here hx rfl (hb hby own_d1_73) rfl ((if0 _ _).trans (feq hc365).1) (XS.lloadN X360.here hx rfl (hb hby own_d1_76) rfl (XS.lneg X360.here hx rfl (hb hby own_d1_77) rfl (XS.goto X360.here hx rfl (pc0 := 78) (pc' := 82) rfl (hb hby own_d1_78) (by decide) (by decide) (XS.lloadN X360.here hx rfl (hb hby own_d1_82) rfl k))))) ?_
            obtain ⟨v372, T372, L372, X372, hQ372, st372⟩ := own_callSp (y := (⟨"com/example/surrogate/surrogate/KeyRange", "<init>", "(JJ)V"⟩ : MethodName)) (a := b360) (argsL := [(.long (0 : Int64)), (.long (0 : Int64))]) (rest := [(.ref b360)]) X360 hx hZ hown rfl (hw _ (List.mem_of_getElem? (i := 44) rfl)) (hw _ (List.mem_of_getElem? (i := 45) rfl)) (hw _ (List.mem_of_getElem? (i := 2) rfl)) (hw _ (List.mem_of_getElem? (i := 46) rfl)) (by decide) (own_mt4 l Z a0 hw b360 (0 : Int64) (0 : Int64) h360 n0 Z360 ge_b360 A360 Flowest_360 Fhighest_360) e360 (W := 1) (by decide) (by decide) (g := (mkF m 83 #[.val (.int x0), .val (.int x1), .val (.int x2), .val (.long (0 : Int64)), .second, .val (.int (0 : Int32))] [(.long (0 : Int64)), (.long (0 : Int64)), (.ref b360), (.ref b360)])) rfl (by rw [hml]; rfl) (lenOf own_pd0 rfl) rfl (by show 2 * 0 + _ ≤ _; exact Nat.le_of_eq rfl) (hb hby own_d1_83) (by decide) (by decide)
            obtain ⟨rfl, Nq372, K372q, G372_0, G372_1, G372_2⟩ := hQ372
            have N372 := Fr.app N0 Nq372
            have Z372 : n0 ≤ T372.heap.size := Nat.le_trans Z360 K372q.1
            have K372 : Keep h0 T372.heap [] := K360.trans K372q (allS (Or.inr bo_b360) all0)
            have E_ev_at374 := E_ev_at362.keep K372q
            have Fe_lowest_at375 := Fe_lowest_at363.keep K372q (ninS ne_ev_b360 nin0)
            have Fe_highest_at376 := Fe_highest_at364.keep K372q (ninS ne_ev_b360 nin0)
            have A360_at377 := A360.keep K372q
            refine own_via (T' := T372) (g' := (mkF m 86 #[.val (.int x0), .val (.int x1), .val (.int x2), .val (.long (0 : Int64)), .second, .val (.int (0 : Int32))] [(.ref b360)])) st372 ?_
            refine own_retA X372 hx hlk hret rfl rfl (hb hby own_d1_86) (by decide) (by decide) ?_
            exact ⟨b360, rfl, N372, K372, G372_0, (by rw [own_dec_r_lowest, if_neg hc1, if_pos hc3, if_neg hc4, if_neg hc18, if_neg hc365]; exact G372_1), (by rw [own_dec_r_highest, if_neg hc1, if_pos hc3, if_neg hc4, if_neg hc18, if_neg hc365]; exact G372_2)⟩
    · refine own_via (T' := s₁) (g' := (mkF m 9 #[.val (.int x0), .val (.int x1), .val (.int x2), .unset, .unset, .unset] [])) (fun t k => XS.ifNo X0.here hx rfl (hb hby own_d1_6) rfl ((if0 _ _).trans (feq hc3).1) k) ?_
      obtain ⟨T378, X378, e378, st378⟩ := getS2 X0 hx hZ hown (host := "") (Or.inl (hw _ (List.mem_of_getElem? (i := 4) rfl))) Via.refl e0 S_ev (g := (mkF m 9 #[.val (.int x0), .val (.int x1), .val (.int x2), .unset, .unset, .unset] [])) rfl (hb hby own_d1_9)
      refine own_via (T' := T378) (g' := (mkF m 12 #[.val (.int x0), .val (.int x1), .val (.int x2), .unset, .unset, .unset] [(.ref ev)])) st378 ?_
      refine own_retA X378 hx hlk hret rfl rfl (hb hby own_d1_12) (by decide) (by decide) ?_
      rw [e378]; exact ⟨ev, rfl, N0, K0, E_ev, (by rw [own_dec_r_lowest, if_neg hc1, if_neg hc3]; exact Fe_lowest), (by rw [own_dec_r_highest, if_neg hc1, if_neg hc3]; exact Fe_highest)⟩
def own_pws : List Int64 := [1, 10, 100, 1000, 10000, 100000, 1000000, 10000000, 100000000, 1000000000, 10000000000, 100000000000, 1000000000000, 10000000000000, 100000000000000, 1000000000000000, 10000000000000000, 100000000000000000, 1000000000000000000]
def own_pw (j : Int32) : Int64 := own_pws.getD j.toNatClampNeg 0
theorem own_cn {j : Int32} (h : ¬ j < 1) : j.toInt = (j.toNatClampNeg : Int) ∧ 1 ≤ j.toNatClampNeg := by
  rw [Int32.lt_iff_toInt_lt] at h
  have k0 : (1 : Int32).toInt = 1 := by decide
  simp only [Int32.toNatClampNeg]; omega
theorem own_pw_at (j : Int32) (h0 : ¬ j < (1 : Int32)) (h1 : ¬ (18 : Int32) < j) : (own_pws.map Value.long)[j.toNatClampNeg]? = some (.long (own_pw j)) := by
  have e := own_cn h0
  rw [Int32.lt_iff_toInt_lt] at h1
  have k1 : (18 : Int32).toInt = 18 := by decide
  have h2 : j.toNatClampNeg < own_pws.length := by show _ < 19; omega
  simp [own_pw, List.getElem?_eq_getElem h2]
theorem own_nn {j : Int32} (h0 : ¬ j < (1 : Int32)) : ¬ j < 0 := fun q => h0 (by
  rw [Int32.lt_iff_toInt_lt] at q ⊢
  have k0 : (0 : Int32).toInt = 0 := by decide
  have k1 : (1 : Int32).toInt = 1 := by decide
  omega)
theorem own_pn1 : plainName "com/example/surrogate/surrogate/KeyRangeOfDecimalPinLaw" = true := by first | (simp [plainName, overriddenIn]; done) | decide +kernel
theorem own_pd1 : parseMethodDescriptor "(IIZ)Lcom/example/surrogate/surrogate/KeyRange;" = some ⟨[.int, .int, .boolean], some (.object "com/example/surrogate/surrogate/KeyRange")⟩ := by decide +kernel
theorem own_pd2 : parseMethodDescriptor "()J" = some ⟨[], some .long⟩ := by decide +kernel
def own_f0_j43 (x0 : Int32) (x1 : Int32) (x2 : Int32) (sg : Int32) (pr : Int32) (sc : Int32) : Int32 := (if pr < (1 : Int32) then (if (own_low (own_dec_r_lowest pr sc sg)) = (-9223372036854775808 : Int64) then (if (own_high (own_dec_r_highest pr sc sg)) = (9223372036854775807 : Int64) then (1 : Int32) else (0 : Int32)) else (0 : Int32)) else (if sc = (0 : Int32) then (if (18 : Int32) < pr then (if sg = (0 : Int32) then (if (own_low (own_dec_r_lowest pr sc sg)) = (0 : Int64) then (if (own_high (own_dec_r_highest pr sc sg)) = (9223372036854775807 : Int64) then (1 : Int32) else (0 : Int32)) else (0 : Int32)) else (if (own_low (own_dec_r_lowest pr sc sg)) = (-9223372036854775808 : Int64) then (if (own_high (own_dec_r_highest pr sc sg)) = (9223372036854775807 : Int64) then (1 : Int32) else (0 : Int32)) else (0 : Int32))) else (if sg = (0 : Int32) then (if (own_low (own_dec_r_lowest pr sc sg)) = (0 : Int64) then (if (own_high (own_dec_r_highest pr sc sg)) = ((own_pw pr) - (1 : Int64)) then (1 : Int32) else (0 : Int32)) else (0 : Int32)) else (if (own_low (own_dec_r_lowest pr sc sg)) = (-((own_pw pr) - (1 : Int64))) then (if (own_high (own_dec_r_highest pr sc sg)) = ((own_pw pr) - (1 : Int64)) then (1 : Int32) else (0 : Int32)) else (0 : Int32)))) else (if (own_low (own_dec_r_lowest pr sc sg)) = (-9223372036854775808 : Int64) then (if (own_high (own_dec_r_highest pr sc sg)) = (9223372036854775807 : Int64) then (1 : Int32) else (0 : Int32)) else (0 : Int32))))
def own_f0 (x0 : Int32) (x1 : Int32) (x2 : Int32) : Int32 := (if (x2 &&& (1 : Int32)) = (0 : Int32) then (if (x2 &&& (2 : Int32)) = (0 : Int32) then (if (x2 &&& (4 : Int32)) = (0 : Int32) then (own_f0_j43 x0 x1 x2 (0 : Int32) ((x0 &&& (31 : Int32)) - (2 : Int32)) (0 : Int32)) else (own_f0_j43 x0 x1 x2 (0 : Int32) ((x0 &&& (31 : Int32)) - (2 : Int32)) x1)) else (if (x2 &&& (4 : Int32)) = (0 : Int32) then (own_f0_j43 x0 x1 x2 (0 : Int32) x0 (0 : Int32)) else (own_f0_j43 x0 x1 x2 (0 : Int32) x0 x1))) else (if (x2 &&& (2 : Int32)) = (0 : Int32) then (if (x2 &&& (4 : Int32)) = (0 : Int32) then (own_f0_j43 x0 x1 x2 (1 : Int32) ((x0 &&& (31 : Int32)) - (2 : Int32)) (0 : Int32)) else (own_f0_j43 x0 x1 x2 (1 : Int32) ((x0 &&& (31 : Int32)) - (2 : Int32)) x1)) else (if (x2 &&& (4 : Int32)) = (0 : Int32) then (own_f0_j43 x0 x1 x2 (1 : Int32) x0 (0 : Int32)) else (own_f0_j43 x0 x1 x2 (1 : Int32) x0 x1))))
set_option maxHeartbeats 40000000 in
theorem own_mt0_ef (m : MethodId) (x0 : Int32) (x1 : Int32) (x2 : Int32) : entryFrame m #[(.int x0), (.int x1), (.int x2)] maxLocals = mkF m 0 #[.val (.int x0), .val (.int x1), .val (.int x2), .unset, .unset, .unset, .unset, .unset, .unset, .unset, .unset, .unset, .unset, .unset, .unset, .unset] [] := by first | (simp [entryFrame, mkF, argsToLocals, Value.category, maxLocals]; done) | rfl
set_option maxRecDepth 65536 in
set_option maxHeartbeats 40000000 in
theorem own_mt0 (l : Launch) (Z : State) (a0 : Array Value) (hw : ∀ d ∈ tables_1, d.before a0 Z = true) (x0 : Int32) (x1 : Int32) (x2 : Int32) (ev : Addr) (h0 : Heap) (n0 : Nat) (Z0 : n0 ≤ h0.size) (S_ev : Sta Z h0 "com/example/surrogate/surrogate/KeyRange" "EVERY_LONG" "Lcom/example/surrogate/surrogate/KeyRange;" (.ref ev)) (E_ev : Exa Z h0 ev "com/example/surrogate/surrogate/KeyRange") (Fe_lowest : Fld Z h0 ev "com/example/surrogate/surrogate/KeyRange" "lowest" "J" (.long (-9223372036854775808 : Int64))) (Fe_highest : Fld Z h0 ev "com/example/surrogate/surrogate/KeyRange" "highest" "J" (.long (9223372036854775807 : Int64))) :
    own_Met l Z x code maxLocals ret room_1 #[(.int x0), (.int x1), (.int x2)] h0 (fun v h L => v = some (.int (own_f0 x0 x1 x2)) ∧ Fr n0 L) := by
  refine own_intro (plainFor_of_name own_pn1) ?_
  intro p e s m below meth c s₁ hx hby hml hown hnm hZ hret hlk X0 e0
  refine own_cast (own_mt0_ef m x0 x1 x2) ?_
  have N0 := Fr.nil n0
  have j43 : ∀ (sg : Int32) (pr : Int32) (sc : Int32), (own_f0 x0 x1 x2) = (own_f0_j43 x0 x1 x2 sg pr sc) → own_Go p e below (own_End s (room_1).cells (room_1).slots (fun v h L => v = some (.int (own_f0 x0 x1 x2)) ∧ Fr n0 L)) s₁ (mkF m 43 #[.val (.int x0), .val (.int x1), .val (.int x2), .val (.int sg), .val (.int pr), .val (.int sc), .unset, .unset, .unset, .unset, .unset, .unset, .unset, .unset, .unset, .unset] []) := by
    intro sg pr sc hj43
    refine own_via (T' := s₁) (g' := (mkF m 48 #[.val (.int x0), .val (.int x1), .val (.int x2), .val (.int sg), .val (.int pr), .val (.int sc), .unset, .unset, .unset, .unset, .unset, .unset, .unset, .unset, .unset, .unset] [(.int sg), (.int sc), (.int pr)])) (fun t k => XS.iload X0.here hx rfl (hb hby at_43) rfl (XS.iload X0.here hx rfl (hb hby at_45) rfl (XS.iloadN X0.here hx rfl (hb hby at_47) rfl k))) ?_
    obtain ⟨v1, T1, L1, X1, hQ1, st1⟩ := own_callSt (y := (⟨"com/example/surrogate/surrogate/KeyRange", "ofDecimal", "(IIZ)Lcom/example/surrogate/surrogate/KeyRange;"⟩ : MethodName)) (argsL := [(.int pr), (.int sc), (.int sg)]) (rest := []) X0 hx hZ hown (hw _ (List.mem_of_getElem? (i := 0) rfl)) (hw _ (List.mem_of_getElem? (i := 1) rfl)) (hw _ (List.mem_of_getElem? (i := 2) rfl)) (hw _ (List.mem_of_getElem? (i := 3) rfl)) (by decide) (own_mt1 l Z a0 hw pr sc sg ev h0 n0 Z0 S_ev E_ev Fe_lowest Fe_highest) e0 (W := 0) (by decide) (by decide) (g := (mkF m 48 #[.val (.int x0), .val (.int x1), .val (.int x2), .val (.int sg), .val (.int pr), .val (.int sc), .unset, .unset, .unset, .unset, .unset, .unset, .unset, .unset, .unset, .unset] [(.int sg), (.int sc), (.int pr)])) rfl (by rw [hml]; rfl) (lenOf own_pd1 rfl) rfl (by show 2 * 0 + _ ≤ _; exact Nat.le_of_eq rfl) (hb hby at_48) (by decide) (by decide)
    obtain ⟨r1, rfl, Nq1, K1q, G1_0, G1_1, G1_2⟩ := hQ1
    have N1 := Fr.app N0 Nq1
    have Z1 : n0 ≤ T1.heap.size := Nat.le_trans Z0 K1q.1
    have S_ev_at2 := own_Sta.keep0 S_ev K1q
    have E_ev_at3 := E_ev.keep K1q
    have Fe_lowest_at4 := Fe_lowest.keep K1q nin0
    have Fe_highest_at5 := Fe_highest.keep K1q nin0
    refine own_via (T' := T1) (g' := (mkF m 51 #[.val (.int x0), .val (.int x1), .val (.int x2), .val (.int sg), .val (.int pr), .val (.int sc), .unset, .unset, .unset, .unset, .unset, .unset, .unset, .unset, .unset, .unset] [(.ref r1)])) st1 ?_
    refine own_via (T' := T1) (g' := (mkF m 55 #[.val (.int x0), .val (.int x1), .val (.int x2), .val (.int sg), .val (.int pr), .val (.int sc), .val (.ref r1), .unset, .unset, .unset, .unset, .unset, .unset, .unset, .unset, .unset] [(.ref r1)])) (fun t k => XS.astore X1.here hx rfl (hb hby at_51) rfl rfl (l' := #[.val (.int x0), .val (.int x1), .val (.int x2), .val (.int sg), .val (.int pr), .val (.int sc), .val (.ref r1), .unset, .unset, .unset, .unset, .unset, .unset, .unset, .unset, .unset]) rfl (XS.aload X1.here hx rfl (hb hby at_53) rfl rfl k)) ?_
    obtain ⟨v6, T6, L6, X6, hQ6, st6⟩ := own_callVi (y := (⟨"com/example/surrogate/surrogate/KeyRange", "lowest", "()J"⟩ : MethodName)) (z := (⟨"com/example/surrogate/surrogate/KeyRange", "lowest", "()J"⟩ : MethodName)) (a := r1) (C := "com/example/surrogate/surrogate/KeyRange") (argsL := []) (rest := []) X1 hx hZ hown (hw _ (List.mem_of_getElem? (i := 6) rfl)) (hw _ (List.mem_of_getElem? (i := 7) rfl)) (notFace_of_selects (args := #[]) (mvT hZ (hw _ (List.mem_of_getElem? (i := 9) rfl)))) (hw _ (List.mem_of_getElem? (i := 9) rfl)) (hw _ (List.mem_of_getElem? (i := 8) rfl)) (hw _ (List.mem_of_getElem? (i := 2) rfl)) (hw _ (List.mem_of_getElem? (i := 10) rfl)) (by decide) G1_0 (own_mt2 l Z a0 hw r1 (own_dec_r_lowest pr sc sg) T1.heap G1_1) rfl (W := 0) (by decide) (by decide) (g := (mkF m 55 #[.val (.int x0), .val (.int x1), .val (.int x2), .val (.int sg), .val (.int pr), .val (.int sc), .val (.ref r1), .unset, .unset, .unset, .unset, .unset, .unset, .unset, .unset, .unset] [(.ref r1)])) rfl (by rw [hml]; rfl) (lenOf own_pd2 rfl) rfl (by show 2 * 0 + _ ≤ _; exact Nat.le_of_eq rfl) (hb hby at_55) (by decide) (by decide)
    obtain ⟨rfl, e6, rfl⟩ := hQ6
    have N6 := Fr.app N1 (Fr.nil n0)
    refine own_via (T' := T6) (g' := (mkF m 58 #[.val (.int x0), .val (.int x1), .val (.int x2), .val (.int sg), .val (.int pr), .val (.int sc), .val (.ref r1), .unset, .unset, .unset, .unset, .unset, .unset, .unset, .unset, .unset] [(.long (own_low (own_dec_r_lowest pr sc sg)))])) st6 ?_
    refine own_via (T' := T6) (g' := (mkF m 62 #[.val (.int x0), .val (.int x1), .val (.int x2), .val (.int sg), .val (.int pr), .val (.int sc), .val (.ref r1), .val (.long (own_low (own_dec_r_lowest pr sc sg))), .second, .unset, .unset, .unset, .unset, .unset, .unset, .unset] [(.ref r1)])) (fun t k => XS.lstore X6.here hx rfl (hb hby at_58) rfl (l' := #[.val (.int x0), .val (.int x1), .val (.int x2), .val (.int sg), .val (.int pr), .val (.int sc), .val (.ref r1), .val (.long (own_low (own_dec_r_lowest pr sc sg))), .second, .unset, .unset, .unset, .unset, .unset, .unset, .unset]) rfl (XS.aload X6.here hx rfl (hb hby at_60) rfl rfl k)) ?_
    obtain ⟨v7, T7, L7, X7, hQ7, st7⟩ := own_callVi (y := (⟨"com/example/surrogate/surrogate/KeyRange", "highest", "()J"⟩ : MethodName)) (z := (⟨"com/example/surrogate/surrogate/KeyRange", "highest", "()J"⟩ : MethodName)) (a := r1) (C := "com/example/surrogate/surrogate/KeyRange") (argsL := []) (rest := []) X6 hx hZ hown (hw _ (List.mem_of_getElem? (i := 13) rfl)) (hw _ (List.mem_of_getElem? (i := 14) rfl)) (notFace_of_selects (args := #[]) (mvT hZ (hw _ (List.mem_of_getElem? (i := 16) rfl)))) (hw _ (List.mem_of_getElem? (i := 16) rfl)) (hw _ (List.mem_of_getElem? (i := 15) rfl)) (hw _ (List.mem_of_getElem? (i := 2) rfl)) (hw _ (List.mem_of_getElem? (i := 17) rfl)) (by decide) G1_0 (own_mt3 l Z a0 hw r1 (own_dec_r_highest pr sc sg) T1.heap G1_2) e6 (W := 0) (by decide) (by decide) (g := (mkF m 62 #[.val (.int x0), .val (.int x1), .val (.int x2), .val (.int sg), .val (.int pr), .val (.int sc), .val (.ref r1), .val (.long (own_low (own_dec_r_lowest pr sc sg))), .second, .unset, .unset, .unset, .unset, .unset, .unset, .unset] [(.ref r1)])) rfl (by rw [hml]; rfl) (lenOf own_pd2 rfl) rfl (by show 2 * 0 + _ ≤ _; exact Nat.le_of_eq rfl) (hb hby at_62) (by decide) (by decide)
    obtain ⟨rfl, e7, rfl⟩ := hQ7
    have N7 := Fr.app N6 (Fr.nil n0)
    refine own_via (T' := T7) (g' := (mkF m 65 #[.val (.int x0), .val (.int x1), .val (.int x2), .val (.int sg), .val (.int pr), .val (.int sc), .val (.ref r1), .val (.long (own_low (own_dec_r_lowest pr sc sg))), .second, .unset, .unset, .unset, .unset, .unset, .unset, .unset] [(.long (own_high (own_dec_r_highest pr sc sg)))])) st7 ?_
    refine own_via (T' := T7) (g' := (mkF m 69 #[.val (.int x0), .val (.int x1), .val (.int x2), .val (.int sg), .val (.int pr), .val (.int sc), .val (.ref r1), .val (.long (own_low (own_dec_r_lowest pr sc sg))), .second, .val (.long (own_high (own_dec_r_highest pr sc sg))), .second, .unset, .unset, .unset, .unset, .unset] [(.int (19 : Int32))])) (fun t k => XS.lstore X7.here hx rfl (hb hby at_65) rfl (l' := #[.val (.int x0), .val (.int x1), .val (.int x2), .val (.int sg), .val (.int pr), .val (.int sc), .val (.ref r1), .val (.long (own_low (own_dec_r_lowest pr sc sg))), .second, .val (.long (own_high (own_dec_r_highest pr sc sg))), .second, .unset, .unset, .unset, .unset, .unset]) rfl (XS.bipush X7.here hx rfl (hb hby at_67) k)) ?_
    obtain ⟨T8, h8, k8, X8, e8, E8, A8, EA8, st8⟩ := newPE (ad := "[J") X7 hx hZ (hw _ (List.mem_of_getElem? (i := 20) rfl)) e7 (g := (mkF m 69 #[.val (.int x0), .val (.int x1), .val (.int x2), .val (.int sg), .val (.int pr), .val (.int sc), .val (.ref r1), .val (.long (own_low (own_dec_r_lowest pr sc sg))), .second, .val (.long (own_high (own_dec_r_highest pr sc sg))), .second, .unset, .unset, .unset, .unset, .unset] [(.int (19 : Int32))])) rfl (hb hby at_69) rfl (by decide) (cap := 19) (by decide) (by decide) (by decide) (by decide) (by decide)
    obtain ⟨b8, g8⟩ : ∃ z, z = T1.heap.size := ⟨_, rfl⟩
    rw [← g8] at A8 EA8 st8
    have bd_b8 : T1.heap.size ≤ b8 := Nat.le_of_eq g8.symm
    have ne_ev_b8 : ev ≠ b8 := own_ne_of E_ev_at3.lt bd_b8
    have ne_r1_b8 : r1 ≠ b8 := own_ne_of G1_0.lt bd_b8
    have ge_b8 : n0 ≤ b8 := Nat.le_trans Z1 bd_b8
    have Z8 : n0 ≤ h8.size := Nat.le_trans Z1 E8.1
    have S_ev_at9 := S_ev_at2.ext E8
    have E_ev_at10 := E_ev_at3.ext E8
    have Fe_lowest_at11 := Fe_lowest_at4.ext E8
    have Fe_highest_at12 := Fe_highest_at5.ext E8
    have G1_0_at13 := G1_0.ext E8
    have G1_1_at14 := G1_1.ext E8
    have G1_2_at15 := G1_2.ext E8
    have V8 : own_Av Z h8 b8 .long [(.long (0 : Int64)), (.long (0 : Int64)), (.long (0 : Int64)), (.long (0 : Int64)), (.long (0 : Int64)), (.long (0 : Int64)), (.long (0 : Int64)), (.long (0 : Int64)), (.long (0 : Int64)), (.long (0 : Int64)), (.long (0 : Int64)), (.long (0 : Int64)), (.long (0 : Int64)), (.long (0 : Int64)), (.long (0 : Int64)), (.long (0 : Int64)), (.long (0 : Int64)), (.long (0 : Int64)), (.long (0 : Int64))] := own_Av.new A8
    refine own_via (T' := T8) (g' := (mkF m 71 #[.val (.int x0), .val (.int x1), .val (.int x2), .val (.int sg), .val (.int pr), .val (.int sc), .val (.ref r1), .val (.long (own_low (own_dec_r_lowest pr sc sg))), .second, .val (.long (own_high (own_dec_r_highest pr sc sg))), .second, .unset, .unset, .unset, .unset, .unset] [(.ref b8)])) st8 ?_
    refine own_via (T' := T8) (g' := (mkF m 74 #[.val (.int x0), .val (.int x1), .val (.int x2), .val (.int sg), .val (.int pr), .val (.int sc), .val (.ref r1), .val (.long (own_low (own_dec_r_lowest pr sc sg))), .second, .val (.long (own_high (own_dec_r_highest pr sc sg))), .second, .unset, .unset, .unset, .unset, .unset] [(.long (1 : Int64)), (.int (0 : Int32)), (.ref b8), (.ref b8)])) (fun t k => XS.dup X8.here hx rfl (hb hby at_71) rfl rfl (XS.iconst X8.here hx rfl (hb hby at_72) (XS.lconst X8.here hx rfl (hb hby at_73) k))) ?_
    obtain ⟨T16, h16, X16, e16, W16, V16, st16⟩ := own_stJ X8 hx hZ e8 V8 (j := (0 : Int32)) (x := (1 : Int64)) (by decide) (show _ < 19 from by decide) (g := (mkF m 74 #[.val (.int x0), .val (.int x1), .val (.int x2), .val (.int sg), .val (.int pr), .val (.int sc), .val (.ref r1), .val (.long (own_low (own_dec_r_lowest pr sc sg))), .second, .val (.long (own_high (own_dec_r_highest pr sc sg))), .second, .unset, .unset, .unset, .unset, .unset] [(.long (1 : Int64)), (.int (0 : Int32)), (.ref b8), (.ref b8)])) rfl rfl (hb hby at_74)
    have S_ev_at17 := S_ev_at9.wr W16
    have E_ev_at18 := E_ev_at10.wr W16
    have Fe_lowest_at19 := Fe_lowest_at11.other W16 (Or.inl ne_ev_b8)
    have Fe_highest_at20 := Fe_highest_at12.other W16 (Or.inl ne_ev_b8)
    have G1_0_at21 := G1_0_at13.wr W16
    have G1_1_at22 := G1_1_at14.other W16 (Or.inl ne_r1_b8)
    have G1_2_at23 := G1_2_at15.other W16 (Or.inl ne_r1_b8)
    have EA8_at24 := EA8.wr W16
    have N16 := Fr.snoc X16 N7 ge_b8
    have Z16 : n0 ≤ h16.size := Nat.le_trans Z8 (Nat.le_of_eq W16.size.symm)
    have Vb8_16 : own_Av Z h16 b8 .long [(.long (1 : Int64)), (.long (0 : Int64)), (.long (0 : Int64)), (.long (0 : Int64)), (.long (0 : Int64)), (.long (0 : Int64)), (.long (0 : Int64)), (.long (0 : Int64)), (.long (0 : Int64)), (.long (0 : Int64)), (.long (0 : Int64)), (.long (0 : Int64)), (.long (0 : Int64)), (.long (0 : Int64)), (.long (0 : Int64)), (.long (0 : Int64)), (.long (0 : Int64)), (.long (0 : Int64)), (.long (0 : Int64))] := V16
    refine own_via (T' := T16) (g' := (mkF m 75 #[.val (.int x0), .val (.int x1), .val (.int x2), .val (.int sg), .val (.int pr), .val (.int sc), .val (.ref r1), .val (.long (own_low (own_dec_r_lowest pr sc sg))), .second, .val (.long (own_high (own_dec_r_highest pr sc sg))), .second, .unset, .unset, .unset, .unset, .unset] [(.ref b8)])) st16 ?_
    refine own_via (T' := T16) (g' := (mkF m 77 #[.val (.int x0), .val (.int x1), .val (.int x2), .val (.int sg), .val (.int pr), .val (.int sc), .val (.ref r1), .val (.long (own_low (own_dec_r_lowest pr sc sg))), .second, .val (.long (own_high (own_dec_r_highest pr sc sg))), .second, .unset, .unset, .unset, .unset, .unset] [(.int (1 : Int32)), (.ref b8), (.ref b8)])) (fun t k => XS.dup X16.here hx rfl (hb hby at_75) rfl rfl (XS.iconst X16.here hx rfl (hb hby at_76) k)) ?_
    refine own_via (T' := T16) (g' := (mkF m 80 #[.val (.int x0), .val (.int x1), .val (.int x2), .val (.int sg), .val (.int pr), .val (.int sc), .val (.ref r1), .val (.long (own_low (own_dec_r_lowest pr sc sg))), .second, .val (.long (own_high (own_dec_r_highest pr sc sg))), .second, .unset, .unset, .unset, .unset, .unset] [(.long (10 : Int64)), (.int (1 : Int32)), (.ref b8), (.ref b8)])) (X16.ldc2Long hx hown (mvT hZ (hw _ (List.mem_of_getElem? (i := 21) rfl))) (g := (mkF m 77 #[.val (.int x0), .val (.int x1), .val (.int x2), .val (.int sg), .val (.int pr), .val (.int sc), .val (.ref r1), .val (.long (own_low (own_dec_r_lowest pr sc sg))), .second, .val (.long (own_high (own_dec_r_highest pr sc sg))), .second, .unset, .unset, .unset, .unset, .unset] [(.int (1 : Int32)), (.ref b8), (.ref b8)])) rfl (hb hby at_77)) ?_
    obtain ⟨T25, h25, X25, e25, W25, V25, st25⟩ := own_stJ X16 hx hZ e16 Vb8_16 (j := (1 : Int32)) (x := (10 : Int64)) (by decide) (show _ < 19 from by decide) (g := (mkF m 80 #[.val (.int x0), .val (.int x1), .val (.int x2), .val (.int sg), .val (.int pr), .val (.int sc), .val (.ref r1), .val (.long (own_low (own_dec_r_lowest pr sc sg))), .second, .val (.long (own_high (own_dec_r_highest pr sc sg))), .second, .unset, .unset, .unset, .unset, .unset] [(.long (10 : Int64)), (.int (1 : Int32)), (.ref b8), (.ref b8)])) rfl rfl (hb hby at_80)
    have S_ev_at26 := S_ev_at17.wr W25
    have E_ev_at27 := E_ev_at18.wr W25
    have Fe_lowest_at28 := Fe_lowest_at19.other W25 (Or.inl ne_ev_b8)
    have Fe_highest_at29 := Fe_highest_at20.other W25 (Or.inl ne_ev_b8)
    have G1_0_at30 := G1_0_at21.wr W25
    have G1_1_at31 := G1_1_at22.other W25 (Or.inl ne_r1_b8)
    have G1_2_at32 := G1_2_at23.other W25 (Or.inl ne_r1_b8)
    have EA8_at33 := EA8_at24.wr W25
    have N25 := Fr.snoc X25 N16 ge_b8
    have Z25 : n0 ≤ h25.size := Nat.le_trans Z16 (Nat.le_of_eq W25.size.symm)
    have Vb8_25 : own_Av Z h25 b8 .long [(.long (1 : Int64)), (.long (10 : Int64)), (.long (0 : Int64)), (.long (0 : Int64)), (.long (0 : Int64)), (.long (0 : Int64)), (.long (0 : Int64)), (.long (0 : Int64)), (.long (0 : Int64)), (.long (0 : Int64)), (.long (0 : Int64)), (.long (0 : Int64)), (.long (0 : Int64)), (.long (0 : Int64)), (.long (0 : Int64)), (.long (0 : Int64)), (.long (0 : Int64)), (.long (0 : Int64)), (.long (0 : Int64))] := V25
    refine own_via (T' := T25) (g' := (mkF m 81 #[.val (.int x0), .val (.int x1), .val (.int x2), .val (.int sg), .val (.int pr), .val (.int sc), .val (.ref r1), .val (.long (own_low (own_dec_r_lowest pr sc sg))), .second, .val (.long (own_high (own_dec_r_highest pr sc sg))), .second, .unset, .unset, .unset, .unset, .unset] [(.ref b8)])) st25 ?_
    refine own_via (T' := T25) (g' := (mkF m 83 #[.val (.int x0), .val (.int x1), .val (.int x2), .val (.int sg), .val (.int pr), .val (.int sc), .val (.ref r1), .val (.long (own_low (own_dec_r_lowest pr sc sg))), .second, .val (.long (own_high (own_dec_r_highest pr sc sg))), .second, .unset, .unset, .unset, .unset, .unset] [(.int (2 : Int32)), (.ref b8), (.ref b8)])) (fun t k => XS.dup X25.here hx rfl (hb hby at_81) rfl rfl (XS.iconst X25.here hx rfl (hb hby at_82) k)) ?_
    refine own_via (T' := T25) (g' := (mkF m 86 #[.val (.int x0), .val (.int x1), .val (.int x2), .val (.int sg), .val (.int pr), .val (.int sc), .val (.ref r1), .val (.long (own_low (own_dec_r_lowest pr sc sg))), .second, .val (.long (own_high (own_dec_r_highest pr sc sg))), .second, .unset, .unset, .unset, .unset, .unset] [(.long (100 : Int64)), (.int (2 : Int32)), (.ref b8), (.ref b8)])) (X25.ldc2Long hx hown (mvT hZ (hw _ (List.mem_of_getElem? (i := 22) rfl))) (g := (mkF m 83 #[.val (.int x0), .val (.int x1), .val (.int x2), .val (.int sg), .val (.int pr), .val (.int sc), .val (.ref r1), .val (.long (own_low (own_dec_r_lowest pr sc sg))), .second, .val (.long (own_high (own_dec_r_highest pr sc sg))), .second, .unset, .unset, .unset, .unset, .unset] [(.int (2 : Int32)), (.ref b8), (.ref b8)])) rfl (hb hby at_83)) ?_
    obtain ⟨T34, h34, X34, e34, W34, V34, st34⟩ := own_stJ X25 hx hZ e25 Vb8_25 (j := (2 : Int32)) (x := (100 : Int64)) (by decide) (show _ < 19 from by decide) (g := (mkF m 86 #[.val (.int x0), .val (.int x1), .val (.int x2), .val (.int sg), .val (.int pr), .val (.int sc), .val (.ref r1), .val (.long (own_low (own_dec_r_lowest pr sc sg))), .second, .val (.long (own_high (own_dec_r_highest pr sc sg))), .second, .unset, .unset, .unset, .unset, .unset] [(.long (100 : Int64)), (.int (2 : Int32)), (.ref b8), (.ref b8)])) rfl rfl (hb hby at_86)
    have S_ev_at35 := S_ev_at26.wr W34
    have E_ev_at36 := E_ev_at27.wr W34
    have Fe_lowest_at37 := Fe_lowest_at28.other W34 (Or.inl ne_ev_b8)
    have Fe_highest_at38 := Fe_highest_at29.other W34 (Or.inl ne_ev_b8)
    have G1_0_at39 := G1_0_at30.wr W34
    have G1_1_at40 := G1_1_at31.other W34 (Or.inl ne_r1_b8)
    have G1_2_at41 := G1_2_at32.other W34 (Or.inl ne_r1_b8)
    have EA8_at42 := EA8_at33.wr W34
    have N34 := Fr.snoc X34 N25 ge_b8
    have Z34 : n0 ≤ h34.size := Nat.le_trans Z25 (Nat.le_of_eq W34.size.symm)
    have Vb8_34 : own_Av Z h34 b8 .long [(.long (1 : Int64)), (.long (10 : Int64)), (.long (100 : Int64)), (.long (0 : Int64)), (.long (0 : Int64)), (.long (0 : Int64)), (.long (0 : Int64)), (.long (0 : Int64)), (.long (0 : Int64)), (.long (0 : Int64)), (.long (0 : Int64)), (.long (0 : Int64)), (.long (0 : Int64)), (.long (0 : Int64)), (.long (0 : Int64)), (.long (0 : Int64)), (.long (0 : Int64)), (.long (0 : Int64)), (.long (0 : Int64))] := V34
    refine own_via (T' := T34) (g' := (mkF m 87 #[.val (.int x0), .val (.int x1), .val (.int x2), .val (.int sg), .val (.int pr), .val (.int sc), .val (.ref r1), .val (.long (own_low (own_dec_r_lowest pr sc sg))), .second, .val (.long (own_high (own_dec_r_highest pr sc sg))), .second, .unset, .unset, .unset, .unset, .unset] [(.ref b8)])) st34 ?_
    refine own_via (T' := T34) (g' := (mkF m 89 #[.val (.int x0), .val (.int x1), .val (.int x2), .val (.int sg), .val (.int pr), .val (.int sc), .val (.ref r1), .val (.long (own_low (own_dec_r_lowest pr sc sg))), .second, .val (.long (own_high (own_dec_r_highest pr sc sg))), .second, .unset, .unset, .unset, .unset, .unset] [(.int (3 : Int32)), (.ref b8), (.ref b8)])) (fun t k => XS.dup X34.here hx rfl (hb hby at_87) rfl rfl (XS.iconst X34.here hx rfl (hb hby at_88) k)) ?_
    refine own_via (T' := T34) (g' := (mkF m 92 #[.val (.int x0), .val (.int x1), .val (.int x2), .val (.int sg), .val (.int pr), .val (.int sc), .val (.ref r1), .val (.long (own_low (own_dec_r_lowest pr sc sg))), .second, .val (.long (own_high (own_dec_r_highest pr sc sg))), .second, .unset, .unset, .unset, .unset, .unset] [(.long (1000 : Int64)), (.int (3 : Int32)), (.ref b8), (.ref b8)])) (X34.ldc2Long hx hown (mvT hZ (hw _ (List.mem_of_getElem? (i := 23) rfl))) (g := (mkF m 89 #[.val (.int x0), .val (.int x1), .val (.int x2), .val (.int sg), .val (.int pr), .val (.int sc), .val (.ref r1), .val (.long (own_low (own_dec_r_lowest pr sc sg))), .second, .val (.long (own_high (own_dec_r_highest pr sc sg))), .second, .unset, .unset, .unset, .unset, .unset] [(.int (3 : Int32)), (.ref b8), (.ref b8)])) rfl (hb hby at_89)) ?_
    obtain ⟨T43, h43, X43, e43, W43, V43, st43⟩ := own_stJ X34 hx hZ e34 Vb8_34 (j := (3 : Int32)) (x := (1000 : Int64)) (by decide) (show _ < 19 from by decide) (g := (mkF m 92 #[.val (.int x0), .val (.int x1), .val (.int x2), .val (.int sg), .val (.int pr), .val (.int sc), .val (.ref r1), .val (.long (own_low (own_dec_r_lowest pr sc sg))), .second, .val (.long (own_high (own_dec_r_highest pr sc sg))), .second, .unset, .unset, .unset, .unset, .unset] [(.long (1000 : Int64)), (.int (3 : Int32)), (.ref b8), (.ref b8)])) rfl rfl (hb hby at_92)
    have S_ev_at44 := S_ev_at35.wr W43
    have E_ev_at45 := E_ev_at36.wr W43
    have Fe_lowest_at46 := Fe_lowest_at37.other W43 (Or.inl ne_ev_b8)
    have Fe_highest_at47 := Fe_highest_at38.other W43 (Or.inl ne_ev_b8)
    have G1_0_at48 := G1_0_at39.wr W43
    have G1_1_at49 := G1_1_at40.other W43 (Or.inl ne_r1_b8)
    have G1_2_at50 := G1_2_at41.other W43 (Or.inl ne_r1_b8)
    have EA8_at51 := EA8_at42.wr W43
    have N43 := Fr.snoc X43 N34 ge_b8
    have Z43 : n0 ≤ h43.size := Nat.le_trans Z34 (Nat.le_of_eq W43.size.symm)
    have Vb8_43 : own_Av Z h43 b8 .long [(.long (1 : Int64)), (.long (10 : Int64)), (.long (100 : Int64)), (.long (1000 : Int64)), (.long (0 : Int64)), (.long (0 : Int64)), (.long (0 : Int64)), (.long (0 : Int64)), (.long (0 : Int64)), (.long (0 : Int64)), (.long (0 : Int64)), (.long (0 : Int64)), (.long (0 : Int64)), (.long (0 : Int64)), (.long (0 : Int64)), (.long (0 : Int64)), (.long (0 : Int64)), (.long (0 : Int64)), (.long (0 : Int64))] := V43
    refine own_via (T' := T43) (g' := (mkF m 93 #[.val (.int x0), .val (.int x1), .val (.int x2), .val (.int sg), .val (.int pr), .val (.int sc), .val (.ref r1), .val (.long (own_low (own_dec_r_lowest pr sc sg))), .second, .val (.long (own_high (own_dec_r_highest pr sc sg))), .second, .unset, .unset, .unset, .unset, .unset] [(.ref b8)])) st43 ?_
    refine own_via (T' := T43) (g' := (mkF m 95 #[.val (.int x0), .val (.int x1), .val (.int x2), .val (.int sg), .val (.int pr), .val (.int sc), .val (.ref r1), .val (.long (own_low (own_dec_r_lowest pr sc sg))), .second, .val (.long (own_high (own_dec_r_highest pr sc sg))), .second, .unset, .unset, .unset, .unset, .unset] [(.int (4 : Int32)), (.ref b8), (.ref b8)])) (fun t k => XS.dup X43.here hx rfl (hb hby at_93) rfl rfl (XS.iconst X43.here hx rfl (hb hby at_94) k)) ?_
    refine own_via (T' := T43) (g' := (mkF m 98 #[.val (.int x0), .val (.int x1), .val (.int x2), .val (.int sg), .val (.int pr), .val (.int sc), .val (.ref r1), .val (.long (own_low (own_dec_r_lowest pr sc sg))), .second, .val (.long (own_high (own_dec_r_highest pr sc sg))), .second, .unset, .unset, .unset, .unset, .unset] [(.long (10000 : Int64)), (.int (4 : Int32)), (.ref b8), (.ref b8)])) (X43.ldc2Long hx hown (mvT hZ (hw _ (List.mem_of_getElem? (i := 24) rfl))) (g := (mkF m 95 #[.val (.int x0), .val (.int x1), .val (.int x2), .val (.int sg), .val (.int pr), .val (.int sc), .val (.ref r1), .val (.long (own_low (own_dec_r_lowest pr sc sg))), .second, .val (.long (own_high (own_dec_r_highest pr sc sg))), .second, .unset, .unset, .unset, .unset, .unset] [(.int (4 : Int32)), (.ref b8), (.ref b8)])) rfl (hb hby at_95)) ?_
    obtain ⟨T52, h52, X52, e52, W52, V52, st52⟩ := own_stJ X43 hx hZ e43 Vb8_43 (j := (4 : Int32)) (x := (10000 : Int64)) (by decide) (show _ < 19 from by decide) (g := (mkF m 98 #[.val (.int x0), .val (.int x1), .val (.int x2), .val (.int sg), .val (.int pr), .val (.int sc), .val (.ref r1), .val (.long (own_low (own_dec_r_lowest pr sc sg))), .second, .val (.long (own_high (own_dec_r_highest pr sc sg))), .second, .unset, .unset, .unset, .unset, .unset] [(.long (10000 : Int64)), (.int (4 : Int32)), (.ref b8), (.ref b8)])) rfl rfl (hb hby at_98)
    have S_ev_at53 := S_ev_at44.wr W52
    have E_ev_at54 := E_ev_at45.wr W52
    have Fe_lowest_at55 := Fe_lowest_at46.other W52 (Or.inl ne_ev_b8)
    have Fe_highest_at56 := Fe_highest_at47.other W52 (Or.inl ne_ev_b8)
    have G1_0_at57 := G1_0_at48.wr W52
    have G1_1_at58 := G1_1_at49.other W52 (Or.inl ne_r1_b8)
    have G1_2_at59 := G1_2_at50.other W52 (Or.inl ne_r1_b8)
    have EA8_at60 := EA8_at51.wr W52
    have N52 := Fr.snoc X52 N43 ge_b8
    have Z52 : n0 ≤ h52.size := Nat.le_trans Z43 (Nat.le_of_eq W52.size.symm)
    have Vb8_52 : own_Av Z h52 b8 .long [(.long (1 : Int64)), (.long (10 : Int64)), (.long (100 : Int64)), (.long (1000 : Int64)), (.long (10000 : Int64)), (.long (0 : Int64)), (.long (0 : Int64)), (.long (0 : Int64)), (.long (0 : Int64)), (.long (0 : Int64)), (.long (0 : Int64)), (.long (0 : Int64)), (.long (0 : Int64)), (.long (0 : Int64)), (.long (0 : Int64)), (.long (0 : Int64)), (.long (0 : Int64)), (.long (0 : Int64)), (.long (0 : Int64))] := V52
    refine own_via (T' := T52) (g' := (mkF m 99 #[.val (.int x0), .val (.int x1), .val (.int x2), .val (.int sg), .val (.int pr), .val (.int sc), .val (.ref r1), .val (.long (own_low (own_dec_r_lowest pr sc sg))), .second, .val (.long (own_high (own_dec_r_highest pr sc sg))), .second, .unset, .unset, .unset, .unset, .unset] [(.ref b8)])) st52 ?_
    refine own_via (T' := T52) (g' := (mkF m 101 #[.val (.int x0), .val (.int x1), .val (.int x2), .val (.int sg), .val (.int pr), .val (.int sc), .val (.ref r1), .val (.long (own_low (own_dec_r_lowest pr sc sg))), .second, .val (.long (own_high (own_dec_r_highest pr sc sg))), .second, .unset, .unset, .unset, .unset, .unset] [(.int (5 : Int32)), (.ref b8), (.ref b8)])) (fun t k => XS.dup X52.here hx rfl (hb hby at_99) rfl rfl (XS.iconst X52.here hx rfl (hb hby at_100) k)) ?_
    refine own_via (T' := T52) (g' := (mkF m 104 #[.val (.int x0), .val (.int x1), .val (.int x2), .val (.int sg), .val (.int pr), .val (.int sc), .val (.ref r1), .val (.long (own_low (own_dec_r_lowest pr sc sg))), .second, .val (.long (own_high (own_dec_r_highest pr sc sg))), .second, .unset, .unset, .unset, .unset, .unset] [(.long (100000 : Int64)), (.int (5 : Int32)), (.ref b8), (.ref b8)])) (X52.ldc2Long hx hown (mvT hZ (hw _ (List.mem_of_getElem? (i := 25) rfl))) (g := (mkF m 101 #[.val (.int x0), .val (.int x1), .val (.int x2), .val (.int sg), .val (.int pr), .val (.int sc), .val (.ref r1), .val (.long (own_low (own_dec_r_lowest pr sc sg))), .second, .val (.long (own_high (own_dec_r_highest pr sc sg))), .second, .unset, .unset, .unset, .unset, .unset] [(.int (5 : Int32)), (.ref b8), (.ref b8)])) rfl (hb hby at_101)) ?_
    obtain ⟨T61, h61, X61, e61, W61, V61, st61⟩ := own_stJ X52 hx hZ e52 Vb8_52 (j := (5 : Int32)) (x := (100000 : Int64)) (by decide) (show _ < 19 from by decide) (g := (mkF m 104 #[.val (.int x0), .val (.int x1), .val (.int x2), .val (.int sg), .val (.int pr), .val (.int sc), .val (.ref r1), .val (.long (own_low (own_dec_r_lowest pr sc sg))), .second, .val (.long (own_high (own_dec_r_highest pr sc sg))), .second, .unset, .unset, .unset, .unset, .unset] [(.long (100000 : Int64)), (.int (5 : Int32)), (.ref b8), (.ref b8)])) rfl rfl (hb hby at_104)
    have S_ev_at62 := S_ev_at53.wr W61
    have E_ev_at63 := E_ev_at54.wr W61
    have Fe_lowest_at64 := Fe_lowest_at55.other W61 (Or.inl ne_ev_b8)
    have Fe_highest_at65 := Fe_highest_at56.other W61 (Or.inl ne_ev_b8)
    have G1_0_at66 := G1_0_at57.wr W61
    have G1_1_at67 := G1_1_at58.other W61 (Or.inl ne_r1_b8)
    have G1_2_at68 := G1_2_at59.other W61 (Or.inl ne_r1_b8)
    have EA8_at69 := EA8_at60.wr W61
    have N61 := Fr.snoc X61 N52 ge_b8
    have Z61 : n0 ≤ h61.size := Nat.le_trans Z52 (Nat.le_of_eq W61.size.symm)
    have Vb8_61 : own_Av Z h61 b8 .long [(.long (1 : Int64)), (.long (10 : Int64)), (.long (100 : Int64)), (.long (1000 : Int64)), (.long (10000 : Int64)), (.long (100000 : Int64)), (.long (0 : Int64)), (.long (0 : Int64)), (.long (0 : Int64)), (.long (0 : Int64)), (.long (0 : Int64)), (.long (0 : Int64)), (.long (0 : Int64)), (.long (0 : Int64)), (.long (0 : Int64)), (.long (0 : Int64)), (.long (0 : Int64)), (.long (0 : Int64)), (.long (0 : Int64))] := V61
    refine own_via (T' := T61) (g' := (mkF m 105 #[.val (.int x0), .val (.int x1), .val (.int x2), .val (.int sg), .val (.int pr), .val (.int sc), .val (.ref r1), .val (.long (own_low (own_dec_r_lowest pr sc sg))), .second, .val (.long (own_high (own_dec_r_highest pr sc sg))), .second, .unset, .unset, .unset, .unset, .unset] [(.ref b8)])) st61 ?_
    refine own_via (T' := T61) (g' := (mkF m 108 #[.val (.int x0), .val (.int x1), .val (.int x2), .val (.int sg), .val (.int pr), .val (.int sc), .val (.ref r1), .val (.long (own_low (own_dec_r_lowest pr sc sg))), .second, .val (.long (own_high (own_dec_r_highest pr sc sg))), .second, .unset, .unset, .unset, .unset, .unset] [(.int (6 : Int32)), (.ref b8), (.ref b8)])) (fun t k => XS.dup X61.here hx rfl (hb hby at_105) rfl rfl (XS.bipush X61.here hx rfl (hb hby at_106) k)) ?_
    refine own_via (T' := T61) (g' := (mkF m 111 #[.val (.int x0), .val (.int x1), .val (.int x2), .val (.int sg), .val (.int pr), .val (.int sc), .val (.ref r1), .val (.long (own_low (own_dec_r_lowest pr sc sg))), .second, .val (.long (own_high (own_dec_r_highest pr sc sg))), .second, .unset, .unset, .unset, .unset, .unset] [(.long (1000000 : Int64)), (.int (6 : Int32)), (.ref b8), (.ref b8)])) (X61.ldc2Long hx hown (mvT hZ (hw _ (List.mem_of_getElem? (i := 26) rfl))) (g := (mkF m 108 #[.val (.int x0), .val (.int x1), .val (.int x2), .val (.int sg), .val (.int pr), .val (.int sc), .val (.ref r1), .val (.long (own_low (own_dec_r_lowest pr sc sg))), .second, .val (.long (own_high (own_dec_r_highest pr sc sg))), .second, .unset, .unset, .unset, .unset, .unset] [(.int (6 : Int32)), (.ref b8), (.ref b8)])) rfl (hb hby at_108)) ?_
    obtain ⟨T70, h70, X70, e70, W70, V70, st70⟩ := own_stJ X61 hx hZ e61 Vb8_61 (j := (6 : Int32)) (x := (1000000 : Int64)) (by decide) (show _ < 19 from by decide) (g := (mkF m 111 #[.val (.int x0), .val (.int x1), .val (.int x2), .val (.int sg), .val (.int pr), .val (.int sc), .val (.ref r1), .val (.long (own_low (own_dec_r_lowest pr sc sg))), .second, .val (.long (own_high (own_dec_r_highest pr sc sg))), .second, .unset, .unset, .unset, .unset, .unset] [(.long (1000000 : Int64)), (.int (6 : Int32)), (.ref b8), (.ref b8)])) rfl rfl (hb hby at_111)
    have S_ev_at71 := S_ev_at62.wr W70
    have E_ev_at72 := E_ev_at63.wr W70
    have Fe_lowest_at73 := Fe_lowest_at64.other W70 (Or.inl ne_ev_b8)
    have Fe_highest_at74 := Fe_highest_at65.other W70 (Or.inl ne_ev_b8)
    have G1_0_at75 := G1_0_at66.wr W70
    have G1_1_at76 := G1_1_at67.other W70 (Or.inl ne_r1_b8)
    have G1_2_at77 := G1_2_at68.other W70 (Or.inl ne_r1_b8)
    have EA8_at78 := EA8_at69.wr W70
    have N70 := Fr.snoc X70 N61 ge_b8
    have Z70 : n0 ≤ h70.size := Nat.le_trans Z61 (Nat.le_of_eq W70.size.symm)
    have Vb8_70 : own_Av Z h70 b8 .long [(.long (1 : Int64)), (.long (10 : Int64)), (.long (100 : Int64)), (.long (1000 : Int64)), (.long (10000 : Int64)), (.long (100000 : Int64)), (.long (1000000 : Int64)), (.long (0 : Int64)), (.long (0 : Int64)), (.long (0 : Int64)), (.long (0 : Int64)), (.long (0 : Int64)), (.long (0 : Int64)), (.long (0 : Int64)), (.long (0 : Int64)), (.long (0 : Int64)), (.long (0 : Int64)), (.long (0 : Int64)), (.long (0 : Int64))] := V70
    refine own_via (T' := T70) (g' := (mkF m 112 #[.val (.int x0), .val (.int x1), .val (.int x2), .val (.int sg), .val (.int pr), .val (.int sc), .val (.ref r1), .val (.long (own_low (own_dec_r_lowest pr sc sg))), .second, .val (.long (own_high (own_dec_r_highest pr sc sg))), .second, .unset, .unset, .unset, .unset, .unset] [(.ref b8)])) st70 ?_
    refine own_via (T' := T70) (g' := (mkF m 115 #[.val (.int x0), .val (.int x1), .val (.int x2), .val (.int sg), .val (.int pr), .val (.int sc), .val (.ref r1), .val (.long (own_low (own_dec_r_lowest pr sc sg))), .second, .val (.long (own_high (own_dec_r_highest pr sc sg))), .second, .unset, .unset, .unset, .unset, .unset] [(.int (7 : Int32)), (.ref b8), (.ref b8)])) (fun t k => XS.dup X70.here hx rfl (hb hby at_112) rfl rfl (XS.bipush X70.here hx rfl (hb hby at_113) k)) ?_
    refine own_via (T' := T70) (g' := (mkF m 118 #[.val (.int x0), .val (.int x1), .val (.int x2), .val (.int sg), .val (.int pr), .val (.int sc), .val (.ref r1), .val (.long (own_low (own_dec_r_lowest pr sc sg))), .second, .val (.long (own_high (own_dec_r_highest pr sc sg))), .second, .unset, .unset, .unset, .unset, .unset] [(.long (10000000 : Int64)), (.int (7 : Int32)), (.ref b8), (.ref b8)])) (X70.ldc2Long hx hown (mvT hZ (hw _ (List.mem_of_getElem? (i := 27) rfl))) (g := (mkF m 115 #[.val (.int x0), .val (.int x1), .val (.int x2), .val (.int sg), .val (.int pr), .val (.int sc), .val (.ref r1), .val (.long (own_low (own_dec_r_lowest pr sc sg))), .second, .val (.long (own_high (own_dec_r_highest pr sc sg))), .second, .unset, .unset, .unset, .unset, .unset] [(.int (7 : Int32)), (.ref b8), (.ref b8)])) rfl (hb hby at_115)) ?_
    obtain ⟨T79, h79, X79, e79, W79, V79, st79⟩ := own_stJ X70 hx hZ e70 Vb8_70 (j := (7 : Int32)) (x := (10000000 : Int64)) (by decide) (show _ < 19 from by decide) (g := (mkF m 118 #[.val (.int x0), .val (.int x1), .val (.int x2), .val (.int sg), .val (.int pr), .val (.int sc), .val (.ref r1), .val (.long (own_low (own_dec_r_lowest pr sc sg))), .second, .val (.long (own_high (own_dec_r_highest pr sc sg))), .second, .unset, .unset, .unset, .unset, .unset] [(.long (10000000 : Int64)), (.int (7 : Int32)), (.ref b8), (.ref b8)])) rfl rfl (hb hby at_118)
    have S_ev_at80 := S_ev_at71.wr W79
    have E_ev_at81 := E_ev_at72.wr W79
    have Fe_lowest_at82 := Fe_lowest_at73.other W79 (Or.inl ne_ev_b8)
    have Fe_highest_at83 := Fe_highest_at74.other W79 (Or.inl ne_ev_b8)
    have G1_0_at84 := G1_0_at75.wr W79
    have G1_1_at85 := G1_1_at76.other W79 (Or.inl ne_r1_b8)
    have G1_2_at86 := G1_2_at77.other W79 (Or.inl ne_r1_b8)
    have EA8_at87 := EA8_at78.wr W79
    have N79 := Fr.snoc X79 N70 ge_b8
    have Z79 : n0 ≤ h79.size := Nat.le_trans Z70 (Nat.le_of_eq W79.size.symm)
    have Vb8_79 : own_Av Z h79 b8 .long [(.long (1 : Int64)), (.long (10 : Int64)), (.long (100 : Int64)), (.long (1000 : Int64)), (.long (10000 : Int64)), (.long (100000 : Int64)), (.long (1000000 : Int64)), (.long (10000000 : Int64)), (.long (0 : Int64)), (.long (0 : Int64)), (.long (0 : Int64)), (.long (0 : Int64)), (.long (0 : Int64)), (.long (0 : Int64)), (.long (0 : Int64)), (.long (0 : Int64)), (.long (0 : Int64)), (.long (0 : Int64)), (.long (0 : Int64))] := V79
    refine own_via (T' := T79) (g' := (mkF m 119 #[.val (.int x0), .val (.int x1), .val (.int x2), .val (.int sg), .val (.int pr), .val (.int sc), .val (.ref r1), .val (.long (own_low (own_dec_r_lowest pr sc sg))), .second, .val (.long (own_high (own_dec_r_highest pr sc sg))), .second, .unset, .unset, .unset, .unset, .unset] [(.ref b8)])) st79 ?_
    refine own_via (T' := T79) (g' := (mkF m 122 #[.val (.int x0), .val (.int x1), .val (.int x2), .val (.int sg), .val (.int pr), .val (.int sc), .val (.ref r1), .val (.long (own_low (own_dec_r_lowest pr sc sg))), .second, .val (.long (own_high (own_dec_r_highest pr sc sg))), .second, .unset, .unset, .unset, .unset, .unset] [(.int (8 : Int32)), (.ref b8), (.ref b8)])) (fun t k => XS.dup X79.here hx rfl (hb hby at_119) rfl rfl (XS.bipush X79.here hx rfl (hb hby at_120) k)) ?_
    refine own_via (T' := T79) (g' := (mkF m 125 #[.val (.int x0), .val (.int x1), .val (.int x2), .val (.int sg), .val (.int pr), .val (.int sc), .val (.ref r1), .val (.long (own_low (own_dec_r_lowest pr sc sg))), .second, .val (.long (own_high (own_dec_r_highest pr sc sg))), .second, .unset, .unset, .unset, .unset, .unset] [(.long (100000000 : Int64)), (.int (8 : Int32)), (.ref b8), (.ref b8)])) (X79.ldc2Long hx hown (mvT hZ (hw _ (List.mem_of_getElem? (i := 28) rfl))) (g := (mkF m 122 #[.val (.int x0), .val (.int x1), .val (.int x2), .val (.int sg), .val (.int pr), .val (.int sc), .val (.ref r1), .val (.long (own_low (own_dec_r_lowest pr sc sg))), .second, .val (.long (own_high (own_dec_r_highest pr sc sg))), .second, .unset, .unset, .unset, .unset, .unset] [(.int (8 : Int32)), (.ref b8), (.ref b8)])) rfl (hb hby at_122)) ?_
    obtain ⟨T88, h88, X88, e88, W88, V88, st88⟩ := own_stJ X79 hx hZ e79 Vb8_79 (j := (8 : Int32)) (x := (100000000 : Int64)) (by decide) (show _ < 19 from by decide) (g := (mkF m 125 #[.val (.int x0), .val (.int x1), .val (.int x2), .val (.int sg), .val (.int pr), .val (.int sc), .val (.ref r1), .val (.long (own_low (own_dec_r_lowest pr sc sg))), .second, .val (.long (own_high (own_dec_r_highest pr sc sg))), .second, .unset, .unset, .unset, .unset, .unset] [(.long (100000000 : Int64)), (.int (8 : Int32)), (.ref b8), (.ref b8)])) rfl rfl (hb hby at_125)
    have S_ev_at89 := S_ev_at80.wr W88
    have E_ev_at90 := E_ev_at81.wr W88
    have Fe_lowest_at91 := Fe_lowest_at82.other W88 (Or.inl ne_ev_b8)
    have Fe_highest_at92 := Fe_highest_at83.other W88 (Or.inl ne_ev_b8)
    have G1_0_at93 := G1_0_at84.wr W88
    have G1_1_at94 := G1_1_at85.other W88 (Or.inl ne_r1_b8)
    have G1_2_at95 := G1_2_at86.other W88 (Or.inl ne_r1_b8)
    have EA8_at96 := EA8_at87.wr W88
    have N88 := Fr.snoc X88 N79 ge_b8
    have Z88 : n0 ≤ h88.size := Nat.le_trans Z79 (Nat.le_of_eq W88.size.symm)
    have Vb8_88 : own_Av Z h88 b8 .long [(.long (1 : Int64)), (.long (10 : Int64)), (.long (100 : Int64)), (.long (1000 : Int64)), (.long (10000 : Int64)), (.long (100000 : Int64)), (.long (1000000 : Int64)), (.long (10000000 : Int64)), (.long (100000000 : Int64)), (.long (0 : Int64)), (.long (0 : Int64)), (.long (0 : Int64)), (.long (0 : Int64)), (.long (0 : Int64)), (.long (0 : Int64)), (.long (0 : Int64)), (.long (0 : Int64)), (.long (0 : Int64)), (.long (0 : Int64))] := V88
    refine own_via (T' := T88) (g' := (mkF m 126 #[.val (.int x0), .val (.int x1), .val (.int x2), .val (.int sg), .val (.int pr), .val (.int sc), .val (.ref r1), .val (.long (own_low (own_dec_r_lowest pr sc sg))), .second, .val (.long (own_high (own_dec_r_highest pr sc sg))), .second, .unset, .unset, .unset, .unset, .unset] [(.ref b8)])) st88 ?_
    refine own_via (T' := T88) (g' := (mkF m 129 #[.val (.int x0), .val (.int x1), .val (.int x2), .val (.int sg), .val (.int pr), .val (.int sc), .val (.ref r1), .val (.long (own_low (own_dec_r_lowest pr sc sg))), .second, .val (.long (own_high (own_dec_r_highest pr sc sg))), .second, .unset, .unset, .unset, .unset, .unset] [(.int (9 : Int32)), (.ref b8), (.ref b8)])) (fun t k => XS.dup X88.here hx rfl (hb hby at_126) rfl rfl (XS.bipush X88.here hx rfl (hb hby at_127) k)) ?_
    refine own_via (T' := T88) (g' := (mkF m 132 #[.val (.int x0), .val (.int x1), .val (.int x2), .val (.int sg), .val (.int pr), .val (.int sc), .val (.ref r1), .val (.long (own_low (own_dec_r_lowest pr sc sg))), .second, .val (.long (own_high (own_dec_r_highest pr sc sg))), .second, .unset, .unset, .unset, .unset, .unset] [(.long (1000000000 : Int64)), (.int (9 : Int32)), (.ref b8), (.ref b8)])) (X88.ldc2Long hx hown (mvT hZ (hw _ (List.mem_of_getElem? (i := 29) rfl))) (g := (mkF m 129 #[.val (.int x0), .val (.int x1), .val (.int x2), .val (.int sg), .val (.int pr), .val (.int sc), .val (.ref r1), .val (.long (own_low (own_dec_r_lowest pr sc sg))), .second, .val (.long (own_high (own_dec_r_highest pr sc sg))), .second, .unset, .unset, .unset, .unset, .unset] [(.int (9 : Int32)), (.ref b8), (.ref b8)])) rfl (hb hby at_129)) ?_
    obtain ⟨T97, h97, X97, e97, W97, V97, st97⟩ := own_stJ X88 hx hZ e88 Vb8_88 (j := (9 : Int32)) (x := (1000000000 : Int64)) (by decide) (show _ < 19 from by decide) (g := (mkF m 132 #[.val (.int x0), .val (.int x1), .val (.int x2), .val (.int sg), .val (.int pr), .val (.int sc), .val (.ref r1), .val (.long (own_low (own_dec_r_lowest pr sc sg))), .second, .val (.long (own_high (own_dec_r_highest pr sc sg))), .second, .unset, .unset, .unset, .unset, .unset] [(.long (1000000000 : Int64)), (.int (9 : Int32)), (.ref b8), (.ref b8)])) rfl rfl (hb hby at_132)
    have S_ev_at98 := S_ev_at89.wr W97
    have E_ev_at99 := E_ev_at90.wr W97
    have Fe_lowest_at100 := Fe_lowest_at91.other W97 (Or.inl ne_ev_b8)
    have Fe_highest_at101 := Fe_highest_at92.other W97 (Or.inl ne_ev_b8)
    have G1_0_at102 := G1_0_at93.wr W97
    have G1_1_at103 := G1_1_at94.other W97 (Or.inl ne_r1_b8)
    have G1_2_at104 := G1_2_at95.other W97 (Or.inl ne_r1_b8)
    have EA8_at105 := EA8_at96.wr W97
    have N97 := Fr.snoc X97 N88 ge_b8
    have Z97 : n0 ≤ h97.size := Nat.le_trans Z88 (Nat.le_of_eq W97.size.symm)
    have Vb8_97 : own_Av Z h97 b8 .long [(.long (1 : Int64)), (.long (10 : Int64)), (.long (100 : Int64)), (.long (1000 : Int64)), (.long (10000 : Int64)), (.long (100000 : Int64)), (.long (1000000 : Int64)), (.long (10000000 : Int64)), (.long (100000000 : Int64)), (.long (1000000000 : Int64)), (.long (0 : Int64)), (.long (0 : Int64)), (.long (0 : Int64)), (.long (0 : Int64)), (.long (0 : Int64)), (.long (0 : Int64)), (.long (0 : Int64)), (.long (0 : Int64)), (.long (0 : Int64))] := V97
    refine own_via (T' := T97) (g' := (mkF m 133 #[.val (.int x0), .val (.int x1), .val (.int x2), .val (.int sg), .val (.int pr), .val (.int sc), .val (.ref r1), .val (.long (own_low (own_dec_r_lowest pr sc sg))), .second, .val (.long (own_high (own_dec_r_highest pr sc sg))), .second, .unset, .unset, .unset, .unset, .unset] [(.ref b8)])) st97 ?_
    refine own_via (T' := T97) (g' := (mkF m 136 #[.val (.int x0), .val (.int x1), .val (.int x2), .val (.int sg), .val (.int pr), .val (.int sc), .val (.ref r1), .val (.long (own_low (own_dec_r_lowest pr sc sg))), .second, .val (.long (own_high (own_dec_r_highest pr sc sg))), .second, .unset, .unset, .unset, .unset, .unset] [(.int (10 : Int32)), (.ref b8), (.ref b8)])) (fun t k => XS.dup X97.here hx rfl (hb hby at_133) rfl rfl (XS.bipush X97.here hx rfl (hb hby at_134) k)) ?_
    refine own_via (T' := T97) (g' := (mkF m 139 #[.val (.int x0), .val (.int x1), .val (.int x2), .val (.int sg), .val (.int pr), .val (.int sc), .val (.ref r1), .val (.long (own_low (own_dec_r_lowest pr sc sg))), .second, .val (.long (own_high (own_dec_r_highest pr sc sg))), .second, .unset, .unset, .unset, .unset, .unset] [(.long (10000000000 : Int64)), (.int (10 : Int32)), (.ref b8), (.ref b8)])) (X97.ldc2Long hx hown (mvT hZ (hw _ (List.mem_of_getElem? (i := 30) rfl))) (g := (mkF m 136 #[.val (.int x0), .val (.int x1), .val (.int x2), .val (.int sg), .val (.int pr), .val (.int sc), .val (.ref r1), .val (.long (own_low (own_dec_r_lowest pr sc sg))), .second, .val (.long (own_high (own_dec_r_highest pr sc sg))), .second, .unset, .unset, .unset, .unset, .unset] [(.int (10 : Int32)), (.ref b8), (.ref b8)])) rfl (hb hby at_136)) ?_
    obtain ⟨T106, h106, X106, e106, W106, V106, st106⟩ := own_stJ X97 hx hZ e97 Vb8_97 (j := (10 : Int32)) (x := (10000000000 : Int64)) (by decide) (show _ < 19 from by decide) (g := (mkF m 139 #[.val (.int x0), .val (.int x1), .val (.int x2), .val (.int sg), .val (.int pr), .val (.int sc), .val (.ref r1), .val (.long (own_low (own_dec_r_lowest pr sc sg))), .second, .val (.long (own_high (own_dec_r_highest pr sc sg))), .second, .unset, .unset, .unset, .unset, .unset] [(.long (10000000000 : Int64)), (.int (10 : Int32)), (.ref b8), (.ref b8)])) rfl rfl (hb hby at_139)
    have S_ev_at107 := S_ev_at98.wr W106
    have E_ev_at108 := E_ev_at99.wr W106
    have Fe_lowest_at109 := Fe_lowest_at100.other W106 (Or.inl ne_ev_b8)
    have Fe_highest_at110 := Fe_highest_at101.other W106 (Or.inl ne_ev_b8)
    have G1_0_at111 := G1_0_at102.wr W106
    have G1_1_at112 := G1_1_at103.other W106 (Or.inl ne_r1_b8)
    have G1_2_at113 := G1_2_at104.other W106 (Or.inl ne_r1_b8)
    have EA8_at114 := EA8_at105.wr W106
    have N106 := Fr.snoc X106 N97 ge_b8
    have Z106 : n0 ≤ h106.size := Nat.le_trans Z97 (Nat.le_of_eq W106.size.symm)
    have Vb8_106 : own_Av Z h106 b8 .long [(.long (1 : Int64)), (.long (10 : Int64)), (.long (100 : Int64)), (.long (1000 : Int64)), (.long (10000 : Int64)), (.long (100000 : Int64)), (.long (1000000 : Int64)), (.long (10000000 : Int64)), (.long (100000000 : Int64)), (.long (1000000000 : Int64)), (.long (10000000000 : Int64)), (.long (0 : Int64)), (.long (0 : Int64)), (.long (0 : Int64)), (.long (0 : Int64)), (.long (0 : Int64)), (.long (0 : Int64)), (.long (0 : Int64)), (.long (0 : Int64))] := V106
    refine own_via (T' := T106) (g' := (mkF m 140 #[.val (.int x0), .val (.int x1), .val (.int x2), .val (.int sg), .val (.int pr), .val (.int sc), .val (.ref r1), .val (.long (own_low (own_dec_r_lowest pr sc sg))), .second, .val (.long (own_high (own_dec_r_highest pr sc sg))), .second, .unset, .unset, .unset, .unset, .unset] [(.ref b8)])) st106 ?_
    refine own_via (T' := T106) (g' := (mkF m 143 #[.val (.int x0), .val (.int x1), .val (.int x2), .val (.int sg), .val (.int pr), .val (.int sc), .val (.ref r1), .val (.long (own_low (own_dec_r_lowest pr sc sg))), .second, .val (.long (own_high (own_dec_r_highest pr sc sg))), .second, .unset, .unset, .unset, .unset, .unset] [(.int (11 : Int32)), (.ref b8), (.ref b8)])) (fun t k => XS.dup X106.here hx rfl (hb hby at_140) rfl rfl (XS.bipush X106.here hx rfl (hb hby at_141) k)) ?_
    refine own_via (T' := T106) (g' := (mkF m 146 #[.val (.int x0), .val (.int x1), .val (.int x2), .val (.int sg), .val (.int pr), .val (.int sc), .val (.ref r1), .val (.long (own_low (own_dec_r_lowest pr sc sg))), .second, .val (.long (own_high (own_dec_r_highest pr sc sg))), .second, .unset, .unset, .unset, .unset, .unset] [(.long (100000000000 : Int64)), (.int (11 : Int32)), (.ref b8), (.ref b8)])) (X106.ldc2Long hx hown (mvT hZ (hw _ (List.mem_of_getElem? (i := 31) rfl))) (g := (mkF m 143 #[.val (.int x0), .val (.int x1), .val (.int x2), .val (.int sg), .val (.int pr), .val (.int sc), .val (.ref r1), .val (.long (own_low (own_dec_r_lowest pr sc sg))), .second, .val (.long (own_high (own_dec_r_highest pr sc sg))), .second, .unset, .unset, .unset, .unset, .unset] [(.int (11 : Int32)), (.ref b8), (.ref b8)])) rfl (hb hby at_143)) ?_
    obtain ⟨T115, h115, X115, e115, W115, V115, st115⟩ := own_stJ X106 hx hZ e106 Vb8_106 (j := (11 : Int32)) (x := (100000000000 : Int64)) (by decide) (show _ < 19 from by decide) (g := (mkF m 146 #[.val (.int x0), .val (.int x1), .val (.int x2), .val (.int sg), .val (.int pr), .val (.int sc), .val (.ref r1), .val (.long (own_low (own_dec_r_lowest pr sc sg))), .second, .val (.long (own_high (own_dec_r_highest pr sc sg))), .second, .unset, .unset, .unset, .unset, .unset] [(.long (100000000000 : Int64)), (.int (11 : Int32)), (.ref b8), (.ref b8)])) rfl rfl (hb hby at_146)
    have S_ev_at116 := S_ev_at107.wr W115
    have E_ev_at117 := E_ev_at108.wr W115
    have Fe_lowest_at118 := Fe_lowest_at109.other W115 (Or.inl ne_ev_b8)
    have Fe_highest_at119 := Fe_highest_at110.other W115 (Or.inl ne_ev_b8)
    have G1_0_at120 := G1_0_at111.wr W115
    have G1_1_at121 := G1_1_at112.other W115 (Or.inl ne_r1_b8)
    have G1_2_at122 := G1_2_at113.other W115 (Or.inl ne_r1_b8)
    have EA8_at123 := EA8_at114.wr W115
    have N115 := Fr.snoc X115 N106 ge_b8
    have Z115 : n0 ≤ h115.size := Nat.le_trans Z106 (Nat.le_of_eq W115.size.symm)
    have Vb8_115 : own_Av Z h115 b8 .long [(.long (1 : Int64)), (.long (10 : Int64)), (.long (100 : Int64)), (.long (1000 : Int64)), (.long (10000 : Int64)), (.long (100000 : Int64)), (.long (1000000 : Int64)), (.long (10000000 : Int64)), (.long (100000000 : Int64)), (.long (1000000000 : Int64)), (.long (10000000000 : Int64)), (.long (100000000000 : Int64)), (.long (0 : Int64)), (.long (0 : Int64)), (.long (0 : Int64)), (.long (0 : Int64)), (.long (0 : Int64)), (.long (0 : Int64)), (.long (0 : Int64))] := V115
    refine own_via (T' := T115) (g' := (mkF m 147 #[.val (.int x0), .val (.int x1), .val (.int x2), .val (.int sg), .val (.int pr), .val (.int sc), .val (.ref r1), .val (.long (own_low (own_dec_r_lowest pr sc sg))), .second, .val (.long (own_high (own_dec_r_highest pr sc sg))), .second, .unset, .unset, .unset, .unset, .unset] [(.ref b8)])) st115 ?_
    refine own_via (T' := T115) (g' := (mkF m 150 #[.val (.int x0), .val (.int x1), .val (.int x2), .val (.int sg), .val (.int pr), .val (.int sc), .val (.ref r1), .val (.long (own_low (own_dec_r_lowest pr sc sg))), .second, .val (.long (own_high (own_dec_r_highest pr sc sg))), .second, .unset, .unset, .unset, .unset, .unset] [(.int (12 : Int32)), (.ref b8), (.ref b8)])) (fun t k => XS.dup X115.here hx rfl (hb hby at_147) rfl rfl (XS.bipush X115.here hx rfl (hb hby at_148) k)) ?_
    refine own_via (T' := T115) (g' := (mkF m 153 #[.val (.int x0), .val (.int x1), .val (.int x2), .val (.int sg), .val (.int pr), .val (.int sc), .val (.ref r1), .val (.long (own_low (own_dec_r_lowest pr sc sg))), .second, .val (.long (own_high (own_dec_r_highest pr sc sg))), .second, .unset, .unset, .unset, .unset, .unset] [(.long (1000000000000 : Int64)), (.int (12 : Int32)), (.ref b8), (.ref b8)])) (X115.ldc2Long hx hown (mvT hZ (hw _ (List.mem_of_getElem? (i := 32) rfl))) (g := (mkF m 150 #[.val (.int x0), .val (.int x1), .val (.int x2), .val (.int sg), .val (.int pr), .val (.int sc), .val (.ref r1), .val (.long (own_low (own_dec_r_lowest pr sc sg))), .second, .val (.long (own_high (own_dec_r_highest pr sc sg))), .second, .unset, .unset, .unset, .unset, .unset] [(.int (12 : Int32)), (.ref b8), (.ref b8)])) rfl (hb hby at_150)) ?_
    obtain ⟨T124, h124, X124, e124, W124, V124, st124⟩ := own_stJ X115 hx hZ e115 Vb8_115 (j := (12 : Int32)) (x := (1000000000000 : Int64)) (by decide) (show _ < 19 from by decide) (g := (mkF m 153 #[.val (.int x0), .val (.int x1), .val (.int x2), .val (.int sg), .val (.int pr), .val (.int sc), .val (.ref r1), .val (.long (own_low (own_dec_r_lowest pr sc sg))), .second, .val (.long (own_high (own_dec_r_highest pr sc sg))), .second, .unset, .unset, .unset, .unset, .unset] [(.long (1000000000000 : Int64)), (.int (12 : Int32)), (.ref b8), (.ref b8)])) rfl rfl (hb hby at_153)
    have S_ev_at125 := S_ev_at116.wr W124
    have E_ev_at126 := E_ev_at117.wr W124
    have Fe_lowest_at127 := Fe_lowest_at118.other W124 (Or.inl ne_ev_b8)
    have Fe_highest_at128 := Fe_highest_at119.other W124 (Or.inl ne_ev_b8)
    have G1_0_at129 := G1_0_at120.wr W124
    have G1_1_at130 := G1_1_at121.other W124 (Or.inl ne_r1_b8)
    have G1_2_at131 := G1_2_at122.other W124 (Or.inl ne_r1_b8)
    have EA8_at132 := EA8_at123.wr W124
    have N124 := Fr.snoc X124 N115 ge_b8
    have Z124 : n0 ≤ h124.size := Nat.le_trans Z115 (Nat.le_of_eq W124.size.symm)
    have Vb8_124 : own_Av Z h124 b8 .long [(.long (1 : Int64)), (.long (10 : Int64)), (.long (100 : Int64)), (.long (1000 : Int64)), (.long (10000 : Int64)), (.long (100000 : Int64)), (.long (1000000 : Int64)), (.long (10000000 : Int64)), (.long (100000000 : Int64)), (.long (1000000000 : Int64)), (.long (10000000000 : Int64)), (.long (100000000000 : Int64)), (.long (1000000000000 : Int64)), (.long (0 : Int64)), (.long (0 : Int64)), (.long (0 : Int64)), (.long (0 : Int64)), (.long (0 : Int64)), (.long (0 : Int64))] := V124
    refine own_via (T' := T124) (g' := (mkF m 154 #[.val (.int x0), .val (.int x1), .val (.int x2), .val (.int sg), .val (.int pr), .val (.int sc), .val (.ref r1), .val (.long (own_low (own_dec_r_lowest pr sc sg))), .second, .val (.long (own_high (own_dec_r_highest pr sc sg))), .second, .unset, .unset, .unset, .unset, .unset] [(.ref b8)])) st124 ?_
    refine own_via (T' := T124) (g' := (mkF m 157 #[.val (.int x0), .val (.int x1), .val (.int x2), .val (.int sg), .val (.int pr), .val (.int sc), .val (.ref r1), .val (.long (own_low (own_dec_r_lowest pr sc sg))), .second, .val (.long (own_high (own_dec_r_highest pr sc sg))), .second, .unset, .unset, .unset, .unset, .unset] [(.int (13 : Int32)), (.ref b8), (.ref b8)])) (fun t k => XS.dup X124.here hx rfl (hb hby at_154) rfl rfl (XS.bipush X124.here hx rfl (hb hby at_155) k)) ?_
    refine own_via (T' := T124) (g' := (mkF m 160 #[.val (.int x0), .val (.int x1), .val (.int x2), .val (.int sg), .val (.int pr), .val (.int sc), .val (.ref r1), .val (.long (own_low (own_dec_r_lowest pr sc sg))), .second, .val (.long (own_high (own_dec_r_highest pr sc sg))), .second, .unset, .unset, .unset, .unset, .unset] [(.long (10000000000000 : Int64)), (.int (13 : Int32)), (.ref b8), (.ref b8)])) (X124.ldc2Long hx hown (mvT hZ (hw _ (List.mem_of_getElem? (i := 33) rfl))) (g := (mkF m 157 #[.val (.int x0), .val (.int x1), .val (.int x2), .val (.int sg), .val (.int pr), .val (.int sc), .val (.ref r1), .val (.long (own_low (own_dec_r_lowest pr sc sg))), .second, .val (.long (own_high (own_dec_r_highest pr sc sg))), .second, .unset, .unset, .unset, .unset, .unset] [(.int (13 : Int32)), (.ref b8), (.ref b8)])) rfl (hb hby at_157)) ?_
    obtain ⟨T133, h133, X133, e133, W133, V133, st133⟩ := own_stJ X124 hx hZ e124 Vb8_124 (j := (13 : Int32)) (x := (10000000000000 : Int64)) (by decide) (show _ < 19 from by decide) (g := (mkF m 160 #[.val (.int x0), .val (.int x1), .val (.int x2), .val (.int sg), .val (.int pr), .val (.int sc), .val (.ref r1), .val (.long (own_low (own_dec_r_lowest pr sc sg))), .second, .val (.long (own_high (own_dec_r_highest pr sc sg))), .second, .unset, .unset, .unset, .unset, .unset] [(.long (10000000000000 : Int64)), (.int (13 : Int32)), (.ref b8), (.ref b8)])) rfl rfl (hb hby at_160)
    have S_ev_at134 := S_ev_at125.wr W133
    have E_ev_at135 := E_ev_at126.wr W133
    have Fe_lowest_at136 := Fe_lowest_at127.other W133 (Or.inl ne_ev_b8)
    have Fe_highest_at137 := Fe_highest_at128.other W133 (Or.inl ne_ev_b8)
    have G1_0_at138 := G1_0_at129.wr W133
    have G1_1_at139 := G1_1_at130.other W133 (Or.inl ne_r1_b8)
    have G1_2_at140 := G1_2_at131.other W133 (Or.inl ne_r1_b8)
    have EA8_at141 := EA8_at132.wr W133
    have N133 := Fr.snoc X133 N124 ge_b8
    have Z133 : n0 ≤ h133.size := Nat.le_trans Z124 (Nat.le_of_eq W133.size.symm)
    have Vb8_133 : own_Av Z h133 b8 .long [(.long (1 : Int64)), (.long (10 : Int64)), (.long (100 : Int64)), (.long (1000 : Int64)), (.long (10000 : Int64)), (.long (100000 : Int64)), (.long (1000000 : Int64)), (.long (10000000 : Int64)), (.long (100000000 : Int64)), (.long (1000000000 : Int64)), (.long (10000000000 : Int64)), (.long (100000000000 : Int64)), (.long (1000000000000 : Int64)), (.long (10000000000000 : Int64)), (.long (0 : Int64)), (.long (0 : Int64)), (.long (0 : Int64)), (.long (0 : Int64)), (.long (0 : Int64))] := V133
    refine own_via (T' := T133) (g' := (mkF m 161 #[.val (.int x0), .val (.int x1), .val (.int x2), .val (.int sg), .val (.int pr), .val (.int sc), .val (.ref r1), .val (.long (own_low (own_dec_r_lowest pr sc sg))), .second, .val (.long (own_high (own_dec_r_highest pr sc sg))), .second, .unset, .unset, .unset, .unset, .unset] [(.ref b8)])) st133 ?_
    refine own_via (T' := T133) (g' := (mkF m 164 #[.val (.int x0), .val (.int x1), .val (.int x2), .val (.int sg), .val (.int pr), .val (.int sc), .val (.ref r1), .val (.long (own_low (own_dec_r_lowest pr sc sg))), .second, .val (.long (own_high (own_dec_r_highest pr sc sg))), .second, .unset, .unset, .unset, .unset, .unset] [(.int (14 : Int32)), (.ref b8), (.ref b8)])) (fun t k => XS.dup X133.here hx rfl (hb hby at_161) rfl rfl (XS.bipush X133.here hx rfl (hb hby at_162) k)) ?_
    refine own_via (T' := T133) (g' := (mkF m 167 #[.val (.int x0), .val (.int x1), .val (.int x2), .val (.int sg), .val (.int pr), .val (.int sc), .val (.ref r1), .val (.long (own_low (own_dec_r_lowest pr sc sg))), .second, .val (.long (own_high (own_dec_r_highest pr sc sg))), .second, .unset, .unset, .unset, .unset, .unset] [(.long (100000000000000 : Int64)), (.int (14 : Int32)), (.ref b8), (.ref b8)])) (X133.ldc2Long hx hown (mvT hZ (hw _ (List.mem_of_getElem? (i := 34) rfl))) (g := (mkF m 164 #[.val (.int x0), .val (.int x1), .val (.int x2), .val (.int sg), .val (.int pr), .val (.int sc), .val (.ref r1), .val (.long (own_low (own_dec_r_lowest pr sc sg))), .second, .val (.long (own_high (own_dec_r_highest pr sc sg))), .second, .unset, .unset, .unset, .unset, .unset] [(.int (14 : Int32)), (.ref b8), (.ref b8)])) rfl (hb hby at_164)) ?_
    obtain ⟨T142, h142, X142, e142, W142, V142, st142⟩ := own_stJ X133 hx hZ e133 Vb8_133 (j := (14 : Int32)) (x := (100000000000000 : Int64)) (by decide) (show _ < 19 from by decide) (g := (mkF m 167 #[.val (.int x0), .val (.int x1), .val (.int x2), .val (.int sg), .val (.int pr), .val (.int sc), .val (.ref r1), .val (.long (own_low (own_dec_r_lowest pr sc sg))), .second, .val (.long (own_high (own_dec_r_highest pr sc sg))), .second, .unset, .unset, .unset, .unset, .unset] [(.long (100000000000000 : Int64)), (.int (14 : Int32)), (.ref b8), (.ref b8)])) rfl rfl (hb hby at_167)
    have S_ev_at143 := S_ev_at134.wr W142
    have E_ev_at144 := E_ev_at135.wr W142
    have Fe_lowest_at145 := Fe_lowest_at136.other W142 (Or.inl ne_ev_b8)
    have Fe_highest_at146 := Fe_highest_at137.other W142 (Or.inl ne_ev_b8)
    have G1_0_at147 := G1_0_at138.wr W142
    have G1_1_at148 := G1_1_at139.other W142 (Or.inl ne_r1_b8)
    have G1_2_at149 := G1_2_at140.other W142 (Or.inl ne_r1_b8)
    have EA8_at150 := EA8_at141.wr W142
    have N142 := Fr.snoc X142 N133 ge_b8
    have Z142 : n0 ≤ h142.size := Nat.le_trans Z133 (Nat.le_of_eq W142.size.symm)
    have Vb8_142 : own_Av Z h142 b8 .long [(.long (1 : Int64)), (.long (10 : Int64)), (.long (100 : Int64)), (.long (1000 : Int64)), (.long (10000 : Int64)), (.long (100000 : Int64)), (.long (1000000 : Int64)), (.long (10000000 : Int64)), (.long (100000000 : Int64)), (.long (1000000000 : Int64)), (.long (10000000000 : Int64)), (.long (100000000000 : Int64)), (.long (1000000000000 : Int64)), (.long (10000000000000 : Int64)), (.long (100000000000000 : Int64)), (.long (0 : Int64)), (.long (0 : Int64)), (.long (0 : Int64)), (.long (0 : Int64))] := V142
    refine own_via (T' := T142) (g' := (mkF m 168 #[.val (.int x0), .val (.int x1), .val (.int x2), .val (.int sg), .val (.int pr), .val (.int sc), .val (.ref r1), .val (.long (own_low (own_dec_r_lowest pr sc sg))), .second, .val (.long (own_high (own_dec_r_highest pr sc sg))), .second, .unset, .unset, .unset, .unset, .unset] [(.ref b8)])) st142 ?_
    refine own_via (T' := T142) (g' := (mkF m 171 #[.val (.int x0), .val (.int x1), .val (.int x2), .val (.int sg), .val (.int pr), .val (.int sc), .val (.ref r1), .val (.long (own_low (own_dec_r_lowest pr sc sg))), .second, .val (.long (own_high (own_dec_r_highest pr sc sg))), .second, .unset, .unset, .unset, .unset, .unset] [(.int (15 : Int32)), (.ref b8), (.ref b8)])) (fun t k => XS.dup X142.here hx rfl (hb hby at_168) rfl rfl (XS.bipush X142.here hx rfl (hb hby at_169) k)) ?_
    refine own_via (T' := T142) (g' := (mkF m 174 #[.val (.int x0), .val (.int x1), .val (.int x2), .val (.int sg), .val (.int pr), .val (.int sc), .val (.ref r1), .val (.long (own_low (own_dec_r_lowest pr sc sg))), .second, .val (.long (own_high (own_dec_r_highest pr sc sg))), .second, .unset, .unset, .unset, .unset, .unset] [(.long (1000000000000000 : Int64)), (.int (15 : Int32)), (.ref b8), (.ref b8)])) (X142.ldc2Long hx hown (mvT hZ (hw _ (List.mem_of_getElem? (i := 35) rfl))) (g := (mkF m 171 #[.val (.int x0), .val (.int x1), .val (.int x2), .val (.int sg), .val (.int pr), .val (.int sc), .val (.ref r1), .val (.long (own_low (own_dec_r_lowest pr sc sg))), .second, .val (.long (own_high (own_dec_r_highest pr sc sg))), .second, .unset, .unset, .unset, .unset, .unset] [(.int (15 : Int32)), (.ref b8), (.ref b8)])) rfl (hb hby at_171)) ?_
    obtain ⟨T151, h151, X151, e151, W151, V151, st151⟩ := own_stJ X142 hx hZ e142 Vb8_142 (j := (15 : Int32)) (x := (1000000000000000 : Int64)) (by decide) (show _ < 19 from by decide) (g := (mkF m 174 #[.val (.int x0), .val (.int x1), .val (.int x2), .val (.int sg), .val (.int pr), .val (.int sc), .val (.ref r1), .val (.long (own_low (own_dec_r_lowest pr sc sg))), .second, .val (.long (own_high (own_dec_r_highest pr sc sg))), .second, .unset, .unset, .unset, .unset, .unset] [(.long (1000000000000000 : Int64)), (.int (15 : Int32)), (.ref b8), (.ref b8)])) rfl rfl (hb hby at_174)
    have S_ev_at152 := S_ev_at143.wr W151
    have E_ev_at153 := E_ev_at144.wr W151
    have Fe_lowest_at154 := Fe_lowest_at145.other W151 (Or.inl ne_ev_b8)
    have Fe_highest_at155 := Fe_highest_at146.other W151 (Or.inl ne_ev_b8)
    have G1_0_at156 := G1_0_at147.wr W151
    have G1_1_at157 := G1_1_at148.other W151 (Or.inl ne_r1_b8)
    have G1_2_at158 := G1_2_at149.other W151 (Or.inl ne_r1_b8)
    have EA8_at159 := EA8_at150.wr W151
    have N151 := Fr.snoc X151 N142 ge_b8
    have Z151 : n0 ≤ h151.size := Nat.le_trans Z142 (Nat.le_of_eq W151.size.symm)
    have Vb8_151 : own_Av Z h151 b8 .long [(.long (1 : Int64)), (.long (10 : Int64)), (.long (100 : Int64)), (.long (1000 : Int64)), (.long (10000 : Int64)), (.long (100000 : Int64)), (.long (1000000 : Int64)), (.long (10000000 : Int64)), (.long (100000000 : Int64)), (.long (1000000000 : Int64)), (.long (10000000000 : Int64)), (.long (100000000000 : Int64)), (.long (1000000000000 : Int64)), (.long (10000000000000 : Int64)), (.long (100000000000000 : Int64)), (.long (1000000000000000 : Int64)), (.long (0 : Int64)), (.long (0 : Int64)), (.long (0 : Int64))] := V151
    refine own_via (T' := T151) (g' := (mkF m 175 #[.val (.int x0), .val (.int x1), .val (.int x2), .val (.int sg), .val (.int pr), .val (.int sc), .val (.ref r1), .val (.long (own_low (own_dec_r_lowest pr sc sg))), .second, .val (.long (own_high (own_dec_r_highest pr sc sg))), .second, .unset, .unset, .unset, .unset, .unset] [(.ref b8)])) st151 ?_
    refine own_via (T' := T151) (g' := (mkF m 178 #[.val (.int x0), .val (.int x1), .val (.int x2), .val (.int sg), .val (.int pr), .val (.int sc), .val (.ref r1), .val (.long (own_low (own_dec_r_lowest pr sc sg))), .second, .val (.long (own_high (own_dec_r_highest pr sc sg))), .second, .unset, .unset, .unset, .unset, .unset] [(.int (16 : Int32)), (.ref b8), (.ref b8)])) (fun t k => XS.dup X151.here hx rfl (hb hby at_175) rfl rfl (XS.bipush X151.here hx rfl (hb hby at_176) k)) ?_
    refine own_via (T' := T151) (g' := (mkF m 181 #[.val (.int x0), .val (.int x1), .val (.int x2), .val (.int sg), .val (.int pr), .val (.int sc), .val (.ref r1), .val (.long (own_low (own_dec_r_lowest pr sc sg))), .second, .val (.long (own_high (own_dec_r_highest pr sc sg))), .second, .unset, .unset, .unset, .unset, .unset] [(.long (10000000000000000 : Int64)), (.int (16 : Int32)), (.ref b8), (.ref b8)])) (X151.ldc2Long hx hown (mvT hZ (hw _ (List.mem_of_getElem? (i := 36) rfl))) (g := (mkF m 178 #[.val (.int x0), .val (.int x1), .val (.int x2), .val (.int sg), .val (.int pr), .val (.int sc), .val (.ref r1), .val (.long (own_low (own_dec_r_lowest pr sc sg))), .second, .val (.long (own_high (own_dec_r_highest pr sc sg))), .second, .unset, .unset, .unset, .unset, .unset] [(.int (16 : Int32)), (.ref b8), (.ref b8)])) rfl (hb hby at_178)) ?_
    obtain ⟨T160, h160, X160, e160, W160, V160, st160⟩ := own_stJ X151 hx hZ e151 Vb8_151 (j := (16 : Int32)) (x := (10000000000000000 : Int64)) (by decide) (show _ < 19 from by decide) (g := (mkF m 181 #[.val (.int x0), .val (.int x1), .val (.int x2), .val (.int sg), .val (.int pr), .val (.int sc), .val (.ref r1), .val (.long (own_low (own_dec_r_lowest pr sc sg))), .second, .val (.long (own_high (own_dec_r_highest pr sc sg))), .second, .unset, .unset, .unset, .unset, .unset] [(.long (10000000000000000 : Int64)), (.int (16 : Int32)), (.ref b8), (.ref b8)])) rfl rfl (hb hby at_181)
    have S_ev_at161 := S_ev_at152.wr W160
    have E_ev_at162 := E_ev_at153.wr W160
    have Fe_lowest_at163 := Fe_lowest_at154.other W160 (Or.inl ne_ev_b8)
    have Fe_highest_at164 := Fe_highest_at155.other W160 (Or.inl ne_ev_b8)
    have G1_0_at165 := G1_0_at156.wr W160
    have G1_1_at166 := G1_1_at157.other W160 (Or.inl ne_r1_b8)
    have G1_2_at167 := G1_2_at158.other W160 (Or.inl ne_r1_b8)
    have EA8_at168 := EA8_at159.wr W160
    have N160 := Fr.snoc X160 N151 ge_b8
    have Z160 : n0 ≤ h160.size := Nat.le_trans Z151 (Nat.le_of_eq W160.size.symm)
    have Vb8_160 : own_Av Z h160 b8 .long [(.long (1 : Int64)), (.long (10 : Int64)), (.long (100 : Int64)), (.long (1000 : Int64)), (.long (10000 : Int64)), (.long (100000 : Int64)), (.long (1000000 : Int64)), (.long (10000000 : Int64)), (.long (100000000 : Int64)), (.long (1000000000 : Int64)), (.long (10000000000 : Int64)), (.long (100000000000 : Int64)), (.long (1000000000000 : Int64)), (.long (10000000000000 : Int64)), (.long (100000000000000 : Int64)), (.long (1000000000000000 : Int64)), (.long (10000000000000000 : Int64)), (.long (0 : Int64)), (.long (0 : Int64))] := V160
    refine own_via (T' := T160) (g' := (mkF m 182 #[.val (.int x0), .val (.int x1), .val (.int x2), .val (.int sg), .val (.int pr), .val (.int sc), .val (.ref r1), .val (.long (own_low (own_dec_r_lowest pr sc sg))), .second, .val (.long (own_high (own_dec_r_highest pr sc sg))), .second, .unset, .unset, .unset, .unset, .unset] [(.ref b8)])) st160 ?_
    refine own_via (T' := T160) (g' := (mkF m 185 #[.val (.int x0), .val (.int x1), .val (.int x2), .val (.int sg), .val (.int pr), .val (.int sc), .val (.ref r1), .val (.long (own_low (own_dec_r_lowest pr sc sg))), .second, .val (.long (own_high (own_dec_r_highest pr sc sg))), .second, .unset, .unset, .unset, .unset, .unset] [(.int (17 : Int32)), (.ref b8), (.ref b8)])) (fun t k => XS.dup X160.here hx rfl (hb hby at_182) rfl rfl (XS.bipush X160.here hx rfl (hb hby at_183) k)) ?_
    refine own_via (T' := T160) (g' := (mkF m 188 #[.val (.int x0), .val (.int x1), .val (.int x2), .val (.int sg), .val (.int pr), .val (.int sc), .val (.ref r1), .val (.long (own_low (own_dec_r_lowest pr sc sg))), .second, .val (.long (own_high (own_dec_r_highest pr sc sg))), .second, .unset, .unset, .unset, .unset, .unset] [(.long (100000000000000000 : Int64)), (.int (17 : Int32)), (.ref b8), (.ref b8)])) (X160.ldc2Long hx hown (mvT hZ (hw _ (List.mem_of_getElem? (i := 37) rfl))) (g := (mkF m 185 #[.val (.int x0), .val (.int x1), .val (.int x2), .val (.int sg), .val (.int pr), .val (.int sc), .val (.ref r1), .val (.long (own_low (own_dec_r_lowest pr sc sg))), .second, .val (.long (own_high (own_dec_r_highest pr sc sg))), .second, .unset, .unset, .unset, .unset, .unset] [(.int (17 : Int32)), (.ref b8), (.ref b8)])) rfl (hb hby at_185)) ?_
    obtain ⟨T169, h169, X169, e169, W169, V169, st169⟩ := own_stJ X160 hx hZ e160 Vb8_160 (j := (17 : Int32)) (x := (100000000000000000 : Int64)) (by decide) (show _ < 19 from by decide) (g := (mkF m 188 #[.val (.int x0), .val (.int x1), .val (.int x2), .val (.int sg), .val (.int pr), .val (.int sc), .val (.ref r1), .val (.long (own_low (own_dec_r_lowest pr sc sg))), .second, .val (.long (own_high (own_dec_r_highest pr sc sg))), .second, .unset, .unset, .unset, .unset, .unset] [(.long (100000000000000000 : Int64)), (.int (17 : Int32)), (.ref b8), (.ref b8)])) rfl rfl (hb hby at_188)
    have S_ev_at170 := S_ev_at161.wr W169
    have E_ev_at171 := E_ev_at162.wr W169
    have Fe_lowest_at172 := Fe_lowest_at163.other W169 (Or.inl ne_ev_b8)
    have Fe_highest_at173 := Fe_highest_at164.other W169 (Or.inl ne_ev_b8)
    have G1_0_at174 := G1_0_at165.wr W169
    have G1_1_at175 := G1_1_at166.other W169 (Or.inl ne_r1_b8)
    have G1_2_at176 := G1_2_at167.other W169 (Or.inl ne_r1_b8)
    have EA8_at177 := EA8_at168.wr W169
    have N169 := Fr.snoc X169 N160 ge_b8
    have Z169 : n0 ≤ h169.size := Nat.le_trans Z160 (Nat.le_of_eq W169.size.symm)
    have Vb8_169 : own_Av Z h169 b8 .long [(.long (1 : Int64)), (.long (10 : Int64)), (.long (100 : Int64)), (.long (1000 : Int64)), (.long (10000 : Int64)), (.long (100000 : Int64)), (.long (1000000 : Int64)), (.long (10000000 : Int64)), (.long (100000000 : Int64)), (.long (1000000000 : Int64)), (.long (10000000000 : Int64)), (.long (100000000000 : Int64)), (.long (1000000000000 : Int64)), (.long (10000000000000 : Int64)), (.long (100000000000000 : Int64)), (.long (1000000000000000 : Int64)), (.long (10000000000000000 : Int64)), (.long (100000000000000000 : Int64)), (.long (0 : Int64))] := V169
    refine own_via (T' := T169) (g' := (mkF m 189 #[.val (.int x0), .val (.int x1), .val (.int x2), .val (.int sg), .val (.int pr), .val (.int sc), .val (.ref r1), .val (.long (own_low (own_dec_r_lowest pr sc sg))), .second, .val (.long (own_high (own_dec_r_highest pr sc sg))), .second, .unset, .unset, .unset, .unset, .unset] [(.ref b8)])) st169 ?_
    refine own_via (T' := T169) (g' := (mkF m 192 #[.val (.int x0), .val (.int x1), .val (.int x2), .val (.int sg), .val (.int pr), .val (.int sc), .val (.ref r1), .val (.long (own_low (own_dec_r_lowest pr sc sg))), .second, .val (.long (own_high (own_dec_r_highest pr sc sg))), .second, .unset, .unset, .unset, .unset, .unset] [(.int (18 : Int32)), (.ref b8), (.ref b8)])) (fun t k => XS.dup X169.here hx rfl (hb hby at_189) rfl rfl (XS.bipush X169.here hx rfl (hb hby at_190) k)) ?_
    refine own_via (T' := T169) (g' := (mkF m 195 #[.val (.int x0), .val (.int x1), .val (.int x2), .val (.int sg), .val (.int pr), .val (.int sc), .val (.ref r1), .val (.long (own_low (own_dec_r_lowest pr sc sg))), .second, .val (.long (own_high (own_dec_r_highest pr sc sg))), .second, .unset, .unset, .unset, .unset, .unset] [(.long (1000000000000000000 : Int64)), (.int (18 : Int32)), (.ref b8), (.ref b8)])) (X169.ldc2Long hx hown (mvT hZ (hw _ (List.mem_of_getElem? (i := 38) rfl))) (g := (mkF m 192 #[.val (.int x0), .val (.int x1), .val (.int x2), .val (.int sg), .val (.int pr), .val (.int sc), .val (.ref r1), .val (.long (own_low (own_dec_r_lowest pr sc sg))), .second, .val (.long (own_high (own_dec_r_highest pr sc sg))), .second, .unset, .unset, .unset, .unset, .unset] [(.int (18 : Int32)), (.ref b8), (.ref b8)])) rfl (hb hby at_192)) ?_
    obtain ⟨T178, h178, X178, e178, W178, V178, st178⟩ := own_stJ X169 hx hZ e169 Vb8_169 (j := (18 : Int32)) (x := (1000000000000000000 : Int64)) (by decide) (show _ < 19 from by decide) (g := (mkF m 195 #[.val (.int x0), .val (.int x1), .val (.int x2), .val (.int sg), .val (.int pr), .val (.int sc), .val (.ref r1), .val (.long (own_low (own_dec_r_lowest pr sc sg))), .second, .val (.long (own_high (own_dec_r_highest pr sc sg))), .second, .unset, .unset, .unset, .unset, .unset] [(.long (1000000000000000000 : Int64)), (.int (18 : Int32)), (.ref b8), (.ref b8)])) rfl rfl (hb hby at_195)
    have S_ev_at179 := S_ev_at170.wr W178
    have E_ev_at180 := E_ev_at171.wr W178
    have Fe_lowest_at181 := Fe_lowest_at172.other W178 (Or.inl ne_ev_b8)
    have Fe_highest_at182 := Fe_highest_at173.other W178 (Or.inl ne_ev_b8)
    have G1_0_at183 := G1_0_at174.wr W178
    have G1_1_at184 := G1_1_at175.other W178 (Or.inl ne_r1_b8)
    have G1_2_at185 := G1_2_at176.other W178 (Or.inl ne_r1_b8)
    have EA8_at186 := EA8_at177.wr W178
    have N178 := Fr.snoc X178 N169 ge_b8
    have Z178 : n0 ≤ h178.size := Nat.le_trans Z169 (Nat.le_of_eq W178.size.symm)
    have Vb8_178 : own_Av Z h178 b8 .long [(.long (1 : Int64)), (.long (10 : Int64)), (.long (100 : Int64)), (.long (1000 : Int64)), (.long (10000 : Int64)), (.long (100000 : Int64)), (.long (1000000 : Int64)), (.long (10000000 : Int64)), (.long (100000000 : Int64)), (.long (1000000000 : Int64)), (.long (10000000000 : Int64)), (.long (100000000000 : Int64)), (.long (1000000000000 : Int64)), (.long (10000000000000 : Int64)), (.long (100000000000000 : Int64)), (.long (1000000000000000 : Int64)), (.long (10000000000000000 : Int64)), (.long (100000000000000000 : Int64)), (.long (1000000000000000000 : Int64))] := V178
    refine own_via (T' := T178) (g' := (mkF m 196 #[.val (.int x0), .val (.int x1), .val (.int x2), .val (.int sg), .val (.int pr), .val (.int sc), .val (.ref r1), .val (.long (own_low (own_dec_r_lowest pr sc sg))), .second, .val (.long (own_high (own_dec_r_highest pr sc sg))), .second, .unset, .unset, .unset, .unset, .unset] [(.ref b8)])) st178 ?_
    refine own_via (T' := T178) (g' := (mkF m 201 #[.val (.int x0), .val (.int x1), .val (.int x2), .val (.int sg), .val (.int pr), .val (.int sc), .val (.ref r1), .val (.long (own_low (own_dec_r_lowest pr sc sg))), .second, .val (.long (own_high (own_dec_r_highest pr sc sg))), .second, .val (.ref b8), .unset, .unset, .unset, .unset] [(.int (1 : Int32)), (.int pr)])) (fun t k => XS.astore X178.here hx rfl (hb hby at_196) rfl rfl (l' := #[.val (.int x0), .val (.int x1), .val (.int x2), .val (.int sg), .val (.int pr), .val (.int sc), .val (.ref r1), .val (.long (own_low (own_dec_r_lowest pr sc sg))), .second, .val (.long (own_high (own_dec_r_highest pr sc sg))), .second, .val (.ref b8), .unset, .unset, .unset, .unset]) rfl (XS.iload X178.here hx rfl (hb hby at_198) rfl (XS.iconst X178.here hx rfl (hb hby at_200) k))) ?_
    by_cases hc187 : pr < (1 : Int32)
    · refine own_via (T' := T178) (g' := (mkF m 209 #[.val (.int x0), .val (.int x1), .val (.int x2), .val (.int sg), .val (.int pr), .val (.int sc), .val (.ref r1), .val (.long (own_low (own_dec_r_lowest pr sc sg))), .second, .val (.long (own_high (own_dec_r_highest pr sc sg))), .second, .val (.ref b8), .unset, .unset, .unset, .unset] [])) (fun t k => XS.icmpYes X178.here hx rfl (pc0 := 201) (pc' := 209) rfl (hb hby at_201) rfl (tlt hc187).1 (by decide) (by decide) k) ?_
      refine own_via (T' := T178) (g' := (mkF m 212 #[.val (.int x0), .val (.int x1), .val (.int x2), .val (.int sg), .val (.int pr), .val (.int sc), .val (.ref r1), .val (.long (own_low (own_dec_r_lowest pr sc sg))), .second, .val (.long (own_high (own_dec_r_highest pr sc sg))), .second, .val (.ref b8), .unset, .unset, .unset, .unset] [(.long (-9223372036854775808 : Int64))])) (X178.ldc2Long hx hown (mvT hZ (hw _ (List.mem_of_getElem? (i := 39) rfl))) (g := (mkF m 209 #[.val (.int x0), .val (.int x1), .val (.int x2), .val (.int sg), .val (.int pr), .val (.int sc), .val (.ref r1), .val (.long (own_low (own_dec_r_lowest pr sc sg))), .second, .val (.long (own_high (own_dec_r_highest pr sc sg))), .second, .val (.ref b8), .unset, .unset, .unset, .unset] [])) rfl (hb hby at_209)) ?_
      refine own_via (T' := T178) (g' := (mkF m 214 #[.val (.int x0), .val (.int x1), .val (.int x2), .val (.int sg), .val (.int pr), .val (.int sc), .val (.ref r1), .val (.long (own_low (own_dec_r_lowest pr sc sg))), .second, .val (.long (own_high (own_dec_r_highest pr sc sg))), .second, .val (.ref b8), .val (.long (-9223372036854775808 : Int64)), .second, .unset, .unset] [])) (fun t k => XS.lstore X178.here hx rfl (hb hby at_212) rfl (l' := #[.val (.int x0), .val (.int x1), .val (.int x2), .val (.int sg), .val (.int pr), .val (.int sc), .val (.ref r1), .val (.long (own_low (own_dec_r_lowest pr sc sg))), .second, .val (.long (own_high (own_dec_r_highest pr sc sg))), .second, .val (.ref b8), .val (.long (-9223372036854775808 : Int64)), .second, .unset, .unset]) rfl k) ?_
      refine own_via (T' := T178) (g' := (mkF m 217 #[.val (.int x0), .val (.int x1), .val (.int x2), .val (.int sg), .val (.int pr), .val (.int sc), .val (.ref r1), .val (.long (own_low (own_dec_r_lowest pr sc sg))), .second, .val (.long (own_high (own_dec_r_highest pr sc sg))), .second, .val (.ref b8), .val (.long (-9223372036854775808 : Int64)), .second, .unset, .unset] [(.long (9223372036854775807 : Int64))])) (X178.ldc2Long hx hown (mvT hZ (hw _ (List.mem_of_getElem? (i := 40) rfl))) (g := (mkF m 214 #[.val (.int x0), .val (.int x1), .val (.int x2), .val (.int sg), .val (.int pr), .val (.int sc), .val (.ref r1), .val (.long (own_low (own_dec_r_lowest pr sc sg))), .second, .val (.long (own_high (own_dec_r_highest pr sc sg))), .second, .val (.ref b8), .val (.long (-9223372036854775808 : Int64)), .second, .unset, .unset] [])) rfl (hb hby at_214)) ?_
      refine own_via (T' := T178) (g' := (mkF m 277 #[.val (.int x0), .val (.int x1), .val (.int x2), .val (.int sg), .val (.int pr), .val (.int sc), .val (.ref r1), .val (.long (own_low (own_dec_r_lowest pr sc sg))), .second, .val (.long (own_high (own_dec_r_highest pr sc sg))), .second, .val (.ref b8), .val (.long (-9223372036854775808 : Int64)), .second, .val (.long (9223372036854775807 : Int64)), .second] [(.int (lcmpW (own_low (own_dec_r_lowest pr sc sg)) (-9223372036854775808 : Int64)))])) (fun t k => XS.lstore X178.here hx rfl (hb hby at_217) rfl (l' := #[.val (.int x0), .val (.int x1), .val (.int x2), .val (.int sg), .val (.int pr), .val (.int sc), .val (.ref r1), .val (.long (own_low (own_dec_r_lowest pr sc sg))), .second, .val (.long (own_high (own_dec_r_highest pr sc sg))), .second, .val (.ref b8), .val (.long (-9223372036854775808 : Int64)), .second, .val (.long (9223372036854775807 : Int64)), .second]) rfl (XS.goto X178.here hx rfl (pc0 := 219) (pc' := 272) rfl (hb hby at_219) (by decide) (by decide) (XS.lload X178.here hx rfl (hb hby at_272) rfl (XS.lload X178.here hx rfl (hb hby at_274) rfl (XS.lcmp X178.here hx rfl (hb hby at_276) rfl k))))) ?_
      by_cases hc188 : (own_low (own_dec_r_lowest pr sc sg)) = (-9223372036854775808 : Int64)
      · refine own_via (T' := T178) (g' := (mkF m 285 #[.val (.int x0), .val (.int x1), .val (.int x2), .val (.int sg), .val (.int pr), .val (.int sc), .val (.ref r1), .val (.long (own_low (own_dec_r_lowest pr sc sg))), .second, .val (.long (own_high (own_dec_r_highest pr sc sg))), .second, .val (.ref b8), .val (.long (-9223372036854775808 : Int64)), .second, .val (.long (9223372036854775807 : Int64)), .second] [(.int (lcmpW (own_high (own_dec_r_highest pr sc sg)) (9223372036854775807 : Int64)))])) (fun t k => XS.ifNo X178.here hx rfl (hb hby at_277) rfl ((if0 _ _).trans (teq ((lw_eq (own_low (own_dec_r_lowest pr sc sg)) (-9223372036854775808 : Int64)).mpr hc188)).2) (XS.lload X178.here hx rfl (hb hby at_280) rfl (XS.lload X178.here hx rfl (hb hby at_282) rfl (XS.lcmp X178.here hx rfl (hb hby at_284) rfl k)))) ?_
        by_cases hc189 : (own_high (own_dec_r_highest pr sc sg)) = (9223372036854775807 : Int64)
        · refine own_via (T' := T178) (g' := (mkF m 293 #[.val (.int x0), .val (.int x1), .val (.int x2), .val (.int sg), .val (.int pr), .val (.int sc), .val (.ref r1), .val (.long (own_low (own_dec_r_lowest pr sc sg))), .second, .val (.long (own_high (own_dec_r_highest pr sc sg))), .second, .val (.ref b8), .val (.long (-9223372036854775808 : Int64)), .second, .val (.long (9223372036854775807 : Int64)), .second] [(.int (1 : Int32))])) (fun t k => XS.ifNo X178.here hx rfl (hb hby at_285) rfl ((if0 _ _).trans (teq ((lw_eq (own_high (own_dec_r_highest pr sc sg)) (9223372036854775807 : Int64)).mpr hc189)).2) (XS.iconst X178.here hx rfl (hb hby at_288) (XS.goto X178.here hx rfl (pc0 := 289) (pc' := 293) rfl (hb hby at_289) (by decide) (by decide) k))) ?_
          refine own_retN X178 hx hlk (ty := .boolean) hret (by simp) (hb hby at_293) (by decide) (by decide) ?_
          exact ⟨by rw [hj43, own_f0_j43, if_pos hc187, if_pos hc188, if_pos hc189] <;> rfl, N178⟩
        · refine own_via (T' := T178) (g' := (mkF m 293 #[.val (.int x0), .val (.int x1), .val (.int x2), .val (.int sg), .val (.int pr), .val (.int sc), .val (.ref r1), .val (.long (own_low (own_dec_r_lowest pr sc sg))), .second, .val (.long (own_high (own_dec_r_highest pr sc sg))), .second, .val (.ref b8), .val (.long (-9223372036854775808 : Int64)), .second, .val (.long (9223372036854775807 : Int64)), .second] [(.int (0 : Int32))])) (fun t k => XS.ifYes X178.here hx rfl (pc0 := 285) (pc' := 292) rfl (hb hby at_285) rfl ((if0 _ _).trans (feq (fun q => hc189 ((lw_eq (own_high (own_dec_r_highest pr sc sg)) (9223372036854775807 : Int64)).mp q))).2) (by decide) (by decide) (XS.iconst X178.here hx rfl (hb hby at_292) k)) ?_
          refine own_retN X178 hx hlk (ty := .boolean) hret (by simp) (hb hby at_293) (by decide) (by decide) ?_
          exact ⟨by rw [hj43, own_f0_j43, if_pos hc187, if_pos hc188, if_neg hc189] <;> rfl, N178⟩
      · refine own_via (T' := T178) (g' := (mkF m 293 #[.val (.int x0), .val (.int x1), .val (.int x2), .val (.int sg), .val (.int pr), .val (.int sc), .val (.ref r1), .val (.long (own_low (own_dec_r_lowest pr sc sg))), .second, .val (.long (own_high (own_dec_r_highest pr sc sg))), .second, .val (.ref b8), .val (.long (-9223372036854775808 : Int64)), .second, .val (.long (9223372036854775807 : Int64)), .second] [(.int (0 : Int32))])) (fun t k => XS.ifYes X178.here hx rfl (pc0 := 277) (pc' := 292) rfl (hb hby at_277) rfl ((if0 _ _).trans (feq (fun q => hc188 ((lw_eq (own_low (own_dec_r_lowest pr sc sg)) (-9223372036854775808 : Int64)).mp q))).2) (by decide) (by decide) (XS.iconst X178.here hx rfl (hb hby at_292) k)) ?_
        refine own_retN X178 hx hlk (ty := .boolean) hret (by simp) (hb hby at_293) (by decide) (by decide) ?_
        exact ⟨by rw [hj43, own_f0_j43, if_pos hc187, if_neg hc188] <;> rfl, N178⟩
    · refine own_via (T' := T178) (g' := (mkF m 206 #[.val (.int x0), .val (.int x1), .val (.int x2), .val (.int sg), .val (.int pr), .val (.int sc), .val (.ref r1), .val (.long (own_low (own_dec_r_lowest pr sc sg))), .second, .val (.long (own_high (own_dec_r_highest pr sc sg))), .second, .val (.ref b8), .unset, .unset, .unset, .unset] [(.int sc)])) (fun t k => XS.icmpNo X178.here hx rfl (hb hby at_201) rfl (flt hc187).1 (XS.iload X178.here hx rfl (hb hby at_204) rfl k)) ?_
      by_cases hc190 : sc = (0 : Int32)
      · refine own_via (T' := T178) (g' := (mkF m 226 #[.val (.int x0), .val (.int x1), .val (.int x2), .val (.int sg), .val (.int pr), .val (.int sc), .val (.ref r1), .val (.long (own_low (own_dec_r_lowest pr sc sg))), .second, .val (.long (own_high (own_dec_r_highest pr sc sg))), .second, .val (.ref b8), .unset, .unset, .unset, .unset] [(.int (18 : Int32)), (.int pr)])) (fun t k => XS.ifYes X178.here hx rfl (pc0 := 206) (pc' := 222) rfl (hb hby at_206) rfl ((if0 _ _).trans (teq hc190).1) (by decide) (by decide) (XS.iload X178.here hx rfl (hb hby at_222) rfl (XS.bipush X178.here hx rfl (hb hby at_224) k))) ?_
        by_cases hc191 : (18 : Int32) < pr
        · refine own_via (T' := T178) (g' := (mkF m 229 #[.val (.int x0), .val (.int x1), .val (.int x2), .val (.int sg), .val (.int pr), .val (.int sc), .val (.ref r1), .val (.long (own_low (own_dec_r_lowest pr sc sg))), .second, .val (.long (own_high (own_dec_r_highest pr sc sg))), .second, .val (.ref b8), .unset, .unset, .unset, .unset] [])) (fun t k => XS.icmpNo X178.here hx rfl (hb hby at_226) rfl (tlt hc191).2.2.2 k) ?_
          refine own_via (T' := T178) (g' := (mkF m 232 #[.val (.int x0), .val (.int x1), .val (.int x2), .val (.int sg), .val (.int pr), .val (.int sc), .val (.ref r1), .val (.long (own_low (own_dec_r_lowest pr sc sg))), .second, .val (.long (own_high (own_dec_r_highest pr sc sg))), .second, .val (.ref b8), .unset, .unset, .unset, .unset] [(.long (9223372036854775807 : Int64))])) (X178.ldc2Long hx hown (mvT hZ (hw _ (List.mem_of_getElem? (i := 40) rfl))) (g := (mkF m 229 #[.val (.int x0), .val (.int x1), .val (.int x2), .val (.int sg), .val (.int pr), .val (.int sc), .val (.ref r1), .val (.long (own_low (own_dec_r_lowest pr sc sg))), .second, .val (.long (own_high (own_dec_r_highest pr sc sg))), .second, .val (.ref b8), .unset, .unset, .unset, .unset] [])) rfl (hb hby at_229)) ?_
          refine own_via (T' := T178) (g' := (mkF m 235 #[.val (.int x0), .val (.int x1), .val (.int x2), .val (.int sg), .val (.int pr), .val (.int sc), .val (.ref r1), .val (.long (own_low (own_dec_r_lowest pr sc sg))), .second, .val (.long (own_high (own_dec_r_highest pr sc sg))), .second, .val (.ref b8), .unset, .unset, .val (.long (9223372036854775807 : Int64)), .second] [(.int sg)])) (fun t k => XS.lstore X178.here hx rfl (hb hby at_232) rfl (l' := #[.val (.int x0), .val (.int x1), .val (.int x2), .val (.int sg), .val (.int pr), .val (.int sc), .val (.ref r1), .val (.long (own_low (own_dec_r_lowest pr sc sg))), .second, .val (.long (own_high (own_dec_r_highest pr sc sg))), .second, .val (.ref b8), .unset, .unset, .val (.long (9223372036854775807 : Int64)), .second]) rfl (XS.iloadN X178.here hx rfl (hb hby at_234) rfl k)) ?_
          by_cases hc192 : sg = (0 : Int32)
          · refine own_via (T' := T178) (g' := (mkF m 277 #[.val (.int x0), .val (.int x1), .val (.int x2), .val (.int sg), .val (.int pr), .val (.int sc), .val (.ref r1), .val (.long (own_low (own_dec_r_lowest pr sc sg))), .second, .val (.long (own_high (own_dec_r_highest pr sc sg))), .second, .val (.ref b8), .val (.long (0 : Int64)), .second, .val (.long (9223372036854775807 : Int64)), .second] [(.int (lcmpW (own_low (own_dec_r_lowest pr sc sg)) (0 : Int64)))])) (fun t k => XS.ifYes X178.here hx rfl (pc0 := 235) (pc' := 244) rfl (hb hby at_235) rfl ((if0 _ _).trans (teq hc192).1) (by decide) (by decide) (XS.lconst X178.here hx rfl (hb hby at_244) (XS.lstore X178.here hx rfl (hb hby at_245) rfl (l' := #[.val (.int x0), .val (.int x1), .val (.int x2), .val (.int sg), .val (.int pr), .val (.int sc), .val (.ref r1), .val (.long (own_low (own_dec_r_lowest pr sc sg))), .second, .val (.long (own_high (own_dec_r_highest pr sc sg))), .second, .val (.ref b8), .val (.long (0 : Int64)), .second, .val (.long (9223372036854775807 : Int64)), .second]) rfl (XS.goto X178.here hx rfl (pc0 := 247) (pc' := 272) rfl (hb hby at_247) (by decide) (by decide) (XS.lload X178.here hx rfl (hb hby at_272) rfl (XS.lload X178.here hx rfl (hb hby at_274) rfl (XS.lcmp X178.here hx rfl (hb hby at_276) rfl k))))))) ?_
            by_cases hc193 : (own_low (own_dec_r_lowest pr sc sg)) = (0 : Int64)
            · refine own_via (T' := T178) (g' := (mkF m 285 #[.val (.int x0), .val (.int x1), .val (.int x2), .val (.int sg), .val (.int pr), .val (.int sc), .val (.ref r1), .val (.long (own_low (own_dec_r_lowest pr sc sg))), .second, .val (.long (own_high (own_dec_r_highest pr sc sg))), .second, .val (.ref b8), .val (.long (0 : Int64)), .second, .val (.long (9223372036854775807 : Int64)), .second] [(.int (lcmpW (own_high (own_dec_r_highest pr sc sg)) (9223372036854775807 : Int64)))])) (fun t k => XS.ifNo X178.here hx rfl (hb hby at_277) rfl ((if0 _ _).trans (teq ((lw_eq (own_low (own_dec_r_lowest pr sc sg)) (0 : Int64)).mpr hc193)).2) (XS.lload X178.here hx rfl (hb hby at_280) rfl (XS.lload X178.here hx rfl (hb hby at_282) rfl (XS.lcmp X178.here hx rfl (hb hby at_284) rfl k)))) ?_
              by_cases hc194 : (own_high (own_dec_r_highest pr sc sg)) = (9223372036854775807 : Int64)
              · refine own_via (T' := T178) (g' := (mkF m 293 #[.val (.int x0), .val (.int x1), .val (.int x2), .val (.int sg), .val (.int pr), .val (.int sc), .val (.ref r1), .val (.long (own_low (own_dec_r_lowest pr sc sg))), .second, .val (.long (own_high (own_dec_r_highest pr sc sg))), .second, .val (.ref b8), .val (.long (0 : Int64)), .second, .val (.long (9223372036854775807 : Int64)), .second] [(.int (1 : Int32))])) (fun t k => XS.ifNo X178.here hx rfl (hb hby at_285) rfl ((if0 _ _).trans (teq ((lw_eq (own_high (own_dec_r_highest pr sc sg)) (9223372036854775807 : Int64)).mpr hc194)).2) (XS.iconst X178.here hx rfl (hb hby at_288) (XS.goto X178.here hx rfl (pc0 := 289) (pc' := 293) rfl (hb hby at_289) (by decide) (by decide) k))) ?_
                refine own_retN X178 hx hlk (ty := .boolean) hret (by simp) (hb hby at_293) (by decide) (by decide) ?_
                exact ⟨by rw [hj43, own_f0_j43, if_neg hc187, if_pos hc190, if_pos hc191, if_pos hc192, if_pos hc193, if_pos hc194] <;> rfl, N178⟩
              · refine own_via (T' := T178) (g' := (mkF m 293 #[.val (.int x0), .val (.int x1), .val (.int x2), .val (.int sg), .val (.int pr), .val (.int sc), .val (.ref r1), .val (.long (own_low (own_dec_r_lowest pr sc sg))), .second, .val (.long (own_high (own_dec_r_highest pr sc sg))), .second, .val (.ref b8), .val (.long (0 : Int64)), .second, .val (.long (9223372036854775807 : Int64)), .second] [(.int (0 : Int32))])) (fun t k => XS.ifYes X178.here hx rfl (pc0 := 285) (pc' := 292) rfl (hb hby at_285) rfl ((if0 _ _).trans (feq (fun q => hc194 ((lw_eq (own_high (own_dec_r_highest pr sc sg)) (9223372036854775807 : Int64)).mp q))).2) (by decide) (by decide) (XS.iconst X178.here hx rfl (hb hby at_292) k)) ?_
                refine own_retN X178 hx hlk (ty := .boolean) hret (by simp) (hb hby at_293) (by decide) (by decide) ?_
                exact ⟨by rw [hj43, own_f0_j43, if_neg hc187, if_pos hc190, if_pos hc191, if_pos hc192, if_pos hc193, if_neg hc194] <;> rfl, N178⟩
            · refine own_via (T' := T178) (g' := (mkF m 293 #[.val (.int x0), .val (.int x1), .val (.int x2), .val (.int sg), .val (.int pr), .val (.int sc), .val (.ref r1), .val (.long (own_low (own_dec_r_lowest pr sc sg))), .second, .val (.long (own_high (own_dec_r_highest pr sc sg))), .second, .val (.ref b8), .val (.long (0 : Int64)), .second, .val (.long (9223372036854775807 : Int64)), .second] [(.int (0 : Int32))])) (fun t k => XS.ifYes X178.here hx rfl (pc0 := 277) (pc' := 292) rfl (hb hby at_277) rfl ((if0 _ _).trans (feq (fun q => hc193 ((lw_eq (own_low (own_dec_r_lowest pr sc sg)) (0 : Int64)).mp q))).2) (by decide) (by decide) (XS.iconst X178.here hx rfl (hb hby at_292) k)) ?_
              refine own_retN X178 hx hlk (ty := .boolean) hret (by simp) (hb hby at_293) (by decide) (by decide) ?_
              exact ⟨by rw [hj43, own_f0_j43, if_neg hc187, if_pos hc190, if_pos hc191, if_pos hc192, if_neg hc193] <;> rfl, N178⟩
          · refine own_via (T' := T178) (g' := (mkF m 238 #[.val (.int x0), .val (.int x1), .val (.int x2), .val (.int sg), .val (.int pr), .val (.int sc), .val (.ref r1), .val (.long (own_low (own_dec_r_lowest pr sc sg))), .second, .val (.long (own_high (own_dec_r_highest pr sc sg))), .second, .val (.ref b8), .unset, .unset, .val (.long (9223372036854775807 : Int64)), .second] [])) (fun t k => XS.ifNo X178.here hx rfl (hb hby at_235) rfl ((if0 _ _).trans (feq hc192).1) k) ?_
            refine own_via (T' := T178) (g' := (mkF m 241 #[.val (.int x0), .val (.int x1), .val (.int x2), .val (.int sg), .val (.int pr), .val (.int sc), .val (.ref r1), .val (.long (own_low (own_dec_r_lowest pr sc sg))), .second, .val (.long (own_high (own_dec_r_highest pr sc sg))), .second, .val (.ref b8), .unset, .unset, .val (.long (9223372036854775807 : Int64)), .second] [(.long (-9223372036854775808 : Int64))])) (X178.ldc2Long hx hown (mvT hZ (hw _ (List.mem_of_getElem? (i := 39) rfl))) (g := (mkF m 238 #[.val (.int x0), .val (.int x1), .val (.int x2), .val (.int sg), .val (.int pr), .val (.int sc), .val (.ref r1), .val (.long (own_low (own_dec_r_lowest pr sc sg))), .second, .val (.long (own_high (own_dec_r_highest pr sc sg))), .second, .val (.ref b8), .unset, .unset, .val (.long (9223372036854775807 : Int64)), .second] [])) rfl (hb hby at_238)) ?_
            refine own_via (T' := T178) (g' := (mkF m 277 #[.val (.int x0), .val (.int x1), .val (.int x2), .val (.int sg), .val (.int pr), .val (.int sc), .val (.ref r1), .val (.long (own_low (own_dec_r_lowest pr sc sg))), .second, .val (.long (own_high (own_dec_r_highest pr sc sg))), .second, .val (.ref b8), .val (.long (-9223372036854775808 : Int64)), .second, .val (.long (9223372036854775807 : Int64)), .second] [(.int (lcmpW (own_low (own_dec_r_lowest pr sc sg)) (-9223372036854775808 : Int64)))])) (fun t k => XS.goto X178.here hx rfl (pc0 := 241) (pc' := 245) rfl (hb hby at_241) (by decide) (by decide) (XS.lstore X178.here hx rfl (hb hby at_245) rfl (l' := #[.val (.int x0), .val (.int x1), .val (.int x2), .val (.int sg), .val (.int pr), .val (.int sc), .val (.ref r1), .val (.long (own_low (own_dec_r_lowest pr sc sg))), .second, .val (.long (own_high (own_dec_r_highest pr sc sg))), .second, .val (.ref b8), .val (.long (-9223372036854775808 : Int64)), .second, .val (.long (9223372036854775807 : Int64)), .second]) rfl (XS.goto X178.here hx rfl (pc0 := 247) (pc' := 272) rfl (hb hby at_247) (by decide) (by decide) (XS.lload X178.here hx rfl (hb hby at_272) rfl (XS.lload X178.here hx rfl (hb hby at_274) rfl (XS.lcmp X178.here hx rfl (hb hby at_276) rfl k)))))) ?_
            by_cases hc195 : (own_low (own_dec_r_lowest pr sc sg)) = (-9223372036854775808 : Int64)
            · refine own_via (T' := T178) (g' := (mkF m 285 #[.val (.int x0), .val (.int x1), .val (.int x2), .val (.int sg), .val (.int pr), .val (.int sc), .val (.ref r1), .val (.long (own_low (own_dec_r_lowest pr sc sg))), .second, .val (.long (own_high (own_dec_r_highest pr sc sg))), .second, .val (.ref b8), .val (.long (-9223372036854775808 : Int64)), .second, .val (.long (9223372036854775807 : Int64)), .second] [(.int (lcmpW (own_high (own_dec_r_highest pr sc sg)) (9223372036854775807 : Int64)))])) (fun t k => XS.ifNo X178.here hx rfl (hb hby at_277) rfl ((if0 _ _).trans (teq ((lw_eq (own_low (own_dec_r_lowest pr sc sg)) (-9223372036854775808 : Int64)).mpr hc195)).2) (XS.lload X178.here hx rfl (hb hby at_280) rfl (XS.lload X178.here hx rfl (hb hby at_282) rfl (XS.lcmp X178.here hx rfl (hb hby at_284) rfl k)))) ?_
              by_cases hc196 : (own_high (own_dec_r_highest pr sc sg)) = (9223372036854775807 : Int64)
              · refine own_via (T' := T178) (g' := (mkF m 293 #[.val (.int x0), .val (.int x1), .val (.int x2), .val (.int sg), .val (.int pr), .val (.int sc), .val (.ref r1), .val (.long (own_low (own_dec_r_lowest pr sc sg))), .second, .val (.long (own_high (own_dec_r_highest pr sc sg))), .second, .val (.ref b8), .val (.long (-9223372036854775808 : Int64)), .second, .val (.long (9223372036854775807 : Int64)), .second] [(.int (1 : Int32))])) (fun t k => XS.ifNo X178.here hx rfl (hb hby at_285) rfl ((if0 _ _).trans (teq ((lw_eq (own_high (own_dec_r_highest pr sc sg)) (9223372036854775807 : Int64)).mpr hc196)).2) (XS.iconst X178.here hx rfl (hb hby at_288) (XS.goto X178.here hx rfl (pc0 := 289) (pc' := 293) rfl (hb hby at_289) (by decide) (by decide) k))) ?_
                refine own_retN X178 hx hlk (ty := .boolean) hret (by simp) (hb hby at_293) (by decide) (by decide) ?_
                exact ⟨by rw [hj43, own_f0_j43, if_neg hc187, if_pos hc190, if_pos hc191, if_neg hc192, if_pos hc195, if_pos hc196] <;> rfl, N178⟩
              · refine own_via (T' := T178) (g' := (mkF m 293 #[.val (.int x0), .val (.int x1), .val (.int x2), .val (.int sg), .val (.int pr), .val (.int sc), .val (.ref r1), .val (.long (own_low (own_dec_r_lowest pr sc sg))), .second, .val (.long (own_high (own_dec_r_highest pr sc sg))), .second, .val (.ref b8), .val (.long (-9223372036854775808 : Int64)), .second, .val (.long (9223372036854775807 : Int64)), .second] [(.int (0 : Int32))])) (fun t k => XS.ifYes X178.here hx rfl (pc0 := 285) (pc' := 292) rfl (hb hby at_285) rfl ((if0 _ _).trans (feq (fun q => hc196 ((lw_eq (own_high (own_dec_r_highest pr sc sg)) (9223372036854775807 : Int64)).mp q))).2) (by decide) (by decide) (XS.iconst X178.here hx rfl (hb hby at_292) k)) ?_
                refine own_retN X178 hx hlk (ty := .boolean) hret (by simp) (hb hby at_293) (by decide) (by decide) ?_
                exact ⟨by rw [hj43, own_f0_j43, if_neg hc187, if_pos hc190, if_pos hc191, if_neg hc192, if_pos hc195, if_neg hc196] <;> rfl, N178⟩
            · refine own_via (T' := T178) (g' := (mkF m 293 #[.val (.int x0), .val (.int x1), .val (.int x2), .val (.int sg), .val (.int pr), .val (.int sc), .val (.ref r1), .val (.long (own_low (own_dec_r_lowest pr sc sg))), .second, .val (.long (own_high (own_dec_r_highest pr sc sg))), .second, .val (.ref b8), .val (.long (-9223372036854775808 : Int64)), .second, .val (.long (9223372036854775807 : Int64)), .second] [(.int (0 : Int32))])) (fun t k => XS.ifYes X178.here hx rfl (pc0 := 277) (pc' := 292) rfl (hb hby at_277) rfl ((if0 _ _).trans (feq (fun q => hc195 ((lw_eq (own_low (own_dec_r_lowest pr sc sg)) (-9223372036854775808 : Int64)).mp q))).2) (by decide) (by decide) (XS.iconst X178.here hx rfl (hb hby at_292) k)) ?_
              refine own_retN X178 hx hlk (ty := .boolean) hret (by simp) (hb hby at_293) (by decide) (by decide) ?_
              exact ⟨by rw [hj43, own_f0_j43, if_neg hc187, if_pos hc190, if_pos hc191, if_neg hc192, if_neg hc195] <;> rfl, N178⟩
        · refine own_via (T' := T178) (g' := (mkF m 254 #[.val (.int x0), .val (.int x1), .val (.int x2), .val (.int sg), .val (.int pr), .val (.int sc), .val (.ref r1), .val (.long (own_low (own_dec_r_lowest pr sc sg))), .second, .val (.long (own_high (own_dec_r_highest pr sc sg))), .second, .val (.ref b8), .unset, .unset, .unset, .unset] [(.int pr), (.ref b8)])) (fun t k => XS.icmpYes X178.here hx rfl (pc0 := 226) (pc' := 250) rfl (hb hby at_226) rfl (flt hc191).2.2.2 (by decide) (by decide) (XS.aload X178.here hx rfl (hb hby at_250) rfl rfl (XS.iload X178.here hx rfl (hb hby at_252) rfl k))) ?_
          refine own_via (T' := T178) (g' := (mkF m 255 #[.val (.int x0), .val (.int x1), .val (.int x2), .val (.int sg), .val (.int pr), .val (.int sc), .val (.ref r1), .val (.long (own_low (own_dec_r_lowest pr sc sg))), .second, .val (.long (own_high (own_dec_r_highest pr sc sg))), .second, .val (.ref b8), .unset, .unset, .unset, .unset] [(.long (own_pw pr))])) (own_ldJ X178 hx hZ e178 Vb8_178 (j := pr) (v := (.long (own_pw pr))) (own_nn hc187) (own_pw_at _ hc187 hc191) (g := (mkF m 254 #[.val (.int x0), .val (.int x1), .val (.int x2), .val (.int sg), .val (.int pr), .val (.int sc), .val (.ref r1), .val (.long (own_low (own_dec_r_lowest pr sc sg))), .second, .val (.long (own_high (own_dec_r_highest pr sc sg))), .second, .val (.ref b8), .unset, .unset, .unset, .unset] [(.int pr), (.ref b8)])) rfl rfl (hb hby at_254)) ?_
          refine own_via (T' := T178) (g' := (mkF m 260 #[.val (.int x0), .val (.int x1), .val (.int x2), .val (.int sg), .val (.int pr), .val (.int sc), .val (.ref r1), .val (.long (own_low (own_dec_r_lowest pr sc sg))), .second, .val (.long (own_high (own_dec_r_highest pr sc sg))), .second, .val (.ref b8), .unset, .unset, .val (.long ((own_pw pr) - (1 : Int64))), .second] [(.int sg)])) (fun t k => XS.lconst X178.here hx rfl (hb hby at_255) (XS.lsub X178.here hx rfl (hb hby at_256) rfl (XS.lstore X178.here hx rfl (hb hby at_257) rfl (l' := #[.val (.int x0), .val (.int x1), .val (.int x2), .val (.int sg), .val (.int pr), .val (.int sc), .val (.ref r1), .val (.long (own_low (own_dec_r_lowest pr sc sg))), .second, .val (.long (own_high (own_dec_r_highest pr sc sg))), .second, .val (.ref b8), .unset, .unset, .val (.long ((own_pw pr) - (1 : Int64))), .second]) rfl (XS.iloadN X178.here hx rfl (hb hby at_259) rfl k)))) ?_
          by_cases hc197 : sg = (0 : Int32)
          · refine own_via (T' := T178) (g' := (mkF m 277 #[.val (.int x0), .val (.int x1), .val (.int x2), .val (.int sg), .val (.int pr), .val (.int sc), .val (.ref r1), .val (.long (own_low (own_dec_r_lowest pr sc sg))), .second, .val (.long (own_high (own_dec_r_highest pr sc sg))), .second, .val (.ref b8), .val (.long (0 : Int64)), .second, .val (.long ((own_pw pr) - (1 : Int64))), .second] [(.int (lcmpW (own_low (own_dec_r_lowest pr sc sg)) (0 : Int64)))])) (fun t k => XS.ifYes X178.here hx rfl (pc0 := 260) (pc' := 269) rfl (hb hby at_260) rfl ((if0 _ _).trans (teq hc197).1) (by decide) (by decide) (XS.lconst X178.here hx rfl (hb hby at_269) (XS.lstore X178.here hx rfl (hb hby at_270) rfl (l' := #[.val (.int x0), .val (.int x1), .val (.int x2), .val (.int sg), .val (.int pr), .val (.int sc), .val (.ref r1), .val (.long (own_low (own_dec_r_lowest pr sc sg))), .second, .val (.long (own_high (own_dec_r_highest pr sc sg))), .second, .val (.ref b8), .val (.long (0 : Int64)), .second, .val (.long ((own_pw pr) - (1 : Int64))), .second]) rfl (XS.lload X178.here hx rfl (hb hby at_272) rfl (XS.lload X178.here hx rfl (hb hby at_274) rfl (XS.lcmp X178.here hx rfl (hb hby at_276) rfl k)))))) ?_
            by_cases hc198 : (own_low (own_dec_r_lowest pr sc sg)) = (0 : Int64)
            · refine own_via (T' := T178) (g' := (mkF m 285 #[.val (.int x0), .val (.int x1), .val (.int x2), .val (.int sg), .val (.int pr), .val (.int sc), .val (.ref r1), .val (.long (own_low (own_dec_r_lowest pr sc sg))), .second, .val (.long (own_high (own_dec_r_highest pr sc sg))), .second, .val (.ref b8), .val (.long (0 : Int64)), .second, .val (.long ((own_pw pr) - (1 : Int64))), .second] [(.int (lcmpW (own_high (own_dec_r_highest pr sc sg)) ((own_pw pr) - (1 : Int64))))])) (fun t k => XS.ifNo X178.here hx rfl (hb hby at_277) rfl ((if0 _ _).trans (teq ((lw_eq (own_low (own_dec_r_lowest pr sc sg)) (0 : Int64)).mpr hc198)).2) (XS.lload X178.here hx rfl (hb hby at_280) rfl (XS.lload X178.here hx rfl (hb hby at_282) rfl (XS.lcmp X178.here hx rfl (hb hby at_284) rfl k)))) ?_
              by_cases hc199 : (own_high (own_dec_r_highest pr sc sg)) = ((own_pw pr) - (1 : Int64))
              · refine own_via (T' := T178) (g' := (mkF m 293 #[.val (.int x0), .val (.int x1), .val (.int x2), .val (.int sg), .val (.int pr), .val (.int sc), .val (.ref r1), .val (.long (own_low (own_dec_r_lowest pr sc sg))), .second, .val (.long (own_high (own_dec_r_highest pr sc sg))), .second, .val (.ref b8), .val (.long (0 : Int64)), .second, .val (.long ((own_pw pr) - (1 : Int64))), .second] [(.int (1 : Int32))])) (fun t k => XS.ifNo X178.here hx rfl (hb hby at_285) rfl ((if0 _ _).trans (teq ((lw_eq (own_high (own_dec_r_highest pr sc sg)) ((own_pw pr) - (1 : Int64))).mpr hc199)).2) (XS.iconst X178.here hx rfl (hb hby at_288) (XS.goto X178.here hx rfl (pc0 := 289) (pc' := 293) rfl (hb hby at_289) (by decide) (by decide) k))) ?_
                refine own_retN X178 hx hlk (ty := .boolean) hret (by simp) (hb hby at_293) (by decide) (by decide) ?_
                exact ⟨by rw [hj43, own_f0_j43, if_neg hc187, if_pos hc190, if_neg hc191, if_pos hc197, if_pos hc198, if_pos hc199] <;> rfl, N178⟩
              · refine own_via (T' := T178) (g' := (mkF m 293 #[.val (.int x0), .val (.int x1), .val (.int x2), .val (.int sg), .val (.int pr), .val (.int sc), .val (.ref r1), .val (.long (own_low (own_dec_r_lowest pr sc sg))), .second, .val (.long (own_high (own_dec_r_highest pr sc sg))), .second, .val (.ref b8), .val (.long (0 : Int64)), .second, .val (.long ((own_pw pr) - (1 : Int64))), .second] [(.int (0 : Int32))])) (fun t k => XS.ifYes X178.here hx rfl (pc0 := 285) (pc' := 292) rfl (hb hby at_285) rfl ((if0 _ _).trans (feq (fun q => hc199 ((lw_eq (own_high (own_dec_r_highest pr sc sg)) ((own_pw pr) - (1 : Int64))).mp q))).2) (by decide) (by decide) (XS.iconst X178.here hx rfl (hb hby at_292) k)) ?_
                refine own_retN X178 hx hlk (ty := .boolean) hret (by simp) (hb hby at_293) (by decide) (by decide) ?_
                exact ⟨by rw [hj43, own_f0_j43, if_neg hc187, if_pos hc190, if_neg hc191, if_pos hc197, if_pos hc198, if_neg hc199] <;> rfl, N178⟩
            · refine own_via (T' := T178) (g' := (mkF m 293 #[.val (.int x0), .val (.int x1), .val (.int x2), .val (.int sg), .val (.int pr), .val (.int sc), .val (.ref r1), .val (.long (own_low (own_dec_r_lowest pr sc sg))), .second, .val (.long (own_high (own_dec_r_highest pr sc sg))), .second, .val (.ref b8), .val (.long (0 : Int64)), .second, .val (.long ((own_pw pr) - (1 : Int64))), .second] [(.int (0 : Int32))])) (fun t k => XS.ifYes X178.here hx rfl (pc0 := 277) (pc' := 292) rfl (hb hby at_277) rfl ((if0 _ _).trans (feq (fun q => hc198 ((lw_eq (own_low (own_dec_r_lowest pr sc sg)) (0 : Int64)).mp q))).2) (by decide) (by decide) (XS.iconst X178.here hx rfl (hb hby at_292) k)) ?_
              refine own_retN X178 hx hlk (ty := .boolean) hret (by simp) (hb hby at_293) (by decide) (by decide) ?_
              exact ⟨by rw [hj43, own_f0_j43, if_neg hc187, if_pos hc190, if_neg hc191, if_pos hc197, if_neg hc198] <;> rfl, N178⟩
          · refine own_via (T' := T178) (g' := (mkF m 277 #[.val (.int x0), .val (.int x1), .val (.int x2), .val (.int sg), .val (.int pr), .val (.int sc), .val (.ref r1), .val (.long (own_low (own_dec_r_lowest pr sc sg))), .second, .val (.long (own_high (own_dec_r_highest pr sc sg))), .second, .val (.ref b8), .val (.long (-((own_pw pr) - (1 : Int64)))), .second, .val (.long ((own_pw pr) - (1 : Int64))), .second] [(.int (lcmpW (own_low (own_dec_r_lowest pr sc sg)) (-((own_pw pr) - (1 : Int64)))))])) (fun t k => XS.ifNo X178.here hx rfl (hb hby at_260) rfl ((if0 _ _).trans (feq hc197).1) (XS.lload X178.here hx rfl (hb hby at_263) rfl (XS.lneg X178.here hx rfl (hb hby at_265) rfl (XS.goto X178.here hx rfl (pc0 := 266) (pc' := 270) rfl (hb hby at_266) (by decide) (by decide) (XS.lstore X178.here hx rfl (hb hby at_270) rfl (l' := #[.val (.int x0), .val (.int x1), .val (.int x2), .val (.int sg), .val (.int pr), .val (.int sc), .val (.ref r1), .val (.long (own_low (own_dec_r_lowest pr sc sg))), .second, .val (.long (own_high (own_dec_r_highest pr sc sg))), .second, .val (.ref b8), .val (.long (-((own_pw pr) - (1 : Int64)))), .second, .val (.long ((own_pw pr) - (1 : Int64))), .second]) rfl (XS.lload X178.here hx rfl (hb hby at_272) rfl (XS.lload X178.here hx rfl (hb hby at_274) rfl (XS.lcmp X178.here hx rfl (hb hby at_276) rfl k)))))))) ?_
            by_cases hc200 : (own_low (own_dec_r_lowest pr sc sg)) = (-((own_pw pr) - (1 : Int64)))
            · refine own_via (T' := T178) (g' := (mkF m 285 #[.val (.int x0), .val (.int x1), .val (.int x2), .val (.int sg), .val (.int pr), .val (.int sc), .val (.ref r1), .val (.long (own_low (own_dec_r_lowest pr sc sg))), .second, .val (.long (own_high (own_dec_r_highest pr sc sg))), .second, .val (.ref b8), .val (.long (-((own_pw pr) - (1 : Int64)))), .second, .val (.long ((own_pw pr) - (1 : Int64))), .second] [(.int (lcmpW (own_high (own_dec_r_highest pr sc sg)) ((own_pw pr) - (1 : Int64))))])) (fun t k => XS.ifNo X178.here hx rfl (hb hby at_277) rfl ((if0 _ _).trans (teq ((lw_eq (own_low (own_dec_r_lowest pr sc sg)) (-((own_pw pr) - (1 : Int64)))).mpr hc200)).2) (XS.lload X178.here hx rfl (hb hby at_280) rfl (XS.lload X178.here hx rfl (hb hby at_282) rfl (XS.lcmp X178.here hx rfl (hb hby at_284) rfl k)))) ?_
              by_cases hc201 : (own_high (own_dec_r_highest pr sc sg)) = ((own_pw pr) - (1 : Int64))
              · refine own_via (T' := T178) (g' := (mkF m 293 #[.val (.int x0), .val (.int x1), .val (.int x2), .val (.int sg), .val (.int pr), .val (.int sc), .val (.ref r1), .val (.long (own_low (own_dec_r_lowest pr sc sg))), .second, .val (.long (own_high (own_dec_r_highest pr sc sg))), .second, .val (.ref b8), .val (.long (-((own_pw pr) - (1 : Int64)))), .second, .val (.long ((own_pw pr) - (1 : Int64))), .second] [(.int (1 : Int32))])) (fun t k => XS.ifNo X178.here hx rfl (hb hby at_285) rfl ((if0 _ _).trans (teq ((lw_eq (own_high (own_dec_r_highest pr sc sg)) ((own_pw pr) - (1 : Int64))).mpr hc201)).2) (XS.iconst X178.here hx rfl (hb hby at_288) (XS.goto X178.here hx rfl (pc0 := 289) (pc' := 293) rfl (hb hby at_289) (by decide) (by decide) k))) ?_
                refine own_retN X178 hx hlk (ty := .boolean) hret (by simp) (hb hby at_293) (by decide) (by decide) ?_
                exact ⟨by rw [hj43, own_f0_j43, if_neg hc187, if_pos hc190, if_neg hc191, if_neg hc197, if_pos hc200, if_pos hc201] <;> rfl, N178⟩
              · refine own_via (T' := T178) (g' := (mkF m 293 #[.val (.int x0), .val (.int x1), .val (.int x2), .val (.int sg), .val (.int pr), .val (.int sc), .val (.ref r1), .val (.long (own_low (own_dec_r_lowest pr sc sg))), .second, .val (.long (own_high (own_dec_r_highest pr sc sg))), .second, .val (.ref b8), .val (.long (-((own_pw pr) - (1 : Int64)))), .second, .val (.long ((own_pw pr) - (1 : Int64))), .second] [(.int (0 : Int32))])) (fun t k => XS.ifYes X178.here hx rfl (pc0 := 285) (pc' := 292) rfl (hb hby at_285) rfl ((if0 _ _).trans (feq (fun q => hc201 ((lw_eq (own_high (own_dec_r_highest pr sc sg)) ((own_pw pr) - (1 : Int64))).mp q))).2) (by decide) (by decide) (XS.iconst X178.here hx rfl (hb hby at_292) k)) ?_
                refine own_retN X178 hx hlk (ty := .boolean) hret (by simp) (hb hby at_293) (by decide) (by decide) ?_
                exact ⟨by rw [hj43, own_f0_j43, if_neg hc187, if_pos hc190, if_neg hc191, if_neg hc197, if_pos hc200, if_neg hc201] <;> rfl, N178⟩
            · refine own_via (T' := T178) (g' := (mkF m 293 #[.val (.int x0), .val (.int x1), .val (.int x2), .val (.int sg), .val (.int pr), .val (.int sc), .val (.ref r1), .val (.long (own_low (own_dec_r_lowest pr sc sg))), .second, .val (.long (own_high (own_dec_r_highest pr sc sg))), .second, .val (.ref b8), .val (.long (-((own_pw pr) - (1 : Int64)))), .second, .val (.long ((own_pw pr) - (1 : Int64))), .second] [(.int (0 : Int32))])) (fun t k => XS.ifYes X178.here hx rfl (pc0 := 277) (pc' := 292) rfl (hb hby at_277) rfl ((if0 _ _).trans (feq (fun q => hc200 ((lw_eq (own_low (own_dec_r_lowest pr sc sg)) (-((own_pw pr) - (1 : Int64)))).mp q))).2) (by decide) (by decide) (XS.iconst X178.here hx rfl (hb hby at_292) k)) ?_
              refine own_retN X178 hx hlk (ty := .boolean) hret (by simp) (hb hby at_293) (by decide) (by decide) ?_
              exact ⟨by rw [hj43, own_f0_j43, if_neg hc187, if_pos hc190, if_neg hc191, if_neg hc197, if_neg hc200] <;> rfl, N178⟩
      · refine own_via (T' := T178) (g' := (mkF m 209 #[.val (.int x0), .val (.int x1), .val (.int x2), .val (.int sg), .val (.int pr), .val (.int sc), .val (.ref r1), .val (.long (own_low (own_dec_r_lowest pr sc sg))), .second, .val (.long (own_high (own_dec_r_highest pr sc sg))), .second, .val (.ref b8), .unset, .unset, .unset, .unset] [])) (fun t k => XS.ifNo X178.here hx rfl (hb hby at_206) rfl ((if0 _ _).trans (feq hc190).1) k) ?_
        refine own_via (T' := T178) (g' := (mkF m 212 #[.val (.int x0), .val (.int x1), .val (.int x2), .val (.int sg), .val (.int pr), .val (.int sc), .val (.ref r1), .val (.long (own_low (own_dec_r_lowest pr sc sg))), .second, .val (.long (own_high (own_dec_r_highest pr sc sg))), .second, .val (.ref b8), .unset, .unset, .unset, .unset] [(.long (-9223372036854775808 : Int64))])) (X178.ldc2Long hx hown (mvT hZ (hw _ (List.mem_of_getElem? (i := 39) rfl))) (g := (mkF m 209 #[.val (.int x0), .val (.int x1), .val (.int x2), .val (.int sg), .val (.int pr), .val (.int sc), .val (.ref r1), .val (.long (own_low (own_dec_r_lowest pr sc sg))), .second, .val (.long (own_high (own_dec_r_highest pr sc sg))), .second, .val (.ref b8), .unset, .unset, .unset, .unset] [])) rfl (hb hby at_209)) ?_
        refine own_via (T' := T178) (g' := (mkF m 214 #[.val (.int x0), .val (.int x1), .val (.int x2), .val (.int sg), .val (.int pr), .val (.int sc), .val (.ref r1), .val (.long (own_low (own_dec_r_lowest pr sc sg))), .second, .val (.long (own_high (own_dec_r_highest pr sc sg))), .second, .val (.ref b8), .val (.long (-9223372036854775808 : Int64)), .second, .unset, .unset] [])) (fun t k => XS.lstore X178.here hx rfl (hb hby at_212) rfl (l' := #[.val (.int x0), .val (.int x1), .val (.int x2), .val (.int sg), .val (.int pr), .val (.int sc), .val (.ref r1), .val (.long (own_low (own_dec_r_lowest pr sc sg))), .second, .val (.long (own_high (own_dec_r_highest pr sc sg))), .second, .val (.ref b8), .val (.long (-9223372036854775808 : Int64)), .second, .unset, .unset]) rfl k) ?_
        refine own_via (T' := T178) (g' := (mkF m 217 #[.val (.int x0), .val (.int x1), .val (.int x2), .val (.int sg), .val (.int pr), .val (.int sc), .val (.ref r1), .val (.long (own_low (own_dec_r_lowest pr sc sg))), .second, .val (.long (own_high (own_dec_r_highest pr sc sg))), .second, .val (.ref b8), .val (.long (-9223372036854775808 : Int64)), .second, .unset, .unset] [(.long (9223372036854775807 : Int64))])) (X178.ldc2Long hx hown (mvT hZ (hw _ (List.mem_of_getElem? (i := 40) rfl))) (g := (mkF m 214 #[.val (.int x0), .val (.int x1), .val (.int x2), .val (.int sg), .val (.int pr), .val (.int sc), .val (.ref r1), .val (.long (own_low (own_dec_r_lowest pr sc sg))), .second, .val (.long (own_high (own_dec_r_highest pr sc sg))), .second, .val (.ref b8), .val (.long (-9223372036854775808 : Int64)), .second, .unset, .unset] [])) rfl (hb hby at_214)) ?_
        refine own_via (T' := T178) (g' := (mkF m 277 #[.val (.int x0), .val (.int x1), .val (.int x2), .val (.int sg), .val (.int pr), .val (.int sc), .val (.ref r1), .val (.long (own_low (own_dec_r_lowest pr sc sg))), .second, .val (.long (own_high (own_dec_r_highest pr sc sg))), .second, .val (.ref b8), .val (.long (-9223372036854775808 : Int64)), .second, .val (.long (9223372036854775807 : Int64)), .second] [(.int (lcmpW (own_low (own_dec_r_lowest pr sc sg)) (-9223372036854775808 : Int64)))])) (fun t k => XS.lstore X178.here hx rfl (hb hby at_217) rfl (l' := #[.val (.int x0), .val (.int x1), .val (.int x2), .val (.int sg), .val (.int pr), .val (.int sc), .val (.ref r1), .val (.long (own_low (own_dec_r_lowest pr sc sg))), .second, .val (.long (own_high (own_dec_r_highest pr sc sg))), .second, .val (.ref b8), .val (.long (-9223372036854775808 : Int64)), .second, .val (.long (9223372036854775807 : Int64)), .second]) rfl (XS.goto X178.here hx rfl (pc0 := 219) (pc' := 272) rfl (hb hby at_219) (by decide) (by decide) (XS.lload X178.here hx rfl (hb hby at_272) rfl (XS.lload X178.here hx rfl (hb hby at_274) rfl (XS.lcmp X178.here hx rfl (hb hby at_276) rfl k))))) ?_
        by_cases hc202 : (own_low (own_dec_r_lowest pr sc sg)) = (-9223372036854775808 : Int64)
        · refine own_via (T' := T178) (g' := (mkF m 285 #[.val (.int x0), .val (.int x1), .val (.int x2), .val (.int sg), .val (.int pr), .val (.int sc), .val (.ref r1), .val (.long (own_low (own_dec_r_lowest pr sc sg))), .second, .val (.long (own_high (own_dec_r_highest pr sc sg))), .second, .val (.ref b8), .val (.long (-9223372036854775808 : Int64)), .second, .val (.long (9223372036854775807 : Int64)), .second] [(.int (lcmpW (own_high (own_dec_r_highest pr sc sg)) (9223372036854775807 : Int64)))])) (fun t k => XS.ifNo X178.here hx rfl (hb hby at_277) rfl ((if0 _ _).trans (teq ((lw_eq (own_low (own_dec_r_lowest pr sc sg)) (-9223372036854775808 : Int64)).mpr hc202)).2) (XS.lload X178.here hx rfl (hb hby at_280) rfl (XS.lload X178.here hx rfl (hb hby at_282) rfl (XS.lcmp X178.here hx rfl (hb hby at_284) rfl k)))) ?_
          by_cases hc203 : (own_high (own_dec_r_highest pr sc sg)) = (9223372036854775807 : Int64)
          · refine own_via (T' := T178) (g' := (mkF m 293 #[.val (.int x0), .val (.int x1), .val (.int x2), .val (.int sg), .val (.int pr), .val (.int sc), .val (.ref r1), .val (.long (own_low (own_dec_r_lowest pr sc sg))), .second, .val (.long (own_high (own_dec_r_highest pr sc sg))), .second, .val (.ref b8), .val (.long (-9223372036854775808 : Int64)), .second, .val (.long (9223372036854775807 : Int64)), .second] [(.int (1 : Int32))])) (fun t k => XS.ifNo X178.here hx rfl (hb hby at_285) rfl ((if0 _ _).trans (teq ((lw_eq (own_high (own_dec_r_highest pr sc sg)) (9223372036854775807 : Int64)).mpr hc203)).2) (XS.iconst X178.here hx rfl (hb hby at_288) (XS.goto X178.here hx rfl (pc0 := 289) (pc' := 293) rfl (hb hby at_289) (by decide) (by decide) k))) ?_
            refine own_retN X178 hx hlk (ty := .boolean) hret (by simp) (hb hby at_293) (by decide) (by decide) ?_
            exact ⟨by rw [hj43, own_f0_j43, if_neg hc187, if_neg hc190, if_pos hc202, if_pos hc203] <;> rfl, N178⟩
          · refine own_via (T' := T178) (g' := (mkF m 293 #[.val (.int x0), .val (.int x1), .val (.int x2), .val (.int sg), .val (.int pr), .val (.int sc), .val (.ref r1), .val (.long (own_low (own_dec_r_lowest pr sc sg))), .second, .val (.long (own_high (own_dec_r_highest pr sc sg))), .second, .val (.ref b8), .val (.long (-9223372036854775808 : Int64)), .second, .val (.long (9223372036854775807 : Int64)), .second] [(.int (0 : Int32))])) (fun t k => XS.ifYes X178.here hx rfl (pc0 := 285) (pc' := 292) rfl (hb hby at_285) rfl ((if0 _ _).trans (feq (fun q => hc203 ((lw_eq (own_high (own_dec_r_highest pr sc sg)) (9223372036854775807 : Int64)).mp q))).2) (by decide) (by decide) (XS.iconst X178.here hx rfl (hb hby at_292) k)) ?_
            refine own_retN X178 hx hlk (ty := .boolean) hret (by simp) (hb hby at_293) (by decide) (by decide) ?_
            exact ⟨by rw [hj43, own_f0_j43, if_neg hc187, if_neg hc190, if_pos hc202, if_neg hc203] <;> rfl, N178⟩
        · refine own_via (T' := T178) (g' := (mkF m 293 #[.val (.int x0), .val (.int x1), .val (.int x2), .val (.int sg), .val (.int pr), .val (.int sc), .val (.ref r1), .val (.long (own_low (own_dec_r_lowest pr sc sg))), .second, .val (.long (own_high (own_dec_r_highest pr sc sg))), .second, .val (.ref b8), .val (.long (-9223372036854775808 : Int64)), .second, .val (.long (9223372036854775807 : Int64)), .second] [(.int (0 : Int32))])) (fun t k => XS.ifYes X178.here hx rfl (pc0 := 277) (pc' := 292) rfl (hb hby at_277) rfl ((if0 _ _).trans (feq (fun q => hc202 ((lw_eq (own_low (own_dec_r_lowest pr sc sg)) (-9223372036854775808 : Int64)).mp q))).2) (by decide) (by decide) (XS.iconst X178.here hx rfl (hb hby at_292) k)) ?_
          refine own_retN X178 hx hlk (ty := .boolean) hret (by simp) (hb hby at_293) (by decide) (by decide) ?_
          exact ⟨by rw [hj43, own_f0_j43, if_neg hc187, if_neg hc190, if_neg hc202] <;> rfl, N178⟩
  refine own_via (T' := s₁) (g' := (mkF m 3 #[.val (.int x0), .val (.int x1), .val (.int x2), .unset, .unset, .unset, .unset, .unset, .unset, .unset, .unset, .unset, .unset, .unset, .unset, .unset] [(.int (x2 &&& (1 : Int32)))])) (fun t k => XS.iloadN X0.here hx rfl (hb hby at_0) rfl (XS.iconst X0.here hx rfl (hb hby at_1) (XS.iand X0.here hx rfl (hb hby at_2) rfl k))) ?_
  by_cases hc204 : (x2 &&& (1 : Int32)) = (0 : Int32)
  · refine own_via (T' := s₁) (g' := (mkF m 15 #[.val (.int x0), .val (.int x1), .val (.int x2), .val (.int (0 : Int32)), .unset, .unset, .unset, .unset, .unset, .unset, .unset, .unset, .unset, .unset, .unset, .unset] [(.int (x2 &&& (2 : Int32)))])) (fun t k => XS.ifYes X0.here hx rfl (pc0 := 3) (pc' := 10) rfl (hb hby at_3) rfl ((if0 _ _).trans (teq hc204).1) (by decide) (by decide) (XS.iconst X0.here hx rfl (hb hby at_10) (XS.istoreN X0.here hx rfl (hb hby at_11) rfl (l' := #[.val (.int x0), .val (.int x1), .val (.int x2), .val (.int (0 : Int32)), .unset, .unset, .unset, .unset, .unset, .unset, .unset, .unset, .unset, .unset, .unset, .unset]) rfl (XS.iloadN X0.here hx rfl (hb hby at_12) rfl (XS.iconst X0.here hx rfl (hb hby at_13) (XS.iand X0.here hx rfl (hb hby at_14) rfl k)))))) ?_
    by_cases hc205 : (x2 &&& (2 : Int32)) = (0 : Int32)
    · refine own_via (T' := s₁) (g' := (mkF m 33 #[.val (.int x0), .val (.int x1), .val (.int x2), .val (.int (0 : Int32)), .val (.int ((x0 &&& (31 : Int32)) - (2 : Int32))), .unset, .unset, .unset, .unset, .unset, .unset, .unset, .unset, .unset, .unset, .unset] [(.int (x2 &&& (4 : Int32)))])) (fun t k => XS.ifYes X0.here hx rfl (pc0 := 15) (pc' := 22) rfl (hb hby at_15) rfl ((if0 _ _).trans (teq hc205).1) (by decide) (by decide) (XS.iloadN X0.here hx rfl (hb hby at_22) rfl (XS.bipush X0.here hx rfl (hb hby at_23) (XS.iand X0.here hx rfl (hb hby at_25) rfl (XS.iconst X0.here hx rfl (hb hby at_26) (XS.isub X0.here hx rfl (hb hby at_27) rfl (XS.istore X0.here hx rfl (hb hby at_28) rfl (l' := #[.val (.int x0), .val (.int x1), .val (.int x2), .val (.int (0 : Int32)), .val (.int ((x0 &&& (31 : Int32)) - (2 : Int32))), .unset, .unset, .unset, .unset, .unset, .unset, .unset, .unset, .unset, .unset, .unset]) rfl (XS.iloadN X0.here hx rfl (hb hby at_30) rfl (XS.iconst X0.here hx rfl (hb hby at_31) (XS.iand X0.here hx rfl (hb hby at_32) rfl k)))))))))) ?_
      by_cases hc206 : (x2 &&& (4 : Int32)) = (0 : Int32)
      · refine own_via (T' := s₁) (g' := (mkF m 43 #[.val (.int x0), .val (.int x1), .val (.int x2), .val (.int (0 : Int32)), .val (.int ((x0 &&& (31 : Int32)) - (2 : Int32))), .val (.int (0 : Int32)), .unset, .unset, .unset, .unset, .unset, .unset, .unset, .unset, .unset, .unset] [])) (fun t k => XS.ifYes X0.here hx rfl (pc0 := 33) (pc' := 40) rfl (hb hby at_33) rfl ((if0 _ _).trans (teq hc206).1) (by decide) (by decide) (XS.iconst X0.here hx rfl (hb hby at_40) (XS.istore X0.here hx rfl (hb hby at_41) rfl (l' := #[.val (.int x0), .val (.int x1), .val (.int x2), .val (.int (0 : Int32)), .val (.int ((x0 &&& (31 : Int32)) - (2 : Int32))), .val (.int (0 : Int32)), .unset, .unset, .unset, .unset, .unset, .unset, .unset, .unset, .unset, .unset]) rfl k))) ?_
        exact j43 (0 : Int32) ((x0 &&& (31 : Int32)) - (2 : Int32)) (0 : Int32) (by rw [own_f0, if_pos hc204, if_pos hc205, if_pos hc206])
      · refine own_via (T' := s₁) (g' := (mkF m 43 #[.val (.int x0), .val (.int x1), .val (.int x2), .val (.int (0 : Int32)), .val (.int ((x0 &&& (31 : Int32)) - (2 : Int32))), .val (.int x1), .unset, .unset, .unset, .unset, .unset, .unset, .unset, .unset, .unset, .unset] [])) (fun t k => XS.ifNo X0.here hx rfl (hb hby at_33) rfl ((if0 _ _).trans (feq hc206).1) (XS.iloadN X0.here hx rfl (hb hby at_36) rfl (XS.goto X0.here hx rfl (pc0 := 37) (pc' := 41) rfl (hb hby at_37) (by decide) (by decide) (XS.istore X0.here hx rfl (hb hby at_41) rfl (l' := #[.val (.int x0), .val (.int x1), .val (.int x2), .val (.int (0 : Int32)), .val (.int ((x0 &&& (31 : Int32)) - (2 : Int32))), .val (.int x1), .unset, .unset, .unset, .unset, .unset, .unset, .unset, .unset, .unset, .unset]) rfl k)))) ?_
        exact j43 (0 : Int32) ((x0 &&& (31 : Int32)) - (2 : Int32)) x1 (by rw [own_f0, if_pos hc204, if_pos hc205, if_neg hc206])
    · refine own_via (T' := s₁) (g' := (mkF m 33 #[.val (.int x0), .val (.int x1), .val (.int x2), .val (.int (0 : Int32)), .val (.int x0), .unset, .unset, .unset, .unset, .unset, .unset, .unset, .unset, .unset, .unset, .unset] [(.int (x2 &&& (4 : Int32)))])) (fun t k => XS.ifNo X0.here hx rfl (hb hby at_15) rfl ((if0 _ _).trans (feq hc205).1) (XS.iloadN X0.here hx rfl (hb hby at_18) rfl (XS.goto X0.here hx rfl (pc0 := 19) (pc' := 28) rfl (hb hby at_19) (by decide) (by decide) (XS.istore X0.here hx rfl (hb hby at_28) rfl (l' := #[.val (.int x0), .val (.int x1), .val (.int x2), .val (.int (0 : Int32)), .val (.int x0), .unset, .unset, .unset, .unset, .unset, .unset, .unset, .unset, .unset, .unset, .unset]) rfl (XS.iloadN X0.here hx rfl (hb hby at_30) rfl (XS.iconst X0.here hx rfl (hb hby at_31) (XS.iand X0.here hx rfl (hb hby at_32) rfl k))))))) ?_
      by_cases hc207 : (x2 &&& (4 : Int32)) = (0 : Int32)
      · refine own_via (T' := s₁) (g' := (mkF m 43 #[.val (.int x0), .val (.int x1), .val (.int x2), .val (.int (0 : Int32)), .val (.int x0), .val (.int (0 : Int32)), .unset, .unset, .unset, .unset, .unset, .unset, .unset, .unset, .unset, .unset] [])) (fun t k => XS.ifYes X0.here hx rfl (pc0 := 33) (pc' := 40) rfl (hb hby at_33) rfl ((if0 _ _).trans (teq hc207).1) (by decide) (by decide) (XS.iconst X0.here hx rfl (hb hby at_40) (XS.istore X0.here hx rfl (hb hby at_41) rfl (l' := #[.val (.int x0), .val (.int x1), .val (.int x2), .val (.int (0 : Int32)), .val (.int x0), .val (.int (0 : Int32)), .unset, .unset, .unset, .unset, .unset, .unset, .unset, .unset, .unset, .unset]) rfl k))) ?_
        exact j43 (0 : Int32) x0 (0 : Int32) (by rw [own_f0, if_pos hc204, if_neg hc205, if_pos hc207])
      · refine own_via (T' := s₁) (g' := (mkF m 43 #[.val (.int x0), .val (.int x1), .val (.int x2), .val (.int (0 : Int32)), .val (.int x0), .val (.int x1), .unset, .unset, .unset, .unset, .unset, .unset, .unset, .unset, .unset, .unset] [])) (fun t k => XS.ifNo X0.here hx rfl (hb hby at_33) rfl ((if0 _ _).trans (feq hc207).1) (XS.iloadN X0.here hx rfl (hb hby at_36) rfl (XS.goto X0.here hx rfl (pc0 := 37) (pc' := 41) rfl (hb hby at_37) (by decide) (by decide) (XS.istore X0.here hx rfl (hb hby at_41) rfl (l' := #[.val (.int x0), .val (.int x1), .val (.int x2), .val (.int (0 : Int32)), .val (.int x0), .val (.int x1), .unset, .unset, .unset, .unset, .unset, .unset, .unset, .unset, .unset, .unset]) rfl k)))) ?_
        exact j43 (0 : Int32) x0 x1 (by rw [own_f0, if_pos hc204, if_neg hc205, if_neg hc207])
  · refine own_via (T' := s₁) (g' := (mkF m 15 #[.val (.int x0), .val (.int x1), .val (.int x2), .val (.int (1 : Int32)), .unset, .unset, .unset, .unset, .unset, .unset, .unset, .unset, .unset, .unset, .unset, .unset] [(.int (x2 &&& (2 : Int32)))])) (fun t k => XS.ifNo X0.here hx rfl (hb hby at_3) rfl ((if0 _ _).trans (feq hc204).1) (XS.iconst X0.here hx rfl (hb hby at_6) (XS.goto X0.here hx rfl (pc0 := 7) (pc' := 11) rfl (hb hby at_7) (by decide) (by decide) (XS.istoreN X0.here hx rfl (hb hby at_11) rfl (l' := #[.val (.int x0), .val (.int x1), .val (.int x2), .val (.int (1 : Int32)), .unset, .unset, .unset, .unset, .unset, .unset, .unset, .unset, .unset, .unset, .unset, .unset]) rfl (XS.iloadN X0.here hx rfl (hb hby at_12) rfl (XS.iconst X0.here hx rfl (hb hby at_13) (XS.iand X0.here hx rfl (hb hby at_14) rfl k))))))) ?_
    by_cases hc208 : (x2 &&& (2 : Int32)) = (0 : Int32)
    · refine own_via (T' := s₁) (g' := (mkF m 33 #[.val (.int x0), .val (.int x1), .val (.int x2), .val (.int (1 : Int32)), .val (.int ((x0 &&& (31 : Int32)) - (2 : Int32))), .unset, .unset, .unset, .unset, .unset, .unset, .unset, .unset, .unset, .unset, .unset] [(.int (x2 &&& (4 : Int32)))])) (fun t k => XS.ifYes X0.here hx rfl (pc0 := 15) (pc' := 22) rfl (hb hby at_15) rfl ((if0 _ _).trans (teq hc208).1) (by decide) (by decide) (XS.iloadN X0.here hx rfl (hb hby at_22) rfl (XS.bipush X0.here hx rfl (hb hby at_23) (XS.iand X0.here hx rfl (hb hby at_25) rfl (XS.iconst X0.here hx rfl (hb hby at_26) (XS.isub X0.here hx rfl (hb hby at_27) rfl (XS.istore X0.here hx rfl (hb hby at_28) rfl (l' := #[.val (.int x0), .val (.int x1), .val (.int x2), .val (.int (1 : Int32)), .val (.int ((x0 &&& (31 : Int32)) - (2 : Int32))), .unset, .unset, .unset, .unset, .unset, .unset, .unset, .unset, .unset, .unset, .unset]) rfl (XS.iloadN X0.here hx rfl (hb hby at_30) rfl (XS.iconst X0.here hx rfl (hb hby at_31) (XS.iand X0.here hx rfl (hb hby at_32) rfl k)))))))))) ?_
      by_cases hc209 : (x2 &&& (4 : Int32)) = (0 : Int32)
      · refine own_via (T' := s₁) (g' := (mkF m 43 #[.val (.int x0), .val (.int x1), .val (.int x2), .val (.int (1 : Int32)), .val (.int ((x0 &&& (31 : Int32)) - (2 : Int32))), .val (.int (0 : Int32)), .unset, .unset, .unset, .unset, .unset, .unset, .unset, .unset, .unset, .unset] [])) (fun t k => XS.ifYes X0.here hx rfl (pc0 := 33) (pc' := 40) rfl (hb hby at_33) rfl ((if0 _ _).trans (teq hc209).1) (by decide) (by decide) (XS.iconst X0.here hx rfl (hb hby at_40) (XS.istore X0.here hx rfl (hb hby at_41) rfl (l' := #[.val (.int x0), .val (.int x1), .val (.int x2), .val (.int (1 : Int32)), .val (.int ((x0 &&& (31 : Int32)) - (2 : Int32))), .val (.int (0 : Int32)), .unset, .unset, .unset, .unset, .unset, .unset, .unset, .unset, .unset, .unset]) rfl k))) ?_
        exact j43 (1 : Int32) ((x0 &&& (31 : Int32)) - (2 : Int32)) (0 : Int32) (by rw [own_f0, if_neg hc204, if_pos hc208, if_pos hc209])
      · refine own_via (T' := s₁) (g' := (mkF m 43 #[.val (.int x0), .val (.int x1), .val (.int x2), .val (.int (1 : Int32)), .val (.int ((x0 &&& (31 : Int32)) - (2 : Int32))), .val (.int x1), .unset, .unset, .unset, .unset, .unset, .unset, .unset, .unset, .unset, .unset] [])) (fun t k => XS.ifNo X0.here hx rfl (hb hby at_33) rfl ((if0 _ _).trans (feq hc209).1) (XS.iloadN X0.here hx rfl (hb hby at_36) rfl (XS.goto X0.here hx rfl (pc0 := 37) (pc' := 41) rfl (hb hby at_37) (by decide) (by decide) (XS.istore X0.here hx rfl (hb hby at_41) rfl (l' := #[.val (.int x0), .val (.int x1), .val (.int x2), .val (.int (1 : Int32)), .val (.int ((x0 &&& (31 : Int32)) - (2 : Int32))), .val (.int x1), .unset, .unset, .unset, .unset, .unset, .unset, .unset, .unset, .unset, .unset]) rfl k)))) ?_
        exact j43 (1 : Int32) ((x0 &&& (31 : Int32)) - (2 : Int32)) x1 (by rw [own_f0, if_neg hc204, if_pos hc208, if_neg hc209])
    · refine own_via (T' := s₁) (g' := (mkF m 33 #[.val (.int x0), .val (.int x1), .val (.int x2), .val (.int (1 : Int32)), .val (.int x0), .unset, .unset, .unset, .unset, .unset, .unset, .unset, .unset, .unset, .unset, .unset] [(.int (x2 &&& (4 : Int32)))])) (fun t k => XS.ifNo X0.here hx rfl (hb hby at_15) rfl ((if0 _ _).trans (feq hc208).1) (XS.iloadN X0.here hx rfl (hb hby at_18) rfl (XS.goto X0.here hx rfl (pc0 := 19) (pc' := 28) rfl (hb hby at_19) (by decide) (by decide) (XS.istore X0.here hx rfl (hb hby at_28) rfl (l' := #[.val (.int x0), .val (.int x1), .val (.int x2), .val (.int (1 : Int32)), .val (.int x0), .unset, .unset, .unset, .unset, .unset, .unset, .unset, .unset, .unset, .unset, .unset]) rfl (XS.iloadN X0.here hx rfl (hb hby at_30) rfl (XS.iconst X0.here hx rfl (hb hby at_31) (XS.iand X0.here hx rfl (hb hby at_32) rfl k))))))) ?_
      by_cases hc210 : (x2 &&& (4 : Int32)) = (0 : Int32)
      · refine own_via (T' := s₁) (g' := (mkF m 43 #[.val (.int x0), .val (.int x1), .val (.int x2), .val (.int (1 : Int32)), .val (.int x0), .val (.int (0 : Int32)), .unset, .unset, .unset, .unset, .unset, .unset, .unset, .unset, .unset, .unset] [])) (fun t k => XS.ifYes X0.here hx rfl (pc0 := 33) (pc' := 40) rfl (hb hby at_33) rfl ((if0 _ _).trans (teq hc210).1) (by decide) (by decide) (XS.iconst X0.here hx rfl (hb hby at_40) (XS.istore X0.here hx rfl (hb hby at_41) rfl (l' := #[.val (.int x0), .val (.int x1), .val (.int x2), .val (.int (1 : Int32)), .val (.int x0), .val (.int (0 : Int32)), .unset, .unset, .unset, .unset, .unset, .unset, .unset, .unset, .unset, .unset]) rfl k))) ?_
        exact j43 (1 : Int32) x0 (0 : Int32) (by rw [own_f0, if_neg hc204, if_neg hc208, if_pos hc210])
      · refine own_via (T' := s₁) (g' := (mkF m 43 #[.val (.int x0), .val (.int x1), .val (.int x2), .val (.int (1 : Int32)), .val (.int x0), .val (.int x1), .unset, .unset, .unset, .unset, .unset, .unset, .unset, .unset, .unset, .unset] [])) (fun t k => XS.ifNo X0.here hx rfl (hb hby at_33) rfl ((if0 _ _).trans (feq hc210).1) (XS.iloadN X0.here hx rfl (hb hby at_36) rfl (XS.goto X0.here hx rfl (pc0 := 37) (pc' := 41) rfl (hb hby at_37) (by decide) (by decide) (XS.istore X0.here hx rfl (hb hby at_41) rfl (l' := #[.val (.int x0), .val (.int x1), .val (.int x2), .val (.int (1 : Int32)), .val (.int x0), .val (.int x1), .unset, .unset, .unset, .unset, .unset, .unset, .unset, .unset, .unset, .unset]) rfl k)))) ?_
        exact j43 (1 : Int32) x0 x1 (by rw [own_f0, if_neg hc204, if_neg hc208, if_neg hc210])
theorem own_fin : ∀ n : Fin 19, 0 < n.val → own_dec_r_highest (Int32.ofNat n.val) 0 0 = own_pw (Int32.ofNat n.val) - 1 ∧ own_dec_r_highest (Int32.ofNat n.val) 0 1 = own_pw (Int32.ofNat n.val) - 1 ∧ own_dec_r_lowest (Int32.ofNat n.val) 0 0 = 0 ∧ own_dec_r_lowest (Int32.ofNat n.val) 0 1 = -(own_pw (Int32.ofNat n.val) - 1) := by decide +kernel
theorem own_sg (p s z : Int32) (h : ¬ z = 0) : own_dec_r_highest p s z = own_dec_r_highest p s 1 ∧ own_dec_r_lowest p s z = own_dec_r_lowest p s 1 := by
  unfold own_dec_r_highest own_dec_r_lowest
  have k : ¬ (1 : Int32) = 0 := by decide
  simp only [h, k, if_false, and_self]
theorem own_tail (x0 x1 x2 sg p s : Int32) : own_f0_j43 x0 x1 x2 sg p s = 1 := by
  unfold own_f0_j43
  by_cases h1 : p < 1
  · simp [h1, own_low, own_high, own_dec_r_highest, own_dec_r_lowest]
  by_cases h2 : s = 0
  · subst h2
    by_cases h3 : (18 : Int32) < p
    · by_cases h4 : sg = 0 <;> simp [h1, h3, h4, own_low, own_high, own_dec_r_highest, own_dec_r_lowest]
    · obtain ⟨e1, e2⟩ := own_cn h1
      have h3' := h3
      rw [Int32.lt_iff_toInt_lt] at h3'
      have k1 : (18 : Int32).toInt = 18 := by decide
      have e3 : p = Int32.ofNat p.toNatClampNeg := by
        apply Int32.toInt_inj.mp
        rw [Int32.toInt_ofNat_of_lt (by omega), e1]
      obtain ⟨f1, f2, f3, f4⟩ := own_fin ⟨p.toNatClampNeg, by omega⟩ (by show 0 < p.toNatClampNeg; omega)
      simp only [← e3] at f1 f2 f3 f4
      by_cases h4 : sg = 0
      · subst h4; simp [h1, h3, own_low, own_high, f1, f3]
      · obtain ⟨s1, s2⟩ := own_sg p 0 sg h4
        simp [h1, h3, h4, own_low, own_high, s1, s2, f2, f4]
  · simp [h1, h2, own_low, own_high, own_dec_r_highest, own_dec_r_lowest]
theorem own_law (x0 x1 x2 : Int32) : own_f0 x0 x1 x2 = 1 := by
  unfold own_f0
  simp only [own_tail, ite_self]
set_option maxRecDepth 65536 in
set_option maxHeartbeats 40000000 in
theorem own_comes {Post : Tables → Env → Array Value → State → Outcome → State → Prop} (hpost : ∀ tb e args s v u, (limb_1_1.after args s (.returned v) u = true ∧ limb_1_2.after args s (.returned v) u = true ∧ True) → FrameEnd s (.returned v) u (Jvm.fieldLocs frame_1_writes args s ++ Jvm.arrayLocs frame_1_arrays args s ++ Jvm.staticLocs frame_1_statics s) 16 128 → Post tb e args s (.returned v) u) :
    ArmFor flags0 classFile x code maxLocals ret World_1 tables_1 room_1 Calls_1 rest_1 Pre_1 Post := by
  intro l hfl _ _ p e ha hc hk s m args below hf hA hF happ hP
  obtain ⟨hcalls, hrest, hpre⟩ := hP
  obtain ⟨-, -, -, hnamed, -, -, -, hat⟩ := (Spec.applies_iff hf).mp happ
  obtain ⟨hg, hn⟩ := and_e (Cond.before_iff.mp (show (Jvm.Cond.and given_1 narrow_1).before args s = true from hpre))
  obtain ⟨g1, g2⟩ := and_e hg
  obtain ⟨g3, g4⟩ := and_e g2
  obtain ⟨g5, g6⟩ := and_e g4
  obtain ⟨w0, w1, w2, rfl⟩ : ∃ w0 w1 w2 : Value, args = #[w0, w1, w2] := by
    have hs : args.size = 3 := by simpa [Cond.value, given_1] using g1
    obtain ⟨L⟩ := args
    match L, hs with
    | [w0, w1, w2], _ => exact ⟨w0, w1, w2, rfl⟩
  have hw := fun d (hd : d ∈ tables_1) => atoms_spec (ws := Jvm.Cond.code x code maxLocals ret :: tables_1) hat d (List.mem_cons_of_mem _ hd)
  have hfit : Fit s := fun {y c} hc i hi => by
    obtain ⟨ha, rfl⟩ := Array.getElem?_eq_some_iff.mp hc
    have q := List.all_eq_true.mp ((Array.all_eq_true_iff_forall_mem.mp hF) _ (Array.getElem_mem ha)) i (List.mem_range.mpr hi)
    simpa [Array.getElem?_eq_getElem hi] using q
  obtain ⟨i0, ei0⟩ := is_v g3
  obtain rfl : w0 = (.int i0) := Option.some.inj ei0
  obtain ⟨i1, ei1⟩ := is_v g5
  obtain rfl : w1 = (.int i1) := Option.some.inj ei1
  obtain ⟨i2, ei2⟩ := is_v g6
  obtain rfl : w2 = (.int i2) := Option.some.inj ei2
  unfold narrow_1 at hn
  obtain ⟨q1, hn⟩ := and_e hn
  obtain ⟨q2, q3⟩ := and_e hn
  obtain ⟨ev, ee⟩ := exa_v q1
  have E_ev := Exa.start ee q1
  have S_ev := Sta.start ee (Or.inr ⟨hw _ (List.mem_of_getElem? (i := 2) rfl), hw _ (List.mem_of_getElem? (i := 5) rfl)⟩)
  have Fl := own_fldJ q2 ee
  have Fh := own_fldJ q3 ee
  obtain ⟨n, o, h1, h2, h3, _, L, rfl, ⟨hval, N⟩, hq⟩ := own_mt0 l s _ hw i0 i1 i2 ev s.heap s.heap.size (Nat.le_refl _) S_ev E_ev Fl Fh tables_1 p e ha hc hk s m _ below hf ((Spec.applies_iff_loose hf).mp happ).1 ⟨rfl, State.Warmed39.refl s, rfl⟩ trivial
  rw [own_law i0 i1 i2] at hval
  subst hval
  refine ⟨n, _, h1, h2, h3, hpost _ _ _ _ _ _ ⟨Cond.after_iff.mpr rfl, Cond.after_iff.mpr (eq_i res_at (Term.int_eval (1)) rfl), trivial⟩ ⟨hq.1, hq.2.1, (hq.2.2.sift fun y hy => Or.inr (N y hy)).mono (by decide) (by decide)⟩⟩
theorem main_1_1 : Claimed_1_1 := own_comes fun _ _ _ _ _ _ h hF => ⟨h.1, hF⟩
theorem main_1_2 : Claimed_1_2 := own_comes fun _ _ _ _ _ _ h hF => ⟨h.2.1, hF⟩
end Jvm.Pilot.@@N@@
namespace Jvm.Pilot.@@N@@
open Jvm Jvm.ClassFile Sem Op Lib Jvm.Free Jvm.Stand Jvm.Pilot.@@N@@.Jvm.D
/-! MADE BY PROGRAM (witnessworld.py) out of the Statement's table words and the real class files: 11 classes; the members and pool entries that the words name. The judged class is class 1, her method 1. -/
namespace start1
open Jvm.ClassFile
def u (s : String) : CpInfo := .utf8 (stringToUtf16 s)
/-- a pool by its gaps: so many unusable entries, then the entry; so many at the end -/
def gap : Nat → List CpInfo → List CpInfo
  | 0, r => r
  | n + 1, r => .unusable :: gap n r
def poolList (es : List (Nat × CpInfo)) (last : Nat) : List CpInfo := es.foldr (fun e r => gap e.1 (e.2 :: r)) (gap last [])
def pool (es : List (Nat × CpInfo)) (last : Nat) : Array CpInfo := ⟨poolList es last⟩
def fileOf (pool : Array CpInfo) (this : Nat) (attrs : Array Attribute := #[]) (ms : Array MethodInfo := #[]) (fl : Nat := 33) (sup : Nat := 0) (ifs : Array Nat := #[]) (fds : Array FieldInfo := #[]) : ClassFile where
  minorVersion := 0
  majorVersion := 65
  constantPool := pool
  accessFlags := fl
  thisClass := this
  superClass := sup
  interfaces := ifs
  fields := fds
  methods := ms
  attributes := attrs
def plain (name : String) (sup : Option ClassId) : Class where
  name := name
  kind := .ordinary
  loader := none
  accessFlags := 33
  super := sup
  interfaces := #[]
  cf := none
  fields := #[]
  methods := #[]
  instanceTypes := #[]
  staticTypes := #[]
  resolved := #[]
  callSites := []
  init := .initialized
  statics := none
  mirror := none

def pool0 : Array CpInfo := pool [(5, u "<init>"), (0, u "()V"), (1, .class_ 10), (1, u "java/lang/Object")] 113

def k0c0 : Code := { maxStack := 0, maxLocals := 1, code := object_method_1_code, exceptionTable := #[], attributes := #[] }
def k0m0 : Method := { name := "<init>", desc := "()V", sig := { parameters := [], returnType := none }, accessFlags := 1, code := some k0c0 }
/-- java/lang/Object -/
def k0 : Class := { plain "java/lang/Object" none with
  accessFlags := 33
  interfaces := #[]
  cf := some (fileOf pool0 8 #[] #[{ accessFlags := 1, nameIndex := 5, descriptorIndex := 6, attributes := #[] }] 33 0 #[] #[])
  fields := #[]
  methods := #[k0m0]
  instanceTypes := #[]
  staticTypes := #[]
  resolved := Array.replicate 124 none
  statics := none }

def pool1 : Array CpInfo := pool [(2, .class_ 4), (1, u "java/lang/Object"), (0, u "<init>"), (0, u "()V"), (0, .methodref 8 9), (0, .class_ 10), (0, .nameAndType 11 12), (0, u "com/example/surrogate/surrogate/KeyRange"), (0, u "ofDecimal"), (0, u "(IIZ)Lcom/example/surrogate/surrogate/KeyRange;"), (0, .methodref 8 14), (0, .nameAndType 15 16), (0, u "lowest"), (0, u "()J"), (0, .methodref 8 18), (0, .nameAndType 19 16), (0, u "highest"), (0, .long 10), (1, .long 100), (1, .long 1000), (1, .long 10000), (1, .long 100000), (1, .long 1000000), (1, .long 10000000), (1, .long 100000000), (1, .long 1000000000), (1, .long 10000000000), (1, .long 100000000000), (1, .long 1000000000000), (1, .long 10000000000000), (1, .long 100000000000000), (1, .long 1000000000000000), (1, .long 10000000000000000), (1, .long 100000000000000000), (1, .long 1000000000000000000), (3, .long 9223372036854775808), (1, .long 9223372036854775807), (1, .class_ 63), (0, u "com/example/surrogate/surrogate/KeyRangeOfDecimalPinLaw"), (2, u "law"), (0, u "(III)Z")] 5

def k1m0 : Method := { name := "<init>", desc := "()V", sig := { parameters := [], returnType := none }, accessFlags := 1, code := none }
def k1c1 : Code := { maxStack := 5, maxLocals := 16, code := code, exceptionTable := #[], attributes := #[] }
def k1m1 : Method := { name := "law", desc := "(III)Z", sig := { parameters := [.int, .int, .int], returnType := some .boolean }, accessFlags := 9, code := some k1c1 }
/-- com/example/surrogate/surrogate/KeyRangeOfDecimalPinLaw -/
def k1 : Class := { plain "com/example/surrogate/surrogate/KeyRangeOfDecimalPinLaw" (some 0) with
  accessFlags := 49
  interfaces := #[]
  cf := some (fileOf pool1 62 #[] #[{ accessFlags := 1, nameIndex := 5, descriptorIndex := 6, attributes := #[] }, { accessFlags := 9, nameIndex := 66, descriptorIndex := 67, attributes := #[] }] 49 2 #[] #[])
  fields := #[]
  methods := #[k1m0, k1m1]
  instanceTypes := #[]
  staticTypes := #[]
  resolved := Array.replicate 73 none
  statics := none }

def pool2 : Array CpInfo := pool [(1, .methodref 2 3), (0, .class_ 4), (0, .nameAndType 5 6), (0, u "java/lang/Object"), (0, u "<init>"), (0, u "()V"), (0, .fieldref 8 9), (0, .class_ 10), (0, .nameAndType 11 12), (0, u "com/example/surrogate/surrogate/KeyRange"), (0, u "lowest"), (0, u "J"), (0, .fieldref 8 14), (0, .nameAndType 15 12), (0, u "highest"), (2, .long 9223372036854775807), (1, .methodref 8 21), (0, .nameAndType 5 22), (0, u "(JJ)V"), (0, .fieldref 8 24), (0, .nameAndType 25 26), (0, u "EVERY_LONG"), (0, u "Lcom/example/surrogate/surrogate/KeyRange;"), (0, .long 10), (7, u "OUT_OF_RANGE"), (0, u "Ljava/lang/String;"), (3, u "LONG_DIGITS"), (0, u "I"), (6, u "ofDecimal"), (0, u "(IIZ)Lcom/example/surrogate/surrogate/KeyRange;"), (0, u "()J")] 22

def k2c0 : Code := { maxStack := 3, maxLocals := 5, code := prog_24_method_1_code, exceptionTable := #[], attributes := #[] }
def k2m0 : Method := { name := "<init>", desc := "(JJ)V", sig := { parameters := [.long, .long], returnType := none }, accessFlags := 2, code := some k2c0 }
def k2c1 : Code := { maxStack := 6, maxLocals := 6, code := prog_24_method_3_code, exceptionTable := #[], attributes := #[] }
def k2m1 : Method := { name := "ofDecimal", desc := "(IIZ)Lcom/example/surrogate/surrogate/KeyRange;", sig := { parameters := [.int, .int, .boolean], returnType := some (.object "com/example/surrogate/surrogate/KeyRange") }, accessFlags := 8, code := some k2c1 }
def k2c2 : Code := { maxStack := 2, maxLocals := 1, code := prog_24_method_4_code, exceptionTable := #[], attributes := #[] }
def k2m2 : Method := { name := "lowest", desc := "()J", sig := { parameters := [], returnType := some .long }, accessFlags := 0, code := some k2c2 }
def k2c3 : Code := { maxStack := 2, maxLocals := 1, code := prog_24_method_5_code, exceptionTable := #[], attributes := #[] }
def k2m3 : Method := { name := "highest", desc := "()J", sig := { parameters := [], returnType := some .long }, accessFlags := 0, code := some k2c3 }
/-- com/example/surrogate/surrogate/KeyRange -/
def k2 : Class := { plain "com/example/surrogate/surrogate/KeyRange" (some 0) with
  accessFlags := 32
  interfaces := #[]
  cf := some (fileOf pool2 8 #[] #[{ accessFlags := 2, nameIndex := 5, descriptorIndex := 22, attributes := #[] }, { accessFlags := 8, nameIndex := 48, descriptorIndex := 49, attributes := #[] }, { accessFlags := 0, nameIndex := 11, descriptorIndex := 50, attributes := #[] }, { accessFlags := 0, nameIndex := 15, descriptorIndex := 50, attributes := #[] }] 32 2 #[] #[{ accessFlags := 24, nameIndex := 25, descriptorIndex := 26, attributes := #[] }, { accessFlags := 24, nameIndex := 35, descriptorIndex := 36, attributes := #[] }, { accessFlags := 26, nameIndex := 40, descriptorIndex := 41, attributes := #[] }, { accessFlags := 18, nameIndex := 11, descriptorIndex := 12, attributes := #[] }, { accessFlags := 18, nameIndex := 15, descriptorIndex := 12, attributes := #[] }])
  fields := #[{ name := "EVERY_LONG", type := (.object "com/example/surrogate/surrogate/KeyRange"), accessFlags := 24, slot := 0, constantValue := 0 }, { name := "OUT_OF_RANGE", type := (.object "java/lang/String"), accessFlags := 24, slot := 1, constantValue := 0 }, { name := "LONG_DIGITS", type := .int, accessFlags := 26, slot := 2, constantValue := 0 }, { name := "lowest", type := .long, accessFlags := 18, slot := 0, constantValue := 0 }, { name := "highest", type := .long, accessFlags := 18, slot := 1, constantValue := 0 }]
  methods := #[k2m0, k2m1, k2m2, k2m3]
  instanceTypes := #[.long, .long]
  staticTypes := #[(.object "com/example/surrogate/surrogate/KeyRange"), (.object "java/lang/String"), .int]
  resolved := Array.replicate 73 none
  statics := some 0 }

def pool3 : Array CpInfo := pool [(1, u "java/lang/Cloneable"), (0, .class_ 1), (0, u "java/lang/Object"), (0, .class_ 3)] 3

/-- java/lang/Cloneable -/
def k3 : Class := { plain "java/lang/Cloneable" (some 0) with
  accessFlags := 1537
  interfaces := #[]
  cf := some (fileOf pool3 2 #[] #[] 1537 4 #[] #[])
  fields := #[]
  methods := #[]
  instanceTypes := #[]
  staticTypes := #[]
  resolved := Array.replicate 8 none
  statics := none }

def pool4 : Array CpInfo := pool [(1, u "java/io/Serializable"), (0, .class_ 1), (0, u "java/lang/Object"), (0, .class_ 3)] 3

/-- java/io/Serializable -/
def k4 : Class := { plain "java/io/Serializable" (some 0) with
  accessFlags := 1537
  interfaces := #[]
  cf := some (fileOf pool4 2 #[] #[] 1537 4 #[] #[])
  fields := #[]
  methods := #[]
  instanceTypes := #[]
  staticTypes := #[]
  resolved := Array.replicate 8 none
  statics := none }

/-- the primitive byte -/
def k5 : Class := { plain "byte" none with kind := .primitive 'B', accessFlags := 0x411 }
/-- [B -/
def k6 : Class := { plain "[B" (some 0) with kind := .array 5 .byte, interfaces := #[3, 4], accessFlags := 1041 }

/-- the primitive int -/
def k7 : Class := { plain "int" none with kind := .primitive 'I', accessFlags := 0x411 }
/-- [I -/
def k8 : Class := { plain "[I" (some 0) with kind := .array 7 .int, interfaces := #[3, 4], accessFlags := 1041 }

/-- the primitive long -/
def k9 : Class := { plain "long" none with kind := .primitive 'J', accessFlags := 0x411 }
/-- [J -/
def k10 : Class := { plain "[J" (some 0) with kind := .array 9 .long, interfaces := #[3, 4], accessFlags := 1041 }

def heap : Heap := #[{ cls := 2, slots := #[.ref 1, .null, .int 0], vm := .statics 2 },
  { cls := 2, slots := #[.long (-9223372036854775808), .long 9223372036854775807], vm := .none }]
def classes : Array Class := #[k0, k1, k2, k3, k4, k5, k6, k7, k8, k9, k10]
def interned : List (Array UInt16 × Addr) := []
def slotsUsed : Nat := 5
def theMethod : MethodId := ⟨1, 1⟩
def args0 : Array Value := #[.int 5, .int 3, .int 1]
def aboutOver (below : List Frame) : State where
  vm := { classes := classes, interned := interned.toArray }
  heap := heap
  slotsUsed := slotsUsed
  threads := #[{ frames := .invoking theMethod args0 :: below }]
def below0 : List Frame := [.native { method := ⟨0, 0⟩, args := #[] }]
def about1 : State := aboutOver below0
def p0 : Program := .bare "" "" ""
def e0 : Env := launch0.env 0 0 0
theorem w_frames : about1.frames = Frame.invoking theMethod args0 :: below0 := rfl
set_option maxRecDepth 65536 in
theorem w_args : argsFit about1.vm theMethod args0 = true := by decide +kernel
set_option maxRecDepth 65536 in
theorem w_heap : heapFits about1 = true := by decide +kernel
set_option maxRecDepth 65536 in
theorem w_runnable : about1.curStatus? = some .runnable := by decide +kernel
set_option maxRecDepth 65536 in
theorem w_alone : about1.alone = true := by decide +kernel
set_option maxRecDepth 65536 in
theorem w_named : about1.methodNamed? x = some theMethod := by decide +kernel
set_option maxRecDepth 65536 in
theorem w_hears : about1.hears theMethod below0 = true := by decide +kernel
set_option maxRecDepth 65536 in
theorem w_ripe : about1.ripe theMethod args0 below0 = true := by decide +kernel
theorem w_running : about1.status = .running := rfl
set_option maxRecDepth 65536 in
theorem w_room : about1.hasRoom e0.platform room_1 = true :=
  launch0.hasRoom_least _ room_1 (by decide +kernel) (by decide +kernel) (by decide +kernel) (by decide +kernel) (by decide +kernel) (by decide +kernel)
theorem allAtoms_all (ts : List Jvm.Cond) (a : Array Jvm.Value) (st : Jvm.State) : (allAtoms ts).before a st = ts.all (fun c => c.before a st) := by
  induction ts with
  | nil => rfl
  | cons c t ih =>
    show (Jvm.Cond.and c (allAtoms t)).before a st = _
    rw [Jvm.Cond.before_and, ih, List.all_cons]
def words1 : List Jvm.Cond := Jvm.Cond.code x code maxLocals ret :: tables_1
/-- a 'code' word, met by the world's own term for the bytes: nothing is compared byte by byte -/
theorem code_word {y : MethodName} {bytes : ByteArray} {mx : Nat} {rt : Option FieldType} {a : Array Value} {s : State} {m : MethodId} {meth : Method} {c : Code} (h1 : s.methodNamed? y = some m) (h2 : s.vm.method? m = some meth) (h3 : meth.code = some c) (h4 : c.code = bytes)
    (h5 : (c.maxLocals == mx && c.exceptionTable.isEmpty && decide (c.maxStack ≤ mostOperands) && decide (meth.sig.returnType = rt) && !meth.locks && decide (parseMethodDescriptor y.desc = some meth.sig)) = true) : (Jvm.Cond.code y bytes mx rt).before a s = true := by
  simp only [Bool.and_eq_true, beq_iff_eq, Bool.not_eq_true', decide_eq_true_eq] at h5
  obtain ⟨⟨⟨⟨⟨g1, g2⟩, g3⟩, g4⟩, g5⟩, g6⟩ := h5
  simp [Cond.before, Cond.holds, Cond.value, h1, h2, h3, h4, g1, g2, g3, g4, g5, g6]
def isCode : Jvm.Cond → Bool
  | .code _ _ _ _ => true
  | _ => false
theorem all_split {L : List Jvm.Cond} {P : Jvm.Cond → Bool} (h1 : L.all (fun c => isCode c || P c) = true) (h2 : ∀ c ∈ L.filter isCode, P c = true) : L.all P = true := by
  refine List.all_eq_true.mpr fun c hc => ?_
  have h := List.all_eq_true.mp h1 c hc
  rcases Bool.eq_false_or_eq_true (isCode c) with hi | hi
  · exact h2 c (List.mem_filter.mpr ⟨hc, hi⟩)
  · simpa [hi] using h
set_option maxRecDepth 65536 in
theorem w_c0 : (Jvm.Cond.code x code maxLocals ret).before args0 about1 = true := code_word (m := ⟨1, 1⟩) (meth := k1m1) (c := k1c1) (by decide +kernel) rfl rfl rfl (by decide +kernel)
set_option maxRecDepth 65536 in
theorem w_c1 : (Jvm.Cond.code ({ cls := "com/example/surrogate/surrogate/KeyRange", name := "ofDecimal", desc := "(IIZ)Lcom/example/surrogate/surrogate/KeyRange;" } : Jvm.MethodName) prog_24_method_3_code (6 : Nat) (Option.some (Jvm.ClassFile.FieldType.object "com/example/surrogate/surrogate/KeyRange"))).before args0 about1 = true := code_word (m := ⟨2, 1⟩) (meth := k2m1) (c := k2c1) (by decide +kernel) rfl rfl rfl (by decide +kernel)
set_option maxRecDepth 65536 in
theorem w_c2 : (Jvm.Cond.code ({ cls := "com/example/surrogate/surrogate/KeyRange", name := "lowest", desc := "()J" } : Jvm.MethodName) prog_24_method_4_code (1 : Nat) (Option.some Jvm.ClassFile.FieldType.long)).before args0 about1 = true := code_word (m := ⟨2, 2⟩) (meth := k2m2) (c := k2c2) (by decide +kernel) rfl rfl rfl (by decide +kernel)
set_option maxRecDepth 65536 in
theorem w_c3 : (Jvm.Cond.code ({ cls := "com/example/surrogate/surrogate/KeyRange", name := "highest", desc := "()J" } : Jvm.MethodName) prog_24_method_5_code (1 : Nat) (Option.some Jvm.ClassFile.FieldType.long)).before args0 about1 = true := code_word (m := ⟨2, 3⟩) (meth := k2m3) (c := k2c3) (by decide +kernel) rfl rfl rfl (by decide +kernel)
set_option maxRecDepth 65536 in
theorem w_c4 : (Jvm.Cond.code ({ cls := "com/example/surrogate/surrogate/KeyRange", name := "<init>", desc := "(JJ)V" } : Jvm.MethodName) prog_24_method_1_code (5 : Nat) (Option.none : Option Jvm.ClassFile.FieldType)).before args0 about1 = true := code_word (m := ⟨2, 0⟩) (meth := k2m0) (c := k2c0) (by decide +kernel) rfl rfl rfl (by decide +kernel)
set_option maxRecDepth 65536 in
theorem w_c5 : (Jvm.Cond.code ({ cls := "java/lang/Object", name := "<init>", desc := "()V" } : Jvm.MethodName) object_method_1_code (1 : Nat) (Option.none : Option Jvm.ClassFile.FieldType)).before args0 about1 = true := code_word (m := ⟨0, 0⟩) (meth := k0m0) (c := k0c0) (by decide +kernel) rfl rfl rfl (by decide +kernel)
def codes1 : List Jvm.Cond := [Jvm.Cond.code x code maxLocals ret, Jvm.Cond.code ({ cls := "com/example/surrogate/surrogate/KeyRange", name := "ofDecimal", desc := "(IIZ)Lcom/example/surrogate/surrogate/KeyRange;" } : Jvm.MethodName) prog_24_method_3_code (6 : Nat) (Option.some (Jvm.ClassFile.FieldType.object "com/example/surrogate/surrogate/KeyRange")), Jvm.Cond.code ({ cls := "com/example/surrogate/surrogate/KeyRange", name := "lowest", desc := "()J" } : Jvm.MethodName) prog_24_method_4_code (1 : Nat) (Option.some Jvm.ClassFile.FieldType.long), Jvm.Cond.code ({ cls := "com/example/surrogate/surrogate/KeyRange", name := "highest", desc := "()J" } : Jvm.MethodName) prog_24_method_5_code (1 : Nat) (Option.some Jvm.ClassFile.FieldType.long), Jvm.Cond.code ({ cls := "com/example/surrogate/surrogate/KeyRange", name := "<init>", desc := "(JJ)V" } : Jvm.MethodName) prog_24_method_1_code (5 : Nat) (Option.none : Option Jvm.ClassFile.FieldType), Jvm.Cond.code ({ cls := "java/lang/Object", name := "<init>", desc := "()V" } : Jvm.MethodName) object_method_1_code (1 : Nat) (Option.none : Option Jvm.ClassFile.FieldType)]
set_option maxRecDepth 65536 in
theorem codes_eq : words1.filter isCode = codes1 := rfl
theorem w_codes : ∀ c ∈ words1.filter isCode, c.before args0 about1 = true := by
  rw [codes_eq]
  intro c hc
  simp only [codes1, List.mem_cons, List.not_mem_nil, or_false] at hc
  rcases hc with rfl | rfl | rfl | rfl | rfl | rfl
  · exact w_c0
  · exact w_c1
  · exact w_c2
  · exact w_c3
  · exact w_c4
  · exact w_c5
set_option maxRecDepth 65536 in
theorem w_t1 : (words1.take 24).all (fun c => isCode c || c.before args0 about1) = true := by decide +kernel
set_option maxRecDepth 65536 in
theorem w_t2 : ((words1.drop 24).take 24).all (fun c => isCode c || c.before args0 about1) = true := by decide +kernel
set_option maxRecDepth 65536 in
theorem w_t3 : ((words1.drop 24).drop 24).all (fun c => isCode c || c.before args0 about1) = true := by decide +kernel
theorem w_tables : (allAtoms (Jvm.Cond.code x code maxLocals ret :: tables_1)).before args0 about1 = true := by
  rw [allAtoms_all]
  show words1.all (fun c => c.before args0 about1) = true
  refine all_split ?_ w_codes
  rw [← List.take_append_drop 24 words1, List.all_append, w_t1, ← List.take_append_drop 24 (words1.drop 24), List.all_append, w_t2, w_t3]
  rfl
set_option maxRecDepth 65536 in
theorem w_case : (Jvm.Cond.and given_1 narrow_1).before args0 about1 = true := by decide +kernel
theorem w_applies : (headSpec (Jvm.Cond.code x code maxLocals ret :: tables_1) room_1).applies x e0.platform about1 = true :=
  (Spec.applies_iff w_frames).mpr ⟨w_running, w_runnable, w_alone, w_named, w_hears, w_ripe, w_room, w_tables⟩
theorem atStart : AtStart classFile x code maxLocals ret World_1 tables_1 room_1 Calls_1 rest_1 Pre_1 launch0 p0 e0 about1 theMethod args0 below0 :=
  ⟨lists_1, trivial, launch0.admits_env _ _ _, launch0.least_env, fairChoices_fair.cas, fairChoices_fair.clock, w_frames, w_args, w_heap, w_applies, trivial, trivial, w_case⟩
end start1
theorem witness_1 : WitnessClaimed_1 := ⟨start1.p0, start1.e0, start1.about1, start1.theMethod, start1.args0, start1.below0, start1.atStart⟩
end Jvm.Pilot.@@N@@
