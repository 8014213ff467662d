import JvmDerived
import JvmDerived.Pilot.@@N@@Statement
import JvmDerived.Pilot.@@N@@Code
set_option linter.unusedVariables false
set_option linter.unusedSimpArgs false
namespace Jvm.Pilot.@@N@@
open Jvm Jvm.ClassFile Sem Op Lib Jvm.Free Jvm.Stand Jvm.LawKit Jvm.RoadKit Bundle Jvm.Pilot.@@N@@.Jvm.D
/-! my own small kit: a walk by continuation -/
section Own
variable {p : Program} {l : Launch} {e : Env} {R : Room} {s : State} {m : MethodId} {args : Array Value} {below : List Frame} {meth : Method} {c : Code} {T T' : State} {locs : List Loc} {cells slots : Nat} {Z : State} {a0 : Array Value} {h h' h0 : Heap} {g g' : JFrame} {a b : Addr} {ty : FieldType} {vs : List Value} {v w : Value} {sl : Nat} {ws : List Addr}
/-- from the frame g over T the run comes to an end with G -/
def own_Go (p : Program) (e : Env) (below : List Frame) (G : Outcome → State → Prop) (T : State) (g : JFrame) : Prop := ∃ s₂ o, Steps p.tables e below (T.setTop g) s₂ ∧ s₂.status = .running ∧ Ended s₂ below o ∧ G o s₂
def own_End (s : State) (kc ks : Nat) (Q : Option Value → Heap → List Loc → Prop) (o : Outcome) (U' : State) : Prop := ∃ v L, o = .returned v ∧ Q v U'.heap L ∧ FrameEnd s o U' L kc ks
def own_Met (l : Launch) (Z : State) (y : MethodName) (bytes : ByteArray) (maxL : Nat) (ret : Option FieldType) (rm : Room) (as' : Array Value) (h0 : Heap) (Q : Option Value → Heap → List Loc → Prop) : Prop :=
  ∀ ws : List Jvm.Cond, MetFree l y (head1 (Jvm.Cond.code y bytes maxL ret :: ws) rm) (fun a U => a = as' ∧ Z.Warmed39 U.vm ∧ U.heap = h0) (fun _ _ _ _ _ => True) (fun _ U o U' => ∃ v L, o = .returned v ∧ Q v U'.heap L ∧ FrameEnd U o U' L rm.cells rm.slots)
theorem own_via {G : Outcome → State → Prop} (q : ∀ t, Steps p.tables e below (T'.setTop g') t → Steps p.tables e below (T.setTop g) t) (k : own_Go p e below G T' g') : own_Go p e below G T g := by
  obtain ⟨t, o, h1, r⟩ := k; exact ⟨t, o, q t h1, r⟩
theorem own_cast {G : Outcome → State → Prop} (q : g = g') (k : own_Go p e below G T g') : own_Go p e below G T g := q ▸ k
theorem own_intro {y : MethodName} {bytes : ByteArray} {maxL : Nat} {ret : Option FieldType} {rm : Room} {as' : Array Value} {Q : Option Value → Heap → List Loc → Prop} (hp : plainFor y = true)
    (body : ∀ (p : Program) (e : Env) (s : State) (m : MethodId) (below : List Frame) (meth : Method) (c : Code) (s₁ : State), p.tables.exec = Jvm.exec → c.code = bytes → c.maxLocals = maxL → s.vm.findClass y.cls = some m.cls → meth.name = y.name → Z.Warmed39 s.vm → meth.sig.returnType = ret → meth.locks = false → Stand p l e rm s m as' below meth c s₁ [] 0 0 → s₁.heap = h0 → own_Go p e below (own_End s rm.cells rm.slots Q) s₁ (entryFrame m as' maxL)) : own_Met l Z y bytes maxL ret rm as' h0 Q := by
  intro ws
  refine MetFree.of_bodySF hp hisR ?_
  intro p e s m args below meth c s₁ Bd hml hP hK
  obtain ⟨rfl, hZ, hh⟩ := hP
  exact body p e s m below meth c s₁ Bd.exec Bd.bytes hml (findClass_of_methodNamed Bd.named) (name_of_methodNamed Bd.named Bd.method).1 hZ Bd.returns Bd.notSynchronized (Stand.of_body Bd) (by rw [← hh, Bd.state]; rfl)
theorem own_ends {kc ks : Nat} {Q : Option Value → Heap → List Loc → Prop} (X : Stand p l e R s m args below meth c T locs cells slots) (hlk : meth.locks = false) {u : Option Value} (hv : meth.sig.returnType = none → u = none) (hq : Q u T.heap locs) (hc : cells ≤ kc) (hs : slots ≤ ks)
    (st : ∀ fs, (∀ (f : JFrame) (acts : List Action), f.method = m → f.locked = none → f.entered = [] → (doReturn e (T.setTop f) acts u).1 = T.setFrames fs) → Steps p.tables e below (T.setTop g) (T.setFrames fs)) : own_Go p e below (own_End s kc ks Q) T g := by
  obtain ⟨fs, hr, hrun, hended, hW, hsame⟩ := X.leave (v := u) hv hlk
  exact ⟨_, _, st fs hr, hrun, hended, _, _, rfl, hq, ⟨_, rfl⟩, hW, hsame.mono hc hs⟩
theorem own_retI {kc ks : Nat} {Q : Option Value → Heap → List Loc → Prop} (X : Stand p l e R s m args below meth c T locs cells slots) (hx : p.tables.exec = Jvm.exec) (hlk : meth.locks = false) {pc : Nat} {Ls : Array Slot} {z : Int32} {rest : List Value} (hret : meth.sig.returnType = some .int) (hd : decode c.code pc = .ok (.ireturn, 1)) (hc : cells ≤ kc) (hs : slots ≤ ks) (hq : Q (some (.int z)) T.heap locs) : own_Go p e below (own_End s kc ks Q) T (mkF m pc Ls (.int z :: rest)) :=
  own_ends X hlk (fun q => by rw [hret] at q; cases q) hq hc hs fun fs hr => retOut X hx hret rfl (Or.inl ⟨rfl, Or.inl rfl, _, rfl⟩) hd hr
theorem own_retJ {kc ks : Nat} {Q : Option Value → Heap → List Loc → Prop} (X : Stand p l e R s m args below meth c T locs cells slots) (hx : p.tables.exec = Jvm.exec) (hlk : meth.locks = false) {pc : Nat} {Ls : Array Slot} {z : Int64} {rest : List Value} (hret : meth.sig.returnType = some .long) (hd : decode c.code pc = .ok (.lreturn, 1)) (hc : cells ≤ kc) (hs : slots ≤ ks) (hq : Q (some (.long z)) T.heap locs) : own_Go p e below (own_End s kc ks Q) T (mkF m pc Ls (.long z :: rest)) :=
  own_ends X hlk (fun q => by rw [hret] at q; cases q) hq hc hs fun fs hr => retOut X hx hret rfl (Or.inr (Or.inl ⟨rfl, rfl, _, rfl⟩)) hd hr
theorem own_retA {kc ks : Nat} {Q : Option Value → Heap → List Loc → Prop} (X : Stand p l e R s m args below meth c T locs cells slots) (hx : p.tables.exec = Jvm.exec) (hlk : meth.locks = false) {pc : Nat} {Ls : Array Slot} {z : Value} {rest : List Value} (hret : meth.sig.returnType = some ty) (ht : ty.isReference = true) (hz : z.isRef = true) (hd : decode c.code pc = .ok (.areturn, 1)) (hc : cells ≤ kc) (hs : slots ≤ ks) (hq : Q (some z) T.heap locs) : own_Go p e below (own_End s kc ks Q) T (mkF m pc Ls (z :: rest)) :=
  own_ends X hlk (fun q => by rw [hret] at q; cases q) hq hc hs fun fs hr => retOut X hx hret (by cases ty <;> first | rfl | cases ht) (Or.inr (Or.inr (Or.inr (Or.inr ⟨rfl, ht, hz⟩)))) hd hr
theorem own_retN {kc ks : Nat} {Q : Option Value → Heap → List Loc → Prop} (X : Stand p l e R s m args below meth c T locs cells slots) (hx : p.tables.exec = Jvm.exec) (hlk : meth.locks = false) {pc : Nat} {Ls : Array Slot} {z : Int32} {rest : List Value} (hret : meth.sig.returnType = some ty) (ht : ty = .boolean ∨ ty = .byte ∨ ty = .char ∨ ty = .short) (hd : decode c.code pc = .ok (.ireturn, 1)) (hc : cells ≤ kc) (hs : slots ≤ ks) (hq : Q (some (.int (nar ty z))) T.heap locs) : own_Go p e below (own_End s kc ks Q) T (mkF m pc Ls (.int z :: rest)) :=
  own_ends X hlk (fun q => by rw [hret] at q; cases q) hq hc hs fun fs hr => retN X hx hret ht hd hr
theorem own_retV {kc ks : Nat} {Q : Option Value → Heap → List Loc → Prop} (X : Stand p l e R s m args below meth c T locs cells slots) (hx : p.tables.exec = Jvm.exec) (hlk : meth.locks = false) {pc : Nat} {Ls : Array Slot} (hret : meth.sig.returnType = none) (hd : decode c.code pc = .ok (.return_, 1)) (hc : cells ≤ kc) (hs : slots ≤ ks) (hq : Q none T.heap locs) : own_Go p e below (own_End s kc ks Q) T (mkF m pc Ls []) :=
  own_ends X hlk (fun _ => rfl) hq hc hs fun fs hr => X.returnOut hx hret hd hr
theorem own_callSt {y : MethodName} {bytes : ByteArray} {maxL : Nat} {ret : Option FieldType} {rm : Room} {Q : Option Value → Heap → List Loc → Prop} (X : Stand p l e R s m args below meth c T locs cells slots) (hx : p.tables.exec = Jvm.exec) (hZ : Z.Warmed39 s.vm) {own : String} {index : Nat} (hown : s.vm.findClass own = some m.cls)
    (w1 : (Jvm.Cond.methodLink own index y).before a0 Z = true) (w2 : (Jvm.Cond.static y).before a0 Z = true) (w3 : (Jvm.Cond.initialized y.cls).before a0 Z = true) (w4 : (Jvm.Cond.code y bytes maxL ret).before a0 Z = true) (hy : y.cls ≠ "java/lang/invoke/MethodHandle" ∧ y.cls ≠ "java/lang/invoke/VarHandle") {argsL rest : List Value}
    (M : own_Met l Z y bytes maxL ret rm argsL.toArray h Q) (eT : T.heap = h) {W : Nat} (hf : rm.frames + 1 ≤ R.frames) (hl : W + (maxL + 11) + rm.locals ≤ R.locals) {g : JFrame} (hg : g.method = m) (hsize : g.locals.size = c.maxLocals) (hlen : ∀ sig, parseMethodDescriptor y.desc = some sig → argsL.length = sig.parameters.length) (hs : g.stack = argsL.reverse ++ rest) (hW : 2 * g.monitorRoom + (rest.map fun v => v.category).sum ≤ W) (hd : decode c.code g.pc = .ok (.invokestatic index, 3)) (hc : cells + rm.cells ≤ R.cells) (hsl : slots + rm.slots ≤ R.slots) :
    ∃ v T' L, Stand p l e R s m args below meth c T' (locs ++ L) (cells + rm.cells) (slots + rm.slots) ∧ Q v T'.heap L ∧ ∀ target, Steps p.tables e below (T'.setTop { g with pc := g.pc + 3, stack := v.toList ++ rest }) target → Steps p.tables e below (T.setTop g) target := by
  obtain ⟨v, _, ⟨T', L', k', n'⟩, -, X', ⟨L, hQ, l1, l2, l3⟩, st⟩ := Jvm.LawKit.callS X hx (y := y) hown (mvT hZ w1) (mvT hZ w2) (mvT hZ w3) (mvT hZ w4) hy (backOf (W := W) (M []) hZ w4 w3 hf hl) hg hsize (argsL := argsL) (rest := rest) hlen hs hW hd (fun _ _ => ⟨rfl, eT, hc, hsl⟩)
  dsimp only [Pt.U, Pt.locs, Pt.cells, Pt.slots] at X' l1 l2 l3 st hQ
  subst l1 l2 l3
  exact ⟨v, T', L, X', hQ, st⟩
theorem own_callSp {y : MethodName} {bytes : ByteArray} {maxL : Nat} {rm : Room} {Q : Option Value → Heap → List Loc → Prop} (X : Stand p l e R s m args below meth c T locs cells slots) (hx : p.tables.exec = Jvm.exec) (hZ : Z.Warmed39 s.vm) {own : String} {index : Nat} (hown : s.vm.findClass own = some m.cls) (hy1 : y.name = "<init>")
    (w1 : (Jvm.Cond.methodLink own index y).before a0 Z = true) (w2 : (Jvm.Cond.instanceMethod y).before a0 Z = true) (w3 : (Jvm.Cond.initialized y.cls).before a0 Z = true) (w4 : (Jvm.Cond.code y bytes maxL none).before a0 Z = true) (hy : y.cls ≠ "java/lang/invoke/MethodHandle" ∧ y.cls ≠ "java/lang/invoke/VarHandle") {argsL rest : List Value}
    (M : own_Met l Z y bytes maxL none rm (.ref a :: argsL).toArray h Q) (eT : T.heap = h) {W : Nat} (hf : rm.frames + 1 ≤ R.frames) (hl : W + (maxL + 11) + rm.locals ≤ R.locals) {g : JFrame} (hg : g.method = m) (hsize : g.locals.size = c.maxLocals) (hlen : ∀ sig, parseMethodDescriptor y.desc = some sig → argsL.length = sig.parameters.length) (hs : g.stack = argsL.reverse ++ .ref a :: rest) (hW : 2 * g.monitorRoom + (rest.map fun v => v.category).sum ≤ W) (hd : decode c.code g.pc = .ok (.invokespecial index, 3)) (hc : cells + rm.cells ≤ R.cells) (hsl : slots + rm.slots ≤ R.slots) :
    ∃ v T' L, Stand p l e R s m args below meth c T' (locs ++ L) (cells + rm.cells) (slots + rm.slots) ∧ Q v T'.heap L ∧ ∀ target, Steps p.tables e below (T'.setTop { g with pc := g.pc + 3, stack := v.toList ++ rest }) target → Steps p.tables e below (T.setTop g) target := by
  obtain ⟨v, _, ⟨T', L', k', n'⟩, -, X', ⟨L, hQ, l1, l2, l3⟩, st⟩ := X.specialBack hx (y := y) hy1 hown (mvT hZ w1) (mvT hZ w2) (mvT hZ w4) hy (backOf (W := W) (M []) hZ w4 w3 hf hl) hg hsize (Steps.refl _) (a := a) (argsL := argsL) (rest := rest) hlen hs hW hd (fun _ _ => ⟨rfl, eT, hc, hsl⟩)
  dsimp only [Pt.U, Pt.locs, Pt.cells, Pt.slots] at X' l1 l2 l3 st hQ
  subst l1 l2 l3
  exact ⟨v, T', L, X', hQ, fun _ k => st.trans k⟩
theorem own_callVi {y z : MethodName} {bytes : ByteArray} {maxL : Nat} {ret : Option FieldType} {rm : Room} {Q : Option Value → Heap → List Loc → Prop} {C : String} (X : Stand p l e R s m args below meth c T locs cells slots) (hx : p.tables.exec = Jvm.exec) (hZ : Z.Warmed39 s.vm) {own : String} {index : Nat} (hown : s.vm.findClass own = some m.cls)
    (w1 : (Jvm.Cond.methodLink own index y).before a0 Z = true) (w2 : (Jvm.Cond.declares y).before a0 Z = true) (nf : NotFace s y) (w5 : (Jvm.Cond.selects C y z).before a0 Z = true) (w6 : (Jvm.Cond.instanceMethod z).before a0 Z = true) (w3 : (Jvm.Cond.initialized z.cls).before a0 Z = true) (w4 : (Jvm.Cond.code z bytes maxL ret).before a0 Z = true) (hy : y.cls ≠ "java/lang/invoke/MethodHandle" ∧ y.cls ≠ "java/lang/invoke/VarHandle") (E : Exa Z h a C) {argsL rest : List Value}
    (M : own_Met l Z z bytes maxL ret rm (.ref a :: argsL).toArray h Q) (eT : T.heap = h) {W : Nat} (hf : rm.frames + 1 ≤ R.frames) (hl : W + (maxL + 11) + rm.locals ≤ R.locals) {g : JFrame} (hg : g.method = m) (hsize : g.locals.size = c.maxLocals) (hlen : ∀ sig, parseMethodDescriptor y.desc = some sig → argsL.length = sig.parameters.length) (hs : g.stack = argsL.reverse ++ .ref a :: rest) (hW : 2 * g.monitorRoom + (rest.map fun v => v.category).sum ≤ W) (hd : decode c.code g.pc = .ok (.invokevirtual index, 3)) (hc : cells + rm.cells ≤ R.cells) (hsl : slots + rm.slots ≤ R.slots) :
    ∃ v T' L, Stand p l e R s m args below meth c T' (locs ++ L) (cells + rm.cells) (slots + rm.slots) ∧ Q v T'.heap L ∧ ∀ target, Steps p.tables e below (T'.setTop { g with pc := g.pc + 3, stack := v.toList ++ rest }) target → Steps p.tables e below (T.setTop g) target := by
  obtain ⟨cq, kq, qa, qb, qc⟩ := isOf hZ eT E
  obtain ⟨v, _, ⟨T', L', k', n'⟩, -, X', ⟨L, hQ, l1, l2, l3⟩, st⟩ := X.virtualBack hx (y := y) (z := z) hown (mvT hZ w1) (mvT hZ w2) nf (mvT hZ w5) (mvT hZ w6) hy (backOf (W := W) (M []) hZ w4 w3 hf hl) qa qc hg hsize (Steps.refl _) (argsL := argsL) (rest := rest) hlen hs hW hd (fun _ _ => ⟨rfl, eT, hc, hsl⟩)
  dsimp only [Pt.U, Pt.locs, Pt.cells, Pt.slots] at X' l1 l2 l3 st hQ
  subst l1 l2 l3
  exact ⟨v, T', L, X', hQ, fun _ k => st.trans k⟩
/-- the whole contents of an array -/
def own_Av (Z : State) (h : Heap) (a : Addr) (ty : FieldType) (vs : List Value) : Prop := ∃ c : Cell, Arr Z h a c ty ∧ c.slots = vs.toArray ∧ vs.length < 2 ^ 31
theorem own_Av.lt (F : own_Av Z h a ty vs) : a < h.size := by obtain ⟨c, A, -⟩ := F; exact A.lt
theorem own_Av.ext (F : own_Av Z h a ty vs) (E : Ext h h') : own_Av Z h' a ty vs := by obtain ⟨c, A, r⟩ := F; exact ⟨c, A.ext E, r⟩
theorem own_Av.other (F : own_Av Z h b ty vs) (W : Wr h h' a sl v) (q : b ≠ a) : own_Av Z h' b ty vs := by obtain ⟨c, A, r⟩ := F; exact ⟨c, A.other W q, r⟩
theorem own_Av.keep (F : own_Av Z h a ty vs) (K : Keep h h' ws) (q : a ∉ ws) : own_Av Z h' a ty vs := by obtain ⟨c, A, r⟩ := F; exact ⟨c, ⟨K.2.1 a c A.1 q, A.2⟩, r⟩
theorem own_Av.len (F : own_Av Z h a ty vs) : vs.length < 2 ^ 31 := by obtain ⟨c, A, r, q⟩ := F; exact q
theorem own_Av.new {k : ClassId} {z : Int32} (A : Arr Z h a (newA k ty z) ty) : own_Av Z h a ty (List.replicate z.toNatClampNeg (defaultValue ty)) := ⟨_, A, by simp [newA], by rw [List.length_replicate]; have := z.toInt_lt; simp only [Int32.toNatClampNeg]; omega⟩
theorem own_Av.set (F : own_Av Z h a ty vs) {j : Nat} (W : Wr h h' a j v) : own_Av Z h' a ty (vs.set j v) := by
  obtain ⟨c, A, r, q⟩ := F
  refine ⟨_, A.same W, ?_, by rw [List.length_set]; exact q⟩
  simp [Cell.setSlot, r]
theorem own_in {c : Cell} {j : Int32} (r : c.slots = vs.toArray) (hj : ¬ j < 0) (hl : j.toNatClampNeg < vs.length) : ¬ (j < 0 ∨ c.slots.size ≤ j.toNatClampNeg) := by
  rw [r]; simp; exact ⟨Int32.not_lt.mp hj, hl⟩
theorem own_lt_of {α : Type} {vs : List α} {j : Nat} {v : α} (q : vs[j]? = some v) : j < vs.length := (List.getElem?_eq_some_iff.mp q).1
theorem own_ldI (X : Stand p l e R s m args below meth c T locs cells slots) (hx : p.tables.exec = Jvm.exec) (hZ : Z.Warmed39 s.vm) (eT : T.heap = h) (F : own_Av Z h a .int vs) {j : Int32} (hj : ¬ j < 0) (hv : vs[j.toNatClampNeg]? = some v) {g : JFrame} (hg : g.method = m) {rest : List Value} (hs : g.stack = .int j :: .ref a :: rest) (hd : decode c.code g.pc = .ok (.iaload, 1)) :
    ∀ target, Steps p.tables e below (T.setTop { g with pc := g.pc + 1, stack := v :: rest }) target → Steps p.tables e below (T.setTop g) target := by
  obtain ⟨cl, A, r, -⟩ := F
  exact X.iaload hx (j := j) (v := v) (by rw [eT]; exact A.1) (State.isArrayOf_alike hZ.alike A.2.1) A.2.2 (own_in r hj (own_lt_of hv)) (by rw [r]; simpa using hv) hg hs hd
theorem own_ldJ (X : Stand p l e R s m args below meth c T locs cells slots) (hx : p.tables.exec = Jvm.exec) (hZ : Z.Warmed39 s.vm) (eT : T.heap = h) (F : own_Av Z h a .long vs) {j : Int32} (hj : ¬ j < 0) (hv : vs[j.toNatClampNeg]? = some v) {g : JFrame} (hg : g.method = m) {rest : List Value} (hs : g.stack = .int j :: .ref a :: rest) (hd : decode c.code g.pc = .ok (.laload, 1)) :
    ∀ target, Steps p.tables e below (T.setTop { g with pc := g.pc + 1, stack := v :: rest }) target → Steps p.tables e below (T.setTop g) target := by
  obtain ⟨cl, A, r, -⟩ := F
  exact X.laload hx (j := j) (v := v) (by rw [eT]; exact A.1) (State.isArrayOf_alike hZ.alike A.2.1) A.2.2 (own_in r hj (own_lt_of hv)) (by rw [r]; simpa using hv) hg hs hd
theorem own_ldB (X : Stand p l e R s m args below meth c T locs cells slots) (hx : p.tables.exec = Jvm.exec) (hZ : Z.Warmed39 s.vm) (eT : T.heap = h) (F : own_Av Z h a .byte vs) {j : Int32} (hj : ¬ j < 0) (hv : vs[j.toNatClampNeg]? = some v) {g : JFrame} (hg : g.method = m) {rest : List Value} (hs : g.stack = .int j :: .ref a :: rest) (hd : decode c.code g.pc = .ok (.baload, 1)) :
    ∀ target, Steps p.tables e below (T.setTop { g with pc := g.pc + 1, stack := v :: rest }) target → Steps p.tables e below (T.setTop g) target := by
  obtain ⟨cl, A, r, -⟩ := F
  exact X.baloadBytes hx (j := j) (v := v) (by rw [eT]; exact A.1) (State.isArrayOf_alike hZ.alike A.2.1) A.2.2 (own_in r hj (own_lt_of hv)) (by rw [r]; simpa using hv) hg hs hd
theorem own_ldZ (X : Stand p l e R s m args below meth c T locs cells slots) (hx : p.tables.exec = Jvm.exec) (hZ : Z.Warmed39 s.vm) (eT : T.heap = h) (F : own_Av Z h a .boolean vs) {j : Int32} (hj : ¬ j < 0) (hv : vs[j.toNatClampNeg]? = some v) {g : JFrame} (hg : g.method = m) {rest : List Value} (hs : g.stack = .int j :: .ref a :: rest) (hd : decode c.code g.pc = .ok (.baload, 1)) :
    ∀ target, Steps p.tables e below (T.setTop { g with pc := g.pc + 1, stack := v :: rest }) target → Steps p.tables e below (T.setTop g) target := by
  obtain ⟨cl, A, r, -⟩ := F
  exact X.baloadBooleans hx (j := j) (v := v) (by rw [eT]; exact A.1) (State.isArrayOf_alike hZ.alike A.2.1) A.2.2 (own_in r hj (own_lt_of hv)) (by rw [r]; simpa using hv) hg hs hd
theorem own_alen (X : Stand p l e R s m args below meth c T locs cells slots) (hx : p.tables.exec = Jvm.exec) (hZ : Z.Warmed39 s.vm) (eT : T.heap = h) (F : own_Av Z h a ty vs) {n : Int32} (hn : vs.length.toInt32 = n) {g : JFrame} (hg : g.method = m) {rest : List Value} (hs : g.stack = .ref a :: rest) (hd : decode c.code g.pc = .ok (.arraylength, 1)) :
    ∀ target, Steps p.tables e below (T.setTop { g with pc := g.pc + 1, stack := .int n :: rest }) target → Steps p.tables e below (T.setTop g) target := by
  obtain ⟨cl, A, r, -⟩ := F
  have q := X.arraylength hx (by rw [eT]; exact A.1) (State.isArrayOf_alike hZ.alike A.2.1) hg hs hd
  have e1 : cl.slots.size.toInt32 = n := by rw [r]; simpa using hn
  rw [e1] at q; exact q
theorem own_stI (X : Stand p l e R s m args below meth c T locs cells slots) (hx : p.tables.exec = Jvm.exec) (hZ : Z.Warmed39 s.vm) (eT : T.heap = h) (F : own_Av Z h a .int vs) {j x : Int32} (hj : ¬ j < 0) (hl : j.toNatClampNeg < vs.length) {g : JFrame} (hg : g.method = m) {rest : List Value} (hs : g.stack = .int x :: .int j :: .ref a :: rest) (hd : decode c.code g.pc = .ok (.iastore, 1)) :
    ∃ T' h', Stand p l e R s m args below meth c T' (locs ++ [⟨a, j.toNatClampNeg⟩]) cells slots ∧ T'.heap = h' ∧ Wr h h' a j.toNatClampNeg (.int x) ∧ own_Av Z h' a .int (vs.set j.toNatClampNeg (.int x)) ∧ ∀ target, Steps p.tables e below (T'.setTop { g with pc := g.pc + 1, stack := rest }) target → Steps p.tables e below (T.setTop g) target := by
  obtain ⟨cl, A, r, q⟩ := F
  obtain ⟨T', h', X', e', W, st⟩ := stI X hx hZ eT A (own_in r hj hl) hg hs hd
  exact ⟨T', h', X', e', W, own_Av.set ⟨cl, A, r, q⟩ W, st⟩
theorem own_stJ (X : Stand p l e R s m args below meth c T locs cells slots) (hx : p.tables.exec = Jvm.exec) (hZ : Z.Warmed39 s.vm) (eT : T.heap = h) (F : own_Av Z h a .long vs) {j : Int32} {x : Int64} (hj : ¬ j < 0) (hl : j.toNatClampNeg < vs.length) {g : JFrame} (hg : g.method = m) {rest : List Value} (hs : g.stack = .long x :: .int j :: .ref a :: rest) (hd : decode c.code g.pc = .ok (.lastore, 1)) :
    ∃ T' h', Stand p l e R s m args below meth c T' (locs ++ [⟨a, j.toNatClampNeg⟩]) cells slots ∧ T'.heap = h' ∧ Wr h h' a j.toNatClampNeg (.long x) ∧ own_Av Z h' a .long (vs.set j.toNatClampNeg (.long x)) ∧ ∀ target, Steps p.tables e below (T'.setTop { g with pc := g.pc + 1, stack := rest }) target → Steps p.tables e below (T.setTop g) target := by
  obtain ⟨cl, A, r, q⟩ := F
  obtain ⟨T', h', X', e', W, st⟩ := stJ X hx hZ eT A (own_in r hj hl) hg hs hd
  exact ⟨T', h', X', e', W, own_Av.set ⟨cl, A, r, q⟩ W, st⟩
theorem own_stB (X : Stand p l e R s m args below meth c T locs cells slots) (hx : p.tables.exec = Jvm.exec) (hZ : Z.Warmed39 s.vm) (eT : T.heap = h) (F : own_Av Z h a .byte vs) {j x : Int32} (hj : ¬ j < 0) (hl : j.toNatClampNeg < vs.length) {g : JFrame} (hg : g.method = m) {rest : List Value} (hs : g.stack = .int x :: .int j :: .ref a :: rest) (hd : decode c.code g.pc = .ok (.bastore, 1)) :
    ∃ T' h', Stand p l e R s m args below meth c T' (locs ++ [⟨a, j.toNatClampNeg⟩]) cells slots ∧ T'.heap = h' ∧ Wr h h' a j.toNatClampNeg (.int x.toInt8.toInt32) ∧ own_Av Z h' a .byte (vs.set j.toNatClampNeg (.int x.toInt8.toInt32)) ∧ ∀ target, Steps p.tables e below (T'.setTop { g with pc := g.pc + 1, stack := rest }) target → Steps p.tables e below (T.setTop g) target := by
  obtain ⟨cl, A, r, q⟩ := F
  obtain ⟨T', h', X', e', W, st⟩ := stB X hx hZ eT A (own_in r hj hl) hg hs hd
  exact ⟨T', h', X', e', W, own_Av.set ⟨cl, A, r, q⟩ W, st⟩
theorem own_stZ (X : Stand p l e R s m args below meth c T locs cells slots) (hx : p.tables.exec = Jvm.exec) (hZ : Z.Warmed39 s.vm) (eT : T.heap = h) (F : own_Av Z h a .boolean vs) {j x : Int32} (hj : ¬ j < 0) (hl : j.toNatClampNeg < vs.length) {g : JFrame} (hg : g.method = m) {rest : List Value} (hs : g.stack = .int x :: .int j :: .ref a :: rest) (hd : decode c.code g.pc = .ok (.bastore, 1)) :
    ∃ T' h', Stand p l e R s m args below meth c T' (locs ++ [⟨a, j.toNatClampNeg⟩]) cells slots ∧ T'.heap = h' ∧ Wr h h' a j.toNatClampNeg (.int (x &&& 1)) ∧ own_Av Z h' a .boolean (vs.set j.toNatClampNeg (.int (x &&& 1))) ∧ ∀ target, Steps p.tables e below (T'.setTop { g with pc := g.pc + 1, stack := rest }) target → Steps p.tables e below (T.setTop g) target := by
  obtain ⟨cl, A, r, q⟩ := F
  obtain ⟨T', h', X', e', W, st⟩ := stZ X hx hZ eT A (own_in r hj hl) hg hs hd
  exact ⟨T', h', X', e', W, own_Av.set ⟨cl, A, r, q⟩ W, st⟩
theorem own_len {t : Term} {n : Int32} {cl : Cell} (q : (Jvm.Cond.eq (.length t) (.int n)).value args s none s [] = some true) (ht : t.eval args s none [] s = some (.ref a)) (A : Arr s s.heap a cl ty) (hn : ¬ n < 0) : cl.slots.size = n.toNatClampNeg := by
  have ha := Arr.fin (State.Warmed39.refl s).alike A
  by_cases hl : cl.slots.size < 2 ^ 31
  · have e1 := len_f (t := t) ht ha hl
    have e2 : cl.slots.size.toInt32 = n := by
      simp only [Cond.value, e1] at q
      simpa [Term.eval] using q
    rw [← e2]
    simp only [Int32.toNatClampNeg, len_toInt hl]; rfl
  · exfalso
    have e1 : (Term.length t).eval args s none [] s = none := by
      have hl' : ¬ cl.slots.size < 2147483648 := hl
      simp [Term.eval, ht, ha, hl']
    simp [Cond.value, e1] at q
theorem own_elemJ {t : Term} {j : Int32} {v : Int64} {cl : Cell} (q : (Jvm.Cond.eq (.elem t (.int j)) (.long v)).value args s none s [] = some true) (ht : t.eval args s none [] s = some (.ref a)) (A : Arr s s.heap a cl ty) : cl.slots[j.toNatClampNeg]? = some (.long v) := by
  cases e1 : (Term.elem t (.int j)).eval args s none [] s with
  | none => simp [Cond.value, e1] at q
  | some x =>
    have e2 := (elem_in e1 ht rfl A.1).2
    rw [e2]
    simp only [Cond.value, e1] at q
    cases x <;> simp [Term.eval] at q
    rw [q]
theorem own_elemI {t : Term} {j : Int32} {v : Int32} {cl : Cell} (q : (Jvm.Cond.eq (.elem t (.int j)) (.int v)).value args s none s [] = some true) (ht : t.eval args s none [] s = some (.ref a)) (A : Arr s s.heap a cl ty) : cl.slots[j.toNatClampNeg]? = some (.int v) := by
  cases e1 : (Term.elem t (.int j)).eval args s none [] s with
  | none => simp [Cond.value, e1] at q
  | some x =>
    have e2 := (elem_in e1 ht rfl A.1).2
    rw [e2]
    simp only [Cond.value, e1] at q
    cases x <;> simp [Term.eval] at q
    rw [q]
theorem own_Av.of {cl : Cell} (A : Arr Z h a cl ty) (hs : cl.slots.size = vs.length) (hv : ∀ i, i < vs.length → cl.slots[i]? = vs[i]?) (hl : vs.length < 2 ^ 31) : own_Av Z h a ty vs := by
  refine ⟨cl, A, ?_, hl⟩
  apply Array.ext
  · simpa using hs
  · intro i h1 h2
    have h3 : i < vs.length := by rw [← hs]; exact h1
    have := hv i h3
    rw [Array.getElem?_eq_getElem h1, List.getElem?_eq_getElem h3] at this
    simpa using this
theorem own_Sta.keep0 {C n d : String} (F : Sta Z h C n d v) (K : Keep h h' []) : Sta Z h' C n d v := by
  obtain ⟨cf, i, k, f, st, cell, h1, h2, h3, h4, h5, r⟩ := F; exact ⟨cf, i, k, f, st, cell, h1, h2, h3, h4, K.2.1 _ _ h5 nin0, r⟩
theorem own_fldJ {t : Term} {C n d : String} {z : Int64} (q : (Jvm.Cond.eq (.field t C n d) (.long z)).value args s none s [] = some true) (ht : t.eval args s none [] s = some (.ref a)) : Fld s s.heap a C n d (.long z) := by
  have e0 := fld_at (C := C) (n := n) (dd := d) ht
  refine Fld.start ?_
  cases e1 : s.fieldOf? a C n d with
  | none => rw [e1] at e0; simp [Cond.value, e0] at q
  | some x =>
    rw [e1] at e0
    simp only [Cond.value, e0] at q
    cases x <;> simp [Term.eval] at q
    rw [q]
theorem own_cloneI (X : Stand p l e R s m args below meth c T locs cells slots) (hx : p.tables.exec = Jvm.exec) (hZ : Z.Warmed39 s.vm) {own : String} {index : Nat} (hown : s.vm.findClass own = some m.cls)
    (w1 : (Jvm.Cond.methodLink own index ⟨"[I", "clone", "()Ljava/lang/Object;"⟩).before a0 Z = true) (w2 : (Jvm.Cond.sameMethod "[I" "java/lang/Object" "clone" "()Ljava/lang/Object;").before a0 Z = true) (w3 : (Jvm.Cond.native ⟨"java/lang/Object", "clone", "()Ljava/lang/Object;"⟩).before a0 Z = true)
    (w4 : (Jvm.Cond.instanceMethod ⟨"java/lang/Object", "clone", "()Ljava/lang/Object;"⟩).before a0 Z = true) (w5 : (Jvm.Cond.selects "[I" ⟨"[I", "clone", "()Ljava/lang/Object;"⟩ ⟨"java/lang/Object", "clone", "()Ljava/lang/Object;"⟩).before a0 Z = true) (w6 : (Jvm.Cond.castable "[I" "java/lang/Cloneable").before a0 Z = true)
    (eT : T.heap = h) {I : List Int32} (F : own_Av Z h a .int (I.map Value.int)) (E : Exa Z h a "[I") {g : JFrame} (hg : g.method = m) (hsize : g.locals.size = c.maxLocals) {rest : List Value} (hs : g.stack = .ref a :: rest) (hd : decode c.code g.pc = .ok (.invokevirtual index, 3))
    (hf : 1 ≤ R.frames) {W cap : Nat} (hW : 2 * g.monitorRoom + (rest.map fun v => v.category).sum ≤ W) (hl : W + 14 ≤ R.locals) (hcap : I.length ≤ cap) (hc : cells + 1 ≤ R.cells) (hsl : slots + cap ≤ R.slots) :
    ∃ T' h', Stand p l e R s m args below meth c T' locs (cells + 1) (slots + cap) ∧ T'.heap = h' ∧ Ext h h' ∧ own_Av Z h' h.size .int (I.map Value.int) ∧ Exa Z h' h.size "[I" ∧
      ∀ target, Steps p.tables e below (T'.setTop { g with pc := g.pc + 3, stack := .ref h.size :: rest }) target → Steps p.tables e below (T.setTop g) target := by
  obtain ⟨cl, A, r, q⟩ := F
  have FC : FitC Z cl := fitC_of A fun i hi v hv => by
    rw [r] at hv
    simp only [List.getElem?_toArray, List.getElem?_map, Option.map_eq_some_iff] at hv
    obtain ⟨z, -, rfl⟩ := hv
    rfl
  obtain ⟨T', h', X', e', ex, A', E', st⟩ := cloneA X hx hZ hown w1 w2 w3 w4 w5 w6 eT A E FC hg hsize hs hd hf hW hl (by rw [r]; simpa using hcap) hc hsl
  exact ⟨T', h', X', e', ex, ⟨cloneOf cl, A', r, q⟩, E', st⟩
theorem own_callPr {y y' : MethodName} {bytes : ByteArray} {maxL : Nat} {ret : Option FieldType} {rm : Room} {Q : Option Value → Heap → List Loc → Prop} (X : Stand p l e R s m args below meth c T locs cells slots) (hx : p.tables.exec = Jvm.exec) (hZ : Z.Warmed39 s.vm) {own : String} {index : Nat} (hown : s.vm.findClass own = some m.cls)
    (w1 : (Jvm.Cond.methodLink own index y).before a0 Z = true) (w2 : (Jvm.Cond.privateMethod y).before a0 Z = true) (w6 : (Jvm.Cond.instanceMethod y).before a0 Z = true) (w3 : (Jvm.Cond.initialized y.cls).before a0 Z = true) (w4 : (Jvm.Cond.code y bytes maxL ret).before a0 Z = true) (w7 : (Jvm.Cond.selects y.cls y' y').before a0 Z = true) (w8 : (Jvm.Cond.instanceMethod y').before a0 Z = true) (hcl : y'.cls = y.cls) (hy : y.cls ≠ "java/lang/invoke/MethodHandle" ∧ y.cls ≠ "java/lang/invoke/VarHandle") {C : String} (E : Exa Z h a C) {argsL rest : List Value}
    (M : own_Met l Z y bytes maxL ret rm (.ref a :: argsL).toArray h Q) (eT : T.heap = h) {W : Nat} (hf : rm.frames + 1 ≤ R.frames) (hl : W + (maxL + 11) + rm.locals ≤ R.locals) {g : JFrame} (hg : g.method = m) (hsize : g.locals.size = c.maxLocals) (hlen : ∀ sig, parseMethodDescriptor y.desc = some sig → argsL.length = sig.parameters.length) (hs : g.stack = argsL.reverse ++ .ref a :: rest) (hW : 2 * g.monitorRoom + (rest.map fun v => v.category).sum ≤ W) (hd : decode c.code g.pc = .ok (.invokevirtual index, 3)) (hc : cells + rm.cells ≤ R.cells) (hsl : slots + rm.slots ≤ R.slots) :
    ∃ v T' L, Stand p l e R s m args below meth c T' (locs ++ L) (cells + rm.cells) (slots + rm.slots) ∧ Q v T'.heap L ∧ ∀ target, Steps p.tables e below (T'.setTop { g with pc := g.pc + 3, stack := v.toList ++ rest }) target → Steps p.tables e below (T.setTop g) target := by
  obtain ⟨cq, qa, qb⟩ := E.cell
  have nf := notFace_of_selects (args := #[]) (mvT hZ w7)
  obtain ⟨mk', meth', hn', -⟩ := Cond.instanceMethod_spec (mvT (args := #[]) hZ w8)
  obtain ⟨k', hk', hni⟩ := nf mk' hn'
  have hc' := findClass_of_methodNamed hn'
  rw [hcl] at hc'
  have hpriv := Cond.privateMethod_at (mvP hZ w2 (args := #[]))
  have hsel := selects_self_of_private (args := args) hc' hk' hni hpriv (mvT hZ w6) hy
  obtain ⟨v, _, ⟨T', L', k', n'⟩, -, X', ⟨L, hQ, l1, l2, l3⟩, st⟩ := X.privateBack hx (y := y) hown (mvT hZ w1) (mvT hZ w6) hsel hpriv (mvT hZ w4) hy (backOf (W := W) (M []) hZ w4 w3 hf hl) hg hsize (Steps.refl _) (a := a) (by rw [eT]; exact qa) qb (argsL := argsL) (rest := rest) hlen hs hW hd (fun _ _ => ⟨rfl, eT, hc, hsl⟩)
  dsimp only [Pt.U, Pt.locs, Pt.cells, Pt.slots] at X' l1 l2 l3 st hQ
  subst l1 l2 l3
  exact ⟨v, T', L, X', hQ, fun _ k => st.trans k⟩
theorem own_clone {ad : String} (X : Stand p l e R s m args below meth c T locs cells slots) (hx : p.tables.exec = Jvm.exec) (hZ : Z.Warmed39 s.vm) {own : String} {index : Nat} (hown : s.vm.findClass own = some m.cls)
    (w1 : (Jvm.Cond.methodLink own index ⟨ad, "clone", "()Ljava/lang/Object;"⟩).before a0 Z = true) (w2 : (Jvm.Cond.sameMethod ad "java/lang/Object" "clone" "()Ljava/lang/Object;").before a0 Z = true) (w3 : (Jvm.Cond.native ⟨"java/lang/Object", "clone", "()Ljava/lang/Object;"⟩).before a0 Z = true)
    (w4 : (Jvm.Cond.instanceMethod ⟨"java/lang/Object", "clone", "()Ljava/lang/Object;"⟩).before a0 Z = true) (w5 : (Jvm.Cond.selects ad ⟨ad, "clone", "()Ljava/lang/Object;"⟩ ⟨"java/lang/Object", "clone", "()Ljava/lang/Object;"⟩).before a0 Z = true) (w6 : (Jvm.Cond.castable ad "java/lang/Cloneable").before a0 Z = true)
    (eT : T.heap = h) (F : own_Av Z h a ty vs) (hfit : ∀ v ∈ vs, fits ty v = true) (E : Exa Z h a ad) {g : JFrame} (hg : g.method = m) (hsize : g.locals.size = c.maxLocals) {rest : List Value} (hs : g.stack = .ref a :: rest) (hd : decode c.code g.pc = .ok (.invokevirtual index, 3))
    (hf : 1 ≤ R.frames) {W cap : Nat} (hW : 2 * g.monitorRoom + (rest.map fun v => v.category).sum ≤ W) (hl : W + 14 ≤ R.locals) (hcap : vs.length ≤ cap) (hc : cells + 1 ≤ R.cells) (hsl : slots + cap ≤ R.slots) :
    ∃ T' h', Stand p l e R s m args below meth c T' locs (cells + 1) (slots + cap) ∧ T'.heap = h' ∧ Ext h h' ∧ own_Av Z h' h.size ty vs ∧ Exa Z h' h.size ad ∧
      ∀ target, Steps p.tables e below (T'.setTop { g with pc := g.pc + 3, stack := .ref h.size :: rest }) target → Steps p.tables e below (T.setTop g) target := by
  obtain ⟨cl, A, r, q⟩ := F
  have FC : FitC Z cl := fitC_of A fun i hi v hv => by
    rw [r] at hv
    simp only [List.getElem?_toArray] at hv
    exact hfit v (List.mem_of_getElem? hv)
  obtain ⟨T', h', X', e', ex, A', E', st⟩ := cloneA X hx hZ hown w1 w2 w3 w4 w5 w6 eT A E FC hg hsize hs hd hf hW hl (by rw [r]; simpa using hcap) hc hsl
  exact ⟨T', h', X', e', ex, ⟨cloneOf cl, A', r, q⟩, E', st⟩
theorem own_Av.arv (F : own_Av Z h a ty vs) {dv : Value} (hfit : ∀ v ∈ vs, fits ty v = true) : ∃ k, Arv Z h a k ty vs.length.toInt32 vs dv := by
  obtain ⟨cl, A, r, q⟩ := F
  have e1 : vs.length.toInt32.toNatClampNeg = vs.length := by simp only [Int32.toNatClampNeg, len_toInt q]; rfl
  have hs : cl.slots.size = vs.length := by rw [r]; simp
  refine ⟨cl.cls, cl, A, rfl, by rw [e1, hs], ?_, fun k hk => ?_, fun i hi => ?_⟩
  · rw [Int32.lt_iff_toInt_lt, len_toInt q]; have : (0 : Int32).toInt = 0 := by decide
    omega
  · rw [hs] at hk; rw [r]; simp [List.getD_eq_getElem?_getD, List.getElem?_eq_getElem hk]
  · rw [hs] at hi
    have : vs.getD i dv = vs[i] := by simp [List.getD_eq_getElem?_getD, List.getElem?_eq_getElem hi]
    rw [this]; exact hfit _ (List.getElem_mem hi)
theorem own_stC (X : Stand p l e R s m args below meth c T locs cells slots) (hx : p.tables.exec = Jvm.exec) (hZ : Z.Warmed39 s.vm) (eT : T.heap = h) (F : own_Av Z h a .char vs) {j x : Int32} (hj : ¬ j < 0) (hl : j.toNatClampNeg < vs.length) {g : JFrame} (hg : g.method = m) {rest : List Value} (hs : g.stack = .int x :: .int j :: .ref a :: rest) (hd : decode c.code g.pc = .ok (.castore, 1)) :
    ∃ T' h', Stand p l e R s m args below meth c T' (locs ++ [⟨a, j.toNatClampNeg⟩]) cells slots ∧ T'.heap = h' ∧ Wr h h' a j.toNatClampNeg (.int x.toUInt32.toUInt16.toUInt32.toInt32) ∧ own_Av Z h' a .char (vs.set j.toNatClampNeg (.int x.toUInt32.toUInt16.toUInt32.toInt32)) ∧ ∀ target, Steps p.tables e below (T'.setTop { g with pc := g.pc + 1, stack := rest }) target → Steps p.tables e below (T.setTop g) target := by
  obtain ⟨cl, A, r, q⟩ := F
  obtain ⟨T', h', X', e', W, st⟩ := stC X hx hZ eT A (own_in r hj hl) hg hs hd
  exact ⟨T', h', X', e', W, own_Av.set ⟨cl, A, r, q⟩ W, st⟩
theorem own_ne_of (q : a < h.size) (r : h.size ≤ b) : a ≠ b := Nat.ne_of_lt (Nat.lt_of_lt_of_le q r)
end Own
section OwnW
variable {p : Program} {l : Launch} {e : Env} {R : Room} {s : State} {m : MethodId} {args : Array Value} {below : List Frame} {meth : Method} {c : Code} {T T' : State} {locs : List Loc} {cells slots : Nat} {Z : State} {a0 : Array Value} {h h' h0 : Heap} {g g' : JFrame} {a b : Addr} {ty : FieldType} {vs : List Value} {v w : Value} {vm0 : Vm} {k0 : Nat}
def own_EndW (s : State) (kc ks : Nat) (Q : Option Value → Heap → List Loc → Prop) (o : Outcome) (U' : State) : Prop := ∃ v L, o = .returned v ∧ Q v U'.heap L ∧ ReturnedEndW s o U' L kc ks
/-- the judged method, started at Z itself -/
def own_MetW (l : Launch) (Z : State) (y : MethodName) (bytes : ByteArray) (maxL : Nat) (ret : Option FieldType) (rm : Room) (as' : Array Value) (Q : Option Value → Heap → List Loc → Prop) : Prop :=
  ∀ ws : List Jvm.Cond, MetFree l y (head1 (Jvm.Cond.code y bytes maxL ret :: ws) rm) (fun a U => a = as' ∧ U = Z) (fun _ _ _ _ _ => True) (fun _ U o U' => ∃ v L, o = .returned v ∧ Q v U'.heap L ∧ ReturnedEndW U o U' L rm.cells rm.slots)
theorem own_introW {y : MethodName} {bytes : ByteArray} {maxL : Nat} {ret : Option FieldType} {rm : Room} {as' : Array Value} {Q : Option Value → Heap → List Loc → Prop} (hp : plainFor y = true)
    (body : ∀ (p : Program) (e : Env) (m : MethodId) (below : List Frame) (meth : Method) (c : Code) (s₁ : State), p.tables.exec = Jvm.exec → c.code = bytes → c.maxLocals = maxL → Z.vm.findClass y.cls = some m.cls → meth.name = y.name → meth.sig.returnType = ret → meth.locks = false → Stand p l e rm (Z.setVm Z.vm) m as' below meth c s₁ [] 0 0 → s₁.heap = Z.heap → own_Go p e below (own_EndW Z rm.cells rm.slots Q) s₁ (entryFrame m as' maxL)) : own_MetW l Z y bytes maxL ret rm as' Q := by
  intro ws
  refine MetFree.of_bodySF hp hisR ?_
  intro p e s m args below meth c s₁ Bd hml hP hK
  obtain ⟨rfl, rfl⟩ := hP
  exact body p e m below meth c s₁ Bd.exec Bd.bytes hml (findClass_of_methodNamed Bd.named) (name_of_methodNamed Bd.named Bd.method).1 Bd.returns Bd.notSynchronized (Stand.of_body Bd) (by rw [Bd.state]; rfl)
theorem own_finW {kc ks : Nat} {Q : Option Value → Heap → List Loc → Prop} (X : Stand p l e R (s.setVm vm0) m args below meth c T locs cells slots) (hS : s.Since vm0 k0) (eT : T.heap = h) (hk : k0 ≤ h.size) (hlk : meth.locks = false) {u : Option Value} (hv : meth.sig.returnType = none → u = none) (hq : Q u T.heap locs) (hc : cells ≤ kc) (hs : slots ≤ ks)
    (st : ∀ fs, (∀ (f : JFrame) (acts : List Action), f.method = m → f.locked = none → f.entered = [] → (doReturn e (T.setTop f) acts u).1 = T.setFrames fs) → Steps p.tables e below (T.setTop g) (T.setFrames fs)) : own_Go p e below (own_EndW s kc ks Q) T g := by
  obtain ⟨fs, hr, hrun, hended, hW⟩ := X.leaveW hS (by rw [eT]; exact hk) (v := u) hv hlk
  exact ⟨_, _, st fs hr, hrun, hended, _, _, rfl, hq, hW.1, hW.2.1, hW.2.2.1, hW.2.2.2.mono hc hs⟩
theorem own_retNW {kc ks : Nat} {Q : Option Value → Heap → List Loc → Prop} (X : Stand p l e R (s.setVm vm0) m args below meth c T locs cells slots) (hx : p.tables.exec = Jvm.exec) (hS : s.Since vm0 k0) (eT : T.heap = h) (hk : k0 ≤ h.size) (hlk : meth.locks = false) {pc : Nat} {Ls : Array Slot} {z : Int32} {rest : List Value} (hret : meth.sig.returnType = some ty) (ht : ty = .boolean ∨ ty = .byte ∨ ty = .char ∨ ty = .short) (hd : decode c.code pc = .ok (.ireturn, 1)) (hc : cells ≤ kc) (hs : slots ≤ ks) (hq : Q (some (.int (nar ty z))) T.heap locs) : own_Go p e below (own_EndW s kc ks Q) T (mkF m pc Ls (.int z :: rest)) :=
  own_finW X hS eT hk hlk (fun q => by rw [hret] at q; cases q) hq hc hs fun fs hr => retN X hx hret ht hd hr
theorem own_Av.of_arv {k : ClassId} {z : Int32} {dv : Value} (F : Arv Z h a k ty z vs dv) (hl : z.toNatClampNeg = vs.length) : own_Av Z h a ty vs := by
  obtain ⟨cl, A, -, S, hz, H, -⟩ := F
  refine own_Av.of A (by rw [S, hl]) (fun i hi => ?_) (by rw [← hl]; exact (back32 hz).2)
  rw [H i (by rw [S, hl]; exact hi)]
  simp [List.getD_eq_getElem?_getD, List.getElem?_eq_getElem hi]
end OwnW

section OwnH
variable {p : Program} {l : Launch} {e : Env} {R : Room} {s : State} {m : MethodId} {args : Array Value} {below : List Frame} {meth : Method} {c : Code} {T T' : State} {locs : List Loc} {cells slots : Nat} {Z : State} {a0 : Array Value} {h h' h0 : Heap} {g g' : JFrame} {a b : Addr} {ty : FieldType} {vm0 : Vm} {k0 : Nat} {EL : List (String × Nat)}
def own_EndH (Z : State) (EL : List (String × Nat)) (s : State) (kc ks : Nat) (Q : Option Value → Heap → List Loc → Prop) (o : Outcome) (U' : State) : Prop := ∃ v L, o = .returned v ∧ Q v U'.heap L ∧ CHr Z EL s.vm s.heap U'.vm U'.heap ∧ ReturnedEndW s o U' L kc ks
/-- a callee that may load String constants of EL -/
def own_MetH (l : Launch) (Z : State) (EL : List (String × Nat)) (y : MethodName) (bytes : ByteArray) (maxL : Nat) (ret : Option FieldType) (rm : Room) (as' : Array Value) (h0 : Heap) (Q : Option Value → Heap → List Loc → Prop) : Prop :=
  ∀ ws : List Jvm.Cond, MetFree l y (head1 (Jvm.Cond.code y bytes maxL ret :: ws) rm) (fun a U => a = as' ∧ Z.Warmed39 U.vm ∧ U.heap = h0 ∧ CHv Z EL U.vm h0) (fun _ _ _ _ _ => True) (fun _ U o U' => ∃ v L, o = .returned v ∧ Q v U'.heap L ∧ CHr Z EL U.vm U.heap U'.vm U'.heap ∧ ReturnedEndW U o U' L rm.cells rm.slots)
theorem own_introH {y : MethodName} {bytes : ByteArray} {maxL : Nat} {ret : Option FieldType} {rm : Room} {as' : Array Value} {Q : Option Value → Heap → List Loc → Prop} (hp : plainFor y = true)
    (body : ∀ (p : Program) (e : Env) (s : State) (m : MethodId) (below : List Frame) (meth : Method) (c : Code) (s₁ : State), p.tables.exec = Jvm.exec → c.code = bytes → c.maxLocals = maxL → s.vm.findClass y.cls = some m.cls → meth.name = y.name → Z.Warmed39 s.vm → meth.sig.returnType = ret → meth.locks = false → Stand p l e rm (s.setVm s.vm) m as' below meth c s₁ [] 0 0 → s₁.heap = h0 → s.heap = h0 → CHv Z EL s.vm h0 → own_Go p e below (own_EndH Z EL s rm.cells rm.slots Q) s₁ (entryFrame m as' maxL)) : own_MetH l Z EL y bytes maxL ret rm as' h0 Q := by
  intro ws
  refine MetFree.of_bodySF hp hisR ?_
  intro p e s m args below meth c s₁ Bd hml hP hK
  obtain ⟨rfl, hZ, hh, hC⟩ := hP
  exact body p e s m below meth c s₁ Bd.exec Bd.bytes hml (findClass_of_methodNamed Bd.named) (name_of_methodNamed Bd.named Bd.method).1 hZ Bd.returns Bd.notSynchronized (Stand.of_body Bd) (by rw [← hh, Bd.state]; rfl) hh hC
theorem own_retNH {kc ks : Nat} {Q : Option Value → Heap → List Loc → Prop} (X : Stand p l e R (s.setVm vm0) m args below meth c T locs cells slots) (hx : p.tables.exec = Jvm.exec) (hS : s.Since vm0 k0) (eT : T.heap = h) (hk : k0 ≤ h.size) (hZ : Z.Warmed39 vm0) (hEL : EW Z a0 EL) (hsh : s.heap = h0) (C : CHr Z EL s.vm h0 vm0 h) (hlk : meth.locks = false) {pc : Nat} {Ls : Array Slot} {z : Int32} {rest : List Value} (hret : meth.sig.returnType = some ty) (ht : ty = .boolean ∨ ty = .byte ∨ ty = .char ∨ ty = .short) (hd : decode c.code pc = .ok (.ireturn, 1)) (hc : cells ≤ kc) (hs : slots ≤ ks) (hq : Q (some (.int (nar ty z))) T.heap locs) : own_Go p e below (own_EndH Z EL s kc ks Q) T (mkF m pc Ls (.int z :: rest)) := by
  obtain ⟨fs, hr, hrun, hended, hW⟩ := X.leaveW hS (by rw [eT]; exact hk) (v := some (.int (nar ty z))) (fun q => by rw [hret] at q; cases q) hlk
  refine ⟨_, _, retN X hx hret ht hd hr, hrun, hended, _, _, rfl, hq, ?_, hW.1, hW.2.1, hW.2.2.1, hW.2.2.2.mono hc hs⟩
  have q := C.trans (CHv.at X hZ hEL C.1)
  rw [hsh, show (T.setFrames fs).heap = T.heap from rfl, eT]; exact q
theorem own_callStH {y : MethodName} {bytes : ByteArray} {maxL : Nat} {ret : Option FieldType} {rm : Room} {Q : Option Value → Heap → List Loc → Prop} (X : Stand p l e R (s.setVm vm0) m args below meth c T locs cells slots) (hx : p.tables.exec = Jvm.exec) (hZ : Z.Warmed39 vm0) {own : String} {index : Nat} (hown : vm0.findClass own = some m.cls)
    (w1 : (Jvm.Cond.methodLink own index y).before a0 Z = true) (w2 : (Jvm.Cond.static y).before a0 Z = true) (w3 : (Jvm.Cond.initialized y.cls).before a0 Z = true) (w4 : (Jvm.Cond.code y bytes maxL ret).before a0 Z = true) (hy : y.cls ≠ "java/lang/invoke/MethodHandle" ∧ y.cls ≠ "java/lang/invoke/VarHandle") {argsL rest : List Value}
    (hEL : EW Z a0 EL) (H : CHv Z EL vm0 h) (M : own_MetH l Z EL y bytes maxL ret rm argsL.toArray h Q) (eT : T.heap = h) (hS : s.Since vm0 k0) (hk : k0 ≤ h.size) {W : Nat} (hf : rm.frames + 1 ≤ R.frames) (hl : W + (maxL + 11) + rm.locals ≤ R.locals) {g : JFrame} (hg : g.method = m) (hsize : g.locals.size = c.maxLocals) (hlen : ∀ sig, parseMethodDescriptor y.desc = some sig → argsL.length = sig.parameters.length) (hs : g.stack = argsL.reverse ++ rest) (hW : 2 * g.monitorRoom + (rest.map fun v => v.category).sum ≤ W) (hd : decode c.code g.pc = .ok (.invokestatic index, 3)) (hc : cells + rm.cells ≤ R.cells) (hsl : slots + rm.slots ≤ R.slots) :
    ∃ v T' L, Stand p l e R (s.setVm T'.vm) m args below meth c T' (locs ++ L) (cells + rm.cells) (slots + rm.slots) ∧ Q v T'.heap L ∧ s.Since T'.vm T'.heap.size ∧ Z.Warmed39 T'.vm ∧ T'.vm.findClass own = some m.cls ∧ ∀ target, Steps p.tables e below (T'.setTop { g with pc := g.pc + 3, stack := v.toList ++ rest }) target → Steps p.tables e below (T.setTop g) target := by
  have hZ' : Z.Warmed39 (s.setVm vm0).vm := hZ
  have hown' : (s.setVm vm0).vm.findClass own = some m.cls := hown
  obtain ⟨v, _, ⟨T', L', k', n'⟩, -, X', hS', hle, ⟨L, hQ, l1, l2, l3, hC⟩, st⟩ := callSS X hx (y := y) hown' (mvT hZ' w1) (mvT hZ' w2) (mvT hZ' w3) (mvT hZ' w4) hy (backOfSH (W := W) (M []) hZ w4 w3 hf hl hEL H) hg hsize (argsL := argsL) (rest := rest) hlen hs hW hd (fun _ _ => ⟨rfl, eT, hc, hsl⟩)
  dsimp only [Pt.U, Pt.locs, Pt.cells, Pt.slots] at X' l1 l2 l3 st hQ hS' hle
  subst l1 l2 l3
  exact ⟨v, T', L, X', hQ, hS.trans hS' (Nat.le_trans hk (by rw [← eT]; exact hle)), State.Warmed39.trans (t := s.setVm vm0) hZ hS'.1, by rw [hS'.1.alike.findClass]; exact hown, fun _ k => st.trans k⟩
end OwnH

theorem own_strw {a0 : Array Value} {Z : State} (hw : ∀ d ∈ tables_1, d.before a0 Z = true) : ∀ a ∈ Bundle.stringAtoms, a.before a0 Z = true := fun d hd => hw d ((by decide +kernel : ∀ d ∈ Bundle.stringAtoms, d ∈ tables_1) d hd)
theorem own_txt102 : (∀ c ∈ ("!#$%&'*+-.^_`|~" : String).toList, c.toNat < 256) ∧ ("!#$%&'*+-.^_`|~" : String).toList.map (fun c => Value.int (Jvm.Lit.byteI c.toNat.toUInt16)) = [(.int (33 : Int32)), (.int (35 : Int32)), (.int (36 : Int32)), (.int (37 : Int32)), (.int (38 : Int32)), (.int (39 : Int32)), (.int (42 : Int32)), (.int (43 : Int32)), (.int (45 : Int32)), (.int (46 : Int32)), (.int (94 : Int32)), (.int (95 : Int32)), (.int (96 : Int32)), (.int (124 : Int32)), (.int (126 : Int32))] := ⟨by decide, by decide +kernel⟩
theorem own_d13_0 : decode method_2_code 0 = .ok (.iload_n 0, 1) := by decide +kernel
theorem own_d13_1 : decode method_2_code 1 = .ok (.bipush 34, 2) := by decide +kernel
theorem own_d13_3 : decode method_2_code 3 = .ok (.if_icmp .eq 99, 3) := by decide +kernel
theorem own_d13_6 : decode method_2_code 6 = .ok (.iload_n 0, 1) := by decide +kernel
theorem own_d13_7 : decode method_2_code 7 = .ok (.bipush 40, 2) := by decide +kernel
theorem own_d13_9 : decode method_2_code 9 = .ok (.if_icmp .eq 93, 3) := by decide +kernel
theorem own_d13_12 : decode method_2_code 12 = .ok (.iload_n 0, 1) := by decide +kernel
theorem own_d13_13 : decode method_2_code 13 = .ok (.bipush 41, 2) := by decide +kernel
theorem own_d13_15 : decode method_2_code 15 = .ok (.if_icmp .eq 87, 3) := by decide +kernel
theorem own_d13_18 : decode method_2_code 18 = .ok (.iload_n 0, 1) := by decide +kernel
theorem own_d13_19 : decode method_2_code 19 = .ok (.bipush 44, 2) := by decide +kernel
theorem own_d13_21 : decode method_2_code 21 = .ok (.if_icmp .eq 81, 3) := by decide +kernel
theorem own_d13_24 : decode method_2_code 24 = .ok (.iload_n 0, 1) := by decide +kernel
theorem own_d13_25 : decode method_2_code 25 = .ok (.bipush 47, 2) := by decide +kernel
theorem own_d13_27 : decode method_2_code 27 = .ok (.if_icmp .eq 75, 3) := by decide +kernel
theorem own_d13_30 : decode method_2_code 30 = .ok (.iload_n 0, 1) := by decide +kernel
theorem own_d13_31 : decode method_2_code 31 = .ok (.bipush 58, 2) := by decide +kernel
theorem own_d13_33 : decode method_2_code 33 = .ok (.if_icmp .eq 69, 3) := by decide +kernel
theorem own_d13_36 : decode method_2_code 36 = .ok (.iload_n 0, 1) := by decide +kernel
theorem own_d13_37 : decode method_2_code 37 = .ok (.bipush 59, 2) := by decide +kernel
theorem own_d13_39 : decode method_2_code 39 = .ok (.if_icmp .eq 63, 3) := by decide +kernel
theorem own_d13_42 : decode method_2_code 42 = .ok (.iload_n 0, 1) := by decide +kernel
theorem own_d13_43 : decode method_2_code 43 = .ok (.bipush 60, 2) := by decide +kernel
theorem own_d13_45 : decode method_2_code 45 = .ok (.if_icmp .eq 57, 3) := by decide +kernel
theorem own_d13_48 : decode method_2_code 48 = .ok (.iload_n 0, 1) := by decide +kernel
theorem own_d13_49 : decode method_2_code 49 = .ok (.bipush 61, 2) := by decide +kernel
theorem own_d13_51 : decode method_2_code 51 = .ok (.if_icmp .eq 51, 3) := by decide +kernel
theorem own_d13_54 : decode method_2_code 54 = .ok (.iload_n 0, 1) := by decide +kernel
theorem own_d13_55 : decode method_2_code 55 = .ok (.bipush 62, 2) := by decide +kernel
theorem own_d13_57 : decode method_2_code 57 = .ok (.if_icmp .eq 45, 3) := by decide +kernel
theorem own_d13_60 : decode method_2_code 60 = .ok (.iload_n 0, 1) := by decide +kernel
theorem own_d13_61 : decode method_2_code 61 = .ok (.bipush 63, 2) := by decide +kernel
theorem own_d13_63 : decode method_2_code 63 = .ok (.if_icmp .eq 39, 3) := by decide +kernel
theorem own_d13_66 : decode method_2_code 66 = .ok (.iload_n 0, 1) := by decide +kernel
theorem own_d13_67 : decode method_2_code 67 = .ok (.bipush 64, 2) := by decide +kernel
theorem own_d13_69 : decode method_2_code 69 = .ok (.if_icmp .eq 33, 3) := by decide +kernel
theorem own_d13_72 : decode method_2_code 72 = .ok (.iload_n 0, 1) := by decide +kernel
theorem own_d13_73 : decode method_2_code 73 = .ok (.bipush 91, 2) := by decide +kernel
theorem own_d13_75 : decode method_2_code 75 = .ok (.if_icmp .eq 27, 3) := by decide +kernel
theorem own_d13_78 : decode method_2_code 78 = .ok (.iload_n 0, 1) := by decide +kernel
theorem own_d13_79 : decode method_2_code 79 = .ok (.bipush 92, 2) := by decide +kernel
theorem own_d13_81 : decode method_2_code 81 = .ok (.if_icmp .eq 21, 3) := by decide +kernel
theorem own_d13_84 : decode method_2_code 84 = .ok (.iload_n 0, 1) := by decide +kernel
theorem own_d13_85 : decode method_2_code 85 = .ok (.bipush 93, 2) := by decide +kernel
theorem own_d13_87 : decode method_2_code 87 = .ok (.if_icmp .eq 15, 3) := by decide +kernel
theorem own_d13_90 : decode method_2_code 90 = .ok (.iload_n 0, 1) := by decide +kernel
theorem own_d13_91 : decode method_2_code 91 = .ok (.bipush 123, 2) := by decide +kernel
theorem own_d13_93 : decode method_2_code 93 = .ok (.if_icmp .eq 9, 3) := by decide +kernel
theorem own_d13_96 : decode method_2_code 96 = .ok (.iload_n 0, 1) := by decide +kernel
theorem own_d13_97 : decode method_2_code 97 = .ok (.bipush 125, 2) := by decide +kernel
theorem own_d13_99 : decode method_2_code 99 = .ok (.if_icmp .ne 7, 3) := by decide +kernel
theorem own_d13_102 : decode method_2_code 102 = .ok (.iconst 1, 1) := by decide +kernel
theorem own_d13_103 : decode method_2_code 103 = .ok (.goto 4, 3) := by decide +kernel
theorem own_d13_106 : decode method_2_code 106 = .ok (.iconst 0, 1) := by decide +kernel
theorem own_d13_107 : decode method_2_code 107 = .ok (.ireturn, 1) := by decide +kernel
theorem own_pn0 : plainName "com/example/recurve/recurve/http/HttpFieldsIsTokenCharPinLaw" = true := by first | (simp [plainName, overriddenIn]; done) | decide +kernel
def own_del (x0 : Int32) : Int32 := (if x0 = (34 : Int32) then (1 : Int32) else (if x0 = (40 : Int32) then (1 : Int32) else (if x0 = (41 : Int32) then (1 : Int32) else (if x0 = (44 : Int32) then (1 : Int32) else (if x0 = (47 : Int32) then (1 : Int32) else (if x0 = (58 : Int32) then (1 : Int32) else (if x0 = (59 : Int32) then (1 : Int32) else (if x0 = (60 : Int32) then (1 : Int32) else (if x0 = (61 : Int32) then (1 : Int32) else (if x0 = (62 : Int32) then (1 : Int32) else (if x0 = (63 : Int32) then (1 : Int32) else (if x0 = (64 : Int32) then (1 : Int32) else (if x0 = (91 : Int32) then (1 : Int32) else (if x0 = (92 : Int32) then (1 : Int32) else (if x0 = (93 : Int32) then (1 : Int32) else (if x0 = (123 : Int32) then (1 : Int32) else (if x0 = (125 : Int32) then (1 : Int32) else (0 : Int32))))))))))))))))))
set_option maxHeartbeats 40000000 in
theorem own_mt13_ef (m : MethodId) (x0 : Int32) : entryFrame m #[(.int x0)] 1 = mkF m 0 #[.val (.int x0)] [] := by first | (simp [entryFrame, mkF, argsToLocals, Value.category, maxLocals]; done) | rfl
set_option maxRecDepth 65536 in
set_option maxHeartbeats 40000000 in
theorem own_mt13 (l : Launch) (Z : State) (a0 : Array Value) (hw : ∀ d ∈ tables_1, d.before a0 Z = true) (x0 : Int32) (h0 : Heap) :
    own_Met l Z (⟨"com/example/recurve/recurve/http/HttpFieldsIsTokenCharPinLaw", "isDelimiter", "(C)Z"⟩ : MethodName) method_2_code 1 (some .boolean) ({ frames := 0, cells := 0, slots := 0, locals := 0 } : Room) #[(.int x0)] h0 (fun v h L => v = some (.int (own_del x0)) ∧ h = h0 ∧ L = []) := by
  refine own_intro (plainFor_of_name own_pn0) ?_
  intro p e s m below meth c s₁ hx hby hml hown hnm hZ hret hlk X0 e0
  refine own_cast (own_mt13_ef m x0) ?_
  refine own_via (T' := s₁) (g' := (mkF m 3 #[.val (.int x0)] [(.int (34 : Int32)), (.int x0)])) (fun t k => XS.iloadN X0.here hx rfl (hb hby own_d13_0) rfl (XS.bipush X0.here hx rfl (hb hby own_d13_1) k)) ?_
  by_cases hc1 : x0 = (34 : Int32)
  · refine own_via (T' := s₁) (g' := (mkF m 107 #[.val (.int x0)] [(.int (1 : Int32))])) (fun t k => XS.icmpYes X0.here hx rfl (pc0 := 3) (pc' := 102) rfl (hb hby own_d13_3) rfl (teq hc1).1 (by decide) (by decide) (XS.iconst X0.here hx rfl (hb hby own_d13_102) (XS.goto X0.here hx rfl (pc0 := 103) (pc' := 107) rfl (hb hby own_d13_103) (by decide) (by decide) k))) ?_
    refine own_retN X0 hx hlk (ty := .boolean) hret (by simp) (hb hby own_d13_107) (by decide) (by decide) ?_
    exact ⟨by rw [own_del, if_pos hc1] <;> rfl, e0, rfl⟩
  · refine own_via (T' := s₁) (g' := (mkF m 9 #[.val (.int x0)] [(.int (40 : Int32)), (.int x0)])) (fun t k => XS.icmpNo X0.here hx rfl (hb hby own_d13_3) rfl (feq hc1).1 (XS.iloadN X0.here hx rfl (hb hby own_d13_6) rfl (XS.bipush X0.here hx rfl (hb hby own_d13_7) k))) ?_
    by_cases hc2 : x0 = (40 : Int32)
    · refine own_via (T' := s₁) (g' := (mkF m 107 #[.val (.int x0)] [(.int (1 : Int32))])) (fun t k => XS.icmpYes X0.here hx rfl (pc0 := 9) (pc' := 102) rfl (hb hby own_d13_9) rfl (teq hc2).1 (by decide) (by decide) (XS.iconst X0.here hx rfl (hb hby own_d13_102) (XS.goto X0.here hx rfl (pc0 := 103) (pc' := 107) rfl (hb hby own_d13_103) (by decide) (by decide) k))) ?_
      refine own_retN X0 hx hlk (ty := .boolean) hret (by simp) (hb hby own_d13_107) (by decide) (by decide) ?_
      exact ⟨by rw [own_del, if_neg hc1, if_pos hc2] <;> rfl, e0, rfl⟩
    · refine own_via (T' := s₁) (g' := (mkF m 15 #[.val (.int x0)] [(.int (41 : Int32)), (.int x0)])) (fun t k => XS.icmpNo X0.here hx rfl (hb hby own_d13_9) rfl (feq hc2).1 (XS.iloadN X0.here hx rfl (hb hby own_d13_12) rfl (XS.bipush X0.here hx rfl (hb hby own_d13_13) k))) ?_
      by_cases hc3 : x0 = (41 : Int32)
      · refine own_via (T' := s₁) (g' := (mkF m 107 #[.val (.int x0)] [(.int (1 : Int32))])) (fun t k => XS.icmpYes X0.here hx rfl (pc0 := 15) (pc' := 102) rfl (hb hby own_d13_15) rfl (teq hc3).1 (by decide) (by decide) (XS.iconst X0.here hx rfl (hb hby own_d13_102) (XS.goto X0.here hx rfl (pc0 := 103) (pc' := 107) rfl (hb hby own_d13_103) (by decide) (by decide) k))) ?_
        refine own_retN X0 hx hlk (ty := .boolean) hret (by simp) (hb hby own_d13_107) (by decide) (by decide) ?_
        exact ⟨by rw [own_del, if_neg hc1, if_neg hc2, if_pos hc3] <;> rfl, e0, rfl⟩
      · refine own_via (T' := s₁) (g' := (mkF m 21 #[.val (.int x0)] [(.int (44 : Int32)), (.int x0)])) (fun t k => XS.icmpNo X0.here hx rfl (hb hby own_d13_15) rfl (feq hc3).1 (XS.iloadN X0.here hx rfl (hb hby own_d13_18) rfl (XS.bipush X0.here hx rfl (hb hby own_d13_19) k))) ?_
        by_cases hc4 : x0 = (44 : Int32)
        · refine own_via (T' := s₁) (g' := (mkF m 107 #[.val (.int x0)] [(.int (1 : Int32))])) (fun t k => XS.icmpYes X0.here hx rfl (pc0 := 21) (pc' := 102) rfl (hb hby own_d13_21) rfl (teq hc4).1 (by decide) (by decide) (XS.iconst X0.here hx rfl (hb hby own_d13_102) (XS.goto X0.here hx rfl (pc0 := 103) (pc' := 107) rfl (hb hby own_d13_103) (by decide) (by decide) k))) ?_
          refine own_retN X0 hx hlk (ty := .boolean) hret (by simp) (hb hby own_d13_107) (by decide) (by decide) ?_
          exact ⟨by rw [own_del, if_neg hc1, if_neg hc2, if_neg hc3, if_pos hc4] <;> rfl, e0, rfl⟩
        · refine own_via (T' := s₁) (g' := (mkF m 27 #[.val (.int x0)] [(.int (47 : Int32)), (.int x0)])) (fun t k => XS.icmpNo X0.here hx rfl (hb hby own_d13_21) rfl (feq hc4).1 (XS.iloadN X0.here hx rfl (hb hby own_d13_24) rfl (XS.bipush X0.here hx rfl (hb hby own_d13_25) k))) ?_
          by_cases hc5 : x0 = (47 : Int32)
          · refine own_via (T' := s₁) (g' := (mkF m 107 #[.val (.int x0)] [(.int (1 : Int32))])) (fun t k => XS.icmpYes X0.here hx rfl (pc0 := 27) (pc' := 102) rfl (hb hby own_d13_27) rfl (teq hc5).1 (by decide) (by decide) (XS.iconst X0.here hx rfl (hb hby own_d13_102) (XS.goto X0.here hx rfl (pc0 := 103) (pc' := 107) rfl (hb hby own_d13_103) (by decide) (by decide) k))) ?_
            refine own_retN X0 hx hlk (ty := .boolean) hret (by simp) (hb hby own_d13_107) (by decide) (by decide) ?_
            exact ⟨by rw [own_del, if_neg hc1, if_neg hc2, if_neg hc3, if_neg hc4, if_pos hc5] <;> rfl, e0, rfl⟩
          · refine own_via (T' := s₁) (g' := (mkF m 33 #[.val (.int x0)] [(.int (58 : Int32)), (.int x0)])) (fun t k => XS.icmpNo X0.here hx rfl (hb hby own_d13_27) rfl (feq hc5).1 (XS.iloadN X0.here hx rfl (hb hby own_d13_30) rfl (XS.bipush X0.here hx rfl (hb hby own_d13_31) k))) ?_
            by_cases hc6 : x0 = (58 : Int32)
            · refine own_via (T' := s₁) (g' := (mkF m 107 #[.val (.int x0)] [(.int (1 : Int32))])) (fun t k => XS.icmpYes X0.here hx rfl (pc0 := 33) (pc' := 102) rfl (hb hby own_d13_33) rfl (teq hc6).1 (by decide) (by decide) (XS.iconst X0.here hx rfl (hb hby own_d13_102) (XS.goto X0.here hx rfl (pc0 := 103) (pc' := 107) rfl (hb hby own_d13_103) (by decide) (by decide) k))) ?_
              refine own_retN X0 hx hlk (ty := .boolean) hret (by simp) (hb hby own_d13_107) (by decide) (by decide) ?_
              exact ⟨by rw [own_del, if_neg hc1, if_neg hc2, if_neg hc3, if_neg hc4, if_neg hc5, if_pos hc6] <;> rfl, e0, rfl⟩
            · refine own_via (T' := s₁) (g' := (mkF m 39 #[.val (.int x0)] [(.int (59 : Int32)), (.int x0)])) (fun t k => XS.icmpNo X0.here hx rfl (hb hby own_d13_33) rfl (feq hc6).1 (XS.iloadN X0.here hx rfl (hb hby own_d13_36) rfl (XS.bipush X0.here hx rfl (hb hby own_d13_37) k))) ?_
              by_cases hc7 : x0 = (59 : Int32)
              · refine own_via (T' := s₁) (g' := (mkF m 107 #[.val (.int x0)] [(.int (1 : Int32))])) (fun t k => XS.icmpYes X0.here hx rfl (pc0 := 39) (pc' := 102) rfl (hb hby own_d13_39) rfl (teq hc7).1 (by decide) (by decide) (XS.iconst X0.here hx rfl (hb hby own_d13_102) (XS.goto X0.here hx rfl (pc0 := 103) (pc' := 107) rfl (hb hby own_d13_103) (by decide) (by decide) k))) ?_
                refine own_retN X0 hx hlk (ty := .boolean) hret (by simp) (hb hby own_d13_107) (by decide) (by decide) ?_
                exact ⟨by rw [own_del, if_neg hc1, if_neg hc2, if_neg hc3, if_neg hc4, if_neg hc5, if_neg hc6, if_pos hc7] <;> rfl, e0, rfl⟩
              · refine own_via (T' := s₁) (g' := (mkF m 45 #[.val (.int x0)] [(.int (60 : Int32)), (.int x0)])) (fun t k => XS.icmpNo X0.here hx rfl (hb hby own_d13_39) rfl (feq hc7).1 (XS.iloadN X0.here hx rfl (hb hby own_d13_42) rfl (XS.bipush X0.here hx rfl (hb hby own_d13_43) k))) ?_
                by_cases hc8 : x0 = (60 : Int32)
                · refine own_via (T' := s₁) (g' := (mkF m 107 #[.val (.int x0)] [(.int (1 : Int32))])) (fun t k => XS.icmpYes X0.here hx rfl (pc0 := 45) (pc' := 102) rfl (hb hby own_d13_45) rfl (teq hc8).1 (by decide) (by decide) (XS.iconst X0.here hx rfl (hb hby own_d13_102) (XS.goto X0.here hx rfl (pc0 := 103) (pc' := 107) rfl (hb hby own_d13_103) (by decide) (by decide) k))) ?_
                  refine own_retN X0 hx hlk (ty := .boolean) hret (by simp) (hb hby own_d13_107) (by decide) (by decide) ?_
                  exact ⟨by rw [own_del, if_neg hc1, if_neg hc2, if_neg hc3, if_neg hc4, if_neg hc5, if_neg hc6, if_neg hc7, if_pos hc8] <;> rfl, e0, rfl⟩
                · refine own_via (T' := s₁) (g' := (mkF m 51 #[.val (.int x0)] [(.int (61 : Int32)), (.int x0)])) (fun t k => XS.icmpNo X0.here hx rfl (hb hby own_d13_45) rfl (feq hc8).1 (XS.iloadN X0.here hx rfl (hb hby own_d13_48) rfl (XS.bipush X0.here hx rfl (hb hby own_d13_49) k))) ?_
                  by_cases hc9 : x0 = (61 : Int32)
                  · refine own_via (T' := s₁) (g' := (mkF m 107 #[.val (.int x0)] [(.int (1 : Int32))])) (fun t k => XS.icmpYes X0.here hx rfl (pc0 := 51) (pc' := 102) rfl (hb hby own_d13_51) rfl (teq hc9).1 (by decide) (by decide) (XS.iconst X0.here hx rfl (hb hby own_d13_102) (XS.goto X0.here hx rfl (pc0 := 103) (pc' := 107) rfl (hb hby own_d13_103) (by decide) (by decide) k))) ?_
                    refine own_retN X0 hx hlk (ty := .boolean) hret (by simp) (hb hby own_d13_107) (by decide) (by decide) ?_
                    exact ⟨by rw [own_del, if_neg hc1, if_neg hc2, if_neg hc3, if_neg hc4, if_neg hc5, if_neg hc6, if_neg hc7, if_neg hc8, if_pos hc9] <;> rfl, e0, rfl⟩
                  · refine own_via (T' := s₁) (g' := (mkF m 57 #[.val (.int x0)] [(.int (62 : Int32)), (.int x0)])) (fun t k => XS.icmpNo X0.here hx rfl (hb hby own_d13_51) rfl (feq hc9).1 (XS.iloadN X0.here hx rfl (hb hby own_d13_54) rfl (XS.bipush X0.here hx rfl (hb hby own_d13_55) k))) ?_
                    by_cases hc10 : x0 = (62 : Int32)
                    · refine own_via (T' := s₁) (g' := (mkF m 107 #[.val (.int x0)] [(.int (1 : Int32))])) (fun t k => XS.icmpYes X0.here hx rfl (pc0 := 57) (pc' := 102) rfl (hb hby own_d13_57) rfl (teq hc10).1 (by decide) (by decide) (XS.iconst X0.here hx rfl (hb hby own_d13_102) (XS.goto X0.here hx rfl (pc0 := 103) (pc' := 107) rfl (hb hby own_d13_103) (by decide) (by decide) k))) ?_
                      refine own_retN X0 hx hlk (ty := .boolean) hret (by simp) (hb hby own_d13_107) (by decide) (by decide) ?_
                      exact ⟨by rw [own_del, if_neg hc1, if_neg hc2, if_neg hc3, if_neg hc4, if_neg hc5, if_neg hc6, if_neg hc7, if_neg hc8, if_neg hc9, if_pos hc10] <;> rfl, e0, rfl⟩
                    · refine own_via (T' := s₁) (g' := (mkF m 63 #[.val (.int x0)] [(.int (63 : Int32)), (.int x0)])) (fun t k => XS.icmpNo X0.here hx rfl (hb hby own_d13_57) rfl (feq hc10).1 (XS.iloadN X0.here hx rfl (hb hby own_d13_60) rfl (XS.bipush X0.here hx rfl (hb hby own_d13_61) k))) ?_
                      by_cases hc11 : x0 = (63 : Int32)
                      · refine own_via (T' := s₁) (g' := (mkF m 107 #[.val (.int x0)] [(.int (1 : Int32))])) (fun t k => XS.icmpYes X0.here hx rfl (pc0 := 63) (pc' := 102) rfl (hb hby own_d13_63) rfl (teq hc11).1 (by decide) (by decide) (XS.iconst X0.here hx rfl (hb hby own_d13_102) (XS.goto X0.here hx rfl (pc0 := 103) (pc' := 107) rfl (hb hby own_d13_103) (by decide) (by decide) k))) ?_
                        refine own_retN X0 hx hlk (ty := .boolean) hret (by simp) (hb hby own_d13_107) (by decide) (by decide) ?_
                        exact ⟨by rw [own_del, if_neg hc1, if_neg hc2, if_neg hc3, if_neg hc4, if_neg hc5, if_neg hc6, if_neg hc7, if_neg hc8, if_neg hc9, if_neg hc10, if_pos hc11] <;> rfl, e0, rfl⟩
                      · refine own_via (T' := s₁) (g' := (mkF m 69 #[.val (.int x0)] [(.int (64 : Int32)), (.int x0)])) (fun t k => XS.icmpNo X0.here hx rfl (hb hby own_d13_63) rfl (feq hc11).1 (XS.iloadN X0.here hx rfl (hb hby own_d13_66) rfl (XS.bipush X0.here hx rfl (hb hby own_d13_67) k))) ?_
                        by_cases hc12 : x0 = (64 : Int32)
                        · refine own_via (T' := s₁) (g' := (mkF m 107 #[.val (.int x0)] [(.int (1 : Int32))])) (fun t k => XS.icmpYes X0.here hx rfl (pc0 := 69) (pc' := 102) rfl (hb hby own_d13_69) rfl (teq hc12).1 (by decide) (by decide) (XS.iconst X0.here hx rfl (hb hby own_d13_102) (XS.goto X0.here hx rfl (pc0 := 103) (pc' := 107) rfl (hb hby own_d13_103) (by decide) (by decide) k))) ?_
                          refine own_retN X0 hx hlk (ty := .boolean) hret (by simp) (hb hby own_d13_107) (by decide) (by decide) ?_
                          exact ⟨by rw [own_del, if_neg hc1, if_neg hc2, if_neg hc3, if_neg hc4, if_neg hc5, if_neg hc6, if_neg hc7, if_neg hc8, if_neg hc9, if_neg hc10, if_neg hc11, if_pos hc12] <;> rfl, e0, rfl⟩
                        · refine own_via (T' := s₁) (g' := (mkF m 75 #[.val (.int x0)] [(.int (91 : Int32)), (.int x0)])) (fun t k => XS.icmpNo X0.here hx rfl (hb hby own_d13_69) rfl (feq hc12).1 (XS.iloadN X0.here hx rfl (hb hby own_d13_72) rfl (XS.bipush X0.here hx rfl (hb hby own_d13_73) k))) ?_
                          by_cases hc13 : x0 = (91 : Int32)
                          · refine own_via (T' := s₁) (g' := (mkF m 107 #[.val (.int x0)] [(.int (1 : Int32))])) (fun t k => XS.icmpYes X0.here hx rfl (pc0 := 75) (pc' := 102) rfl (hb hby own_d13_75) rfl (teq hc13).1 (by decide) (by decide) (XS.iconst X0.here hx rfl (hb hby own_d13_102) (XS.goto X0.here hx rfl (pc0 := 103) (pc' := 107) rfl (hb hby own_d13_103) (by decide) (by decide) k))) ?_
                            refine own_retN X0 hx hlk (ty := .boolean) hret (by simp) (hb hby own_d13_107) (by decide) (by decide) ?_
                            exact ⟨by rw [own_del, if_neg hc1, if_neg hc2, if_neg hc3, if_neg hc4, if_neg hc5, if_neg hc6, if_neg hc7, if_neg hc8, if_neg hc9, if_neg hc10, if_neg hc11, if_neg hc12, if_pos hc13] <;> rfl, e0, rfl⟩
                          · refine own_via (T' := s₁) (g' := (mkF m 81 #[.val (.int x0)] [(.int (92 : Int32)), (.int x0)])) (fun t k => XS.icmpNo X0.here hx rfl (hb hby own_d13_75) rfl (feq hc13).1 (XS.iloadN X0.here hx rfl (hb hby own_d13_78) rfl (XS.bipush X0.here hx rfl (hb hby own_d13_79) k))) ?_
                            by_cases hc14 : x0 = (92 : Int32)
                            · refine own_via (T' := s₁) (g' := (mkF m 107 #[.val (.int x0)] [(.int (1 : Int32))])) (fun t k => XS.icmpYes X0.here hx rfl (pc0 := 81) (pc' := 102) rfl (hb hby own_d13_81) rfl (teq hc14).1 (by decide) (by decide) (XS.iconst X0.here hx rfl (hb hby own_d13_102) (XS.goto X0.here hx rfl (pc0 := 103) (pc' := 107) rfl (hb hby own_d13_103) (by decide) (by decide) k))) ?_
                              refine own_retN X0 hx hlk (ty := .boolean) hret (by simp) (hb hby own_d13_107) (by decide) (by decide) ?_
                              exact ⟨by rw [own_del, if_neg hc1, if_neg hc2, if_neg hc3, if_neg hc4, if_neg hc5, if_neg hc6, if_neg hc7, if_neg hc8, if_neg hc9, if_neg hc10, if_neg hc11, if_neg hc12, if_neg hc13, if_pos hc14] <;> rfl, e0, rfl⟩
                            · refine own_via (T' := s₁) (g' := (mkF m 87 #[.val (.int x0)] [(.int (93 : Int32)), (.int x0)])) (fun t k => XS.icmpNo X0.here hx rfl (hb hby own_d13_81) rfl (feq hc14).1 (XS.iloadN X0.here hx rfl (hb hby own_d13_84) rfl (XS.bipush X0.here hx rfl (hb hby own_d13_85) k))) ?_
                              by_cases hc15 : x0 = (93 : Int32)
                              · refine own_via (T' := s₁) (g' := (mkF m 107 #[.val (.int x0)] [(.int (1 : Int32))])) (fun t k => XS.icmpYes X0.here hx rfl (pc0 := 87) (pc' := 102) rfl (hb hby own_d13_87) rfl (teq hc15).1 (by decide) (by decide) (XS.iconst X0.here hx rfl (hb hby own_d13_102) (XS.goto X0.here hx rfl (pc0 := 103) (pc' := 107) rfl (hb hby own_d13_103) (by decide) (by decide) k))) ?_
                                refine own_retN X0 hx hlk (ty := .boolean) hret (by simp) (hb hby own_d13_107) (by decide) (by decide) ?_
                                exact ⟨by rw [own_del, if_neg hc1, if_neg hc2, if_neg hc3, if_neg hc4, if_neg hc5, if_neg hc6, if_neg hc7, if_neg hc8, if_neg hc9, if_neg hc10, if_neg hc11, if_neg hc12, if_neg hc13, if_neg hc14, if_pos hc15] <;> rfl, e0, rfl⟩
                              · refine own_via (T' := s₁) (g' := (mkF m 93 #[.val (.int x0)] [(.int (123 : Int32)), (.int x0)])) (fun t k => XS.icmpNo X0.here hx rfl (hb hby own_d13_87) rfl (feq hc15).1 (XS.iloadN X0.here hx rfl (hb hby own_d13_90) rfl (XS.bipush X0.here hx rfl (hb hby own_d13_91) k))) ?_
                                by_cases hc16 : x0 = (123 : Int32)
                                · refine own_via (T' := s₁) (g' := (mkF m 107 #[.val (.int x0)] [(.int (1 : Int32))])) (fun t k => XS.icmpYes X0.here hx rfl (pc0 := 93) (pc' := 102) rfl (hb hby own_d13_93) rfl (teq hc16).1 (by decide) (by decide) (XS.iconst X0.here hx rfl (hb hby own_d13_102) (XS.goto X0.here hx rfl (pc0 := 103) (pc' := 107) rfl (hb hby own_d13_103) (by decide) (by decide) k))) ?_
                                  refine own_retN X0 hx hlk (ty := .boolean) hret (by simp) (hb hby own_d13_107) (by decide) (by decide) ?_
                                  exact ⟨by rw [own_del, if_neg hc1, if_neg hc2, if_neg hc3, if_neg hc4, if_neg hc5, if_neg hc6, if_neg hc7, if_neg hc8, if_neg hc9, if_neg hc10, if_neg hc11, if_neg hc12, if_neg hc13, if_neg hc14, if_neg hc15, if_pos hc16] <;> rfl, e0, rfl⟩
                                · refine own_via (T' := s₁) (g' := (mkF m 99 #[.val (.int x0)] [(.int (125 : Int32)), (.int x0)])) (fun t k => XS.icmpNo X0.here hx rfl (hb hby own_d13_93) rfl (feq hc16).1 (XS.iloadN X0.here hx rfl (hb hby own_d13_96) rfl (XS.bipush X0.here hx rfl (hb hby own_d13_97) k))) ?_
                                  by_cases hc17 : x0 = (125 : Int32)
                                  · refine own_via (T' := s₁) (g' := (mkF m 107 #[.val (.int x0)] [(.int (1 : Int32))])) (fun t k => XS.icmpNo X0.here hx rfl (hb hby own_d13_99) rfl (teq hc17).2 (XS.iconst X0.here hx rfl (hb hby own_d13_102) (XS.goto X0.here hx rfl (pc0 := 103) (pc' := 107) rfl (hb hby own_d13_103) (by decide) (by decide) k))) ?_
                                    refine own_retN X0 hx hlk (ty := .boolean) hret (by simp) (hb hby own_d13_107) (by decide) (by decide) ?_
                                    exact ⟨by rw [own_del, if_neg hc1, if_neg hc2, if_neg hc3, if_neg hc4, if_neg hc5, if_neg hc6, if_neg hc7, if_neg hc8, if_neg hc9, if_neg hc10, if_neg hc11, if_neg hc12, if_neg hc13, if_neg hc14, if_neg hc15, if_neg hc16, if_pos hc17] <;> rfl, e0, rfl⟩
                                  · refine own_via (T' := s₁) (g' := (mkF m 107 #[.val (.int x0)] [(.int (0 : Int32))])) (fun t k => XS.icmpYes X0.here hx rfl (pc0 := 99) (pc' := 106) rfl (hb hby own_d13_99) rfl (feq hc17).2 (by decide) (by decide) (XS.iconst X0.here hx rfl (hb hby own_d13_106) k)) ?_
                                    refine own_retN X0 hx hlk (ty := .boolean) hret (by simp) (hb hby own_d13_107) (by decide) (by decide) ?_
                                    exact ⟨by rw [own_del, if_neg hc1, if_neg hc2, if_neg hc3, if_neg hc4, if_neg hc5, if_neg hc6, if_neg hc7, if_neg hc8, if_neg hc9, if_neg hc10, if_neg hc11, if_neg hc12, if_neg hc13, if_neg hc14, if_neg hc15, if_neg hc16, if_neg hc17] <;> rfl, e0, rfl⟩
theorem own_d12_0 : decode method_3_code 0 = .ok (.iload_n 0, 1) := by decide +kernel
theorem own_d12_1 : decode method_3_code 1 = .ok (.bipush 33, 2) := by decide +kernel
theorem own_d12_3 : decode method_3_code 3 = .ok (.if_icmp .lt 9, 3) := by decide +kernel
theorem own_d12_6 : decode method_3_code 6 = .ok (.iload_n 0, 1) := by decide +kernel
theorem own_d12_7 : decode method_3_code 7 = .ok (.bipush 126, 2) := by decide +kernel
theorem own_d12_9 : decode method_3_code 9 = .ok (.if_icmp .le 5, 3) := by decide +kernel
theorem own_d12_12 : decode method_3_code 12 = .ok (.iconst 0, 1) := by decide +kernel
theorem own_d12_13 : decode method_3_code 13 = .ok (.ireturn, 1) := by decide +kernel
theorem own_d12_14 : decode method_3_code 14 = .ok (.iload_n 0, 1) := by decide +kernel
theorem own_d12_15 : decode method_3_code 15 = .ok (.invokestatic 7, 3) := by decide +kernel
theorem own_d12_18 : decode method_3_code 18 = .ok (.ifCond .ne 7, 3) := by decide +kernel
theorem own_d12_21 : decode method_3_code 21 = .ok (.iconst 1, 1) := by decide +kernel
theorem own_d12_22 : decode method_3_code 22 = .ok (.goto 4, 3) := by decide +kernel
theorem own_d12_25 : decode method_3_code 25 = .ok (.iconst 0, 1) := by decide +kernel
theorem own_d12_26 : decode method_3_code 26 = .ok (.ireturn, 1) := by decide +kernel
theorem own_pd0 : parseMethodDescriptor "(C)Z" = some ⟨[.char], some .boolean⟩ := by decide +kernel
def own_ref (x0 : Int32) : Int32 := (if x0 < (33 : Int32) then (0 : Int32) else (if (126 : Int32) < x0 then (0 : Int32) else (if (own_del x0) = (0 : Int32) then (1 : Int32) else (0 : Int32))))
set_option maxHeartbeats 40000000 in
theorem own_mt12_ef (m : MethodId) (x0 : Int32) : entryFrame m #[(.int x0)] 1 = mkF m 0 #[.val (.int x0)] [] := by first | (simp [entryFrame, mkF, argsToLocals, Value.category, maxLocals]; done) | rfl
set_option maxRecDepth 65536 in
set_option maxHeartbeats 40000000 in
theorem own_mt12 (l : Launch) (Z : State) (a0 : Array Value) (hw : ∀ d ∈ tables_1, d.before a0 Z = true) (x0 : Int32) (h0 : Heap) :
    own_Met l Z (⟨"com/example/recurve/recurve/http/HttpFieldsIsTokenCharPinLaw", "reference", "(C)Z"⟩ : MethodName) method_3_code 1 (some .boolean) ({ frames := 1, cells := 0, slots := 0, locals := 12 } : Room) #[(.int x0)] h0 (fun v h L => v = some (.int (own_ref x0)) ∧ h = h0 ∧ L = []) := by
  refine own_intro (plainFor_of_name own_pn0) ?_
  intro p e s m below meth c s₁ hx hby hml hown hnm hZ hret hlk X0 e0
  refine own_cast (own_mt12_ef m x0) ?_
  refine own_via (T' := s₁) (g' := (mkF m 3 #[.val (.int x0)] [(.int (33 : Int32)), (.int x0)])) (fun t k => XS.iloadN X0.here hx rfl (hb hby own_d12_0) rfl (XS.bipush X0.here hx rfl (hb hby own_d12_1) k)) ?_
  by_cases hc1 : x0 < (33 : Int32)
  · refine own_via (T' := s₁) (g' := (mkF m 13 #[.val (.int x0)] [(.int (0 : Int32))])) (fun t k => XS.icmpYes X0.here hx rfl (pc0 := 3) (pc' := 12) rfl (hb hby own_d12_3) rfl (tlt hc1).1 (by decide) (by decide) (XS.iconst X0.here hx rfl (hb hby own_d12_12) k)) ?_
    refine own_retN X0 hx hlk (ty := .boolean) hret (by simp) (hb hby own_d12_13) (by decide) (by decide) ?_
    exact ⟨by rw [own_ref, if_pos hc1] <;> rfl, e0, rfl⟩
  · refine own_via (T' := s₁) (g' := (mkF m 9 #[.val (.int x0)] [(.int (126 : Int32)), (.int x0)])) (fun t k => XS.icmpNo X0.here hx rfl (hb hby own_d12_3) rfl (flt hc1).1 (XS.iloadN X0.here hx rfl (hb hby own_d12_6) rfl (XS.bipush X0.here hx rfl (hb hby own_d12_7) k))) ?_
    by_cases hc2 : (126 : Int32) < x0
    · refine own_via (T' := s₁) (g' := (mkF m 13 #[.val (.int x0)] [(.int (0 : Int32))])) (fun t k => XS.icmpNo X0.here hx rfl (hb hby own_d12_9) rfl (tlt hc2).2.2.2 (XS.iconst X0.here hx rfl (hb hby own_d12_12) k)) ?_
      refine own_retN X0 hx hlk (ty := .boolean) hret (by simp) (hb hby own_d12_13) (by decide) (by decide) ?_
      exact ⟨by rw [own_ref, if_neg hc1, if_pos hc2] <;> rfl, e0, rfl⟩
    · refine own_via (T' := s₁) (g' := (mkF m 15 #[.val (.int x0)] [(.int x0)])) (fun t k => XS.icmpYes X0.here hx rfl (pc0 := 9) (pc' := 14) rfl (hb hby own_d12_9) rfl (flt hc2).2.2.2 (by decide) (by decide) (XS.iloadN X0.here hx rfl (hb hby own_d12_14) rfl k)) ?_
      obtain ⟨v3, T3, L3, X3, hQ3, st3⟩ := own_callSt (y := (⟨"com/example/recurve/recurve/http/HttpFieldsIsTokenCharPinLaw", "isDelimiter", "(C)Z"⟩ : MethodName)) (argsL := [(.int x0)]) (rest := []) X0 hx hZ hown (hw _ (List.mem_of_getElem? (i := 61) rfl)) (hw _ (List.mem_of_getElem? (i := 62) rfl)) (hw _ (List.mem_of_getElem? (i := 59) rfl)) (hw _ (List.mem_of_getElem? (i := 63) rfl)) (by decide) (own_mt13 l Z a0 hw x0 h0) e0 (W := 0) (by decide) (by decide) (g := (mkF m 15 #[.val (.int x0)] [(.int x0)])) rfl (by rw [hml]; rfl) (lenOf own_pd0 rfl) rfl (by show 2 * 0 + _ ≤ _; exact Nat.le_of_eq rfl) (hb hby own_d12_15) (by decide) (by decide)
      obtain ⟨rfl, e3, rfl⟩ := hQ3
      refine own_via (T' := T3) (g' := (mkF m 18 #[.val (.int x0)] [(.int (own_del x0))])) st3 ?_
      by_cases hc4 : (own_del x0) = (0 : Int32)
      · refine own_via (T' := T3) (g' := (mkF m 26 #[.val (.int x0)] [(.int (1 : Int32))])) (fun t k => XS.ifNo X3.here hx rfl (hb hby own_d12_18) rfl ((if0 _ _).trans (teq hc4).2) (XS.iconst X3.here hx rfl (hb hby own_d12_21) (XS.goto X3.here hx rfl (pc0 := 22) (pc' := 26) rfl (hb hby own_d12_22) (by decide) (by decide) k))) ?_
        refine own_retN X3 hx hlk (ty := .boolean) hret (by simp) (hb hby own_d12_26) (by decide) (by decide) ?_
        exact ⟨by rw [own_ref, if_neg hc1, if_neg hc2, if_pos hc4] <;> rfl, e3, rfl⟩
      · refine own_via (T' := T3) (g' := (mkF m 26 #[.val (.int x0)] [(.int (0 : Int32))])) (fun t k => XS.ifYes X3.here hx rfl (pc0 := 18) (pc' := 25) rfl (hb hby own_d12_18) rfl ((if0 _ _).trans (feq hc4).2) (by decide) (by decide) (XS.iconst X3.here hx rfl (hb hby own_d12_25) k)) ?_
        refine own_retN X3 hx hlk (ty := .boolean) hret (by simp) (hb hby own_d12_26) (by decide) (by decide) ?_
        exact ⟨by rw [own_ref, if_neg hc1, if_neg hc2, if_neg hc4] <;> rfl, e3, rfl⟩
theorem own_d8_0 : decode jdk_43_method_4_code 0 = .ok (.iload_n 0, 1) := by decide +kernel
theorem own_d8_1 : decode jdk_43_method_4_code 1 = .ok (.ifCond .lt 14, 3) := by decide +kernel
theorem own_d8_4 : decode jdk_43_method_4_code 4 = .ok (.iload_n 0, 1) := by decide +kernel
theorem own_d8_5 : decode jdk_43_method_4_code 5 = .ok (.sipush 255, 3) := by decide +kernel
theorem own_d8_8 : decode jdk_43_method_4_code 8 = .ok (.if_icmp .gt 7, 3) := by decide +kernel
theorem own_d8_11 : decode jdk_43_method_4_code 11 = .ok (.iconst 1, 1) := by decide +kernel
theorem own_d8_12 : decode jdk_43_method_4_code 12 = .ok (.goto 4, 3) := by decide +kernel
theorem own_d8_15 : decode jdk_43_method_4_code 15 = .ok (.iconst 0, 1) := by decide +kernel
theorem own_d8_16 : decode jdk_43_method_4_code 16 = .ok (.ireturn, 1) := by decide +kernel
theorem own_pn1 : plainName "java/lang/StringLatin1" = true := by first | (simp [plainName, overriddenIn]; done) | decide +kernel
def own_ce (x0 : Int32) : Int32 := (if x0 < (0 : Int32) then (0 : Int32) else (if (255 : Int32) < x0 then (0 : Int32) else (1 : Int32)))
set_option maxHeartbeats 40000000 in
theorem own_mt8_ef (m : MethodId) (x0 : Int32) : entryFrame m #[(.int x0)] 1 = mkF m 0 #[.val (.int x0)] [] := by first | (simp [entryFrame, mkF, argsToLocals, Value.category, maxLocals]; done) | rfl
set_option maxRecDepth 65536 in
set_option maxHeartbeats 40000000 in
theorem own_mt8 (l : Launch) (Z : State) (a0 : Array Value) (hw : ∀ d ∈ tables_1, d.before a0 Z = true) (x0 : Int32) (h0 : Heap) :
    own_Met l Z (⟨"java/lang/StringLatin1", "canEncode", "(I)Z"⟩ : MethodName) jdk_43_method_4_code 1 (some .boolean) ({ frames := 0, cells := 0, slots := 0, locals := 0 } : Room) #[(.int x0)] h0 (fun v h L => v = some (.int (own_ce x0)) ∧ h = h0 ∧ L = []) := by
  refine own_intro (plainFor_of_name own_pn1) ?_
  intro p e s m below meth c s₁ hx hby hml hown hnm hZ hret hlk X0 e0
  refine own_cast (own_mt8_ef m x0) ?_
  refine own_via (T' := s₁) (g' := (mkF m 1 #[.val (.int x0)] [(.int x0)])) (fun t k => XS.iloadN X0.here hx rfl (hb hby own_d8_0) rfl k) ?_
  by_cases hc1 : x0 < (0 : Int32)
  · refine own_via (T' := s₁) (g' := (mkF m 16 #[.val (.int x0)] [(.int (0 : Int32))])) (fun t k => XS.ifYes X0.here hx rfl (pc0 := 1) (pc' := 15) rfl (hb hby own_d8_1) rfl ((if0 _ _).trans (tlt hc1).1) (by decide) (by decide) (XS.iconst X0.here hx rfl (hb hby own_d8_15) k)) ?_
    refine own_retN X0 hx hlk (ty := .boolean) hret (by simp) (hb hby own_d8_16) (by decide) (by decide) ?_
    exact ⟨by rw [own_ce, if_pos hc1] <;> rfl, e0, rfl⟩
  · refine own_via (T' := s₁) (g' := (mkF m 8 #[.val (.int x0)] [(.int (255 : Int32)), (.int x0)])) (fun t k => XS.ifNo X0.here hx rfl (hb hby own_d8_1) rfl ((if0 _ _).trans (flt hc1).1) (XS.iloadN X0.here hx rfl (hb hby own_d8_4) rfl (XS.sipush X0.here hx rfl (hb hby own_d8_5) k))) ?_
    by_cases hc2 : (255 : Int32) < x0
    · refine own_via (T' := s₁) (g' := (mkF m 16 #[.val (.int x0)] [(.int (0 : Int32))])) (fun t k => XS.icmpYes X0.here hx rfl (pc0 := 8) (pc' := 15) rfl (hb hby own_d8_8) rfl (tlt hc2).2.2.1 (by decide) (by decide) (XS.iconst X0.here hx rfl (hb hby own_d8_15) k)) ?_
      refine own_retN X0 hx hlk (ty := .boolean) hret (by simp) (hb hby own_d8_16) (by decide) (by decide) ?_
      exact ⟨by rw [own_ce, if_neg hc1, if_pos hc2] <;> rfl, e0, rfl⟩
    · refine own_via (T' := s₁) (g' := (mkF m 16 #[.val (.int x0)] [(.int (1 : Int32))])) (fun t k => XS.icmpNo X0.here hx rfl (hb hby own_d8_8) rfl (flt hc2).2.2.1 (XS.iconst X0.here hx rfl (hb hby own_d8_11) (XS.goto X0.here hx rfl (pc0 := 12) (pc' := 16) rfl (hb hby own_d8_12) (by decide) (by decide) k))) ?_
      refine own_retN X0 hx hlk (ty := .boolean) hret (by simp) (hb hby own_d8_16) (by decide) (by decide) ?_
      exact ⟨by rw [own_ce, if_neg hc1, if_neg hc2] <;> rfl, e0, rfl⟩
theorem own_d9_0 : decode jdk_29_method_65_code 0 = .ok (.iload_n 0, 1) := by decide +kernel
theorem own_d9_1 : decode jdk_29_method_65_code 1 = .ok (.iload_n 1, 1) := by decide +kernel
theorem own_d9_2 : decode jdk_29_method_65_code 2 = .ok (.if_icmp .lt 7, 3) := by decide +kernel
theorem own_d9_5 : decode jdk_29_method_65_code 5 = .ok (.iload_n 0, 1) := by decide +kernel
theorem own_d9_6 : decode jdk_29_method_65_code 6 = .ok (.goto 4, 3) := by decide +kernel
theorem own_d9_9 : decode jdk_29_method_65_code 9 = .ok (.iload_n 1, 1) := by decide +kernel
theorem own_d9_10 : decode jdk_29_method_65_code 10 = .ok (.ireturn, 1) := by decide +kernel
set_option maxHeartbeats 40000000 in
theorem own_mt9_ef (m : MethodId)  : entryFrame m #[(.int (0 : Int32)), (.int (0 : Int32))] 2 = mkF m 0 #[.val (.int (0 : Int32)), .val (.int (0 : Int32))] [] := by first | (simp [entryFrame, mkF, argsToLocals, Value.category, maxLocals]; done) | rfl
set_option maxRecDepth 65536 in
set_option maxHeartbeats 40000000 in
theorem own_mt9 (l : Launch) (Z : State) (a0 : Array Value) (hw : ∀ d ∈ tables_1, d.before a0 Z = true)  (h0 : Heap) :
    own_Met l Z (⟨"java/lang/Math", "max", "(II)I"⟩ : MethodName) jdk_29_method_65_code 2 (some .int) ({ frames := 0, cells := 0, slots := 0, locals := 0 } : Room) #[(.int (0 : Int32)), (.int (0 : Int32))] h0 (fun v h L => v = some (.int (0 : Int32)) ∧ h = h0 ∧ L = []) := by
  refine own_intro (Jvm.Free.JP.mathPlain rfl (by decide +kernel)) ?_
  intro p e s m below meth c s₁ hx hby hml hown hnm hZ hret hlk X0 e0
  refine own_cast (own_mt9_ef m ) ?_
  refine own_via (T' := s₁) (g' := (mkF m 2 #[.val (.int (0 : Int32)), .val (.int (0 : Int32))] [(.int (0 : Int32)), (.int (0 : Int32))])) (fun t k => XS.iloadN X0.here hx rfl (hb hby own_d9_0) rfl (XS.iloadN X0.here hx rfl (hb hby own_d9_1) rfl k)) ?_
  refine own_via (T' := s₁) (g' := (mkF m 10 #[.val (.int (0 : Int32)), .val (.int (0 : Int32))] [(.int (0 : Int32))])) (fun t k => XS.icmpNo X0.here hx rfl (hb hby own_d9_2) rfl (flt (by decide : ¬ ((0 : Int32) < (0 : Int32)))).1 (XS.iloadN X0.here hx rfl (hb hby own_d9_5) rfl (XS.goto X0.here hx rfl (pc0 := 6) (pc' := 10) rfl (hb hby own_d9_6) (by decide) (by decide) k))) ?_
  refine own_retI X0 hx hlk hret (hb hby own_d9_10) (by decide) (by decide) ?_
  exact ⟨by rfl <;> rfl, e0, rfl⟩
theorem own_d10_0 : decode jdk_29_method_69_code 0 = .ok (.iload_n 0, 1) := by decide +kernel
theorem own_d10_1 : decode jdk_29_method_69_code 1 = .ok (.iload_n 1, 1) := by decide +kernel
theorem own_d10_2 : decode jdk_29_method_69_code 2 = .ok (.if_icmp .gt 7, 3) := by decide +kernel
theorem own_d10_5 : decode jdk_29_method_69_code 5 = .ok (.iload_n 0, 1) := by decide +kernel
theorem own_d10_6 : decode jdk_29_method_69_code 6 = .ok (.goto 4, 3) := by decide +kernel
theorem own_d10_9 : decode jdk_29_method_69_code 9 = .ok (.iload_n 1, 1) := by decide +kernel
theorem own_d10_10 : decode jdk_29_method_69_code 10 = .ok (.ireturn, 1) := by decide +kernel
set_option maxHeartbeats 40000000 in
theorem own_mt10_ef (m : MethodId)  : entryFrame m #[(.int (15 : Int32)), (.int (15 : Int32))] 2 = mkF m 0 #[.val (.int (15 : Int32)), .val (.int (15 : Int32))] [] := by first | (simp [entryFrame, mkF, argsToLocals, Value.category, maxLocals]; done) | rfl
set_option maxRecDepth 65536 in
set_option maxHeartbeats 40000000 in
theorem own_mt10 (l : Launch) (Z : State) (a0 : Array Value) (hw : ∀ d ∈ tables_1, d.before a0 Z = true)  (h0 : Heap) :
    own_Met l Z (⟨"java/lang/Math", "min", "(II)I"⟩ : MethodName) jdk_29_method_69_code 2 (some .int) ({ frames := 0, cells := 0, slots := 0, locals := 0 } : Room) #[(.int (15 : Int32)), (.int (15 : Int32))] h0 (fun v h L => v = some (.int (15 : Int32)) ∧ h = h0 ∧ L = []) := by
  refine own_intro (Jvm.Free.JP.mathPlain rfl (by decide +kernel)) ?_
  intro p e s m below meth c s₁ hx hby hml hown hnm hZ hret hlk X0 e0
  refine own_cast (own_mt10_ef m ) ?_
  refine own_via (T' := s₁) (g' := (mkF m 2 #[.val (.int (15 : Int32)), .val (.int (15 : Int32))] [(.int (15 : Int32)), (.int (15 : Int32))])) (fun t k => XS.iloadN X0.here hx rfl (hb hby own_d10_0) rfl (XS.iloadN X0.here hx rfl (hb hby own_d10_1) rfl k)) ?_
  refine own_via (T' := s₁) (g' := (mkF m 10 #[.val (.int (15 : Int32)), .val (.int (15 : Int32))] [(.int (15 : Int32))])) (fun t k => XS.icmpNo X0.here hx rfl (hb hby own_d10_2) rfl (flt (by decide : ¬ ((15 : Int32) < (15 : Int32)))).2.2.1 (XS.iloadN X0.here hx rfl (hb hby own_d10_5) rfl (XS.goto X0.here hx rfl (pc0 := 6) (pc' := 10) rfl (hb hby own_d10_6) (by decide) (by decide) k))) ?_
  refine own_retI X0 hx hlk hret (hb hby own_d10_10) (by decide) (by decide) ?_
  exact ⟨by rfl <;> rfl, e0, rfl⟩
theorem own_d11_0 : decode jdk_43_method_23_code 0 = .ok (.iload_n 1, 1) := by decide +kernel
theorem own_d11_1 : decode jdk_43_method_23_code 1 = .ok (.i2b, 1) := by decide +kernel
theorem own_d11_2 : decode jdk_43_method_23_code 2 = .ok (.istore 4, 2) := by decide +kernel
theorem own_d11_4 : decode jdk_43_method_23_code 4 = .ok (.iload_n 2, 1) := by decide +kernel
theorem own_d11_5 : decode jdk_43_method_23_code 5 = .ok (.istore 5, 2) := by decide +kernel
theorem own_d11_7 : decode jdk_43_method_23_code 7 = .ok (.iload 5, 2) := by decide +kernel
theorem own_d11_9 : decode jdk_43_method_23_code 9 = .ok (.iload_n 3, 1) := by decide +kernel
theorem own_d11_10 : decode jdk_43_method_23_code 10 = .ok (.if_icmp .ge 21, 3) := by decide +kernel
theorem own_d11_13 : decode jdk_43_method_23_code 13 = .ok (.aload_n 0, 1) := by decide +kernel
theorem own_d11_14 : decode jdk_43_method_23_code 14 = .ok (.iload 5, 2) := by decide +kernel
theorem own_d11_16 : decode jdk_43_method_23_code 16 = .ok (.baload, 1) := by decide +kernel
theorem own_d11_17 : decode jdk_43_method_23_code 17 = .ok (.iload 4, 2) := by decide +kernel
theorem own_d11_19 : decode jdk_43_method_23_code 19 = .ok (.if_icmp .ne 6, 3) := by decide +kernel
theorem own_d11_22 : decode jdk_43_method_23_code 22 = .ok (.iload 5, 2) := by decide +kernel
theorem own_d11_24 : decode jdk_43_method_23_code 24 = .ok (.ireturn, 1) := by decide +kernel
theorem own_d11_25 : decode jdk_43_method_23_code 25 = .ok (.iinc 5 1, 3) := by decide +kernel
theorem own_d11_28 : decode jdk_43_method_23_code 28 = .ok (.goto (-21), 3) := by decide +kernel
theorem own_d11_31 : decode jdk_43_method_23_code 31 = .ok (.iconst (-1), 1) := by decide +kernel
theorem own_d11_32 : decode jdk_43_method_23_code 32 = .ok (.ireturn, 1) := by decide +kernel
def own_ic (x1 : Int32) : Int32 := (if (33 : Int32) = (x1.toInt8.toInt32) then (0 : Int32) else (if (35 : Int32) = (x1.toInt8.toInt32) then (1 : Int32) else (if (36 : Int32) = (x1.toInt8.toInt32) then (2 : Int32) else (if (37 : Int32) = (x1.toInt8.toInt32) then (3 : Int32) else (if (38 : Int32) = (x1.toInt8.toInt32) then (4 : Int32) else (if (39 : Int32) = (x1.toInt8.toInt32) then (5 : Int32) else (if (42 : Int32) = (x1.toInt8.toInt32) then (6 : Int32) else (if (43 : Int32) = (x1.toInt8.toInt32) then (7 : Int32) else (if (45 : Int32) = (x1.toInt8.toInt32) then (8 : Int32) else (if (46 : Int32) = (x1.toInt8.toInt32) then (9 : Int32) else (if (94 : Int32) = (x1.toInt8.toInt32) then (10 : Int32) else (if (95 : Int32) = (x1.toInt8.toInt32) then (11 : Int32) else (if (96 : Int32) = (x1.toInt8.toInt32) then (12 : Int32) else (if (124 : Int32) = (x1.toInt8.toInt32) then (13 : Int32) else (if (126 : Int32) = (x1.toInt8.toInt32) then (14 : Int32) else (-1 : Int32))))))))))))))))
set_option maxHeartbeats 40000000 in
theorem own_mt11_ef (m : MethodId) (x0 : Addr) (x1 : Int32) : entryFrame m #[(.ref x0), (.int x1), (.int (0 : Int32)), (.int (15 : Int32))] 6 = mkF m 0 #[.val (.ref x0), .val (.int x1), .val (.int (0 : Int32)), .val (.int (15 : Int32)), .unset, .unset] [] := by first | (simp [entryFrame, mkF, argsToLocals, Value.category, maxLocals]; done) | rfl
set_option maxRecDepth 65536 in
set_option maxHeartbeats 40000000 in
theorem own_mt11 (l : Launch) (Z : State) (a0 : Array Value) (hw : ∀ d ∈ tables_1, d.before a0 Z = true) (x0 : Addr) (x1 : Int32) (h0 : Heap) (V_x0 : own_Av Z h0 x0 .byte [(.int (33 : Int32)), (.int (35 : Int32)), (.int (36 : Int32)), (.int (37 : Int32)), (.int (38 : Int32)), (.int (39 : Int32)), (.int (42 : Int32)), (.int (43 : Int32)), (.int (45 : Int32)), (.int (46 : Int32)), (.int (94 : Int32)), (.int (95 : Int32)), (.int (96 : Int32)), (.int (124 : Int32)), (.int (126 : Int32))]) :
    own_Met l Z (⟨"java/lang/StringLatin1", "indexOfChar", "([BIII)I"⟩ : MethodName) jdk_43_method_23_code 6 (some .int) ({ frames := 0, cells := 0, slots := 0, locals := 0 } : Room) #[(.ref x0), (.int x1), (.int (0 : Int32)), (.int (15 : Int32))] h0 (fun v h L => v = some (.int (own_ic x1)) ∧ h = h0 ∧ L = []) := by
  refine own_intro (plainFor_of_name own_pn1) ?_
  intro p e s m below meth c s₁ hx hby hml hown hnm hZ hret hlk X0 e0
  refine own_cast (own_mt11_ef m x0 x1) ?_
  refine own_via (T' := s₁) (g' := (mkF m 10 #[.val (.ref x0), .val (.int x1), .val (.int (0 : Int32)), .val (.int (15 : Int32)), .val (.int (x1.toInt8.toInt32)), .val (.int (0 : Int32))] [(.int (15 : Int32)), (.int (0 : Int32))])) (fun t k => XS.iloadN X0.here hx rfl (hb hby own_d11_0) rfl (XS.i2b X0.here hx rfl (hb hby own_d11_1) rfl (XS.istore X0.here hx rfl (hb hby own_d11_2) rfl (l' := #[.val (.ref x0), .val (.int x1), .val (.int (0 : Int32)), .val (.int (15 : Int32)), .val (.int (x1.toInt8.toInt32)), .unset]) rfl (XS.iloadN X0.here hx rfl (hb hby own_d11_4) rfl (XS.istore X0.here hx rfl (hb hby own_d11_5) rfl (l' := #[.val (.ref x0), .val (.int x1), .val (.int (0 : Int32)), .val (.int (15 : Int32)), .val (.int (x1.toInt8.toInt32)), .val (.int (0 : Int32))]) rfl (XS.iload X0.here hx rfl (hb hby own_d11_7) rfl (XS.iloadN X0.here hx rfl (hb hby own_d11_9) rfl k))))))) ?_
  refine own_via (T' := s₁) (g' := (mkF m 16 #[.val (.ref x0), .val (.int x1), .val (.int (0 : Int32)), .val (.int (15 : Int32)), .val (.int (x1.toInt8.toInt32)), .val (.int (0 : Int32))] [(.int (0 : Int32)), (.ref x0)])) (fun t k => XS.icmpNo X0.here hx rfl (hb hby own_d11_10) rfl (tlt (by decide : (0 : Int32) < (15 : Int32))).2.1 (XS.aloadN X0.here hx rfl (hb hby own_d11_13) rfl rfl (XS.iload X0.here hx rfl (hb hby own_d11_14) rfl k))) ?_
  refine own_via (T' := s₁) (g' := (mkF m 17 #[.val (.ref x0), .val (.int x1), .val (.int (0 : Int32)), .val (.int (15 : Int32)), .val (.int (x1.toInt8.toInt32)), .val (.int (0 : Int32))] [(.int (33 : Int32))])) (own_ldB X0 hx hZ e0 V_x0 (j := (0 : Int32)) (v := (.int (33 : Int32))) (by decide) rfl (g := (mkF m 16 #[.val (.ref x0), .val (.int x1), .val (.int (0 : Int32)), .val (.int (15 : Int32)), .val (.int (x1.toInt8.toInt32)), .val (.int (0 : Int32))] [(.int (0 : Int32)), (.ref x0)])) rfl rfl (hb hby own_d11_16)) ?_
  refine own_via (T' := s₁) (g' := (mkF m 19 #[.val (.ref x0), .val (.int x1), .val (.int (0 : Int32)), .val (.int (15 : Int32)), .val (.int (x1.toInt8.toInt32)), .val (.int (0 : Int32))] [(.int (x1.toInt8.toInt32)), (.int (33 : Int32))])) (fun t k => XS.iload X0.here hx rfl (hb hby own_d11_17) rfl k) ?_
  by_cases hc1 : (33 : Int32) = (x1.toInt8.toInt32)
  · refine own_via (T' := s₁) (g' := (mkF m 24 #[.val (.ref x0), .val (.int x1), .val (.int (0 : Int32)), .val (.int (15 : Int32)), .val (.int (x1.toInt8.toInt32)), .val (.int (0 : Int32))] [(.int (0 : Int32))])) (fun t k => XS.icmpNo X0.here hx rfl (hb hby own_d11_19) rfl (teq hc1).2 (XS.iload X0.here hx rfl (hb hby own_d11_22) rfl k)) ?_
    refine own_retI X0 hx hlk hret (hb hby own_d11_24) (by decide) (by decide) ?_
    exact ⟨by rw [own_ic, if_pos hc1] <;> rfl, e0, rfl⟩
  · refine own_via (T' := s₁) (g' := (mkF m 10 #[.val (.ref x0), .val (.int x1), .val (.int (0 : Int32)), .val (.int (15 : Int32)), .val (.int (x1.toInt8.toInt32)), .val (.int (1 : Int32))] [(.int (15 : Int32)), (.int (1 : Int32))])) (fun t k => XS.icmpYes X0.here hx rfl (pc0 := 19) (pc' := 25) rfl (hb hby own_d11_19) rfl (feq hc1).2 (by decide) (by decide) (XS.iinc X0.here hx rfl (hb hby own_d11_25) rfl (l' := #[.val (.ref x0), .val (.int x1), .val (.int (0 : Int32)), .val (.int (15 : Int32)), .val (.int (x1.toInt8.toInt32)), .val (.int (1 : Int32))]) rfl (XS.goto X0.here hx rfl (pc0 := 28) (pc' := 7) rfl (hb hby own_d11_28) (by decide) (by decide) (XS.iload X0.here hx rfl (hb hby own_d11_7) rfl (XS.iloadN X0.here hx rfl (hb hby own_d11_9) rfl k))))) ?_
    refine own_via (T' := s₁) (g' := (mkF m 16 #[.val (.ref x0), .val (.int x1), .val (.int (0 : Int32)), .val (.int (15 : Int32)), .val (.int (x1.toInt8.toInt32)), .val (.int (1 : Int32))] [(.int (1 : Int32)), (.ref x0)])) (fun t k => XS.icmpNo X0.here hx rfl (hb hby own_d11_10) rfl (tlt (by decide : (1 : Int32) < (15 : Int32))).2.1 (XS.aloadN X0.here hx rfl (hb hby own_d11_13) rfl rfl (XS.iload X0.here hx rfl (hb hby own_d11_14) rfl k))) ?_
    refine own_via (T' := s₁) (g' := (mkF m 17 #[.val (.ref x0), .val (.int x1), .val (.int (0 : Int32)), .val (.int (15 : Int32)), .val (.int (x1.toInt8.toInt32)), .val (.int (1 : Int32))] [(.int (35 : Int32))])) (own_ldB X0 hx hZ e0 V_x0 (j := (1 : Int32)) (v := (.int (35 : Int32))) (by decide) rfl (g := (mkF m 16 #[.val (.ref x0), .val (.int x1), .val (.int (0 : Int32)), .val (.int (15 : Int32)), .val (.int (x1.toInt8.toInt32)), .val (.int (1 : Int32))] [(.int (1 : Int32)), (.ref x0)])) rfl rfl (hb hby own_d11_16)) ?_
    refine own_via (T' := s₁) (g' := (mkF m 19 #[.val (.ref x0), .val (.int x1), .val (.int (0 : Int32)), .val (.int (15 : Int32)), .val (.int (x1.toInt8.toInt32)), .val (.int (1 : Int32))] [(.int (x1.toInt8.toInt32)), (.int (35 : Int32))])) (fun t k => XS.iload X0.here hx rfl (hb hby own_d11_17) rfl k) ?_
    by_cases hc2 : (35 : Int32) = (x1.toInt8.toInt32)
    · refine own_via (T' := s₁) (g' := (mkF m 24 #[.val (.ref x0), .val (.int x1), .val (.int (0 : Int32)), .val (.int (15 : Int32)), .val (.int (x1.toInt8.toInt32)), .val (.int (1 : Int32))] [(.int (1 : Int32))])) (fun t k => XS.icmpNo X0.here hx rfl (hb hby own_d11_19) rfl (teq hc2).2 (XS.iload X0.here hx rfl (hb hby own_d11_22) rfl k)) ?_
      refine own_retI X0 hx hlk hret (hb hby own_d11_24) (by decide) (by decide) ?_
      exact ⟨by rw [own_ic, if_neg hc1, if_pos hc2] <;> rfl, e0, rfl⟩
    · refine own_via (T' := s₁) (g' := (mkF m 10 #[.val (.ref x0), .val (.int x1), .val (.int (0 : Int32)), .val (.int (15 : Int32)), .val (.int (x1.toInt8.toInt32)), .val (.int (2 : Int32))] [(.int (15 : Int32)), (.int (2 : Int32))])) (fun t k => XS.icmpYes X0.here hx rfl (pc0 := 19) (pc' := 25) rfl (hb hby own_d11_19) rfl (feq hc2).2 (by decide) (by decide) (XS.iinc X0.here hx rfl (hb hby own_d11_25) rfl (l' := #[.val (.ref x0), .val (.int x1), .val (.int (0 : Int32)), .val (.int (15 : Int32)), .val (.int (x1.toInt8.toInt32)), .val (.int (2 : Int32))]) rfl (XS.goto X0.here hx rfl (pc0 := 28) (pc' := 7) rfl (hb hby own_d11_28) (by decide) (by decide) (XS.iload X0.here hx rfl (hb hby own_d11_7) rfl (XS.iloadN X0.here hx rfl (hb hby own_d11_9) rfl k))))) ?_
      refine own_via (T' := s₁) (g' := (mkF m 16 #[.val (.ref x0), .val (.int x1), .val (.int (0 : Int32)), .val (.int (15 : Int32)), .val (.int (x1.toInt8.toInt32)), .val (.int (2 : Int32))] [(.int (2 : Int32)), (.ref x0)])) (fun t k => XS.icmpNo X0.here hx rfl (hb hby own_d11_10) rfl (tlt (by decide : (2 : Int32) < (15 : Int32))).2.1 (XS.aloadN X0.here hx rfl (hb hby own_d11_13) rfl rfl (XS.iload X0.here hx rfl (hb hby own_d11_14) rfl k))) ?_
      refine own_via (T' := s₁) (g' := (mkF m 17 #[.val (.ref x0), .val (.int x1), .val (.int (0 : Int32)), .val (.int (15 : Int32)), .val (.int (x1.toInt8.toInt32)), .val (.int (2 : Int32))] [(.int (36 : Int32))])) (own_ldB X0 hx hZ e0 V_x0 (j := (2 : Int32)) (v := (.int (36 : Int32))) (by decide) rfl (g := (mkF m 16 #[.val (.ref x0), .val (.int x1), .val (.int (0 : Int32)), .val (.int (15 : Int32)), .val (.int (x1.toInt8.toInt32)), .val (.int (2 : Int32))] [(.int (2 : Int32)), (.ref x0)])) rfl rfl (hb hby own_d11_16)) ?_
      refine own_via (T' := s₁) (g' := (mkF m 19 #[.val (.ref x0), .val (.int x1), .val (.int (0 : Int32)), .val (.int (15 : Int32)), .val (.int (x1.toInt8.toInt32)), .val (.int (2 : Int32))] [(.int (x1.toInt8.toInt32)), (.int (36 : Int32))])) (fun t k => XS.iload X0.here hx rfl (hb hby own_d11_17) rfl k) ?_
      by_cases hc3 : (36 : Int32) = (x1.toInt8.toInt32)
      · refine own_via (T' := s₁) (g' := (mkF m 24 #[.val (.ref x0), .val (.int x1), .val (.int (0 : Int32)), .val (.int (15 : Int32)), .val (.int (x1.toInt8.toInt32)), .val (.int (2 : Int32))] [(.int (2 : Int32))])) (fun t k => XS.icmpNo X0.here hx rfl (hb hby own_d11_19) rfl (teq hc3).2 (XS.iload X0.here hx rfl (hb hby own_d11_22) rfl k)) ?_
        refine own_retI X0 hx hlk hret (hb hby own_d11_24) (by decide) (by decide) ?_
        exact ⟨by rw [own_ic, if_neg hc1, if_neg hc2, if_pos hc3] <;> rfl, e0, rfl⟩
      · refine own_via (T' := s₁) (g' := (mkF m 10 #[.val (.ref x0), .val (.int x1), .val (.int (0 : Int32)), .val (.int (15 : Int32)), .val (.int (x1.toInt8.toInt32)), .val (.int (3 : Int32))] [(.int (15 : Int32)), (.int (3 : Int32))])) (fun t k => XS.icmpYes X0.here hx rfl (pc0 := 19) (pc' := 25) rfl (hb hby own_d11_19) rfl (feq hc3).2 (by decide) (by decide) (XS.iinc X0.here hx rfl (hb hby own_d11_25) rfl (l' := #[.val (.ref x0), .val (.int x1), .val (.int (0 : Int32)), .val (.int (15 : Int32)), .val (.int (x1.toInt8.toInt32)), .val (.int (3 : Int32))]) rfl (XS.goto X0.here hx rfl (pc0 := 28) (pc' := 7) rfl (hb hby own_d11_28) (by decide) (by decide) (XS.iload X0.here hx rfl (hb hby own_d11_7) rfl (XS.iloadN X0.here hx rfl (hb hby own_d11_9) rfl k))))) ?_
        refine own_via (T' := s₁) (g' := (mkF m 16 #[.val (.ref x0), .val (.int x1), .val (.int (0 : Int32)), .val (.int (15 : Int32)), .val (.int (x1.toInt8.toInt32)), .val (.int (3 : Int32))] [(.int (3 : Int32)), (.ref x0)])) (fun t k => XS.icmpNo X0.here hx rfl (hb hby own_d11_10) rfl (tlt (by decide : (3 : Int32) < (15 : Int32))).2.1 (XS.aloadN X0.here hx rfl (hb hby own_d11_13) rfl rfl (XS.iload X0.here hx rfl (hb hby own_d11_14) rfl k))) ?_
        refine own_via (T' := s₁) (g' := (mkF m 17 #[.val (.ref x0), .val (.int x1), .val (.int (0 : Int32)), .val (.int (15 : Int32)), .val (.int (x1.toInt8.toInt32)), .val (.int (3 : Int32))] [(.int (37 : Int32))])) (own_ldB X0 hx hZ e0 V_x0 (j := (3 : Int32)) (v := (.int (37 : Int32))) (by decide) rfl (g := (mkF m 16 #[.val (.ref x0), .val (.int x1), .val (.int (0 : Int32)), .val (.int (15 : Int32)), .val (.int (x1.toInt8.toInt32)), .val (.int (3 : Int32))] [(.int (3 : Int32)), (.ref x0)])) rfl rfl (hb hby own_d11_16)) ?_
        refine own_via (T' := s₁) (g' := (mkF m 19 #[.val (.ref x0), .val (.int x1), .val (.int (0 : Int32)), .val (.int (15 : Int32)), .val (.int (x1.toInt8.toInt32)), .val (.int (3 : Int32))] [(.int (x1.toInt8.toInt32)), (.int (37 : Int32))])) (fun t k => XS.iload X0.here hx rfl (hb hby own_d11_17) rfl k) ?_
        by_cases hc4 : (37 : Int32) = (x1.toInt8.toInt32)
        · refine own_via (T' := s₁) (g' := (mkF m 24 #[.val (.ref x0), .val (.int x1), .val (.int (0 : Int32)), .val (.int (15 : Int32)), .val (.int (x1.toInt8.toInt32)), .val (.int (3 : Int32))] [(.int (3 : Int32))])) (fun t k => XS.icmpNo X0.here hx rfl (hb hby own_d11_19) rfl (teq hc4).2 (XS.iload X0.here hx rfl (hb hby own_d11_22) rfl k)) ?_
          refine own_retI X0 hx hlk hret (hb hby own_d11_24) (by decide) (by decide) ?_
          exact ⟨by rw [own_ic, if_neg hc1, if_neg hc2, if_neg hc3, if_pos hc4] <;> rfl, e0, rfl⟩
        · refine own_via (T' := s₁) (g' := (mkF m 10 #[.val (.ref x0), .val (.int x1), .val (.int (0 : Int32)), .val (.int (15 : Int32)), .val (.int (x1.toInt8.toInt32)), .val (.int (4 : Int32))] [(.int (15 : Int32)), (.int (4 : Int32))])) (fun t k => XS.icmpYes X0.here hx rfl (pc0 := 19) (pc' := 25) rfl (hb hby own_d11_19) rfl (feq hc4).2 (by decide) (by decide) (XS.iinc X0.here hx rfl (hb hby own_d11_25) rfl (l' := #[.val (.ref x0), .val (.int x1), .val (.int (0 : Int32)), .val (.int (15 : Int32)), .val (.int (x1.toInt8.toInt32)), .val (.int (4 : Int32))]) rfl (XS.goto X0.here hx rfl (pc0 := 28) (pc' := 7) rfl (hb hby own_d11_28) (by decide) (by decide) (XS.iload X0.here hx rfl (hb hby own_d11_7) rfl (XS.iloadN X0.here hx rfl (hb hby own_d11_9) rfl k))))) ?_
          refine own_via (T' := s₁) (g' := (mkF m 16 #[.val (.ref x0), .val (.int x1), .val (.int (0 : Int32)), .val (.int (15 : Int32)), .val (.int (x1.toInt8.toInt32)), .val (.int (4 : Int32))] [(.int (4 : Int32)), (.ref x0)])) (fun t k => XS.icmpNo X0.here hx rfl (hb hby own_d11_10) rfl (tlt (by decide : (4 : Int32) < (15 : Int32))).2.1 (XS.aloadN X0.here hx rfl (hb hby own_d11_13) rfl rfl (XS.iload X0.here hx rfl (hb hby own_d11_14) rfl k))) ?_
          refine own_via (T' := s₁) (g' := (mkF m 17 #[.val (.ref x0), .val (.int x1), .val (.int (0 : Int32)), .val (.int (15 : Int32)), .val (.int (x1.toInt8.toInt32)), .val (.int (4 : Int32))] [(.int (38 : Int32))])) (own_ldB X0 hx hZ e0 V_x0 (j := (4 : Int32)) (v := (.int (38 : Int32))) (by decide) rfl (g := (mkF m 16 #[.val (.ref x0), .val (.int x1), .val (.int (0 : Int32)), .val (.int (15 : Int32)), .val (.int (x1.toInt8.toInt32)), .val (.int (4 : Int32))] [(.int (4 : Int32)), (.ref x0)])) rfl rfl (hb hby own_d11_16)) ?_
          refine own_via (T' := s₁) (g' := (mkF m 19 #[.val (.ref x0), .val (.int x1), .val (.int (0 : Int32)), .val (.int (15 : Int32)), .val (.int (x1.toInt8.toInt32)), .val (.int (4 : Int32))] [(.int (x1.toInt8.toInt32)), (.int (38 : Int32))])) (fun t k => XS.iload X0.here hx rfl (hb hby own_d11_17) rfl k) ?_
          by_cases hc5 : (38 : Int32) = (x1.toInt8.toInt32)
          · refine own_via (T' := s₁) (g' := (mkF m 24 #[.val (.ref x0), .val (.int x1), .val (.int (0 : Int32)), .val (.int (15 : Int32)), .val (.int (x1.toInt8.toInt32)), .val (.int (4 : Int32))] [(.int (4 : Int32))])) (fun t k => XS.icmpNo X0.here hx rfl (hb hby own_d11_19) rfl (teq hc5).2 (XS.iload X0.here hx rfl (hb hby own_d11_22) rfl k)) ?_
            refine own_retI X0 hx hlk hret (hb hby own_d11_24) (by decide) (by decide) ?_
            exact ⟨by rw [own_ic, if_neg hc1, if_neg hc2, if_neg hc3, if_neg hc4, if_pos hc5] <;> rfl, e0, rfl⟩
          · refine own_via (T' := s₁) (g' := (mkF m 10 #[.val (.ref x0), .val (.int x1), .val (.int (0 : Int32)), .val (.int (15 : Int32)), .val (.int (x1.toInt8.toInt32)), .val (.int (5 : Int32))] [(.int (15 : Int32)), (.int (5 : Int32))])) (fun t k => XS.icmpYes X0.here hx rfl (pc0 := 19) (pc' := 25) rfl (hb hby own_d11_19) rfl (feq hc5).2 (by decide) (by decide) (XS.iinc X0.here hx rfl (hb hby own_d11_25) rfl (l' := #[.val (.ref x0), .val (.int x1), .val (.int (0 : Int32)), .val (.int (15 : Int32)), .val (.int (x1.toInt8.toInt32)), .val (.int (5 : Int32))]) rfl (XS.goto X0.here hx rfl (pc0 := 28) (pc' := 7) rfl (hb hby own_d11_28) (by decide) (by decide) (XS.iload X0.here hx rfl (hb hby own_d11_7) rfl (XS.iloadN X0.here hx rfl (hb hby own_d11_9) rfl k))))) ?_
            refine own_via (T' := s₁) (g' := (mkF m 16 #[.val (.ref x0), .val (.int x1), .val (.int (0 : Int32)), .val (.int (15 : Int32)), .val (.int (x1.toInt8.toInt32)), .val (.int (5 : Int32))] [(.int (5 : Int32)), (.ref x0)])) (fun t k => XS.icmpNo X0.here hx rfl (hb hby own_d11_10) rfl (tlt (by decide : (5 : Int32) < (15 : Int32))).2.1 (XS.aloadN X0.here hx rfl (hb hby own_d11_13) rfl rfl (XS.iload X0.here hx rfl (hb hby own_d11_14) rfl k))) ?_
            refine own_via (T' := s₁) (g' := (mkF m 17 #[.val (.ref x0), .val (.int x1), .val (.int (0 : Int32)), .val (.int (15 : Int32)), .val (.int (x1.toInt8.toInt32)), .val (.int (5 : Int32))] [(.int (39 : Int32))])) (own_ldB X0 hx hZ e0 V_x0 (j := (5 : Int32)) (v := (.int (39 : Int32))) (by decide) rfl (g := (mkF m 16 #[.val (.ref x0), .val (.int x1), .val (.int (0 : Int32)), .val (.int (15 : Int32)), .val (.int (x1.toInt8.toInt32)), .val (.int (5 : Int32))] [(.int (5 : Int32)), (.ref x0)])) rfl rfl (hb hby own_d11_16)) ?_
            refine own_via (T' := s₁) (g' := (mkF m 19 #[.val (.ref x0), .val (.int x1), .val (.int (0 : Int32)), .val (.int (15 : Int32)), .val (.int (x1.toInt8.toInt32)), .val (.int (5 : Int32))] [(.int (x1.toInt8.toInt32)), (.int (39 : Int32))])) (fun t k => XS.iload X0.here hx rfl (hb hby own_d11_17) rfl k) ?_
            by_cases hc6 : (39 : Int32) = (x1.toInt8.toInt32)
            · refine own_via (T' := s₁) (g' := (mkF m 24 #[.val (.ref x0), .val (.int x1), .val (.int (0 : Int32)), .val (.int (15 : Int32)), .val (.int (x1.toInt8.toInt32)), .val (.int (5 : Int32))] [(.int (5 : Int32))])) (fun t k => XS.icmpNo X0.here hx rfl (hb hby own_d11_19) rfl (teq hc6).2 (XS.iload X0.here hx rfl (hb hby own_d11_22) rfl k)) ?_
              refine own_retI X0 hx hlk hret (hb hby own_d11_24) (by decide) (by decide) ?_
              exact ⟨by rw [own_ic, if_neg hc1, if_neg hc2, if_neg hc3, if_neg hc4, if_neg hc5, if_pos hc6] <;> rfl, e0, rfl⟩
            · refine own_via (T' := s₁) (g' := (mkF m 10 #[.val (.ref x0), .val (.int x1), .val (.int (0 : Int32)), .val (.int (15 : Int32)), .val (.int (x1.toInt8.toInt32)), .val (.int (6 : Int32))] [(.int (15 : Int32)), (.int (6 : Int32))])) (fun t k => XS.icmpYes X0.here hx rfl (pc0 := 19) (pc' := 25) rfl (hb hby own_d11_19) rfl (feq hc6).2 (by decide) (by decide) (XS.iinc X0.here hx rfl (hb hby own_d11_25) rfl (l' := #[.val (.ref x0), .val (.int x1), .val (.int (0 : Int32)), .val (.int (15 : Int32)), .val (.int (x1.toInt8.toInt32)), .val (.int (6 : Int32))]) rfl (XS.goto X0.here hx rfl (pc0 := 28) (pc' := 7) rfl (hb hby own_d11_28) (by decide) (by decide) (XS.iload X0.here hx rfl (hb hby own_d11_7) rfl (XS.iloadN X0.here hx rfl (hb hby own_d11_9) rfl k))))) ?_
              refine own_via (T' := s₁) (g' := (mkF m 16 #[.val (.ref x0), .val (.int x1), .val (.int (0 : Int32)), .val (.int (15 : Int32)), .val (.int (x1.toInt8.toInt32)), .val (.int (6 : Int32))] [(.int (6 : Int32)), (.ref x0)])) (fun t k => XS.icmpNo X0.here hx rfl (hb hby own_d11_10) rfl (tlt (by decide : (6 : Int32) < (15 : Int32))).2.1 (XS.aloadN X0.here hx rfl (hb hby own_d11_13) rfl rfl (XS.iload X0.here hx rfl (hb hby own_d11_14) rfl k))) ?_
              refine own_via (T' := s₁) (g' := (mkF m 17 #[.val (.ref x0), .val (.int x1), .val (.int (0 : Int32)), .val (.int (15 : Int32)), .val (.int (x1.toInt8.toInt32)), .val (.int (6 : Int32))] [(.int (42 : Int32))])) (own_ldB X0 hx hZ e0 V_x0 (j := (6 : Int32)) (v := (.int (42 : Int32))) (by decide) rfl (g := (mkF m 16 #[.val (.ref x0), .val (.int x1), .val (.int (0 : Int32)), .val (.int (15 : Int32)), .val (.int (x1.toInt8.toInt32)), .val (.int (6 : Int32))] [(.int (6 : Int32)), (.ref x0)])) rfl rfl (hb hby own_d11_16)) ?_
              refine own_via (T' := s₁) (g' := (mkF m 19 #[.val (.ref x0), .val (.int x1), .val (.int (0 : Int32)), .val (.int (15 : Int32)), .val (.int (x1.toInt8.toInt32)), .val (.int (6 : Int32))] [(.int (x1.toInt8.toInt32)), (.int (42 : Int32))])) (fun t k => XS.iload X0.here hx rfl (hb hby own_d11_17) rfl k) ?_
              by_cases hc7 : (42 : Int32) = (x1.toInt8.toInt32)
              · refine own_via (T' := s₁) (g' := (mkF m 24 #[.val (.ref x0), .val (.int x1), .val (.int (0 : Int32)), .val (.int (15 : Int32)), .val (.int (x1.toInt8.toInt32)), .val (.int (6 : Int32))] [(.int (6 : Int32))])) (fun t k => XS.icmpNo X0.here hx rfl (hb hby own_d11_19) rfl (teq hc7).2 (XS.iload X0.here hx rfl (hb hby own_d11_22) rfl k)) ?_
                refine own_retI X0 hx hlk hret (hb hby own_d11_24) (by decide) (by decide) ?_
                exact ⟨by rw [own_ic, if_neg hc1, if_neg hc2, if_neg hc3, if_neg hc4, if_neg hc5, if_neg hc6, if_pos hc7] <;> rfl, e0, rfl⟩
              · refine own_via (T' := s₁) (g' := (mkF m 10 #[.val (.ref x0), .val (.int x1), .val (.int (0 : Int32)), .val (.int (15 : Int32)), .val (.int (x1.toInt8.toInt32)), .val (.int (7 : Int32))] [(.int (15 : Int32)), (.int (7 : Int32))])) (fun t k => XS.icmpYes X0.here hx rfl (pc0 := 19) (pc' := 25) rfl (hb hby own_d11_19) rfl (feq hc7).2 (by decide) (by decide) (XS.iinc X0.here hx rfl (hb hby own_d11_25) rfl (l' := #[.val (.ref x0), .val (.int x1), .val (.int (0 : Int32)), .val (.int (15 : Int32)), .val (.int (x1.toInt8.toInt32)), .val (.int (7 : Int32))]) rfl (XS.goto X0.here hx rfl (pc0 := 28) (pc' := 7) rfl (hb hby own_d11_28) (by decide) (by decide) (XS.iload X0.here hx rfl (hb hby own_d11_7) rfl (XS.iloadN X0.here hx rfl (hb hby own_d11_9) rfl k))))) ?_
                refine own_via (T' := s₁) (g' := (mkF m 16 #[.val (.ref x0), .val (.int x1), .val (.int (0 : Int32)), .val (.int (15 : Int32)), .val (.int (x1.toInt8.toInt32)), .val (.int (7 : Int32))] [(.int (7 : Int32)), (.ref x0)])) (fun t k => XS.icmpNo X0.here hx rfl (hb hby own_d11_10) rfl (tlt (by decide : (7 : Int32) < (15 : Int32))).2.1 (XS.aloadN X0.here hx rfl (hb hby own_d11_13) rfl rfl (XS.iload X0.here hx rfl (hb hby own_d11_14) rfl k))) ?_
                refine own_via (T' := s₁) (g' := (mkF m 17 #[.val (.ref x0), .val (.int x1), .val (.int (0 : Int32)), .val (.int (15 : Int32)), .val (.int (x1.toInt8.toInt32)), .val (.int (7 : Int32))] [(.int (43 : Int32))])) (own_ldB X0 hx hZ e0 V_x0 (j := (7 : Int32)) (v := (.int (43 : Int32))) (by decide) rfl (g := (mkF m 16 #[.val (.ref x0), .val (.int x1), .val (.int (0 : Int32)), .val (.int (15 : Int32)), .val (.int (x1.toInt8.toInt32)), .val (.int (7 : Int32))] [(.int (7 : Int32)), (.ref x0)])) rfl rfl (hb hby own_d11_16)) ?_
                refine own_via (T' := s₁) (g' := (mkF m 19 #[.val (.ref x0), .val (.int x1), .val (.int (0 : Int32)), .val (.int (15 : Int32)), .val (.int (x1.toInt8.toInt32)), .val (.int (7 : Int32))] [(.int (x1.toInt8.toInt32)), (.int (43 : Int32))])) (fun t k => XS.iload X0.here hx rfl (hb hby own_d11_17) rfl k) ?_
                by_cases hc8 : (43 : Int32) = (x1.toInt8.toInt32)
                · refine own_via (T' := s₁) (g' := (mkF m 24 #[.val (.ref x0), .val (.int x1), .val (.int (0 : Int32)), .val (.int (15 : Int32)), .val (.int (x1.toInt8.toInt32)), .val (.int (7 : Int32))] [(.int (7 : Int32))])) (fun t k => XS.icmpNo X0.here hx rfl (hb hby own_d11_19) rfl (teq hc8).2 (XS.iload X0.here hx rfl (hb hby own_d11_22) rfl k)) ?_
                  refine own_retI X0 hx hlk hret (hb hby own_d11_24) (by decide) (by decide) ?_
                  exact ⟨by rw [own_ic, if_neg hc1, if_neg hc2, if_neg hc3, if_neg hc4, if_neg hc5, if_neg hc6, if_neg hc7, if_pos hc8] <;> rfl, e0, rfl⟩
                · refine own_via (T' := s₁) (g' := (mkF m 10 #[.val (.ref x0), .val (.int x1), .val (.int (0 : Int32)), .val (.int (15 : Int32)), .val (.int (x1.toInt8.toInt32)), .val (.int (8 : Int32))] [(.int (15 : Int32)), (.int (8 : Int32))])) (fun t k => XS.icmpYes X0.here hx rfl (pc0 := 19) (pc' := 25) rfl (hb hby own_d11_19) rfl (feq hc8).2 (by decide) (by decide) (XS.iinc X0.here hx rfl (hb hby own_d11_25) rfl (l' := #[.val (.ref x0), .val (.int x1), .val (.int (0 : Int32)), .val (.int (15 : Int32)), .val (.int (x1.toInt8.toInt32)), .val (.int (8 : Int32))]) rfl (XS.goto X0.here hx rfl (pc0 := 28) (pc' := 7) rfl (hb hby own_d11_28) (by decide) (by decide) (XS.iload X0.here hx rfl (hb hby own_d11_7) rfl (XS.iloadN X0.here hx rfl (hb hby own_d11_9) rfl k))))) ?_
                  refine own_via (T' := s₁) (g' := (mkF m 16 #[.val (.ref x0), .val (.int x1), .val (.int (0 : Int32)), .val (.int (15 : Int32)), .val (.int (x1.toInt8.toInt32)), .val (.int (8 : Int32))] [(.int (8 : Int32)), (.ref x0)])) (fun t k => XS.icmpNo X0.here hx rfl (hb hby own_d11_10) rfl (tlt (by decide : (8 : Int32) < (15 : Int32))).2.1 (XS.aloadN X0.here hx rfl (hb hby own_d11_13) rfl rfl (XS.iload X0.here hx rfl (hb hby own_d11_14) rfl k))) ?_
                  refine own_via (T' := s₁) (g' := (mkF m 17 #[.val (.ref x0), .val (.int x1), .val (.int (0 : Int32)), .val (.int (15 : Int32)), .val (.int (x1.toInt8.toInt32)), .val (.int (8 : Int32))] [(.int (45 : Int32))])) (own_ldB X0 hx hZ e0 V_x0 (j := (8 : Int32)) (v := (.int (45 : Int32))) (by decide) rfl (g := (mkF m 16 #[.val (.ref x0), .val (.int x1), .val (.int (0 : Int32)), .val (.int (15 : Int32)), .val (.int (x1.toInt8.toInt32)), .val (.int (8 : Int32))] [(.int (8 : Int32)), (.ref x0)])) rfl rfl (hb hby own_d11_16)) ?_
                  refine own_via (T' := s₁) (g' := (mkF m 19 #[.val (.ref x0), .val (.int x1), .val (.int (0 : Int32)), .val (.int (15 : Int32)), .val (.int (x1.toInt8.toInt32)), .val (.int (8 : Int32))] [(.int (x1.toInt8.toInt32)), (.int (45 : Int32))])) (fun t k => XS.iload X0.here hx rfl (hb hby own_d11_17) rfl k) ?_
                  by_cases hc9 : (45 : Int32) = (x1.toInt8.toInt32)
                  · refine own_via (T' := s₁) (g' := (mkF m 24 #[.val (.ref x0), .val (.int x1), .val (.int (0 : Int32)), .val (.int (15 : Int32)), .val (.int (x1.toInt8.toInt32)), .val (.int (8 : Int32))] [(.int (8 : Int32))])) (fun t k => XS.icmpNo X0.here hx rfl (hb hby own_d11_19) rfl (teq hc9).2 (XS.iload X0.here hx rfl (hb hby own_d11_22) rfl k)) ?_
                    refine own_retI X0 hx hlk hret (hb hby own_d11_24) (by decide) (by decide) ?_
                    exact ⟨by rw [own_ic, if_neg hc1, if_neg hc2, if_neg hc3, if_neg hc4, if_neg hc5, if_neg hc6, if_neg hc7, if_neg hc8, if_pos hc9] <;> rfl, e0, rfl⟩
                  · refine own_via (T' := s₁) (g' := (mkF m 10 #[.val (.ref x0), .val (.int x1), .val (.int (0 : Int32)), .val (.int (15 : Int32)), .val (.int (x1.toInt8.toInt32)), .val (.int (9 : Int32))] [(.int (15 : Int32)), (.int (9 : Int32))])) (fun t k => XS.icmpYes X0.here hx rfl (pc0 := 19) (pc' := 25) rfl (hb hby own_d11_19) rfl (feq hc9).2 (by decide) (by decide) (XS.iinc X0.here hx rfl (hb hby own_d11_25) rfl (l' := #[.val (.ref x0), .val (.int x1), .val (.int (0 : Int32)), .val (.int (15 : Int32)), .val (.int (x1.toInt8.toInt32)), .val (.int (9 : Int32))]) rfl (XS.goto X0.here hx rfl (pc0 := 28) (pc' := 7) rfl (hb hby own_d11_28) (by decide) (by decide) (XS.iload X0.here hx rfl (hb hby own_d11_7) rfl (XS.iloadN X0.here hx rfl (hb hby own_d11_9) rfl k))))) ?_
                    refine own_via (T' := s₁) (g' := (mkF m 16 #[.val (.ref x0), .val (.int x1), .val (.int (0 : Int32)), .val (.int (15 : Int32)), .val (.int (x1.toInt8.toInt32)), .val (.int (9 : Int32))] [(.int (9 : Int32)), (.ref x0)])) (fun t k => XS.icmpNo X0.here hx rfl (hb hby own_d11_10) rfl (tlt (by decide : (9 : Int32) < (15 : Int32))).2.1 (XS.aloadN X0.here hx rfl (hb hby own_d11_13) rfl rfl (XS.iload X0.here hx rfl (hb hby own_d11_14) rfl k))) ?_
                    refine own_via (T' := s₁) (g' := (mkF m 17 #[.val (.ref x0), .val (.int x1), .val (.int (0 : Int32)), .val (.int (15 : Int32)), .val (.int (x1.toInt8.toInt32)), .val (.int (9 : Int32))] [(.int (46 : Int32))])) (own_ldB X0 hx hZ e0 V_x0 (j := (9 : Int32)) (v := (.int (46 : Int32))) (by decide) rfl (g := (mkF m 16 #[.val (.ref x0), .val (.int x1), .val (.int (0 : Int32)), .val (.int (15 : Int32)), .val (.int (x1.toInt8.toInt32)), .val (.int (9 : Int32))] [(.int (9 : Int32)), (.ref x0)])) rfl rfl (hb hby own_d11_16)) ?_
                    refine own_via (T' := s₁) (g' := (mkF m 19 #[.val (.ref x0), .val (.int x1), .val (.int (0 : Int32)), .val (.int (15 : Int32)), .val (.int (x1.toInt8.toInt32)), .val (.int (9 : Int32))] [(.int (x1.toInt8.toInt32)), (.int (46 : Int32))])) (fun t k => XS.iload X0.here hx rfl (hb hby own_d11_17) rfl k) ?_
                    by_cases hc10 : (46 : Int32) = (x1.toInt8.toInt32)
                    · refine own_via (T' := s₁) (g' := (mkF m 24 #[.val (.ref x0), .val (.int x1), .val (.int (0 : Int32)), .val (.int (15 : Int32)), .val (.int (x1.toInt8.toInt32)), .val (.int (9 : Int32))] [(.int (9 : Int32))])) (fun t k => XS.icmpNo X0.here hx rfl (hb hby own_d11_19) rfl (teq hc10).2 (XS.iload X0.here hx rfl (hb hby own_d11_22) rfl k)) ?_
                      refine own_retI X0 hx hlk hret (hb hby own_d11_24) (by decide) (by decide) ?_
                      exact ⟨by rw [own_ic, if_neg hc1, if_neg hc2, if_neg hc3, if_neg hc4, if_neg hc5, if_neg hc6, if_neg hc7, if_neg hc8, if_neg hc9, if_pos hc10] <;> rfl, e0, rfl⟩
                    · refine own_via (T' := s₁) (g' := (mkF m 10 #[.val (.ref x0), .val (.int x1), .val (.int (0 : Int32)), .val (.int (15 : Int32)), .val (.int (x1.toInt8.toInt32)), .val (.int (10 : Int32))] [(.int (15 : Int32)), (.int (10 : Int32))])) (fun t k => XS.icmpYes X0.here hx rfl (pc0 := 19) (pc' := 25) rfl (hb hby own_d11_19) rfl (feq hc10).2 (by decide) (by decide) (XS.iinc X0.here hx rfl (hb hby own_d11_25) rfl (l' := #[.val (.ref x0), .val (.int x1), .val (.int (0 : Int32)), .val (.int (15 : Int32)), .val (.int (x1.toInt8.toInt32)), .val (.int (10 : Int32))]) rfl (XS.goto X0.here hx rfl (pc0 := 28) (pc' := 7) rfl (hb hby own_d11_28) (by decide) (by decide) (XS.iload X0.here hx rfl (hb hby own_d11_7) rfl (XS.iloadN X0.here hx rfl (hb hby own_d11_9) rfl k))))) ?_
                      refine own_via (T' := s₁) (g' := (mkF m 16 #[.val (.ref x0), .val (.int x1), .val (.int (0 : Int32)), .val (.int (15 : Int32)), .val (.int (x1.toInt8.toInt32)), .val (.int (10 : Int32))] [(.int (10 : Int32)), (.ref x0)])) (fun t k => XS.icmpNo X0.here hx rfl (hb hby own_d11_10) rfl (tlt (by decide : (10 : Int32) < (15 : Int32))).2.1 (XS.aloadN X0.here hx rfl (hb hby own_d11_13) rfl rfl (XS.iload X0.here hx rfl (hb hby own_d11_14) rfl k))) ?_
                      refine own_via (T' := s₁) (g' := (mkF m 17 #[.val (.ref x0), .val (.int x1), .val (.int (0 : Int32)), .val (.int (15 : Int32)), .val (.int (x1.toInt8.toInt32)), .val (.int (10 : Int32))] [(.int (94 : Int32))])) (own_ldB X0 hx hZ e0 V_x0 (j := (10 : Int32)) (v := (.int (94 : Int32))) (by decide) rfl (g := (mkF m 16 #[.val (.ref x0), .val (.int x1), .val (.int (0 : Int32)), .val (.int (15 : Int32)), .val (.int (x1.toInt8.toInt32)), .val (.int (10 : Int32))] [(.int (10 : Int32)), (.ref x0)])) rfl rfl (hb hby own_d11_16)) ?_
                      refine own_via (T' := s₁) (g' := (mkF m 19 #[.val (.ref x0), .val (.int x1), .val (.int (0 : Int32)), .val (.int (15 : Int32)), .val (.int (x1.toInt8.toInt32)), .val (.int (10 : Int32))] [(.int (x1.toInt8.toInt32)), (.int (94 : Int32))])) (fun t k => XS.iload X0.here hx rfl (hb hby own_d11_17) rfl k) ?_
                      by_cases hc11 : (94 : Int32) = (x1.toInt8.toInt32)
                      · refine own_via (T' := s₁) (g' := (mkF m 24 #[.val (.ref x0), .val (.int x1), .val (.int (0 : Int32)), .val (.int (15 : Int32)), .val (.int (x1.toInt8.toInt32)), .val (.int (10 : Int32))] [(.int (10 : Int32))])) (fun t k => XS.icmpNo X0.here hx rfl (hb hby own_d11_19) rfl (teq hc11).2 (XS.iload X0.here hx rfl (hb hby own_d11_22) rfl k)) ?_
                        refine own_retI X0 hx hlk hret (hb hby own_d11_24) (by decide) (by decide) ?_
                        exact ⟨by rw [own_ic, if_neg hc1, if_neg hc2, if_neg hc3, if_neg hc4, if_neg hc5, if_neg hc6, if_neg hc7, if_neg hc8, if_neg hc9, if_neg hc10, if_pos hc11] <;> rfl, e0, rfl⟩
                      · refine own_via (T' := s₁) (g' := (mkF m 10 #[.val (.ref x0), .val (.int x1), .val (.int (0 : Int32)), .val (.int (15 : Int32)), .val (.int (x1.toInt8.toInt32)), .val (.int (11 : Int32))] [(.int (15 : Int32)), (.int (11 : Int32))])) (fun t k => XS.icmpYes X0.here hx rfl (pc0 := 19) (pc' := 25) rfl (hb hby own_d11_19) rfl (feq hc11).2 (by decide) (by decide) (XS.iinc X0.here hx rfl (hb hby own_d11_25) rfl (l' := #[.val (.ref x0), .val (.int x1), .val (.int (0 : Int32)), .val (.int (15 : Int32)), .val (.int (x1.toInt8.toInt32)), .val (.int (11 : Int32))]) rfl (XS.goto X0.here hx rfl (pc0 := 28) (pc' := 7) rfl (hb hby own_d11_28) (by decide) (by decide) (XS.iload X0.here hx rfl (hb hby own_d11_7) rfl (XS.iloadN X0.here hx rfl (hb hby own_d11_9) rfl k))))) ?_
                        refine own_via (T' := s₁) (g' := (mkF m 16 #[.val (.ref x0), .val (.int x1), .val (.int (0 : Int32)), .val (.int (15 : Int32)), .val (.int (x1.toInt8.toInt32)), .val (.int (11 : Int32))] [(.int (11 : Int32)), (.ref x0)])) (fun t k => XS.icmpNo X0.here hx rfl (hb hby own_d11_10) rfl (tlt (by decide : (11 : Int32) < (15 : Int32))).2.1 (XS.aloadN X0.here hx rfl (hb hby own_d11_13) rfl rfl (XS.iload X0.here hx rfl (hb hby own_d11_14) rfl k))) ?_
                        refine own_via (T' := s₁) (g' := (mkF m 17 #[.val (.ref x0), .val (.int x1), .val (.int (0 : Int32)), .val (.int (15 : Int32)), .val (.int (x1.toInt8.toInt32)), .val (.int (11 : Int32))] [(.int (95 : Int32))])) (own_ldB X0 hx hZ e0 V_x0 (j := (11 : Int32)) (v := (.int (95 : Int32))) (by decide) rfl (g := (mkF m 16 #[.val (.ref x0), .val (.int x1), .val (.int (0 : Int32)), .val (.int (15 : Int32)), .val (.int (x1.toInt8.toInt32)), .val (.int (11 : Int32))] [(.int (11 : Int32)), (.ref x0)])) rfl rfl (hb hby own_d11_16)) ?_
                        refine own_via (T' := s₁) (g' := (mkF m 19 #[.val (.ref x0), .val (.int x1), .val (.int (0 : Int32)), .val (.int (15 : Int32)), .val (.int (x1.toInt8.toInt32)), .val (.int (11 : Int32))] [(.int (x1.toInt8.toInt32)), (.int (95 : Int32))])) (fun t k => XS.iload X0.here hx rfl (hb hby own_d11_17) rfl k) ?_
                        by_cases hc12 : (95 : Int32) = (x1.toInt8.toInt32)
                        · refine own_via (T' := s₁) (g' := (mkF m 24 #[.val (.ref x0), .val (.int x1), .val (.int (0 : Int32)), .val (.int (15 : Int32)), .val (.int (x1.toInt8.toInt32)), .val (.int (11 : Int32))] [(.int (11 : Int32))])) (fun t k => XS.icmpNo X0.here hx rfl (hb hby own_d11_19) rfl (teq hc12).2 (XS.iload X0.here hx rfl (hb hby own_d11_22) rfl k)) ?_
                          refine own_retI X0 hx hlk hret (hb hby own_d11_24) (by decide) (by decide) ?_
                          exact ⟨by rw [own_ic, if_neg hc1, if_neg hc2, if_neg hc3, if_neg hc4, if_neg hc5, if_neg hc6, if_neg hc7, if_neg hc8, if_neg hc9, if_neg hc10, if_neg hc11, if_pos hc12] <;> rfl, e0, rfl⟩
                        · refine own_via (T' := s₁) (g' := (mkF m 10 #[.val (.ref x0), .val (.int x1), .val (.int (0 : Int32)), .val (.int (15 : Int32)), .val (.int (x1.toInt8.toInt32)), .val (.int (12 : Int32))] [(.int (15 : Int32)), (.int (12 : Int32))])) (fun t k => XS.icmpYes X0.here hx rfl (pc0 := 19) (pc' := 25) rfl (hb hby own_d11_19) rfl (feq hc12).2 (by decide) (by decide) (XS.iinc X0.here hx rfl (hb hby own_d11_25) rfl (l' := #[.val (.ref x0), .val (.int x1), .val (.int (0 : Int32)), .val (.int (15 : Int32)), .val (.int (x1.toInt8.toInt32)), .val (.int (12 : Int32))]) rfl (XS.goto X0.here hx rfl (pc0 := 28) (pc' := 7) rfl (hb hby own_d11_28) (by decide) (by decide) (XS.iload X0.here hx rfl (hb hby own_d11_7) rfl (XS.iloadN X0.here hx rfl (hb hby own_d11_9) rfl k))))) ?_
                          refine own_via (T' := s₁) (g' := (mkF m 16 #[.val (.ref x0), .val (.int x1), .val (.int (0 : Int32)), .val (.int (15 : Int32)), .val (.int (x1.toInt8.toInt32)), .val (.int (12 : Int32))] [(.int (12 : Int32)), (.ref x0)])) (fun t k => XS.icmpNo X0.here hx rfl (hb hby own_d11_10) rfl (tlt (by decide : (12 : Int32) < (15 : Int32))).2.1 (XS.aloadN X0.here hx rfl (hb hby own_d11_13) rfl rfl (XS.iload X0.here hx rfl (hb hby own_d11_14) rfl k))) ?_
                          refine own_via (T' := s₁) (g' := (mkF m 17 #[.val (.ref x0), .val (.int x1), .val (.int (0 : Int32)), .val (.int (15 : Int32)), .val (.int (x1.toInt8.toInt32)), .val (.int (12 : Int32))] [(.int (96 : Int32))])) (own_ldB X0 hx hZ e0 V_x0 (j := (12 : Int32)) (v := (.int (96 : Int32))) (by decide) rfl (g := (mkF m 16 #[.val (.ref x0), .val (.int x1), .val (.int (0 : Int32)), .val (.int (15 : Int32)), .val (.int (x1.toInt8.toInt32)), .val (.int (12 : Int32))] [(.int (12 : Int32)), (.ref x0)])) rfl rfl (hb hby own_d11_16)) ?_
                          refine own_via (T' := s₁) (g' := (mkF m 19 #[.val (.ref x0), .val (.int x1), .val (.int (0 : Int32)), .val (.int (15 : Int32)), .val (.int (x1.toInt8.toInt32)), .val (.int (12 : Int32))] [(.int (x1.toInt8.toInt32)), (.int (96 : Int32))])) (fun t k => XS.iload X0.here hx rfl (hb hby own_d11_17) rfl k) ?_
                          by_cases hc13 : (96 : Int32) = (x1.toInt8.toInt32)
                          · refine own_via (T' := s₁) (g' := (mkF m 24 #[.val (.ref x0), .val (.int x1), .val (.int (0 : Int32)), .val (.int (15 : Int32)), .val (.int (x1.toInt8.toInt32)), .val (.int (12 : Int32))] [(.int (12 : Int32))])) (fun t k => XS.icmpNo X0.here hx rfl (hb hby own_d11_19) rfl (teq hc13).2 (XS.iload X0.here hx rfl (hb hby own_d11_22) rfl k)) ?_
                            refine own_retI X0 hx hlk hret (hb hby own_d11_24) (by decide) (by decide) ?_
                            exact ⟨by rw [own_ic, if_neg hc1, if_neg hc2, if_neg hc3, if_neg hc4, if_neg hc5, if_neg hc6, if_neg hc7, if_neg hc8, if_neg hc9, if_neg hc10, if_neg hc11, if_neg hc12, if_pos hc13] <;> rfl, e0, rfl⟩
                          · refine own_via (T' := s₁) (g' := (mkF m 10 #[.val (.ref x0), .val (.int x1), .val (.int (0 : Int32)), .val (.int (15 : Int32)), .val (.int (x1.toInt8.toInt32)), .val (.int (13 : Int32))] [(.int (15 : Int32)), (.int (13 : Int32))])) (fun t k => XS.icmpYes X0.here hx rfl (pc0 := 19) (pc' := 25) rfl (hb hby own_d11_19) rfl (feq hc13).2 (by decide) (by decide) (XS.iinc X0.here hx rfl (hb hby own_d11_25) rfl (l' := #[.val (.ref x0), .val (.int x1), .val (.int (0 : Int32)), .val (.int (15 : Int32)), .val (.int (x1.toInt8.toInt32)), .val (.int (13 : Int32))]) rfl (XS.goto X0.here hx rfl (pc0 := 28) (pc' := 7) rfl (hb hby own_d11_28) (by decide) (by decide) (XS.iload X0.here hx rfl (hb hby own_d11_7) rfl (XS.iloadN X0.here hx rfl (hb hby own_d11_9) rfl k))))) ?_
                            refine own_via (T' := s₁) (g' := (mkF m 16 #[.val (.ref x0), .val (.int x1), .val (.int (0 : Int32)), .val (.int (15 : Int32)), .val (.int (x1.toInt8.toInt32)), .val (.int (13 : Int32))] [(.int (13 : Int32)), (.ref x0)])) (fun t k => XS.icmpNo X0.here hx rfl (hb hby own_d11_10) rfl (tlt (by decide : (13 : Int32) < (15 : Int32))).2.1 (XS.aloadN X0.here hx rfl (hb hby own_d11_13) rfl rfl (XS.iload X0.here hx rfl (hb hby own_d11_14) rfl k))) ?_
                            refine own_via (T' := s₁) (g' := (mkF m 17 #[.val (.ref x0), .val (.int x1), .val (.int (0 : Int32)), .val (.int (15 : Int32)), .val (.int (x1.toInt8.toInt32)), .val (.int (13 : Int32))] [(.int (124 : Int32))])) (own_ldB X0 hx hZ e0 V_x0 (j := (13 : Int32)) (v := (.int (124 : Int32))) (by decide) rfl (g := (mkF m 16 #[.val (.ref x0), .val (.int x1), .val (.int (0 : Int32)), .val (.int (15 : Int32)), .val (.int (x1.toInt8.toInt32)), .val (.int (13 : Int32))] [(.int (13 : Int32)), (.ref x0)])) rfl rfl (hb hby own_d11_16)) ?_
                            refine own_via (T' := s₁) (g' := (mkF m 19 #[.val (.ref x0), .val (.int x1), .val (.int (0 : Int32)), .val (.int (15 : Int32)), .val (.int (x1.toInt8.toInt32)), .val (.int (13 : Int32))] [(.int (x1.toInt8.toInt32)), (.int (124 : Int32))])) (fun t k => XS.iload X0.here hx rfl (hb hby own_d11_17) rfl k) ?_
                            by_cases hc14 : (124 : Int32) = (x1.toInt8.toInt32)
                            · refine own_via (T' := s₁) (g' := (mkF m 24 #[.val (.ref x0), .val (.int x1), .val (.int (0 : Int32)), .val (.int (15 : Int32)), .val (.int (x1.toInt8.toInt32)), .val (.int (13 : Int32))] [(.int (13 : Int32))])) (fun t k => XS.icmpNo X0.here hx rfl (hb hby own_d11_19) rfl (teq hc14).2 (XS.iload X0.here hx rfl (hb hby own_d11_22) rfl k)) ?_
                              refine own_retI X0 hx hlk hret (hb hby own_d11_24) (by decide) (by decide) ?_
                              exact ⟨by rw [own_ic, if_neg hc1, if_neg hc2, if_neg hc3, if_neg hc4, if_neg hc5, if_neg hc6, if_neg hc7, if_neg hc8, if_neg hc9, if_neg hc10, if_neg hc11, if_neg hc12, if_neg hc13, if_pos hc14] <;> rfl, e0, rfl⟩
                            · refine own_via (T' := s₁) (g' := (mkF m 10 #[.val (.ref x0), .val (.int x1), .val (.int (0 : Int32)), .val (.int (15 : Int32)), .val (.int (x1.toInt8.toInt32)), .val (.int (14 : Int32))] [(.int (15 : Int32)), (.int (14 : Int32))])) (fun t k => XS.icmpYes X0.here hx rfl (pc0 := 19) (pc' := 25) rfl (hb hby own_d11_19) rfl (feq hc14).2 (by decide) (by decide) (XS.iinc X0.here hx rfl (hb hby own_d11_25) rfl (l' := #[.val (.ref x0), .val (.int x1), .val (.int (0 : Int32)), .val (.int (15 : Int32)), .val (.int (x1.toInt8.toInt32)), .val (.int (14 : Int32))]) rfl (XS.goto X0.here hx rfl (pc0 := 28) (pc' := 7) rfl (hb hby own_d11_28) (by decide) (by decide) (XS.iload X0.here hx rfl (hb hby own_d11_7) rfl (XS.iloadN X0.here hx rfl (hb hby own_d11_9) rfl k))))) ?_
                              refine own_via (T' := s₁) (g' := (mkF m 16 #[.val (.ref x0), .val (.int x1), .val (.int (0 : Int32)), .val (.int (15 : Int32)), .val (.int (x1.toInt8.toInt32)), .val (.int (14 : Int32))] [(.int (14 : Int32)), (.ref x0)])) (fun t k => XS.icmpNo X0.here hx rfl (hb hby own_d11_10) rfl (tlt (by decide : (14 : Int32) < (15 : Int32))).2.1 (XS.aloadN X0.here hx rfl (hb hby own_d11_13) rfl rfl (XS.iload X0.here hx rfl (hb hby own_d11_14) rfl k))) ?_
                              refine own_via (T' := s₁) (g' := (mkF m 17 #[.val (.ref x0), .val (.int x1), .val (.int (0 : Int32)), .val (.int (15 : Int32)), .val (.int (x1.toInt8.toInt32)), .val (.int (14 : Int32))] [(.int (126 : Int32))])) (own_ldB X0 hx hZ e0 V_x0 (j := (14 : Int32)) (v := (.int (126 : Int32))) (by decide) rfl (g := (mkF m 16 #[.val (.ref x0), .val (.int x1), .val (.int (0 : Int32)), .val (.int (15 : Int32)), .val (.int (x1.toInt8.toInt32)), .val (.int (14 : Int32))] [(.int (14 : Int32)), (.ref x0)])) rfl rfl (hb hby own_d11_16)) ?_
                              refine own_via (T' := s₁) (g' := (mkF m 19 #[.val (.ref x0), .val (.int x1), .val (.int (0 : Int32)), .val (.int (15 : Int32)), .val (.int (x1.toInt8.toInt32)), .val (.int (14 : Int32))] [(.int (x1.toInt8.toInt32)), (.int (126 : Int32))])) (fun t k => XS.iload X0.here hx rfl (hb hby own_d11_17) rfl k) ?_
                              by_cases hc15 : (126 : Int32) = (x1.toInt8.toInt32)
                              · refine own_via (T' := s₁) (g' := (mkF m 24 #[.val (.ref x0), .val (.int x1), .val (.int (0 : Int32)), .val (.int (15 : Int32)), .val (.int (x1.toInt8.toInt32)), .val (.int (14 : Int32))] [(.int (14 : Int32))])) (fun t k => XS.icmpNo X0.here hx rfl (hb hby own_d11_19) rfl (teq hc15).2 (XS.iload X0.here hx rfl (hb hby own_d11_22) rfl k)) ?_
                                refine own_retI X0 hx hlk hret (hb hby own_d11_24) (by decide) (by decide) ?_
                                exact ⟨by rw [own_ic, if_neg hc1, if_neg hc2, if_neg hc3, if_neg hc4, if_neg hc5, if_neg hc6, if_neg hc7, if_neg hc8, if_neg hc9, if_neg hc10, if_neg hc11, if_neg hc12, if_neg hc13, if_neg hc14, if_pos hc15] <;> rfl, e0, rfl⟩
                              · refine own_via (T' := s₁) (g' := (mkF m 10 #[.val (.ref x0), .val (.int x1), .val (.int (0 : Int32)), .val (.int (15 : Int32)), .val (.int (x1.toInt8.toInt32)), .val (.int (15 : Int32))] [(.int (15 : Int32)), (.int (15 : Int32))])) (fun t k => XS.icmpYes X0.here hx rfl (pc0 := 19) (pc' := 25) rfl (hb hby own_d11_19) rfl (feq hc15).2 (by decide) (by decide) (XS.iinc X0.here hx rfl (hb hby own_d11_25) rfl (l' := #[.val (.ref x0), .val (.int x1), .val (.int (0 : Int32)), .val (.int (15 : Int32)), .val (.int (x1.toInt8.toInt32)), .val (.int (15 : Int32))]) rfl (XS.goto X0.here hx rfl (pc0 := 28) (pc' := 7) rfl (hb hby own_d11_28) (by decide) (by decide) (XS.iload X0.here hx rfl (hb hby own_d11_7) rfl (XS.iloadN X0.here hx rfl (hb hby own_d11_9) rfl k))))) ?_
                                refine own_via (T' := s₁) (g' := (mkF m 32 #[.val (.ref x0), .val (.int x1), .val (.int (0 : Int32)), .val (.int (15 : Int32)), .val (.int (x1.toInt8.toInt32)), .val (.int (15 : Int32))] [(.int (-1 : Int32))])) (fun t k => XS.icmpYes X0.here hx rfl (pc0 := 10) (pc' := 31) rfl (hb hby own_d11_10) rfl (flt (by decide : ¬ ((15 : Int32) < (15 : Int32)))).2.1 (by decide) (by decide) (XS.iconst X0.here hx rfl (hb hby own_d11_31) k)) ?_
                                refine own_retI X0 hx hlk hret (hb hby own_d11_32) (by decide) (by decide) ?_
                                exact ⟨by rw [own_ic, if_neg hc1, if_neg hc2, if_neg hc3, if_neg hc4, if_neg hc5, if_neg hc6, if_neg hc7, if_neg hc8, if_neg hc9, if_neg hc10, if_neg hc11, if_neg hc12, if_neg hc13, if_neg hc14, if_neg hc15] <;> rfl, e0, rfl⟩
theorem own_d7_0 : decode jdk_43_method_22_code 0 = .ok (.iload_n 1, 1) := by decide +kernel
theorem own_d7_1 : decode jdk_43_method_22_code 1 = .ok (.invokestatic 88, 3) := by decide +kernel
theorem own_d7_4 : decode jdk_43_method_22_code 4 = .ok (.ifCond .ne 5, 3) := by decide +kernel
theorem own_d7_7 : decode jdk_43_method_22_code 7 = .ok (.iconst (-1), 1) := by decide +kernel
theorem own_d7_8 : decode jdk_43_method_22_code 8 = .ok (.ireturn, 1) := by decide +kernel
theorem own_d7_9 : decode jdk_43_method_22_code 9 = .ok (.iload_n 2, 1) := by decide +kernel
theorem own_d7_10 : decode jdk_43_method_22_code 10 = .ok (.iconst 0, 1) := by decide +kernel
theorem own_d7_11 : decode jdk_43_method_22_code 11 = .ok (.invokestatic 92, 3) := by decide +kernel
theorem own_d7_14 : decode jdk_43_method_22_code 14 = .ok (.istore_n 2, 1) := by decide +kernel
theorem own_d7_15 : decode jdk_43_method_22_code 15 = .ok (.iload_n 3, 1) := by decide +kernel
theorem own_d7_16 : decode jdk_43_method_22_code 16 = .ok (.aload_n 0, 1) := by decide +kernel
theorem own_d7_17 : decode jdk_43_method_22_code 17 = .ok (.arraylength, 1) := by decide +kernel
theorem own_d7_18 : decode jdk_43_method_22_code 18 = .ok (.invokestatic 38, 3) := by decide +kernel
theorem own_d7_21 : decode jdk_43_method_22_code 21 = .ok (.istore_n 3, 1) := by decide +kernel
theorem own_d7_22 : decode jdk_43_method_22_code 22 = .ok (.iload_n 2, 1) := by decide +kernel
theorem own_d7_23 : decode jdk_43_method_22_code 23 = .ok (.iload_n 3, 1) := by decide +kernel
theorem own_d7_24 : decode jdk_43_method_22_code 24 = .ok (.if_icmp .lt 5, 3) := by decide +kernel
theorem own_d7_27 : decode jdk_43_method_22_code 27 = .ok (.iconst (-1), 1) := by decide +kernel
theorem own_d7_28 : decode jdk_43_method_22_code 28 = .ok (.ireturn, 1) := by decide +kernel
theorem own_d7_29 : decode jdk_43_method_22_code 29 = .ok (.aload_n 0, 1) := by decide +kernel
theorem own_d7_30 : decode jdk_43_method_22_code 30 = .ok (.iload_n 1, 1) := by decide +kernel
theorem own_d7_31 : decode jdk_43_method_22_code 31 = .ok (.iload_n 2, 1) := by decide +kernel
theorem own_d7_32 : decode jdk_43_method_22_code 32 = .ok (.iload_n 3, 1) := by decide +kernel
theorem own_d7_33 : decode jdk_43_method_22_code 33 = .ok (.invokestatic 95, 3) := by decide +kernel
theorem own_d7_36 : decode jdk_43_method_22_code 36 = .ok (.ireturn, 1) := by decide +kernel
theorem own_pd1 : parseMethodDescriptor "(I)Z" = some ⟨[.int], some .boolean⟩ := by decide +kernel
theorem own_pd2 : parseMethodDescriptor "(II)I" = some ⟨[.int, .int], some .int⟩ := by decide +kernel
theorem own_pd3 : parseMethodDescriptor "([BIII)I" = some ⟨[(.array .byte), .int, .int, .int], some .int⟩ := by decide +kernel
def own_li (x1 : Int32) : Int32 := (if (own_ce x1) = (0 : Int32) then (-1 : Int32) else (own_ic x1))
set_option maxHeartbeats 40000000 in
theorem own_mt7_ef (m : MethodId) (x0 : Addr) (x1 : Int32) : entryFrame m #[(.ref x0), (.int x1), (.int (0 : Int32)), (.int (15 : Int32))] 4 = mkF m 0 #[.val (.ref x0), .val (.int x1), .val (.int (0 : Int32)), .val (.int (15 : Int32))] [] := by first | (simp [entryFrame, mkF, argsToLocals, Value.category, maxLocals]; done) | rfl
set_option maxRecDepth 65536 in
set_option maxHeartbeats 40000000 in
theorem own_mt7 (l : Launch) (Z : State) (a0 : Array Value) (hw : ∀ d ∈ tables_1, d.before a0 Z = true) (x0 : Addr) (x1 : Int32) (h0 : Heap) (V_x0 : own_Av Z h0 x0 .byte [(.int (33 : Int32)), (.int (35 : Int32)), (.int (36 : Int32)), (.int (37 : Int32)), (.int (38 : Int32)), (.int (39 : Int32)), (.int (42 : Int32)), (.int (43 : Int32)), (.int (45 : Int32)), (.int (46 : Int32)), (.int (94 : Int32)), (.int (95 : Int32)), (.int (96 : Int32)), (.int (124 : Int32)), (.int (126 : Int32))]) :
    own_Met l Z (⟨"java/lang/StringLatin1", "indexOf", "([BIII)I"⟩ : MethodName) jdk_43_method_22_code 4 (some .int) ({ frames := 1, cells := 0, slots := 0, locals := 17 } : Room) #[(.ref x0), (.int x1), (.int (0 : Int32)), (.int (15 : Int32))] h0 (fun v h L => v = some (.int (own_li x1)) ∧ h = h0 ∧ L = []) := by
  refine own_intro (plainFor_of_name own_pn1) ?_
  intro p e s m below meth c s₁ hx hby hml hown hnm hZ hret hlk X0 e0
  refine own_cast (own_mt7_ef m x0 x1) ?_
  refine own_via (T' := s₁) (g' := (mkF m 1 #[.val (.ref x0), .val (.int x1), .val (.int (0 : Int32)), .val (.int (15 : Int32))] [(.int x1)])) (fun t k => XS.iloadN X0.here hx rfl (hb hby own_d7_0) rfl k) ?_
  obtain ⟨v1, T1, L1, X1, hQ1, st1⟩ := own_callSt (y := (⟨"java/lang/StringLatin1", "canEncode", "(I)Z"⟩ : MethodName)) (argsL := [(.int x1)]) (rest := []) X0 hx hZ hown (hw _ (List.mem_of_getElem? (i := 44) rfl)) (hw _ (List.mem_of_getElem? (i := 45) rfl)) (hw _ (List.mem_of_getElem? (i := 42) rfl)) (hw _ (List.mem_of_getElem? (i := 46) rfl)) (by decide) (own_mt8 l Z a0 hw x1 h0) e0 (W := 0) (by decide) (by decide) (g := (mkF m 1 #[.val (.ref x0), .val (.int x1), .val (.int (0 : Int32)), .val (.int (15 : Int32))] [(.int x1)])) rfl (by rw [hml]; rfl) (lenOf own_pd1 rfl) rfl (by show 2 * 0 + _ ≤ _; exact Nat.le_of_eq rfl) (hb hby own_d7_1) (by decide) (by decide)
  obtain ⟨rfl, e1, rfl⟩ := hQ1
  refine own_via (T' := T1) (g' := (mkF m 4 #[.val (.ref x0), .val (.int x1), .val (.int (0 : Int32)), .val (.int (15 : Int32))] [(.int (own_ce x1))])) st1 ?_
  by_cases hc2 : (own_ce x1) = (0 : Int32)
  · refine own_via (T' := T1) (g' := (mkF m 8 #[.val (.ref x0), .val (.int x1), .val (.int (0 : Int32)), .val (.int (15 : Int32))] [(.int (-1 : Int32))])) (fun t k => XS.ifNo X1.here hx rfl (hb hby own_d7_4) rfl ((if0 _ _).trans (teq hc2).2) (XS.iconst X1.here hx rfl (hb hby own_d7_7) k)) ?_
    refine own_retI X1 hx hlk hret (hb hby own_d7_8) (by decide) (by decide) ?_
    exact ⟨by rw [own_li, if_pos hc2] <;> rfl, e1, rfl⟩
  · refine own_via (T' := T1) (g' := (mkF m 11 #[.val (.ref x0), .val (.int x1), .val (.int (0 : Int32)), .val (.int (15 : Int32))] [(.int (0 : Int32)), (.int (0 : Int32))])) (fun t k => XS.ifYes X1.here hx rfl (pc0 := 4) (pc' := 9) rfl (hb hby own_d7_4) rfl ((if0 _ _).trans (feq hc2).2) (by decide) (by decide) (XS.iloadN X1.here hx rfl (hb hby own_d7_9) rfl (XS.iconst X1.here hx rfl (hb hby own_d7_10) k))) ?_
    obtain ⟨v3, T3, L3, X3, hQ3, st3⟩ := own_callSt (y := (⟨"java/lang/Math", "max", "(II)I"⟩ : MethodName)) (argsL := [(.int (0 : Int32)), (.int (0 : Int32))]) (rest := []) X1 hx hZ hown (hw _ (List.mem_of_getElem? (i := 47) rfl)) (hw _ (List.mem_of_getElem? (i := 48) rfl)) (hw _ (List.mem_of_getElem? (i := 49) rfl)) (hw _ (List.mem_of_getElem? (i := 50) rfl)) (by decide) (own_mt9 l Z a0 hw  h0) e1 (W := 0) (by decide) (by decide) (g := (mkF m 11 #[.val (.ref x0), .val (.int x1), .val (.int (0 : Int32)), .val (.int (15 : Int32))] [(.int (0 : Int32)), (.int (0 : Int32))])) rfl (by rw [hml]; rfl) (lenOf own_pd2 rfl) rfl (by show 2 * 0 + _ ≤ _; exact Nat.le_of_eq rfl) (hb hby own_d7_11) (by decide) (by decide)
    obtain ⟨rfl, e3, rfl⟩ := hQ3
    refine own_via (T' := T3) (g' := (mkF m 14 #[.val (.ref x0), .val (.int x1), .val (.int (0 : Int32)), .val (.int (15 : Int32))] [(.int (0 : Int32))])) st3 ?_
    refine own_via (T' := T3) (g' := (mkF m 17 #[.val (.ref x0), .val (.int x1), .val (.int (0 : Int32)), .val (.int (15 : Int32))] [(.ref x0), (.int (15 : Int32))])) (fun t k => XS.istoreN X3.here hx rfl (hb hby own_d7_14) rfl (l' := #[.val (.ref x0), .val (.int x1), .val (.int (0 : Int32)), .val (.int (15 : Int32))]) rfl (XS.iloadN X3.here hx rfl (hb hby own_d7_15) rfl (XS.aloadN X3.here hx rfl (hb hby own_d7_16) rfl rfl k))) ?_
    refine own_via (T' := T3) (g' := (mkF m 18 #[.val (.ref x0), .val (.int x1), .val (.int (0 : Int32)), .val (.int (15 : Int32))] [(.int (15 : Int32)), (.int (15 : Int32))])) (own_alen X3 hx hZ e3 V_x0 (n := (15 : Int32)) rfl (g := (mkF m 17 #[.val (.ref x0), .val (.int x1), .val (.int (0 : Int32)), .val (.int (15 : Int32))] [(.ref x0), (.int (15 : Int32))])) rfl rfl (hb hby own_d7_17)) ?_
    obtain ⟨v4, T4, L4, X4, hQ4, st4⟩ := own_callSt (y := (⟨"java/lang/Math", "min", "(II)I"⟩ : MethodName)) (argsL := [(.int (15 : Int32)), (.int (15 : Int32))]) (rest := []) X3 hx hZ hown (hw _ (List.mem_of_getElem? (i := 51) rfl)) (hw _ (List.mem_of_getElem? (i := 52) rfl)) (hw _ (List.mem_of_getElem? (i := 49) rfl)) (hw _ (List.mem_of_getElem? (i := 53) rfl)) (by decide) (own_mt10 l Z a0 hw  h0) e3 (W := 0) (by decide) (by decide) (g := (mkF m 18 #[.val (.ref x0), .val (.int x1), .val (.int (0 : Int32)), .val (.int (15 : Int32))] [(.int (15 : Int32)), (.int (15 : Int32))])) rfl (by rw [hml]; rfl) (lenOf own_pd2 rfl) rfl (by show 2 * 0 + _ ≤ _; exact Nat.le_of_eq rfl) (hb hby own_d7_18) (by decide) (by decide)
    obtain ⟨rfl, e4, rfl⟩ := hQ4
    refine own_via (T' := T4) (g' := (mkF m 21 #[.val (.ref x0), .val (.int x1), .val (.int (0 : Int32)), .val (.int (15 : Int32))] [(.int (15 : Int32))])) st4 ?_
    refine own_via (T' := T4) (g' := (mkF m 24 #[.val (.ref x0), .val (.int x1), .val (.int (0 : Int32)), .val (.int (15 : Int32))] [(.int (15 : Int32)), (.int (0 : Int32))])) (fun t k => XS.istoreN X4.here hx rfl (hb hby own_d7_21) rfl (l' := #[.val (.ref x0), .val (.int x1), .val (.int (0 : Int32)), .val (.int (15 : Int32))]) rfl (XS.iloadN X4.here hx rfl (hb hby own_d7_22) rfl (XS.iloadN X4.here hx rfl (hb hby own_d7_23) rfl k))) ?_
    refine own_via (T' := T4) (g' := (mkF m 33 #[.val (.ref x0), .val (.int x1), .val (.int (0 : Int32)), .val (.int (15 : Int32))] [(.int (15 : Int32)), (.int (0 : Int32)), (.int x1), (.ref x0)])) (fun t k => XS.icmpYes X4.here hx rfl (pc0 := 24) (pc' := 29) rfl (hb hby own_d7_24) rfl (tlt (by decide : (0 : Int32) < (15 : Int32))).1 (by decide) (by decide) (XS.aloadN X4.here hx rfl (hb hby own_d7_29) rfl rfl (XS.iloadN X4.here hx rfl (hb hby own_d7_30) rfl (XS.iloadN X4.here hx rfl (hb hby own_d7_31) rfl (XS.iloadN X4.here hx rfl (hb hby own_d7_32) rfl k))))) ?_
    obtain ⟨v5, T5, L5, X5, hQ5, st5⟩ := own_callSt (y := (⟨"java/lang/StringLatin1", "indexOfChar", "([BIII)I"⟩ : MethodName)) (argsL := [(.ref x0), (.int x1), (.int (0 : Int32)), (.int (15 : Int32))]) (rest := []) X4 hx hZ hown (hw _ (List.mem_of_getElem? (i := 54) rfl)) (hw _ (List.mem_of_getElem? (i := 55) rfl)) (hw _ (List.mem_of_getElem? (i := 42) rfl)) (hw _ (List.mem_of_getElem? (i := 56) rfl)) (by decide) (own_mt11 l Z a0 hw x0 x1 h0 V_x0) e4 (W := 0) (by decide) (by decide) (g := (mkF m 33 #[.val (.ref x0), .val (.int x1), .val (.int (0 : Int32)), .val (.int (15 : Int32))] [(.int (15 : Int32)), (.int (0 : Int32)), (.int x1), (.ref x0)])) rfl (by rw [hml]; rfl) (lenOf own_pd3 rfl) rfl (by show 2 * 0 + _ ≤ _; exact Nat.le_of_eq rfl) (hb hby own_d7_33) (by decide) (by decide)
    obtain ⟨rfl, e5, rfl⟩ := hQ5
    refine own_via (T' := T5) (g' := (mkF m 36 #[.val (.ref x0), .val (.int x1), .val (.int (0 : Int32)), .val (.int (15 : Int32))] [(.int (own_ic x1))])) st5 ?_
    refine own_retI X5 hx hlk hret (hb hby own_d7_36) (by decide) (by decide) ?_
    exact ⟨by rw [own_li, if_neg hc2] <;> rfl, e5, rfl⟩
theorem own_d6_0 : decode jdk_42_method_152_code 0 = .ok (.getstatic 38, 3) := by decide +kernel
theorem own_d6_3 : decode jdk_42_method_152_code 3 = .ok (.ifCond .eq 10, 3) := by decide +kernel
theorem own_d6_6 : decode jdk_42_method_152_code 6 = .ok (.aload_n 0, 1) := by decide +kernel
theorem own_d6_7 : decode jdk_42_method_152_code 7 = .ok (.getfield 15, 3) := by decide +kernel
theorem own_d6_10 : decode jdk_42_method_152_code 10 = .ok (.goto 4, 3) := by decide +kernel
theorem own_d6_13 : decode jdk_42_method_152_code 13 = .ok (.iconst 1, 1) := by decide +kernel
theorem own_d6_14 : decode jdk_42_method_152_code 14 = .ok (.ireturn, 1) := by decide +kernel
theorem own_pn2 : plainName "java/lang/String" = true := by first | (simp [plainName, overriddenIn]; done) | decide +kernel
set_option maxHeartbeats 40000000 in
theorem own_mt6_ef (m : MethodId) (x0 : Addr) : entryFrame m #[(.ref x0)] 1 = mkF m 0 #[.val (.ref x0)] [] := by first | (simp [entryFrame, mkF, argsToLocals, Value.category, maxLocals]; done) | rfl
set_option maxRecDepth 65536 in
set_option maxHeartbeats 40000000 in
theorem own_mt6 (l : Launch) (Z : State) (a0 : Array Value) (hw : ∀ d ∈ tables_1, d.before a0 Z = true) (x0 : Addr) (cz : Int32) (h0 : Heap) (F_coder : Fld Z h0 x0 "java/lang/String" "coder" "B" (.int (0 : Int32))) (S_cs : Sta Z h0 "java/lang/String" "COMPACT_STRINGS" "Z" (.int cz)) (hcz : ¬ cz = 0) :
    own_Met l Z (⟨"java/lang/String", "coder", "()B"⟩ : MethodName) jdk_42_method_152_code 1 (some .byte) ({ frames := 0, cells := 0, slots := 0, locals := 0 } : Room) #[(.ref x0)] h0 (fun v h L => v = some (.int (0 : Int32)) ∧ h = h0 ∧ L = []) := by
  refine own_intro (plainFor_of_name own_pn2) ?_
  intro p e s m below meth c s₁ hx hby hml hown hnm hZ hret hlk X0 e0
  refine own_cast (own_mt6_ef m x0) ?_
  obtain ⟨T1, X1, e1, st1⟩ := getS2 X0 hx hZ hown (host := "") (Or.inl (hw _ (List.mem_of_getElem? (i := 27) rfl))) Via.refl e0 S_cs (g := (mkF m 0 #[.val (.ref x0)] [])) rfl (hb hby own_d6_0)
  refine own_via (T' := T1) (g' := (mkF m 3 #[.val (.ref x0)] [(.int cz)])) st1 ?_
  refine own_via (T' := T1) (g' := (mkF m 7 #[.val (.ref x0)] [(.ref x0)])) (fun t k => XS.ifNo X1.here hx rfl (hb hby own_d6_3) rfl ((if0 _ _).trans (feq hcz).1) (XS.aloadN X1.here hx rfl (hb hby own_d6_6) rfl rfl k)) ?_
  obtain ⟨T2, X2, e2, st2⟩ := getF X1 hx hZ hown (host := "") (Or.inl (hw _ (List.mem_of_getElem? (i := 28) rfl))) Via.refl e1 F_coder (g := (mkF m 7 #[.val (.ref x0)] [(.ref x0)])) rfl rfl (hb hby own_d6_7)
  refine own_via (T' := T2) (g' := (mkF m 10 #[.val (.ref x0)] [(.int (0 : Int32))])) st2 ?_
  refine own_via (T' := T2) (g' := (mkF m 14 #[.val (.ref x0)] [(.int (0 : Int32))])) (fun t k => XS.goto X2.here hx rfl (pc0 := 10) (pc' := 14) rfl (hb hby own_d6_10) (by decide) (by decide) k) ?_
  refine own_retN X2 hx hlk (ty := .byte) hret (by simp) (hb hby own_d6_14) (by decide) (by decide) ?_
  exact ⟨by rfl <;> rfl, e2, rfl⟩
theorem own_d4_0 : decode jdk_42_method_154_code 0 = .ok (.getstatic 38, 3) := by decide +kernel
theorem own_d4_3 : decode jdk_42_method_154_code 3 = .ok (.ifCond .eq 14, 3) := by decide +kernel
theorem own_d4_6 : decode jdk_42_method_154_code 6 = .ok (.aload_n 0, 1) := by decide +kernel
theorem own_d4_7 : decode jdk_42_method_154_code 7 = .ok (.getfield 15, 3) := by decide +kernel
theorem own_d4_10 : decode jdk_42_method_154_code 10 = .ok (.ifCond .ne 7, 3) := by decide +kernel
theorem own_d4_13 : decode jdk_42_method_154_code 13 = .ok (.iconst 1, 1) := by decide +kernel
theorem own_d4_14 : decode jdk_42_method_154_code 14 = .ok (.goto 4, 3) := by decide +kernel
theorem own_d4_17 : decode jdk_42_method_154_code 17 = .ok (.iconst 0, 1) := by decide +kernel
theorem own_d4_18 : decode jdk_42_method_154_code 18 = .ok (.ireturn, 1) := by decide +kernel
set_option maxHeartbeats 40000000 in
theorem own_mt4_ef (m : MethodId) (x0 : Addr) : entryFrame m #[(.ref x0)] 1 = mkF m 0 #[.val (.ref x0)] [] := by first | (simp [entryFrame, mkF, argsToLocals, Value.category, maxLocals]; done) | rfl
set_option maxRecDepth 65536 in
set_option maxHeartbeats 40000000 in
theorem own_mt4 (l : Launch) (Z : State) (a0 : Array Value) (hw : ∀ d ∈ tables_1, d.before a0 Z = true) (x0 : Addr) (cz : Int32) (h0 : Heap) (F_coder : Fld Z h0 x0 "java/lang/String" "coder" "B" (.int (0 : Int32))) (S_cs : Sta Z h0 "java/lang/String" "COMPACT_STRINGS" "Z" (.int cz)) (hcz : ¬ cz = 0) :
    own_Met l Z (⟨"java/lang/String", "isLatin1", "()Z"⟩ : MethodName) jdk_42_method_154_code 1 (some .boolean) ({ frames := 0, cells := 0, slots := 0, locals := 0 } : Room) #[(.ref x0)] h0 (fun v h L => v = some (.int (1 : Int32)) ∧ h = h0 ∧ L = []) := by
  refine own_intro (plainFor_of_name own_pn2) ?_
  intro p e s m below meth c s₁ hx hby hml hown hnm hZ hret hlk X0 e0
  refine own_cast (own_mt4_ef m x0) ?_
  obtain ⟨T1, X1, e1, st1⟩ := getS2 X0 hx hZ hown (host := "") (Or.inl (hw _ (List.mem_of_getElem? (i := 27) rfl))) Via.refl e0 S_cs (g := (mkF m 0 #[.val (.ref x0)] [])) rfl (hb hby own_d4_0)
  refine own_via (T' := T1) (g' := (mkF m 3 #[.val (.ref x0)] [(.int cz)])) st1 ?_
  refine own_via (T' := T1) (g' := (mkF m 7 #[.val (.ref x0)] [(.ref x0)])) (fun t k => XS.ifNo X1.here hx rfl (hb hby own_d4_3) rfl ((if0 _ _).trans (feq hcz).1) (XS.aloadN X1.here hx rfl (hb hby own_d4_6) rfl rfl k)) ?_
  obtain ⟨T2, X2, e2, st2⟩ := getF X1 hx hZ hown (host := "") (Or.inl (hw _ (List.mem_of_getElem? (i := 28) rfl))) Via.refl e1 F_coder (g := (mkF m 7 #[.val (.ref x0)] [(.ref x0)])) rfl rfl (hb hby own_d4_7)
  refine own_via (T' := T2) (g' := (mkF m 10 #[.val (.ref x0)] [(.int (0 : Int32))])) st2 ?_
  refine own_via (T' := T2) (g' := (mkF m 18 #[.val (.ref x0)] [(.int (1 : Int32))])) (fun t k => XS.ifNo X2.here hx rfl (hb hby own_d4_10) rfl ((if0 _ _).trans (teq (by decide : (0 : Int32) = (0 : Int32))).2) (XS.iconst X2.here hx rfl (hb hby own_d4_13) (XS.goto X2.here hx rfl (pc0 := 14) (pc' := 18) rfl (hb hby own_d4_14) (by decide) (by decide) k))) ?_
  refine own_retN X2 hx hlk (ty := .boolean) hret (by simp) (hb hby own_d4_18) (by decide) (by decide) ?_
  exact ⟨by rfl <;> rfl, e2, rfl⟩
theorem own_d5_0 : decode jdk_42_method_54_code 0 = .ok (.aload_n 0, 1) := by decide +kernel
theorem own_d5_1 : decode jdk_42_method_54_code 1 = .ok (.getfield 9, 3) := by decide +kernel
theorem own_d5_4 : decode jdk_42_method_54_code 4 = .ok (.arraylength, 1) := by decide +kernel
theorem own_d5_5 : decode jdk_42_method_54_code 5 = .ok (.aload_n 0, 1) := by decide +kernel
theorem own_d5_6 : decode jdk_42_method_54_code 6 = .ok (.invokevirtual 335, 3) := by decide +kernel
theorem own_d5_9 : decode jdk_42_method_54_code 9 = .ok (.ishr, 1) := by decide +kernel
theorem own_d5_10 : decode jdk_42_method_54_code 10 = .ok (.ireturn, 1) := by decide +kernel
theorem own_pd4 : parseMethodDescriptor "()B" = some ⟨[], some .byte⟩ := by decide +kernel
set_option maxHeartbeats 40000000 in
theorem own_mt5_ef (m : MethodId) (x0 : Addr) : entryFrame m #[(.ref x0)] 1 = mkF m 0 #[.val (.ref x0)] [] := by first | (simp [entryFrame, mkF, argsToLocals, Value.category, maxLocals]; done) | rfl
set_option maxRecDepth 65536 in
set_option maxHeartbeats 40000000 in
theorem own_mt5 (l : Launch) (Z : State) (a0 : Array Value) (hw : ∀ d ∈ tables_1, d.before a0 Z = true) (x0 : Addr) (bb : Addr) (cz : Int32) (h0 : Heap) (E_x0 : Exa Z h0 x0 "java/lang/String") (F_coder : Fld Z h0 x0 "java/lang/String" "coder" "B" (.int (0 : Int32))) (F_value : Fld Z h0 x0 "java/lang/String" "value" "[B" (.ref bb)) (V_bb : own_Av Z h0 bb .byte [(.int (33 : Int32)), (.int (35 : Int32)), (.int (36 : Int32)), (.int (37 : Int32)), (.int (38 : Int32)), (.int (39 : Int32)), (.int (42 : Int32)), (.int (43 : Int32)), (.int (45 : Int32)), (.int (46 : Int32)), (.int (94 : Int32)), (.int (95 : Int32)), (.int (96 : Int32)), (.int (124 : Int32)), (.int (126 : Int32))]) (S_cs : Sta Z h0 "java/lang/String" "COMPACT_STRINGS" "Z" (.int cz)) (hcz : ¬ cz = 0) :
    own_Met l Z (⟨"java/lang/String", "length", "()I"⟩ : MethodName) jdk_42_method_54_code 1 (some .int) ({ frames := 1, cells := 0, slots := 0, locals := 13 } : Room) #[(.ref x0)] h0 (fun v h L => v = some (.int (15 : Int32)) ∧ h = h0 ∧ L = []) := by
  refine own_intro (plainFor_of_name own_pn2) ?_
  intro p e s m below meth c s₁ hx hby hml hown hnm hZ hret hlk X0 e0
  refine own_cast (own_mt5_ef m x0) ?_
  refine own_via (T' := s₁) (g' := (mkF m 1 #[.val (.ref x0)] [(.ref x0)])) (fun t k => XS.aloadN X0.here hx rfl (hb hby own_d5_0) rfl rfl k) ?_
  obtain ⟨T1, X1, e1, st1⟩ := getF X0 hx hZ hown (host := "") (Or.inl (hw _ (List.mem_of_getElem? (i := 29) rfl))) Via.refl e0 F_value (g := (mkF m 1 #[.val (.ref x0)] [(.ref x0)])) rfl rfl (hb hby own_d5_1)
  refine own_via (T' := T1) (g' := (mkF m 4 #[.val (.ref x0)] [(.ref bb)])) st1 ?_
  refine own_via (T' := T1) (g' := (mkF m 5 #[.val (.ref x0)] [(.int (15 : Int32))])) (own_alen X1 hx hZ e1 V_bb (n := (15 : Int32)) rfl (g := (mkF m 4 #[.val (.ref x0)] [(.ref bb)])) rfl rfl (hb hby own_d5_4)) ?_
  refine own_via (T' := T1) (g' := (mkF m 6 #[.val (.ref x0)] [(.ref x0), (.int (15 : Int32))])) (fun t k => XS.aloadN X1.here hx rfl (hb hby own_d5_5) rfl rfl k) ?_
  obtain ⟨v2, T2, L2, X2, hQ2, st2⟩ := own_callVi (y := (⟨"java/lang/String", "coder", "()B"⟩ : MethodName)) (z := (⟨"java/lang/String", "coder", "()B"⟩ : MethodName)) (a := x0) (C := "java/lang/String") (argsL := []) (rest := [(.int (15 : Int32))]) X1 hx hZ hown (hw _ (List.mem_of_getElem? (i := 35) rfl)) (hw _ (List.mem_of_getElem? (i := 36) rfl)) (notFace_of_selects (args := #[]) (mvT hZ (hw _ (List.mem_of_getElem? (i := 38) rfl)))) (hw _ (List.mem_of_getElem? (i := 38) rfl)) (hw _ (List.mem_of_getElem? (i := 37) rfl)) (hw _ (List.mem_of_getElem? (i := 5) rfl)) (hw _ (List.mem_of_getElem? (i := 39) rfl)) (by decide) E_x0 (own_mt6 l Z a0 hw x0 cz h0 F_coder S_cs hcz) e1 (W := 1) (by decide) (by decide) (g := (mkF m 6 #[.val (.ref x0)] [(.ref x0), (.int (15 : Int32))])) rfl (by rw [hml]; rfl) (lenOf own_pd4 rfl) rfl (by show 2 * 0 + _ ≤ _; exact Nat.le_of_eq rfl) (hb hby own_d5_6) (by decide) (by decide)
  obtain ⟨rfl, e2, rfl⟩ := hQ2
  refine own_via (T' := T2) (g' := (mkF m 9 #[.val (.ref x0)] [(.int (0 : Int32)), (.int (15 : Int32))])) st2 ?_
  refine own_via (T' := T2) (g' := (mkF m 10 #[.val (.ref x0)] [(.int (15 : Int32))])) (fun t k => XS.ishr X2.here hx rfl (hb hby own_d5_9) rfl k) ?_
  refine own_retI X2 hx hlk hret (hb hby own_d5_10) (by decide) (by decide) ?_
  exact ⟨by rfl <;> rfl, e2, rfl⟩
theorem own_d3_0 : decode jdk_42_method_80_code 0 = .ok (.aload_n 0, 1) := by decide +kernel
theorem own_d3_1 : decode jdk_42_method_80_code 1 = .ok (.invokevirtual 492, 3) := by decide +kernel
theorem own_d3_4 : decode jdk_42_method_80_code 4 = .ok (.ifCond .eq 19, 3) := by decide +kernel
theorem own_d3_7 : decode jdk_42_method_80_code 7 = .ok (.aload_n 0, 1) := by decide +kernel
theorem own_d3_8 : decode jdk_42_method_80_code 8 = .ok (.getfield 9, 3) := by decide +kernel
theorem own_d3_11 : decode jdk_42_method_80_code 11 = .ok (.iload_n 1, 1) := by decide +kernel
theorem own_d3_12 : decode jdk_42_method_80_code 12 = .ok (.iload_n 2, 1) := by decide +kernel
theorem own_d3_13 : decode jdk_42_method_80_code 13 = .ok (.aload_n 0, 1) := by decide +kernel
theorem own_d3_14 : decode jdk_42_method_80_code 14 = .ok (.invokevirtual 505, 3) := by decide +kernel
theorem own_d3_17 : decode jdk_42_method_80_code 17 = .ok (.invokestatic 637, 3) := by decide +kernel
theorem own_d3_20 : decode jdk_42_method_80_code 20 = .ok (.goto 16, 3) := by decide +kernel
theorem own_d3_23 : decode jdk_42_method_80_code 23 = .ok (.aload_n 0, 1) := by decide +kernel
theorem own_d3_24 : decode jdk_42_method_80_code 24 = .ok (.getfield 9, 3) := by decide +kernel
theorem own_d3_27 : decode jdk_42_method_80_code 27 = .ok (.iload_n 1, 1) := by decide +kernel
theorem own_d3_28 : decode jdk_42_method_80_code 28 = .ok (.iload_n 2, 1) := by decide +kernel
theorem own_d3_29 : decode jdk_42_method_80_code 29 = .ok (.aload_n 0, 1) := by decide +kernel
theorem own_d3_30 : decode jdk_42_method_80_code 30 = .ok (.invokevirtual 505, 3) := by decide +kernel
theorem own_d3_33 : decode jdk_42_method_80_code 33 = .ok (.invokestatic 640, 3) := by decide +kernel
theorem own_d3_36 : decode jdk_42_method_80_code 36 = .ok (.ireturn, 1) := by decide +kernel
theorem own_pd5 : parseMethodDescriptor "()Z" = some ⟨[], some .boolean⟩ := by decide +kernel
theorem own_pd6 : parseMethodDescriptor "()I" = some ⟨[], some .int⟩ := by decide +kernel
def own_i2 (x1 : Int32) (cz : Int32) : Int32 := (own_li x1)
set_option maxHeartbeats 40000000 in
theorem own_mt3_ef (m : MethodId) (x0 : Addr) (x1 : Int32) : entryFrame m #[(.ref x0), (.int x1), (.int (0 : Int32))] 3 = mkF m 0 #[.val (.ref x0), .val (.int x1), .val (.int (0 : Int32))] [] := by first | (simp [entryFrame, mkF, argsToLocals, Value.category, maxLocals]; done) | rfl
set_option maxRecDepth 65536 in
set_option maxHeartbeats 40000000 in
theorem own_mt3 (l : Launch) (Z : State) (a0 : Array Value) (hw : ∀ d ∈ tables_1, d.before a0 Z = true) (x0 : Addr) (x1 : Int32) (bb : Addr) (cz : Int32) (h0 : Heap) (E_x0 : Exa Z h0 x0 "java/lang/String") (F_coder : Fld Z h0 x0 "java/lang/String" "coder" "B" (.int (0 : Int32))) (F_value : Fld Z h0 x0 "java/lang/String" "value" "[B" (.ref bb)) (V_bb : own_Av Z h0 bb .byte [(.int (33 : Int32)), (.int (35 : Int32)), (.int (36 : Int32)), (.int (37 : Int32)), (.int (38 : Int32)), (.int (39 : Int32)), (.int (42 : Int32)), (.int (43 : Int32)), (.int (45 : Int32)), (.int (46 : Int32)), (.int (94 : Int32)), (.int (95 : Int32)), (.int (96 : Int32)), (.int (124 : Int32)), (.int (126 : Int32))]) (S_cs : Sta Z h0 "java/lang/String" "COMPACT_STRINGS" "Z" (.int cz)) (hcz : ¬ cz = 0) :
    own_Met l Z (⟨"java/lang/String", "indexOf", "(II)I"⟩ : MethodName) jdk_42_method_80_code 3 (some .int) ({ frames := 2, cells := 0, slots := 0, locals := 32 } : Room) #[(.ref x0), (.int x1), (.int (0 : Int32))] h0 (fun v h L => v = some (.int (own_i2 x1 cz)) ∧ h = h0 ∧ L = []) := by
  refine own_intro (plainFor_of_name own_pn2) ?_
  intro p e s m below meth c s₁ hx hby hml hown hnm hZ hret hlk X0 e0
  refine own_cast (own_mt3_ef m x0 x1) ?_
  refine own_via (T' := s₁) (g' := (mkF m 1 #[.val (.ref x0), .val (.int x1), .val (.int (0 : Int32))] [(.ref x0)])) (fun t k => XS.aloadN X0.here hx rfl (hb hby own_d3_0) rfl rfl k) ?_
  obtain ⟨v1, T1, L1, X1, hQ1, st1⟩ := own_callVi (y := (⟨"java/lang/String", "isLatin1", "()Z"⟩ : MethodName)) (z := (⟨"java/lang/String", "isLatin1", "()Z"⟩ : MethodName)) (a := x0) (C := "java/lang/String") (argsL := []) (rest := []) X0 hx hZ hown (hw _ (List.mem_of_getElem? (i := 22) rfl)) (hw _ (List.mem_of_getElem? (i := 23) rfl)) (notFace_of_selects (args := #[]) (mvT hZ (hw _ (List.mem_of_getElem? (i := 25) rfl)))) (hw _ (List.mem_of_getElem? (i := 25) rfl)) (hw _ (List.mem_of_getElem? (i := 24) rfl)) (hw _ (List.mem_of_getElem? (i := 5) rfl)) (hw _ (List.mem_of_getElem? (i := 26) rfl)) (by decide) E_x0 (own_mt4 l Z a0 hw x0 cz h0 F_coder S_cs hcz) e0 (W := 0) (by decide) (by decide) (g := (mkF m 1 #[.val (.ref x0), .val (.int x1), .val (.int (0 : Int32))] [(.ref x0)])) rfl (by rw [hml]; rfl) (lenOf own_pd5 rfl) rfl (by show 2 * 0 + _ ≤ _; exact Nat.le_of_eq rfl) (hb hby own_d3_1) (by decide) (by decide)
  obtain ⟨rfl, e1, rfl⟩ := hQ1
  refine own_via (T' := T1) (g' := (mkF m 4 #[.val (.ref x0), .val (.int x1), .val (.int (0 : Int32))] [(.int (1 : Int32))])) st1 ?_
  refine own_via (T' := T1) (g' := (mkF m 8 #[.val (.ref x0), .val (.int x1), .val (.int (0 : Int32))] [(.ref x0)])) (fun t k => XS.ifNo X1.here hx rfl (hb hby own_d3_4) rfl ((if0 _ _).trans (feq (by decide : ¬ ((1 : Int32) = (0 : Int32)))).1) (XS.aloadN X1.here hx rfl (hb hby own_d3_7) rfl rfl k)) ?_
  obtain ⟨T2, X2, e2, st2⟩ := getF X1 hx hZ hown (host := "") (Or.inl (hw _ (List.mem_of_getElem? (i := 29) rfl))) Via.refl e1 F_value (g := (mkF m 8 #[.val (.ref x0), .val (.int x1), .val (.int (0 : Int32))] [(.ref x0)])) rfl rfl (hb hby own_d3_8)
  refine own_via (T' := T2) (g' := (mkF m 11 #[.val (.ref x0), .val (.int x1), .val (.int (0 : Int32))] [(.ref bb)])) st2 ?_
  refine own_via (T' := T2) (g' := (mkF m 14 #[.val (.ref x0), .val (.int x1), .val (.int (0 : Int32))] [(.ref x0), (.int (0 : Int32)), (.int x1), (.ref bb)])) (fun t k => XS.iloadN X2.here hx rfl (hb hby own_d3_11) rfl (XS.iloadN X2.here hx rfl (hb hby own_d3_12) rfl (XS.aloadN X2.here hx rfl (hb hby own_d3_13) rfl rfl k))) ?_
  obtain ⟨v3, T3, L3, X3, hQ3, st3⟩ := own_callVi (y := (⟨"java/lang/String", "length", "()I"⟩ : MethodName)) (z := (⟨"java/lang/String", "length", "()I"⟩ : MethodName)) (a := x0) (C := "java/lang/String") (argsL := []) (rest := [(.int (0 : Int32)), (.int x1), (.ref bb)]) X2 hx hZ hown (hw _ (List.mem_of_getElem? (i := 30) rfl)) (hw _ (List.mem_of_getElem? (i := 31) rfl)) (notFace_of_selects (args := #[]) (mvT hZ (hw _ (List.mem_of_getElem? (i := 33) rfl)))) (hw _ (List.mem_of_getElem? (i := 33) rfl)) (hw _ (List.mem_of_getElem? (i := 32) rfl)) (hw _ (List.mem_of_getElem? (i := 5) rfl)) (hw _ (List.mem_of_getElem? (i := 34) rfl)) (by decide) E_x0 (own_mt5 l Z a0 hw x0 bb cz h0 E_x0 F_coder F_value V_bb S_cs hcz) e2 (W := 3) (by decide) (by decide) (g := (mkF m 14 #[.val (.ref x0), .val (.int x1), .val (.int (0 : Int32))] [(.ref x0), (.int (0 : Int32)), (.int x1), (.ref bb)])) rfl (by rw [hml]; rfl) (lenOf own_pd6 rfl) rfl (by show 2 * 0 + _ ≤ _; exact Nat.le_of_eq rfl) (hb hby own_d3_14) (by decide) (by decide)
  obtain ⟨rfl, e3, rfl⟩ := hQ3
  refine own_via (T' := T3) (g' := (mkF m 17 #[.val (.ref x0), .val (.int x1), .val (.int (0 : Int32))] [(.int (15 : Int32)), (.int (0 : Int32)), (.int x1), (.ref bb)])) st3 ?_
  obtain ⟨v4, T4, L4, X4, hQ4, st4⟩ := own_callSt (y := (⟨"java/lang/StringLatin1", "indexOf", "([BIII)I"⟩ : MethodName)) (argsL := [(.ref bb), (.int x1), (.int (0 : Int32)), (.int (15 : Int32))]) (rest := []) X3 hx hZ hown (hw _ (List.mem_of_getElem? (i := 40) rfl)) (hw _ (List.mem_of_getElem? (i := 41) rfl)) (hw _ (List.mem_of_getElem? (i := 42) rfl)) (hw _ (List.mem_of_getElem? (i := 43) rfl)) (by decide) (own_mt7 l Z a0 hw bb x1 h0 V_bb) e3 (W := 0) (by decide) (by decide) (g := (mkF m 17 #[.val (.ref x0), .val (.int x1), .val (.int (0 : Int32))] [(.int (15 : Int32)), (.int (0 : Int32)), (.int x1), (.ref bb)])) rfl (by rw [hml]; rfl) (lenOf own_pd3 rfl) rfl (by show 2 * 0 + _ ≤ _; exact Nat.le_of_eq rfl) (hb hby own_d3_17) (by decide) (by decide)
  obtain ⟨rfl, e4, rfl⟩ := hQ4
  refine own_via (T' := T4) (g' := (mkF m 20 #[.val (.ref x0), .val (.int x1), .val (.int (0 : Int32))] [(.int (own_li x1))])) st4 ?_
  refine own_via (T' := T4) (g' := (mkF m 36 #[.val (.ref x0), .val (.int x1), .val (.int (0 : Int32))] [(.int (own_li x1))])) (fun t k => XS.goto X4.here hx rfl (pc0 := 20) (pc' := 36) rfl (hb hby own_d3_20) (by decide) (by decide) k) ?_
  refine own_retI X4 hx hlk hret (hb hby own_d3_36) (by decide) (by decide) ?_
  exact ⟨by rw [own_i2] <;> rfl, e4, rfl⟩
theorem own_d2_0 : decode jdk_42_method_79_code 0 = .ok (.aload_n 0, 1) := by decide +kernel
theorem own_d2_1 : decode jdk_42_method_79_code 1 = .ok (.iload_n 1, 1) := by decide +kernel
theorem own_d2_2 : decode jdk_42_method_79_code 2 = .ok (.iconst 0, 1) := by decide +kernel
theorem own_d2_3 : decode jdk_42_method_79_code 3 = .ok (.invokevirtual 633, 3) := by decide +kernel
theorem own_d2_6 : decode jdk_42_method_79_code 6 = .ok (.ireturn, 1) := by decide +kernel
def own_i1 (x1 : Int32) (cz : Int32) : Int32 := (own_i2 x1 cz)
set_option maxHeartbeats 40000000 in
theorem own_mt2_ef (m : MethodId) (x0 : Addr) (x1 : Int32) : entryFrame m #[(.ref x0), (.int x1)] 2 = mkF m 0 #[.val (.ref x0), .val (.int x1)] [] := by first | (simp [entryFrame, mkF, argsToLocals, Value.category, maxLocals]; done) | rfl
set_option maxRecDepth 65536 in
set_option maxHeartbeats 40000000 in
theorem own_mt2 (l : Launch) (Z : State) (a0 : Array Value) (hw : ∀ d ∈ tables_1, d.before a0 Z = true) (x0 : Addr) (x1 : Int32) (bb : Addr) (cz : Int32) (h0 : Heap) (E_x0 : Exa Z h0 x0 "java/lang/String") (F_coder : Fld Z h0 x0 "java/lang/String" "coder" "B" (.int (0 : Int32))) (F_value : Fld Z h0 x0 "java/lang/String" "value" "[B" (.ref bb)) (V_bb : own_Av Z h0 bb .byte [(.int (33 : Int32)), (.int (35 : Int32)), (.int (36 : Int32)), (.int (37 : Int32)), (.int (38 : Int32)), (.int (39 : Int32)), (.int (42 : Int32)), (.int (43 : Int32)), (.int (45 : Int32)), (.int (46 : Int32)), (.int (94 : Int32)), (.int (95 : Int32)), (.int (96 : Int32)), (.int (124 : Int32)), (.int (126 : Int32))]) (S_cs : Sta Z h0 "java/lang/String" "COMPACT_STRINGS" "Z" (.int cz)) (hcz : ¬ cz = 0) :
    own_Met l Z (⟨"java/lang/String", "indexOf", "(I)I"⟩ : MethodName) jdk_42_method_79_code 2 (some .int) ({ frames := 3, cells := 0, slots := 0, locals := 46 } : Room) #[(.ref x0), (.int x1)] h0 (fun v h L => v = some (.int (own_i1 x1 cz)) ∧ h = h0 ∧ L = []) := by
  refine own_intro (plainFor_of_name own_pn2) ?_
  intro p e s m below meth c s₁ hx hby hml hown hnm hZ hret hlk X0 e0
  refine own_cast (own_mt2_ef m x0 x1) ?_
  refine own_via (T' := s₁) (g' := (mkF m 3 #[.val (.ref x0), .val (.int x1)] [(.int (0 : Int32)), (.int x1), (.ref x0)])) (fun t k => XS.aloadN X0.here hx rfl (hb hby own_d2_0) rfl rfl (XS.iloadN X0.here hx rfl (hb hby own_d2_1) rfl (XS.iconst X0.here hx rfl (hb hby own_d2_2) k))) ?_
  obtain ⟨v1, T1, L1, X1, hQ1, st1⟩ := own_callVi (y := (⟨"java/lang/String", "indexOf", "(II)I"⟩ : MethodName)) (z := (⟨"java/lang/String", "indexOf", "(II)I"⟩ : MethodName)) (a := x0) (C := "java/lang/String") (argsL := [(.int x1), (.int (0 : Int32))]) (rest := []) X0 hx hZ hown (hw _ (List.mem_of_getElem? (i := 17) rfl)) (hw _ (List.mem_of_getElem? (i := 18) rfl)) (notFace_of_selects (args := #[]) (mvT hZ (hw _ (List.mem_of_getElem? (i := 20) rfl)))) (hw _ (List.mem_of_getElem? (i := 20) rfl)) (hw _ (List.mem_of_getElem? (i := 19) rfl)) (hw _ (List.mem_of_getElem? (i := 5) rfl)) (hw _ (List.mem_of_getElem? (i := 21) rfl)) (by decide) E_x0 (own_mt3 l Z a0 hw x0 x1 bb cz h0 E_x0 F_coder F_value V_bb S_cs hcz) e0 (W := 0) (by decide) (by decide) (g := (mkF m 3 #[.val (.ref x0), .val (.int x1)] [(.int (0 : Int32)), (.int x1), (.ref x0)])) rfl (by rw [hml]; rfl) (lenOf own_pd2 rfl) rfl (by show 2 * 0 + _ ≤ _; exact Nat.le_of_eq rfl) (hb hby own_d2_3) (by decide) (by decide)
  obtain ⟨rfl, e1, rfl⟩ := hQ1
  refine own_via (T' := T1) (g' := (mkF m 6 #[.val (.ref x0), .val (.int x1)] [(.int (own_i2 x1 cz))])) st1 ?_
  refine own_retI X1 hx hlk hret (hb hby own_d2_6) (by decide) (by decide) ?_
  exact ⟨by rw [own_i1] <;> rfl, e1, rfl⟩
theorem own_d1_0 : decode prog_17_method_12_code 0 = .ok (.iload_n 0, 1) := by decide +kernel
theorem own_d1_1 : decode prog_17_method_12_code 1 = .ok (.bipush 48, 2) := by decide +kernel
theorem own_d1_3 : decode prog_17_method_12_code 3 = .ok (.if_icmp .lt 9, 3) := by decide +kernel
theorem own_d1_6 : decode prog_17_method_12_code 6 = .ok (.iload_n 0, 1) := by decide +kernel
theorem own_d1_7 : decode prog_17_method_12_code 7 = .ok (.bipush 57, 2) := by decide +kernel
theorem own_d1_9 : decode prog_17_method_12_code 9 = .ok (.if_icmp .le 27, 3) := by decide +kernel
theorem own_d1_12 : decode prog_17_method_12_code 12 = .ok (.iload_n 0, 1) := by decide +kernel
theorem own_d1_13 : decode prog_17_method_12_code 13 = .ok (.bipush 97, 2) := by decide +kernel
theorem own_d1_15 : decode prog_17_method_12_code 15 = .ok (.if_icmp .lt 9, 3) := by decide +kernel
theorem own_d1_18 : decode prog_17_method_12_code 18 = .ok (.iload_n 0, 1) := by decide +kernel
theorem own_d1_19 : decode prog_17_method_12_code 19 = .ok (.bipush 122, 2) := by decide +kernel
theorem own_d1_21 : decode prog_17_method_12_code 21 = .ok (.if_icmp .le 15, 3) := by decide +kernel
theorem own_d1_24 : decode prog_17_method_12_code 24 = .ok (.iload_n 0, 1) := by decide +kernel
theorem own_d1_25 : decode prog_17_method_12_code 25 = .ok (.bipush 65, 2) := by decide +kernel
theorem own_d1_27 : decode prog_17_method_12_code 27 = .ok (.if_icmp .lt 11, 3) := by decide +kernel
theorem own_d1_30 : decode prog_17_method_12_code 30 = .ok (.iload_n 0, 1) := by decide +kernel
theorem own_d1_31 : decode prog_17_method_12_code 31 = .ok (.bipush 90, 2) := by decide +kernel
theorem own_d1_33 : decode prog_17_method_12_code 33 = .ok (.if_icmp .gt 5, 3) := by decide +kernel
theorem own_d1_36 : decode prog_17_method_12_code 36 = .ok (.iconst 1, 1) := by decide +kernel
theorem own_d1_37 : decode prog_17_method_12_code 37 = .ok (.ireturn, 1) := by decide +kernel
theorem own_d1_38 : decode prog_17_method_12_code 38 = .ok (.ldc 102, 2) := by decide +kernel
theorem own_d1_40 : decode prog_17_method_12_code 40 = .ok (.iload_n 0, 1) := by decide +kernel
theorem own_d1_41 : decode prog_17_method_12_code 41 = .ok (.invokevirtual 104, 3) := by decide +kernel
theorem own_d1_44 : decode prog_17_method_12_code 44 = .ok (.ifCond .lt 7, 3) := by decide +kernel
theorem own_d1_47 : decode prog_17_method_12_code 47 = .ok (.iconst 1, 1) := by decide +kernel
theorem own_d1_48 : decode prog_17_method_12_code 48 = .ok (.goto 4, 3) := by decide +kernel
theorem own_d1_51 : decode prog_17_method_12_code 51 = .ok (.iconst 0, 1) := by decide +kernel
theorem own_d1_52 : decode prog_17_method_12_code 52 = .ok (.ireturn, 1) := by decide +kernel
theorem own_pn3 : plainName "com/example/recurve/recurve/http/HttpFields" = true := by first | (simp [plainName, overriddenIn]; done) | decide +kernel
theorem own_pd7 : parseMethodDescriptor "(I)I" = some ⟨[.int], some .int⟩ := by decide +kernel
def own_tok (x0 cz : Int32) : Int32 := (if x0 < (48 : Int32) then (if x0 < (97 : Int32) then (if x0 < (65 : Int32) then (if (own_i1 x0 cz) < (0 : Int32) then (0 : Int32) else (1 : Int32)) else (if (90 : Int32) < x0 then (if (own_i1 x0 cz) < (0 : Int32) then (0 : Int32) else (1 : Int32)) else (1 : Int32))) else (if (122 : Int32) < x0 then (if x0 < (65 : Int32) then (if (own_i1 x0 cz) < (0 : Int32) then (0 : Int32) else (1 : Int32)) else (if (90 : Int32) < x0 then (if (own_i1 x0 cz) < (0 : Int32) then (0 : Int32) else (1 : Int32)) else (1 : Int32))) else (1 : Int32))) else (if (57 : Int32) < x0 then (if x0 < (97 : Int32) then (if x0 < (65 : Int32) then (if (own_i1 x0 cz) < (0 : Int32) then (0 : Int32) else (1 : Int32)) else (if (90 : Int32) < x0 then (if (own_i1 x0 cz) < (0 : Int32) then (0 : Int32) else (1 : Int32)) else (1 : Int32))) else (if (122 : Int32) < x0 then (if x0 < (65 : Int32) then (if (own_i1 x0 cz) < (0 : Int32) then (0 : Int32) else (1 : Int32)) else (if (90 : Int32) < x0 then (if (own_i1 x0 cz) < (0 : Int32) then (0 : Int32) else (1 : Int32)) else (1 : Int32))) else (1 : Int32))) else (1 : Int32)))
theorem own_mtt_ef (m : MethodId) (x0 : Int32) : entryFrame m #[(.int x0)] 1 = mkF m 0 #[.val (.int x0)] [] := rfl
set_option maxRecDepth 65536 in
set_option maxHeartbeats 40000000 in
theorem own_mtt (l : Launch) (Z : State) (a0 : Array Value) (hw : ∀ d ∈ tables_1, d.before a0 Z = true) (x0 cz : Int32) (h0 : Heap) (n0 : Nat) (Z0 : n0 ≤ h0.size) (S_cs : Sta Z Z.heap "java/lang/String" "COMPACT_STRINGS" "Z" (.int cz)) (Ol : Old Z n0 h0) (hcz : ¬ cz = 0) (hEL : EW Z a0 consts_1) :
    own_MetH l Z consts_1 (⟨"com/example/recurve/recurve/http/HttpFields", "isTokenChar", "(C)Z"⟩ : MethodName) prog_17_method_12_code 1 (some .boolean) ({ frames := 4, cells := 2, slots := 64, locals := 59 } : Room) #[(.int x0)] h0 (fun v h L => v = some (.int (own_tok x0 cz)) ∧ Fr n0 L) := by
  refine own_introH (plainFor_of_name own_pn3) ?_
  intro p e s m below meth c s₁ hx hby hml hown hnm hZ hret hlk X0 e0 hsh H0
  have hS0 : s.Since s.vm 0 := (State.WarmedH.refl s).since 0
  have kz0 : 0 ≤ h0.size := Nat.zero_le _
  have CH0 : CHr Z consts_1 s.vm h0 s.vm h0 := CHr.refl H0
  refine own_cast (own_mtt_ef m x0) ?_
  have N0 := Fr.nil n0
  refine own_via (T' := s₁) (g' := (mkF m 3 #[.val (.int x0)] [(.int (48 : Int32)), (.int x0)])) (fun t k => XS.iloadN X0.here hx rfl (hb hby own_d1_0) rfl (XS.bipush X0.here hx rfl (hb hby own_d1_1) k)) ?_
  by_cases hc1 : x0 < (48 : Int32)
  · refine own_via (T' := s₁) (g' := (mkF m 15 #[.val (.int x0)] [(.int (97 : Int32)), (.int x0)])) (fun t k => XS.icmpYes X0.here hx rfl (pc0 := 3) (pc' := 12) rfl (hb hby own_d1_3) rfl (tlt hc1).1 (by decide) (by decide) (XS.iloadN X0.here hx rfl (hb hby own_d1_12) rfl (XS.bipush X0.here hx rfl (hb hby own_d1_13) k))) ?_
    by_cases hc2 : x0 < (97 : Int32)
    · refine own_via (T' := s₁) (g' := (mkF m 27 #[.val (.int x0)] [(.int (65 : Int32)), (.int x0)])) (fun t k => XS.icmpYes X0.here hx rfl (pc0 := 15) (pc' := 24) rfl (hb hby own_d1_15) rfl (tlt hc2).1 (by decide) (by decide) (XS.iloadN X0.here hx rfl (hb hby own_d1_24) rfl (XS.bipush X0.here hx rfl (hb hby own_d1_25) k))) ?_
      by_cases hc3 : x0 < (65 : Int32)
      · refine own_via (T' := s₁) (g' := (mkF m 38 #[.val (.int x0)] [])) (fun t k => XS.icmpYes X0.here hx rfl (pc0 := 27) (pc' := 38) rfl (hb hby own_d1_27) rfl (tlt hc3).1 (by decide) (by decide) k) ?_
        obtain ⟨a4, T4, h4, kk4, bb4, kb4, X4, e4, E4, hS4, kz4, hZ, hown, Ex4, Fc4, Fv4, Av4, -, -, C4, -, -, st4⟩ := ldcCH X0 hx hZ hown (hw _ (List.mem_of_getElem? (i := 4) rfl)) (own_strw hw) e0 hS0 kz0 hEL (List.mem_of_getElem? (i := 0) rfl) CH0.1 (vs := [(.int (33 : Int32)), (.int (35 : Int32)), (.int (36 : Int32)), (.int (37 : Int32)), (.int (38 : Int32)), (.int (39 : Int32)), (.int (42 : Int32)), (.int (43 : Int32)), (.int (45 : Int32)), (.int (46 : Int32)), (.int (94 : Int32)), (.int (95 : Int32)), (.int (96 : Int32)), (.int (124 : Int32)), (.int (126 : Int32))]) (z := 15) (own_txt102) (by decide) rfl (g := (mkF m 38 #[.val (.int x0)] [])) rfl (hb hby own_d1_38) (n := 60) (by decide) (by decide) (by decide) (by decide)
        have kz5 := Nat.le_trans kz0 E4.1
        have Ol6 := Ol.ext E4
        have CH4 := CH0.trans C4
        have V4 : own_Av Z h4 bb4 .byte [(.int (33 : Int32)), (.int (35 : Int32)), (.int (36 : Int32)), (.int (37 : Int32)), (.int (38 : Int32)), (.int (39 : Int32)), (.int (42 : Int32)), (.int (43 : Int32)), (.int (45 : Int32)), (.int (46 : Int32)), (.int (94 : Int32)), (.int (95 : Int32)), (.int (96 : Int32)), (.int (124 : Int32)), (.int (126 : Int32))] := own_Av.of_arv Av4 rfl
        have Z4 : n0 ≤ h4.size := Nat.le_trans Z0 E4.1
        refine own_via (T' := T4) (g' := (mkF m 40 #[.val (.int x0)] [(.ref a4)])) st4 ?_
        refine own_via (T' := T4) (g' := (mkF m 41 #[.val (.int x0)] [(.int x0), (.ref a4)])) (fun t k => XS.iloadN X4.here hx rfl (hb hby own_d1_40) rfl k) ?_
        obtain ⟨v7, T7, L7, X7, hQ7, st7⟩ := own_callVi (y := (⟨"java/lang/String", "indexOf", "(I)I"⟩ : MethodName)) (z := (⟨"java/lang/String", "indexOf", "(I)I"⟩ : MethodName)) (a := a4) (C := "java/lang/String") (argsL := [(.int x0)]) (rest := []) X4 hx hZ hown (hw _ (List.mem_of_getElem? (i := 12) rfl)) (hw _ (List.mem_of_getElem? (i := 13) rfl)) (notFace_of_selects (args := #[]) (mvT hZ (hw _ (List.mem_of_getElem? (i := 15) rfl)))) (hw _ (List.mem_of_getElem? (i := 15) rfl)) (hw _ (List.mem_of_getElem? (i := 14) rfl)) (hw _ (List.mem_of_getElem? (i := 5) rfl)) (hw _ (List.mem_of_getElem? (i := 16) rfl)) (by decide) Ex4 (own_mt2 l Z a0 hw a4 x0 bb4 cz h4 Ex4 Fc4 Fv4 V4 (S_cs.ext Ol6.2) hcz) e4 (W := 0) (by decide) (by decide) (g := (mkF m 41 #[.val (.int x0)] [(.int x0), (.ref a4)])) rfl (by rw [hml]; rfl) (lenOf own_pd7 rfl) rfl (by show 2 * 0 + _ ≤ _; exact Nat.le_of_eq rfl) (hb hby own_d1_41) (by decide) (by decide)
        obtain ⟨rfl, e7, rfl⟩ := hQ7
        have N7 := Fr.app N0 (Fr.nil n0)
        refine own_via (T' := T7) (g' := (mkF m 44 #[.val (.int x0)] [(.int (own_i1 x0 cz))])) st7 ?_
        by_cases hc8 : (own_i1 x0 cz) < (0 : Int32)
        · refine own_via (T' := T7) (g' := (mkF m 52 #[.val (.int x0)] [(.int (0 : Int32))])) (fun t k => XS.ifYes X7.here hx rfl (pc0 := 44) (pc' := 51) rfl (hb hby own_d1_44) rfl ((if0 _ _).trans (tlt hc8).1) (by decide) (by decide) (XS.iconst X7.here hx rfl (hb hby own_d1_51) k)) ?_
          refine own_retNH X7 hx hS4 e7 kz4 hZ hEL hsh CH4 hlk (ty := .boolean) hret (by simp) (hb hby own_d1_52) (by decide) (by decide) ?_
          exact ⟨by rw [own_tok, if_pos hc1, if_pos hc2, if_pos hc3, if_pos hc8] <;> rfl, N7⟩
        · refine own_via (T' := T7) (g' := (mkF m 52 #[.val (.int x0)] [(.int (1 : Int32))])) (fun t k => XS.ifNo X7.here hx rfl (hb hby own_d1_44) rfl ((if0 _ _).trans (flt hc8).1) (XS.iconst X7.here hx rfl (hb hby own_d1_47) (XS.goto X7.here hx rfl (pc0 := 48) (pc' := 52) rfl (hb hby own_d1_48) (by decide) (by decide) k))) ?_
          refine own_retNH X7 hx hS4 e7 kz4 hZ hEL hsh CH4 hlk (ty := .boolean) hret (by simp) (hb hby own_d1_52) (by decide) (by decide) ?_
          exact ⟨by rw [own_tok, if_pos hc1, if_pos hc2, if_pos hc3, if_neg hc8] <;> rfl, N7⟩
      · refine own_via (T' := s₁) (g' := (mkF m 33 #[.val (.int x0)] [(.int (90 : Int32)), (.int x0)])) (fun t k => XS.icmpNo X0.here hx rfl (hb hby own_d1_27) rfl (flt hc3).1 (XS.iloadN X0.here hx rfl (hb hby own_d1_30) rfl (XS.bipush X0.here hx rfl (hb hby own_d1_31) k))) ?_
        by_cases hc9 : (90 : Int32) < x0
        · refine own_via (T' := s₁) (g' := (mkF m 38 #[.val (.int x0)] [])) (fun t k => XS.icmpYes X0.here hx rfl (pc0 := 33) (pc' := 38) rfl (hb hby own_d1_33) rfl (tlt hc9).2.2.1 (by decide) (by decide) k) ?_
          obtain ⟨a10, T10, h10, kk10, bb10, kb10, X10, e10, E10, hS10, kz10, hZ, hown, Ex10, Fc10, Fv10, Av10, -, -, C10, -, -, st10⟩ := ldcCH X0 hx hZ hown (hw _ (List.mem_of_getElem? (i := 4) rfl)) (own_strw hw) e0 hS0 kz0 hEL (List.mem_of_getElem? (i := 0) rfl) CH0.1 (vs := [(.int (33 : Int32)), (.int (35 : Int32)), (.int (36 : Int32)), (.int (37 : Int32)), (.int (38 : Int32)), (.int (39 : Int32)), (.int (42 : Int32)), (.int (43 : Int32)), (.int (45 : Int32)), (.int (46 : Int32)), (.int (94 : Int32)), (.int (95 : Int32)), (.int (96 : Int32)), (.int (124 : Int32)), (.int (126 : Int32))]) (z := 15) (own_txt102) (by decide) rfl (g := (mkF m 38 #[.val (.int x0)] [])) rfl (hb hby own_d1_38) (n := 60) (by decide) (by decide) (by decide) (by decide)
          have kz11 := Nat.le_trans kz0 E10.1
          have Ol12 := Ol.ext E10
          have CH10 := CH0.trans C10
          have V10 : own_Av Z h10 bb10 .byte [(.int (33 : Int32)), (.int (35 : Int32)), (.int (36 : Int32)), (.int (37 : Int32)), (.int (38 : Int32)), (.int (39 : Int32)), (.int (42 : Int32)), (.int (43 : Int32)), (.int (45 : Int32)), (.int (46 : Int32)), (.int (94 : Int32)), (.int (95 : Int32)), (.int (96 : Int32)), (.int (124 : Int32)), (.int (126 : Int32))] := own_Av.of_arv Av10 rfl
          have Z10 : n0 ≤ h10.size := Nat.le_trans Z0 E10.1
          refine own_via (T' := T10) (g' := (mkF m 40 #[.val (.int x0)] [(.ref a10)])) st10 ?_
          refine own_via (T' := T10) (g' := (mkF m 41 #[.val (.int x0)] [(.int x0), (.ref a10)])) (fun t k => XS.iloadN X10.here hx rfl (hb hby own_d1_40) rfl k) ?_
          obtain ⟨v13, T13, L13, X13, hQ13, st13⟩ := own_callVi (y := (⟨"java/lang/String", "indexOf", "(I)I"⟩ : MethodName)) (z := (⟨"java/lang/String", "indexOf", "(I)I"⟩ : MethodName)) (a := a10) (C := "java/lang/String") (argsL := [(.int x0)]) (rest := []) X10 hx hZ hown (hw _ (List.mem_of_getElem? (i := 12) rfl)) (hw _ (List.mem_of_getElem? (i := 13) rfl)) (notFace_of_selects (args := #[]) (mvT hZ (hw _ (List.mem_of_getElem? (i := 15) rfl)))) (hw _ (List.mem_of_getElem? (i := 15) rfl)) (hw _ (List.mem_of_getElem? (i := 14) rfl)) (hw _ (List.mem_of_getElem? (i := 5) rfl)) (hw _ (List.mem_of_getElem? (i := 16) rfl)) (by decide) Ex10 (own_mt2 l Z a0 hw a10 x0 bb10 cz h10 Ex10 Fc10 Fv10 V10 (S_cs.ext Ol12.2) hcz) e10 (W := 0) (by decide) (by decide) (g := (mkF m 41 #[.val (.int x0)] [(.int x0), (.ref a10)])) rfl (by rw [hml]; rfl) (lenOf own_pd7 rfl) rfl (by show 2 * 0 + _ ≤ _; exact Nat.le_of_eq rfl) (hb hby own_d1_41) (by decide) (by decide)
          obtain ⟨rfl, e13, rfl⟩ := hQ13
          have N13 := Fr.app N0 (Fr.nil n0)
          refine own_via (T' := T13) (g' := (mkF m 44 #[.val (.int x0)] [(.int (own_i1 x0 cz))])) st13 ?_
          by_cases hc14 : (own_i1 x0 cz) < (0 : Int32)
          · refine own_via (T' := T13) (g' := (mkF m 52 #[.val (.int x0)] [(.int (0 : Int32))])) (fun t k => XS.ifYes X13.here hx rfl (pc0 := 44) (pc' := 51) rfl (hb hby own_d1_44) rfl ((if0 _ _).trans (tlt hc14).1) (by decide) (by decide) (XS.iconst X13.here hx rfl (hb hby own_d1_51) k)) ?_
            refine own_retNH X13 hx hS10 e13 kz10 hZ hEL hsh CH10 hlk (ty := .boolean) hret (by simp) (hb hby own_d1_52) (by decide) (by decide) ?_
            exact ⟨by rw [own_tok, if_pos hc1, if_pos hc2, if_neg hc3, if_pos hc9, if_pos hc14] <;> rfl, N13⟩
          · refine own_via (T' := T13) (g' := (mkF m 52 #[.val (.int x0)] [(.int (1 : Int32))])) (fun t k => XS.ifNo X13.here hx rfl (hb hby own_d1_44) rfl ((if0 _ _).trans (flt hc14).1) (XS.iconst X13.here hx rfl (hb hby own_d1_47) (XS.goto X13.here hx rfl (pc0 := 48) (pc' := 52) rfl (hb hby own_d1_48) (by decide) (by decide) k))) ?_
            refine own_retNH X13 hx hS10 e13 kz10 hZ hEL hsh CH10 hlk (ty := .boolean) hret (by simp) (hb hby own_d1_52) (by decide) (by decide) ?_
            exact ⟨by rw [own_tok, if_pos hc1, if_pos hc2, if_neg hc3, if_pos hc9, if_neg hc14] <;> rfl, N13⟩
        · refine own_via (T' := s₁) (g' := (mkF m 37 #[.val (.int x0)] [(.int (1 : Int32))])) (fun t k => XS.icmpNo X0.here hx rfl (hb hby own_d1_33) rfl (flt hc9).2.2.1 (XS.iconst X0.here hx rfl (hb hby own_d1_36) k)) ?_
          refine own_retNH X0 hx hS0 e0 kz0 hZ hEL hsh CH0 hlk (ty := .boolean) hret (by simp) (hb hby own_d1_37) (by decide) (by decide) ?_
          exact ⟨by rw [own_tok, if_pos hc1, if_pos hc2, if_neg hc3, if_neg hc9] <;> rfl, N0⟩
    · refine own_via (T' := s₁) (g' := (mkF m 21 #[.val (.int x0)] [(.int (122 : Int32)), (.int x0)])) (fun t k => XS.icmpNo X0.here hx rfl (hb hby own_d1_15) rfl (flt hc2).1 (XS.iloadN X0.here hx rfl (hb hby own_d1_18) rfl (XS.bipush X0.here hx rfl (hb hby own_d1_19) k))) ?_
      by_cases hc15 : (122 : Int32) < x0
      · refine own_via (T' := s₁) (g' := (mkF m 27 #[.val (.int x0)] [(.int (65 : Int32)), (.int x0)])) (fun t k => XS.icmpNo X0.here hx rfl (hb hby own_d1_21) rfl (tlt hc15).2.2.2 (XS.iloadN X0.here hx rfl (hb hby own_d1_24) rfl (XS.bipush X0.here hx rfl (hb hby own_d1_25) k))) ?_
        by_cases hc16 : x0 < (65 : Int32)
        · refine own_via (T' := s₁) (g' := (mkF m 38 #[.val (.int x0)] [])) (fun t k => XS.icmpYes X0.here hx rfl (pc0 := 27) (pc' := 38) rfl (hb hby own_d1_27) rfl (tlt hc16).1 (by decide) (by decide) k) ?_
          obtain ⟨a17, T17, h17, kk17, bb17, kb17, X17, e17, E17, hS17, kz17, hZ, hown, Ex17, Fc17, Fv17, Av17, -, -, C17, -, -, st17⟩ := ldcCH X0 hx hZ hown (hw _ (List.mem_of_getElem? (i := 4) rfl)) (own_strw hw) e0 hS0 kz0 hEL (List.mem_of_getElem? (i := 0) rfl) CH0.1 (vs := [(.int (33 : Int32)), (.int (35 : Int32)), (.int (36 : Int32)), (.int (37 : Int32)), (.int (38 : Int32)), (.int (39 : Int32)), (.int (42 : Int32)), (.int (43 : Int32)), (.int (45 : Int32)), (.int (46 : Int32)), (.int (94 : Int32)), (.int (95 : Int32)), (.int (96 : Int32)), (.int (124 : Int32)), (.int (126 : Int32))]) (z := 15) (own_txt102) (by decide) rfl (g := (mkF m 38 #[.val (.int x0)] [])) rfl (hb hby own_d1_38) (n := 60) (by decide) (by decide) (by decide) (by decide)
          have kz18 := Nat.le_trans kz0 E17.1
          have Ol19 := Ol.ext E17
          have CH17 := CH0.trans C17
          have V17 : own_Av Z h17 bb17 .byte [(.int (33 : Int32)), (.int (35 : Int32)), (.int (36 : Int32)), (.int (37 : Int32)), (.int (38 : Int32)), (.int (39 : Int32)), (.int (42 : Int32)), (.int (43 : Int32)), (.int (45 : Int32)), (.int (46 : Int32)), (.int (94 : Int32)), (.int (95 : Int32)), (.int (96 : Int32)), (.int (124 : Int32)), (.int (126 : Int32))] := own_Av.of_arv Av17 rfl
          have Z17 : n0 ≤ h17.size := Nat.le_trans Z0 E17.1
          refine own_via (T' := T17) (g' := (mkF m 40 #[.val (.int x0)] [(.ref a17)])) st17 ?_
          refine own_via (T' := T17) (g' := (mkF m 41 #[.val (.int x0)] [(.int x0), (.ref a17)])) (fun t k => XS.iloadN X17.here hx rfl (hb hby own_d1_40) rfl k) ?_
          obtain ⟨v20, T20, L20, X20, hQ20, st20⟩ := own_callVi (y := (⟨"java/lang/String", "indexOf", "(I)I"⟩ : MethodName)) (z := (⟨"java/lang/String", "indexOf", "(I)I"⟩ : MethodName)) (a := a17) (C := "java/lang/String") (argsL := [(.int x0)]) (rest := []) X17 hx hZ hown (hw _ (List.mem_of_getElem? (i := 12) rfl)) (hw _ (List.mem_of_getElem? (i := 13) rfl)) (notFace_of_selects (args := #[]) (mvT hZ (hw _ (List.mem_of_getElem? (i := 15) rfl)))) (hw _ (List.mem_of_getElem? (i := 15) rfl)) (hw _ (List.mem_of_getElem? (i := 14) rfl)) (hw _ (List.mem_of_getElem? (i := 5) rfl)) (hw _ (List.mem_of_getElem? (i := 16) rfl)) (by decide) Ex17 (own_mt2 l Z a0 hw a17 x0 bb17 cz h17 Ex17 Fc17 Fv17 V17 (S_cs.ext Ol19.2) hcz) e17 (W := 0) (by decide) (by decide) (g := (mkF m 41 #[.val (.int x0)] [(.int x0), (.ref a17)])) rfl (by rw [hml]; rfl) (lenOf own_pd7 rfl) rfl (by show 2 * 0 + _ ≤ _; exact Nat.le_of_eq rfl) (hb hby own_d1_41) (by decide) (by decide)
          obtain ⟨rfl, e20, rfl⟩ := hQ20
          have N20 := Fr.app N0 (Fr.nil n0)
          refine own_via (T' := T20) (g' := (mkF m 44 #[.val (.int x0)] [(.int (own_i1 x0 cz))])) st20 ?_
          by_cases hc21 : (own_i1 x0 cz) < (0 : Int32)
          · refine own_via (T' := T20) (g' := (mkF m 52 #[.val (.int x0)] [(.int (0 : Int32))])) (fun t k => XS.ifYes X20.here hx rfl (pc0 := 44) (pc' := 51) rfl (hb hby own_d1_44) rfl ((if0 _ _).trans (tlt hc21).1) (by decide) (by decide) (XS.iconst X20.here hx rfl (hb hby own_d1_51) k)) ?_
            refine own_retNH X20 hx hS17 e20 kz17 hZ hEL hsh CH17 hlk (ty := .boolean) hret (by simp) (hb hby own_d1_52) (by decide) (by decide) ?_
            exact ⟨by rw [own_tok, if_pos hc1, if_neg hc2, if_pos hc15, if_pos hc16, if_pos hc21] <;> rfl, N20⟩
          · refine own_via (T' := T20) (g' := (mkF m 52 #[.val (.int x0)] [(.int (1 : Int32))])) (fun t k => XS.ifNo X20.here hx rfl (hb hby own_d1_44) rfl ((if0 _ _).trans (flt hc21).1) (XS.iconst X20.here hx rfl (hb hby own_d1_47) (XS.goto X20.here hx rfl (pc0 := 48) (pc' := 52) rfl (hb hby own_d1_48) (by decide) (by decide) k))) ?_
            refine own_retNH X20 hx hS17 e20 kz17 hZ hEL hsh CH17 hlk (ty := .boolean) hret (by simp) (hb hby own_d1_52) (by decide) (by decide) ?_
            exact ⟨by rw [own_tok, if_pos hc1, if_neg hc2, if_pos hc15, if_pos hc16, if_neg hc21] <;> rfl, N20⟩
        · refine own_via (T' := s₁) (g' := (mkF m 33 #[.val (.int x0)] [(.int (90 : Int32)), (.int x0)])) (fun t k => XS.icmpNo X0.here hx rfl (hb hby own_d1_27) rfl (flt hc16).1 (XS.iloadN X0.here hx rfl (hb hby own_d1_30) rfl (XS.bipush X0.here hx rfl (hb hby own_d1_31) k))) ?_
          by_cases hc22 : (90 : Int32) < x0
          · refine own_via (T' := s₁) (g' := (mkF m 38 #[.val (.int x0)] [])) (fun t k => XS.icmpYes X0.here hx rfl (pc0 := 33) (pc' := 38) rfl (hb hby own_d1_33) rfl (tlt hc22).2.2.1 (by decide) (by decide) k) ?_
            obtain ⟨a23, T23, h23, kk23, bb23, kb23, X23, e23, E23, hS23, kz23, hZ, hown, Ex23, Fc23, Fv23, Av23, -, -, C23, -, -, st23⟩ := ldcCH X0 hx hZ hown (hw _ (List.mem_of_getElem? (i := 4) rfl)) (own_strw hw) e0 hS0 kz0 hEL (List.mem_of_getElem? (i := 0) rfl) CH0.1 (vs := [(.int (33 : Int32)), (.int (35 : Int32)), (.int (36 : Int32)), (.int (37 : Int32)), (.int (38 : Int32)), (.int (39 : Int32)), (.int (42 : Int32)), (.int (43 : Int32)), (.int (45 : Int32)), (.int (46 : Int32)), (.int (94 : Int32)), (.int (95 : Int32)), (.int (96 : Int32)), (.int (124 : Int32)), (.int (126 : Int32))]) (z := 15) (own_txt102) (by decide) rfl (g := (mkF m 38 #[.val (.int x0)] [])) rfl (hb hby own_d1_38) (n := 60) (by decide) (by decide) (by decide) (by decide)
            have kz24 := Nat.le_trans kz0 E23.1
            have Ol25 := Ol.ext E23
            have CH23 := CH0.trans C23
            have V23 : own_Av Z h23 bb23 .byte [(.int (33 : Int32)), (.int (35 : Int32)), (.int (36 : Int32)), (.int (37 : Int32)), (.int (38 : Int32)), (.int (39 : Int32)), (.int (42 : Int32)), (.int (43 : Int32)), (.int (45 : Int32)), (.int (46 : Int32)), (.int (94 : Int32)), (.int (95 : Int32)), (.int (96 : Int32)), (.int (124 : Int32)), (.int (126 : Int32))] := own_Av.of_arv Av23 rfl
            have Z23 : n0 ≤ h23.size := Nat.le_trans Z0 E23.1
            refine own_via (T' := T23) (g' := (mkF m 40 #[.val (.int x0)] [(.ref a23)])) st23 ?_
            refine own_via (T' := T23) (g' := (mkF m 41 #[.val (.int x0)] [(.int x0), (.ref a23)])) (fun t k => XS.iloadN X23.here hx rfl (hb hby own_d1_40) rfl k) ?_
            obtain ⟨v26, T26, L26, X26, hQ26, st26⟩ := own_callVi (y := (⟨"java/lang/String", "indexOf", "(I)I"⟩ : MethodName)) (z := (⟨"java/lang/String", "indexOf", "(I)I"⟩ : MethodName)) (a := a23) (C := "java/lang/String") (argsL := [(.int x0)]) (rest := []) X23 hx hZ hown (hw _ (List.mem_of_getElem? (i := 12) rfl)) (hw _ (List.mem_of_getElem? (i := 13) rfl)) (notFace_of_selects (args := #[]) (mvT hZ (hw _ (List.mem_of_getElem? (i := 15) rfl)))) (hw _ (List.mem_of_getElem? (i := 15) rfl)) (hw _ (List.mem_of_getElem? (i := 14) rfl)) (hw _ (List.mem_of_getElem? (i := 5) rfl)) (hw _ (List.mem_of_getElem? (i := 16) rfl)) (by decide) Ex23 (own_mt2 l Z a0 hw a23 x0 bb23 cz h23 Ex23 Fc23 Fv23 V23 (S_cs.ext Ol25.2) hcz) e23 (W := 0) (by decide) (by decide) (g := (mkF m 41 #[.val (.int x0)] [(.int x0), (.ref a23)])) rfl (by rw [hml]; rfl) (lenOf own_pd7 rfl) rfl (by show 2 * 0 + _ ≤ _; exact Nat.le_of_eq rfl) (hb hby own_d1_41) (by decide) (by decide)
            obtain ⟨rfl, e26, rfl⟩ := hQ26
            have N26 := Fr.app N0 (Fr.nil n0)
            refine own_via (T' := T26) (g' := (mkF m 44 #[.val (.int x0)] [(.int (own_i1 x0 cz))])) st26 ?_
            by_cases hc27 : (own_i1 x0 cz) < (0 : Int32)
            · refine own_via (T' := T26) (g' := (mkF m 52 #[.val (.int x0)] [(.int (0 : Int32))])) (fun t k => XS.ifYes X26.here hx rfl (pc0 := 44) (pc' := 51) rfl (hb hby own_d1_44) rfl ((if0 _ _).trans (tlt hc27).1) (by decide) (by decide) (XS.iconst X26.here hx rfl (hb hby own_d1_51) k)) ?_
              refine own_retNH X26 hx hS23 e26 kz23 hZ hEL hsh CH23 hlk (ty := .boolean) hret (by simp) (hb hby own_d1_52) (by decide) (by decide) ?_
              exact ⟨by rw [own_tok, if_pos hc1, if_neg hc2, if_pos hc15, if_neg hc16, if_pos hc22, if_pos hc27] <;> rfl, N26⟩
            · refine own_via (T' := T26) (g' := (mkF m 52 #[.val (.int x0)] [(.int (1 : Int32))])) (fun t k => XS.ifNo X26.here hx rfl (hb hby own_d1_44) rfl ((if0 _ _).trans (flt hc27).1) (XS.iconst X26.here hx rfl (hb hby own_d1_47) (XS.goto X26.here hx rfl (pc0 := 48) (pc' := 52) rfl (hb hby own_d1_48) (by decide) (by decide) k))) ?_
              refine own_retNH X26 hx hS23 e26 kz23 hZ hEL hsh CH23 hlk (ty := .boolean) hret (by simp) (hb hby own_d1_52) (by decide) (by decide) ?_
              exact ⟨by rw [own_tok, if_pos hc1, if_neg hc2, if_pos hc15, if_neg hc16, if_pos hc22, if_neg hc27] <;> rfl, N26⟩
          · refine own_via (T' := s₁) (g' := (mkF m 37 #[.val (.int x0)] [(.int (1 : Int32))])) (fun t k => XS.icmpNo X0.here hx rfl (hb hby own_d1_33) rfl (flt hc22).2.2.1 (XS.iconst X0.here hx rfl (hb hby own_d1_36) k)) ?_
            refine own_retNH X0 hx hS0 e0 kz0 hZ hEL hsh CH0 hlk (ty := .boolean) hret (by simp) (hb hby own_d1_37) (by decide) (by decide) ?_
            exact ⟨by rw [own_tok, if_pos hc1, if_neg hc2, if_pos hc15, if_neg hc16, if_neg hc22] <;> rfl, N0⟩
      · refine own_via (T' := s₁) (g' := (mkF m 37 #[.val (.int x0)] [(.int (1 : Int32))])) (fun t k => XS.icmpYes X0.here hx rfl (pc0 := 21) (pc' := 36) rfl (hb hby own_d1_21) rfl (flt hc15).2.2.2 (by decide) (by decide) (XS.iconst X0.here hx rfl (hb hby own_d1_36) k)) ?_
        refine own_retNH X0 hx hS0 e0 kz0 hZ hEL hsh CH0 hlk (ty := .boolean) hret (by simp) (hb hby own_d1_37) (by decide) (by decide) ?_
        exact ⟨by rw [own_tok, if_pos hc1, if_neg hc2, if_neg hc15] <;> rfl, N0⟩
  · refine own_via (T' := s₁) (g' := (mkF m 9 #[.val (.int x0)] [(.int (57 : Int32)), (.int x0)])) (fun t k => XS.icmpNo X0.here hx rfl (hb hby own_d1_3) rfl (flt hc1).1 (XS.iloadN X0.here hx rfl (hb hby own_d1_6) rfl (XS.bipush X0.here hx rfl (hb hby own_d1_7) k))) ?_
    by_cases hc28 : (57 : Int32) < x0
    · refine own_via (T' := s₁) (g' := (mkF m 15 #[.val (.int x0)] [(.int (97 : Int32)), (.int x0)])) (fun t k => XS.icmpNo X0.here hx rfl (hb hby own_d1_9) rfl (tlt hc28).2.2.2 (XS.iloadN X0.here hx rfl (hb hby own_d1_12) rfl (XS.bipush X0.here hx rfl (hb hby own_d1_13) k))) ?_
      by_cases hc29 : x0 < (97 : Int32)
      · refine own_via (T' := s₁) (g' := (mkF m 27 #[.val (.int x0)] [(.int (65 : Int32)), (.int x0)])) (fun t k => XS.icmpYes X0.here hx rfl (pc0 := 15) (pc' := 24) rfl (hb hby own_d1_15) rfl (tlt hc29).1 (by decide) (by decide) (XS.iloadN X0.here hx rfl (hb hby own_d1_24) rfl (XS.bipush X0.here hx rfl (hb hby own_d1_25) k))) ?_
        by_cases hc30 : x0 < (65 : Int32)
        · refine own_via (T' := s₁) (g' := (mkF m 38 #[.val (.int x0)] [])) (fun t k => XS.icmpYes X0.here hx rfl (pc0 := 27) (pc' := 38) rfl (hb hby own_d1_27) rfl (tlt hc30).1 (by decide) (by decide) k) ?_
          obtain ⟨a31, T31, h31, kk31, bb31, kb31, X31, e31, E31, hS31, kz31, hZ, hown, Ex31, Fc31, Fv31, Av31, -, -, C31, -, -, st31⟩ := ldcCH X0 hx hZ hown (hw _ (List.mem_of_getElem? (i := 4) rfl)) (own_strw hw) e0 hS0 kz0 hEL (List.mem_of_getElem? (i := 0) rfl) CH0.1 (vs := [(.int (33 : Int32)), (.int (35 : Int32)), (.int (36 : Int32)), (.int (37 : Int32)), (.int (38 : Int32)), (.int (39 : Int32)), (.int (42 : Int32)), (.int (43 : Int32)), (.int (45 : Int32)), (.int (46 : Int32)), (.int (94 : Int32)), (.int (95 : Int32)), (.int (96 : Int32)), (.int (124 : Int32)), (.int (126 : Int32))]) (z := 15) (own_txt102) (by decide) rfl (g := (mkF m 38 #[.val (.int x0)] [])) rfl (hb hby own_d1_38) (n := 60) (by decide) (by decide) (by decide) (by decide)
          have kz32 := Nat.le_trans kz0 E31.1
          have Ol33 := Ol.ext E31
          have CH31 := CH0.trans C31
          have V31 : own_Av Z h31 bb31 .byte [(.int (33 : Int32)), (.int (35 : Int32)), (.int (36 : Int32)), (.int (37 : Int32)), (.int (38 : Int32)), (.int (39 : Int32)), (.int (42 : Int32)), (.int (43 : Int32)), (.int (45 : Int32)), (.int (46 : Int32)), (.int (94 : Int32)), (.int (95 : Int32)), (.int (96 : Int32)), (.int (124 : Int32)), (.int (126 : Int32))] := own_Av.of_arv Av31 rfl
          have Z31 : n0 ≤ h31.size := Nat.le_trans Z0 E31.1
          refine own_via (T' := T31) (g' := (mkF m 40 #[.val (.int x0)] [(.ref a31)])) st31 ?_
          refine own_via (T' := T31) (g' := (mkF m 41 #[.val (.int x0)] [(.int x0), (.ref a31)])) (fun t k => XS.iloadN X31.here hx rfl (hb hby own_d1_40) rfl k) ?_
          obtain ⟨v34, T34, L34, X34, hQ34, st34⟩ := own_callVi (y := (⟨"java/lang/String", "indexOf", "(I)I"⟩ : MethodName)) (z := (⟨"java/lang/String", "indexOf", "(I)I"⟩ : MethodName)) (a := a31) (C := "java/lang/String") (argsL := [(.int x0)]) (rest := []) X31 hx hZ hown (hw _ (List.mem_of_getElem? (i := 12) rfl)) (hw _ (List.mem_of_getElem? (i := 13) rfl)) (notFace_of_selects (args := #[]) (mvT hZ (hw _ (List.mem_of_getElem? (i := 15) rfl)))) (hw _ (List.mem_of_getElem? (i := 15) rfl)) (hw _ (List.mem_of_getElem? (i := 14) rfl)) (hw _ (List.mem_of_getElem? (i := 5) rfl)) (hw _ (List.mem_of_getElem? (i := 16) rfl)) (by decide) Ex31 (own_mt2 l Z a0 hw a31 x0 bb31 cz h31 Ex31 Fc31 Fv31 V31 (S_cs.ext Ol33.2) hcz) e31 (W := 0) (by decide) (by decide) (g := (mkF m 41 #[.val (.int x0)] [(.int x0), (.ref a31)])) rfl (by rw [hml]; rfl) (lenOf own_pd7 rfl) rfl (by show 2 * 0 + _ ≤ _; exact Nat.le_of_eq rfl) (hb hby own_d1_41) (by decide) (by decide)
          obtain ⟨rfl, e34, rfl⟩ := hQ34
          have N34 := Fr.app N0 (Fr.nil n0)
          refine own_via (T' := T34) (g' := (mkF m 44 #[.val (.int x0)] [(.int (own_i1 x0 cz))])) st34 ?_
          by_cases hc35 : (own_i1 x0 cz) < (0 : Int32)
          · refine own_via (T' := T34) (g' := (mkF m 52 #[.val (.int x0)] [(.int (0 : Int32))])) (fun t k => XS.ifYes X34.here hx rfl (pc0 := 44) (pc' := 51) rfl (hb hby own_d1_44) rfl ((if0 _ _).trans (tlt hc35).1) (by decide) (by decide) (XS.iconst X34.here hx rfl (hb hby own_d1_51) k)) ?_
            refine own_retNH X34 hx hS31 e34 kz31 hZ hEL hsh CH31 hlk (ty := .boolean) hret (by simp) (hb hby own_d1_52) (by decide) (by decide) ?_
            exact ⟨by rw [own_tok, if_neg hc1, if_pos hc28, if_pos hc29, if_pos hc30, if_pos hc35] <;> rfl, N34⟩
          · refine own_via (T' := T34) (g' := (mkF m 52 #[.val (.int x0)] [(.int (1 : Int32))])) (fun t k => XS.ifNo X34.here hx rfl (hb hby own_d1_44) rfl ((if0 _ _).trans (flt hc35).1) (XS.iconst X34.here hx rfl (hb hby own_d1_47) (XS.goto X34.here hx rfl (pc0 := 48) (pc' := 52) rfl (hb hby own_d1_48) (by decide) (by decide) k))) ?_
            refine own_retNH X34 hx hS31 e34 kz31 hZ hEL hsh CH31 hlk (ty := .boolean) hret (by simp) (hb hby own_d1_52) (by decide) (by decide) ?_
            exact ⟨by rw [own_tok, if_neg hc1, if_pos hc28, if_pos hc29, if_pos hc30, if_neg hc35] <;> rfl, N34⟩
        · refine own_via (T' := s₁) (g' := (mkF m 33 #[.val (.int x0)] [(.int (90 : Int32)), (.int x0)])) (fun t k => XS.icmpNo X0.here hx rfl (hb hby own_d1_27) rfl (flt hc30).1 (XS.iloadN X0.here hx rfl (hb hby own_d1_30) rfl (XS.bipush X0.here hx rfl (hb hby own_d1_31) k))) ?_
          by_cases hc36 : (90 : Int32) < x0
          · refine own_via (T' := s₁) (g' := (mkF m 38 #[.val (.int x0)] [])) (fun t k => XS.icmpYes X0.here hx rfl (pc0 := 33) (pc' := 38) rfl (hb hby own_d1_33) rfl (tlt hc36).2.2.1 (by decide) (by decide) k) ?_
            obtain ⟨a37, T37, h37, kk37, bb37, kb37, X37, e37, E37, hS37, kz37, hZ, hown, Ex37, Fc37, Fv37, Av37, -, -, C37, -, -, st37⟩ := ldcCH X0 hx hZ hown (hw _ (List.mem_of_getElem? (i := 4) rfl)) (own_strw hw) e0 hS0 kz0 hEL (List.mem_of_getElem? (i := 0) rfl) CH0.1 (vs := [(.int (33 : Int32)), (.int (35 : Int32)), (.int (36 : Int32)), (.int (37 : Int32)), (.int (38 : Int32)), (.int (39 : Int32)), (.int (42 : Int32)), (.int (43 : Int32)), (.int (45 : Int32)), (.int (46 : Int32)), (.int (94 : Int32)), (.int (95 : Int32)), (.int (96 : Int32)), (.int (124 : Int32)), (.int (126 : Int32))]) (z := 15) (own_txt102) (by decide) rfl (g := (mkF m 38 #[.val (.int x0)] [])) rfl (hb hby own_d1_38) (n := 60) (by decide) (by decide) (by decide) (by decide)
            have kz38 := Nat.le_trans kz0 E37.1
            have Ol39 := Ol.ext E37
            have CH37 := CH0.trans C37
            have V37 : own_Av Z h37 bb37 .byte [(.int (33 : Int32)), (.int (35 : Int32)), (.int (36 : Int32)), (.int (37 : Int32)), (.int (38 : Int32)), (.int (39 : Int32)), (.int (42 : Int32)), (.int (43 : Int32)), (.int (45 : Int32)), (.int (46 : Int32)), (.int (94 : Int32)), (.int (95 : Int32)), (.int (96 : Int32)), (.int (124 : Int32)), (.int (126 : Int32))] := own_Av.of_arv Av37 rfl
            have Z37 : n0 ≤ h37.size := Nat.le_trans Z0 E37.1
            refine own_via (T' := T37) (g' := (mkF m 40 #[.val (.int x0)] [(.ref a37)])) st37 ?_
            refine own_via (T' := T37) (g' := (mkF m 41 #[.val (.int x0)] [(.int x0), (.ref a37)])) (fun t k => XS.iloadN X37.here hx rfl (hb hby own_d1_40) rfl k) ?_
            obtain ⟨v40, T40, L40, X40, hQ40, st40⟩ := own_callVi (y := (⟨"java/lang/String", "indexOf", "(I)I"⟩ : MethodName)) (z := (⟨"java/lang/String", "indexOf", "(I)I"⟩ : MethodName)) (a := a37) (C := "java/lang/String") (argsL := [(.int x0)]) (rest := []) X37 hx hZ hown (hw _ (List.mem_of_getElem? (i := 12) rfl)) (hw _ (List.mem_of_getElem? (i := 13) rfl)) (notFace_of_selects (args := #[]) (mvT hZ (hw _ (List.mem_of_getElem? (i := 15) rfl)))) (hw _ (List.mem_of_getElem? (i := 15) rfl)) (hw _ (List.mem_of_getElem? (i := 14) rfl)) (hw _ (List.mem_of_getElem? (i := 5) rfl)) (hw _ (List.mem_of_getElem? (i := 16) rfl)) (by decide) Ex37 (own_mt2 l Z a0 hw a37 x0 bb37 cz h37 Ex37 Fc37 Fv37 V37 (S_cs.ext Ol39.2) hcz) e37 (W := 0) (by decide) (by decide) (g := (mkF m 41 #[.val (.int x0)] [(.int x0), (.ref a37)])) rfl (by rw [hml]; rfl) (lenOf own_pd7 rfl) rfl (by show 2 * 0 + _ ≤ _; exact Nat.le_of_eq rfl) (hb hby own_d1_41) (by decide) (by decide)
            obtain ⟨rfl, e40, rfl⟩ := hQ40
            have N40 := Fr.app N0 (Fr.nil n0)
            refine own_via (T' := T40) (g' := (mkF m 44 #[.val (.int x0)] [(.int (own_i1 x0 cz))])) st40 ?_
            by_cases hc41 : (own_i1 x0 cz) < (0 : Int32)
            · refine own_via (T' := T40) (g' := (mkF m 52 #[.val (.int x0)] [(.int (0 : Int32))])) (fun t k => XS.ifYes X40.here hx rfl (pc0 := 44) (pc' := 51) rfl (hb hby own_d1_44) rfl ((if0 _ _).trans (tlt hc41).1) (by decide) (by decide) (XS.iconst X40.here hx rfl (hb hby own_d1_51) k)) ?_
              refine own_retNH X40 hx hS37 e40 kz37 hZ hEL hsh CH37 hlk (ty := .boolean) hret (by simp) (hb hby own_d1_52) (by decide) (by decide) ?_
              exact ⟨by rw [own_tok, if_neg hc1, if_pos hc28, if_pos hc29, if_neg hc30, if_pos hc36, if_pos hc41] <;> rfl, N40⟩
            · refine own_via (T' := T40) (g' := (mkF m 52 #[.val (.int x0)] [(.int (1 : Int32))])) (fun t k => XS.ifNo X40.here hx rfl (hb hby own_d1_44) rfl ((if0 _ _).trans (flt hc41).1) (XS.iconst X40.here hx rfl (hb hby own_d1_47) (XS.goto X40.here hx rfl (pc0 := 48) (pc' := 52) rfl (hb hby own_d1_48) (by decide) (by decide) k))) ?_
              refine own_retNH X40 hx hS37 e40 kz37 hZ hEL hsh CH37 hlk (ty := .boolean) hret (by simp) (hb hby own_d1_52) (by decide) (by decide) ?_
              exact ⟨by rw [own_tok, if_neg hc1, if_pos hc28, if_pos hc29, if_neg hc30, if_pos hc36, if_neg hc41] <;> rfl, N40⟩
          · refine own_via (T' := s₁) (g' := (mkF m 37 #[.val (.int x0)] [(.int (1 : Int32))])) (fun t k => XS.icmpNo X0.here hx rfl (hb hby own_d1_33) rfl (flt hc36).2.2.1 (XS.iconst X0.here hx rfl (hb hby own_d1_36) k)) ?_
            refine own_retNH X0 hx hS0 e0 kz0 hZ hEL hsh CH0 hlk (ty := .boolean) hret (by simp) (hb hby own_d1_37) (by decide) (by decide) ?_
            exact ⟨by rw [own_tok, if_neg hc1, if_pos hc28, if_pos hc29, if_neg hc30, if_neg hc36] <;> rfl, N0⟩
      · refine own_via (T' := s₁) (g' := (mkF m 21 #[.val (.int x0)] [(.int (122 : Int32)), (.int x0)])) (fun t k => XS.icmpNo X0.here hx rfl (hb hby own_d1_15) rfl (flt hc29).1 (XS.iloadN X0.here hx rfl (hb hby own_d1_18) rfl (XS.bipush X0.here hx rfl (hb hby own_d1_19) k))) ?_
        by_cases hc42 : (122 : Int32) < x0
        · refine own_via (T' := s₁) (g' := (mkF m 27 #[.val (.int x0)] [(.int (65 : Int32)), (.int x0)])) (fun t k => XS.icmpNo X0.here hx rfl (hb hby own_d1_21) rfl (tlt hc42).2.2.2 (XS.iloadN X0.here hx rfl (hb hby own_d1_24) rfl (XS.bipush X0.here hx rfl (hb hby own_d1_25) k))) ?_
          by_cases hc43 : x0 < (65 : Int32)
          · refine own_via (T' := s₁) (g' := (mkF m 38 #[.val (.int x0)] [])) (fun t k => XS.icmpYes X0.here hx rfl (pc0 := 27) (pc' := 38) rfl (hb hby own_d1_27) rfl (tlt hc43).1 (by decide) (by decide) k) ?_
            obtain ⟨a44, T44, h44, kk44, bb44, kb44, X44, e44, E44, hS44, kz44, hZ, hown, Ex44, Fc44, Fv44, Av44, -, -, C44, -, -, st44⟩ := ldcCH X0 hx hZ hown (hw _ (List.mem_of_getElem? (i := 4) rfl)) (own_strw hw) e0 hS0 kz0 hEL (List.mem_of_getElem? (i := 0) rfl) CH0.1 (vs := [(.int (33 : Int32)), (.int (35 : Int32)), (.int (36 : Int32)), (.int (37 : Int32)), (.int (38 : Int32)), (.int (39 : Int32)), (.int (42 : Int32)), (.int (43 : Int32)), (.int (45 : Int32)), (.int (46 : Int32)), (.int (94 : Int32)), (.int (95 : Int32)), (.int (96 : Int32)), (.int (124 : Int32)), (.int (126 : Int32))]) (z := 15) (own_txt102) (by decide) rfl (g := (mkF m 38 #[.val (.int x0)] [])) rfl (hb hby own_d1_38) (n := 60) (by decide) (by decide) (by decide) (by decide)
            have kz45 := Nat.le_trans kz0 E44.1
            have Ol46 := Ol.ext E44
            have CH44 := CH0.trans C44
            have V44 : own_Av Z h44 bb44 .byte [(.int (33 : Int32)), (.int (35 : Int32)), (.int (36 : Int32)), (.int (37 : Int32)), (.int (38 : Int32)), (.int (39 : Int32)), (.int (42 : Int32)), (.int (43 : Int32)), (.int (45 : Int32)), (.int (46 : Int32)), (.int (94 : Int32)), (.int (95 : Int32)), (.int (96 : Int32)), (.int (124 : Int32)), (.int (126 : Int32))] := own_Av.of_arv Av44 rfl
            have Z44 : n0 ≤ h44.size := Nat.le_trans Z0 E44.1
            refine own_via (T' := T44) (g' := (mkF m 40 #[.val (.int x0)] [(.ref a44)])) st44 ?_
            refine own_via (T' := T44) (g' := (mkF m 41 #[.val (.int x0)] [(.int x0), (.ref a44)])) (fun t k => XS.iloadN X44.here hx rfl (hb hby own_d1_40) rfl k) ?_
            obtain ⟨v47, T47, L47, X47, hQ47, st47⟩ := own_callVi (y := (⟨"java/lang/String", "indexOf", "(I)I"⟩ : MethodName)) (z := (⟨"java/lang/String", "indexOf", "(I)I"⟩ : MethodName)) (a := a44) (C := "java/lang/String") (argsL := [(.int x0)]) (rest := []) X44 hx hZ hown (hw _ (List.mem_of_getElem? (i := 12) rfl)) (hw _ (List.mem_of_getElem? (i := 13) rfl)) (notFace_of_selects (args := #[]) (mvT hZ (hw _ (List.mem_of_getElem? (i := 15) rfl)))) (hw _ (List.mem_of_getElem? (i := 15) rfl)) (hw _ (List.mem_of_getElem? (i := 14) rfl)) (hw _ (List.mem_of_getElem? (i := 5) rfl)) (hw _ (List.mem_of_getElem? (i := 16) rfl)) (by decide) Ex44 (own_mt2 l Z a0 hw a44 x0 bb44 cz h44 Ex44 Fc44 Fv44 V44 (S_cs.ext Ol46.2) hcz) e44 (W := 0) (by decide) (by decide) (g := (mkF m 41 #[.val (.int x0)] [(.int x0), (.ref a44)])) rfl (by rw [hml]; rfl) (lenOf own_pd7 rfl) rfl (by show 2 * 0 + _ ≤ _; exact Nat.le_of_eq rfl) (hb hby own_d1_41) (by decide) (by decide)
            obtain ⟨rfl, e47, rfl⟩ := hQ47
            have N47 := Fr.app N0 (Fr.nil n0)
            refine own_via (T' := T47) (g' := (mkF m 44 #[.val (.int x0)] [(.int (own_i1 x0 cz))])) st47 ?_
            by_cases hc48 : (own_i1 x0 cz) < (0 : Int32)
            · refine own_via (T' := T47) (g' := (mkF m 52 #[.val (.int x0)] [(.int (0 : Int32))])) (fun t k => XS.ifYes X47.here hx rfl (pc0 := 44) (pc' := 51) rfl (hb hby own_d1_44) rfl ((if0 _ _).trans (tlt hc48).1) (by decide) (by decide) (XS.iconst X47.here hx rfl (hb hby own_d1_51) k)) ?_
              refine own_retNH X47 hx hS44 e47 kz44 hZ hEL hsh CH44 hlk (ty := .boolean) hret (by simp) (hb hby own_d1_52) (by decide) (by decide) ?_
              exact ⟨by rw [own_tok, if_neg hc1, if_pos hc28, if_neg hc29, if_pos hc42, if_pos hc43, if_pos hc48] <;> rfl, N47⟩
            · refine own_via (T' := T47) (g' := (mkF m 52 #[.val (.int x0)] [(.int (1 : Int32))])) (fun t k => XS.ifNo X47.here hx rfl (hb hby own_d1_44) rfl ((if0 _ _).trans (flt hc48).1) (XS.iconst X47.here hx rfl (hb hby own_d1_47) (XS.goto X47.here hx rfl (pc0 := 48) (pc' := 52) rfl (hb hby own_d1_48) (by decide) (by decide) k))) ?_
              refine own_retNH X47 hx hS44 e47 kz44 hZ hEL hsh CH44 hlk (ty := .boolean) hret (by simp) (hb hby own_d1_52) (by decide) (by decide) ?_
              exact ⟨by rw [own_tok, if_neg hc1, if_pos hc28, if_neg hc29, if_pos hc42, if_pos hc43, if_neg hc48] <;> rfl, N47⟩
          · refine own_via (T' := s₁) (g' := (mkF m 33 #[.val (.int x0)] [(.int (90 : Int32)), (.int x0)])) (fun t k => XS.icmpNo X0.here hx rfl (hb hby own_d1_27) rfl (flt hc43).1 (XS.iloadN X0.here hx rfl (hb hby own_d1_30) rfl (XS.bipush X0.here hx rfl (hb hby own_d1_31) k))) ?_
            by_cases hc49 : (90 : Int32) < x0
            · refine own_via (T' := s₁) (g' := (mkF m 38 #[.val (.int x0)] [])) (fun t k => XS.icmpYes X0.here hx rfl (pc0 := 33) (pc' := 38) rfl (hb hby own_d1_33) rfl (tlt hc49).2.2.1 (by decide) (by decide) k) ?_
              obtain ⟨a50, T50, h50, kk50, bb50, kb50, X50, e50, E50, hS50, kz50, hZ, hown, Ex50, Fc50, Fv50, Av50, -, -, C50, -, -, st50⟩ := ldcCH X0 hx hZ hown (hw _ (List.mem_of_getElem? (i := 4) rfl)) (own_strw hw) e0 hS0 kz0 hEL (List.mem_of_getElem? (i := 0) rfl) CH0.1 (vs := [(.int (33 : Int32)), (.int (35 : Int32)), (.int (36 : Int32)), (.int (37 : Int32)), (.int (38 : Int32)), (.int (39 : Int32)), (.int (42 : Int32)), (.int (43 : Int32)), (.int (45 : Int32)), (.int (46 : Int32)), (.int (94 : Int32)), (.int (95 : Int32)), (.int (96 : Int32)), (.int (124 : Int32)), (.int (126 : Int32))]) (z := 15) (own_txt102) (by decide) rfl (g := (mkF m 38 #[.val (.int x0)] [])) rfl (hb hby own_d1_38) (n := 60) (by decide) (by decide) (by decide) (by decide)
              have kz51 := Nat.le_trans kz0 E50.1
              have Ol52 := Ol.ext E50
              have CH50 := CH0.trans C50
              have V50 : own_Av Z h50 bb50 .byte [(.int (33 : Int32)), (.int (35 : Int32)), (.int (36 : Int32)), (.int (37 : Int32)), (.int (38 : Int32)), (.int (39 : Int32)), (.int (42 : Int32)), (.int (43 : Int32)), (.int (45 : Int32)), (.int (46 : Int32)), (.int (94 : Int32)), (.int (95 : Int32)), (.int (96 : Int32)), (.int (124 : Int32)), (.int (126 : Int32))] := own_Av.of_arv Av50 rfl
              have Z50 : n0 ≤ h50.size := Nat.le_trans Z0 E50.1
              refine own_via (T' := T50) (g' := (mkF m 40 #[.val (.int x0)] [(.ref a50)])) st50 ?_
              refine own_via (T' := T50) (g' := (mkF m 41 #[.val (.int x0)] [(.int x0), (.ref a50)])) (fun t k => XS.iloadN X50.here hx rfl (hb hby own_d1_40) rfl k) ?_
              obtain ⟨v53, T53, L53, X53, hQ53, st53⟩ := own_callVi (y := (⟨"java/lang/String", "indexOf", "(I)I"⟩ : MethodName)) (z := (⟨"java/lang/String", "indexOf", "(I)I"⟩ : MethodName)) (a := a50) (C := "java/lang/String") (argsL := [(.int x0)]) (rest := []) X50 hx hZ hown (hw _ (List.mem_of_getElem? (i := 12) rfl)) (hw _ (List.mem_of_getElem? (i := 13) rfl)) (notFace_of_selects (args := #[]) (mvT hZ (hw _ (List.mem_of_getElem? (i := 15) rfl)))) (hw _ (List.mem_of_getElem? (i := 15) rfl)) (hw _ (List.mem_of_getElem? (i := 14) rfl)) (hw _ (List.mem_of_getElem? (i := 5) rfl)) (hw _ (List.mem_of_getElem? (i := 16) rfl)) (by decide) Ex50 (own_mt2 l Z a0 hw a50 x0 bb50 cz h50 Ex50 Fc50 Fv50 V50 (S_cs.ext Ol52.2) hcz) e50 (W := 0) (by decide) (by decide) (g := (mkF m 41 #[.val (.int x0)] [(.int x0), (.ref a50)])) rfl (by rw [hml]; rfl) (lenOf own_pd7 rfl) rfl (by show 2 * 0 + _ ≤ _; exact Nat.le_of_eq rfl) (hb hby own_d1_41) (by decide) (by decide)
              obtain ⟨rfl, e53, rfl⟩ := hQ53
              have N53 := Fr.app N0 (Fr.nil n0)
              refine own_via (T' := T53) (g' := (mkF m 44 #[.val (.int x0)] [(.int (own_i1 x0 cz))])) st53 ?_
              by_cases hc54 : (own_i1 x0 cz) < (0 : Int32)
              · refine own_via (T' := T53) (g' := (mkF m 52 #[.val (.int x0)] [(.int (0 : Int32))])) (fun t k => XS.ifYes X53.here hx rfl (pc0 := 44) (pc' := 51) rfl (hb hby own_d1_44) rfl ((if0 _ _).trans (tlt hc54).1) (by decide) (by decide) (XS.iconst X53.here hx rfl (hb hby own_d1_51) k)) ?_
                refine own_retNH X53 hx hS50 e53 kz50 hZ hEL hsh CH50 hlk (ty := .boolean) hret (by simp) (hb hby own_d1_52) (by decide) (by decide) ?_
                exact ⟨by rw [own_tok, if_neg hc1, if_pos hc28, if_neg hc29, if_pos hc42, if_neg hc43, if_pos hc49, if_pos hc54] <;> rfl, N53⟩
              · refine own_via (T' := T53) (g' := (mkF m 52 #[.val (.int x0)] [(.int (1 : Int32))])) (fun t k => XS.ifNo X53.here hx rfl (hb hby own_d1_44) rfl ((if0 _ _).trans (flt hc54).1) (XS.iconst X53.here hx rfl (hb hby own_d1_47) (XS.goto X53.here hx rfl (pc0 := 48) (pc' := 52) rfl (hb hby own_d1_48) (by decide) (by decide) k))) ?_
                refine own_retNH X53 hx hS50 e53 kz50 hZ hEL hsh CH50 hlk (ty := .boolean) hret (by simp) (hb hby own_d1_52) (by decide) (by decide) ?_
                exact ⟨by rw [own_tok, if_neg hc1, if_pos hc28, if_neg hc29, if_pos hc42, if_neg hc43, if_pos hc49, if_neg hc54] <;> rfl, N53⟩
            · refine own_via (T' := s₁) (g' := (mkF m 37 #[.val (.int x0)] [(.int (1 : Int32))])) (fun t k => XS.icmpNo X0.here hx rfl (hb hby own_d1_33) rfl (flt hc49).2.2.1 (XS.iconst X0.here hx rfl (hb hby own_d1_36) k)) ?_
              refine own_retNH X0 hx hS0 e0 kz0 hZ hEL hsh CH0 hlk (ty := .boolean) hret (by simp) (hb hby own_d1_37) (by decide) (by decide) ?_
              exact ⟨by rw [own_tok, if_neg hc1, if_pos hc28, if_neg hc29, if_pos hc42, if_neg hc43, if_neg hc49] <;> rfl, N0⟩
        · refine own_via (T' := s₁) (g' := (mkF m 37 #[.val (.int x0)] [(.int (1 : Int32))])) (fun t k => XS.icmpYes X0.here hx rfl (pc0 := 21) (pc' := 36) rfl (hb hby own_d1_21) rfl (flt hc42).2.2.2 (by decide) (by decide) (XS.iconst X0.here hx rfl (hb hby own_d1_36) k)) ?_
          refine own_retNH X0 hx hS0 e0 kz0 hZ hEL hsh CH0 hlk (ty := .boolean) hret (by simp) (hb hby own_d1_37) (by decide) (by decide) ?_
          exact ⟨by rw [own_tok, if_neg hc1, if_pos hc28, if_neg hc29, if_neg hc42] <;> rfl, N0⟩
    · refine own_via (T' := s₁) (g' := (mkF m 37 #[.val (.int x0)] [(.int (1 : Int32))])) (fun t k => XS.icmpYes X0.here hx rfl (pc0 := 9) (pc' := 36) rfl (hb hby own_d1_9) rfl (flt hc28).2.2.2 (by decide) (by decide) (XS.iconst X0.here hx rfl (hb hby own_d1_36) k)) ?_
      refine own_retNH X0 hx hS0 e0 kz0 hZ hEL hsh CH0 hlk (ty := .boolean) hret (by simp) (hb hby own_d1_37) (by decide) (by decide) ?_
      exact ⟨by rw [own_tok, if_neg hc1, if_neg hc28] <;> rfl, N0⟩
def own_f0 (x0 : Int32) (x1 : Int32) (cz : Int32) : Int32 := (if (x1 &&& (1 : Int32)) = (0 : Int32) then (if (own_tok ((x0 &&& (65535 : Int32)).toUInt32.toUInt16.toUInt32.toInt32) cz) = (own_ref ((x0 &&& (65535 : Int32)).toUInt32.toUInt16.toUInt32.toInt32)) then (1 : Int32) else (0 : Int32)) else (if (own_tok ((x0 &&& (127 : Int32)).toUInt32.toUInt16.toUInt32.toInt32) cz) = (own_ref ((x0 &&& (127 : Int32)).toUInt32.toUInt16.toUInt32.toInt32)) then (1 : Int32) else (0 : Int32)))
set_option maxHeartbeats 40000000 in
theorem own_mt0_ef (m : MethodId) (x0 : Int32) (x1 : Int32) : entryFrame m #[(.int x0), (.int x1)] maxLocals = mkF m 0 #[.val (.int x0), .val (.int x1), .unset] [] := by first | (simp [entryFrame, mkF, argsToLocals, Value.category, maxLocals]; done) | rfl
set_option maxRecDepth 65536 in
set_option maxHeartbeats 40000000 in
theorem own_mt0 (l : Launch) (Z : State) (a0 : Array Value) (hw : ∀ d ∈ tables_1, d.before a0 Z = true) (x0 : Int32) (x1 : Int32) (cz : Int32) (h0 : Heap) (n0 : Nat) (hh0 : Z.heap = h0) (hn0 : n0 = Z.heap.size) (S_cs : Sta Z Z.heap "java/lang/String" "COMPACT_STRINGS" "Z" (.int cz)) (Ol : Old Z n0 h0) (hcz : ¬ cz = 0) (hEL : EW Z a0 consts_1) (HC : CHv Z consts_1 Z.vm h0) :
    own_MetW l Z x code maxLocals ret room_1 #[(.int x0), (.int x1)] (fun v h L => v = some (.int (own_f0 x0 x1 cz)) ∧ Fr n0 L) := by
  refine own_introW (plainFor_of_name own_pn0) ?_
  intro p e m below meth c s₁ hx hby hml hown hnm hret hlk X0 e0'
  have e0 : s₁.heap = h0 := e0'.trans hh0
  have hZ : Z.Warmed39 Z.vm := State.Warmed39.refl Z
  have hS0 : Z.Since Z.vm 0 := (State.WarmedH.refl Z).since 0
  have kz0 : 0 ≤ h0.size := Nat.zero_le _
  have Z0 : n0 ≤ h0.size := by rw [hn0, hh0]; exact Nat.le_refl _
  have I0 : IB Z Z.vm [] := IB.start
  refine own_cast (own_mt0_ef m x0 x1) ?_
  have N0 := Fr.nil n0
  refine own_via (T' := s₁) (g' := (mkF m 3 #[.val (.int x0), .val (.int x1), .unset] [(.int (x1 &&& (1 : Int32)))])) (fun t k => XS.iloadN X0.here hx rfl (hb hby at_0) rfl (XS.iconst X0.here hx rfl (hb hby at_1) (XS.iand X0.here hx rfl (hb hby at_2) rfl k))) ?_
  by_cases hc1 : (x1 &&& (1 : Int32)) = (0 : Int32)
  · refine own_via (T' := s₁) (g' := (mkF m 16 #[.val (.int x0), .val (.int x1), .unset] [(.int x0)])) (fun t k => XS.ifYes X0.here hx rfl (pc0 := 3) (pc' := 15) rfl (hb hby at_3) rfl ((if0 _ _).trans (teq hc1).1) (by decide) (by decide) (XS.iloadN X0.here hx rfl (hb hby at_15) rfl k)) ?_
    refine own_via (T' := s₁) (g' := (mkF m 18 #[.val (.int x0), .val (.int x1), .unset] [(.int (65535 : Int32)), (.int x0)])) (X0.ldcInt hx hown (mvT hZ (hw _ (List.mem_of_getElem? (i := 64) rfl))) (g := (mkF m 16 #[.val (.int x0), .val (.int x1), .unset] [(.int x0)])) rfl (hb hby at_16)) ?_
    refine own_via (T' := s₁) (g' := (mkF m 22 #[.val (.int x0), .val (.int x1), .val (.int ((x0 &&& (65535 : Int32)).toUInt32.toUInt16.toUInt32.toInt32))] [(.int ((x0 &&& (65535 : Int32)).toUInt32.toUInt16.toUInt32.toInt32))])) (fun t k => XS.iand X0.here hx rfl (hb hby at_18) rfl (XS.i2c X0.here hx rfl (hb hby at_19) rfl (XS.istoreN X0.here hx rfl (hb hby at_20) rfl (l' := #[.val (.int x0), .val (.int x1), .val (.int ((x0 &&& (65535 : Int32)).toUInt32.toUInt16.toUInt32.toInt32))]) rfl (XS.iloadN X0.here hx rfl (hb hby at_21) rfl k)))) ?_
    obtain ⟨v2, T2, L2, X2, hQ2, hS2, hZ, hown, st2⟩ := own_callStH (y := (⟨"com/example/recurve/recurve/http/HttpFields", "isTokenChar", "(C)Z"⟩ : MethodName)) (argsL := [(.int ((x0 &&& (65535 : Int32)).toUInt32.toUInt16.toUInt32.toInt32))]) (rest := []) X0 hx hZ hown (hw _ (List.mem_of_getElem? (i := 0) rfl)) (hw _ (List.mem_of_getElem? (i := 1) rfl)) (hw _ (List.mem_of_getElem? (i := 2) rfl)) (hw _ (List.mem_of_getElem? (i := 3) rfl)) (by decide) hEL HC (own_mtt l Z a0 hw ((x0 &&& (65535 : Int32)).toUInt32.toUInt16.toUInt32.toInt32) cz h0 n0 Z0 S_cs Ol hcz hEL) e0 hS0 kz0 (W := 0) (by decide) (by decide) (g := (mkF m 22 #[.val (.int x0), .val (.int x1), .val (.int ((x0 &&& (65535 : Int32)).toUInt32.toUInt16.toUInt32.toInt32))] [(.int ((x0 &&& (65535 : Int32)).toUInt32.toUInt16.toUInt32.toInt32))])) rfl (by rw [hml]; rfl) (lenOf own_pd0 rfl) rfl (by show 2 * 0 + _ ≤ _; exact Nat.le_of_eq rfl) (hb hby at_22) (by decide) (by decide)
    obtain ⟨rfl, Nq2⟩ := hQ2
    have N2 := Fr.app N0 Nq2
    have kz2 : T2.heap.size ≤ T2.heap.size := Nat.le_refl _
    refine own_via (T' := T2) (g' := (mkF m 25 #[.val (.int x0), .val (.int x1), .val (.int ((x0 &&& (65535 : Int32)).toUInt32.toUInt16.toUInt32.toInt32))] [(.int (own_tok ((x0 &&& (65535 : Int32)).toUInt32.toUInt16.toUInt32.toInt32) cz))])) st2 ?_
    refine own_via (T' := T2) (g' := (mkF m 26 #[.val (.int x0), .val (.int x1), .val (.int ((x0 &&& (65535 : Int32)).toUInt32.toUInt16.toUInt32.toInt32))] [(.int ((x0 &&& (65535 : Int32)).toUInt32.toUInt16.toUInt32.toInt32)), (.int (own_tok ((x0 &&& (65535 : Int32)).toUInt32.toUInt16.toUInt32.toInt32) cz))])) (fun t k => XS.iloadN X2.here hx rfl (hb hby at_25) rfl k) ?_
    obtain ⟨v3, T3, L3, X3, hQ3, st3⟩ := own_callSt (y := (⟨"com/example/recurve/recurve/http/HttpFieldsIsTokenCharPinLaw", "reference", "(C)Z"⟩ : MethodName)) (argsL := [(.int ((x0 &&& (65535 : Int32)).toUInt32.toUInt16.toUInt32.toInt32))]) (rest := [(.int (own_tok ((x0 &&& (65535 : Int32)).toUInt32.toUInt16.toUInt32.toInt32) cz))]) X2 hx hZ hown (hw _ (List.mem_of_getElem? (i := 57) rfl)) (hw _ (List.mem_of_getElem? (i := 58) rfl)) (hw _ (List.mem_of_getElem? (i := 59) rfl)) (hw _ (List.mem_of_getElem? (i := 60) rfl)) (by decide) (own_mt12 l Z a0 hw ((x0 &&& (65535 : Int32)).toUInt32.toUInt16.toUInt32.toInt32) T2.heap) rfl (W := 1) (by decide) (by decide) (g := (mkF m 26 #[.val (.int x0), .val (.int x1), .val (.int ((x0 &&& (65535 : Int32)).toUInt32.toUInt16.toUInt32.toInt32))] [(.int ((x0 &&& (65535 : Int32)).toUInt32.toUInt16.toUInt32.toInt32)), (.int (own_tok ((x0 &&& (65535 : Int32)).toUInt32.toUInt16.toUInt32.toInt32) cz))])) rfl (by rw [hml]; rfl) (lenOf own_pd0 rfl) rfl (by show 2 * 0 + _ ≤ _; exact Nat.le_of_eq rfl) (hb hby at_26) (by decide) (by decide)
    obtain ⟨rfl, e3, rfl⟩ := hQ3
    have N3 := Fr.app N2 (Fr.nil n0)
    refine own_via (T' := T3) (g' := (mkF m 29 #[.val (.int x0), .val (.int x1), .val (.int ((x0 &&& (65535 : Int32)).toUInt32.toUInt16.toUInt32.toInt32))] [(.int (own_ref ((x0 &&& (65535 : Int32)).toUInt32.toUInt16.toUInt32.toInt32))), (.int (own_tok ((x0 &&& (65535 : Int32)).toUInt32.toUInt16.toUInt32.toInt32) cz))])) st3 ?_
    by_cases hc4 : (own_tok ((x0 &&& (65535 : Int32)).toUInt32.toUInt16.toUInt32.toInt32) cz) = (own_ref ((x0 &&& (65535 : Int32)).toUInt32.toUInt16.toUInt32.toInt32))
    · refine own_via (T' := T3) (g' := (mkF m 37 #[.val (.int x0), .val (.int x1), .val (.int ((x0 &&& (65535 : Int32)).toUInt32.toUInt16.toUInt32.toInt32))] [(.int (1 : Int32))])) (fun t k => XS.icmpNo X3.here hx rfl (hb hby at_29) rfl (teq hc4).2 (XS.iconst X3.here hx rfl (hb hby at_32) (XS.goto X3.here hx rfl (pc0 := 33) (pc' := 37) rfl (hb hby at_33) (by decide) (by decide) k))) ?_
      refine own_retNW X3 hx hS2 e3 kz2 hlk (ty := .boolean) hret (by simp) (hb hby at_37) (by decide) (by decide) ?_
      exact ⟨by rw [own_f0, if_pos hc1, if_pos hc4] <;> rfl, N3⟩
    · refine own_via (T' := T3) (g' := (mkF m 37 #[.val (.int x0), .val (.int x1), .val (.int ((x0 &&& (65535 : Int32)).toUInt32.toUInt16.toUInt32.toInt32))] [(.int (0 : Int32))])) (fun t k => XS.icmpYes X3.here hx rfl (pc0 := 29) (pc' := 36) rfl (hb hby at_29) rfl (feq hc4).2 (by decide) (by decide) (XS.iconst X3.here hx rfl (hb hby at_36) k)) ?_
      refine own_retNW X3 hx hS2 e3 kz2 hlk (ty := .boolean) hret (by simp) (hb hby at_37) (by decide) (by decide) ?_
      exact ⟨by rw [own_f0, if_pos hc1, if_neg hc4] <;> rfl, N3⟩
  · refine own_via (T' := s₁) (g' := (mkF m 22 #[.val (.int x0), .val (.int x1), .val (.int ((x0 &&& (127 : Int32)).toUInt32.toUInt16.toUInt32.toInt32))] [(.int ((x0 &&& (127 : Int32)).toUInt32.toUInt16.toUInt32.toInt32))])) (fun t k => XS.ifNo X0.here hx rfl (hb hby at_3) rfl ((if0 _ _).trans (feq hc1).1) (XS.iloadN X0.here hx rfl (hb hby at_6) rfl (XS.bipush X0.here hx rfl (hb hby at_7) (XS.iand X0.here hx rfl (hb hby at_9) rfl (XS.i2c X0.here hx rfl (hb hby at_10) rfl (XS.istoreN X0.here hx rfl (hb hby at_11) rfl (l' := #[.val (.int x0), .val (.int x1), .val (.int ((x0 &&& (127 : Int32)).toUInt32.toUInt16.toUInt32.toInt32))]) rfl (XS.goto X0.here hx rfl (pc0 := 12) (pc' := 21) rfl (hb hby at_12) (by decide) (by decide) (XS.iloadN X0.here hx rfl (hb hby at_21) rfl k)))))))) ?_
    obtain ⟨v5, T5, L5, X5, hQ5, hS5, hZ, hown, st5⟩ := own_callStH (y := (⟨"com/example/recurve/recurve/http/HttpFields", "isTokenChar", "(C)Z"⟩ : MethodName)) (argsL := [(.int ((x0 &&& (127 : Int32)).toUInt32.toUInt16.toUInt32.toInt32))]) (rest := []) X0 hx hZ hown (hw _ (List.mem_of_getElem? (i := 0) rfl)) (hw _ (List.mem_of_getElem? (i := 1) rfl)) (hw _ (List.mem_of_getElem? (i := 2) rfl)) (hw _ (List.mem_of_getElem? (i := 3) rfl)) (by decide) hEL HC (own_mtt l Z a0 hw ((x0 &&& (127 : Int32)).toUInt32.toUInt16.toUInt32.toInt32) cz h0 n0 Z0 S_cs Ol hcz hEL) e0 hS0 kz0 (W := 0) (by decide) (by decide) (g := (mkF m 22 #[.val (.int x0), .val (.int x1), .val (.int ((x0 &&& (127 : Int32)).toUInt32.toUInt16.toUInt32.toInt32))] [(.int ((x0 &&& (127 : Int32)).toUInt32.toUInt16.toUInt32.toInt32))])) rfl (by rw [hml]; rfl) (lenOf own_pd0 rfl) rfl (by show 2 * 0 + _ ≤ _; exact Nat.le_of_eq rfl) (hb hby at_22) (by decide) (by decide)
    obtain ⟨rfl, Nq5⟩ := hQ5
    have N5 := Fr.app N0 Nq5
    have kz5 : T5.heap.size ≤ T5.heap.size := Nat.le_refl _
    refine own_via (T' := T5) (g' := (mkF m 25 #[.val (.int x0), .val (.int x1), .val (.int ((x0 &&& (127 : Int32)).toUInt32.toUInt16.toUInt32.toInt32))] [(.int (own_tok ((x0 &&& (127 : Int32)).toUInt32.toUInt16.toUInt32.toInt32) cz))])) st5 ?_
    refine own_via (T' := T5) (g' := (mkF m 26 #[.val (.int x0), .val (.int x1), .val (.int ((x0 &&& (127 : Int32)).toUInt32.toUInt16.toUInt32.toInt32))] [(.int ((x0 &&& (127 : Int32)).toUInt32.toUInt16.toUInt32.toInt32)), (.int (own_tok ((x0 &&& (127 : Int32)).toUInt32.toUInt16.toUInt32.toInt32) cz))])) (fun t k => XS.iloadN X5.here hx rfl (hb hby at_25) rfl k) ?_
    obtain ⟨v6, T6, L6, X6, hQ6, st6⟩ := own_callSt (y := (⟨"com/example/recurve/recurve/http/HttpFieldsIsTokenCharPinLaw", "reference", "(C)Z"⟩ : MethodName)) (argsL := [(.int ((x0 &&& (127 : Int32)).toUInt32.toUInt16.toUInt32.toInt32))]) (rest := [(.int (own_tok ((x0 &&& (127 : Int32)).toUInt32.toUInt16.toUInt32.toInt32) cz))]) X5 hx hZ hown (hw _ (List.mem_of_getElem? (i := 57) rfl)) (hw _ (List.mem_of_getElem? (i := 58) rfl)) (hw _ (List.mem_of_getElem? (i := 59) rfl)) (hw _ (List.mem_of_getElem? (i := 60) rfl)) (by decide) (own_mt12 l Z a0 hw ((x0 &&& (127 : Int32)).toUInt32.toUInt16.toUInt32.toInt32) T5.heap) rfl (W := 1) (by decide) (by decide) (g := (mkF m 26 #[.val (.int x0), .val (.int x1), .val (.int ((x0 &&& (127 : Int32)).toUInt32.toUInt16.toUInt32.toInt32))] [(.int ((x0 &&& (127 : Int32)).toUInt32.toUInt16.toUInt32.toInt32)), (.int (own_tok ((x0 &&& (127 : Int32)).toUInt32.toUInt16.toUInt32.toInt32) cz))])) rfl (by rw [hml]; rfl) (lenOf own_pd0 rfl) rfl (by show 2 * 0 + _ ≤ _; exact Nat.le_of_eq rfl) (hb hby at_26) (by decide) (by decide)
    obtain ⟨rfl, e6, rfl⟩ := hQ6
    have N6 := Fr.app N5 (Fr.nil n0)
    refine own_via (T' := T6) (g' := (mkF m 29 #[.val (.int x0), .val (.int x1), .val (.int ((x0 &&& (127 : Int32)).toUInt32.toUInt16.toUInt32.toInt32))] [(.int (own_ref ((x0 &&& (127 : Int32)).toUInt32.toUInt16.toUInt32.toInt32))), (.int (own_tok ((x0 &&& (127 : Int32)).toUInt32.toUInt16.toUInt32.toInt32) cz))])) st6 ?_
    by_cases hc7 : (own_tok ((x0 &&& (127 : Int32)).toUInt32.toUInt16.toUInt32.toInt32) cz) = (own_ref ((x0 &&& (127 : Int32)).toUInt32.toUInt16.toUInt32.toInt32))
    · refine own_via (T' := T6) (g' := (mkF m 37 #[.val (.int x0), .val (.int x1), .val (.int ((x0 &&& (127 : Int32)).toUInt32.toUInt16.toUInt32.toInt32))] [(.int (1 : Int32))])) (fun t k => XS.icmpNo X6.here hx rfl (hb hby at_29) rfl (teq hc7).2 (XS.iconst X6.here hx rfl (hb hby at_32) (XS.goto X6.here hx rfl (pc0 := 33) (pc' := 37) rfl (hb hby at_33) (by decide) (by decide) k))) ?_
      refine own_retNW X6 hx hS5 e6 kz5 hlk (ty := .boolean) hret (by simp) (hb hby at_37) (by decide) (by decide) ?_
      exact ⟨by rw [own_f0, if_neg hc1, if_pos hc7] <;> rfl, N6⟩
    · refine own_via (T' := T6) (g' := (mkF m 37 #[.val (.int x0), .val (.int x1), .val (.int ((x0 &&& (127 : Int32)).toUInt32.toUInt16.toUInt32.toInt32))] [(.int (0 : Int32))])) (fun t k => XS.icmpYes X6.here hx rfl (pc0 := 29) (pc' := 36) rfl (hb hby at_29) rfl (feq hc7).2 (by decide) (by decide) (XS.iconst X6.here hx rfl (hb hby at_36) k)) ?_
      refine own_retNW X6 hx hS5 e6 kz5 hlk (ty := .boolean) hret (by simp) (hb hby at_37) (by decide) (by decide) ?_
      exact ⟨by rw [own_f0, if_neg hc1, if_neg hc7] <;> rfl, N6⟩
theorem own_fin : ∀ n : Fin 256, own_tok (Int32.ofNat n.val) 0 = own_ref (Int32.ofNat n.val) := by decide +kernel
theorem own_tokcz (x cz : Int32) : own_tok x cz = own_tok x 0 := rfl
theorem own_char (c cz : Int32) (h0 : 0 ≤ c.toInt) : own_tok c cz = own_ref c := by
  rw [own_tokcz]
  by_cases h : c < 256
  · have k1 : (256 : Int32).toInt = 256 := by decide
    rw [Int32.lt_iff_toInt_lt] at h
    have e : (c.toNatClampNeg : Int) = c.toInt := by simp only [Int32.toNatClampNeg]; omega
    have e2 : c = Int32.ofNat c.toNatClampNeg := by
      apply Int32.toInt_inj.mp
      rw [Int32.toInt_ofNat_of_lt (by omega), e]
    rw [e2]; exact own_fin ⟨c.toNatClampNeg, by omega⟩
  · have g : ∀ k : Int32, k < 256 → ¬ c < k ∧ k < c ∧ ¬ c = k := fun k q => by
      rw [← Int32.toInt_inj]
      rw [Int32.lt_iff_toInt_lt] at h q
      simp only [Int32.lt_iff_toInt_lt]
      omega
    have g0 : ¬ c < 0 := by
      have k0 : (0 : Int32).toInt = 0 := by decide
      rw [Int32.lt_iff_toInt_lt]; omega
    have t1 : (-1 : Int32) < 0 := by decide
    have z : own_i1 c 0 = -1 := by
      unfold own_i1 own_i2 own_li own_ce
      simp only [g0, g 255 (by decide), if_true, if_false]
    unfold own_tok own_ref
    simp only [z, t1, g 48 (by decide), g 57 (by decide), g 97 (by decide), g 122 (by decide), g 65 (by decide), g 90 (by decide), g 33 (by decide), g 126 (by decide), if_true, if_false]
theorem own_law (x0 x1 cz : Int32) : own_f0 x0 x1 cz = 1 := by
  have a := own_char _ cz (c_i2c (x0 &&& (127 : Int32))).2.1
  have b := own_char _ cz (c_i2c (x0 &&& (65535 : Int32))).2.1
  unfold own_f0
  simp only [a, b, if_true, ite_self]
set_option maxRecDepth 65536 in
set_option maxHeartbeats 40000000 in
theorem own_comes {Post : Tables → Env → Array Value → State → Outcome → State → Prop} (hpost : ∀ tb e args s v u, (limb_1_1.after args s (.returned v) u = true ∧ limb_1_2.after args s (.returned v) u = true ∧ True) → FramedW s (.returned v) u (Jvm.fieldLocs frame_1_writes args s ++ Jvm.arrayLocs frame_1_arrays args s ++ Jvm.staticLocs frame_1_statics s) 8 1088 → Post tb e args s (.returned v) u) :
    ArmFor flags0 classFile x code maxLocals ret World_1 tables_1 room_1 Calls_1 rest_1 Pre_1 Post := by
  intro l hfl _ _ p e ha hc hk s m args below hf hA hF happ hP
  obtain ⟨hcalls, hrest, hpre⟩ := hP
  obtain ⟨-, -, -, hnamed, -, -, -, hat⟩ := (Spec.applies_iff hf).mp happ
  obtain ⟨hg, hn⟩ := and_e (Cond.before_iff.mp (show (Jvm.Cond.and given_1 narrow_1).before args s = true from hpre))
  obtain ⟨g1, g2⟩ := and_e hg
  obtain ⟨g3, g4⟩ := and_e g2
  obtain ⟨w0, w1, rfl⟩ : ∃ w0 w1 : Value, args = #[w0, w1] := by
    have hs : args.size = 2 := by simpa [Cond.value, given_1] using g1
    obtain ⟨L⟩ := args
    match L, hs with
    | [w0, w1], _ => exact ⟨w0, w1, rfl⟩
  have hw := fun d (hd : d ∈ tables_1) => atoms_spec (ws := Jvm.Cond.code x code maxLocals ret :: tables_1) hat d (List.mem_cons_of_mem _ hd)
  have hfit : Fit s := fun {y c} hc i hi => by
    obtain ⟨ha, rfl⟩ := Array.getElem?_eq_some_iff.mp hc
    have q := List.all_eq_true.mp ((Array.all_eq_true_iff_forall_mem.mp hF) _ (Array.getElem_mem ha)) i (List.mem_range.mpr hi)
    simpa [Array.getElem?_eq_getElem hi] using q
  obtain ⟨i0, ei0⟩ := is_v g3
  obtain rfl : w0 = (.int i0) := Option.some.inj ei0
  obtain ⟨i1, ei1⟩ := is_v g4
  obtain rfl : w1 = (.int i1) := Option.some.inj ei1
  obtain ⟨hsets, hown0⟩ := atoms_of _ (rest_1_c_eq ▸ (show rest_1_c.before _ s = true from hrest))
  obtain ⟨cz, ecz⟩ := is_v (Cond.before_iff.mp (hsets _ (List.mem_of_getElem? (i := 1) rfl)))
  have hcz : ¬ cz = 0 := by
    have q := not_v (Cond.before_iff.mp (hsets _ (List.mem_of_getElem? (i := 2) rfl)))
    rw [Cond.eq_ints ecz rfl] at q
    intro z; simp [z] at q
  have S_cs := Sta.start ecz (Or.inl (hsets _ (List.mem_of_getElem? (i := 0) rfl)))
  have hcw : Jvm.Lit.compactW.before _ s = true := hsets _ (List.mem_of_getElem? (i := 2) rfl)
  have hch : ∀ p ∈ consts_1, Jvm.Lit.constHeld s p.1 p.2 := fun p hp => hcalls.1 p hp
  have hEL : EW s _ consts_1 := EW.cons (hw _ (List.mem_of_getElem? (i := 4) rfl)) own_txt102.1 EW.nil
  have HC := CHv.start hEL hch hcw (own_strw hw _ (by simp [Bundle.stringAtoms])) (own_strw hw _ (by simp [Bundle.stringAtoms, Bundle.sN]))
  obtain ⟨n, o, h1, h2, h3, _, L, rfl, ⟨hval, N⟩, hq⟩ := own_mt0 l s _ hw i0 i1 cz s.heap s.heap.size rfl rfl S_cs (Old.start s) hcz hEL HC tables_1 p e ha hc hk s m _ below hf ((Spec.applies_iff_loose hf).mp happ).1 ⟨rfl, rfl⟩ trivial
  rw [own_law i0 i1 cz] at hval
  subst hval
  refine ⟨n, _, h1, h2, h3, hpost _ _ _ _ _ _ ⟨Cond.after_iff.mpr rfl, Cond.after_iff.mpr (eq_i res_at (Term.int_eval (1)) rfl), trivial⟩ ⟨hq.1, hq.2.1, hq.2.2.1, (hq.2.2.2.sift fun y hy => Or.inr (N y hy)).mono (by decide) (by decide)⟩⟩
theorem main_1_1 : Claimed_1_1 := own_comes fun _ _ _ _ _ _ h hF => ⟨h.1, hF⟩
theorem main_1_2 : Claimed_1_2 := own_comes fun _ _ _ _ _ _ h hF => ⟨h.2.1, hF⟩
end Jvm.Pilot.@@N@@
namespace Jvm.Pilot.@@N@@
open Jvm Jvm.ClassFile Sem Op Lib Jvm.Free Jvm.Stand Jvm.Pilot.@@N@@.Jvm.D
/-! MADE BY PROGRAM (witnessworld.py) out of the Statement's table words and the real class files: 18 classes; the members and pool entries that the words name. The judged class is class 1, her method 3. -/
namespace start1
open Jvm.ClassFile
def u (s : String) : CpInfo := .utf8 (stringToUtf16 s)
/-- a pool by its gaps: so many unusable entries, then the entry; so many at the end -/
def gap : Nat → List CpInfo → List CpInfo
  | 0, r => r
  | n + 1, r => .unusable :: gap n r
def poolList (es : List (Nat × CpInfo)) (last : Nat) : List CpInfo := es.foldr (fun e r => gap e.1 (e.2 :: r)) (gap last [])
def pool (es : List (Nat × CpInfo)) (last : Nat) : Array CpInfo := ⟨poolList es last⟩
def fileOf (pool : Array CpInfo) (this : Nat) (attrs : Array Attribute := #[]) (ms : Array MethodInfo := #[]) (fl : Nat := 33) (sup : Nat := 0) (ifs : Array Nat := #[]) (fds : Array FieldInfo := #[]) : ClassFile where
  minorVersion := 0
  majorVersion := 65
  constantPool := pool
  accessFlags := fl
  thisClass := this
  superClass := sup
  interfaces := ifs
  fields := fds
  methods := ms
  attributes := attrs
def plain (name : String) (sup : Option ClassId) : Class where
  name := name
  kind := .ordinary
  loader := none
  accessFlags := 33
  super := sup
  interfaces := #[]
  cf := none
  fields := #[]
  methods := #[]
  instanceTypes := #[]
  staticTypes := #[]
  resolved := #[]
  callSites := []
  init := .initialized
  statics := none
  mirror := none

def pool0 : Array CpInfo := pool [(5, u "<init>"), (0, u "()V"), (1, .class_ 10), (1, u "java/lang/Object")] 113

def k0m0 : Method := { name := "<init>", desc := "()V", sig := { parameters := [], returnType := none }, accessFlags := 1, code := none }
/-- java/lang/Object -/
def k0 : Class := { plain "java/lang/Object" none with
  accessFlags := 33
  interfaces := #[]
  cf := some (fileOf pool0 8 #[] #[{ accessFlags := 1, nameIndex := 5, descriptorIndex := 6, attributes := #[] }] 33 0 #[] #[])
  fields := #[]
  methods := #[k0m0]
  instanceTypes := #[]
  staticTypes := #[]
  resolved := Array.replicate 124 none
  statics := none }

def pool1 : Array CpInfo := pool [(2, .class_ 4), (1, u "java/lang/Object"), (0, u "<init>"), (0, u "()V"), (0, .methodref 8 9), (0, .class_ 10), (0, .nameAndType 11 12), (0, u "com/example/recurve/recurve/http/HttpFieldsIsTokenCharPinLaw"), (0, u "isDelimiter"), (0, u "(C)Z"), (0, .integer 65535), (0, .methodref 15 16), (0, .class_ 17), (0, .nameAndType 18 12), (0, u "com/example/recurve/recurve/http/HttpFields"), (0, u "isTokenChar"), (0, .methodref 8 20), (0, .nameAndType 21 12), (0, u "reference"), (3, u "law"), (0, u "(II)Z")] 2

def k1m0 : Method := { name := "<init>", desc := "()V", sig := { parameters := [], returnType := none }, accessFlags := 2, code := none }
def k1c1 : Code := { maxStack := 2, maxLocals := 1, code := method_2_code, exceptionTable := #[], attributes := #[] }
def k1m1 : Method := { name := "isDelimiter", desc := "(C)Z", sig := { parameters := [.char], returnType := some .boolean }, accessFlags := 10, code := some k1c1 }
def k1c2 : Code := { maxStack := 2, maxLocals := 1, code := method_3_code, exceptionTable := #[], attributes := #[] }
def k1m2 : Method := { name := "reference", desc := "(C)Z", sig := { parameters := [.char], returnType := some .boolean }, accessFlags := 10, code := some k1c2 }
def k1c3 : Code := { maxStack := 2, maxLocals := 3, code := code, exceptionTable := #[], attributes := #[] }
def k1m3 : Method := { name := "law", desc := "(II)Z", sig := { parameters := [.int, .int], returnType := some .boolean }, accessFlags := 9, code := some k1c3 }
/-- com/example/recurve/recurve/http/HttpFieldsIsTokenCharPinLaw -/
def k1 : Class := { plain "com/example/recurve/recurve/http/HttpFieldsIsTokenCharPinLaw" (some 0) with
  accessFlags := 49
  interfaces := #[]
  cf := some (fileOf pool1 8 #[] #[{ accessFlags := 2, nameIndex := 5, descriptorIndex := 6, attributes := #[] }, { accessFlags := 10, nameIndex := 11, descriptorIndex := 12, attributes := #[] }, { accessFlags := 10, nameIndex := 21, descriptorIndex := 12, attributes := #[] }, { accessFlags := 9, nameIndex := 25, descriptorIndex := 26, attributes := #[] }] 49 2 #[] #[])
  fields := #[]
  methods := #[k1m0, k1m1, k1m2, k1m3]
  instanceTypes := #[]
  staticTypes := #[]
  resolved := Array.replicate 29 none
  statics := none }

def pool2 : Array CpInfo := pool [(2, .class_ 4), (1, u "java/lang/Object"), (0, u "<init>"), (0, u "()V"), (4, .class_ 13), (1, u "com/example/recurve/recurve/http/HttpFields"), (0, u "fields"), (0, u "Ljava/util/List;"), (7, .class_ 24), (0, u "com/example/recurve/recurve/http/HttpFields$Field"), (43, .class_ 70), (1, u "java/lang/String"), (31, .string 103), (0, u "!#$%&'*+-.^_`|~"), (0, .methodref 68 105), (0, .nameAndType 106 107), (0, u "indexOf"), (0, u "(I)I"), (13, u "isTokenChar"), (0, u "(C)Z")] 79

def k2m0 : Method := { name := "<init>", desc := "()V", sig := { parameters := [], returnType := none }, accessFlags := 1, code := none }
def k2c1 : Code := { maxStack := 2, maxLocals := 1, code := prog_17_method_12_code, exceptionTable := #[], attributes := #[] }
def k2m1 : Method := { name := "isTokenChar", desc := "(C)Z", sig := { parameters := [.char], returnType := some .boolean }, accessFlags := 9, code := some k2c1 }
/-- com/example/recurve/recurve/http/HttpFields -/
def k2 : Class := { plain "com/example/recurve/recurve/http/HttpFields" (some 0) with
  accessFlags := 49
  interfaces := #[]
  cf := some (fileOf pool2 11 #[.nestMembers #[23]] #[{ accessFlags := 1, nameIndex := 5, descriptorIndex := 6, attributes := #[] }, { accessFlags := 9, nameIndex := 121, descriptorIndex := 122, attributes := #[] }] 49 2 #[] #[{ accessFlags := 18, nameIndex := 14, descriptorIndex := 15, attributes := #[] }])
  fields := #[{ name := "fields", type := (.object "java/util/List"), accessFlags := 18, slot := 0, constantValue := 0 }]
  methods := #[k2m0, k2m1]
  instanceTypes := #[(.object "java/util/List")]
  staticTypes := #[]
  resolved := Array.replicate 202 none
  statics := none }

def pool3 : Array CpInfo := pool [(1, .class_ 2), (0, u "java/io/Serializable"), (0, .class_ 4), (0, u "java/lang/Object")] 2

/-- java/io/Serializable -/
def k3 : Class := { plain "java/io/Serializable" (some 0) with
  accessFlags := 1537
  interfaces := #[]
  cf := some (fileOf pool3 1 #[] #[] 1537 3 #[] #[])
  fields := #[]
  methods := #[]
  instanceTypes := #[]
  staticTypes := #[]
  resolved := Array.replicate 7 none
  statics := none }

def pool4 : Array CpInfo := pool [(1, .class_ 2), (0, u "java/lang/Comparable"), (0, .class_ 4), (0, u "java/lang/Object")] 7

/-- java/lang/Comparable -/
def k4 : Class := { plain "java/lang/Comparable" (some 0) with
  accessFlags := 1537
  interfaces := #[]
  cf := some (fileOf pool4 1 #[] #[] 1537 3 #[] #[])
  fields := #[]
  methods := #[]
  instanceTypes := #[]
  staticTypes := #[]
  resolved := Array.replicate 12 none
  statics := none }

def pool5 : Array CpInfo := pool [(2, .class_ 4), (1, u "java/lang/CharSequence"), (42, .class_ 48), (0, u "java/lang/CharSequence$1CodePointIterator"), (10, .class_ 60), (0, u "java/lang/CharSequence$1CharIterator"), (5, .class_ 67), (0, u "java/lang/Object")] 63

/-- java/lang/CharSequence -/
def k5 : Class := { plain "java/lang/CharSequence" (some 0) with
  accessFlags := 1537
  interfaces := #[]
  cf := some (fileOf pool5 2 #[.nestMembers #[47, 59]] #[] 1537 66 #[] #[])
  fields := #[]
  methods := #[]
  instanceTypes := #[]
  staticTypes := #[]
  resolved := Array.replicate 131 none
  statics := none }

def pool6 : Array CpInfo := pool [(1, .class_ 2), (0, u "java/lang/constant/Constable"), (0, .class_ 4), (0, u "java/lang/Object")] 6

/-- java/lang/constant/Constable -/
def k6 : Class := { plain "java/lang/constant/Constable" (some 0) with
  accessFlags := 1537
  interfaces := #[]
  cf := some (fileOf pool6 1 #[] #[] 1537 3 #[] #[])
  fields := #[]
  methods := #[]
  instanceTypes := #[]
  staticTypes := #[]
  resolved := Array.replicate 11 none
  statics := none }

def pool7 : Array CpInfo := pool [(1, .class_ 2), (0, u "java/lang/constant/ConstantDesc"), (0, .class_ 4), (0, u "java/lang/Object")] 32

/-- java/lang/constant/ConstantDesc -/
def k7 : Class := { plain "java/lang/constant/ConstantDesc" (some 0) with
  accessFlags := 1537
  interfaces := #[]
  cf := some (fileOf pool7 1 #[] #[] 1537 3 #[] #[])
  fields := #[]
  methods := #[]
  instanceTypes := #[]
  staticTypes := #[]
  resolved := Array.replicate 37 none
  statics := none }

def pool8 : Array CpInfo := pool [(2, .class_ 4), (1, u "java/lang/Object"), (0, u "<init>"), (0, u "()V"), (2, .fieldref 10 11), (0, .class_ 12), (0, .nameAndType 13 14), (0, u "java/lang/String"), (0, u "value"), (0, u "[B"), (0, .fieldref 10 16), (0, .nameAndType 17 18), (0, u "coder"), (0, u "B"), (2, u "hash"), (0, u "I"), (2, u "hashIsZero"), (0, u "Z"), (11, .fieldref 10 39), (0, .nameAndType 40 26), (0, u "COMPACT_STRINGS"), (66, .class_ 109), (1, u "java/lang/StringLatin1"), (32, u "()Z"), (191, u "()I"), (0, .methodref 10 336), (0, .nameAndType 17 337), (0, u "()B"), (154, .methodref 10 493), (0, .nameAndType 494 142), (0, u "isLatin1"), (10, .methodref 10 506), (0, .nameAndType 507 334), (0, u "length"), (67, .class_ 576), (0, u "java/lang/CharSequence"), (22, u "CASE_INSENSITIVE_ORDER"), (0, u "Ljava/util/Comparator;"), (32, .methodref 10 634), (0, .nameAndType 635 636), (0, u "indexOf"), (0, u "(II)I"), (0, .methodref 107 638), (0, .nameAndType 635 639), (0, u "([BIII)I"), (125, u "(I)I"), (335, u "serialPersistentFields"), (0, u "[Ljava/io/ObjectStreamField;"), (0, .class_ 1104), (0, u "java/lang/String$CaseInsensitiveComparator"), (1, .class_ 1107), (0, u "java/io/Serializable"), (0, .class_ 1109), (0, u "java/lang/Comparable"), (0, .class_ 1111), (0, u "java/lang/constant/Constable"), (0, .class_ 1113), (0, u "java/lang/constant/ConstantDesc"), (2, u "serialVersionUID"), (0, u "J"), (3, u "REPL"), (0, u "C"), (2, u "LATIN1"), (1, u "UTF16")] 323

def k8m0 : Method := { name := "<init>", desc := "()V", sig := { parameters := [], returnType := none }, accessFlags := 1, code := none }
def k8c1 : Code := { maxStack := 2, maxLocals := 1, code := jdk_42_method_54_code, exceptionTable := #[], attributes := #[] }
def k8m1 : Method := { name := "length", desc := "()I", sig := { parameters := [], returnType := some .int }, accessFlags := 1, code := some k8c1 }
def k8c2 : Code := { maxStack := 3, maxLocals := 2, code := jdk_42_method_79_code, exceptionTable := #[], attributes := #[] }
def k8m2 : Method := { name := "indexOf", desc := "(I)I", sig := { parameters := [.int], returnType := some .int }, accessFlags := 1, code := some k8c2 }
def k8c3 : Code := { maxStack := 4, maxLocals := 3, code := jdk_42_method_80_code, exceptionTable := #[], attributes := #[] }
def k8m3 : Method := { name := "indexOf", desc := "(II)I", sig := { parameters := [.int, .int], returnType := some .int }, accessFlags := 1, code := some k8c3 }
def k8c4 : Code := { maxStack := 1, maxLocals := 1, code := jdk_42_method_152_code, exceptionTable := #[], attributes := #[] }
def k8m4 : Method := { name := "coder", desc := "()B", sig := { parameters := [], returnType := some .byte }, accessFlags := 0, code := some k8c4 }
def k8c5 : Code := { maxStack := 1, maxLocals := 1, code := jdk_42_method_154_code, exceptionTable := #[], attributes := #[] }
def k8m5 : Method := { name := "isLatin1", desc := "()Z", sig := { parameters := [], returnType := some .boolean }, accessFlags := 0, code := some k8c5 }
/-- java/lang/String -/
def k8 : Class := { plain "java/lang/String" (some 0) with
  accessFlags := 49
  interfaces := #[3, 4, 5, 6, 7]
  cf := some (fileOf pool8 10 #[.nestMembers #[1103]] #[{ accessFlags := 1, nameIndex := 5, descriptorIndex := 6, attributes := #[] }, { accessFlags := 1, nameIndex := 507, descriptorIndex := 334, attributes := #[] }, { accessFlags := 1, nameIndex := 635, descriptorIndex := 765, attributes := #[] }, { accessFlags := 1, nameIndex := 635, descriptorIndex := 636, attributes := #[] }, { accessFlags := 0, nameIndex := 17, descriptorIndex := 337, attributes := #[] }, { accessFlags := 0, nameIndex := 494, descriptorIndex := 142, attributes := #[] }] 49 2 #[1106, 1108, 575, 1110, 1112] #[{ accessFlags := 18, nameIndex := 13, descriptorIndex := 14, attributes := #[] }, { accessFlags := 18, nameIndex := 17, descriptorIndex := 18, attributes := #[] }, { accessFlags := 2, nameIndex := 21, descriptorIndex := 22, attributes := #[] }, { accessFlags := 2, nameIndex := 25, descriptorIndex := 26, attributes := #[] }, { accessFlags := 26, nameIndex := 1116, descriptorIndex := 1117, attributes := #[] }, { accessFlags := 24, nameIndex := 40, descriptorIndex := 26, attributes := #[] }, { accessFlags := 26, nameIndex := 1101, descriptorIndex := 1102, attributes := #[] }, { accessFlags := 26, nameIndex := 1121, descriptorIndex := 1122, attributes := #[] }, { accessFlags := 25, nameIndex := 599, descriptorIndex := 600, attributes := #[] }, { accessFlags := 24, nameIndex := 1125, descriptorIndex := 18, attributes := #[] }, { accessFlags := 24, nameIndex := 1127, descriptorIndex := 18, attributes := #[] }])
  fields := #[{ name := "value", type := (.array .byte), accessFlags := 18, slot := 0, constantValue := 0 }, { name := "coder", type := .byte, accessFlags := 18, slot := 1, constantValue := 0 }, { name := "hash", type := .int, accessFlags := 2, slot := 2, constantValue := 0 }, { name := "hashIsZero", type := .boolean, accessFlags := 2, slot := 3, constantValue := 0 }, { name := "serialVersionUID", type := .long, accessFlags := 26, slot := 0, constantValue := 0 }, { name := "COMPACT_STRINGS", type := .boolean, accessFlags := 24, slot := 1, constantValue := 0 }, { name := "serialPersistentFields", type := (.array (.object "java/io/ObjectStreamField")), accessFlags := 26, slot := 2, constantValue := 0 }, { name := "REPL", type := .char, accessFlags := 26, slot := 3, constantValue := 0 }, { name := "CASE_INSENSITIVE_ORDER", type := (.object "java/util/Comparator"), accessFlags := 25, slot := 4, constantValue := 0 }, { name := "LATIN1", type := .byte, accessFlags := 24, slot := 5, constantValue := 0 }, { name := "UTF16", type := .byte, accessFlags := 24, slot := 6, constantValue := 0 }]
  methods := #[k8m0, k8m1, k8m2, k8m3, k8m4, k8m5]
  instanceTypes := #[(.array .byte), .byte, .int, .boolean]
  staticTypes := #[.long, .boolean, (.array (.object "java/io/ObjectStreamField")), .char, (.object "java/util/Comparator"), .byte, .byte]
  resolved := Array.replicate 1451 none
  statics := some 0 }

def pool9 : Array CpInfo := pool [(4, .class_ 6), (1, u "java/lang/Object"), (0, u "<init>"), (0, u "()V"), (5, .class_ 16), (1, u "java/lang/StringLatin1"), (21, .methodref 39 40), (0, .class_ 41), (0, .nameAndType 42 43), (0, u "java/lang/Math"), (0, u "min"), (0, u "(II)I"), (44, .methodref 14 89), (0, .nameAndType 90 91), (0, u "canEncode"), (0, u "(I)Z"), (0, .methodref 39 93), (0, .nameAndType 94 43), (0, u "max"), (0, .methodref 14 96), (0, .nameAndType 97 98), (0, u "indexOfChar"), (0, u "([BIII)I"), (2, u "indexOf"), (19, u "$assertionsDisabled"), (0, u "Z"), (98, .class_ 223), (1, u "java/lang/StringLatin1$LinesSpliterator"), (166, .class_ 391), (0, u "java/lang/StringLatin1$CharsSpliterator")] 3

def k9m0 : Method := { name := "<init>", desc := "()V", sig := { parameters := [], returnType := none }, accessFlags := 0, code := none }
def k9c1 : Code := { maxStack := 2, maxLocals := 1, code := jdk_43_method_4_code, exceptionTable := #[], attributes := #[] }
def k9m1 : Method := { name := "canEncode", desc := "(I)Z", sig := { parameters := [.int], returnType := some .boolean }, accessFlags := 9, code := some k9c1 }
def k9c2 : Code := { maxStack := 4, maxLocals := 4, code := jdk_43_method_22_code, exceptionTable := #[], attributes := #[] }
def k9m2 : Method := { name := "indexOf", desc := "([BIII)I", sig := { parameters := [(.array .byte), .int, .int, .int], returnType := some .int }, accessFlags := 9, code := some k9c2 }
def k9c3 : Code := { maxStack := 2, maxLocals := 6, code := jdk_43_method_23_code, exceptionTable := #[], attributes := #[] }
def k9m3 : Method := { name := "indexOfChar", desc := "([BIII)I", sig := { parameters := [(.array .byte), .int, .int, .int], returnType := some .int }, accessFlags := 10, code := some k9c3 }
/-- java/lang/StringLatin1 -/
def k9 : Class := { plain "java/lang/StringLatin1" (some 0) with
  accessFlags := 48
  interfaces := #[]
  cf := some (fileOf pool9 14 #[.nestMembers #[390, 221]] #[{ accessFlags := 0, nameIndex := 7, descriptorIndex := 8, attributes := #[] }, { accessFlags := 9, nameIndex := 90, descriptorIndex := 91, attributes := #[] }, { accessFlags := 9, nameIndex := 101, descriptorIndex := 98, attributes := #[] }, { accessFlags := 10, nameIndex := 97, descriptorIndex := 98, attributes := #[] }] 48 4 #[] #[{ accessFlags := 4120, nameIndex := 121, descriptorIndex := 122, attributes := #[] }])
  fields := #[{ name := "$assertionsDisabled", type := .boolean, accessFlags := 4120, slot := 0, constantValue := 0 }]
  methods := #[k9m0, k9m1, k9m2, k9m3]
  instanceTypes := #[]
  staticTypes := #[.boolean]
  resolved := Array.replicate 395 none
  statics := none }

def pool10 : Array CpInfo := pool [(1, .class_ 2), (0, u "java/lang/Math"), (1, .class_ 6), (1, u "java/lang/Object"), (0, u "<init>"), (0, u "()V"), (89, .class_ 100), (1, u "java/lang/Math$RandomNumberGeneratorHolder"), (71, u "negativeZeroFloatBits"), (0, u "J"), (2, u "negativeZeroDoubleBits"), (21, u "max"), (2, u "min"), (43, u "$assertionsDisabled"), (0, u "Z"), (88, u "(II)I"), (2, u "twoToTheDoubleScaleDown"), (0, u "D"), (4, u "twoToTheDoubleScaleUp"), (9, u "E"), (3, u "PI"), (2, u "TAU"), (2, u "DEGREES_TO_RADIANS"), (0, u "RADIANS_TO_DEGREES")] 94

def k10m0 : Method := { name := "<init>", desc := "()V", sig := { parameters := [], returnType := none }, accessFlags := 2, code := none }
def k10c1 : Code := { maxStack := 2, maxLocals := 2, code := jdk_29_method_65_code, exceptionTable := #[], attributes := #[] }
def k10m1 : Method := { name := "max", desc := "(II)I", sig := { parameters := [.int, .int], returnType := some .int }, accessFlags := 9, code := some k10c1 }
def k10c2 : Code := { maxStack := 2, maxLocals := 2, code := jdk_29_method_69_code, exceptionTable := #[], attributes := #[] }
def k10m2 : Method := { name := "min", desc := "(II)I", sig := { parameters := [.int, .int], returnType := some .int }, accessFlags := 9, code := some k10c2 }
/-- java/lang/Math -/
def k10 : Class := { plain "java/lang/Math" (some 0) with
  accessFlags := 49
  interfaces := #[]
  cf := some (fileOf pool10 1 #[.nestMembers #[98]] #[{ accessFlags := 2, nameIndex := 7, descriptorIndex := 8, attributes := #[] }, { accessFlags := 9, nameIndex := 198, descriptorIndex := 335, attributes := #[] }, { accessFlags := 9, nameIndex := 201, descriptorIndex := 335, attributes := #[] }] 49 4 #[] #[{ accessFlags := 25, nameIndex := 354, descriptorIndex := 339, attributes := #[] }, { accessFlags := 25, nameIndex := 358, descriptorIndex := 339, attributes := #[] }, { accessFlags := 25, nameIndex := 361, descriptorIndex := 339, attributes := #[] }, { accessFlags := 26, nameIndex := 364, descriptorIndex := 339, attributes := #[] }, { accessFlags := 26, nameIndex := 365, descriptorIndex := 339, attributes := #[] }, { accessFlags := 26, nameIndex := 172, descriptorIndex := 173, attributes := #[] }, { accessFlags := 26, nameIndex := 176, descriptorIndex := 173, attributes := #[] }, { accessFlags := 8, nameIndex := 344, descriptorIndex := 339, attributes := #[] }, { accessFlags := 8, nameIndex := 338, descriptorIndex := 339, attributes := #[] }, { accessFlags := 4120, nameIndex := 245, descriptorIndex := 246, attributes := #[] }])
  fields := #[{ name := "E", type := .double, accessFlags := 25, slot := 0, constantValue := 0 }, { name := "PI", type := .double, accessFlags := 25, slot := 1, constantValue := 0 }, { name := "TAU", type := .double, accessFlags := 25, slot := 2, constantValue := 0 }, { name := "DEGREES_TO_RADIANS", type := .double, accessFlags := 26, slot := 3, constantValue := 0 }, { name := "RADIANS_TO_DEGREES", type := .double, accessFlags := 26, slot := 4, constantValue := 0 }, { name := "negativeZeroFloatBits", type := .long, accessFlags := 26, slot := 5, constantValue := 0 }, { name := "negativeZeroDoubleBits", type := .long, accessFlags := 26, slot := 6, constantValue := 0 }, { name := "twoToTheDoubleScaleUp", type := .double, accessFlags := 8, slot := 7, constantValue := 0 }, { name := "twoToTheDoubleScaleDown", type := .double, accessFlags := 8, slot := 8, constantValue := 0 }, { name := "$assertionsDisabled", type := .boolean, accessFlags := 4120, slot := 9, constantValue := 0 }]
  methods := #[k10m0, k10m1, k10m2]
  instanceTypes := #[]
  staticTypes := #[.double, .double, .double, .double, .double, .long, .long, .double, .double, .boolean]
  resolved := Array.replicate 460 none
  statics := none }

def pool11 : Array CpInfo := pool [(2, .class_ 4), (1, u "java/lang/Object"), (0, u "<init>"), (0, u "()V"), (17, .class_ 26), (1, u "jdk/internal/util/Preconditions"), (28, .class_ 56), (0, u "jdk/internal/util/Preconditions$4"), (57, .class_ 115), (0, u "jdk/internal/util/Preconditions$1"), (7, u "SIOOBE_FORMATTER"), (0, u "Ljava/util/function/BiFunction;"), (0, .class_ 126), (0, u "jdk/internal/util/Preconditions$2"), (3, u "AIOOBE_FORMATTER"), (0, .class_ 132), (0, u "jdk/internal/util/Preconditions$3"), (3, u "IOOBE_FORMATTER")] 57

def k11m0 : Method := { name := "<init>", desc := "()V", sig := { parameters := [], returnType := none }, accessFlags := 1, code := none }
/-- jdk/internal/util/Preconditions -/
def k11 : Class := { plain "jdk/internal/util/Preconditions" (some 0) with
  accessFlags := 33
  interfaces := #[]
  cf := some (fileOf pool11 24 #[.nestMembers #[55, 131, 125, 114]] #[{ accessFlags := 1, nameIndex := 5, descriptorIndex := 6, attributes := #[] }] 33 2 #[] #[{ accessFlags := 25, nameIndex := 123, descriptorIndex := 124, attributes := #[] }, { accessFlags := 25, nameIndex := 130, descriptorIndex := 124, attributes := #[] }, { accessFlags := 25, nameIndex := 136, descriptorIndex := 124, attributes := #[] }])
  fields := #[{ name := "SIOOBE_FORMATTER", type := (.object "java/util/function/BiFunction"), accessFlags := 25, slot := 0, constantValue := 0 }, { name := "AIOOBE_FORMATTER", type := (.object "java/util/function/BiFunction"), accessFlags := 25, slot := 1, constantValue := 0 }, { name := "IOOBE_FORMATTER", type := (.object "java/util/function/BiFunction"), accessFlags := 25, slot := 2, constantValue := 0 }]
  methods := #[k11m0]
  instanceTypes := #[]
  staticTypes := #[(.object "java/util/function/BiFunction"), (.object "java/util/function/BiFunction"), (.object "java/util/function/BiFunction")]
  resolved := Array.replicate 194 none
  statics := some 1 }

def pool12 : Array CpInfo := pool [(9, u "<init>"), (6, .class_ 18), (1, u "java/lang/Object"), (0, u "()V"), (1, .class_ 23), (1, u "jdk/internal/util/ArraysSupport"), (0, u "LOG2_ARRAY_LONG_INDEX_SCALE"), (0, u "I"), (2, u "U"), (0, u "Ljdk/internal/misc/Unsafe;"), (8, u "BIG_ENDIAN"), (0, u "Z"), (8, u "LOG2_BYTE_BIT_SIZE"), (4, u "LOG2_ARRAY_INT_INDEX_SCALE"), (54, u "JLA"), (0, u "Ljdk/internal/access/JavaLangAccess;"), (11, u "LOG2_ARRAY_BOOLEAN_INDEX_SCALE"), (9, u "LOG2_ARRAY_BYTE_INDEX_SCALE"), (5, u "LOG2_ARRAY_CHAR_INDEX_SCALE"), (5, u "LOG2_ARRAY_SHORT_INDEX_SCALE"), (18, u "LOG2_ARRAY_FLOAT_INDEX_SCALE"), (24, u "LOG2_ARRAY_DOUBLE_INDEX_SCALE"), (89, u "T_BOOLEAN"), (2, u "T_CHAR"), (1, u "T_FLOAT"), (1, u "T_DOUBLE"), (1, u "T_BYTE"), (1, u "T_SHORT"), (1, u "T_INT"), (1, u "T_LONG"), (1, u "SOFT_MAX_ARRAY_LENGTH")] 83

def k12m0 : Method := { name := "<init>", desc := "()V", sig := { parameters := [], returnType := none }, accessFlags := 2, code := none }
/-- jdk/internal/util/ArraysSupport -/
def k12 : Class := { plain "jdk/internal/util/ArraysSupport" (some 0) with
  accessFlags := 33
  interfaces := #[]
  cf := some (fileOf pool12 21 #[] #[{ accessFlags := 2, nameIndex := 9, descriptorIndex := 19, attributes := #[] }] 33 16 #[] #[{ accessFlags := 24, nameIndex := 28, descriptorIndex := 29, attributes := #[] }, { accessFlags := 26, nameIndex := 38, descriptorIndex := 39, attributes := #[] }, { accessFlags := 25, nameIndex := 121, descriptorIndex := 25, attributes := #[] }, { accessFlags := 25, nameIndex := 131, descriptorIndex := 25, attributes := #[] }, { accessFlags := 25, nameIndex := 137, descriptorIndex := 25, attributes := #[] }, { accessFlags := 25, nameIndex := 143, descriptorIndex := 25, attributes := #[] }, { accessFlags := 25, nameIndex := 53, descriptorIndex := 25, attributes := #[] }, { accessFlags := 25, nameIndex := 24, descriptorIndex := 25, attributes := #[] }, { accessFlags := 25, nameIndex := 162, descriptorIndex := 25, attributes := #[] }, { accessFlags := 25, nameIndex := 187, descriptorIndex := 25, attributes := #[] }, { accessFlags := 26, nameIndex := 48, descriptorIndex := 25, attributes := #[] }, { accessFlags := 25, nameIndex := 277, descriptorIndex := 25, attributes := #[] }, { accessFlags := 25, nameIndex := 280, descriptorIndex := 25, attributes := #[] }, { accessFlags := 25, nameIndex := 282, descriptorIndex := 25, attributes := #[] }, { accessFlags := 25, nameIndex := 284, descriptorIndex := 25, attributes := #[] }, { accessFlags := 25, nameIndex := 286, descriptorIndex := 25, attributes := #[] }, { accessFlags := 25, nameIndex := 288, descriptorIndex := 25, attributes := #[] }, { accessFlags := 25, nameIndex := 290, descriptorIndex := 25, attributes := #[] }, { accessFlags := 25, nameIndex := 292, descriptorIndex := 25, attributes := #[] }, { accessFlags := 26, nameIndex := 108, descriptorIndex := 109, attributes := #[] }, { accessFlags := 25, nameIndex := 294, descriptorIndex := 25, attributes := #[] }])
  fields := #[{ name := "U", type := (.object "jdk/internal/misc/Unsafe"), accessFlags := 24, slot := 0, constantValue := 0 }, { name := "BIG_ENDIAN", type := .boolean, accessFlags := 26, slot := 1, constantValue := 0 }, { name := "LOG2_ARRAY_BOOLEAN_INDEX_SCALE", type := .int, accessFlags := 25, slot := 2, constantValue := 0 }, { name := "LOG2_ARRAY_BYTE_INDEX_SCALE", type := .int, accessFlags := 25, slot := 3, constantValue := 0 }, { name := "LOG2_ARRAY_CHAR_INDEX_SCALE", type := .int, accessFlags := 25, slot := 4, constantValue := 0 }, { name := "LOG2_ARRAY_SHORT_INDEX_SCALE", type := .int, accessFlags := 25, slot := 5, constantValue := 0 }, { name := "LOG2_ARRAY_INT_INDEX_SCALE", type := .int, accessFlags := 25, slot := 6, constantValue := 0 }, { name := "LOG2_ARRAY_LONG_INDEX_SCALE", type := .int, accessFlags := 25, slot := 7, constantValue := 0 }, { name := "LOG2_ARRAY_FLOAT_INDEX_SCALE", type := .int, accessFlags := 25, slot := 8, constantValue := 0 }, { name := "LOG2_ARRAY_DOUBLE_INDEX_SCALE", type := .int, accessFlags := 25, slot := 9, constantValue := 0 }, { name := "LOG2_BYTE_BIT_SIZE", type := .int, accessFlags := 26, slot := 10, constantValue := 0 }, { name := "T_BOOLEAN", type := .int, accessFlags := 25, slot := 11, constantValue := 0 }, { name := "T_CHAR", type := .int, accessFlags := 25, slot := 12, constantValue := 0 }, { name := "T_FLOAT", type := .int, accessFlags := 25, slot := 13, constantValue := 0 }, { name := "T_DOUBLE", type := .int, accessFlags := 25, slot := 14, constantValue := 0 }, { name := "T_BYTE", type := .int, accessFlags := 25, slot := 15, constantValue := 0 }, { name := "T_SHORT", type := .int, accessFlags := 25, slot := 16, constantValue := 0 }, { name := "T_INT", type := .int, accessFlags := 25, slot := 17, constantValue := 0 }, { name := "T_LONG", type := .int, accessFlags := 25, slot := 18, constantValue := 0 }, { name := "JLA", type := (.object "jdk/internal/access/JavaLangAccess"), accessFlags := 26, slot := 19, constantValue := 0 }, { name := "SOFT_MAX_ARRAY_LENGTH", type := .int, accessFlags := 25, slot := 20, constantValue := 0 }]
  methods := #[k12m0]
  instanceTypes := #[]
  staticTypes := #[(.object "jdk/internal/misc/Unsafe"), .boolean, .int, .int, .int, .int, .int, .int, .int, .int, .int, .int, .int, .int, .int, .int, .int, .int, .int, (.object "jdk/internal/access/JavaLangAccess"), .int]
  resolved := Array.replicate 378 none
  statics := none }

def pool13 : Array CpInfo := pool [(1, u "java/lang/Cloneable"), (0, .class_ 1), (0, u "java/lang/Object"), (0, .class_ 3)] 3

/-- java/lang/Cloneable -/
def k13 : Class := { plain "java/lang/Cloneable" (some 0) with
  accessFlags := 1537
  interfaces := #[]
  cf := some (fileOf pool13 2 #[] #[] 1537 4 #[] #[])
  fields := #[]
  methods := #[]
  instanceTypes := #[]
  staticTypes := #[]
  resolved := Array.replicate 8 none
  statics := none }

/-- the primitive byte -/
def k14 : Class := { plain "byte" none with kind := .primitive 'B', accessFlags := 0x411 }
/-- [B -/
def k15 : Class := { plain "[B" (some 0) with kind := .array 14 .byte, interfaces := #[13, 3], accessFlags := 1041 }

/-- the primitive int -/
def k16 : Class := { plain "int" none with kind := .primitive 'I', accessFlags := 0x411 }
/-- [I -/
def k17 : Class := { plain "[I" (some 0) with kind := .array 16 .int, interfaces := #[13, 3], accessFlags := 1041 }

def heap : Heap := #[{ cls := 8, slots := #[.long 0, .int 1, .null, .int 0, .null, .int 0, .int 0], vm := .statics 8 },
  { cls := 11, slots := #[.null, .null, .null], vm := .statics 11 }]
def classes : Array Class := #[k0, k1, k2, k3, k4, k5, k6, k7, k8, k9, k10, k11, k12, k13, k14, k15, k16, k17]
def interned : List (Array UInt16 × Addr) := []
def slotsUsed : Nat := 10
def theMethod : MethodId := ⟨1, 3⟩
def args0 : Array Value := #[.int 5, .int 3]
def aboutOver (below : List Frame) : State where
  vm := { classes := classes, interned := interned.toArray }
  heap := heap
  slotsUsed := slotsUsed
  threads := #[{ frames := .invoking theMethod args0 :: below }]
def below0 : List Frame := [.native { method := ⟨0, 0⟩, args := #[] }]
def about1 : State := aboutOver below0
def p0 : Program := .bare "" "" ""
def e0 : Env := launch0.env 0 0 0
theorem w_frames : about1.frames = Frame.invoking theMethod args0 :: below0 := rfl
set_option maxRecDepth 65536 in
theorem w_args : argsFit about1.vm theMethod args0 = true := by decide +kernel
set_option maxRecDepth 65536 in
theorem w_heap : heapFits about1 = true := by decide +kernel
set_option maxRecDepth 65536 in
theorem w_runnable : about1.curStatus? = some .runnable := by decide +kernel
set_option maxRecDepth 65536 in
theorem w_alone : about1.alone = true := by decide +kernel
set_option maxRecDepth 65536 in
theorem w_named : about1.methodNamed? x = some theMethod := by decide +kernel
set_option maxRecDepth 65536 in
theorem w_hears : about1.hears theMethod below0 = true := by decide +kernel
set_option maxRecDepth 65536 in
theorem w_ripe : about1.ripe theMethod args0 below0 = true := by decide +kernel
theorem w_running : about1.status = .running := rfl
set_option maxRecDepth 65536 in
theorem w_room : about1.hasRoom e0.platform room_1 = true :=
  launch0.hasRoom_least _ room_1 (by decide +kernel) (by decide +kernel) (by decide +kernel) (by decide +kernel) (by decide +kernel) (by decide +kernel)
theorem allAtoms_all (ts : List Jvm.Cond) (a : Array Jvm.Value) (st : Jvm.State) : (allAtoms ts).before a st = ts.all (fun c => c.before a st) := by
  induction ts with
  | nil => rfl
  | cons c t ih =>
    show (Jvm.Cond.and c (allAtoms t)).before a st = _
    rw [Jvm.Cond.before_and, ih, List.all_cons]
def words1 : List Jvm.Cond := Jvm.Cond.code x code maxLocals ret :: tables_1
/-- a 'code' word, met by the world's own term for the bytes: nothing is compared byte by byte -/
theorem code_word {y : MethodName} {bytes : ByteArray} {mx : Nat} {rt : Option FieldType} {a : Array Value} {s : State} {m : MethodId} {meth : Method} {c : Code} (h1 : s.methodNamed? y = some m) (h2 : s.vm.method? m = some meth) (h3 : meth.code = some c) (h4 : c.code = bytes)
    (h5 : (c.maxLocals == mx && c.exceptionTable.isEmpty && decide (c.maxStack ≤ mostOperands) && decide (meth.sig.returnType = rt) && !meth.locks && decide (parseMethodDescriptor y.desc = some meth.sig)) = true) : (Jvm.Cond.code y bytes mx rt).before a s = true := by
  simp only [Bool.and_eq_true, beq_iff_eq, Bool.not_eq_true', decide_eq_true_eq] at h5
  obtain ⟨⟨⟨⟨⟨g1, g2⟩, g3⟩, g4⟩, g5⟩, g6⟩ := h5
  simp [Cond.before, Cond.holds, Cond.value, h1, h2, h3, h4, g1, g2, g3, g4, g5, g6]
def isCode : Jvm.Cond → Bool
  | .code _ _ _ _ => true
  | _ => false
theorem all_split {L : List Jvm.Cond} {P : Jvm.Cond → Bool} (h1 : L.all (fun c => isCode c || P c) = true) (h2 : ∀ c ∈ L.filter isCode, P c = true) : L.all P = true := by
  refine List.all_eq_true.mpr fun c hc => ?_
  have h := List.all_eq_true.mp h1 c hc
  rcases Bool.eq_false_or_eq_true (isCode c) with hi | hi
  · exact h2 c (List.mem_filter.mpr ⟨hc, hi⟩)
  · simpa [hi] using h
set_option maxRecDepth 65536 in
theorem w_c0 : (Jvm.Cond.code x code maxLocals ret).before args0 about1 = true := code_word (m := ⟨1, 3⟩) (meth := k1m3) (c := k1c3) (by decide +kernel) rfl rfl rfl (by decide +kernel)
set_option maxRecDepth 65536 in
theorem w_c1 : (Jvm.Cond.code ({ cls := "com/example/recurve/recurve/http/HttpFields", name := "isTokenChar", desc := "(C)Z" } : Jvm.MethodName) prog_17_method_12_code (1 : Nat) (Option.some Jvm.ClassFile.FieldType.boolean)).before args0 about1 = true := code_word (m := ⟨2, 1⟩) (meth := k2m1) (c := k2c1) (by decide +kernel) rfl rfl rfl (by decide +kernel)
set_option maxRecDepth 65536 in
theorem w_c2 : (Jvm.Cond.code ({ cls := "java/lang/String", name := "indexOf", desc := "(I)I" } : Jvm.MethodName) jdk_42_method_79_code (2 : Nat) (Option.some Jvm.ClassFile.FieldType.int)).before args0 about1 = true := code_word (m := ⟨8, 2⟩) (meth := k8m2) (c := k8c2) (by decide +kernel) rfl rfl rfl (by decide +kernel)
set_option maxRecDepth 65536 in
theorem w_c3 : (Jvm.Cond.code ({ cls := "java/lang/String", name := "indexOf", desc := "(II)I" } : Jvm.MethodName) jdk_42_method_80_code (3 : Nat) (Option.some Jvm.ClassFile.FieldType.int)).before args0 about1 = true := code_word (m := ⟨8, 3⟩) (meth := k8m3) (c := k8c3) (by decide +kernel) rfl rfl rfl (by decide +kernel)
set_option maxRecDepth 65536 in
theorem w_c4 : (Jvm.Cond.code ({ cls := "java/lang/String", name := "isLatin1", desc := "()Z" } : Jvm.MethodName) jdk_42_method_154_code (1 : Nat) (Option.some Jvm.ClassFile.FieldType.boolean)).before args0 about1 = true := code_word (m := ⟨8, 5⟩) (meth := k8m5) (c := k8c5) (by decide +kernel) rfl rfl rfl (by decide +kernel)
set_option maxRecDepth 65536 in
theorem w_c5 : (Jvm.Cond.code ({ cls := "java/lang/String", name := "length", desc := "()I" } : Jvm.MethodName) jdk_42_method_54_code (1 : Nat) (Option.some Jvm.ClassFile.FieldType.int)).before args0 about1 = true := code_word (m := ⟨8, 1⟩) (meth := k8m1) (c := k8c1) (by decide +kernel) rfl rfl rfl (by decide +kernel)
set_option maxRecDepth 65536 in
theorem w_c6 : (Jvm.Cond.code ({ cls := "java/lang/String", name := "coder", desc := "()B" } : Jvm.MethodName) jdk_42_method_152_code (1 : Nat) (Option.some Jvm.ClassFile.FieldType.byte)).before args0 about1 = true := code_word (m := ⟨8, 4⟩) (meth := k8m4) (c := k8c4) (by decide +kernel) rfl rfl rfl (by decide +kernel)
set_option maxRecDepth 65536 in
theorem w_c7 : (Jvm.Cond.code ({ cls := "java/lang/StringLatin1", name := "indexOf", desc := "([BIII)I" } : Jvm.MethodName) jdk_43_method_22_code (4 : Nat) (Option.some Jvm.ClassFile.FieldType.int)).before args0 about1 = true := code_word (m := ⟨9, 2⟩) (meth := k9m2) (c := k9c2) (by decide +kernel) rfl rfl rfl (by decide +kernel)
set_option maxRecDepth 65536 in
theorem w_c8 : (Jvm.Cond.code ({ cls := "java/lang/StringLatin1", name := "canEncode", desc := "(I)Z" } : Jvm.MethodName) jdk_43_method_4_code (1 : Nat) (Option.some Jvm.ClassFile.FieldType.boolean)).before args0 about1 = true := code_word (m := ⟨9, 1⟩) (meth := k9m1) (c := k9c1) (by decide +kernel) rfl rfl rfl (by decide +kernel)
set_option maxRecDepth 65536 in
theorem w_c9 : (Jvm.Cond.code ({ cls := "java/lang/Math", name := "max", desc := "(II)I" } : Jvm.MethodName) jdk_29_method_65_code (2 : Nat) (Option.some Jvm.ClassFile.FieldType.int)).before args0 about1 = true := code_word (m := ⟨10, 1⟩) (meth := k10m1) (c := k10c1) (by decide +kernel) rfl rfl rfl (by decide +kernel)
set_option maxRecDepth 65536 in
theorem w_c10 : (Jvm.Cond.code ({ cls := "java/lang/Math", name := "min", desc := "(II)I" } : Jvm.MethodName) jdk_29_method_69_code (2 : Nat) (Option.some Jvm.ClassFile.FieldType.int)).before args0 about1 = true := code_word (m := ⟨10, 2⟩) (meth := k10m2) (c := k10c2) (by decide +kernel) rfl rfl rfl (by decide +kernel)
set_option maxRecDepth 65536 in
theorem w_c11 : (Jvm.Cond.code ({ cls := "java/lang/StringLatin1", name := "indexOfChar", desc := "([BIII)I" } : Jvm.MethodName) jdk_43_method_23_code (6 : Nat) (Option.some Jvm.ClassFile.FieldType.int)).before args0 about1 = true := code_word (m := ⟨9, 3⟩) (meth := k9m3) (c := k9c3) (by decide +kernel) rfl rfl rfl (by decide +kernel)
set_option maxRecDepth 65536 in
theorem w_c12 : (Jvm.Cond.code ({ cls := "com/example/recurve/recurve/http/HttpFieldsIsTokenCharPinLaw", name := "reference", desc := "(C)Z" } : Jvm.MethodName) method_3_code (1 : Nat) (Option.some Jvm.ClassFile.FieldType.boolean)).before args0 about1 = true := code_word (m := ⟨1, 2⟩) (meth := k1m2) (c := k1c2) (by decide +kernel) rfl rfl rfl (by decide +kernel)
set_option maxRecDepth 65536 in
theorem w_c13 : (Jvm.Cond.code ({ cls := "com/example/recurve/recurve/http/HttpFieldsIsTokenCharPinLaw", name := "isDelimiter", desc := "(C)Z" } : Jvm.MethodName) method_2_code (1 : Nat) (Option.some Jvm.ClassFile.FieldType.boolean)).before args0 about1 = true := code_word (m := ⟨1, 1⟩) (meth := k1m1) (c := k1c1) (by decide +kernel) rfl rfl rfl (by decide +kernel)
def codes1 : List Jvm.Cond := [Jvm.Cond.code x code maxLocals ret, Jvm.Cond.code ({ cls := "com/example/recurve/recurve/http/HttpFields", name := "isTokenChar", desc := "(C)Z" } : Jvm.MethodName) prog_17_method_12_code (1 : Nat) (Option.some Jvm.ClassFile.FieldType.boolean), Jvm.Cond.code ({ cls := "java/lang/String", name := "indexOf", desc := "(I)I" } : Jvm.MethodName) jdk_42_method_79_code (2 : Nat) (Option.some Jvm.ClassFile.FieldType.int), Jvm.Cond.code ({ cls := "java/lang/String", name := "indexOf", desc := "(II)I" } : Jvm.MethodName) jdk_42_method_80_code (3 : Nat) (Option.some Jvm.ClassFile.FieldType.int), Jvm.Cond.code ({ cls := "java/lang/String", name := "isLatin1", desc := "()Z" } : Jvm.MethodName) jdk_42_method_154_code (1 : Nat) (Option.some Jvm.ClassFile.FieldType.boolean), Jvm.Cond.code ({ cls := "java/lang/String", name := "length", desc := "()I" } : Jvm.MethodName) jdk_42_method_54_code (1 : Nat) (Option.some Jvm.ClassFile.FieldType.int), Jvm.Cond.code ({ cls := "java/lang/String", name := "coder", desc := "()B" } : Jvm.MethodName) jdk_42_method_152_code (1 : Nat) (Option.some Jvm.ClassFile.FieldType.byte), Jvm.Cond.code ({ cls := "java/lang/StringLatin1", name := "indexOf", desc := "([BIII)I" } : Jvm.MethodName) jdk_43_method_22_code (4 : Nat) (Option.some Jvm.ClassFile.FieldType.int), Jvm.Cond.code ({ cls := "java/lang/StringLatin1", name := "canEncode", desc := "(I)Z" } : Jvm.MethodName) jdk_43_method_4_code (1 : Nat) (Option.some Jvm.ClassFile.FieldType.boolean), Jvm.Cond.code ({ cls := "java/lang/Math", name := "max", desc := "(II)I" } : Jvm.MethodName) jdk_29_method_65_code (2 : Nat) (Option.some Jvm.ClassFile.FieldType.int), Jvm.Cond.code ({ cls := "java/lang/Math", name := "min", desc := "(II)I" } : Jvm.MethodName) jdk_29_method_69_code (2 : Nat) (Option.some Jvm.ClassFile.FieldType.int), Jvm.Cond.code ({ cls := "java/lang/StringLatin1", name := "indexOfChar", desc := "([BIII)I" } : Jvm.MethodName) jdk_43_method_23_code (6 : Nat) (Option.some Jvm.ClassFile.FieldType.int), Jvm.Cond.code ({ cls := "com/example/recurve/recurve/http/HttpFieldsIsTokenCharPinLaw", name := "reference", desc := "(C)Z" } : Jvm.MethodName) method_3_code (1 : Nat) (Option.some Jvm.ClassFile.FieldType.boolean), Jvm.Cond.code ({ cls := "com/example/recurve/recurve/http/HttpFieldsIsTokenCharPinLaw", name := "isDelimiter", desc := "(C)Z" } : Jvm.MethodName) method_2_code (1 : Nat) (Option.some Jvm.ClassFile.FieldType.boolean)]
set_option maxRecDepth 65536 in
theorem codes_eq : words1.filter isCode = codes1 := rfl
theorem w_codes : ∀ c ∈ words1.filter isCode, c.before args0 about1 = true := by
  rw [codes_eq]
  intro c hc
  simp only [codes1, List.mem_cons, List.not_mem_nil, or_false] at hc
  rcases hc with rfl | rfl | rfl | rfl | rfl | rfl | rfl | rfl | rfl | rfl | rfl | rfl | rfl | rfl
  · exact w_c0
  · exact w_c1
  · exact w_c2
  · exact w_c3
  · exact w_c4
  · exact w_c5
  · exact w_c6
  · exact w_c7
  · exact w_c8
  · exact w_c9
  · exact w_c10
  · exact w_c11
  · exact w_c12
  · exact w_c13
set_option maxRecDepth 65536 in
theorem w_t1 : (words1.take 24).all (fun c => isCode c || c.before args0 about1) = true := by decide +kernel
set_option maxRecDepth 65536 in
theorem w_t2 : ((words1.drop 24).take 24).all (fun c => isCode c || c.before args0 about1) = true := by decide +kernel
set_option maxRecDepth 65536 in
theorem w_t3 : ((words1.drop 24).drop 24).all (fun c => isCode c || c.before args0 about1) = true := by decide +kernel
theorem w_tables : (allAtoms (Jvm.Cond.code x code maxLocals ret :: tables_1)).before args0 about1 = true := by
  rw [allAtoms_all]
  show words1.all (fun c => c.before args0 about1) = true
  refine all_split ?_ w_codes
  rw [← List.take_append_drop 24 words1, List.all_append, w_t1, ← List.take_append_drop 24 (words1.drop 24), List.all_append, w_t2, w_t3]
  rfl
set_option maxRecDepth 65536 in
theorem w_rest : rest_1_c.before args0 about1 = true := by decide +kernel
set_option maxRecDepth 65536 in
theorem w_case : (Jvm.Cond.and given_1 narrow_1).before args0 about1 = true := by decide +kernel
set_option maxRecDepth 65536 in
theorem w_consts : constsHeld consts_1 about1 := Jvm.Lit.constsHeldB_iff.mp (by decide +kernel)
theorem w_applies : (headSpec (Jvm.Cond.code x code maxLocals ret :: tables_1) room_1).applies x e0.platform about1 = true :=
  (Spec.applies_iff w_frames).mpr ⟨w_running, w_runnable, w_alone, w_named, w_hears, w_ripe, w_room, w_tables⟩
theorem atStart : AtStart classFile x code maxLocals ret World_1 tables_1 room_1 Calls_1 rest_1 Pre_1 launch0 p0 e0 about1 theMethod args0 below0 :=
  ⟨lists_1, trivial, launch0.admits_env _ _ _, launch0.least_env, fairChoices_fair.cas, fairChoices_fair.clock, w_frames, w_args, w_heap, w_applies, ⟨w_consts, trivial⟩, w_rest, w_case⟩
end start1
theorem witness_1 : WitnessClaimed_1 := ⟨start1.p0, start1.e0, start1.about1, start1.theMethod, start1.args0, start1.below0, start1.atStart⟩
end Jvm.Pilot.@@N@@
