import JvmDerived
import JvmDerived.Pilot.@@N@@Statement
import JvmDerived.Pilot.@@N@@Code
set_option linter.unusedVariables false
set_option linter.unusedSimpArgs false
namespace Jvm.Pilot.@@N@@
open Jvm Jvm.ClassFile Sem Op Lib Jvm.Free Jvm.Stand Jvm.LawKit Jvm.RoadKit Bundle Jvm.Pilot.@@N@@.Jvm.D
/-! my own small kit: a walk by continuation -/
section Own
variable {p : Program} {l : Launch} {e : Env} {R : Room} {s : State} {m : MethodId} {args : Array Value} {below : List Frame} {meth : Method} {c : Code} {T T' : State} {locs : List Loc} {cells slots : Nat} {Z : State} {a0 : Array Value} {h h' h0 : Heap} {g g' : JFrame} {a b : Addr} {ty : FieldType} {vs : List Value} {v w : Value} {sl : Nat} {ws : List Addr}
/-- from the frame g over T the run comes to an end with G -/
def own_Go (p : Program) (e : Env) (below : List Frame) (G : Outcome → State → Prop) (T : State) (g : JFrame) : Prop := ∃ s₂ o, Steps p.tables e below (T.setTop g) s₂ ∧ s₂.status = .running ∧ Ended s₂ below o ∧ G o s₂
def own_End (s : State) (kc ks : Nat) (Q : Option Value → Heap → List Loc → Prop) (o : Outcome) (U' : State) : Prop := ∃ v L, o = .returned v ∧ Q v U'.heap L ∧ FrameEnd s o U' L kc ks
def own_Met (l : Launch) (Z : State) (y : MethodName) (bytes : ByteArray) (maxL : Nat) (ret : Option FieldType) (rm : Room) (as' : Array Value) (h0 : Heap) (Q : Option Value → Heap → List Loc → Prop) : Prop :=
  ∀ ws : List Jvm.Cond, MetFree l y (head1 (Jvm.Cond.code y bytes maxL ret :: ws) rm) (fun a U => a = as' ∧ Z.Warmed39 U.vm ∧ U.heap = h0) (fun _ _ _ _ _ => True) (fun _ U o U' => ∃ v L, o = .returned v ∧ Q v U'.heap L ∧ FrameEnd U o U' L rm.cells rm.slots)
theorem own_via {G : Outcome → State → Prop} (q : ∀ t, Steps p.tables e below (T'.setTop g') t → Steps p.tables e below (T.setTop g) t) (k : own_Go p e below G T' g') : own_Go p e below G T g := by
  obtain ⟨t, o, h1, r⟩ := k; exact ⟨t, o, q t h1, r⟩
theorem own_cast {G : Outcome → State → Prop} (q : g = g') (k : own_Go p e below G T g') : own_Go p e below G T g := q ▸ k
theorem own_intro {y : MethodName} {bytes : ByteArray} {maxL : Nat} {ret : Option FieldType} {rm : Room} {as' : Array Value} {Q : Option Value → Heap → List Loc → Prop} (hp : plainFor y = true)
    (body : ∀ (p : Program) (e : Env) (s : State) (m : MethodId) (below : List Frame) (meth : Method) (c : Code) (s₁ : State), p.tables.exec = Jvm.exec → c.code = bytes → c.maxLocals = maxL → s.vm.findClass y.cls = some m.cls → meth.name = y.name → Z.Warmed39 s.vm → meth.sig.returnType = ret → meth.locks = false → Stand p l e rm s m as' below meth c s₁ [] 0 0 → s₁.heap = h0 → own_Go p e below (own_End s rm.cells rm.slots Q) s₁ (entryFrame m as' maxL)) : own_Met l Z y bytes maxL ret rm as' h0 Q := by
  intro ws
  refine MetFree.of_bodySF hp hisR ?_
  intro p e s m args below meth c s₁ Bd hml hP hK
  obtain ⟨rfl, hZ, hh⟩ := hP
  exact body p e s m below meth c s₁ Bd.exec Bd.bytes hml (findClass_of_methodNamed Bd.named) (name_of_methodNamed Bd.named Bd.method).1 hZ Bd.returns Bd.notSynchronized (Stand.of_body Bd) (by rw [← hh, Bd.state]; rfl)
theorem own_ends {kc ks : Nat} {Q : Option Value → Heap → List Loc → Prop} (X : Stand p l e R s m args below meth c T locs cells slots) (hlk : meth.locks = false) {u : Option Value} (hv : meth.sig.returnType = none → u = none) (hq : Q u T.heap locs) (hc : cells ≤ kc) (hs : slots ≤ ks)
    (st : ∀ fs, (∀ (f : JFrame) (acts : List Action), f.method = m → f.locked = none → f.entered = [] → (doReturn e (T.setTop f) acts u).1 = T.setFrames fs) → Steps p.tables e below (T.setTop g) (T.setFrames fs)) : own_Go p e below (own_End s kc ks Q) T g := by
  obtain ⟨fs, hr, hrun, hended, hW, hsame⟩ := X.leave (v := u) hv hlk
  exact ⟨_, _, st fs hr, hrun, hended, _, _, rfl, hq, ⟨_, rfl⟩, hW, hsame.mono hc hs⟩
theorem own_retI {kc ks : Nat} {Q : Option Value → Heap → List Loc → Prop} (X : Stand p l e R s m args below meth c T locs cells slots) (hx : p.tables.exec = Jvm.exec) (hlk : meth.locks = false) {pc : Nat} {Ls : Array Slot} {z : Int32} {rest : List Value} (hret : meth.sig.returnType = some .int) (hd : decode c.code pc = .ok (.ireturn, 1)) (hc : cells ≤ kc) (hs : slots ≤ ks) (hq : Q (some (.int z)) T.heap locs) : own_Go p e below (own_End s kc ks Q) T (mkF m pc Ls (.int z :: rest)) :=
  own_ends X hlk (fun q => by rw [hret] at q; cases q) hq hc hs fun fs hr => retOut X hx hret rfl (Or.inl ⟨rfl, Or.inl rfl, _, rfl⟩) hd hr
theorem own_retJ {kc ks : Nat} {Q : Option Value → Heap → List Loc → Prop} (X : Stand p l e R s m args below meth c T locs cells slots) (hx : p.tables.exec = Jvm.exec) (hlk : meth.locks = false) {pc : Nat} {Ls : Array Slot} {z : Int64} {rest : List Value} (hret : meth.sig.returnType = some .long) (hd : decode c.code pc = .ok (.lreturn, 1)) (hc : cells ≤ kc) (hs : slots ≤ ks) (hq : Q (some (.long z)) T.heap locs) : own_Go p e below (own_End s kc ks Q) T (mkF m pc Ls (.long z :: rest)) :=
  own_ends X hlk (fun q => by rw [hret] at q; cases q) hq hc hs fun fs hr => retOut X hx hret rfl (Or.inr (Or.inl ⟨rfl, rfl, _, rfl⟩)) hd hr
theorem own_retA {kc ks : Nat} {Q : Option Value → Heap → List Loc → Prop} (X : Stand p l e R s m args below meth c T locs cells slots) (hx : p.tables.exec = Jvm.exec) (hlk : meth.locks = false) {pc : Nat} {Ls : Array Slot} {z : Value} {rest : List Value} (hret : meth.sig.returnType = some ty) (ht : ty.isReference = true) (hz : z.isRef = true) (hd : decode c.code pc = .ok (.areturn, 1)) (hc : cells ≤ kc) (hs : slots ≤ ks) (hq : Q (some z) T.heap locs) : own_Go p e below (own_End s kc ks Q) T (mkF m pc Ls (z :: rest)) :=
  own_ends X hlk (fun q => by rw [hret] at q; cases q) hq hc hs fun fs hr => retOut X hx hret (by cases ty <;> first | rfl | cases ht) (Or.inr (Or.inr (Or.inr (Or.inr ⟨rfl, ht, hz⟩)))) hd hr
theorem own_retN {kc ks : Nat} {Q : Option Value → Heap → List Loc → Prop} (X : Stand p l e R s m args below meth c T locs cells slots) (hx : p.tables.exec = Jvm.exec) (hlk : meth.locks = false) {pc : Nat} {Ls : Array Slot} {z : Int32} {rest : List Value} (hret : meth.sig.returnType = some ty) (ht : ty = .boolean ∨ ty = .byte ∨ ty = .char ∨ ty = .short) (hd : decode c.code pc = .ok (.ireturn, 1)) (hc : cells ≤ kc) (hs : slots ≤ ks) (hq : Q (some (.int (nar ty z))) T.heap locs) : own_Go p e below (own_End s kc ks Q) T (mkF m pc Ls (.int z :: rest)) :=
  own_ends X hlk (fun q => by rw [hret] at q; cases q) hq hc hs fun fs hr => retN X hx hret ht hd hr
theorem own_retV {kc ks : Nat} {Q : Option Value → Heap → List Loc → Prop} (X : Stand p l e R s m args below meth c T locs cells slots) (hx : p.tables.exec = Jvm.exec) (hlk : meth.locks = false) {pc : Nat} {Ls : Array Slot} (hret : meth.sig.returnType = none) (hd : decode c.code pc = .ok (.return_, 1)) (hc : cells ≤ kc) (hs : slots ≤ ks) (hq : Q none T.heap locs) : own_Go p e below (own_End s kc ks Q) T (mkF m pc Ls []) :=
  own_ends X hlk (fun _ => rfl) hq hc hs fun fs hr => X.returnOut hx hret hd hr
theorem own_callSt {y : MethodName} {bytes : ByteArray} {maxL : Nat} {ret : Option FieldType} {rm : Room} {Q : Option Value → Heap → List Loc → Prop} (X : Stand p l e R s m args below meth c T locs cells slots) (hx : p.tables.exec = Jvm.exec) (hZ : Z.Warmed39 s.vm) {own : String} {index : Nat} (hown : s.vm.findClass own = some m.cls)
    (w1 : (Jvm.Cond.methodLink own index y).before a0 Z = true) (w2 : (Jvm.Cond.static y).before a0 Z = true) (w3 : (Jvm.Cond.initialized y.cls).before a0 Z = true) (w4 : (Jvm.Cond.code y bytes maxL ret).before a0 Z = true) (hy : y.cls ≠ "java/lang/invoke/MethodHandle" ∧ y.cls ≠ "java/lang/invoke/VarHandle") {argsL rest : List Value}
    (M : own_Met l Z y bytes maxL ret rm argsL.toArray h Q) (eT : T.heap = h) {W : Nat} (hf : rm.frames + 1 ≤ R.frames) (hl : W + (maxL + 11) + rm.locals ≤ R.locals) {g : JFrame} (hg : g.method = m) (hsize : g.locals.size = c.maxLocals) (hlen : ∀ sig, parseMethodDescriptor y.desc = some sig → argsL.length = sig.parameters.length) (hs : g.stack = argsL.reverse ++ rest) (hW : 2 * g.monitorRoom + (rest.map fun v => v.category).sum ≤ W) (hd : decode c.code g.pc = .ok (.invokestatic index, 3)) (hc : cells + rm.cells ≤ R.cells) (hsl : slots + rm.slots ≤ R.slots) :
    ∃ v T' L, Stand p l e R s m args below meth c T' (locs ++ L) (cells + rm.cells) (slots + rm.slots) ∧ Q v T'.heap L ∧ ∀ target, Steps p.tables e below (T'.setTop { g with pc := g.pc + 3, stack := v.toList ++ rest }) target → Steps p.tables e below (T.setTop g) target := by
  obtain ⟨v, _, ⟨T', L', k', n'⟩, -, X', ⟨L, hQ, l1, l2, l3⟩, st⟩ := Jvm.LawKit.callS X hx (y := y) hown (mvT hZ w1) (mvT hZ w2) (mvT hZ w3) (mvT hZ w4) hy (backOf (W := W) (M []) hZ w4 w3 hf hl) hg hsize (argsL := argsL) (rest := rest) hlen hs hW hd (fun _ _ => ⟨rfl, eT, hc, hsl⟩)
  dsimp only [Pt.U, Pt.locs, Pt.cells, Pt.slots] at X' l1 l2 l3 st hQ
  subst l1 l2 l3
  exact ⟨v, T', L, X', hQ, st⟩
theorem own_callSp {y : MethodName} {bytes : ByteArray} {maxL : Nat} {rm : Room} {Q : Option Value → Heap → List Loc → Prop} (X : Stand p l e R s m args below meth c T locs cells slots) (hx : p.tables.exec = Jvm.exec) (hZ : Z.Warmed39 s.vm) {own : String} {index : Nat} (hown : s.vm.findClass own = some m.cls) (hy1 : y.name = "<init>")
    (w1 : (Jvm.Cond.methodLink own index y).before a0 Z = true) (w2 : (Jvm.Cond.instanceMethod y).before a0 Z = true) (w3 : (Jvm.Cond.initialized y.cls).before a0 Z = true) (w4 : (Jvm.Cond.code y bytes maxL none).before a0 Z = true) (hy : y.cls ≠ "java/lang/invoke/MethodHandle" ∧ y.cls ≠ "java/lang/invoke/VarHandle") {argsL rest : List Value}
    (M : own_Met l Z y bytes maxL none rm (.ref a :: argsL).toArray h Q) (eT : T.heap = h) {W : Nat} (hf : rm.frames + 1 ≤ R.frames) (hl : W + (maxL + 11) + rm.locals ≤ R.locals) {g : JFrame} (hg : g.method = m) (hsize : g.locals.size = c.maxLocals) (hlen : ∀ sig, parseMethodDescriptor y.desc = some sig → argsL.length = sig.parameters.length) (hs : g.stack = argsL.reverse ++ .ref a :: rest) (hW : 2 * g.monitorRoom + (rest.map fun v => v.category).sum ≤ W) (hd : decode c.code g.pc = .ok (.invokespecial index, 3)) (hc : cells + rm.cells ≤ R.cells) (hsl : slots + rm.slots ≤ R.slots) :
    ∃ v T' L, Stand p l e R s m args below meth c T' (locs ++ L) (cells + rm.cells) (slots + rm.slots) ∧ Q v T'.heap L ∧ ∀ target, Steps p.tables e below (T'.setTop { g with pc := g.pc + 3, stack := v.toList ++ rest }) target → Steps p.tables e below (T.setTop g) target := by
  obtain ⟨v, _, ⟨T', L', k', n'⟩, -, X', ⟨L, hQ, l1, l2, l3⟩, st⟩ := X.specialBack hx (y := y) hy1 hown (mvT hZ w1) (mvT hZ w2) (mvT hZ w4) hy (backOf (W := W) (M []) hZ w4 w3 hf hl) hg hsize (Steps.refl _) (a := a) (argsL := argsL) (rest := rest) hlen hs hW hd (fun _ _ => ⟨rfl, eT, hc, hsl⟩)
  dsimp only [Pt.U, Pt.locs, Pt.cells, Pt.slots] at X' l1 l2 l3 st hQ
  subst l1 l2 l3
  exact ⟨v, T', L, X', hQ, fun _ k => st.trans k⟩
theorem own_callVi {y z : MethodName} {bytes : ByteArray} {maxL : Nat} {ret : Option FieldType} {rm : Room} {Q : Option Value → Heap → List Loc → Prop} {C : String} (X : Stand p l e R s m args below meth c T locs cells slots) (hx : p.tables.exec = Jvm.exec) (hZ : Z.Warmed39 s.vm) {own : String} {index : Nat} (hown : s.vm.findClass own = some m.cls)
    (w1 : (Jvm.Cond.methodLink own index y).before a0 Z = true) (w2 : (Jvm.Cond.declares y).before a0 Z = true) (nf : NotFace s y) (w5 : (Jvm.Cond.selects C y z).before a0 Z = true) (w6 : (Jvm.Cond.instanceMethod z).before a0 Z = true) (w3 : (Jvm.Cond.initialized z.cls).before a0 Z = true) (w4 : (Jvm.Cond.code z bytes maxL ret).before a0 Z = true) (hy : y.cls ≠ "java/lang/invoke/MethodHandle" ∧ y.cls ≠ "java/lang/invoke/VarHandle") (E : Exa Z h a C) {argsL rest : List Value}
    (M : own_Met l Z z bytes maxL ret rm (.ref a :: argsL).toArray h Q) (eT : T.heap = h) {W : Nat} (hf : rm.frames + 1 ≤ R.frames) (hl : W + (maxL + 11) + rm.locals ≤ R.locals) {g : JFrame} (hg : g.method = m) (hsize : g.locals.size = c.maxLocals) (hlen : ∀ sig, parseMethodDescriptor y.desc = some sig → argsL.length = sig.parameters.length) (hs : g.stack = argsL.reverse ++ .ref a :: rest) (hW : 2 * g.monitorRoom + (rest.map fun v => v.category).sum ≤ W) (hd : decode c.code g.pc = .ok (.invokevirtual index, 3)) (hc : cells + rm.cells ≤ R.cells) (hsl : slots + rm.slots ≤ R.slots) :
    ∃ v T' L, Stand p l e R s m args below meth c T' (locs ++ L) (cells + rm.cells) (slots + rm.slots) ∧ Q v T'.heap L ∧ ∀ target, Steps p.tables e below (T'.setTop { g with pc := g.pc + 3, stack := v.toList ++ rest }) target → Steps p.tables e below (T.setTop g) target := by
  obtain ⟨cq, kq, qa, qb, qc⟩ := isOf hZ eT E
  obtain ⟨v, _, ⟨T', L', k', n'⟩, -, X', ⟨L, hQ, l1, l2, l3⟩, st⟩ := X.virtualBack hx (y := y) (z := z) hown (mvT hZ w1) (mvT hZ w2) nf (mvT hZ w5) (mvT hZ w6) hy (backOf (W := W) (M []) hZ w4 w3 hf hl) qa qc hg hsize (Steps.refl _) (argsL := argsL) (rest := rest) hlen hs hW hd (fun _ _ => ⟨rfl, eT, hc, hsl⟩)
  dsimp only [Pt.U, Pt.locs, Pt.cells, Pt.slots] at X' l1 l2 l3 st hQ
  subst l1 l2 l3
  exact ⟨v, T', L, X', hQ, fun _ k => st.trans k⟩
/-- the whole contents of an array -/
def own_Av (Z : State) (h : Heap) (a : Addr) (ty : FieldType) (vs : List Value) : Prop := ∃ c : Cell, Arr Z h a c ty ∧ c.slots = vs.toArray ∧ vs.length < 2 ^ 31
theorem own_Av.lt (F : own_Av Z h a ty vs) : a < h.size := by obtain ⟨c, A, -⟩ := F; exact A.lt
theorem own_Av.ext (F : own_Av Z h a ty vs) (E : Ext h h') : own_Av Z h' a ty vs := by obtain ⟨c, A, r⟩ := F; exact ⟨c, A.ext E, r⟩
theorem own_Av.other (F : own_Av Z h b ty vs) (W : Wr h h' a sl v) (q : b ≠ a) : own_Av Z h' b ty vs := by obtain ⟨c, A, r⟩ := F; exact ⟨c, A.other W q, r⟩
theorem own_Av.keep (F : own_Av Z h a ty vs) (K : Keep h h' ws) (q : a ∉ ws) : own_Av Z h' a ty vs := by obtain ⟨c, A, r⟩ := F; exact ⟨c, ⟨K.2.1 a c A.1 q, A.2⟩, r⟩
theorem own_Av.len (F : own_Av Z h a ty vs) : vs.length < 2 ^ 31 := by obtain ⟨c, A, r, q⟩ := F; exact q
theorem own_Av.new {k : ClassId} {z : Int32} (A : Arr Z h a (newA k ty z) ty) : own_Av Z h a ty (List.replicate z.toNatClampNeg (defaultValue ty)) := ⟨_, A, by simp [newA], by rw [List.length_replicate]; have := z.toInt_lt; simp only [Int32.toNatClampNeg]; omega⟩
theorem own_Av.set (F : own_Av Z h a ty vs) {j : Nat} (W : Wr h h' a j v) : own_Av Z h' a ty (vs.set j v) := by
  obtain ⟨c, A, r, q⟩ := F
  refine ⟨_, A.same W, ?_, by rw [List.length_set]; exact q⟩
  simp [Cell.setSlot, r]
theorem own_in {c : Cell} {j : Int32} (r : c.slots = vs.toArray) (hj : ¬ j < 0) (hl : j.toNatClampNeg < vs.length) : ¬ (j < 0 ∨ c.slots.size ≤ j.toNatClampNeg) := by
  rw [r]; simp; exact ⟨Int32.not_lt.mp hj, hl⟩
theorem own_lt_of {α : Type} {vs : List α} {j : Nat} {v : α} (q : vs[j]? = some v) : j < vs.length := (List.getElem?_eq_some_iff.mp q).1
theorem own_ldI (X : Stand p l e R s m args below meth c T locs cells slots) (hx : p.tables.exec = Jvm.exec) (hZ : Z.Warmed39 s.vm) (eT : T.heap = h) (F : own_Av Z h a .int vs) {j : Int32} (hj : ¬ j < 0) (hv : vs[j.toNatClampNeg]? = some v) {g : JFrame} (hg : g.method = m) {rest : List Value} (hs : g.stack = .int j :: .ref a :: rest) (hd : decode c.code g.pc = .ok (.iaload, 1)) :
    ∀ target, Steps p.tables e below (T.setTop { g with pc := g.pc + 1, stack := v :: rest }) target → Steps p.tables e below (T.setTop g) target := by
  obtain ⟨cl, A, r, -⟩ := F
  exact X.iaload hx (j := j) (v := v) (by rw [eT]; exact A.1) (State.isArrayOf_alike hZ.alike A.2.1) A.2.2 (own_in r hj (own_lt_of hv)) (by rw [r]; simpa using hv) hg hs hd
theorem own_ldJ (X : Stand p l e R s m args below meth c T locs cells slots) (hx : p.tables.exec = Jvm.exec) (hZ : Z.Warmed39 s.vm) (eT : T.heap = h) (F : own_Av Z h a .long vs) {j : Int32} (hj : ¬ j < 0) (hv : vs[j.toNatClampNeg]? = some v) {g : JFrame} (hg : g.method = m) {rest : List Value} (hs : g.stack = .int j :: .ref a :: rest) (hd : decode c.code g.pc = .ok (.laload, 1)) :
    ∀ target, Steps p.tables e below (T.setTop { g with pc := g.pc + 1, stack := v :: rest }) target → Steps p.tables e below (T.setTop g) target := by
  obtain ⟨cl, A, r, -⟩ := F
  exact X.laload hx (j := j) (v := v) (by rw [eT]; exact A.1) (State.isArrayOf_alike hZ.alike A.2.1) A.2.2 (own_in r hj (own_lt_of hv)) (by rw [r]; simpa using hv) hg hs hd
theorem own_ldB (X : Stand p l e R s m args below meth c T locs cells slots) (hx : p.tables.exec = Jvm.exec) (hZ : Z.Warmed39 s.vm) (eT : T.heap = h) (F : own_Av Z h a .byte vs) {j : Int32} (hj : ¬ j < 0) (hv : vs[j.toNatClampNeg]? = some v) {g : JFrame} (hg : g.method = m) {rest : List Value} (hs : g.stack = .int j :: .ref a :: rest) (hd : decode c.code g.pc = .ok (.baload, 1)) :
    ∀ target, Steps p.tables e below (T.setTop { g with pc := g.pc + 1, stack := v :: rest }) target → Steps p.tables e below (T.setTop g) target := by
  obtain ⟨cl, A, r, -⟩ := F
  exact X.baloadBytes hx (j := j) (v := v) (by rw [eT]; exact A.1) (State.isArrayOf_alike hZ.alike A.2.1) A.2.2 (own_in r hj (own_lt_of hv)) (by rw [r]; simpa using hv) hg hs hd
theorem own_ldZ (X : Stand p l e R s m args below meth c T locs cells slots) (hx : p.tables.exec = Jvm.exec) (hZ : Z.Warmed39 s.vm) (eT : T.heap = h) (F : own_Av Z h a .boolean vs) {j : Int32} (hj : ¬ j < 0) (hv : vs[j.toNatClampNeg]? = some v) {g : JFrame} (hg : g.method = m) {rest : List Value} (hs : g.stack = .int j :: .ref a :: rest) (hd : decode c.code g.pc = .ok (.baload, 1)) :
    ∀ target, Steps p.tables e below (T.setTop { g with pc := g.pc + 1, stack := v :: rest }) target → Steps p.tables e below (T.setTop g) target := by
  obtain ⟨cl, A, r, -⟩ := F
  exact X.baloadBooleans hx (j := j) (v := v) (by rw [eT]; exact A.1) (State.isArrayOf_alike hZ.alike A.2.1) A.2.2 (own_in r hj (own_lt_of hv)) (by rw [r]; simpa using hv) hg hs hd
theorem own_alen (X : Stand p l e R s m args below meth c T locs cells slots) (hx : p.tables.exec = Jvm.exec) (hZ : Z.Warmed39 s.vm) (eT : T.heap = h) (F : own_Av Z h a ty vs) {n : Int32} (hn : vs.length.toInt32 = n) {g : JFrame} (hg : g.method = m) {rest : List Value} (hs : g.stack = .ref a :: rest) (hd : decode c.code g.pc = .ok (.arraylength, 1)) :
    ∀ target, Steps p.tables e below (T.setTop { g with pc := g.pc + 1, stack := .int n :: rest }) target → Steps p.tables e below (T.setTop g) target := by
  obtain ⟨cl, A, r, -⟩ := F
  have q := X.arraylength hx (by rw [eT]; exact A.1) (State.isArrayOf_alike hZ.alike A.2.1) hg hs hd
  have e1 : cl.slots.size.toInt32 = n := by rw [r]; simpa using hn
  rw [e1] at q; exact q
theorem own_stI (X : Stand p l e R s m args below meth c T locs cells slots) (hx : p.tables.exec = Jvm.exec) (hZ : Z.Warmed39 s.vm) (eT : T.heap = h) (F : own_Av Z h a .int vs) {j x : Int32} (hj : ¬ j < 0) (hl : j.toNatClampNeg < vs.length) {g : JFrame} (hg : g.method = m) {rest : List Value} (hs : g.stack = .int x :: .int j :: .ref a :: rest) (hd : decode c.code g.pc = .ok (.iastore, 1)) :
    ∃ T' h', Stand p l e R s m args below meth c T' (locs ++ [⟨a, j.toNatClampNeg⟩]) cells slots ∧ T'.heap = h' ∧ Wr h h' a j.toNatClampNeg (.int x) ∧ own_Av Z h' a .int (vs.set j.toNatClampNeg (.int x)) ∧ ∀ target, Steps p.tables e below (T'.setTop { g with pc := g.pc + 1, stack := rest }) target → Steps p.tables e below (T.setTop g) target := by
  obtain ⟨cl, A, r, q⟩ := F
  obtain ⟨T', h', X', e', W, st⟩ := stI X hx hZ eT A (own_in r hj hl) hg hs hd
  exact ⟨T', h', X', e', W, own_Av.set ⟨cl, A, r, q⟩ W, st⟩
theorem own_stJ (X : Stand p l e R s m args below meth c T locs cells slots) (hx : p.tables.exec = Jvm.exec) (hZ : Z.Warmed39 s.vm) (eT : T.heap = h) (F : own_Av Z h a .long vs) {j : Int32} {x : Int64} (hj : ¬ j < 0) (hl : j.toNatClampNeg < vs.length) {g : JFrame} (hg : g.method = m) {rest : List Value} (hs : g.stack = .long x :: .int j :: .ref a :: rest) (hd : decode c.code g.pc = .ok (.lastore, 1)) :
    ∃ T' h', Stand p l e R s m args below meth c T' (locs ++ [⟨a, j.toNatClampNeg⟩]) cells slots ∧ T'.heap = h' ∧ Wr h h' a j.toNatClampNeg (.long x) ∧ own_Av Z h' a .long (vs.set j.toNatClampNeg (.long x)) ∧ ∀ target, Steps p.tables e below (T'.setTop { g with pc := g.pc + 1, stack := rest }) target → Steps p.tables e below (T.setTop g) target := by
  obtain ⟨cl, A, r, q⟩ := F
  obtain ⟨T', h', X', e', W, st⟩ := stJ X hx hZ eT A (own_in r hj hl) hg hs hd
  exact ⟨T', h', X', e', W, own_Av.set ⟨cl, A, r, q⟩ W, st⟩
theorem own_stB (X : Stand p l e R s m args below meth c T locs cells slots) (hx : p.tables.exec = Jvm.exec) (hZ : Z.Warmed39 s.vm) (eT : T.heap = h) (F : own_Av Z h a .byte vs) {j x : Int32} (hj : ¬ j < 0) (hl : j.toNatClampNeg < vs.length) {g : JFrame} (hg : g.method = m) {rest : List Value} (hs : g.stack = .int x :: .int j :: .ref a :: rest) (hd : decode c.code g.pc = .ok (.bastore, 1)) :
    ∃ T' h', Stand p l e R s m args below meth c T' (locs ++ [⟨a, j.toNatClampNeg⟩]) cells slots ∧ T'.heap = h' ∧ Wr h h' a j.toNatClampNeg (.int x.toInt8.toInt32) ∧ own_Av Z h' a .byte (vs.set j.toNatClampNeg (.int x.toInt8.toInt32)) ∧ ∀ target, Steps p.tables e below (T'.setTop { g with pc := g.pc + 1, stack := rest }) target → Steps p.tables e below (T.setTop g) target := by
  obtain ⟨cl, A, r, q⟩ := F
  obtain ⟨T', h', X', e', W, st⟩ := stB X hx hZ eT A (own_in r hj hl) hg hs hd
  exact ⟨T', h', X', e', W, own_Av.set ⟨cl, A, r, q⟩ W, st⟩
theorem own_stZ (X : Stand p l e R s m args below meth c T locs cells slots) (hx : p.tables.exec = Jvm.exec) (hZ : Z.Warmed39 s.vm) (eT : T.heap = h) (F : own_Av Z h a .boolean vs) {j x : Int32} (hj : ¬ j < 0) (hl : j.toNatClampNeg < vs.length) {g : JFrame} (hg : g.method = m) {rest : List Value} (hs : g.stack = .int x :: .int j :: .ref a :: rest) (hd : decode c.code g.pc = .ok (.bastore, 1)) :
    ∃ T' h', Stand p l e R s m args below meth c T' (locs ++ [⟨a, j.toNatClampNeg⟩]) cells slots ∧ T'.heap = h' ∧ Wr h h' a j.toNatClampNeg (.int (x &&& 1)) ∧ own_Av Z h' a .boolean (vs.set j.toNatClampNeg (.int (x &&& 1))) ∧ ∀ target, Steps p.tables e below (T'.setTop { g with pc := g.pc + 1, stack := rest }) target → Steps p.tables e below (T.setTop g) target := by
  obtain ⟨cl, A, r, q⟩ := F
  obtain ⟨T', h', X', e', W, st⟩ := stZ X hx hZ eT A (own_in r hj hl) hg hs hd
  exact ⟨T', h', X', e', W, own_Av.set ⟨cl, A, r, q⟩ W, st⟩
theorem own_len {t : Term} {n : Int32} {cl : Cell} (q : (Jvm.Cond.eq (.length t) (.int n)).value args s none s [] = some true) (ht : t.eval args s none [] s = some (.ref a)) (A : Arr s s.heap a cl ty) (hn : ¬ n < 0) : cl.slots.size = n.toNatClampNeg := by
  have ha := Arr.fin (State.Warmed39.refl s).alike A
  by_cases hl : cl.slots.size < 2 ^ 31
  · have e1 := len_f (t := t) ht ha hl
    have e2 : cl.slots.size.toInt32 = n := by
      simp only [Cond.value, e1] at q
      simpa [Term.eval] using q
    rw [← e2]
    simp only [Int32.toNatClampNeg, len_toInt hl]; rfl
  · exfalso
    have e1 : (Term.length t).eval args s none [] s = none := by
      have hl' : ¬ cl.slots.size < 2147483648 := hl
      simp [Term.eval, ht, ha, hl']
    simp [Cond.value, e1] at q
theorem own_elemJ {t : Term} {j : Int32} {v : Int64} {cl : Cell} (q : (Jvm.Cond.eq (.elem t (.int j)) (.long v)).value args s none s [] = some true) (ht : t.eval args s none [] s = some (.ref a)) (A : Arr s s.heap a cl ty) : cl.slots[j.toNatClampNeg]? = some (.long v) := by
  cases e1 : (Term.elem t (.int j)).eval args s none [] s with
  | none => simp [Cond.value, e1] at q
  | some x =>
    have e2 := (elem_in e1 ht rfl A.1).2
    rw [e2]
    simp only [Cond.value, e1] at q
    cases x <;> simp [Term.eval] at q
    rw [q]
theorem own_elemI {t : Term} {j : Int32} {v : Int32} {cl : Cell} (q : (Jvm.Cond.eq (.elem t (.int j)) (.int v)).value args s none s [] = some true) (ht : t.eval args s none [] s = some (.ref a)) (A : Arr s s.heap a cl ty) : cl.slots[j.toNatClampNeg]? = some (.int v) := by
  cases e1 : (Term.elem t (.int j)).eval args s none [] s with
  | none => simp [Cond.value, e1] at q
  | some x =>
    have e2 := (elem_in e1 ht rfl A.1).2
    rw [e2]
    simp only [Cond.value, e1] at q
    cases x <;> simp [Term.eval] at q
    rw [q]
theorem own_Av.of {cl : Cell} (A : Arr Z h a cl ty) (hs : cl.slots.size = vs.length) (hv : ∀ i, i < vs.length → cl.slots[i]? = vs[i]?) (hl : vs.length < 2 ^ 31) : own_Av Z h a ty vs := by
  refine ⟨cl, A, ?_, hl⟩
  apply Array.ext
  · simpa using hs
  · intro i h1 h2
    have h3 : i < vs.length := by rw [← hs]; exact h1
    have := hv i h3
    rw [Array.getElem?_eq_getElem h1, List.getElem?_eq_getElem h3] at this
    simpa using this
theorem own_Sta.keep0 {C n d : String} (F : Sta Z h C n d v) (K : Keep h h' []) : Sta Z h' C n d v := by
  obtain ⟨cf, i, k, f, st, cell, h1, h2, h3, h4, h5, r⟩ := F; exact ⟨cf, i, k, f, st, cell, h1, h2, h3, h4, K.2.1 _ _ h5 nin0, r⟩
theorem own_fldJ {t : Term} {C n d : String} {z : Int64} (q : (Jvm.Cond.eq (.field t C n d) (.long z)).value args s none s [] = some true) (ht : t.eval args s none [] s = some (.ref a)) : Fld s s.heap a C n d (.long z) := by
  have e0 := fld_at (C := C) (n := n) (dd := d) ht
  refine Fld.start ?_
  cases e1 : s.fieldOf? a C n d with
  | none => rw [e1] at e0; simp [Cond.value, e0] at q
  | some x =>
    rw [e1] at e0
    simp only [Cond.value, e0] at q
    cases x <;> simp [Term.eval] at q
    rw [q]
theorem own_cloneI (X : Stand p l e R s m args below meth c T locs cells slots) (hx : p.tables.exec = Jvm.exec) (hZ : Z.Warmed39 s.vm) {own : String} {index : Nat} (hown : s.vm.findClass own = some m.cls)
    (w1 : (Jvm.Cond.methodLink own index ⟨"[I", "clone", "()Ljava/lang/Object;"⟩).before a0 Z = true) (w2 : (Jvm.Cond.sameMethod "[I" "java/lang/Object" "clone" "()Ljava/lang/Object;").before a0 Z = true) (w3 : (Jvm.Cond.native ⟨"java/lang/Object", "clone", "()Ljava/lang/Object;"⟩).before a0 Z = true)
    (w4 : (Jvm.Cond.instanceMethod ⟨"java/lang/Object", "clone", "()Ljava/lang/Object;"⟩).before a0 Z = true) (w5 : (Jvm.Cond.selects "[I" ⟨"[I", "clone", "()Ljava/lang/Object;"⟩ ⟨"java/lang/Object", "clone", "()Ljava/lang/Object;"⟩).before a0 Z = true) (w6 : (Jvm.Cond.castable "[I" "java/lang/Cloneable").before a0 Z = true)
    (eT : T.heap = h) {I : List Int32} (F : own_Av Z h a .int (I.map Value.int)) (E : Exa Z h a "[I") {g : JFrame} (hg : g.method = m) (hsize : g.locals.size = c.maxLocals) {rest : List Value} (hs : g.stack = .ref a :: rest) (hd : decode c.code g.pc = .ok (.invokevirtual index, 3))
    (hf : 1 ≤ R.frames) {W cap : Nat} (hW : 2 * g.monitorRoom + (rest.map fun v => v.category).sum ≤ W) (hl : W + 14 ≤ R.locals) (hcap : I.length ≤ cap) (hc : cells + 1 ≤ R.cells) (hsl : slots + cap ≤ R.slots) :
    ∃ T' h', Stand p l e R s m args below meth c T' locs (cells + 1) (slots + cap) ∧ T'.heap = h' ∧ Ext h h' ∧ own_Av Z h' h.size .int (I.map Value.int) ∧ Exa Z h' h.size "[I" ∧
      ∀ target, Steps p.tables e below (T'.setTop { g with pc := g.pc + 3, stack := .ref h.size :: rest }) target → Steps p.tables e below (T.setTop g) target := by
  obtain ⟨cl, A, r, q⟩ := F
  have FC : FitC Z cl := fitC_of A fun i hi v hv => by
    rw [r] at hv
    simp only [List.getElem?_toArray, List.getElem?_map, Option.map_eq_some_iff] at hv
    obtain ⟨z, -, rfl⟩ := hv
    rfl
  obtain ⟨T', h', X', e', ex, A', E', st⟩ := cloneA X hx hZ hown w1 w2 w3 w4 w5 w6 eT A E FC hg hsize hs hd hf hW hl (by rw [r]; simpa using hcap) hc hsl
  exact ⟨T', h', X', e', ex, ⟨cloneOf cl, A', r, q⟩, E', st⟩
theorem own_callPr {y y' : MethodName} {bytes : ByteArray} {maxL : Nat} {ret : Option FieldType} {rm : Room} {Q : Option Value → Heap → List Loc → Prop} (X : Stand p l e R s m args below meth c T locs cells slots) (hx : p.tables.exec = Jvm.exec) (hZ : Z.Warmed39 s.vm) {own : String} {index : Nat} (hown : s.vm.findClass own = some m.cls)
    (w1 : (Jvm.Cond.methodLink own index y).before a0 Z = true) (w2 : (Jvm.Cond.privateMethod y).before a0 Z = true) (w6 : (Jvm.Cond.instanceMethod y).before a0 Z = true) (w3 : (Jvm.Cond.initialized y.cls).before a0 Z = true) (w4 : (Jvm.Cond.code y bytes maxL ret).before a0 Z = true) (w7 : (Jvm.Cond.selects y.cls y' y').before a0 Z = true) (w8 : (Jvm.Cond.instanceMethod y').before a0 Z = true) (hcl : y'.cls = y.cls) (hy : y.cls ≠ "java/lang/invoke/MethodHandle" ∧ y.cls ≠ "java/lang/invoke/VarHandle") {C : String} (E : Exa Z h a C) {argsL rest : List Value}
    (M : own_Met l Z y bytes maxL ret rm (.ref a :: argsL).toArray h Q) (eT : T.heap = h) {W : Nat} (hf : rm.frames + 1 ≤ R.frames) (hl : W + (maxL + 11) + rm.locals ≤ R.locals) {g : JFrame} (hg : g.method = m) (hsize : g.locals.size = c.maxLocals) (hlen : ∀ sig, parseMethodDescriptor y.desc = some sig → argsL.length = sig.parameters.length) (hs : g.stack = argsL.reverse ++ .ref a :: rest) (hW : 2 * g.monitorRoom + (rest.map fun v => v.category).sum ≤ W) (hd : decode c.code g.pc = .ok (.invokevirtual index, 3)) (hc : cells + rm.cells ≤ R.cells) (hsl : slots + rm.slots ≤ R.slots) :
    ∃ v T' L, Stand p l e R s m args below meth c T' (locs ++ L) (cells + rm.cells) (slots + rm.slots) ∧ Q v T'.heap L ∧ ∀ target, Steps p.tables e below (T'.setTop { g with pc := g.pc + 3, stack := v.toList ++ rest }) target → Steps p.tables e below (T.setTop g) target := by
  obtain ⟨cq, qa, qb⟩ := E.cell
  have nf := notFace_of_selects (args := #[]) (mvT hZ w7)
  obtain ⟨mk', meth', hn', -⟩ := Cond.instanceMethod_spec (mvT (args := #[]) hZ w8)
  obtain ⟨k', hk', hni⟩ := nf mk' hn'
  have hc' := findClass_of_methodNamed hn'
  rw [hcl] at hc'
  have hpriv := Cond.privateMethod_at (mvP hZ w2 (args := #[]))
  have hsel := selects_self_of_private (args := args) hc' hk' hni hpriv (mvT hZ w6) hy
  obtain ⟨v, _, ⟨T', L', k', n'⟩, -, X', ⟨L, hQ, l1, l2, l3⟩, st⟩ := X.privateBack hx (y := y) hown (mvT hZ w1) (mvT hZ w6) hsel hpriv (mvT hZ w4) hy (backOf (W := W) (M []) hZ w4 w3 hf hl) hg hsize (Steps.refl _) (a := a) (by rw [eT]; exact qa) qb (argsL := argsL) (rest := rest) hlen hs hW hd (fun _ _ => ⟨rfl, eT, hc, hsl⟩)
  dsimp only [Pt.U, Pt.locs, Pt.cells, Pt.slots] at X' l1 l2 l3 st hQ
  subst l1 l2 l3
  exact ⟨v, T', L, X', hQ, fun _ k => st.trans k⟩
theorem own_clone {ad : String} (X : Stand p l e R s m args below meth c T locs cells slots) (hx : p.tables.exec = Jvm.exec) (hZ : Z.Warmed39 s.vm) {own : String} {index : Nat} (hown : s.vm.findClass own = some m.cls)
    (w1 : (Jvm.Cond.methodLink own index ⟨ad, "clone", "()Ljava/lang/Object;"⟩).before a0 Z = true) (w2 : (Jvm.Cond.sameMethod ad "java/lang/Object" "clone" "()Ljava/lang/Object;").before a0 Z = true) (w3 : (Jvm.Cond.native ⟨"java/lang/Object", "clone", "()Ljava/lang/Object;"⟩).before a0 Z = true)
    (w4 : (Jvm.Cond.instanceMethod ⟨"java/lang/Object", "clone", "()Ljava/lang/Object;"⟩).before a0 Z = true) (w5 : (Jvm.Cond.selects ad ⟨ad, "clone", "()Ljava/lang/Object;"⟩ ⟨"java/lang/Object", "clone", "()Ljava/lang/Object;"⟩).before a0 Z = true) (w6 : (Jvm.Cond.castable ad "java/lang/Cloneable").before a0 Z = true)
    (eT : T.heap = h) (F : own_Av Z h a ty vs) (hfit : ∀ v ∈ vs, fits ty v = true) (E : Exa Z h a ad) {g : JFrame} (hg : g.method = m) (hsize : g.locals.size = c.maxLocals) {rest : List Value} (hs : g.stack = .ref a :: rest) (hd : decode c.code g.pc = .ok (.invokevirtual index, 3))
    (hf : 1 ≤ R.frames) {W cap : Nat} (hW : 2 * g.monitorRoom + (rest.map fun v => v.category).sum ≤ W) (hl : W + 14 ≤ R.locals) (hcap : vs.length ≤ cap) (hc : cells + 1 ≤ R.cells) (hsl : slots + cap ≤ R.slots) :
    ∃ T' h', Stand p l e R s m args below meth c T' locs (cells + 1) (slots + cap) ∧ T'.heap = h' ∧ Ext h h' ∧ own_Av Z h' h.size ty vs ∧ Exa Z h' h.size ad ∧
      ∀ target, Steps p.tables e below (T'.setTop { g with pc := g.pc + 3, stack := .ref h.size :: rest }) target → Steps p.tables e below (T.setTop g) target := by
  obtain ⟨cl, A, r, q⟩ := F
  have FC : FitC Z cl := fitC_of A fun i hi v hv => by
    rw [r] at hv
    simp only [List.getElem?_toArray] at hv
    exact hfit v (List.mem_of_getElem? hv)
  obtain ⟨T', h', X', e', ex, A', E', st⟩ := cloneA X hx hZ hown w1 w2 w3 w4 w5 w6 eT A E FC hg hsize hs hd hf hW hl (by rw [r]; simpa using hcap) hc hsl
  exact ⟨T', h', X', e', ex, ⟨cloneOf cl, A', r, q⟩, E', st⟩
theorem own_Av.arv (F : own_Av Z h a ty vs) {dv : Value} (hfit : ∀ v ∈ vs, fits ty v = true) : ∃ k, Arv Z h a k ty vs.length.toInt32 vs dv := by
  obtain ⟨cl, A, r, q⟩ := F
  have e1 : vs.length.toInt32.toNatClampNeg = vs.length := by simp only [Int32.toNatClampNeg, len_toInt q]; rfl
  have hs : cl.slots.size = vs.length := by rw [r]; simp
  refine ⟨cl.cls, cl, A, rfl, by rw [e1, hs], ?_, fun k hk => ?_, fun i hi => ?_⟩
  · rw [Int32.lt_iff_toInt_lt, len_toInt q]; have : (0 : Int32).toInt = 0 := by decide
    omega
  · rw [hs] at hk; rw [r]; simp [List.getD_eq_getElem?_getD, List.getElem?_eq_getElem hk]
  · rw [hs] at hi
    have : vs.getD i dv = vs[i] := by simp [List.getD_eq_getElem?_getD, List.getElem?_eq_getElem hi]
    rw [this]; exact hfit _ (List.getElem_mem hi)
theorem own_stC (X : Stand p l e R s m args below meth c T locs cells slots) (hx : p.tables.exec = Jvm.exec) (hZ : Z.Warmed39 s.vm) (eT : T.heap = h) (F : own_Av Z h a .char vs) {j x : Int32} (hj : ¬ j < 0) (hl : j.toNatClampNeg < vs.length) {g : JFrame} (hg : g.method = m) {rest : List Value} (hs : g.stack = .int x :: .int j :: .ref a :: rest) (hd : decode c.code g.pc = .ok (.castore, 1)) :
    ∃ T' h', Stand p l e R s m args below meth c T' (locs ++ [⟨a, j.toNatClampNeg⟩]) cells slots ∧ T'.heap = h' ∧ Wr h h' a j.toNatClampNeg (.int x.toUInt32.toUInt16.toUInt32.toInt32) ∧ own_Av Z h' a .char (vs.set j.toNatClampNeg (.int x.toUInt32.toUInt16.toUInt32.toInt32)) ∧ ∀ target, Steps p.tables e below (T'.setTop { g with pc := g.pc + 1, stack := rest }) target → Steps p.tables e below (T.setTop g) target := by
  obtain ⟨cl, A, r, q⟩ := F
  obtain ⟨T', h', X', e', W, st⟩ := stC X hx hZ eT A (own_in r hj hl) hg hs hd
  exact ⟨T', h', X', e', W, own_Av.set ⟨cl, A, r, q⟩ W, st⟩
theorem own_ne_of (q : a < h.size) (r : h.size ≤ b) : a ≠ b := Nat.ne_of_lt (Nat.lt_of_lt_of_le q r)
end Own
section OwnD
variable {p : Program} {l : Launch} {e : Env} {R : Room} {s : State} {m : MethodId} {args : Array Value} {below : List Frame} {meth : Method} {c : Code} {T T' : State} {locs : List Loc} {cells slots : Nat} {Z : State} {a0 : Array Value} {h h' h0 : Heap} {g g' : JFrame} {a b : Addr} {ty : FieldType} {vs : List Value} {v w : Value} {sl : Nat} {ws : List Addr}
theorem own_retD {kc ks : Nat} {Q : Option Value → Heap → List Loc → Prop} (X : Stand p l e R s m args below meth c T locs cells slots) (hx : p.tables.exec = Jvm.exec) (hlk : meth.locks = false) {pc : Nat} {Ls : Array Slot} {z : UInt64} {rest : List Value} (hret : meth.sig.returnType = some .double) (hd : decode c.code pc = .ok (.dreturn, 1)) (hc : cells ≤ kc) (hs : slots ≤ ks) (hq : Q (some (.double z)) T.heap locs) : own_Go p e below (own_End s kc ks Q) T (mkF m pc Ls (.double z :: rest)) :=
  own_ends X hlk (fun q => by rw [hret] at q; cases q) hq hc hs fun fs hr => retOut X hx hret rfl (Or.inr (Or.inr (Or.inl ⟨rfl, rfl, _, rfl⟩))) hd hr
end OwnD
section OwnFloat
open Jvm.FP.Core
/-! doubles that stand for n * 2^e exactly; every value in units of 2^-3000 -/
def own_P (e : Int) : Nat := 2 ^ (e + 3000).toNat
theorem own_P_pos (e : Int) : 0 < own_P e := Nat.two_pow_pos _
theorem own_P_add {e : Int} (j : Nat) (h : -3000 ≤ e) : own_P (e + j) = own_P e * 2 ^ j := by
  unfold own_P
  rw [← Nat.pow_add, show (e + (j : Int) + 3000).toNat = (e + 3000).toNat + j by omega]
def own_rep (x : UInt64) (n e : Int) : Prop := ∃ s c q, val64 x = .fin s c q ∧ signed s c * (own_P q : Int) = n * (own_P e : Int)
/-- a number of at most 53 digits has a canonical form -/
theorem own_canon (s : Bool) {c0 : Nat} {e0 : Int} (h0 : 0 < c0) (hc : c0 < 2 ^ 53) (h1 : -900 ≤ e0) (h2 : e0 ≤ 900) :
    ∃ (c : Nat) (q : Int), Jvm.FP.Core.fits b64 (.fin s c q) ∧ c * own_P q = c0 * own_P e0 := by
  have hl : c0.log2 < 53 := (Nat.log2_lt (by omega)).mpr hc
  refine ⟨c0 * 2 ^ (52 - c0.log2), e0 - ((52 - c0.log2 : Nat) : Int), ?_, ?_⟩
  · have a1 : 2 ^ c0.log2 ≤ c0 := Nat.log2_self_le (by omega)
    have a2 : c0 < 2 ^ (c0.log2 + 1) := Nat.lt_log2_self
    have b1 : 2 ^ 52 ≤ c0 * 2 ^ (52 - c0.log2) := by
      calc 2 ^ 52 = 2 ^ c0.log2 * 2 ^ (52 - c0.log2) := by rw [← Nat.pow_add, show c0.log2 + (52 - c0.log2) = 52 by omega]
        _ ≤ _ := Nat.mul_le_mul_right _ a1
    have b2 : c0 * 2 ^ (52 - c0.log2) < 2 ^ 53 := by
      calc c0 * 2 ^ (52 - c0.log2) < 2 ^ (c0.log2 + 1) * 2 ^ (52 - c0.log2) := Nat.mul_lt_mul_of_pos_right a2 (Nat.two_pow_pos _)
        _ = 2 ^ 53 := by rw [← Nat.pow_add, show c0.log2 + 1 + (52 - c0.log2) = 53 by omega]
    have k1 : b64.qmin = -1074 := by decide
    have k2 : b64.qmax = 971 := by decide
    have k3 : b64.tails = 2 ^ 52 := by decide
    have k4 : b64.p = 53 := by decide
    refine ⟨by rw [k4]; exact b2, by rw [k1]; omega, by rw [k2]; omega, Or.inr (by rw [k3]; exact b1)⟩
  · have := own_P_add (e := e0 - ((52 - c0.log2 : Nat) : Int)) (52 - c0.log2) (by omega)
    rw [show e0 - ((52 - c0.log2 : Nat) : Int) + ((52 - c0.log2 : Nat) : Int) = e0 by omega] at this
    rw [this]; simp only [Nat.mul_assoc, Nat.mul_comm]
/-- a rounding that rounds nothing -/
theorem own_round (s : Bool) {A B c0 : Nat} {e e0 : Int} (hB : 0 < B) (hc : c0 < 2 ^ 53) (h1 : -900 ≤ e0) (h2 : e0 ≤ 900) (he : -3000 ≤ e)
    (h : A * own_P e = c0 * own_P e0 * B) : ∃ (c : Nat) (q : Int), roundRatio b64 s A B e = .fin s c q ∧ c * own_P q = c0 * own_P e0 := by
  rcases Nat.eq_zero_or_pos c0 with z | z
  · subst z
    have hA : A = 0 := by
      rcases Nat.eq_zero_or_pos A with q | q
      · exact q
      · have := Nat.mul_pos q (own_P_pos e); rw [h] at this; simp at this
    exact ⟨0, b64.qmin, by unfold roundRatio; rw [if_pos hA], by simp⟩
  · obtain ⟨c, q, hf, hv⟩ := own_canon s z hc h1 h2
    refine ⟨c, q, roundRatio_exact good_b64 hB hf ?_, hv⟩
    rw [← hv] at h
    have hq : -1074 ≤ q := by have := hf.2.1; have k1 : b64.qmin = -1074 := by decide
                              omega
    rcases Int.le_total e q with l | l
    · have r := own_P_add (e := e) (q - e).toNat he
      rw [show e + ((q - e).toNat : Int) = q by omega] at r
      rw [show (e - q).toNat = 0 by omega, Nat.pow_zero, Nat.mul_one]
      rw [r] at h
      refine Nat.eq_of_mul_eq_mul_right (own_P_pos e) ?_
      rw [h]; simp only [Nat.mul_assoc, Nat.mul_comm]
    · have r := own_P_add (e := q) (e - q).toNat (by omega)
      rw [show q + ((e - q).toNat : Int) = e by omega] at r
      rw [show (q - e).toNat = 0 by omega, Nat.pow_zero, Nat.mul_one]
      rw [r] at h
      refine Nat.eq_of_mul_eq_mul_right (own_P_pos q) ?_
      calc A * 2 ^ (e - q).toNat * own_P q = A * (own_P q * 2 ^ (e - q).toNat) := by simp only [Nat.mul_assoc, Nat.mul_comm]
        _ = c * own_P q * B := h
        _ = _ := by simp only [Nat.mul_assoc, Nat.mul_comm]
theorem own_signed_mul (s : Bool) (c k : Nat) : signed s c * (k : Int) = signed s (c * k) := by
  unfold signed; cases s <;> simp [Int.neg_mul]
theorem own_signed_abs (s : Bool) (c : Nat) : (signed s c).natAbs = c := by unfold signed; cases s <;> simp
theorem own_signed_not (s : Bool) (c : Nat) : signed (!s) c = - signed s c := by unfold signed; cases s <;> simp
theorem own_signed_xor (s t : Bool) (c d : Nat) : signed (s != t) (c * d) = signed s c * signed t d := by
  unfold signed; cases s <;> cases t <;> simp [Int.neg_mul, Int.mul_neg]
theorem own_signed_dec (v : Int) (s : Bool) (h : v ≠ 0 → s = decide (v < 0)) : signed s v.natAbs = v := by
  by_cases z : v = 0
  · subst z; unfold signed; cases s <;> rfl
  · rw [h z]; unfold signed
    by_cases l : v < 0
    · simp [l]; omega
    · simp [l]; omega
/-- the same, with signs -/
theorem own_roundS (s : Bool) {A B : Nat} {n e e0 : Int} (hB : 0 < B) (hn : n.natAbs < 2 ^ 53) (h1 : -900 ≤ e0) (h2 : e0 ≤ 900) (he : -3000 ≤ e)
    (h : signed s A * (own_P e : Int) = n * (own_P e0 : Int) * (B : Int)) : ∃ (c : Nat) (q : Int), roundRatio b64 s A B e = .fin s c q ∧ signed s c * (own_P q : Int) = n * (own_P e0 : Int) := by
  have h' : A * own_P e = n.natAbs * own_P e0 * B := by
    have := congrArg Int.natAbs h
    simpa [Int.natAbs_mul, own_signed_abs] using this
  obtain ⟨c, q, r1, r2⟩ := own_round s hB hn h1 h2 he h'
  refine ⟨c, q, r1, ?_⟩
  have hs : signed s n.natAbs = n := by
    apply own_signed_dec
    intro z
    have p1 := own_P_pos e; have p2 := own_P_pos e0
    have pB : 0 < own_P e0 * B := Nat.mul_pos p2 hB
    cases s with
    | false =>
      have : 0 ≤ n * (own_P e0 : Int) * (B : Int) := by rw [← h]; unfold signed; simp; exact Int.mul_nonneg (Int.natCast_nonneg _) (Int.natCast_nonneg _)
      rw [Int.mul_assoc] at this
      have k : 0 ≤ n := Int.nonneg_of_mul_nonneg_left this (by exact_mod_cast pB)
      simp; omega
    | true =>
      have : n * (own_P e0 : Int) * (B : Int) ≤ 0 := by rw [← h]; unfold signed; simp [Int.neg_mul]; exact Int.mul_nonneg (Int.natCast_nonneg _) (Int.natCast_nonneg _)
      rw [Int.mul_assoc] at this
      have k : n ≤ 0 := by
        rcases Int.le_total n 0 with q | q
        · exact q
        · have : 0 < n * ((own_P e0 : Int) * (B : Int)) := Int.mul_pos (by omega) (by exact_mod_cast pB)
          omega
      simp; omega
  calc signed s c * (own_P q : Int) = signed s (c * own_P q) := own_signed_mul _ _ _
    _ = signed s (n.natAbs * own_P e0) := by rw [r2]
    _ = _ := by rw [← own_signed_mul, hs]
theorem own_rep.same {x : UInt64} {n e n' e' : Int} (h : own_rep x n e) (q : n * (own_P e : Int) = n' * (own_P e' : Int)) : own_rep x n' e' := by
  obtain ⟨s, c, r, h1, h2⟩ := h; exact ⟨s, c, r, h1, h2.trans q⟩
theorem own_rep.shift {x : UInt64} {n e : Int} (h : own_rep x n e) (j : Nat) (he : -2900 ≤ e - j) : own_rep x (n * 2 ^ j) (e - j) := by
  refine h.same ?_
  have := own_P_add (e := e - j) j (by omega)
  rw [show e - (j : Int) + (j : Int) = e by omega] at this
  rw [this, Int.natCast_mul, Int.mul_assoc, Int.natCast_pow, Int.mul_comm (own_P (e - j) : Int)]; rfl
theorem own_rep.to {x : UInt64} {n e n' e' : Int} (h : own_rep x n e) (q : n = n') (r : e = e') : own_rep x n' e' := by subst q r; exact h
theorem own_rep.no {x : UInt64} {n e : Int} (h : own_rep x n e) : Jvm.Free.Fl.NoNaN64 x := by
  obtain ⟨s, c, q, h1, -⟩ := h
  refine Jvm.Free.Fl.noNaN64_no.mpr ?_
  show decide (val64 x = .nan) = false
  rw [h1]; rfl
theorem own_units (s : Bool) (c : Nat) {q m : Int} (h : m ≤ q) (hm : -3000 ≤ m) : signed s (inUnits c q m) * (own_P m : Int) = signed s c * (own_P q : Int) := by
  have r := own_P_add (e := m) (q - m).toNat hm
  rw [show m + ((q - m).toNat : Int) = q by omega] at r
  rw [r, own_signed_mul, own_signed_mul]; unfold inUnits
  rw [Nat.mul_assoc, Nat.mul_comm (own_P m)]
theorem own_sum {s t : Bool} {c d : Nat} {q r n k e : Int} (hq : -3000 ≤ q) (hr : -3000 ≤ r) (h1 : signed s c * (own_P q : Int) = n * (own_P e : Int)) (h2 : signed t d * (own_P r : Int) = k * (own_P e : Int)) (hn : (n + k).natAbs < 2 ^ 53) (e1 : -900 ≤ e) (e2 : e ≤ 900) :
    ∃ s' c' q', round b64 (exactSum (.fin s c q) (.fin t d r)) = .fin s' c' q' ∧ signed s' c' * (own_P q' : Int) = (n + k) * (own_P e : Int) := by
  have hm : -3000 ≤ min q r := by omega
  have hv : sumUnits s c q t d r (min q r) * (own_P (min q r) : Int) = (n + k) * (own_P e : Int) := by
    unfold sumUnits
    rw [Int.add_mul, own_units s c (by omega) hm, own_units t d (by omega) hm, h1, h2, Int.add_mul]
  obtain ⟨c', q', r1, r2⟩ := own_roundS (sumSign s t (sumUnits s c q t d r (min q r))) (A := (sumUnits s c q t d r (min q r)).natAbs) (B := 1) (n := n + k) (e := min q r) (e0 := e) (by decide) hn e1 e2 hm (by
    rw [own_signed_dec _ _ (fun z => by unfold sumSign; rw [if_neg z]), hv]; simp)
  exact ⟨_, c', q', r1, r2⟩
theorem own_q (x : UInt64) {s c q} (h : val64 x = .fin s c q) : -1074 ≤ q ∧ q ≤ 971 := by
  have f := val64_fits x
  rw [h] at f
  have k1 : b64.qmin = -1074 := by decide
  have k2 : b64.qmax = 971 := by decide
  have := f.2.1; have := f.2.2.1
  omega
theorem own_rep.add {x y : UInt64} {n k e : Int} (h : own_rep x n e) (g : own_rep y k e) (hn : (n + k).natAbs < 2 ^ 53) (e1 : -900 ≤ e) (e2 : e ≤ 900) : own_rep (Jvm.FP.dadd x y) (n + k) e := by
  obtain ⟨s, c, q, a1, a2⟩ := h; obtain ⟨t, d, r, b1, b2⟩ := g
  have q1 := own_q x a1; have q2 := own_q y b1
  obtain ⟨s', c', q', r1, r2⟩ := own_sum (q := q) (r := r) (by omega) (by omega) a2 b2 hn e1 e2
  exact ⟨s', c', q', by show val64 (Jvm.FP.Core.dadd _ _) = _; rw [val64_dadd, a1, b1]; exact r1, r2⟩
theorem own_rep.sub {x y : UInt64} {n k e : Int} (h : own_rep x n e) (g : own_rep y k e) (hn : (n - k).natAbs < 2 ^ 53) (e1 : -900 ≤ e) (e2 : e ≤ 900) : own_rep (Jvm.FP.dsub x y) (n - k) e := by
  obtain ⟨s, c, q, a1, a2⟩ := h; obtain ⟨t, d, r, b1, b2⟩ := g
  have q1 := own_q x a1; have q2 := own_q y b1
  obtain ⟨s', c', q', r1, r2⟩ := own_sum (q := q) (r := r) (t := !t) (k := -k) (by omega) (by omega) a2 (by rw [own_signed_not, Int.neg_mul, b2, Int.neg_mul]) (by rw [← Int.sub_eq_add_neg]; exact hn) e1 e2
  exact ⟨s', c', q', by show val64 (Jvm.FP.Core.dsub _ _) = _; rw [val64_dsub, a1, b1]; exact r1, by rw [r2, Int.sub_eq_add_neg]⟩
theorem own_P_mul {e f : Int} (he : -3000 ≤ e) (hf : -3000 ≤ f) (hef : -3000 ≤ e + f) : own_P e * own_P f = own_P (e + f) * 2 ^ 3000 := by
  unfold own_P
  rw [← Nat.pow_add, ← Nat.pow_add, show (e + 3000).toNat + (f + 3000).toNat = (e + f + 3000).toNat + 3000 by omega]
theorem own_rep.mul {x y : UInt64} {n k e f : Int} (h : own_rep x n e) (g : own_rep y k f) (hn : (n * k).natAbs < 2 ^ 53) (e1 : -400 ≤ e) (e2 : e ≤ 400) (f1 : -400 ≤ f) (f2 : f ≤ 400) : own_rep (Jvm.FP.dmul x y) (n * k) (e + f) := by
  obtain ⟨s, c, q, a1, a2⟩ := h; obtain ⟨t, d, r, b1, b2⟩ := g
  have q1 := own_q x a1; have q2 := own_q y b1
  have m1 : ((own_P q : Int) * (own_P r : Int)) = (own_P (q + r) : Int) * ((2 ^ 3000 : Nat) : Int) := by exact_mod_cast own_P_mul (by omega) (by omega) (by omega)
  have m2 : ((own_P e : Int) * (own_P f : Int)) = (own_P (e + f) : Int) * ((2 ^ 3000 : Nat) : Int) := by exact_mod_cast own_P_mul (by omega) (by omega) (by omega)
  have hz : ((2 ^ 3000 : Nat) : Int) ≠ 0 := by have := Nat.two_pow_pos 3000; omega
  obtain ⟨c', q', r1, r2⟩ := own_roundS (s != t) (A := c * d) (B := 1) (n := n * k) (e := q + r) (e0 := e + f) (by decide) hn (by omega) (by omega) (by omega) (by
    rw [own_signed_xor]
    refine Int.eq_of_mul_eq_mul_right hz ?_
    calc signed s c * signed t d * (own_P (q + r) : Int) * ((2 ^ 3000 : Nat) : Int) = signed s c * signed t d * ((own_P q : Int) * (own_P r : Int)) := by rw [m1]; simp only [Int.mul_assoc]
      _ = (signed s c * (own_P q : Int)) * (signed t d * (own_P r : Int)) := by simp only [Int.mul_assoc, Int.mul_comm, Int.mul_left_comm]
      _ = (n * (own_P e : Int)) * (k * (own_P f : Int)) := by rw [a2, b2]
      _ = n * k * ((own_P e : Int) * (own_P f : Int)) := by simp only [Int.mul_assoc, Int.mul_comm, Int.mul_left_comm]
      _ = _ := by rw [m2]; simp only [Int.mul_assoc, Int.mul_comm, Int.mul_left_comm]; simp)
  exact ⟨_, c', q', by show val64 (Jvm.FP.Core.dmul _ _) = _; rw [val64_dmul, a1, b1]; exact r1, r2⟩
theorem own_rep.i {i : Int32} : own_rep (Jvm.FP.i2d i) i.toInt 0 := by
  have b := Int32.toInt_lt i; have b2 := Int32.le_toInt i
  obtain ⟨c', q', r1, r2⟩ := own_roundS (decide (i.toInt < 0)) (A := i.toInt.natAbs) (B := 1) (n := i.toInt) (e := 0) (e0 := 0) (by decide) (by omega) (by decide) (by decide) (by decide) (by rw [own_signed_dec _ _ (fun _ => rfl)]; simp)
  exact ⟨_, c', q', by show val64 (Jvm.FP.Core.i2d _) = _; rw [val64_i2d]; exact r1, r2⟩
theorem own_rep.l {i : Int64} (h : i.toInt.natAbs < 2 ^ 53) : own_rep (Jvm.FP.l2d i) i.toInt 0 := by
  obtain ⟨c', q', r1, r2⟩ := own_roundS (decide (i.toInt < 0)) (A := i.toInt.natAbs) (B := 1) (n := i.toInt) (e := 0) (e0 := 0) (by decide) h (by decide) (by decide) (by decide) (by rw [own_signed_dec _ _ (fun _ => rfl)]; simp)
  exact ⟨_, c', q', by show val64 (Jvm.FP.Core.l2d _) = _; rw [val64_l2d]; exact r1, r2⟩
theorem own_rep.div {x y : UInt64} {n e : Int} {t : Nat} (ht : t ≤ 52) (hy : val64 y = .fin false (2 ^ 52) (-(t : Int))) (h : own_rep x n e) (hn : n.natAbs < 2 ^ 53) (e1 : -400 ≤ e) (e2 : e ≤ 400) : own_rep (Jvm.FP.ddiv x y) n (e + t - 52) := by
  obtain ⟨s, c, q, a1, a2⟩ := h
  have q1 := own_q x a1
  have p1 := own_P_add (e := q) t (by omega)
  have p2 := own_P_add (e := e) t (by omega)
  have p3 := own_P_add (e := e + t - 52) 52 (by omega)
  rw [show e + (t : Int) - 52 + ((52 : Nat) : Int) = e + t by omega, p2] at p3
  obtain ⟨c', q', r1, r2⟩ := own_roundS s (A := c) (B := 2 ^ 52) (n := n) (e := q + t) (e0 := e + t - 52) (by decide) hn (by omega) (by omega) (by omega) (by
    have p3' : (own_P e : Int) * ((2 ^ t : Nat) : Int) = (own_P (e + t - 52) : Int) * ((2 ^ 52 : Nat) : Int) := by exact_mod_cast p3
    rw [p1, Int.natCast_mul, ← Int.mul_assoc, a2, Int.mul_assoc, p3', Int.mul_assoc])
  refine ⟨s, c', q', ?_, r2⟩
  show val64 (Jvm.FP.Core.ddiv _ _) = _
  rw [val64_ddiv, a1, hy]
  have u : quotient b64 (.fin s c q) (.fin false (2 ^ 52) (-(t : Int))) = if 2 ^ 52 = 0 then (if c = 0 then .nan else .inf (s != false)) else roundRatio b64 (s != false) c (2 ^ 52) (q - -(t : Int)) := rfl
  rw [u, if_neg (by decide), show q - -(t : Int) = q + t by omega, Bool.bne_false]; exact r1
theorem own_rep.pow {y : UInt64} {t : Nat} (ht : t ≤ 52) (hy : val64 y = .fin false (2 ^ 52) (-(t : Int))) : own_rep y 1 (52 - t) := by
  refine ⟨_, _, _, hy, ?_⟩
  have p := own_P_add (e := -(t : Int)) 52 (by omega)
  rw [show -(t : Int) + ((52 : Nat) : Int) = 52 - t by omega] at p
  rw [p]; unfold signed; simp [Int.mul_comm]
theorem own_rep.cmp {x y : UInt64} {n e : Int} (h : own_rep x n e) (g : own_rep y n e) : Jvm.FP.dcmp x y = some .eq := by
  obtain ⟨s, c, q, a1, a2⟩ := h; obtain ⟨t, d, r, b1, b2⟩ := g
  have q1 := own_q x a1; have q2 := own_q y b1
  show order (val64 x) (val64 y) = _
  rw [a1, b1]
  have u1 := own_units s c (q := q) (m := min q r) (by omega) (by omega)
  have u2 := own_units t d (q := r) (m := min q r) (by omega) (by omega)
  have hp : (own_P (min q r) : Int) ≠ 0 := by have := own_P_pos (min q r); omega
  have e3 : signed s (inUnits c q (min q r)) = signed t (inUnits d r (min q r)) := Int.eq_of_mul_eq_mul_right hp (by rw [u1, u2, a2, b2])
  show some (compare _ _) = _
  rw [e3, Int.compare_eq_eq.mpr rfl]
/-! the law's numbers -/
theorem own_c2 : val64 4611686018427387904 = .fin false (2 ^ 52) (-((51 : Nat) : Int)) := by decide +kernel
theorem own_c4 : val64 4616189618054758400 = .fin false (2 ^ 52) (-((50 : Nat) : Int)) := by decide +kernel
theorem own_c1024 : val64 4652218415073722368 = .fin false (2 ^ 52) (-((42 : Nat) : Int)) := by decide +kernel
theorem own_c20 : val64 4697254411347427328 = .fin false (2 ^ 52) (-((32 : Nat) : Int)) := by decide +kernel
theorem own_abs {a b : Int} {A B : Nat} (h : a.natAbs ≤ A) (g : b.natAbs ≤ B) : (a * b).natAbs ≤ A * B := by rw [Int.natAbs_mul]; exact Nat.mul_le_mul h g
def own_In (x y : UInt64) (d : Int32) (K M : Int) : Prop := own_rep x K (-10) ∧ own_rep y M (-2) ∧ 0 ≤ K ∧ K ≤ 1024 ∧ 0 ≤ M ∧ M < 2 ^ 24 ∧ 0 ≤ d.toInt ∧ d.toInt < 2 ^ 24
theorem own_In.x {x y : UInt64} {d : Int32} {K M : Int} (I : own_In x y d K M) : own_rep x K (-10) := I.1
theorem own_In.y {x y : UInt64} {d : Int32} {K M : Int} (I : own_In x y d K M) : own_rep y M (-2) := I.2.1
theorem own_In.k0 {x y : UInt64} {d : Int32} {K M : Int} (I : own_In x y d K M) : 0 ≤ K := I.2.2.1
theorem own_In.k1 {x y : UInt64} {d : Int32} {K M : Int} (I : own_In x y d K M) : K ≤ 1024 := I.2.2.2.1
theorem own_In.m0 {x y : UInt64} {d : Int32} {K M : Int} (I : own_In x y d K M) : 0 ≤ M := I.2.2.2.2.1
theorem own_In.m1 {x y : UInt64} {d : Int32} {K M : Int} (I : own_In x y d K M) : M < 2 ^ 24 := I.2.2.2.2.2.1
theorem own_In.d0 {x y : UInt64} {d : Int32} {K M : Int} (I : own_In x y d K M) : 0 ≤ d.toInt := I.2.2.2.2.2.2.1
theorem own_In.d1 {x y : UInt64} {d : Int32} {K M : Int} (I : own_In x y d K M) : d.toInt < 2 ^ 24 := I.2.2.2.2.2.2.2
def own_a1 (x : UInt64) : UInt64 := Jvm.FP.dmul 4611686018427387904 x
def own_a2 (y : UInt64) (d : Int32) : UInt64 := Jvm.FP.dsub y (Jvm.FP.i2d d)
def own_a3 (x y : UInt64) (d : Int32) : UInt64 := Jvm.FP.dmul (own_a1 x) (own_a2 y d)
def own_a4 (x : UInt64) : UInt64 := Jvm.FP.dmul x x
def own_a5 (d : Int32) : UInt64 := Jvm.FP.dmul 4611686018427387904 (Jvm.FP.i2d d)
def own_a6 (y : UInt64) : UInt64 := Jvm.FP.dmul 4616189618054758400 y
def own_a7 (y : UInt64) (d : Int32) : UInt64 := Jvm.FP.dsub (own_a5 d) (own_a6 y)
def own_a8 (x y : UInt64) (d : Int32) : UInt64 := Jvm.FP.dmul (own_a4 x) (own_a7 y d)
def own_wc (x y : UInt64) (d : Int32) : UInt64 := Jvm.FP.dadd (own_a3 x y d) (own_a8 x y d)
section
variable {x y : UInt64} {d : Int32} {K M : Int}
theorem own_r1 (I : own_In x y d K M) : own_rep (own_a1 x) K (-9) := by
  have := I.k0; have := I.k1
  have r := (own_rep.pow (by decide) own_c2).mul I.x (by omega) (by decide) (by decide) (by decide) (by decide)
  rw [Int.one_mul] at r; exact r.to rfl (by decide)
theorem own_r2 (I : own_In x y d K M) : own_rep (own_a2 y d) (M - d.toInt * 4) (-2) := by
  have := I.m0; have := I.m1; have := I.d0; have := I.d1
  exact I.y.sub (((own_rep.i (i := d)).shift 2 (by decide)).to (n' := d.toInt * 4) (e' := -2) (by omega) (by decide)) (by omega) (by decide) (by decide)
theorem own_n2 (I : own_In x y d K M) : (K * (M - d.toInt * 4)).natAbs ≤ 1024 * 2 ^ 26 := by
  have := I.k0; have := I.k1; have := I.m0; have := I.m1; have := I.d0; have := I.d1
  exact own_abs (by omega) (by omega)
theorem own_r3 (I : own_In x y d K M) : own_rep (own_a3 x y d) (K * (M - d.toInt * 4)) (-11) := by
  have := own_n2 I
  exact ((own_r1 I).mul (own_r2 I) (by omega) (by decide) (by decide) (by decide) (by decide)).to rfl (by decide)
theorem own_n4 (I : own_In x y d K M) : (K * K).natAbs ≤ 1024 * 1024 := by
  have := I.k0; have := I.k1
  exact own_abs (by omega) (by omega)
theorem own_r4 (I : own_In x y d K M) : own_rep (own_a4 x) (K * K) (-20) := by
  have := own_n4 I
  exact (I.x.mul I.x (by omega) (by decide) (by decide) (by decide) (by decide)).to rfl (by decide)
theorem own_r5 (I : own_In x y d K M) : own_rep (own_a5 d) d.toInt 1 := by
  have := I.d0; have := I.d1
  have r := (own_rep.pow (by decide) own_c2).mul (own_rep.i (i := d)) (by omega) (by decide) (by decide) (by decide) (by decide)
  rw [Int.one_mul] at r; exact r.to rfl (by decide)
theorem own_r6 (I : own_In x y d K M) : own_rep (own_a6 y) M 0 := by
  have := I.m0; have := I.m1
  have r := (own_rep.pow (by decide) own_c4).mul I.y (by omega) (by decide) (by decide) (by decide) (by decide)
  rw [Int.one_mul] at r; exact r.to rfl (by decide)
theorem own_r7 (I : own_In x y d K M) : own_rep (own_a7 y d) (d.toInt * 2 - M) 0 := by
  have := I.m0; have := I.m1; have := I.d0; have := I.d1
  exact (((own_r5 I).shift 1 (by decide)).to (n' := d.toInt * 2) (e' := 0) (by omega) (by decide)).sub (own_r6 I) (by omega) (by decide) (by decide)
theorem own_n8 (I : own_In x y d K M) : (K * K * (d.toInt * 2 - M)).natAbs ≤ 1024 * 1024 * 2 ^ 25 := by
  have := I.m0; have := I.m1; have := I.d0; have := I.d1
  exact own_abs (own_n4 I) (by omega)
theorem own_r8 (I : own_In x y d K M) : own_rep (own_a8 x y d) (K * K * (d.toInt * 2 - M)) (-20) := by
  have := own_n8 I
  exact ((own_r4 I).mul (own_r7 I) (by omega) (by decide) (by decide) (by decide) (by decide)).to rfl (by decide)
theorem own_r9 (I : own_In x y d K M) : own_rep (own_wc x y d) (K * (M - d.toInt * 4) * 512 + K * K * (d.toInt * 2 - M)) (-20) := by
  have := own_n8 I; have := own_n2 I
  exact (((own_r3 I).shift 9 (by decide)).to (n' := K * (M - d.toInt * 4) * 512) (e' := -20) (by omega) (by decide)).add (own_r8 I) (by omega) (by decide) (by decide)
theorem own_r10 (I : own_In x y d K M) : own_rep (Jvm.FP.dmul (own_wc x y d) 4697254411347427328) (K * (M - d.toInt * 4) * 512 + K * K * (d.toInt * 2 - M)) 0 := by
  have := own_n8 I; have := own_n2 I
  have r := (own_r9 I).mul (own_rep.pow (by decide) own_c20) (by omega) (by decide) (by decide) (by decide) (by decide)
  rw [Int.mul_one] at r; exact r.to rfl (by decide)
end
end OwnFloat
theorem own_m1025 (x : Int32) : 0 ≤ ((x &&& (2147483647 : Int32)) % (1025 : Int32)).toInt ∧ ((x &&& (2147483647 : Int32)) % (1025 : Int32)).toInt ≤ 1024 := by
  have e1 : (x &&& (2147483647 : Int32)).toInt = x.toInt % (2 ^ 31 : Nat) := c_mask x 2147483647 31 (by decide) (by decide)
  have e2 : ((x &&& (2147483647 : Int32)) % (1025 : Int32)).toInt = (x &&& (2147483647 : Int32)).toInt % 1025 := (c_irem _ 1025 1025 (by decide)).1 (by omega)
  omega
theorem own_m24 (x : Int32) : 0 ≤ (x &&& (16777215 : Int32)).toInt ∧ (x &&& (16777215 : Int32)).toInt < 2 ^ 24 := by
  have e1 : (x &&& (16777215 : Int32)).toInt = x.toInt % (2 ^ 24 : Nat) := c_mask x 16777215 24 (by decide) (by decide)
  omega
theorem own_start (x0 x1 x2 : Int32) : own_In (Jvm.FP.ddiv (Jvm.FP.i2d ((x0 &&& (2147483647 : Int32)) % (1025 : Int32))) (4652218415073722368 : UInt64)) (Jvm.FP.ddiv (Jvm.FP.i2d (x1 &&& (16777215 : Int32))) (4616189618054758400 : UInt64)) (x2 &&& (16777215 : Int32)) ((x0 &&& (2147483647 : Int32)) % (1025 : Int32)).toInt (x1 &&& (16777215 : Int32)).toInt := by
  have a := own_m1025 x0; have b := own_m24 x1; have c := own_m24 x2
  exact ⟨(own_rep.i.div (t := 42) (by decide) own_c1024 (by omega) (by decide) (by decide)).to rfl (by decide), (own_rep.i.div (t := 50) (by decide) own_c4 (by omega) (by decide) (by decide)).to rfl (by decide), a.1, a.2, b.1, b.2, c.1, c.2⟩
theorem own_cmp0 {x y : UInt64} (h : Jvm.FP.dcmp x y = some .eq) : cmpValue (Jvm.FP.dcmp x y) .l = (0 : Int32) := by rw [h]; rfl
theorem own_mul64 (a b : Int64) (h : (a.toInt * b.toInt).natAbs < 2 ^ 62) : (a * b).toInt = a.toInt * b.toInt := by
  rw [Int64.toInt_mul]; exact Int.bmod_eq_of_le (by omega) (by omega)
theorem own_sub64 (a b : Int64) (h : (a.toInt - b.toInt).natAbs < 2 ^ 62) : (a - b).toInt = a.toInt - b.toInt := by
  rw [Int64.toInt_sub]; exact Int.bmod_eq_of_le (by omega) (by omega)
theorem own_num (k m d : Int32) (hk : 0 ≤ k.toInt ∧ k.toInt ≤ 1024) (hm : 0 ≤ m.toInt ∧ m.toInt < 2 ^ 24) (hd : 0 ≤ d.toInt ∧ d.toInt < 2 ^ 24) :
    ((((512 : Int64) * k.toInt64) * (m.toInt64 - ((4 : Int64) * d.toInt64))) - ((k.toInt64 * k.toInt64) * (m.toInt64 - ((2 : Int64) * d.toInt64)))).toInt = k.toInt * (m.toInt - d.toInt * 4) * 512 + k.toInt * k.toInt * (d.toInt * 2 - m.toInt) := by
  have c512 : (512 : Int64).toInt = 512 := by decide
  have c4 : (4 : Int64).toInt = 4 := by decide
  have c2 : (2 : Int64).toInt = 2 := by decide
  have t1 : ((512 : Int64) * k.toInt64).toInt = 512 * k.toInt := by
    have := own_mul64 512 k.toInt64 (by rw [c512, Int32.toInt_toInt64]; omega)
    rw [this, c512, Int32.toInt_toInt64]
  have t2 : ((4 : Int64) * d.toInt64).toInt = 4 * d.toInt := by
    have := own_mul64 4 d.toInt64 (by rw [c4, Int32.toInt_toInt64]; omega)
    rw [this, c4, Int32.toInt_toInt64]
  have t3 : ((2 : Int64) * d.toInt64).toInt = 2 * d.toInt := by
    have := own_mul64 2 d.toInt64 (by rw [c2, Int32.toInt_toInt64]; omega)
    rw [this, c2, Int32.toInt_toInt64]
  have t4 : (m.toInt64 - (4 : Int64) * d.toInt64).toInt = m.toInt - 4 * d.toInt := by
    rw [own_sub64 _ _ (by rw [t2, Int32.toInt_toInt64]; omega), t2, Int32.toInt_toInt64]
  have t5 : (m.toInt64 - (2 : Int64) * d.toInt64).toInt = m.toInt - 2 * d.toInt := by
    rw [own_sub64 _ _ (by rw [t3, Int32.toInt_toInt64]; omega), t3, Int32.toInt_toInt64]
  have b6 : (k.toInt * k.toInt).natAbs ≤ 1024 * 1024 := own_abs (by omega) (by omega)
  have t6 : (k.toInt64 * k.toInt64).toInt = k.toInt * k.toInt := by
    rw [own_mul64 _ _ (by rw [Int32.toInt_toInt64]; omega), Int32.toInt_toInt64]
  have b7 : (512 * k.toInt * (m.toInt - 4 * d.toInt)).natAbs ≤ 524288 * 2 ^ 26 := own_abs (by omega) (by omega)
  have t7 : (((512 : Int64) * k.toInt64) * (m.toInt64 - (4 : Int64) * d.toInt64)).toInt = 512 * k.toInt * (m.toInt - 4 * d.toInt) := by
    rw [own_mul64 _ _ (by rw [t1, t4]; omega), t1, t4]
  have b8 : (k.toInt * k.toInt * (m.toInt - 2 * d.toInt)).natAbs ≤ 1024 * 1024 * 2 ^ 25 := own_abs b6 (by omega)
  have t8 : ((k.toInt64 * k.toInt64) * (m.toInt64 - (2 : Int64) * d.toInt64)).toInt = k.toInt * k.toInt * (m.toInt - 2 * d.toInt) := by
    rw [own_mul64 _ _ (by rw [t6, t5]; omega), t6, t5]
  rw [own_sub64 _ _ (by rw [t7, t8]; omega), t7, t8]
  have u1 : 512 * k.toInt * (m.toInt - 4 * d.toInt) = k.toInt * (m.toInt - d.toInt * 4) * 512 := by
    rw [Int.mul_comm 512, Int.mul_assoc, Int.mul_comm 512, ← Int.mul_assoc, Int.mul_comm 4]
  have u2 : k.toInt * k.toInt * (d.toInt * 2 - m.toInt) = - (k.toInt * k.toInt * (m.toInt - 2 * d.toInt)) := by
    rw [← Int.mul_neg, Int.neg_sub, Int.mul_comm 2]
  rw [u1, u2, Int.sub_eq_add_neg]
theorem own_final (x0 x1 x2 : Int32) : Jvm.FP.dcmp (Jvm.FP.dmul (own_wc (Jvm.FP.ddiv (Jvm.FP.i2d ((x0 &&& (2147483647 : Int32)) % (1025 : Int32))) (4652218415073722368 : UInt64)) (Jvm.FP.ddiv (Jvm.FP.i2d (x1 &&& (16777215 : Int32))) (4616189618054758400 : UInt64)) (x2 &&& (16777215 : Int32))) (4697254411347427328 : UInt64))
    (Jvm.FP.l2d ((((512 : Int64) * (((x0 &&& (2147483647 : Int32)) % (1025 : Int32)).toInt64)) * (((x1 &&& (16777215 : Int32)).toInt64) - ((4 : Int64) * ((x2 &&& (16777215 : Int32)).toInt64)))) - (((((x0 &&& (2147483647 : Int32)) % (1025 : Int32)).toInt64) * (((x0 &&& (2147483647 : Int32)) % (1025 : Int32)).toInt64)) * (((x1 &&& (16777215 : Int32)).toInt64) - ((2 : Int64) * ((x2 &&& (16777215 : Int32)).toInt64)))))) = some .eq := by
  have hI := own_start x0 x1 x2
  have e := own_num ((x0 &&& (2147483647 : Int32)) % (1025 : Int32)) (x1 &&& (16777215 : Int32)) (x2 &&& (16777215 : Int32)) (own_m1025 x0) (own_m24 x1) (own_m24 x2)
  have n2 := own_n2 hI; have n8 := own_n8 hI
  refine (own_r10 hI).cmp ((own_rep.l ?_).to e rfl)
  rw [e]; omega

theorem own_d1_0 : decode prog_55_method_7_code 0 = .ok (.ldc2_w 63, 3) := by decide +kernel
theorem own_d1_3 : decode prog_55_method_7_code 3 = .ok (.dload_n 0, 1) := by decide +kernel
theorem own_d1_4 : decode prog_55_method_7_code 4 = .ok (.dmul, 1) := by decide +kernel
theorem own_d1_5 : decode prog_55_method_7_code 5 = .ok (.dload_n 2, 1) := by decide +kernel
theorem own_d1_6 : decode prog_55_method_7_code 6 = .ok (.iload 4, 2) := by decide +kernel
theorem own_d1_8 : decode prog_55_method_7_code 8 = .ok (.i2d, 1) := by decide +kernel
theorem own_d1_9 : decode prog_55_method_7_code 9 = .ok (.dsub, 1) := by decide +kernel
theorem own_d1_10 : decode prog_55_method_7_code 10 = .ok (.dmul, 1) := by decide +kernel
theorem own_d1_11 : decode prog_55_method_7_code 11 = .ok (.dload_n 0, 1) := by decide +kernel
theorem own_d1_12 : decode prog_55_method_7_code 12 = .ok (.dload_n 0, 1) := by decide +kernel
theorem own_d1_13 : decode prog_55_method_7_code 13 = .ok (.dmul, 1) := by decide +kernel
theorem own_d1_14 : decode prog_55_method_7_code 14 = .ok (.ldc2_w 63, 3) := by decide +kernel
theorem own_d1_17 : decode prog_55_method_7_code 17 = .ok (.iload 4, 2) := by decide +kernel
theorem own_d1_19 : decode prog_55_method_7_code 19 = .ok (.i2d, 1) := by decide +kernel
theorem own_d1_20 : decode prog_55_method_7_code 20 = .ok (.dmul, 1) := by decide +kernel
theorem own_d1_21 : decode prog_55_method_7_code 21 = .ok (.ldc2_w 68, 3) := by decide +kernel
theorem own_d1_24 : decode prog_55_method_7_code 24 = .ok (.dload_n 2, 1) := by decide +kernel
theorem own_d1_25 : decode prog_55_method_7_code 25 = .ok (.dmul, 1) := by decide +kernel
theorem own_d1_26 : decode prog_55_method_7_code 26 = .ok (.dsub, 1) := by decide +kernel
theorem own_d1_27 : decode prog_55_method_7_code 27 = .ok (.dmul, 1) := by decide +kernel
theorem own_d1_28 : decode prog_55_method_7_code 28 = .ok (.dadd, 1) := by decide +kernel
theorem own_d1_29 : decode prog_55_method_7_code 29 = .ok (.dreturn, 1) := by decide +kernel
theorem own_pn0 : plainName "com/example/hairball_to_map/hairballtomap/OverlapDerivatives" = true := by first | (simp [plainName, overriddenIn]; done) | decide +kernel
set_option maxHeartbeats 40000000 in
theorem own_mtw_ef (m : MethodId) (x0 : UInt64) (x1 : UInt64) (x2 : Int32) : entryFrame m #[(.double x0), (.double x1), (.int x2)] 5 = mkF m 0 #[.val (.double x0), .second, .val (.double x1), .second, .val (.int x2)] [] := by first | (simp [entryFrame, mkF, argsToLocals, Value.category, maxLocals]; done) | rfl
set_option maxRecDepth 65536 in
set_option maxHeartbeats 40000000 in
theorem own_mtw (l : Launch) (Z : State) (a0 : Array Value) (hw : ∀ d ∈ tables_1, d.before a0 Z = true) (x0 : UInt64) (x1 : UInt64) (x2 : Int32) (K M : Int) (h0 : Heap) (hI : own_In x0 x1 x2 K M) :
    own_Met l Z (⟨"com/example/hairball_to_map/hairballtomap/OverlapDerivatives", "widthCurvature", "(DDI)D"⟩ : MethodName) prog_55_method_7_code 5 (some .double) ({ frames := 0, cells := 0, slots := 0, locals := 0 } : Room) #[(.double x0), (.double x1), (.int x2)] h0 (fun v h L => v = some (.double (own_wc x0 x1 x2)) ∧ h = h0 ∧ L = []) := by
  refine own_intro (plainFor_of_name own_pn0) ?_
  intro p e s m below meth c s₁ hx hby hml hown hnm hZ hret hlk X0 e0
  refine own_cast (own_mtw_ef m x0 x1 x2) ?_
  refine own_via (T' := s₁) (g' := (mkF m 3 #[.val (.double x0), .second, .val (.double x1), .second, .val (.int x2)] [(.double (4611686018427387904 : UInt64))])) (X0.ldc2DoubleC hx hown (mvT hZ (hw _ (List.mem_of_getElem? (i := 8) rfl))) (g := (mkF m 0 #[.val (.double x0), .second, .val (.double x1), .second, .val (.int x2)] [])) rfl (hb hby own_d1_0)) ?_
  refine own_via (T' := s₁) (g' := (mkF m 5 #[.val (.double x0), .second, .val (.double x1), .second, .val (.int x2)] [(.double (own_a1 x0))])) (fun t k => XS.dloadN X0.here hx rfl (hb hby own_d1_3) rfl (XS.dmulS X0.here hx rfl (hb hby own_d1_4) rfl (own_r1 hI).no rfl k)) ?_
  refine own_via (T' := s₁) (g' := (mkF m 8 #[.val (.double x0), .second, .val (.double x1), .second, .val (.int x2)] [(.int x2), (.double x1), (.double (own_a1 x0))])) (fun t k => XS.dloadN X0.here hx rfl (hb hby own_d1_5) rfl (XS.iload X0.here hx rfl (hb hby own_d1_6) rfl k)) ?_
  refine own_via (T' := s₁) (g' := (mkF m 11 #[.val (.double x0), .second, .val (.double x1), .second, .val (.int x2)] [(.double (own_a3 x0 x1 x2))])) (fun t k => XS.i2dS X0.here hx rfl (hb hby own_d1_8) rfl rfl (XS.dsubS X0.here hx rfl (hb hby own_d1_9) rfl (own_r2 hI).no rfl (XS.dmulS X0.here hx rfl (hb hby own_d1_10) rfl (own_r3 hI).no rfl k))) ?_
  refine own_via (T' := s₁) (g' := (mkF m 12 #[.val (.double x0), .second, .val (.double x1), .second, .val (.int x2)] [(.double x0), (.double (own_a3 x0 x1 x2))])) (fun t k => XS.dloadN X0.here hx rfl (hb hby own_d1_11) rfl k) ?_
  refine own_via (T' := s₁) (g' := (mkF m 14 #[.val (.double x0), .second, .val (.double x1), .second, .val (.int x2)] [(.double (own_a4 x0)), (.double (own_a3 x0 x1 x2))])) (fun t k => XS.dloadN X0.here hx rfl (hb hby own_d1_12) rfl (XS.dmulS X0.here hx rfl (hb hby own_d1_13) rfl (own_r4 hI).no rfl k)) ?_
  refine own_via (T' := s₁) (g' := (mkF m 17 #[.val (.double x0), .second, .val (.double x1), .second, .val (.int x2)] [(.double (4611686018427387904 : UInt64)), (.double (own_a4 x0)), (.double (own_a3 x0 x1 x2))])) (X0.ldc2DoubleC hx hown (mvT hZ (hw _ (List.mem_of_getElem? (i := 8) rfl))) (g := (mkF m 14 #[.val (.double x0), .second, .val (.double x1), .second, .val (.int x2)] [(.double (own_a4 x0)), (.double (own_a3 x0 x1 x2))])) rfl (hb hby own_d1_14)) ?_
  refine own_via (T' := s₁) (g' := (mkF m 19 #[.val (.double x0), .second, .val (.double x1), .second, .val (.int x2)] [(.int x2), (.double (4611686018427387904 : UInt64)), (.double (own_a4 x0)), (.double (own_a3 x0 x1 x2))])) (fun t k => XS.iload X0.here hx rfl (hb hby own_d1_17) rfl k) ?_
  refine own_via (T' := s₁) (g' := (mkF m 21 #[.val (.double x0), .second, .val (.double x1), .second, .val (.int x2)] [(.double (own_a5 x2)), (.double (own_a4 x0)), (.double (own_a3 x0 x1 x2))])) (fun t k => XS.i2dS X0.here hx rfl (hb hby own_d1_19) rfl rfl (XS.dmulS X0.here hx rfl (hb hby own_d1_20) rfl (own_r5 hI).no rfl k)) ?_
  refine own_via (T' := s₁) (g' := (mkF m 24 #[.val (.double x0), .second, .val (.double x1), .second, .val (.int x2)] [(.double (4616189618054758400 : UInt64)), (.double (own_a5 x2)), (.double (own_a4 x0)), (.double (own_a3 x0 x1 x2))])) (X0.ldc2DoubleC hx hown (mvT hZ (hw _ (List.mem_of_getElem? (i := 9) rfl))) (g := (mkF m 21 #[.val (.double x0), .second, .val (.double x1), .second, .val (.int x2)] [(.double (own_a5 x2)), (.double (own_a4 x0)), (.double (own_a3 x0 x1 x2))])) rfl (hb hby own_d1_21)) ?_
  refine own_via (T' := s₁) (g' := (mkF m 29 #[.val (.double x0), .second, .val (.double x1), .second, .val (.int x2)] [(.double (own_wc x0 x1 x2))])) (fun t k => XS.dloadN X0.here hx rfl (hb hby own_d1_24) rfl (XS.dmulS X0.here hx rfl (hb hby own_d1_25) rfl (own_r6 hI).no rfl (XS.dsubS X0.here hx rfl (hb hby own_d1_26) rfl (own_r7 hI).no rfl (XS.dmulS X0.here hx rfl (hb hby own_d1_27) rfl (own_r8 hI).no rfl (XS.daddS X0.here hx rfl (hb hby own_d1_28) rfl (own_r9 hI).no rfl k))))) ?_
  refine own_retD X0 hx hlk hret (hb hby own_d1_29) (by decide) (by decide) ?_
  exact ⟨rfl, e0, rfl⟩
def own_f0 (x0 x1 x2 : Int32) : Int32 := 1
theorem own_law (x0 x1 x2 : Int32) : own_f0 x0 x1 x2 = 1 := rfl
theorem own_pn1 : plainName "com/example/hairball_to_map/hairballtomap/OverlapDerivativesWidthCurvaturePinLaw" = true := by first | (simp [plainName, overriddenIn]; done) | decide +kernel
theorem own_pd0 : parseMethodDescriptor "(DDI)D" = some ⟨[.double, .double, .int], some .double⟩ := by decide +kernel
set_option maxHeartbeats 40000000 in
theorem own_mt0_ef (m : MethodId) (x0 : Int32) (x1 : Int32) (x2 : Int32) : entryFrame m #[(.int x0), (.int x1), (.int x2)] maxLocals = mkF m 0 #[.val (.int x0), .val (.int x1), .val (.int x2), .unset, .unset, .unset, .unset, .unset, .unset, .unset, .unset, .unset, .unset, .unset, .unset, .unset] [] := by first | (simp [entryFrame, mkF, argsToLocals, Value.category, maxLocals]; done) | rfl
set_option maxRecDepth 65536 in
set_option maxHeartbeats 40000000 in
theorem own_mt0 (l : Launch) (Z : State) (a0 : Array Value) (hw : ∀ d ∈ tables_1, d.before a0 Z = true) (x0 : Int32) (x1 : Int32) (x2 : Int32)  (h0 : Heap) :
    own_Met l Z x code maxLocals ret room_1 #[(.int x0), (.int x1), (.int x2)] h0 (fun v h L => v = some (.int (own_f0 x0 x1 x2)) ∧ h = h0 ∧ L = []) := by
  refine own_intro (plainFor_of_name own_pn1) ?_
  intro p e s m below meth c s₁ hx hby hml hown hnm hZ hret hlk X0 e0
  refine own_cast (own_mt0_ef m x0 x1 x2) ?_
  have hI := own_start x0 x1 x2
  refine own_via (T' := s₁) (g' := (mkF m 1 #[.val (.int x0), .val (.int x1), .val (.int x2), .unset, .unset, .unset, .unset, .unset, .unset, .unset, .unset, .unset, .unset, .unset, .unset, .unset] [(.int x0)])) (fun t k => XS.iloadN X0.here hx rfl (hb hby at_0) rfl k) ?_
  refine own_via (T' := s₁) (g' := (mkF m 3 #[.val (.int x0), .val (.int x1), .val (.int x2), .unset, .unset, .unset, .unset, .unset, .unset, .unset, .unset, .unset, .unset, .unset, .unset, .unset] [(.int (2147483647 : Int32)), (.int x0)])) (X0.ldcInt hx hown (mvT hZ (hw _ (List.mem_of_getElem? (i := 0) rfl))) (g := (mkF m 1 #[.val (.int x0), .val (.int x1), .val (.int x2), .unset, .unset, .unset, .unset, .unset, .unset, .unset, .unset, .unset, .unset, .unset, .unset, .unset] [(.int x0)])) rfl (hb hby at_1)) ?_
  refine own_via (T' := s₁) (g' := (mkF m 10 #[.val (.int x0), .val (.int x1), .val (.int x2), .val (.int ((x0 &&& (2147483647 : Int32)) % (1025 : Int32))), .unset, .unset, .unset, .unset, .unset, .unset, .unset, .unset, .unset, .unset, .unset, .unset] [(.int x1)])) (fun t k => XS.iand X0.here hx rfl (hb hby at_3) rfl (XS.sipush X0.here hx rfl (hb hby at_4) (iremM X0 hx rfl (hb hby at_7) rfl (by decide) (XS.istoreN X0.here hx rfl (hb hby at_8) rfl (l' := #[.val (.int x0), .val (.int x1), .val (.int x2), .val (.int ((x0 &&& (2147483647 : Int32)) % (1025 : Int32))), .unset, .unset, .unset, .unset, .unset, .unset, .unset, .unset, .unset, .unset, .unset, .unset]) rfl (XS.iloadN X0.here hx rfl (hb hby at_9) rfl k))))) ?_
  refine own_via (T' := s₁) (g' := (mkF m 12 #[.val (.int x0), .val (.int x1), .val (.int x2), .val (.int ((x0 &&& (2147483647 : Int32)) % (1025 : Int32))), .unset, .unset, .unset, .unset, .unset, .unset, .unset, .unset, .unset, .unset, .unset, .unset] [(.int (16777215 : Int32)), (.int x1)])) (X0.ldcInt hx hown (mvT hZ (hw _ (List.mem_of_getElem? (i := 1) rfl))) (g := (mkF m 10 #[.val (.int x0), .val (.int x1), .val (.int x2), .val (.int ((x0 &&& (2147483647 : Int32)) % (1025 : Int32))), .unset, .unset, .unset, .unset, .unset, .unset, .unset, .unset, .unset, .unset, .unset, .unset] [(.int x1)])) rfl (hb hby at_10)) ?_
  refine own_via (T' := s₁) (g' := (mkF m 16 #[.val (.int x0), .val (.int x1), .val (.int x2), .val (.int ((x0 &&& (2147483647 : Int32)) % (1025 : Int32))), .val (.int (x1 &&& (16777215 : Int32))), .unset, .unset, .unset, .unset, .unset, .unset, .unset, .unset, .unset, .unset, .unset] [(.int x2)])) (fun t k => XS.iand X0.here hx rfl (hb hby at_12) rfl (XS.istore X0.here hx rfl (hb hby at_13) rfl (l' := #[.val (.int x0), .val (.int x1), .val (.int x2), .val (.int ((x0 &&& (2147483647 : Int32)) % (1025 : Int32))), .val (.int (x1 &&& (16777215 : Int32))), .unset, .unset, .unset, .unset, .unset, .unset, .unset, .unset, .unset, .unset, .unset]) rfl (XS.iloadN X0.here hx rfl (hb hby at_15) rfl k))) ?_
  refine own_via (T' := s₁) (g' := (mkF m 18 #[.val (.int x0), .val (.int x1), .val (.int x2), .val (.int ((x0 &&& (2147483647 : Int32)) % (1025 : Int32))), .val (.int (x1 &&& (16777215 : Int32))), .unset, .unset, .unset, .unset, .unset, .unset, .unset, .unset, .unset, .unset, .unset] [(.int (16777215 : Int32)), (.int x2)])) (X0.ldcInt hx hown (mvT hZ (hw _ (List.mem_of_getElem? (i := 1) rfl))) (g := (mkF m 16 #[.val (.int x0), .val (.int x1), .val (.int x2), .val (.int ((x0 &&& (2147483647 : Int32)) % (1025 : Int32))), .val (.int (x1 &&& (16777215 : Int32))), .unset, .unset, .unset, .unset, .unset, .unset, .unset, .unset, .unset, .unset, .unset] [(.int x2)])) rfl (hb hby at_16)) ?_
  refine own_via (T' := s₁) (g' := (mkF m 22 #[.val (.int x0), .val (.int x1), .val (.int x2), .val (.int ((x0 &&& (2147483647 : Int32)) % (1025 : Int32))), .val (.int (x1 &&& (16777215 : Int32))), .val (.int (x2 &&& (16777215 : Int32))), .unset, .unset, .unset, .unset, .unset, .unset, .unset, .unset, .unset, .unset] [(.int ((x0 &&& (2147483647 : Int32)) % (1025 : Int32)))])) (fun t k => XS.iand X0.here hx rfl (hb hby at_18) rfl (XS.istore X0.here hx rfl (hb hby at_19) rfl (l' := #[.val (.int x0), .val (.int x1), .val (.int x2), .val (.int ((x0 &&& (2147483647 : Int32)) % (1025 : Int32))), .val (.int (x1 &&& (16777215 : Int32))), .val (.int (x2 &&& (16777215 : Int32))), .unset, .unset, .unset, .unset, .unset, .unset, .unset, .unset, .unset, .unset]) rfl (XS.iloadN X0.here hx rfl (hb hby at_21) rfl k))) ?_
  refine own_via (T' := s₁) (g' := (mkF m 23 #[.val (.int x0), .val (.int x1), .val (.int x2), .val (.int ((x0 &&& (2147483647 : Int32)) % (1025 : Int32))), .val (.int (x1 &&& (16777215 : Int32))), .val (.int (x2 &&& (16777215 : Int32))), .unset, .unset, .unset, .unset, .unset, .unset, .unset, .unset, .unset, .unset] [(.double (Jvm.FP.i2d ((x0 &&& (2147483647 : Int32)) % (1025 : Int32))))])) (fun t k => XS.i2dS X0.here hx rfl (hb hby at_22) rfl rfl k) ?_
  refine own_via (T' := s₁) (g' := (mkF m 26 #[.val (.int x0), .val (.int x1), .val (.int x2), .val (.int ((x0 &&& (2147483647 : Int32)) % (1025 : Int32))), .val (.int (x1 &&& (16777215 : Int32))), .val (.int (x2 &&& (16777215 : Int32))), .unset, .unset, .unset, .unset, .unset, .unset, .unset, .unset, .unset, .unset] [(.double (4652218415073722368 : UInt64)), (.double (Jvm.FP.i2d ((x0 &&& (2147483647 : Int32)) % (1025 : Int32))))])) (X0.ldc2DoubleC hx hown (mvT hZ (hw _ (List.mem_of_getElem? (i := 2) rfl))) (g := (mkF m 23 #[.val (.int x0), .val (.int x1), .val (.int x2), .val (.int ((x0 &&& (2147483647 : Int32)) % (1025 : Int32))), .val (.int (x1 &&& (16777215 : Int32))), .val (.int (x2 &&& (16777215 : Int32))), .unset, .unset, .unset, .unset, .unset, .unset, .unset, .unset, .unset, .unset] [(.double (Jvm.FP.i2d ((x0 &&& (2147483647 : Int32)) % (1025 : Int32))))])) rfl (hb hby at_23)) ?_
  refine own_via (T' := s₁) (g' := (mkF m 27 #[.val (.int x0), .val (.int x1), .val (.int x2), .val (.int ((x0 &&& (2147483647 : Int32)) % (1025 : Int32))), .val (.int (x1 &&& (16777215 : Int32))), .val (.int (x2 &&& (16777215 : Int32))), .unset, .unset, .unset, .unset, .unset, .unset, .unset, .unset, .unset, .unset] [(.double (Jvm.FP.ddiv (Jvm.FP.i2d ((x0 &&& (2147483647 : Int32)) % (1025 : Int32))) (4652218415073722368 : UInt64)))])) (fun t k => XS.ddivS X0.here hx rfl (hb hby at_26) rfl hI.x.no rfl k) ?_
  refine own_via (T' := s₁) (g' := (mkF m 31 #[.val (.int x0), .val (.int x1), .val (.int x2), .val (.int ((x0 &&& (2147483647 : Int32)) % (1025 : Int32))), .val (.int (x1 &&& (16777215 : Int32))), .val (.int (x2 &&& (16777215 : Int32))), .val (.double (Jvm.FP.ddiv (Jvm.FP.i2d ((x0 &&& (2147483647 : Int32)) % (1025 : Int32))) (4652218415073722368 : UInt64))), .second, .unset, .unset, .unset, .unset, .unset, .unset, .unset, .unset] [(.int (x1 &&& (16777215 : Int32)))])) (fun t k => XS.dstore X0.here hx rfl (hb hby at_27) rfl (l' := #[.val (.int x0), .val (.int x1), .val (.int x2), .val (.int ((x0 &&& (2147483647 : Int32)) % (1025 : Int32))), .val (.int (x1 &&& (16777215 : Int32))), .val (.int (x2 &&& (16777215 : Int32))), .val (.double (Jvm.FP.ddiv (Jvm.FP.i2d ((x0 &&& (2147483647 : Int32)) % (1025 : Int32))) (4652218415073722368 : UInt64))), .second, .unset, .unset, .unset, .unset, .unset, .unset, .unset, .unset]) rfl (XS.iload X0.here hx rfl (hb hby at_29) rfl k)) ?_
  refine own_via (T' := s₁) (g' := (mkF m 32 #[.val (.int x0), .val (.int x1), .val (.int x2), .val (.int ((x0 &&& (2147483647 : Int32)) % (1025 : Int32))), .val (.int (x1 &&& (16777215 : Int32))), .val (.int (x2 &&& (16777215 : Int32))), .val (.double (Jvm.FP.ddiv (Jvm.FP.i2d ((x0 &&& (2147483647 : Int32)) % (1025 : Int32))) (4652218415073722368 : UInt64))), .second, .unset, .unset, .unset, .unset, .unset, .unset, .unset, .unset] [(.double (Jvm.FP.i2d (x1 &&& (16777215 : Int32))))])) (fun t k => XS.i2dS X0.here hx rfl (hb hby at_31) rfl rfl k) ?_
  refine own_via (T' := s₁) (g' := (mkF m 35 #[.val (.int x0), .val (.int x1), .val (.int x2), .val (.int ((x0 &&& (2147483647 : Int32)) % (1025 : Int32))), .val (.int (x1 &&& (16777215 : Int32))), .val (.int (x2 &&& (16777215 : Int32))), .val (.double (Jvm.FP.ddiv (Jvm.FP.i2d ((x0 &&& (2147483647 : Int32)) % (1025 : Int32))) (4652218415073722368 : UInt64))), .second, .unset, .unset, .unset, .unset, .unset, .unset, .unset, .unset] [(.double (4616189618054758400 : UInt64)), (.double (Jvm.FP.i2d (x1 &&& (16777215 : Int32))))])) (X0.ldc2DoubleC hx hown (mvT hZ (hw _ (List.mem_of_getElem? (i := 3) rfl))) (g := (mkF m 32 #[.val (.int x0), .val (.int x1), .val (.int x2), .val (.int ((x0 &&& (2147483647 : Int32)) % (1025 : Int32))), .val (.int (x1 &&& (16777215 : Int32))), .val (.int (x2 &&& (16777215 : Int32))), .val (.double (Jvm.FP.ddiv (Jvm.FP.i2d ((x0 &&& (2147483647 : Int32)) % (1025 : Int32))) (4652218415073722368 : UInt64))), .second, .unset, .unset, .unset, .unset, .unset, .unset, .unset, .unset] [(.double (Jvm.FP.i2d (x1 &&& (16777215 : Int32))))])) rfl (hb hby at_32)) ?_
  refine own_via (T' := s₁) (g' := (mkF m 36 #[.val (.int x0), .val (.int x1), .val (.int x2), .val (.int ((x0 &&& (2147483647 : Int32)) % (1025 : Int32))), .val (.int (x1 &&& (16777215 : Int32))), .val (.int (x2 &&& (16777215 : Int32))), .val (.double (Jvm.FP.ddiv (Jvm.FP.i2d ((x0 &&& (2147483647 : Int32)) % (1025 : Int32))) (4652218415073722368 : UInt64))), .second, .unset, .unset, .unset, .unset, .unset, .unset, .unset, .unset] [(.double (Jvm.FP.ddiv (Jvm.FP.i2d (x1 &&& (16777215 : Int32))) (4616189618054758400 : UInt64)))])) (fun t k => XS.ddivS X0.here hx rfl (hb hby at_35) rfl hI.y.no rfl k) ?_
  refine own_via (T' := s₁) (g' := (mkF m 38 #[.val (.int x0), .val (.int x1), .val (.int x2), .val (.int ((x0 &&& (2147483647 : Int32)) % (1025 : Int32))), .val (.int (x1 &&& (16777215 : Int32))), .val (.int (x2 &&& (16777215 : Int32))), .val (.double (Jvm.FP.ddiv (Jvm.FP.i2d ((x0 &&& (2147483647 : Int32)) % (1025 : Int32))) (4652218415073722368 : UInt64))), .second, .val (.double (Jvm.FP.ddiv (Jvm.FP.i2d (x1 &&& (16777215 : Int32))) (4616189618054758400 : UInt64))), .second, .unset, .unset, .unset, .unset, .unset, .unset] [])) (fun t k => XS.dstore X0.here hx rfl (hb hby at_36) rfl (l' := #[.val (.int x0), .val (.int x1), .val (.int x2), .val (.int ((x0 &&& (2147483647 : Int32)) % (1025 : Int32))), .val (.int (x1 &&& (16777215 : Int32))), .val (.int (x2 &&& (16777215 : Int32))), .val (.double (Jvm.FP.ddiv (Jvm.FP.i2d ((x0 &&& (2147483647 : Int32)) % (1025 : Int32))) (4652218415073722368 : UInt64))), .second, .val (.double (Jvm.FP.ddiv (Jvm.FP.i2d (x1 &&& (16777215 : Int32))) (4616189618054758400 : UInt64))), .second, .unset, .unset, .unset, .unset, .unset, .unset]) rfl k) ?_
  refine own_via (T' := s₁) (g' := (mkF m 40 #[.val (.int x0), .val (.int x1), .val (.int x2), .val (.int ((x0 &&& (2147483647 : Int32)) % (1025 : Int32))), .val (.int (x1 &&& (16777215 : Int32))), .val (.int (x2 &&& (16777215 : Int32))), .val (.double (Jvm.FP.ddiv (Jvm.FP.i2d ((x0 &&& (2147483647 : Int32)) % (1025 : Int32))) (4652218415073722368 : UInt64))), .second, .val (.double (Jvm.FP.ddiv (Jvm.FP.i2d (x1 &&& (16777215 : Int32))) (4616189618054758400 : UInt64))), .second, .unset, .unset, .unset, .unset, .unset, .unset] [(.double (Jvm.FP.ddiv (Jvm.FP.i2d ((x0 &&& (2147483647 : Int32)) % (1025 : Int32))) (4652218415073722368 : UInt64)))])) (fun t k => XS.dload X0.here hx rfl (hb hby at_38) rfl k) ?_
  refine own_via (T' := s₁) (g' := (mkF m 44 #[.val (.int x0), .val (.int x1), .val (.int x2), .val (.int ((x0 &&& (2147483647 : Int32)) % (1025 : Int32))), .val (.int (x1 &&& (16777215 : Int32))), .val (.int (x2 &&& (16777215 : Int32))), .val (.double (Jvm.FP.ddiv (Jvm.FP.i2d ((x0 &&& (2147483647 : Int32)) % (1025 : Int32))) (4652218415073722368 : UInt64))), .second, .val (.double (Jvm.FP.ddiv (Jvm.FP.i2d (x1 &&& (16777215 : Int32))) (4616189618054758400 : UInt64))), .second, .unset, .unset, .unset, .unset, .unset, .unset] [(.int (x2 &&& (16777215 : Int32))), (.double (Jvm.FP.ddiv (Jvm.FP.i2d (x1 &&& (16777215 : Int32))) (4616189618054758400 : UInt64))), (.double (Jvm.FP.ddiv (Jvm.FP.i2d ((x0 &&& (2147483647 : Int32)) % (1025 : Int32))) (4652218415073722368 : UInt64)))])) (fun t k => XS.dload X0.here hx rfl (hb hby at_40) rfl (XS.iload X0.here hx rfl (hb hby at_42) rfl k)) ?_
  obtain ⟨v1, T1, L1, X1, hQ1, st1⟩ := own_callSt (y := (⟨"com/example/hairball_to_map/hairballtomap/OverlapDerivatives", "widthCurvature", "(DDI)D"⟩ : MethodName)) (argsL := [(.double (Jvm.FP.ddiv (Jvm.FP.i2d ((x0 &&& (2147483647 : Int32)) % (1025 : Int32))) (4652218415073722368 : UInt64))), (.double (Jvm.FP.ddiv (Jvm.FP.i2d (x1 &&& (16777215 : Int32))) (4616189618054758400 : UInt64))), (.int (x2 &&& (16777215 : Int32)))]) (rest := []) X0 hx hZ hown (hw _ (List.mem_of_getElem? (i := 4) rfl)) (hw _ (List.mem_of_getElem? (i := 5) rfl)) (hw _ (List.mem_of_getElem? (i := 6) rfl)) (hw _ (List.mem_of_getElem? (i := 7) rfl)) (by decide) (own_mtw l Z a0 hw (Jvm.FP.ddiv (Jvm.FP.i2d ((x0 &&& (2147483647 : Int32)) % (1025 : Int32))) (4652218415073722368 : UInt64)) (Jvm.FP.ddiv (Jvm.FP.i2d (x1 &&& (16777215 : Int32))) (4616189618054758400 : UInt64)) (x2 &&& (16777215 : Int32)) _ _ h0 hI) e0 (W := 0) (by decide) (by decide) (g := (mkF m 44 #[.val (.int x0), .val (.int x1), .val (.int x2), .val (.int ((x0 &&& (2147483647 : Int32)) % (1025 : Int32))), .val (.int (x1 &&& (16777215 : Int32))), .val (.int (x2 &&& (16777215 : Int32))), .val (.double (Jvm.FP.ddiv (Jvm.FP.i2d ((x0 &&& (2147483647 : Int32)) % (1025 : Int32))) (4652218415073722368 : UInt64))), .second, .val (.double (Jvm.FP.ddiv (Jvm.FP.i2d (x1 &&& (16777215 : Int32))) (4616189618054758400 : UInt64))), .second, .unset, .unset, .unset, .unset, .unset, .unset] [(.int (x2 &&& (16777215 : Int32))), (.double (Jvm.FP.ddiv (Jvm.FP.i2d (x1 &&& (16777215 : Int32))) (4616189618054758400 : UInt64))), (.double (Jvm.FP.ddiv (Jvm.FP.i2d ((x0 &&& (2147483647 : Int32)) % (1025 : Int32))) (4652218415073722368 : UInt64)))])) rfl (by rw [hml]; rfl) (lenOf own_pd0 rfl) rfl (by show 2 * 0 + _ ≤ _; exact Nat.le_of_eq rfl) (hb hby at_44) (by decide) (by decide)
  obtain ⟨rfl, e1, rfl⟩ := hQ1
  refine own_via (T' := T1) (g' := (mkF m 47 #[.val (.int x0), .val (.int x1), .val (.int x2), .val (.int ((x0 &&& (2147483647 : Int32)) % (1025 : Int32))), .val (.int (x1 &&& (16777215 : Int32))), .val (.int (x2 &&& (16777215 : Int32))), .val (.double (Jvm.FP.ddiv (Jvm.FP.i2d ((x0 &&& (2147483647 : Int32)) % (1025 : Int32))) (4652218415073722368 : UInt64))), .second, .val (.double (Jvm.FP.ddiv (Jvm.FP.i2d (x1 &&& (16777215 : Int32))) (4616189618054758400 : UInt64))), .second, .unset, .unset, .unset, .unset, .unset, .unset] [(.double (own_wc (Jvm.FP.ddiv (Jvm.FP.i2d ((x0 &&& (2147483647 : Int32)) % (1025 : Int32))) (4652218415073722368 : UInt64)) (Jvm.FP.ddiv (Jvm.FP.i2d (x1 &&& (16777215 : Int32))) (4616189618054758400 : UInt64)) (x2 &&& (16777215 : Int32))))])) st1 ?_
  refine own_via (T' := T1) (g' := (mkF m 53 #[.val (.int x0), .val (.int x1), .val (.int x2), .val (.int ((x0 &&& (2147483647 : Int32)) % (1025 : Int32))), .val (.int (x1 &&& (16777215 : Int32))), .val (.int (x2 &&& (16777215 : Int32))), .val (.double (Jvm.FP.ddiv (Jvm.FP.i2d ((x0 &&& (2147483647 : Int32)) % (1025 : Int32))) (4652218415073722368 : UInt64))), .second, .val (.double (Jvm.FP.ddiv (Jvm.FP.i2d (x1 &&& (16777215 : Int32))) (4616189618054758400 : UInt64))), .second, .val (.double (own_wc (Jvm.FP.ddiv (Jvm.FP.i2d ((x0 &&& (2147483647 : Int32)) % (1025 : Int32))) (4652218415073722368 : UInt64)) (Jvm.FP.ddiv (Jvm.FP.i2d (x1 &&& (16777215 : Int32))) (4616189618054758400 : UInt64)) (x2 &&& (16777215 : Int32)))), .second, .val (.long (((x0 &&& (2147483647 : Int32)) % (1025 : Int32)).toInt64)), .second, .unset, .unset] [])) (fun t k => XS.dstore X1.here hx rfl (hb hby at_47) rfl (l' := #[.val (.int x0), .val (.int x1), .val (.int x2), .val (.int ((x0 &&& (2147483647 : Int32)) % (1025 : Int32))), .val (.int (x1 &&& (16777215 : Int32))), .val (.int (x2 &&& (16777215 : Int32))), .val (.double (Jvm.FP.ddiv (Jvm.FP.i2d ((x0 &&& (2147483647 : Int32)) % (1025 : Int32))) (4652218415073722368 : UInt64))), .second, .val (.double (Jvm.FP.ddiv (Jvm.FP.i2d (x1 &&& (16777215 : Int32))) (4616189618054758400 : UInt64))), .second, .val (.double (own_wc (Jvm.FP.ddiv (Jvm.FP.i2d ((x0 &&& (2147483647 : Int32)) % (1025 : Int32))) (4652218415073722368 : UInt64)) (Jvm.FP.ddiv (Jvm.FP.i2d (x1 &&& (16777215 : Int32))) (4616189618054758400 : UInt64)) (x2 &&& (16777215 : Int32)))), .second, .unset, .unset, .unset, .unset]) rfl (XS.iloadN X1.here hx rfl (hb hby at_49) rfl (XS.i2l X1.here hx rfl (hb hby at_50) rfl (XS.lstore X1.here hx rfl (hb hby at_51) rfl (l' := #[.val (.int x0), .val (.int x1), .val (.int x2), .val (.int ((x0 &&& (2147483647 : Int32)) % (1025 : Int32))), .val (.int (x1 &&& (16777215 : Int32))), .val (.int (x2 &&& (16777215 : Int32))), .val (.double (Jvm.FP.ddiv (Jvm.FP.i2d ((x0 &&& (2147483647 : Int32)) % (1025 : Int32))) (4652218415073722368 : UInt64))), .second, .val (.double (Jvm.FP.ddiv (Jvm.FP.i2d (x1 &&& (16777215 : Int32))) (4616189618054758400 : UInt64))), .second, .val (.double (own_wc (Jvm.FP.ddiv (Jvm.FP.i2d ((x0 &&& (2147483647 : Int32)) % (1025 : Int32))) (4652218415073722368 : UInt64)) (Jvm.FP.ddiv (Jvm.FP.i2d (x1 &&& (16777215 : Int32))) (4616189618054758400 : UInt64)) (x2 &&& (16777215 : Int32)))), .second, .val (.long (((x0 &&& (2147483647 : Int32)) % (1025 : Int32)).toInt64)), .second, .unset, .unset]) rfl k)))) ?_
  refine own_via (T' := T1) (g' := (mkF m 56 #[.val (.int x0), .val (.int x1), .val (.int x2), .val (.int ((x0 &&& (2147483647 : Int32)) % (1025 : Int32))), .val (.int (x1 &&& (16777215 : Int32))), .val (.int (x2 &&& (16777215 : Int32))), .val (.double (Jvm.FP.ddiv (Jvm.FP.i2d ((x0 &&& (2147483647 : Int32)) % (1025 : Int32))) (4652218415073722368 : UInt64))), .second, .val (.double (Jvm.FP.ddiv (Jvm.FP.i2d (x1 &&& (16777215 : Int32))) (4616189618054758400 : UInt64))), .second, .val (.double (own_wc (Jvm.FP.ddiv (Jvm.FP.i2d ((x0 &&& (2147483647 : Int32)) % (1025 : Int32))) (4652218415073722368 : UInt64)) (Jvm.FP.ddiv (Jvm.FP.i2d (x1 &&& (16777215 : Int32))) (4616189618054758400 : UInt64)) (x2 &&& (16777215 : Int32)))), .second, .val (.long (((x0 &&& (2147483647 : Int32)) % (1025 : Int32)).toInt64)), .second, .unset, .unset] [(.long (512 : Int64))])) (X1.ldc2Long hx hown (mvT hZ (hw _ (List.mem_of_getElem? (i := 10) rfl))) (g := (mkF m 53 #[.val (.int x0), .val (.int x1), .val (.int x2), .val (.int ((x0 &&& (2147483647 : Int32)) % (1025 : Int32))), .val (.int (x1 &&& (16777215 : Int32))), .val (.int (x2 &&& (16777215 : Int32))), .val (.double (Jvm.FP.ddiv (Jvm.FP.i2d ((x0 &&& (2147483647 : Int32)) % (1025 : Int32))) (4652218415073722368 : UInt64))), .second, .val (.double (Jvm.FP.ddiv (Jvm.FP.i2d (x1 &&& (16777215 : Int32))) (4616189618054758400 : UInt64))), .second, .val (.double (own_wc (Jvm.FP.ddiv (Jvm.FP.i2d ((x0 &&& (2147483647 : Int32)) % (1025 : Int32))) (4652218415073722368 : UInt64)) (Jvm.FP.ddiv (Jvm.FP.i2d (x1 &&& (16777215 : Int32))) (4616189618054758400 : UInt64)) (x2 &&& (16777215 : Int32)))), .second, .val (.long (((x0 &&& (2147483647 : Int32)) % (1025 : Int32)).toInt64)), .second, .unset, .unset] [])) rfl (hb hby at_53)) ?_
  refine own_via (T' := T1) (g' := (mkF m 62 #[.val (.int x0), .val (.int x1), .val (.int x2), .val (.int ((x0 &&& (2147483647 : Int32)) % (1025 : Int32))), .val (.int (x1 &&& (16777215 : Int32))), .val (.int (x2 &&& (16777215 : Int32))), .val (.double (Jvm.FP.ddiv (Jvm.FP.i2d ((x0 &&& (2147483647 : Int32)) % (1025 : Int32))) (4652218415073722368 : UInt64))), .second, .val (.double (Jvm.FP.ddiv (Jvm.FP.i2d (x1 &&& (16777215 : Int32))) (4616189618054758400 : UInt64))), .second, .val (.double (own_wc (Jvm.FP.ddiv (Jvm.FP.i2d ((x0 &&& (2147483647 : Int32)) % (1025 : Int32))) (4652218415073722368 : UInt64)) (Jvm.FP.ddiv (Jvm.FP.i2d (x1 &&& (16777215 : Int32))) (4616189618054758400 : UInt64)) (x2 &&& (16777215 : Int32)))), .second, .val (.long (((x0 &&& (2147483647 : Int32)) % (1025 : Int32)).toInt64)), .second, .unset, .unset] [(.long ((x1 &&& (16777215 : Int32)).toInt64)), (.long ((512 : Int64) * (((x0 &&& (2147483647 : Int32)) % (1025 : Int32)).toInt64)))])) (fun t k => XS.lload X1.here hx rfl (hb hby at_56) rfl (XS.lmul X1.here hx rfl (hb hby at_58) rfl (XS.iload X1.here hx rfl (hb hby at_59) rfl (XS.i2l X1.here hx rfl (hb hby at_61) rfl k)))) ?_
  refine own_via (T' := T1) (g' := (mkF m 65 #[.val (.int x0), .val (.int x1), .val (.int x2), .val (.int ((x0 &&& (2147483647 : Int32)) % (1025 : Int32))), .val (.int (x1 &&& (16777215 : Int32))), .val (.int (x2 &&& (16777215 : Int32))), .val (.double (Jvm.FP.ddiv (Jvm.FP.i2d ((x0 &&& (2147483647 : Int32)) % (1025 : Int32))) (4652218415073722368 : UInt64))), .second, .val (.double (Jvm.FP.ddiv (Jvm.FP.i2d (x1 &&& (16777215 : Int32))) (4616189618054758400 : UInt64))), .second, .val (.double (own_wc (Jvm.FP.ddiv (Jvm.FP.i2d ((x0 &&& (2147483647 : Int32)) % (1025 : Int32))) (4652218415073722368 : UInt64)) (Jvm.FP.ddiv (Jvm.FP.i2d (x1 &&& (16777215 : Int32))) (4616189618054758400 : UInt64)) (x2 &&& (16777215 : Int32)))), .second, .val (.long (((x0 &&& (2147483647 : Int32)) % (1025 : Int32)).toInt64)), .second, .unset, .unset] [(.long (4 : Int64)), (.long ((x1 &&& (16777215 : Int32)).toInt64)), (.long ((512 : Int64) * (((x0 &&& (2147483647 : Int32)) % (1025 : Int32)).toInt64)))])) (X1.ldc2Long hx hown (mvT hZ (hw _ (List.mem_of_getElem? (i := 11) rfl))) (g := (mkF m 62 #[.val (.int x0), .val (.int x1), .val (.int x2), .val (.int ((x0 &&& (2147483647 : Int32)) % (1025 : Int32))), .val (.int (x1 &&& (16777215 : Int32))), .val (.int (x2 &&& (16777215 : Int32))), .val (.double (Jvm.FP.ddiv (Jvm.FP.i2d ((x0 &&& (2147483647 : Int32)) % (1025 : Int32))) (4652218415073722368 : UInt64))), .second, .val (.double (Jvm.FP.ddiv (Jvm.FP.i2d (x1 &&& (16777215 : Int32))) (4616189618054758400 : UInt64))), .second, .val (.double (own_wc (Jvm.FP.ddiv (Jvm.FP.i2d ((x0 &&& (2147483647 : Int32)) % (1025 : Int32))) (4652218415073722368 : UInt64)) (Jvm.FP.ddiv (Jvm.FP.i2d (x1 &&& (16777215 : Int32))) (4616189618054758400 : UInt64)) (x2 &&& (16777215 : Int32)))), .second, .val (.long (((x0 &&& (2147483647 : Int32)) % (1025 : Int32)).toInt64)), .second, .unset, .unset] [(.long ((x1 &&& (16777215 : Int32)).toInt64)), (.long ((512 : Int64) * (((x0 &&& (2147483647 : Int32)) % (1025 : Int32)).toInt64)))])) rfl (hb hby at_62)) ?_
  refine own_via (T' := T1) (g' := (mkF m 79 #[.val (.int x0), .val (.int x1), .val (.int x2), .val (.int ((x0 &&& (2147483647 : Int32)) % (1025 : Int32))), .val (.int (x1 &&& (16777215 : Int32))), .val (.int (x2 &&& (16777215 : Int32))), .val (.double (Jvm.FP.ddiv (Jvm.FP.i2d ((x0 &&& (2147483647 : Int32)) % (1025 : Int32))) (4652218415073722368 : UInt64))), .second, .val (.double (Jvm.FP.ddiv (Jvm.FP.i2d (x1 &&& (16777215 : Int32))) (4616189618054758400 : UInt64))), .second, .val (.double (own_wc (Jvm.FP.ddiv (Jvm.FP.i2d ((x0 &&& (2147483647 : Int32)) % (1025 : Int32))) (4652218415073722368 : UInt64)) (Jvm.FP.ddiv (Jvm.FP.i2d (x1 &&& (16777215 : Int32))) (4616189618054758400 : UInt64)) (x2 &&& (16777215 : Int32)))), .second, .val (.long (((x0 &&& (2147483647 : Int32)) % (1025 : Int32)).toInt64)), .second, .unset, .unset] [(.long ((x1 &&& (16777215 : Int32)).toInt64)), (.long ((((x0 &&& (2147483647 : Int32)) % (1025 : Int32)).toInt64) * (((x0 &&& (2147483647 : Int32)) % (1025 : Int32)).toInt64))), (.long (((512 : Int64) * (((x0 &&& (2147483647 : Int32)) % (1025 : Int32)).toInt64)) * (((x1 &&& (16777215 : Int32)).toInt64) - ((4 : Int64) * ((x2 &&& (16777215 : Int32)).toInt64)))))])) (fun t k => XS.iload X1.here hx rfl (hb hby at_65) rfl (XS.i2l X1.here hx rfl (hb hby at_67) rfl (XS.lmul X1.here hx rfl (hb hby at_68) rfl (XS.lsub X1.here hx rfl (hb hby at_69) rfl (XS.lmul X1.here hx rfl (hb hby at_70) rfl (XS.lload X1.here hx rfl (hb hby at_71) rfl (XS.lload X1.here hx rfl (hb hby at_73) rfl (XS.lmul X1.here hx rfl (hb hby at_75) rfl (XS.iload X1.here hx rfl (hb hby at_76) rfl (XS.i2l X1.here hx rfl (hb hby at_78) rfl k)))))))))) ?_
  refine own_via (T' := T1) (g' := (mkF m 82 #[.val (.int x0), .val (.int x1), .val (.int x2), .val (.int ((x0 &&& (2147483647 : Int32)) % (1025 : Int32))), .val (.int (x1 &&& (16777215 : Int32))), .val (.int (x2 &&& (16777215 : Int32))), .val (.double (Jvm.FP.ddiv (Jvm.FP.i2d ((x0 &&& (2147483647 : Int32)) % (1025 : Int32))) (4652218415073722368 : UInt64))), .second, .val (.double (Jvm.FP.ddiv (Jvm.FP.i2d (x1 &&& (16777215 : Int32))) (4616189618054758400 : UInt64))), .second, .val (.double (own_wc (Jvm.FP.ddiv (Jvm.FP.i2d ((x0 &&& (2147483647 : Int32)) % (1025 : Int32))) (4652218415073722368 : UInt64)) (Jvm.FP.ddiv (Jvm.FP.i2d (x1 &&& (16777215 : Int32))) (4616189618054758400 : UInt64)) (x2 &&& (16777215 : Int32)))), .second, .val (.long (((x0 &&& (2147483647 : Int32)) % (1025 : Int32)).toInt64)), .second, .unset, .unset] [(.long (2 : Int64)), (.long ((x1 &&& (16777215 : Int32)).toInt64)), (.long ((((x0 &&& (2147483647 : Int32)) % (1025 : Int32)).toInt64) * (((x0 &&& (2147483647 : Int32)) % (1025 : Int32)).toInt64))), (.long (((512 : Int64) * (((x0 &&& (2147483647 : Int32)) % (1025 : Int32)).toInt64)) * (((x1 &&& (16777215 : Int32)).toInt64) - ((4 : Int64) * ((x2 &&& (16777215 : Int32)).toInt64)))))])) (X1.ldc2Long hx hown (mvT hZ (hw _ (List.mem_of_getElem? (i := 12) rfl))) (g := (mkF m 79 #[.val (.int x0), .val (.int x1), .val (.int x2), .val (.int ((x0 &&& (2147483647 : Int32)) % (1025 : Int32))), .val (.int (x1 &&& (16777215 : Int32))), .val (.int (x2 &&& (16777215 : Int32))), .val (.double (Jvm.FP.ddiv (Jvm.FP.i2d ((x0 &&& (2147483647 : Int32)) % (1025 : Int32))) (4652218415073722368 : UInt64))), .second, .val (.double (Jvm.FP.ddiv (Jvm.FP.i2d (x1 &&& (16777215 : Int32))) (4616189618054758400 : UInt64))), .second, .val (.double (own_wc (Jvm.FP.ddiv (Jvm.FP.i2d ((x0 &&& (2147483647 : Int32)) % (1025 : Int32))) (4652218415073722368 : UInt64)) (Jvm.FP.ddiv (Jvm.FP.i2d (x1 &&& (16777215 : Int32))) (4616189618054758400 : UInt64)) (x2 &&& (16777215 : Int32)))), .second, .val (.long (((x0 &&& (2147483647 : Int32)) % (1025 : Int32)).toInt64)), .second, .unset, .unset] [(.long ((x1 &&& (16777215 : Int32)).toInt64)), (.long ((((x0 &&& (2147483647 : Int32)) % (1025 : Int32)).toInt64) * (((x0 &&& (2147483647 : Int32)) % (1025 : Int32)).toInt64))), (.long (((512 : Int64) * (((x0 &&& (2147483647 : Int32)) % (1025 : Int32)).toInt64)) * (((x1 &&& (16777215 : Int32)).toInt64) - ((4 : Int64) * ((x2 &&& (16777215 : Int32)).toInt64)))))])) rfl (hb hby at_79)) ?_
  refine own_via (T' := T1) (g' := (mkF m 91 #[.val (.int x0), .val (.int x1), .val (.int x2), .val (.int ((x0 &&& (2147483647 : Int32)) % (1025 : Int32))), .val (.int (x1 &&& (16777215 : Int32))), .val (.int (x2 &&& (16777215 : Int32))), .val (.double (Jvm.FP.ddiv (Jvm.FP.i2d ((x0 &&& (2147483647 : Int32)) % (1025 : Int32))) (4652218415073722368 : UInt64))), .second, .val (.double (Jvm.FP.ddiv (Jvm.FP.i2d (x1 &&& (16777215 : Int32))) (4616189618054758400 : UInt64))), .second, .val (.double (own_wc (Jvm.FP.ddiv (Jvm.FP.i2d ((x0 &&& (2147483647 : Int32)) % (1025 : Int32))) (4652218415073722368 : UInt64)) (Jvm.FP.ddiv (Jvm.FP.i2d (x1 &&& (16777215 : Int32))) (4616189618054758400 : UInt64)) (x2 &&& (16777215 : Int32)))), .second, .val (.long (((x0 &&& (2147483647 : Int32)) % (1025 : Int32)).toInt64)), .second, .val (.long ((((512 : Int64) * (((x0 &&& (2147483647 : Int32)) % (1025 : Int32)).toInt64)) * (((x1 &&& (16777215 : Int32)).toInt64) - ((4 : Int64) * ((x2 &&& (16777215 : Int32)).toInt64)))) - (((((x0 &&& (2147483647 : Int32)) % (1025 : Int32)).toInt64) * (((x0 &&& (2147483647 : Int32)) % (1025 : Int32)).toInt64)) * (((x1 &&& (16777215 : Int32)).toInt64) - ((2 : Int64) * ((x2 &&& (16777215 : Int32)).toInt64)))))), .second] [])) (fun t k => XS.iload X1.here hx rfl (hb hby at_82) rfl (XS.i2l X1.here hx rfl (hb hby at_84) rfl (XS.lmul X1.here hx rfl (hb hby at_85) rfl (XS.lsub X1.here hx rfl (hb hby at_86) rfl (XS.lmul X1.here hx rfl (hb hby at_87) rfl (XS.lsub X1.here hx rfl (hb hby at_88) rfl (XS.lstore X1.here hx rfl (hb hby at_89) rfl (l' := #[.val (.int x0), .val (.int x1), .val (.int x2), .val (.int ((x0 &&& (2147483647 : Int32)) % (1025 : Int32))), .val (.int (x1 &&& (16777215 : Int32))), .val (.int (x2 &&& (16777215 : Int32))), .val (.double (Jvm.FP.ddiv (Jvm.FP.i2d ((x0 &&& (2147483647 : Int32)) % (1025 : Int32))) (4652218415073722368 : UInt64))), .second, .val (.double (Jvm.FP.ddiv (Jvm.FP.i2d (x1 &&& (16777215 : Int32))) (4616189618054758400 : UInt64))), .second, .val (.double (own_wc (Jvm.FP.ddiv (Jvm.FP.i2d ((x0 &&& (2147483647 : Int32)) % (1025 : Int32))) (4652218415073722368 : UInt64)) (Jvm.FP.ddiv (Jvm.FP.i2d (x1 &&& (16777215 : Int32))) (4616189618054758400 : UInt64)) (x2 &&& (16777215 : Int32)))), .second, .val (.long (((x0 &&& (2147483647 : Int32)) % (1025 : Int32)).toInt64)), .second, .val (.long ((((512 : Int64) * (((x0 &&& (2147483647 : Int32)) % (1025 : Int32)).toInt64)) * (((x1 &&& (16777215 : Int32)).toInt64) - ((4 : Int64) * ((x2 &&& (16777215 : Int32)).toInt64)))) - (((((x0 &&& (2147483647 : Int32)) % (1025 : Int32)).toInt64) * (((x0 &&& (2147483647 : Int32)) % (1025 : Int32)).toInt64)) * (((x1 &&& (16777215 : Int32)).toInt64) - ((2 : Int64) * ((x2 &&& (16777215 : Int32)).toInt64)))))), .second]) rfl k))))))) ?_
  refine own_via (T' := T1) (g' := (mkF m 93 #[.val (.int x0), .val (.int x1), .val (.int x2), .val (.int ((x0 &&& (2147483647 : Int32)) % (1025 : Int32))), .val (.int (x1 &&& (16777215 : Int32))), .val (.int (x2 &&& (16777215 : Int32))), .val (.double (Jvm.FP.ddiv (Jvm.FP.i2d ((x0 &&& (2147483647 : Int32)) % (1025 : Int32))) (4652218415073722368 : UInt64))), .second, .val (.double (Jvm.FP.ddiv (Jvm.FP.i2d (x1 &&& (16777215 : Int32))) (4616189618054758400 : UInt64))), .second, .val (.double (own_wc (Jvm.FP.ddiv (Jvm.FP.i2d ((x0 &&& (2147483647 : Int32)) % (1025 : Int32))) (4652218415073722368 : UInt64)) (Jvm.FP.ddiv (Jvm.FP.i2d (x1 &&& (16777215 : Int32))) (4616189618054758400 : UInt64)) (x2 &&& (16777215 : Int32)))), .second, .val (.long (((x0 &&& (2147483647 : Int32)) % (1025 : Int32)).toInt64)), .second, .val (.long ((((512 : Int64) * (((x0 &&& (2147483647 : Int32)) % (1025 : Int32)).toInt64)) * (((x1 &&& (16777215 : Int32)).toInt64) - ((4 : Int64) * ((x2 &&& (16777215 : Int32)).toInt64)))) - (((((x0 &&& (2147483647 : Int32)) % (1025 : Int32)).toInt64) * (((x0 &&& (2147483647 : Int32)) % (1025 : Int32)).toInt64)) * (((x1 &&& (16777215 : Int32)).toInt64) - ((2 : Int64) * ((x2 &&& (16777215 : Int32)).toInt64)))))), .second] [(.double (own_wc (Jvm.FP.ddiv (Jvm.FP.i2d ((x0 &&& (2147483647 : Int32)) % (1025 : Int32))) (4652218415073722368 : UInt64)) (Jvm.FP.ddiv (Jvm.FP.i2d (x1 &&& (16777215 : Int32))) (4616189618054758400 : UInt64)) (x2 &&& (16777215 : Int32))))])) (fun t k => XS.dload X1.here hx rfl (hb hby at_91) rfl k) ?_
  refine own_via (T' := T1) (g' := (mkF m 96 #[.val (.int x0), .val (.int x1), .val (.int x2), .val (.int ((x0 &&& (2147483647 : Int32)) % (1025 : Int32))), .val (.int (x1 &&& (16777215 : Int32))), .val (.int (x2 &&& (16777215 : Int32))), .val (.double (Jvm.FP.ddiv (Jvm.FP.i2d ((x0 &&& (2147483647 : Int32)) % (1025 : Int32))) (4652218415073722368 : UInt64))), .second, .val (.double (Jvm.FP.ddiv (Jvm.FP.i2d (x1 &&& (16777215 : Int32))) (4616189618054758400 : UInt64))), .second, .val (.double (own_wc (Jvm.FP.ddiv (Jvm.FP.i2d ((x0 &&& (2147483647 : Int32)) % (1025 : Int32))) (4652218415073722368 : UInt64)) (Jvm.FP.ddiv (Jvm.FP.i2d (x1 &&& (16777215 : Int32))) (4616189618054758400 : UInt64)) (x2 &&& (16777215 : Int32)))), .second, .val (.long (((x0 &&& (2147483647 : Int32)) % (1025 : Int32)).toInt64)), .second, .val (.long ((((512 : Int64) * (((x0 &&& (2147483647 : Int32)) % (1025 : Int32)).toInt64)) * (((x1 &&& (16777215 : Int32)).toInt64) - ((4 : Int64) * ((x2 &&& (16777215 : Int32)).toInt64)))) - (((((x0 &&& (2147483647 : Int32)) % (1025 : Int32)).toInt64) * (((x0 &&& (2147483647 : Int32)) % (1025 : Int32)).toInt64)) * (((x1 &&& (16777215 : Int32)).toInt64) - ((2 : Int64) * ((x2 &&& (16777215 : Int32)).toInt64)))))), .second] [(.double (4697254411347427328 : UInt64)), (.double (own_wc (Jvm.FP.ddiv (Jvm.FP.i2d ((x0 &&& (2147483647 : Int32)) % (1025 : Int32))) (4652218415073722368 : UInt64)) (Jvm.FP.ddiv (Jvm.FP.i2d (x1 &&& (16777215 : Int32))) (4616189618054758400 : UInt64)) (x2 &&& (16777215 : Int32))))])) (X1.ldc2DoubleC hx hown (mvT hZ (hw _ (List.mem_of_getElem? (i := 13) rfl))) (g := (mkF m 93 #[.val (.int x0), .val (.int x1), .val (.int x2), .val (.int ((x0 &&& (2147483647 : Int32)) % (1025 : Int32))), .val (.int (x1 &&& (16777215 : Int32))), .val (.int (x2 &&& (16777215 : Int32))), .val (.double (Jvm.FP.ddiv (Jvm.FP.i2d ((x0 &&& (2147483647 : Int32)) % (1025 : Int32))) (4652218415073722368 : UInt64))), .second, .val (.double (Jvm.FP.ddiv (Jvm.FP.i2d (x1 &&& (16777215 : Int32))) (4616189618054758400 : UInt64))), .second, .val (.double (own_wc (Jvm.FP.ddiv (Jvm.FP.i2d ((x0 &&& (2147483647 : Int32)) % (1025 : Int32))) (4652218415073722368 : UInt64)) (Jvm.FP.ddiv (Jvm.FP.i2d (x1 &&& (16777215 : Int32))) (4616189618054758400 : UInt64)) (x2 &&& (16777215 : Int32)))), .second, .val (.long (((x0 &&& (2147483647 : Int32)) % (1025 : Int32)).toInt64)), .second, .val (.long ((((512 : Int64) * (((x0 &&& (2147483647 : Int32)) % (1025 : Int32)).toInt64)) * (((x1 &&& (16777215 : Int32)).toInt64) - ((4 : Int64) * ((x2 &&& (16777215 : Int32)).toInt64)))) - (((((x0 &&& (2147483647 : Int32)) % (1025 : Int32)).toInt64) * (((x0 &&& (2147483647 : Int32)) % (1025 : Int32)).toInt64)) * (((x1 &&& (16777215 : Int32)).toInt64) - ((2 : Int64) * ((x2 &&& (16777215 : Int32)).toInt64)))))), .second] [(.double (own_wc (Jvm.FP.ddiv (Jvm.FP.i2d ((x0 &&& (2147483647 : Int32)) % (1025 : Int32))) (4652218415073722368 : UInt64)) (Jvm.FP.ddiv (Jvm.FP.i2d (x1 &&& (16777215 : Int32))) (4616189618054758400 : UInt64)) (x2 &&& (16777215 : Int32))))])) rfl (hb hby at_93)) ?_
  refine own_via (T' := T1) (g' := (mkF m 99 #[.val (.int x0), .val (.int x1), .val (.int x2), .val (.int ((x0 &&& (2147483647 : Int32)) % (1025 : Int32))), .val (.int (x1 &&& (16777215 : Int32))), .val (.int (x2 &&& (16777215 : Int32))), .val (.double (Jvm.FP.ddiv (Jvm.FP.i2d ((x0 &&& (2147483647 : Int32)) % (1025 : Int32))) (4652218415073722368 : UInt64))), .second, .val (.double (Jvm.FP.ddiv (Jvm.FP.i2d (x1 &&& (16777215 : Int32))) (4616189618054758400 : UInt64))), .second, .val (.double (own_wc (Jvm.FP.ddiv (Jvm.FP.i2d ((x0 &&& (2147483647 : Int32)) % (1025 : Int32))) (4652218415073722368 : UInt64)) (Jvm.FP.ddiv (Jvm.FP.i2d (x1 &&& (16777215 : Int32))) (4616189618054758400 : UInt64)) (x2 &&& (16777215 : Int32)))), .second, .val (.long (((x0 &&& (2147483647 : Int32)) % (1025 : Int32)).toInt64)), .second, .val (.long ((((512 : Int64) * (((x0 &&& (2147483647 : Int32)) % (1025 : Int32)).toInt64)) * (((x1 &&& (16777215 : Int32)).toInt64) - ((4 : Int64) * ((x2 &&& (16777215 : Int32)).toInt64)))) - (((((x0 &&& (2147483647 : Int32)) % (1025 : Int32)).toInt64) * (((x0 &&& (2147483647 : Int32)) % (1025 : Int32)).toInt64)) * (((x1 &&& (16777215 : Int32)).toInt64) - ((2 : Int64) * ((x2 &&& (16777215 : Int32)).toInt64)))))), .second] [(.long ((((512 : Int64) * (((x0 &&& (2147483647 : Int32)) % (1025 : Int32)).toInt64)) * (((x1 &&& (16777215 : Int32)).toInt64) - ((4 : Int64) * ((x2 &&& (16777215 : Int32)).toInt64)))) - (((((x0 &&& (2147483647 : Int32)) % (1025 : Int32)).toInt64) * (((x0 &&& (2147483647 : Int32)) % (1025 : Int32)).toInt64)) * (((x1 &&& (16777215 : Int32)).toInt64) - ((2 : Int64) * ((x2 &&& (16777215 : Int32)).toInt64)))))), (.double (Jvm.FP.dmul (own_wc (Jvm.FP.ddiv (Jvm.FP.i2d ((x0 &&& (2147483647 : Int32)) % (1025 : Int32))) (4652218415073722368 : UInt64)) (Jvm.FP.ddiv (Jvm.FP.i2d (x1 &&& (16777215 : Int32))) (4616189618054758400 : UInt64)) (x2 &&& (16777215 : Int32))) (4697254411347427328 : UInt64)))])) (fun t k => XS.dmulS X1.here hx rfl (hb hby at_96) rfl (own_r10 hI).no rfl (XS.lload X1.here hx rfl (hb hby at_97) rfl k)) ?_
  refine own_via (T' := T1) (g' := (mkF m 100 #[.val (.int x0), .val (.int x1), .val (.int x2), .val (.int ((x0 &&& (2147483647 : Int32)) % (1025 : Int32))), .val (.int (x1 &&& (16777215 : Int32))), .val (.int (x2 &&& (16777215 : Int32))), .val (.double (Jvm.FP.ddiv (Jvm.FP.i2d ((x0 &&& (2147483647 : Int32)) % (1025 : Int32))) (4652218415073722368 : UInt64))), .second, .val (.double (Jvm.FP.ddiv (Jvm.FP.i2d (x1 &&& (16777215 : Int32))) (4616189618054758400 : UInt64))), .second, .val (.double (own_wc (Jvm.FP.ddiv (Jvm.FP.i2d ((x0 &&& (2147483647 : Int32)) % (1025 : Int32))) (4652218415073722368 : UInt64)) (Jvm.FP.ddiv (Jvm.FP.i2d (x1 &&& (16777215 : Int32))) (4616189618054758400 : UInt64)) (x2 &&& (16777215 : Int32)))), .second, .val (.long (((x0 &&& (2147483647 : Int32)) % (1025 : Int32)).toInt64)), .second, .val (.long ((((512 : Int64) * (((x0 &&& (2147483647 : Int32)) % (1025 : Int32)).toInt64)) * (((x1 &&& (16777215 : Int32)).toInt64) - ((4 : Int64) * ((x2 &&& (16777215 : Int32)).toInt64)))) - (((((x0 &&& (2147483647 : Int32)) % (1025 : Int32)).toInt64) * (((x0 &&& (2147483647 : Int32)) % (1025 : Int32)).toInt64)) * (((x1 &&& (16777215 : Int32)).toInt64) - ((2 : Int64) * ((x2 &&& (16777215 : Int32)).toInt64)))))), .second] [(.double (Jvm.FP.l2d ((((512 : Int64) * (((x0 &&& (2147483647 : Int32)) % (1025 : Int32)).toInt64)) * (((x1 &&& (16777215 : Int32)).toInt64) - ((4 : Int64) * ((x2 &&& (16777215 : Int32)).toInt64)))) - (((((x0 &&& (2147483647 : Int32)) % (1025 : Int32)).toInt64) * (((x0 &&& (2147483647 : Int32)) % (1025 : Int32)).toInt64)) * (((x1 &&& (16777215 : Int32)).toInt64) - ((2 : Int64) * ((x2 &&& (16777215 : Int32)).toInt64))))))), (.double (Jvm.FP.dmul (own_wc (Jvm.FP.ddiv (Jvm.FP.i2d ((x0 &&& (2147483647 : Int32)) % (1025 : Int32))) (4652218415073722368 : UInt64)) (Jvm.FP.ddiv (Jvm.FP.i2d (x1 &&& (16777215 : Int32))) (4616189618054758400 : UInt64)) (x2 &&& (16777215 : Int32))) (4697254411347427328 : UInt64)))])) (fun t k => XS.l2dS X1.here hx rfl (hb hby at_99) rfl rfl k) ?_
  refine own_via (T' := T1) (g' := (mkF m 101 #[.val (.int x0), .val (.int x1), .val (.int x2), .val (.int ((x0 &&& (2147483647 : Int32)) % (1025 : Int32))), .val (.int (x1 &&& (16777215 : Int32))), .val (.int (x2 &&& (16777215 : Int32))), .val (.double (Jvm.FP.ddiv (Jvm.FP.i2d ((x0 &&& (2147483647 : Int32)) % (1025 : Int32))) (4652218415073722368 : UInt64))), .second, .val (.double (Jvm.FP.ddiv (Jvm.FP.i2d (x1 &&& (16777215 : Int32))) (4616189618054758400 : UInt64))), .second, .val (.double (own_wc (Jvm.FP.ddiv (Jvm.FP.i2d ((x0 &&& (2147483647 : Int32)) % (1025 : Int32))) (4652218415073722368 : UInt64)) (Jvm.FP.ddiv (Jvm.FP.i2d (x1 &&& (16777215 : Int32))) (4616189618054758400 : UInt64)) (x2 &&& (16777215 : Int32)))), .second, .val (.long (((x0 &&& (2147483647 : Int32)) % (1025 : Int32)).toInt64)), .second, .val (.long ((((512 : Int64) * (((x0 &&& (2147483647 : Int32)) % (1025 : Int32)).toInt64)) * (((x1 &&& (16777215 : Int32)).toInt64) - ((4 : Int64) * ((x2 &&& (16777215 : Int32)).toInt64)))) - (((((x0 &&& (2147483647 : Int32)) % (1025 : Int32)).toInt64) * (((x0 &&& (2147483647 : Int32)) % (1025 : Int32)).toInt64)) * (((x1 &&& (16777215 : Int32)).toInt64) - ((2 : Int64) * ((x2 &&& (16777215 : Int32)).toInt64)))))), .second] [(.int (0 : Int32))])) (fun t k => XS.dcmpS X1.here hx rfl (hb hby at_100) rfl (own_cmp0 (own_final x0 x1 x2)) k) ?_
  refine own_via (T' := T1) (g' := (mkF m 109 #[.val (.int x0), .val (.int x1), .val (.int x2), .val (.int ((x0 &&& (2147483647 : Int32)) % (1025 : Int32))), .val (.int (x1 &&& (16777215 : Int32))), .val (.int (x2 &&& (16777215 : Int32))), .val (.double (Jvm.FP.ddiv (Jvm.FP.i2d ((x0 &&& (2147483647 : Int32)) % (1025 : Int32))) (4652218415073722368 : UInt64))), .second, .val (.double (Jvm.FP.ddiv (Jvm.FP.i2d (x1 &&& (16777215 : Int32))) (4616189618054758400 : UInt64))), .second, .val (.double (own_wc (Jvm.FP.ddiv (Jvm.FP.i2d ((x0 &&& (2147483647 : Int32)) % (1025 : Int32))) (4652218415073722368 : UInt64)) (Jvm.FP.ddiv (Jvm.FP.i2d (x1 &&& (16777215 : Int32))) (4616189618054758400 : UInt64)) (x2 &&& (16777215 : Int32)))), .second, .val (.long (((x0 &&& (2147483647 : Int32)) % (1025 : Int32)).toInt64)), .second, .val (.long ((((512 : Int64) * (((x0 &&& (2147483647 : Int32)) % (1025 : Int32)).toInt64)) * (((x1 &&& (16777215 : Int32)).toInt64) - ((4 : Int64) * ((x2 &&& (16777215 : Int32)).toInt64)))) - (((((x0 &&& (2147483647 : Int32)) % (1025 : Int32)).toInt64) * (((x0 &&& (2147483647 : Int32)) % (1025 : Int32)).toInt64)) * (((x1 &&& (16777215 : Int32)).toInt64) - ((2 : Int64) * ((x2 &&& (16777215 : Int32)).toInt64)))))), .second] [(.int (1 : Int32))])) (fun t k => XS.ifNo X1.here hx rfl (hb hby at_101) rfl ((if0 _ _).trans (teq (by decide : (0 : Int32) = (0 : Int32))).2) (XS.iconst X1.here hx rfl (hb hby at_104) (XS.goto X1.here hx rfl (pc0 := 105) (pc' := 109) rfl (hb hby at_105) (by decide) (by decide) k))) ?_
  refine own_retN X1 hx hlk (ty := .boolean) hret (by simp) (hb hby at_109) (by decide) (by decide) ?_
  exact ⟨rfl, e1, rfl⟩
set_option maxRecDepth 65536 in
set_option maxHeartbeats 40000000 in
theorem own_comes {Post : Tables → Env → Array Value → State → Outcome → State → Prop} (hpost : ∀ tb e args s v u, (limb_1_1.after args s (.returned v) u = true ∧ limb_1_2.after args s (.returned v) u = true ∧ True) → FrameEnd s (.returned v) u (Jvm.fieldLocs frame_1_writes args s ++ Jvm.arrayLocs frame_1_arrays args s ++ Jvm.staticLocs frame_1_statics s) 0 0 → Post tb e args s (.returned v) u) :
    ArmFor flags0 classFile x code maxLocals ret World_1 tables_1 room_1 Calls_1 rest_1 Pre_1 Post := by
  intro l hfl _ _ p e ha hc hk s m args below hf hA hF happ hP
  obtain ⟨hcalls, hrest, hpre⟩ := hP
  obtain ⟨-, -, -, hnamed, -, -, -, hat⟩ := (Spec.applies_iff hf).mp happ
  obtain ⟨hg, hn⟩ := and_e (Cond.before_iff.mp (show (Jvm.Cond.and given_1 narrow_1).before args s = true from hpre))
  obtain ⟨g1, g2⟩ := and_e hg
  obtain ⟨g3, g4⟩ := and_e g2
  obtain ⟨g5, g6⟩ := and_e g4
  obtain ⟨w0, w1, w2, rfl⟩ : ∃ w0 w1 w2 : Value, args = #[w0, w1, w2] := by
    have hs : args.size = 3 := by simpa [Cond.value, given_1] using g1
    obtain ⟨L⟩ := args
    match L, hs with
    | [w0, w1, w2], _ => exact ⟨w0, w1, w2, rfl⟩
  have hw := fun d (hd : d ∈ tables_1) => atoms_spec (ws := Jvm.Cond.code x code maxLocals ret :: tables_1) hat d (List.mem_cons_of_mem _ hd)
  have hfit : Fit s := fun {y c} hc i hi => by
    obtain ⟨ha, rfl⟩ := Array.getElem?_eq_some_iff.mp hc
    have q := List.all_eq_true.mp ((Array.all_eq_true_iff_forall_mem.mp hF) _ (Array.getElem_mem ha)) i (List.mem_range.mpr hi)
    simpa [Array.getElem?_eq_getElem hi] using q
  obtain ⟨i0, ei0⟩ := is_v g3
  obtain rfl : w0 = (.int i0) := Option.some.inj ei0
  obtain ⟨i1, ei1⟩ := is_v g5
  obtain rfl : w1 = (.int i1) := Option.some.inj ei1
  obtain ⟨i2, ei2⟩ := is_v g6
  obtain rfl : w2 = (.int i2) := Option.some.inj ei2
  obtain ⟨n, o, h1, h2, h3, _, L, rfl, ⟨hval, N⟩, hq⟩ := own_mt0 l s _ hw i0 i1 i2 s.heap tables_1 p e ha hc hk s m _ below hf ((Spec.applies_iff_loose hf).mp happ).1 ⟨rfl, State.Warmed39.refl s, rfl⟩ trivial
  rw [own_law i0 i1 i2] at hval
  subst hval
  refine ⟨n, _, h1, h2, h3, hpost _ _ _ _ _ _ ⟨Cond.after_iff.mpr rfl, Cond.after_iff.mpr (eq_i res_at (Term.int_eval (1)) rfl), trivial⟩ ⟨hq.1, hq.2.1, (hq.2.2.sift fun y hy => Or.inr (by rw [N.2] at hy; cases hy)).mono (by decide) (by decide)⟩⟩
theorem main_1_1 : Claimed_1_1 := own_comes fun _ _ _ _ _ _ h hF => ⟨h.1, hF⟩
theorem main_1_2 : Claimed_1_2 := own_comes fun _ _ _ _ _ _ h hF => ⟨h.2.1, hF⟩
end Jvm.Pilot.@@N@@
namespace Jvm.Pilot.@@N@@
open Jvm Jvm.ClassFile Sem Op Lib Jvm.Free Jvm.Stand Jvm.Pilot.@@N@@.Jvm.D
/-! MADE BY PROGRAM (witnessworld.py) out of the Statement's table words and the real class files: 9 classes; the members and pool entries that the words name. The judged class is class 1, her method 1. -/
namespace start1
open Jvm.ClassFile
def u (s : String) : CpInfo := .utf8 (stringToUtf16 s)
/-- a pool by its gaps: so many unusable entries, then the entry; so many at the end -/
def gap : Nat → List CpInfo → List CpInfo
  | 0, r => r
  | n + 1, r => .unusable :: gap n r
def poolList (es : List (Nat × CpInfo)) (last : Nat) : List CpInfo := es.foldr (fun e r => gap e.1 (e.2 :: r)) (gap last [])
def pool (es : List (Nat × CpInfo)) (last : Nat) : Array CpInfo := ⟨poolList es last⟩
def fileOf (pool : Array CpInfo) (this : Nat) (attrs : Array Attribute := #[]) (ms : Array MethodInfo := #[]) (fl : Nat := 33) (sup : Nat := 0) (ifs : Array Nat := #[]) (fds : Array FieldInfo := #[]) : ClassFile where
  minorVersion := 0
  majorVersion := 65
  constantPool := pool
  accessFlags := fl
  thisClass := this
  superClass := sup
  interfaces := ifs
  fields := fds
  methods := ms
  attributes := attrs
def plain (name : String) (sup : Option ClassId) : Class where
  name := name
  kind := .ordinary
  loader := none
  accessFlags := 33
  super := sup
  interfaces := #[]
  cf := none
  fields := #[]
  methods := #[]
  instanceTypes := #[]
  staticTypes := #[]
  resolved := #[]
  callSites := []
  init := .initialized
  statics := none
  mirror := none

def pool0 : Array CpInfo := pool [(5, u "<init>"), (0, u "()V"), (1, .class_ 10), (1, u "java/lang/Object")] 113

def k0m0 : Method := { name := "<init>", desc := "()V", sig := { parameters := [], returnType := none }, accessFlags := 1, code := none }
/-- java/lang/Object -/
def k0 : Class := { plain "java/lang/Object" none with
  accessFlags := 33
  interfaces := #[]
  cf := some (fileOf pool0 8 #[] #[{ accessFlags := 1, nameIndex := 5, descriptorIndex := 6, attributes := #[] }] 33 0 #[] #[])
  fields := #[]
  methods := #[k0m0]
  instanceTypes := #[]
  staticTypes := #[]
  resolved := Array.replicate 124 none
  statics := none }

def pool1 : Array CpInfo := pool [(2, .class_ 4), (1, u "java/lang/Object"), (0, u "<init>"), (0, u "()V"), (0, .integer 2147483647), (0, .integer 16777215), (0, .double 4652218415073722368), (1, .double 4616189618054758400), (1, .methodref 14 15), (0, .class_ 16), (0, .nameAndType 17 18), (0, u "com/example/hairball_to_map/hairballtomap/OverlapDerivatives"), (0, u "widthCurvature"), (0, u "(DDI)D"), (0, .long 512), (1, .long 4), (1, .long 2), (1, .double 4697254411347427328), (1, .class_ 28), (0, u "com/example/hairball_to_map/hairballtomap/OverlapDerivativesWidthCurvaturePinLaw"), (2, u "law"), (0, u "(III)Z")] 3

def k1m0 : Method := { name := "<init>", desc := "()V", sig := { parameters := [], returnType := none }, accessFlags := 2, code := none }
def k1c1 : Code := { maxStack := 10, maxLocals := 16, code := code, exceptionTable := #[], attributes := #[] }
def k1m1 : Method := { name := "law", desc := "(III)Z", sig := { parameters := [.int, .int, .int], returnType := some .boolean }, accessFlags := 9, code := some k1c1 }
/-- com/example/hairball_to_map/hairballtomap/OverlapDerivativesWidthCurvaturePinLaw -/
def k1 : Class := { plain "com/example/hairball_to_map/hairballtomap/OverlapDerivativesWidthCurvaturePinLaw" (some 0) with
  accessFlags := 49
  interfaces := #[]
  cf := some (fileOf pool1 27 #[] #[{ accessFlags := 2, nameIndex := 5, descriptorIndex := 6, attributes := #[] }, { accessFlags := 9, nameIndex := 31, descriptorIndex := 32, attributes := #[] }] 49 2 #[] #[])
  fields := #[]
  methods := #[k1m0, k1m1]
  instanceTypes := #[]
  staticTypes := #[]
  resolved := Array.replicate 36 none
  statics := none }

def pool2 : Array CpInfo := pool [(2, .class_ 4), (1, u "java/lang/Object"), (0, u "<init>"), (0, u "()V"), (1, .class_ 10), (1, u "com/example/hairball_to_map/hairballtomap/OverlapDerivatives$1"), (14, .class_ 27), (1, u "com/example/hairball_to_map/hairballtomap/OverlapDerivatives"), (31, u "(DDI)D"), (2, u "widthCurvature"), (0, .double 4611686018427387904), (4, .double 4616189618054758400)] 16

def k2m0 : Method := { name := "<init>", desc := "()V", sig := { parameters := [], returnType := none }, accessFlags := 2, code := none }
def k2c1 : Code := { maxStack := 10, maxLocals := 5, code := prog_55_method_7_code, exceptionTable := #[], attributes := #[] }
def k2m1 : Method := { name := "widthCurvature", desc := "(DDI)D", sig := { parameters := [.double, .double, .int], returnType := some .double }, accessFlags := 8, code := some k2c1 }
/-- com/example/hairball_to_map/hairballtomap/OverlapDerivatives -/
def k2 : Class := { plain "com/example/hairball_to_map/hairballtomap/OverlapDerivatives" (some 0) with
  accessFlags := 48
  interfaces := #[]
  cf := some (fileOf pool2 25 #[.nestMembers #[8]] #[{ accessFlags := 2, nameIndex := 5, descriptorIndex := 6, attributes := #[] }, { accessFlags := 8, nameIndex := 62, descriptorIndex := 59, attributes := #[] }] 48 2 #[] #[])
  fields := #[]
  methods := #[k2m0, k2m1]
  instanceTypes := #[]
  staticTypes := #[]
  resolved := Array.replicate 85 none
  statics := none }

def pool3 : Array CpInfo := pool [(1, u "java/lang/Cloneable"), (0, .class_ 1), (0, u "java/lang/Object"), (0, .class_ 3)] 3

/-- java/lang/Cloneable -/
def k3 : Class := { plain "java/lang/Cloneable" (some 0) with
  accessFlags := 1537
  interfaces := #[]
  cf := some (fileOf pool3 2 #[] #[] 1537 4 #[] #[])
  fields := #[]
  methods := #[]
  instanceTypes := #[]
  staticTypes := #[]
  resolved := Array.replicate 8 none
  statics := none }

def pool4 : Array CpInfo := pool [(1, u "java/io/Serializable"), (0, .class_ 1), (0, u "java/lang/Object"), (0, .class_ 3)] 3

/-- java/io/Serializable -/
def k4 : Class := { plain "java/io/Serializable" (some 0) with
  accessFlags := 1537
  interfaces := #[]
  cf := some (fileOf pool4 2 #[] #[] 1537 4 #[] #[])
  fields := #[]
  methods := #[]
  instanceTypes := #[]
  staticTypes := #[]
  resolved := Array.replicate 8 none
  statics := none }

/-- the primitive byte -/
def k5 : Class := { plain "byte" none with kind := .primitive 'B', accessFlags := 0x411 }
/-- [B -/
def k6 : Class := { plain "[B" (some 0) with kind := .array 5 .byte, interfaces := #[3, 4], accessFlags := 1041 }

/-- the primitive int -/
def k7 : Class := { plain "int" none with kind := .primitive 'I', accessFlags := 0x411 }
/-- [I -/
def k8 : Class := { plain "[I" (some 0) with kind := .array 7 .int, interfaces := #[3, 4], accessFlags := 1041 }

def heap : Heap := #[]
def classes : Array Class := #[k0, k1, k2, k3, k4, k5, k6, k7, k8]
def interned : List (Array UInt16 × Addr) := []
def slotsUsed : Nat := 0
def theMethod : MethodId := ⟨1, 1⟩
def args0 : Array Value := #[.int 5, .int 3, .int 1]
def aboutOver (below : List Frame) : State where
  vm := { classes := classes, interned := interned.toArray }
  heap := heap
  slotsUsed := slotsUsed
  threads := #[{ frames := .invoking theMethod args0 :: below }]
def below0 : List Frame := [.native { method := ⟨0, 0⟩, args := #[] }]
def about1 : State := aboutOver below0
def p0 : Program := .bare "" "" ""
def e0 : Env := launch0.env 0 0 0
theorem w_frames : about1.frames = Frame.invoking theMethod args0 :: below0 := rfl
set_option maxRecDepth 65536 in
theorem w_args : argsFit about1.vm theMethod args0 = true := by decide +kernel
set_option maxRecDepth 65536 in
theorem w_heap : heapFits about1 = true := by decide +kernel
set_option maxRecDepth 65536 in
theorem w_runnable : about1.curStatus? = some .runnable := by decide +kernel
set_option maxRecDepth 65536 in
theorem w_alone : about1.alone = true := by decide +kernel
set_option maxRecDepth 65536 in
theorem w_named : about1.methodNamed? x = some theMethod := by decide +kernel
set_option maxRecDepth 65536 in
theorem w_hears : about1.hears theMethod below0 = true := by decide +kernel
set_option maxRecDepth 65536 in
theorem w_ripe : about1.ripe theMethod args0 below0 = true := by decide +kernel
theorem w_running : about1.status = .running := rfl
set_option maxRecDepth 65536 in
theorem w_room : about1.hasRoom e0.platform room_1 = true :=
  launch0.hasRoom_least _ room_1 (by decide +kernel) (by decide +kernel) (by decide +kernel) (by decide +kernel) (by decide +kernel) (by decide +kernel)
theorem allAtoms_all (ts : List Jvm.Cond) (a : Array Jvm.Value) (st : Jvm.State) : (allAtoms ts).before a st = ts.all (fun c => c.before a st) := by
  induction ts with
  | nil => rfl
  | cons c t ih =>
    show (Jvm.Cond.and c (allAtoms t)).before a st = _
    rw [Jvm.Cond.before_and, ih, List.all_cons]
def words1 : List Jvm.Cond := Jvm.Cond.code x code maxLocals ret :: tables_1
/-- a 'code' word, met by the world's own term for the bytes: nothing is compared byte by byte -/
theorem code_word {y : MethodName} {bytes : ByteArray} {mx : Nat} {rt : Option FieldType} {a : Array Value} {s : State} {m : MethodId} {meth : Method} {c : Code} (h1 : s.methodNamed? y = some m) (h2 : s.vm.method? m = some meth) (h3 : meth.code = some c) (h4 : c.code = bytes)
    (h5 : (c.maxLocals == mx && c.exceptionTable.isEmpty && decide (c.maxStack ≤ mostOperands) && decide (meth.sig.returnType = rt) && !meth.locks && decide (parseMethodDescriptor y.desc = some meth.sig)) = true) : (Jvm.Cond.code y bytes mx rt).before a s = true := by
  simp only [Bool.and_eq_true, beq_iff_eq, Bool.not_eq_true', decide_eq_true_eq] at h5
  obtain ⟨⟨⟨⟨⟨g1, g2⟩, g3⟩, g4⟩, g5⟩, g6⟩ := h5
  simp [Cond.before, Cond.holds, Cond.value, h1, h2, h3, h4, g1, g2, g3, g4, g5, g6]
def isCode : Jvm.Cond → Bool
  | .code _ _ _ _ => true
  | _ => false
theorem all_split {L : List Jvm.Cond} {P : Jvm.Cond → Bool} (h1 : L.all (fun c => isCode c || P c) = true) (h2 : ∀ c ∈ L.filter isCode, P c = true) : L.all P = true := by
  refine List.all_eq_true.mpr fun c hc => ?_
  have h := List.all_eq_true.mp h1 c hc
  rcases Bool.eq_false_or_eq_true (isCode c) with hi | hi
  · exact h2 c (List.mem_filter.mpr ⟨hc, hi⟩)
  · simpa [hi] using h
set_option maxRecDepth 65536 in
theorem w_c0 : (Jvm.Cond.code x code maxLocals ret).before args0 about1 = true := code_word (m := ⟨1, 1⟩) (meth := k1m1) (c := k1c1) (by decide +kernel) rfl rfl rfl (by decide +kernel)
set_option maxRecDepth 65536 in
theorem w_c1 : (Jvm.Cond.code ({ cls := "com/example/hairball_to_map/hairballtomap/OverlapDerivatives", name := "widthCurvature", desc := "(DDI)D" } : Jvm.MethodName) prog_55_method_7_code (5 : Nat) (Option.some Jvm.ClassFile.FieldType.double)).before args0 about1 = true := code_word (m := ⟨2, 1⟩) (meth := k2m1) (c := k2c1) (by decide +kernel) rfl rfl rfl (by decide +kernel)
def codes1 : List Jvm.Cond := [Jvm.Cond.code x code maxLocals ret, Jvm.Cond.code ({ cls := "com/example/hairball_to_map/hairballtomap/OverlapDerivatives", name := "widthCurvature", desc := "(DDI)D" } : Jvm.MethodName) prog_55_method_7_code (5 : Nat) (Option.some Jvm.ClassFile.FieldType.double)]
set_option maxRecDepth 65536 in
theorem codes_eq : words1.filter isCode = codes1 := rfl
theorem w_codes : ∀ c ∈ words1.filter isCode, c.before args0 about1 = true := by
  rw [codes_eq]
  intro c hc
  simp only [codes1, List.mem_cons, List.not_mem_nil, or_false] at hc
  rcases hc with rfl | rfl
  · exact w_c0
  · exact w_c1
set_option maxRecDepth 65536 in
theorem w_t1 : words1.all (fun c => isCode c || c.before args0 about1) = true := by decide +kernel
theorem w_tables : (allAtoms (Jvm.Cond.code x code maxLocals ret :: tables_1)).before args0 about1 = true := by
  rw [allAtoms_all]
  show words1.all (fun c => c.before args0 about1) = true
  refine all_split ?_ w_codes
  rw [w_t1]
set_option maxRecDepth 65536 in
theorem w_case : (Jvm.Cond.and given_1 narrow_1).before args0 about1 = true := by decide +kernel
theorem w_applies : (headSpec (Jvm.Cond.code x code maxLocals ret :: tables_1) room_1).applies x e0.platform about1 = true :=
  (Spec.applies_iff w_frames).mpr ⟨w_running, w_runnable, w_alone, w_named, w_hears, w_ripe, w_room, w_tables⟩
theorem atStart : AtStart classFile x code maxLocals ret World_1 tables_1 room_1 Calls_1 rest_1 Pre_1 launch0 p0 e0 about1 theMethod args0 below0 :=
  ⟨lists_1, trivial, launch0.admits_env _ _ _, launch0.least_env, fairChoices_fair.cas, fairChoices_fair.clock, w_frames, w_args, w_heap, w_applies, trivial, trivial, w_case⟩
end start1
theorem witness_1 : WitnessClaimed_1 := ⟨start1.p0, start1.e0, start1.about1, start1.theMethod, start1.args0, start1.below0, start1.atStart⟩
end Jvm.Pilot.@@N@@
