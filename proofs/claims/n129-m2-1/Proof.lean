import JvmDerived
import JvmDerived.Pilot.@@N@@Statement
import JvmDerived.Pilot.@@N@@Code
set_option linter.unusedVariables false
set_option linter.unusedSimpArgs false
namespace Jvm.Pilot.@@N@@
open Jvm Jvm.ClassFile Sem Op Lib Jvm.Free Jvm.Stand Jvm.LawKit Jvm.RoadKit Bundle Jvm.Pilot.@@N@@.Jvm.D
/-! my own small kit: a walk by continuation -/
section Own
variable {p : Program} {l : Launch} {e : Env} {R : Room} {s : State} {m : MethodId} {args : Array Value} {below : List Frame} {meth : Method} {c : Code} {T T' : State} {locs : List Loc} {cells slots : Nat} {Z : State} {a0 : Array Value} {h h' h0 : Heap} {g g' : JFrame} {a b : Addr} {ty : FieldType} {vs : List Value} {v w : Value} {sl : Nat} {ws : List Addr}
/-- from the frame g over T the run comes to an end with G -/
def own_Go (p : Program) (e : Env) (below : List Frame) (G : Outcome → State → Prop) (T : State) (g : JFrame) : Prop := ∃ s₂ o, Steps p.tables e below (T.setTop g) s₂ ∧ s₂.status = .running ∧ Ended s₂ below o ∧ G o s₂
def own_End (s : State) (kc ks : Nat) (Q : Option Value → Heap → List Loc → Prop) (o : Outcome) (U' : State) : Prop := ∃ v L, o = .returned v ∧ Q v U'.heap L ∧ FrameEnd s o U' L kc ks
def own_Met (l : Launch) (Z : State) (y : MethodName) (bytes : ByteArray) (maxL : Nat) (ret : Option FieldType) (rm : Room) (as' : Array Value) (h0 : Heap) (Q : Option Value → Heap → List Loc → Prop) : Prop :=
  ∀ ws : List Jvm.Cond, MetFree l y (head1 (Jvm.Cond.code y bytes maxL ret :: ws) rm) (fun a U => a = as' ∧ Z.Warmed39 U.vm ∧ U.heap = h0) (fun _ _ _ _ _ => True) (fun _ U o U' => ∃ v L, o = .returned v ∧ Q v U'.heap L ∧ FrameEnd U o U' L rm.cells rm.slots)
theorem own_via {G : Outcome → State → Prop} (q : ∀ t, Steps p.tables e below (T'.setTop g') t → Steps p.tables e below (T.setTop g) t) (k : own_Go p e below G T' g') : own_Go p e below G T g := by
  obtain ⟨t, o, h1, r⟩ := k; exact ⟨t, o, q t h1, r⟩
theorem own_cast {G : Outcome → State → Prop} (q : g = g') (k : own_Go p e below G T g') : own_Go p e below G T g := q ▸ k
theorem own_intro {y : MethodName} {bytes : ByteArray} {maxL : Nat} {ret : Option FieldType} {rm : Room} {as' : Array Value} {Q : Option Value → Heap → List Loc → Prop} (hp : plainFor y = true)
    (body : ∀ (p : Program) (e : Env) (s : State) (m : MethodId) (below : List Frame) (meth : Method) (c : Code) (s₁ : State), p.tables.exec = Jvm.exec → c.code = bytes → c.maxLocals = maxL → s.vm.findClass y.cls = some m.cls → meth.name = y.name → Z.Warmed39 s.vm → meth.sig.returnType = ret → meth.locks = false → Stand p l e rm s m as' below meth c s₁ [] 0 0 → s₁.heap = h0 → own_Go p e below (own_End s rm.cells rm.slots Q) s₁ (entryFrame m as' maxL)) : own_Met l Z y bytes maxL ret rm as' h0 Q := by
  intro ws
  refine MetFree.of_bodySF hp hisR ?_
  intro p e s m args below meth c s₁ Bd hml hP hK
  obtain ⟨rfl, hZ, hh⟩ := hP
  exact body p e s m below meth c s₁ Bd.exec Bd.bytes hml (findClass_of_methodNamed Bd.named) (name_of_methodNamed Bd.named Bd.method).1 hZ Bd.returns Bd.notSynchronized (Stand.of_body Bd) (by rw [← hh, Bd.state]; rfl)
theorem own_ends {kc ks : Nat} {Q : Option Value → Heap → List Loc → Prop} (X : Stand p l e R s m args below meth c T locs cells slots) (hlk : meth.locks = false) {u : Option Value} (hv : meth.sig.returnType = none → u = none) (hq : Q u T.heap locs) (hc : cells ≤ kc) (hs : slots ≤ ks)
    (st : ∀ fs, (∀ (f : JFrame) (acts : List Action), f.method = m → f.locked = none → f.entered = [] → (doReturn e (T.setTop f) acts u).1 = T.setFrames fs) → Steps p.tables e below (T.setTop g) (T.setFrames fs)) : own_Go p e below (own_End s kc ks Q) T g := by
  obtain ⟨fs, hr, hrun, hended, hW, hsame⟩ := X.leave (v := u) hv hlk
  exact ⟨_, _, st fs hr, hrun, hended, _, _, rfl, hq, ⟨_, rfl⟩, hW, hsame.mono hc hs⟩
theorem own_retI {kc ks : Nat} {Q : Option Value → Heap → List Loc → Prop} (X : Stand p l e R s m args below meth c T locs cells slots) (hx : p.tables.exec = Jvm.exec) (hlk : meth.locks = false) {pc : Nat} {Ls : Array Slot} {z : Int32} {rest : List Value} (hret : meth.sig.returnType = some .int) (hd : decode c.code pc = .ok (.ireturn, 1)) (hc : cells ≤ kc) (hs : slots ≤ ks) (hq : Q (some (.int z)) T.heap locs) : own_Go p e below (own_End s kc ks Q) T (mkF m pc Ls (.int z :: rest)) :=
  own_ends X hlk (fun q => by rw [hret] at q; cases q) hq hc hs fun fs hr => retOut X hx hret rfl (Or.inl ⟨rfl, Or.inl rfl, _, rfl⟩) hd hr
theorem own_retJ {kc ks : Nat} {Q : Option Value → Heap → List Loc → Prop} (X : Stand p l e R s m args below meth c T locs cells slots) (hx : p.tables.exec = Jvm.exec) (hlk : meth.locks = false) {pc : Nat} {Ls : Array Slot} {z : Int64} {rest : List Value} (hret : meth.sig.returnType = some .long) (hd : decode c.code pc = .ok (.lreturn, 1)) (hc : cells ≤ kc) (hs : slots ≤ ks) (hq : Q (some (.long z)) T.heap locs) : own_Go p e below (own_End s kc ks Q) T (mkF m pc Ls (.long z :: rest)) :=
  own_ends X hlk (fun q => by rw [hret] at q; cases q) hq hc hs fun fs hr => retOut X hx hret rfl (Or.inr (Or.inl ⟨rfl, rfl, _, rfl⟩)) hd hr
theorem own_retA {kc ks : Nat} {Q : Option Value → Heap → List Loc → Prop} (X : Stand p l e R s m args below meth c T locs cells slots) (hx : p.tables.exec = Jvm.exec) (hlk : meth.locks = false) {pc : Nat} {Ls : Array Slot} {z : Value} {rest : List Value} (hret : meth.sig.returnType = some ty) (ht : ty.isReference = true) (hz : z.isRef = true) (hd : decode c.code pc = .ok (.areturn, 1)) (hc : cells ≤ kc) (hs : slots ≤ ks) (hq : Q (some z) T.heap locs) : own_Go p e below (own_End s kc ks Q) T (mkF m pc Ls (z :: rest)) :=
  own_ends X hlk (fun q => by rw [hret] at q; cases q) hq hc hs fun fs hr => retOut X hx hret (by cases ty <;> first | rfl | cases ht) (Or.inr (Or.inr (Or.inr (Or.inr ⟨rfl, ht, hz⟩)))) hd hr
theorem own_retN {kc ks : Nat} {Q : Option Value → Heap → List Loc → Prop} (X : Stand p l e R s m args below meth c T locs cells slots) (hx : p.tables.exec = Jvm.exec) (hlk : meth.locks = false) {pc : Nat} {Ls : Array Slot} {z : Int32} {rest : List Value} (hret : meth.sig.returnType = some ty) (ht : ty = .boolean ∨ ty = .byte ∨ ty = .char ∨ ty = .short) (hd : decode c.code pc = .ok (.ireturn, 1)) (hc : cells ≤ kc) (hs : slots ≤ ks) (hq : Q (some (.int (nar ty z))) T.heap locs) : own_Go p e below (own_End s kc ks Q) T (mkF m pc Ls (.int z :: rest)) :=
  own_ends X hlk (fun q => by rw [hret] at q; cases q) hq hc hs fun fs hr => retN X hx hret ht hd hr
theorem own_retV {kc ks : Nat} {Q : Option Value → Heap → List Loc → Prop} (X : Stand p l e R s m args below meth c T locs cells slots) (hx : p.tables.exec = Jvm.exec) (hlk : meth.locks = false) {pc : Nat} {Ls : Array Slot} (hret : meth.sig.returnType = none) (hd : decode c.code pc = .ok (.return_, 1)) (hc : cells ≤ kc) (hs : slots ≤ ks) (hq : Q none T.heap locs) : own_Go p e below (own_End s kc ks Q) T (mkF m pc Ls []) :=
  own_ends X hlk (fun _ => rfl) hq hc hs fun fs hr => X.returnOut hx hret hd hr
theorem own_callSt {y : MethodName} {bytes : ByteArray} {maxL : Nat} {ret : Option FieldType} {rm : Room} {Q : Option Value → Heap → List Loc → Prop} (X : Stand p l e R s m args below meth c T locs cells slots) (hx : p.tables.exec = Jvm.exec) (hZ : Z.Warmed39 s.vm) {own : String} {index : Nat} (hown : s.vm.findClass own = some m.cls)
    (w1 : (Jvm.Cond.methodLink own index y).before a0 Z = true) (w2 : (Jvm.Cond.static y).before a0 Z = true) (w3 : (Jvm.Cond.initialized y.cls).before a0 Z = true) (w4 : (Jvm.Cond.code y bytes maxL ret).before a0 Z = true) (hy : y.cls ≠ "java/lang/invoke/MethodHandle" ∧ y.cls ≠ "java/lang/invoke/VarHandle") {argsL rest : List Value}
    (M : own_Met l Z y bytes maxL ret rm argsL.toArray h Q) (eT : T.heap = h) {W : Nat} (hf : rm.frames + 1 ≤ R.frames) (hl : W + (maxL + 11) + rm.locals ≤ R.locals) {g : JFrame} (hg : g.method = m) (hsize : g.locals.size = c.maxLocals) (hlen : ∀ sig, parseMethodDescriptor y.desc = some sig → argsL.length = sig.parameters.length) (hs : g.stack = argsL.reverse ++ rest) (hW : 2 * g.monitorRoom + (rest.map fun v => v.category).sum ≤ W) (hd : decode c.code g.pc = .ok (.invokestatic index, 3)) (hc : cells + rm.cells ≤ R.cells) (hsl : slots + rm.slots ≤ R.slots) :
    ∃ v T' L, Stand p l e R s m args below meth c T' (locs ++ L) (cells + rm.cells) (slots + rm.slots) ∧ Q v T'.heap L ∧ ∀ target, Steps p.tables e below (T'.setTop { g with pc := g.pc + 3, stack := v.toList ++ rest }) target → Steps p.tables e below (T.setTop g) target := by
  obtain ⟨v, _, ⟨T', L', k', n'⟩, -, X', ⟨L, hQ, l1, l2, l3⟩, st⟩ := Jvm.LawKit.callS X hx (y := y) hown (mvT hZ w1) (mvT hZ w2) (mvT hZ w3) (mvT hZ w4) hy (backOf (W := W) (M []) hZ w4 w3 hf hl) hg hsize (argsL := argsL) (rest := rest) hlen hs hW hd (fun _ _ => ⟨rfl, eT, hc, hsl⟩)
  dsimp only [Pt.U, Pt.locs, Pt.cells, Pt.slots] at X' l1 l2 l3 st hQ
  subst l1 l2 l3
  exact ⟨v, T', L, X', hQ, st⟩
theorem own_callSp {y : MethodName} {bytes : ByteArray} {maxL : Nat} {rm : Room} {Q : Option Value → Heap → List Loc → Prop} (X : Stand p l e R s m args below meth c T locs cells slots) (hx : p.tables.exec = Jvm.exec) (hZ : Z.Warmed39 s.vm) {own : String} {index : Nat} (hown : s.vm.findClass own = some m.cls) (hy1 : y.name = "<init>")
    (w1 : (Jvm.Cond.methodLink own index y).before a0 Z = true) (w2 : (Jvm.Cond.instanceMethod y).before a0 Z = true) (w3 : (Jvm.Cond.initialized y.cls).before a0 Z = true) (w4 : (Jvm.Cond.code y bytes maxL none).before a0 Z = true) (hy : y.cls ≠ "java/lang/invoke/MethodHandle" ∧ y.cls ≠ "java/lang/invoke/VarHandle") {argsL rest : List Value}
    (M : own_Met l Z y bytes maxL none rm (.ref a :: argsL).toArray h Q) (eT : T.heap = h) {W : Nat} (hf : rm.frames + 1 ≤ R.frames) (hl : W + (maxL + 11) + rm.locals ≤ R.locals) {g : JFrame} (hg : g.method = m) (hsize : g.locals.size = c.maxLocals) (hlen : ∀ sig, parseMethodDescriptor y.desc = some sig → argsL.length = sig.parameters.length) (hs : g.stack = argsL.reverse ++ .ref a :: rest) (hW : 2 * g.monitorRoom + (rest.map fun v => v.category).sum ≤ W) (hd : decode c.code g.pc = .ok (.invokespecial index, 3)) (hc : cells + rm.cells ≤ R.cells) (hsl : slots + rm.slots ≤ R.slots) :
    ∃ v T' L, Stand p l e R s m args below meth c T' (locs ++ L) (cells + rm.cells) (slots + rm.slots) ∧ Q v T'.heap L ∧ ∀ target, Steps p.tables e below (T'.setTop { g with pc := g.pc + 3, stack := v.toList ++ rest }) target → Steps p.tables e below (T.setTop g) target := by
  obtain ⟨v, _, ⟨T', L', k', n'⟩, -, X', ⟨L, hQ, l1, l2, l3⟩, st⟩ := X.specialBack hx (y := y) hy1 hown (mvT hZ w1) (mvT hZ w2) (mvT hZ w4) hy (backOf (W := W) (M []) hZ w4 w3 hf hl) hg hsize (Steps.refl _) (a := a) (argsL := argsL) (rest := rest) hlen hs hW hd (fun _ _ => ⟨rfl, eT, hc, hsl⟩)
  dsimp only [Pt.U, Pt.locs, Pt.cells, Pt.slots] at X' l1 l2 l3 st hQ
  subst l1 l2 l3
  exact ⟨v, T', L, X', hQ, fun _ k => st.trans k⟩
theorem own_callVi {y z : MethodName} {bytes : ByteArray} {maxL : Nat} {ret : Option FieldType} {rm : Room} {Q : Option Value → Heap → List Loc → Prop} {C : String} (X : Stand p l e R s m args below meth c T locs cells slots) (hx : p.tables.exec = Jvm.exec) (hZ : Z.Warmed39 s.vm) {own : String} {index : Nat} (hown : s.vm.findClass own = some m.cls)
    (w1 : (Jvm.Cond.methodLink own index y).before a0 Z = true) (w2 : (Jvm.Cond.declares y).before a0 Z = true) (nf : NotFace s y) (w5 : (Jvm.Cond.selects C y z).before a0 Z = true) (w6 : (Jvm.Cond.instanceMethod z).before a0 Z = true) (w3 : (Jvm.Cond.initialized z.cls).before a0 Z = true) (w4 : (Jvm.Cond.code z bytes maxL ret).before a0 Z = true) (hy : y.cls ≠ "java/lang/invoke/MethodHandle" ∧ y.cls ≠ "java/lang/invoke/VarHandle") (E : Exa Z h a C) {argsL rest : List Value}
    (M : own_Met l Z z bytes maxL ret rm (.ref a :: argsL).toArray h Q) (eT : T.heap = h) {W : Nat} (hf : rm.frames + 1 ≤ R.frames) (hl : W + (maxL + 11) + rm.locals ≤ R.locals) {g : JFrame} (hg : g.method = m) (hsize : g.locals.size = c.maxLocals) (hlen : ∀ sig, parseMethodDescriptor y.desc = some sig → argsL.length = sig.parameters.length) (hs : g.stack = argsL.reverse ++ .ref a :: rest) (hW : 2 * g.monitorRoom + (rest.map fun v => v.category).sum ≤ W) (hd : decode c.code g.pc = .ok (.invokevirtual index, 3)) (hc : cells + rm.cells ≤ R.cells) (hsl : slots + rm.slots ≤ R.slots) :
    ∃ v T' L, Stand p l e R s m args below meth c T' (locs ++ L) (cells + rm.cells) (slots + rm.slots) ∧ Q v T'.heap L ∧ ∀ target, Steps p.tables e below (T'.setTop { g with pc := g.pc + 3, stack := v.toList ++ rest }) target → Steps p.tables e below (T.setTop g) target := by
  obtain ⟨cq, kq, qa, qb, qc⟩ := isOf hZ eT E
  obtain ⟨v, _, ⟨T', L', k', n'⟩, -, X', ⟨L, hQ, l1, l2, l3⟩, st⟩ := X.virtualBack hx (y := y) (z := z) hown (mvT hZ w1) (mvT hZ w2) nf (mvT hZ w5) (mvT hZ w6) hy (backOf (W := W) (M []) hZ w4 w3 hf hl) qa qc hg hsize (Steps.refl _) (argsL := argsL) (rest := rest) hlen hs hW hd (fun _ _ => ⟨rfl, eT, hc, hsl⟩)
  dsimp only [Pt.U, Pt.locs, Pt.cells, Pt.slots] at X' l1 l2 l3 st hQ
  subst l1 l2 l3
  exact ⟨v, T', L, X', hQ, fun _ k => st.trans k⟩
/-- the whole contents of an array -/
def own_Av (Z : State) (h : Heap) (a : Addr) (ty : FieldType) (vs : List Value) : Prop := ∃ c : Cell, Arr Z h a c ty ∧ c.slots = vs.toArray ∧ vs.length < 2 ^ 31
theorem own_Av.lt (F : own_Av Z h a ty vs) : a < h.size := by obtain ⟨c, A, -⟩ := F; exact A.lt
theorem own_Av.ext (F : own_Av Z h a ty vs) (E : Ext h h') : own_Av Z h' a ty vs := by obtain ⟨c, A, r⟩ := F; exact ⟨c, A.ext E, r⟩
theorem own_Av.other (F : own_Av Z h b ty vs) (W : Wr h h' a sl v) (q : b ≠ a) : own_Av Z h' b ty vs := by obtain ⟨c, A, r⟩ := F; exact ⟨c, A.other W q, r⟩
theorem own_Av.keep (F : own_Av Z h a ty vs) (K : Keep h h' ws) (q : a ∉ ws) : own_Av Z h' a ty vs := by obtain ⟨c, A, r⟩ := F; exact ⟨c, ⟨K.2.1 a c A.1 q, A.2⟩, r⟩
theorem own_Av.len (F : own_Av Z h a ty vs) : vs.length < 2 ^ 31 := by obtain ⟨c, A, r, q⟩ := F; exact q
theorem own_Av.new {k : ClassId} {z : Int32} (A : Arr Z h a (newA k ty z) ty) : own_Av Z h a ty (List.replicate z.toNatClampNeg (defaultValue ty)) := ⟨_, A, by simp [newA], by rw [List.length_replicate]; have := z.toInt_lt; simp only [Int32.toNatClampNeg]; omega⟩
theorem own_Av.set (F : own_Av Z h a ty vs) {j : Nat} (W : Wr h h' a j v) : own_Av Z h' a ty (vs.set j v) := by
  obtain ⟨c, A, r, q⟩ := F
  refine ⟨_, A.same W, ?_, by rw [List.length_set]; exact q⟩
  simp [Cell.setSlot, r]
theorem own_in {c : Cell} {j : Int32} (r : c.slots = vs.toArray) (hj : ¬ j < 0) (hl : j.toNatClampNeg < vs.length) : ¬ (j < 0 ∨ c.slots.size ≤ j.toNatClampNeg) := by
  rw [r]; simp; exact ⟨Int32.not_lt.mp hj, hl⟩
theorem own_lt_of {α : Type} {vs : List α} {j : Nat} {v : α} (q : vs[j]? = some v) : j < vs.length := (List.getElem?_eq_some_iff.mp q).1
theorem own_ldI (X : Stand p l e R s m args below meth c T locs cells slots) (hx : p.tables.exec = Jvm.exec) (hZ : Z.Warmed39 s.vm) (eT : T.heap = h) (F : own_Av Z h a .int vs) {j : Int32} (hj : ¬ j < 0) (hv : vs[j.toNatClampNeg]? = some v) {g : JFrame} (hg : g.method = m) {rest : List Value} (hs : g.stack = .int j :: .ref a :: rest) (hd : decode c.code g.pc = .ok (.iaload, 1)) :
    ∀ target, Steps p.tables e below (T.setTop { g with pc := g.pc + 1, stack := v :: rest }) target → Steps p.tables e below (T.setTop g) target := by
  obtain ⟨cl, A, r, -⟩ := F
  exact X.iaload hx (j := j) (v := v) (by rw [eT]; exact A.1) (State.isArrayOf_alike hZ.alike A.2.1) A.2.2 (own_in r hj (own_lt_of hv)) (by rw [r]; simpa using hv) hg hs hd
theorem own_ldJ (X : Stand p l e R s m args below meth c T locs cells slots) (hx : p.tables.exec = Jvm.exec) (hZ : Z.Warmed39 s.vm) (eT : T.heap = h) (F : own_Av Z h a .long vs) {j : Int32} (hj : ¬ j < 0) (hv : vs[j.toNatClampNeg]? = some v) {g : JFrame} (hg : g.method = m) {rest : List Value} (hs : g.stack = .int j :: .ref a :: rest) (hd : decode c.code g.pc = .ok (.laload, 1)) :
    ∀ target, Steps p.tables e below (T.setTop { g with pc := g.pc + 1, stack := v :: rest }) target → Steps p.tables e below (T.setTop g) target := by
  obtain ⟨cl, A, r, -⟩ := F
  exact X.laload hx (j := j) (v := v) (by rw [eT]; exact A.1) (State.isArrayOf_alike hZ.alike A.2.1) A.2.2 (own_in r hj (own_lt_of hv)) (by rw [r]; simpa using hv) hg hs hd
theorem own_ldB (X : Stand p l e R s m args below meth c T locs cells slots) (hx : p.tables.exec = Jvm.exec) (hZ : Z.Warmed39 s.vm) (eT : T.heap = h) (F : own_Av Z h a .byte vs) {j : Int32} (hj : ¬ j < 0) (hv : vs[j.toNatClampNeg]? = some v) {g : JFrame} (hg : g.method = m) {rest : List Value} (hs : g.stack = .int j :: .ref a :: rest) (hd : decode c.code g.pc = .ok (.baload, 1)) :
    ∀ target, Steps p.tables e below (T.setTop { g with pc := g.pc + 1, stack := v :: rest }) target → Steps p.tables e below (T.setTop g) target := by
  obtain ⟨cl, A, r, -⟩ := F
  exact X.baloadBytes hx (j := j) (v := v) (by rw [eT]; exact A.1) (State.isArrayOf_alike hZ.alike A.2.1) A.2.2 (own_in r hj (own_lt_of hv)) (by rw [r]; simpa using hv) hg hs hd
theorem own_ldZ (X : Stand p l e R s m args below meth c T locs cells slots) (hx : p.tables.exec = Jvm.exec) (hZ : Z.Warmed39 s.vm) (eT : T.heap = h) (F : own_Av Z h a .boolean vs) {j : Int32} (hj : ¬ j < 0) (hv : vs[j.toNatClampNeg]? = some v) {g : JFrame} (hg : g.method = m) {rest : List Value} (hs : g.stack = .int j :: .ref a :: rest) (hd : decode c.code g.pc = .ok (.baload, 1)) :
    ∀ target, Steps p.tables e below (T.setTop { g with pc := g.pc + 1, stack := v :: rest }) target → Steps p.tables e below (T.setTop g) target := by
  obtain ⟨cl, A, r, -⟩ := F
  exact X.baloadBooleans hx (j := j) (v := v) (by rw [eT]; exact A.1) (State.isArrayOf_alike hZ.alike A.2.1) A.2.2 (own_in r hj (own_lt_of hv)) (by rw [r]; simpa using hv) hg hs hd
theorem own_alen (X : Stand p l e R s m args below meth c T locs cells slots) (hx : p.tables.exec = Jvm.exec) (hZ : Z.Warmed39 s.vm) (eT : T.heap = h) (F : own_Av Z h a ty vs) {n : Int32} (hn : vs.length.toInt32 = n) {g : JFrame} (hg : g.method = m) {rest : List Value} (hs : g.stack = .ref a :: rest) (hd : decode c.code g.pc = .ok (.arraylength, 1)) :
    ∀ target, Steps p.tables e below (T.setTop { g with pc := g.pc + 1, stack := .int n :: rest }) target → Steps p.tables e below (T.setTop g) target := by
  obtain ⟨cl, A, r, -⟩ := F
  have q := X.arraylength hx (by rw [eT]; exact A.1) (State.isArrayOf_alike hZ.alike A.2.1) hg hs hd
  have e1 : cl.slots.size.toInt32 = n := by rw [r]; simpa using hn
  rw [e1] at q; exact q
theorem own_stI (X : Stand p l e R s m args below meth c T locs cells slots) (hx : p.tables.exec = Jvm.exec) (hZ : Z.Warmed39 s.vm) (eT : T.heap = h) (F : own_Av Z h a .int vs) {j x : Int32} (hj : ¬ j < 0) (hl : j.toNatClampNeg < vs.length) {g : JFrame} (hg : g.method = m) {rest : List Value} (hs : g.stack = .int x :: .int j :: .ref a :: rest) (hd : decode c.code g.pc = .ok (.iastore, 1)) :
    ∃ T' h', Stand p l e R s m args below meth c T' (locs ++ [⟨a, j.toNatClampNeg⟩]) cells slots ∧ T'.heap = h' ∧ Wr h h' a j.toNatClampNeg (.int x) ∧ own_Av Z h' a .int (vs.set j.toNatClampNeg (.int x)) ∧ ∀ target, Steps p.tables e below (T'.setTop { g with pc := g.pc + 1, stack := rest }) target → Steps p.tables e below (T.setTop g) target := by
  obtain ⟨cl, A, r, q⟩ := F
  obtain ⟨T', h', X', e', W, st⟩ := stI X hx hZ eT A (own_in r hj hl) hg hs hd
  exact ⟨T', h', X', e', W, own_Av.set ⟨cl, A, r, q⟩ W, st⟩
theorem own_stJ (X : Stand p l e R s m args below meth c T locs cells slots) (hx : p.tables.exec = Jvm.exec) (hZ : Z.Warmed39 s.vm) (eT : T.heap = h) (F : own_Av Z h a .long vs) {j : Int32} {x : Int64} (hj : ¬ j < 0) (hl : j.toNatClampNeg < vs.length) {g : JFrame} (hg : g.method = m) {rest : List Value} (hs : g.stack = .long x :: .int j :: .ref a :: rest) (hd : decode c.code g.pc = .ok (.lastore, 1)) :
    ∃ T' h', Stand p l e R s m args below meth c T' (locs ++ [⟨a, j.toNatClampNeg⟩]) cells slots ∧ T'.heap = h' ∧ Wr h h' a j.toNatClampNeg (.long x) ∧ own_Av Z h' a .long (vs.set j.toNatClampNeg (.long x)) ∧ ∀ target, Steps p.tables e below (T'.setTop { g with pc := g.pc + 1, stack := rest }) target → Steps p.tables e below (T.setTop g) target := by
  obtain ⟨cl, A, r, q⟩ := F
  obtain ⟨T', h', X', e', W, st⟩ := stJ X hx hZ eT A (own_in r hj hl) hg hs hd
  exact ⟨T', h', X', e', W, own_Av.set ⟨cl, A, r, q⟩ W, st⟩
theorem own_stB (X : Stand p l e R s m args below meth c T locs cells slots) (hx : p.tables.exec = Jvm.exec) (hZ : Z.Warmed39 s.vm) (eT : T.heap = h) (F : own_Av Z h a .byte vs) {j x : Int32} (hj : ¬ j < 0) (hl : j.toNatClampNeg < vs.length) {g : JFrame} (hg : g.method = m) {rest : List Value} (hs : g.stack = .int x :: .int j :: .ref a :: rest) (hd : decode c.code g.pc = .ok (.bastore, 1)) :
    ∃ T' h', Stand p l e R s m args below meth c T' (locs ++ [⟨a, j.toNatClampNeg⟩]) cells slots ∧ T'.heap = h' ∧ Wr h h' a j.toNatClampNeg (.int x.toInt8.toInt32) ∧ own_Av Z h' a .byte (vs.set j.toNatClampNeg (.int x.toInt8.toInt32)) ∧ ∀ target, Steps p.tables e below (T'.setTop { g with pc := g.pc + 1, stack := rest }) target → Steps p.tables e below (T.setTop g) target := by
  obtain ⟨cl, A, r, q⟩ := F
  obtain ⟨T', h', X', e', W, st⟩ := stB X hx hZ eT A (own_in r hj hl) hg hs hd
  exact ⟨T', h', X', e', W, own_Av.set ⟨cl, A, r, q⟩ W, st⟩
theorem own_stZ (X : Stand p l e R s m args below meth c T locs cells slots) (hx : p.tables.exec = Jvm.exec) (hZ : Z.Warmed39 s.vm) (eT : T.heap = h) (F : own_Av Z h a .boolean vs) {j x : Int32} (hj : ¬ j < 0) (hl : j.toNatClampNeg < vs.length) {g : JFrame} (hg : g.method = m) {rest : List Value} (hs : g.stack = .int x :: .int j :: .ref a :: rest) (hd : decode c.code g.pc = .ok (.bastore, 1)) :
    ∃ T' h', Stand p l e R s m args below meth c T' (locs ++ [⟨a, j.toNatClampNeg⟩]) cells slots ∧ T'.heap = h' ∧ Wr h h' a j.toNatClampNeg (.int (x &&& 1)) ∧ own_Av Z h' a .boolean (vs.set j.toNatClampNeg (.int (x &&& 1))) ∧ ∀ target, Steps p.tables e below (T'.setTop { g with pc := g.pc + 1, stack := rest }) target → Steps p.tables e below (T.setTop g) target := by
  obtain ⟨cl, A, r, q⟩ := F
  obtain ⟨T', h', X', e', W, st⟩ := stZ X hx hZ eT A (own_in r hj hl) hg hs hd
  exact ⟨T', h', X', e', W, own_Av.set ⟨cl, A, r, q⟩ W, st⟩
theorem own_len {t : Term} {n : Int32} {cl : Cell} (q : (Jvm.Cond.eq (.length t) (.int n)).value args s none s [] = some true) (ht : t.eval args s none [] s = some (.ref a)) (A : Arr s s.heap a cl ty) (hn : ¬ n < 0) : cl.slots.size = n.toNatClampNeg := by
  have ha := Arr.fin (State.Warmed39.refl s).alike A
  by_cases hl : cl.slots.size < 2 ^ 31
  · have e1 := len_f (t := t) ht ha hl
    have e2 : cl.slots.size.toInt32 = n := by
      simp only [Cond.value, e1] at q
      simpa [Term.eval] using q
    rw [← e2]
    simp only [Int32.toNatClampNeg, len_toInt hl]; rfl
  · exfalso
    have e1 : (Term.length t).eval args s none [] s = none := by
      have hl' : ¬ cl.slots.size < 2147483648 := hl
      simp [Term.eval, ht, ha, hl']
    simp [Cond.value, e1] at q
theorem own_elemJ {t : Term} {j : Int32} {v : Int64} {cl : Cell} (q : (Jvm.Cond.eq (.elem t (.int j)) (.long v)).value args s none s [] = some true) (ht : t.eval args s none [] s = some (.ref a)) (A : Arr s s.heap a cl ty) : cl.slots[j.toNatClampNeg]? = some (.long v) := by
  cases e1 : (Term.elem t (.int j)).eval args s none [] s with
  | none => simp [Cond.value, e1] at q
  | some x =>
    have e2 := (elem_in e1 ht rfl A.1).2
    rw [e2]
    simp only [Cond.value, e1] at q
    cases x <;> simp [Term.eval] at q
    rw [q]
theorem own_elemI {t : Term} {j : Int32} {v : Int32} {cl : Cell} (q : (Jvm.Cond.eq (.elem t (.int j)) (.int v)).value args s none s [] = some true) (ht : t.eval args s none [] s = some (.ref a)) (A : Arr s s.heap a cl ty) : cl.slots[j.toNatClampNeg]? = some (.int v) := by
  cases e1 : (Term.elem t (.int j)).eval args s none [] s with
  | none => simp [Cond.value, e1] at q
  | some x =>
    have e2 := (elem_in e1 ht rfl A.1).2
    rw [e2]
    simp only [Cond.value, e1] at q
    cases x <;> simp [Term.eval] at q
    rw [q]
theorem own_Av.of {cl : Cell} (A : Arr Z h a cl ty) (hs : cl.slots.size = vs.length) (hv : ∀ i, i < vs.length → cl.slots[i]? = vs[i]?) (hl : vs.length < 2 ^ 31) : own_Av Z h a ty vs := by
  refine ⟨cl, A, ?_, hl⟩
  apply Array.ext
  · simpa using hs
  · intro i h1 h2
    have h3 : i < vs.length := by rw [← hs]; exact h1
    have := hv i h3
    rw [Array.getElem?_eq_getElem h1, List.getElem?_eq_getElem h3] at this
    simpa using this
theorem own_Sta.keep0 {C n d : String} (F : Sta Z h C n d v) (K : Keep h h' []) : Sta Z h' C n d v := by
  obtain ⟨cf, i, k, f, st, cell, h1, h2, h3, h4, h5, r⟩ := F; exact ⟨cf, i, k, f, st, cell, h1, h2, h3, h4, K.2.1 _ _ h5 nin0, r⟩
theorem own_fldJ {t : Term} {C n d : String} {z : Int64} (q : (Jvm.Cond.eq (.field t C n d) (.long z)).value args s none s [] = some true) (ht : t.eval args s none [] s = some (.ref a)) : Fld s s.heap a C n d (.long z) := by
  have e0 := fld_at (C := C) (n := n) (dd := d) ht
  refine Fld.start ?_
  cases e1 : s.fieldOf? a C n d with
  | none => rw [e1] at e0; simp [Cond.value, e0] at q
  | some x =>
    rw [e1] at e0
    simp only [Cond.value, e0] at q
    cases x <;> simp [Term.eval] at q
    rw [q]
theorem own_cloneI (X : Stand p l e R s m args below meth c T locs cells slots) (hx : p.tables.exec = Jvm.exec) (hZ : Z.Warmed39 s.vm) {own : String} {index : Nat} (hown : s.vm.findClass own = some m.cls)
    (w1 : (Jvm.Cond.methodLink own index ⟨"[I", "clone", "()Ljava/lang/Object;"⟩).before a0 Z = true) (w2 : (Jvm.Cond.sameMethod "[I" "java/lang/Object" "clone" "()Ljava/lang/Object;").before a0 Z = true) (w3 : (Jvm.Cond.native ⟨"java/lang/Object", "clone", "()Ljava/lang/Object;"⟩).before a0 Z = true)
    (w4 : (Jvm.Cond.instanceMethod ⟨"java/lang/Object", "clone", "()Ljava/lang/Object;"⟩).before a0 Z = true) (w5 : (Jvm.Cond.selects "[I" ⟨"[I", "clone", "()Ljava/lang/Object;"⟩ ⟨"java/lang/Object", "clone", "()Ljava/lang/Object;"⟩).before a0 Z = true) (w6 : (Jvm.Cond.castable "[I" "java/lang/Cloneable").before a0 Z = true)
    (eT : T.heap = h) {I : List Int32} (F : own_Av Z h a .int (I.map Value.int)) (E : Exa Z h a "[I") {g : JFrame} (hg : g.method = m) (hsize : g.locals.size = c.maxLocals) {rest : List Value} (hs : g.stack = .ref a :: rest) (hd : decode c.code g.pc = .ok (.invokevirtual index, 3))
    (hf : 1 ≤ R.frames) {W cap : Nat} (hW : 2 * g.monitorRoom + (rest.map fun v => v.category).sum ≤ W) (hl : W + 14 ≤ R.locals) (hcap : I.length ≤ cap) (hc : cells + 1 ≤ R.cells) (hsl : slots + cap ≤ R.slots) :
    ∃ T' h', Stand p l e R s m args below meth c T' locs (cells + 1) (slots + cap) ∧ T'.heap = h' ∧ Ext h h' ∧ own_Av Z h' h.size .int (I.map Value.int) ∧ Exa Z h' h.size "[I" ∧
      ∀ target, Steps p.tables e below (T'.setTop { g with pc := g.pc + 3, stack := .ref h.size :: rest }) target → Steps p.tables e below (T.setTop g) target := by
  obtain ⟨cl, A, r, q⟩ := F
  have FC : FitC Z cl := fitC_of A fun i hi v hv => by
    rw [r] at hv
    simp only [List.getElem?_toArray, List.getElem?_map, Option.map_eq_some_iff] at hv
    obtain ⟨z, -, rfl⟩ := hv
    rfl
  obtain ⟨T', h', X', e', ex, A', E', st⟩ := cloneA X hx hZ hown w1 w2 w3 w4 w5 w6 eT A E FC hg hsize hs hd hf hW hl (by rw [r]; simpa using hcap) hc hsl
  exact ⟨T', h', X', e', ex, ⟨cloneOf cl, A', r, q⟩, E', st⟩
theorem own_callPr {y y' : MethodName} {bytes : ByteArray} {maxL : Nat} {ret : Option FieldType} {rm : Room} {Q : Option Value → Heap → List Loc → Prop} (X : Stand p l e R s m args below meth c T locs cells slots) (hx : p.tables.exec = Jvm.exec) (hZ : Z.Warmed39 s.vm) {own : String} {index : Nat} (hown : s.vm.findClass own = some m.cls)
    (w1 : (Jvm.Cond.methodLink own index y).before a0 Z = true) (w2 : (Jvm.Cond.privateMethod y).before a0 Z = true) (w6 : (Jvm.Cond.instanceMethod y).before a0 Z = true) (w3 : (Jvm.Cond.initialized y.cls).before a0 Z = true) (w4 : (Jvm.Cond.code y bytes maxL ret).before a0 Z = true) (w7 : (Jvm.Cond.selects y.cls y' y').before a0 Z = true) (w8 : (Jvm.Cond.instanceMethod y').before a0 Z = true) (hcl : y'.cls = y.cls) (hy : y.cls ≠ "java/lang/invoke/MethodHandle" ∧ y.cls ≠ "java/lang/invoke/VarHandle") {C : String} (E : Exa Z h a C) {argsL rest : List Value}
    (M : own_Met l Z y bytes maxL ret rm (.ref a :: argsL).toArray h Q) (eT : T.heap = h) {W : Nat} (hf : rm.frames + 1 ≤ R.frames) (hl : W + (maxL + 11) + rm.locals ≤ R.locals) {g : JFrame} (hg : g.method = m) (hsize : g.locals.size = c.maxLocals) (hlen : ∀ sig, parseMethodDescriptor y.desc = some sig → argsL.length = sig.parameters.length) (hs : g.stack = argsL.reverse ++ .ref a :: rest) (hW : 2 * g.monitorRoom + (rest.map fun v => v.category).sum ≤ W) (hd : decode c.code g.pc = .ok (.invokevirtual index, 3)) (hc : cells + rm.cells ≤ R.cells) (hsl : slots + rm.slots ≤ R.slots) :
    ∃ v T' L, Stand p l e R s m args below meth c T' (locs ++ L) (cells + rm.cells) (slots + rm.slots) ∧ Q v T'.heap L ∧ ∀ target, Steps p.tables e below (T'.setTop { g with pc := g.pc + 3, stack := v.toList ++ rest }) target → Steps p.tables e below (T.setTop g) target := by
  obtain ⟨cq, qa, qb⟩ := E.cell
  have nf := notFace_of_selects (args := #[]) (mvT hZ w7)
  obtain ⟨mk', meth', hn', -⟩ := Cond.instanceMethod_spec (mvT (args := #[]) hZ w8)
  obtain ⟨k', hk', hni⟩ := nf mk' hn'
  have hc' := findClass_of_methodNamed hn'
  rw [hcl] at hc'
  have hpriv := Cond.privateMethod_at (mvP hZ w2 (args := #[]))
  have hsel := selects_self_of_private (args := args) hc' hk' hni hpriv (mvT hZ w6) hy
  obtain ⟨v, _, ⟨T', L', k', n'⟩, -, X', ⟨L, hQ, l1, l2, l3⟩, st⟩ := X.privateBack hx (y := y) hown (mvT hZ w1) (mvT hZ w6) hsel hpriv (mvT hZ w4) hy (backOf (W := W) (M []) hZ w4 w3 hf hl) hg hsize (Steps.refl _) (a := a) (by rw [eT]; exact qa) qb (argsL := argsL) (rest := rest) hlen hs hW hd (fun _ _ => ⟨rfl, eT, hc, hsl⟩)
  dsimp only [Pt.U, Pt.locs, Pt.cells, Pt.slots] at X' l1 l2 l3 st hQ
  subst l1 l2 l3
  exact ⟨v, T', L, X', hQ, fun _ k => st.trans k⟩
theorem own_clone {ad : String} (X : Stand p l e R s m args below meth c T locs cells slots) (hx : p.tables.exec = Jvm.exec) (hZ : Z.Warmed39 s.vm) {own : String} {index : Nat} (hown : s.vm.findClass own = some m.cls)
    (w1 : (Jvm.Cond.methodLink own index ⟨ad, "clone", "()Ljava/lang/Object;"⟩).before a0 Z = true) (w2 : (Jvm.Cond.sameMethod ad "java/lang/Object" "clone" "()Ljava/lang/Object;").before a0 Z = true) (w3 : (Jvm.Cond.native ⟨"java/lang/Object", "clone", "()Ljava/lang/Object;"⟩).before a0 Z = true)
    (w4 : (Jvm.Cond.instanceMethod ⟨"java/lang/Object", "clone", "()Ljava/lang/Object;"⟩).before a0 Z = true) (w5 : (Jvm.Cond.selects ad ⟨ad, "clone", "()Ljava/lang/Object;"⟩ ⟨"java/lang/Object", "clone", "()Ljava/lang/Object;"⟩).before a0 Z = true) (w6 : (Jvm.Cond.castable ad "java/lang/Cloneable").before a0 Z = true)
    (eT : T.heap = h) (F : own_Av Z h a ty vs) (hfit : ∀ v ∈ vs, fits ty v = true) (E : Exa Z h a ad) {g : JFrame} (hg : g.method = m) (hsize : g.locals.size = c.maxLocals) {rest : List Value} (hs : g.stack = .ref a :: rest) (hd : decode c.code g.pc = .ok (.invokevirtual index, 3))
    (hf : 1 ≤ R.frames) {W cap : Nat} (hW : 2 * g.monitorRoom + (rest.map fun v => v.category).sum ≤ W) (hl : W + 14 ≤ R.locals) (hcap : vs.length ≤ cap) (hc : cells + 1 ≤ R.cells) (hsl : slots + cap ≤ R.slots) :
    ∃ T' h', Stand p l e R s m args below meth c T' locs (cells + 1) (slots + cap) ∧ T'.heap = h' ∧ Ext h h' ∧ own_Av Z h' h.size ty vs ∧ Exa Z h' h.size ad ∧
      ∀ target, Steps p.tables e below (T'.setTop { g with pc := g.pc + 3, stack := .ref h.size :: rest }) target → Steps p.tables e below (T.setTop g) target := by
  obtain ⟨cl, A, r, q⟩ := F
  have FC : FitC Z cl := fitC_of A fun i hi v hv => by
    rw [r] at hv
    simp only [List.getElem?_toArray] at hv
    exact hfit v (List.mem_of_getElem? hv)
  obtain ⟨T', h', X', e', ex, A', E', st⟩ := cloneA X hx hZ hown w1 w2 w3 w4 w5 w6 eT A E FC hg hsize hs hd hf hW hl (by rw [r]; simpa using hcap) hc hsl
  exact ⟨T', h', X', e', ex, ⟨cloneOf cl, A', r, q⟩, E', st⟩
theorem own_Av.arv (F : own_Av Z h a ty vs) {dv : Value} (hfit : ∀ v ∈ vs, fits ty v = true) : ∃ k, Arv Z h a k ty vs.length.toInt32 vs dv := by
  obtain ⟨cl, A, r, q⟩ := F
  have e1 : vs.length.toInt32.toNatClampNeg = vs.length := by simp only [Int32.toNatClampNeg, len_toInt q]; rfl
  have hs : cl.slots.size = vs.length := by rw [r]; simp
  refine ⟨cl.cls, cl, A, rfl, by rw [e1, hs], ?_, fun k hk => ?_, fun i hi => ?_⟩
  · rw [Int32.lt_iff_toInt_lt, len_toInt q]; have : (0 : Int32).toInt = 0 := by decide
    omega
  · rw [hs] at hk; rw [r]; simp [List.getD_eq_getElem?_getD, List.getElem?_eq_getElem hk]
  · rw [hs] at hi
    have : vs.getD i dv = vs[i] := by simp [List.getD_eq_getElem?_getD, List.getElem?_eq_getElem hi]
    rw [this]; exact hfit _ (List.getElem_mem hi)
theorem own_stC (X : Stand p l e R s m args below meth c T locs cells slots) (hx : p.tables.exec = Jvm.exec) (hZ : Z.Warmed39 s.vm) (eT : T.heap = h) (F : own_Av Z h a .char vs) {j x : Int32} (hj : ¬ j < 0) (hl : j.toNatClampNeg < vs.length) {g : JFrame} (hg : g.method = m) {rest : List Value} (hs : g.stack = .int x :: .int j :: .ref a :: rest) (hd : decode c.code g.pc = .ok (.castore, 1)) :
    ∃ T' h', Stand p l e R s m args below meth c T' (locs ++ [⟨a, j.toNatClampNeg⟩]) cells slots ∧ T'.heap = h' ∧ Wr h h' a j.toNatClampNeg (.int x.toUInt32.toUInt16.toUInt32.toInt32) ∧ own_Av Z h' a .char (vs.set j.toNatClampNeg (.int x.toUInt32.toUInt16.toUInt32.toInt32)) ∧ ∀ target, Steps p.tables e below (T'.setTop { g with pc := g.pc + 1, stack := rest }) target → Steps p.tables e below (T.setTop g) target := by
  obtain ⟨cl, A, r, q⟩ := F
  obtain ⟨T', h', X', e', W, st⟩ := stC X hx hZ eT A (own_in r hj hl) hg hs hd
  exact ⟨T', h', X', e', W, own_Av.set ⟨cl, A, r, q⟩ W, st⟩
theorem own_ne_of (q : a < h.size) (r : h.size ≤ b) : a ≠ b := Nat.ne_of_lt (Nat.lt_of_lt_of_le q r)
end Own
theorem own_nb {nb : Nat} (h : nb ≤ 9) : nb.toInt32.toInt = (nb : Int) := by
  rw [show nb.toInt32 = Int32.ofNat nb from rfl, Int32.toInt_ofNat_of_lt (by omega)]
theorem own_zero {nb : Nat} : 0 ≤ (0 : Int32).toInt ∧ (0 : Int32).toInt ≤ (nb : Int) := by
  have k0 : (0 : Int32).toInt = 0 := by decide
  omega
theorem own_ix {c : Int32} (h0 : 0 ≤ c.toInt) : (c.toNatClampNeg : Int) = c.toInt := by simp only [Int32.toNatClampNeg]; omega
theorem own_nlt {c : Int32} (h0 : 0 ≤ c.toInt) : ¬ c < 0 := by
  have k0 : (0 : Int32).toInt = 0 := by decide
  rw [Int32.lt_iff_toInt_lt]; omega
theorem own_rep {α : Type} {nb k : Nat} {v : α} (h : k < nb) : (List.replicate nb v)[k]? = some v := by
  rw [List.getElem?_replicate, if_pos h]
theorem own_left {nb : Nat} {pp : Int32} (hnb : nb ≤ 9) (hpp : 0 ≤ pp.toInt ∧ pp.toInt ≤ nb) : (nb.toInt32 - pp).toInt = (nb : Int) - pp.toInt := by
  have q := c_isub nb.toInt32 pp
  have r := rng32 (nb.toInt32 - pp)
  have e := own_nb hnb
  omega
theorem own_room {nb : Nat} {pp k : Int32} (hnb : nb ≤ 9) (hpp : 0 ≤ pp.toInt ∧ pp.toInt ≤ nb) (hneed : ¬ (nb.toInt32 - pp) < k) : pp.toInt + k.toInt ≤ nb := by
  have e := own_left hnb hpp
  rw [Int32.lt_iff_toInt_lt] at hneed
  omega
theorem own_ix0 {nb : Nat} {x1 : Int32} (hnb : nb ≤ 9) (hat : 0 ≤ x1.toInt ∧ x1.toInt + 3 < nb) : ¬ x1 < 0 ∧ x1.toNatClampNeg < nb := by
  have e := own_ix hat.1
  exact ⟨own_nlt hat.1, by omega⟩
theorem own_add {nb : Nat} {x k : Int32} (hnb : nb ≤ 9) (h0 : 0 ≤ x.toInt) (h1 : x.toInt ≤ nb) (k0 : 0 ≤ k.toInt) (k1 : k.toInt ≤ 9) : (x + k).toInt = x.toInt + k.toInt := by
  have q := c_iadd x k
  have r := rng32 (x + k)
  omega
theorem own_ix4 {nb : Nat} {x1 k : Int32} (hnb : nb ≤ 9) (hat : 0 ≤ x1.toInt ∧ x1.toInt + 3 < nb) (h0 : 0 ≤ k.toInt) (h3 : k.toInt ≤ 3) : ¬ (x1 + k) < 0 ∧ (x1 + k).toNatClampNeg < nb := by
  have a := own_add hnb hat.1 (by omega) h0 (by omega)
  have e := own_ix (c := x1 + k) (by omega)
  exact ⟨own_nlt (by omega), by omega⟩
theorem own_b1 {nb : Nat} {pp : Int32} (hnb : nb ≤ 9) (hpp : 0 ≤ pp.toInt ∧ pp.toInt ≤ nb) (hneed : ¬ (nb.toInt32 - pp) < (1 : Int32)) : ¬ pp < 0 ∧ pp.toNatClampNeg < nb := by
  have r := own_room hnb hpp hneed
  have k1 : (1 : Int32).toInt = 1 := by decide
  have e := own_ix hpp.1
  exact ⟨own_nlt hpp.1, by omega⟩
theorem own_ai {nb : Nat} {pp : Int32} (hnb : nb ≤ 9) (hpp : 0 ≤ pp.toInt ∧ pp.toInt ≤ nb) (hneed : ¬ (nb.toInt32 - pp) < (4 : Int32)) : 0 ≤ pp.toInt ∧ pp.toInt + 3 < nb := by
  have r := own_room hnb hpp hneed
  have k1 : (4 : Int32).toInt = 4 := by decide
  omega
theorem own_a0 {nb : Nat} {pp : Int32} (hnb : nb ≤ 9) (hpp : 0 ≤ pp.toInt ∧ pp.toInt ≤ nb) (hneed : ¬ (nb.toInt32 - pp) < (8 : Int32)) : 0 ≤ pp.toInt ∧ pp.toInt + 3 < nb := by
  have r := own_room hnb hpp hneed
  have k1 : (8 : Int32).toInt = 8 := by decide
  omega
theorem own_a4 {nb : Nat} {pp : Int32} (hnb : nb ≤ 9) (hpp : 0 ≤ pp.toInt ∧ pp.toInt ≤ nb) (hneed : ¬ (nb.toInt32 - pp) < (8 : Int32)) : 0 ≤ (pp + (4 : Int32)).toInt ∧ (pp + (4 : Int32)).toInt + 3 < nb := by
  have r := own_room hnb hpp hneed
  have k1 : (8 : Int32).toInt = 8 := by decide
  have k2 : (4 : Int32).toInt = 4 := by decide
  have a := own_add (k := 4) hnb hpp.1 hpp.2 (by decide) (by decide)
  omega
theorem own_r1 {nb : Nat} {x1 : Int32} (hnb : nb ≤ 9) (hfr : 0 ≤ x1.toInt ∧ x1.toInt ≤ nb) : ¬ nb.toInt32 < x1 := by
  rw [Int32.lt_iff_toInt_lt, own_nb hnb]; omega
theorem own_r2 {nb : Nat} {x1 : Int32} (hnb : nb ≤ 9) (hfr : 0 ≤ x1.toInt ∧ x1.toInt ≤ nb) : ¬ (nb.toInt32 - x1) < 0 ∧ (nb.toInt32 - x1).toNatClampNeg ≤ 9 := by
  have e := own_left hnb hfr
  have i := own_ix (c := nb.toInt32 - x1) (by omega)
  exact ⟨own_nlt (by omega), by omega⟩

def own_blen (x0 : Int32) : Nat := if x0 = 0 then 0 else if x0 = 1 then 1 else if x0 = 2 then 2 else if x0 = 3 then 3 else if x0 = 4 then 4 else if x0 = 5 then 5 else if x0 = 6 then 8 else 9
theorem own_blen9 (x : Int32) : own_blen x ≤ 9 := by
  unfold own_blen
  repeat' split
  all_goals decide
theorem own_d1_0 : decode method_3_code 0 = .ok (.iload_n 0, 1) := by decide +kernel
theorem own_d1_1 : decode method_3_code 1 = .ok (.ifCond .ne 7, 3) := by decide +kernel
theorem own_d1_4 : decode method_3_code 4 = .ok (.iconst 0, 1) := by decide +kernel
theorem own_d1_5 : decode method_3_code 5 = .ok (.newarray .byte, 2) := by decide +kernel
theorem own_d1_7 : decode method_3_code 7 = .ok (.areturn, 1) := by decide +kernel
theorem own_d1_8 : decode method_3_code 8 = .ok (.iload_n 0, 1) := by decide +kernel
theorem own_d1_9 : decode method_3_code 9 = .ok (.iconst 1, 1) := by decide +kernel
theorem own_d1_10 : decode method_3_code 10 = .ok (.if_icmp .ne 7, 3) := by decide +kernel
theorem own_d1_13 : decode method_3_code 13 = .ok (.iconst 1, 1) := by decide +kernel
theorem own_d1_14 : decode method_3_code 14 = .ok (.newarray .byte, 2) := by decide +kernel
theorem own_d1_16 : decode method_3_code 16 = .ok (.areturn, 1) := by decide +kernel
theorem own_d1_17 : decode method_3_code 17 = .ok (.iload_n 0, 1) := by decide +kernel
theorem own_d1_18 : decode method_3_code 18 = .ok (.iconst 2, 1) := by decide +kernel
theorem own_d1_19 : decode method_3_code 19 = .ok (.if_icmp .ne 7, 3) := by decide +kernel
theorem own_d1_22 : decode method_3_code 22 = .ok (.iconst 2, 1) := by decide +kernel
theorem own_d1_23 : decode method_3_code 23 = .ok (.newarray .byte, 2) := by decide +kernel
theorem own_d1_25 : decode method_3_code 25 = .ok (.areturn, 1) := by decide +kernel
theorem own_d1_26 : decode method_3_code 26 = .ok (.iload_n 0, 1) := by decide +kernel
theorem own_d1_27 : decode method_3_code 27 = .ok (.iconst 3, 1) := by decide +kernel
theorem own_d1_28 : decode method_3_code 28 = .ok (.if_icmp .ne 7, 3) := by decide +kernel
theorem own_d1_31 : decode method_3_code 31 = .ok (.iconst 3, 1) := by decide +kernel
theorem own_d1_32 : decode method_3_code 32 = .ok (.newarray .byte, 2) := by decide +kernel
theorem own_d1_34 : decode method_3_code 34 = .ok (.areturn, 1) := by decide +kernel
theorem own_d1_35 : decode method_3_code 35 = .ok (.iload_n 0, 1) := by decide +kernel
theorem own_d1_36 : decode method_3_code 36 = .ok (.iconst 4, 1) := by decide +kernel
theorem own_d1_37 : decode method_3_code 37 = .ok (.if_icmp .ne 7, 3) := by decide +kernel
theorem own_d1_40 : decode method_3_code 40 = .ok (.iconst 4, 1) := by decide +kernel
theorem own_d1_41 : decode method_3_code 41 = .ok (.newarray .byte, 2) := by decide +kernel
theorem own_d1_43 : decode method_3_code 43 = .ok (.areturn, 1) := by decide +kernel
theorem own_d1_44 : decode method_3_code 44 = .ok (.iload_n 0, 1) := by decide +kernel
theorem own_d1_45 : decode method_3_code 45 = .ok (.iconst 5, 1) := by decide +kernel
theorem own_d1_46 : decode method_3_code 46 = .ok (.if_icmp .ne 7, 3) := by decide +kernel
theorem own_d1_49 : decode method_3_code 49 = .ok (.iconst 5, 1) := by decide +kernel
theorem own_d1_50 : decode method_3_code 50 = .ok (.newarray .byte, 2) := by decide +kernel
theorem own_d1_52 : decode method_3_code 52 = .ok (.areturn, 1) := by decide +kernel
theorem own_d1_53 : decode method_3_code 53 = .ok (.iload_n 0, 1) := by decide +kernel
theorem own_d1_54 : decode method_3_code 54 = .ok (.bipush 6, 2) := by decide +kernel
theorem own_d1_56 : decode method_3_code 56 = .ok (.if_icmp .ne 8, 3) := by decide +kernel
theorem own_d1_59 : decode method_3_code 59 = .ok (.bipush 8, 2) := by decide +kernel
theorem own_d1_61 : decode method_3_code 61 = .ok (.newarray .byte, 2) := by decide +kernel
theorem own_d1_63 : decode method_3_code 63 = .ok (.areturn, 1) := by decide +kernel
theorem own_d1_64 : decode method_3_code 64 = .ok (.bipush 9, 2) := by decide +kernel
theorem own_d1_66 : decode method_3_code 66 = .ok (.newarray .byte, 2) := by decide +kernel
theorem own_d1_68 : decode method_3_code 68 = .ok (.areturn, 1) := by decide +kernel
theorem own_pn0 : plainName "com/example/concordia/concordia/wire/FrameReaderHasRemainingPinLaw" = true := by first | (simp [plainName, overriddenIn]; done) | decide +kernel
set_option maxHeartbeats 40000000 in
theorem own_mtb_ef (m : MethodId) (x0 : Int32) : entryFrame m #[(.int x0)] 1 = mkF m 0 #[.val (.int x0)] [] := by first | (simp [entryFrame, mkF, argsToLocals, Value.category, maxLocals]; done) | rfl
set_option maxRecDepth 65536 in
set_option maxHeartbeats 40000000 in
theorem own_mtb (l : Launch) (Z : State) (a0 : Array Value) (hw : ∀ d ∈ tables_1, d.before a0 Z = true) (x0 : Int32)  (h0 : Heap) (n0 : Nat) (Z0 : n0 ≤ h0.size) :
    own_Met l Z (⟨"com/example/concordia/concordia/wire/FrameReaderHasRemainingPinLaw", "body", "(I)[B"⟩ : MethodName) method_3_code 1 (some (.array .byte)) ({ frames := 0, cells := 1, slots := 9, locals := 0 } : Room) #[(.int x0)] h0 (fun v h L => ∃ r : Addr, v = some (.ref r) ∧ h0.size ≤ r ∧ Fr n0 L ∧ Keep h0 h [] ∧ own_Av Z h r .byte (List.replicate (own_blen x0) (.int (0 : Int32))) ∧ Exa Z h r "[B") := by
  refine own_intro (plainFor_of_name own_pn0) ?_
  intro p e s m below meth c s₁ hx hby hml hown hnm hZ hret hlk X0 e0
  refine own_cast (own_mtb_ef m x0) ?_
  have N0 := Fr.nil n0
  have K0 : Keep h0 h0 [] := Keep.refl _ _
  refine own_via (T' := s₁) (g' := (mkF m 1 #[.val (.int x0)] [(.int x0)])) (fun t k => XS.iloadN X0.here hx rfl (hb hby own_d1_0) rfl k) ?_
  by_cases hc1 : x0 = (0 : Int32)
  · refine own_via (T' := s₁) (g' := (mkF m 5 #[.val (.int x0)] [(.int (0 : Int32))])) (fun t k => XS.ifNo X0.here hx rfl (hb hby own_d1_1) rfl ((if0 _ _).trans (teq hc1).2) (XS.iconst X0.here hx rfl (hb hby own_d1_4) k)) ?_
    obtain ⟨T2, h2, k2, X2, e2, E2, A2, EA2, st2⟩ := newPE (ad := "[B") X0 hx hZ (hw _ (List.mem_of_getElem? (i := 4) rfl)) e0 (g := (mkF m 5 #[.val (.int x0)] [(.int (0 : Int32))])) rfl (hb hby own_d1_5) rfl (by decide) (cap := 0) (by decide) (by decide) (by decide) (by decide) (by decide)
    obtain ⟨b2, g2⟩ : ∃ z, z = h0.size := ⟨_, rfl⟩
    rw [← g2] at A2 EA2 st2
    have bd_b2 : h0.size ≤ b2 := Nat.le_of_eq g2.symm
    have ge_b2 : n0 ≤ b2 := Nat.le_trans Z0 bd_b2
    have Z2 : n0 ≤ h2.size := Nat.le_trans Z0 E2.1
    have bo_b2 : h0.size ≤ b2 := Nat.le_trans K0.1 bd_b2
    have K2 : Keep h0 h2 [] := K0.ext E2
    have V2 : own_Av Z h2 b2 .byte [] := own_Av.new A2
    refine own_via (T' := T2) (g' := (mkF m 7 #[.val (.int x0)] [(.ref b2)])) st2 ?_
    refine own_retA X2 hx hlk hret rfl rfl (hb hby own_d1_7) (by decide) (by decide) ?_
    rw [e2]; exact ⟨b2, rfl, bo_b2, N0, K2, (by rw [own_blen, if_pos hc1]; exact V2), EA2⟩
  · refine own_via (T' := s₁) (g' := (mkF m 10 #[.val (.int x0)] [(.int (1 : Int32)), (.int x0)])) (fun t k => XS.ifYes X0.here hx rfl (pc0 := 1) (pc' := 8) rfl (hb hby own_d1_1) rfl ((if0 _ _).trans (feq hc1).2) (by decide) (by decide) (XS.iloadN X0.here hx rfl (hb hby own_d1_8) rfl (XS.iconst X0.here hx rfl (hb hby own_d1_9) k))) ?_
    by_cases hc3 : x0 = (1 : Int32)
    · refine own_via (T' := s₁) (g' := (mkF m 14 #[.val (.int x0)] [(.int (1 : Int32))])) (fun t k => XS.icmpNo X0.here hx rfl (hb hby own_d1_10) rfl (teq hc3).2 (XS.iconst X0.here hx rfl (hb hby own_d1_13) k)) ?_
      obtain ⟨T4, h4, k4, X4, e4, E4, A4, EA4, st4⟩ := newPE (ad := "[B") X0 hx hZ (hw _ (List.mem_of_getElem? (i := 4) rfl)) e0 (g := (mkF m 14 #[.val (.int x0)] [(.int (1 : Int32))])) rfl (hb hby own_d1_14) rfl (by decide) (cap := 1) (by decide) (by decide) (by decide) (by decide) (by decide)
      obtain ⟨b4, g4⟩ : ∃ z, z = h0.size := ⟨_, rfl⟩
      rw [← g4] at A4 EA4 st4
      have bd_b4 : h0.size ≤ b4 := Nat.le_of_eq g4.symm
      have ge_b4 : n0 ≤ b4 := Nat.le_trans Z0 bd_b4
      have Z4 : n0 ≤ h4.size := Nat.le_trans Z0 E4.1
      have bo_b4 : h0.size ≤ b4 := Nat.le_trans K0.1 bd_b4
      have K4 : Keep h0 h4 [] := K0.ext E4
      have V4 : own_Av Z h4 b4 .byte [(.int (0 : Int32))] := own_Av.new A4
      refine own_via (T' := T4) (g' := (mkF m 16 #[.val (.int x0)] [(.ref b4)])) st4 ?_
      refine own_retA X4 hx hlk hret rfl rfl (hb hby own_d1_16) (by decide) (by decide) ?_
      rw [e4]; exact ⟨b4, rfl, bo_b4, N0, K4, (by rw [own_blen, if_neg hc1, if_pos hc3]; exact V4), EA4⟩
    · refine own_via (T' := s₁) (g' := (mkF m 19 #[.val (.int x0)] [(.int (2 : Int32)), (.int x0)])) (fun t k => XS.icmpYes X0.here hx rfl (pc0 := 10) (pc' := 17) rfl (hb hby own_d1_10) rfl (feq hc3).2 (by decide) (by decide) (XS.iloadN X0.here hx rfl (hb hby own_d1_17) rfl (XS.iconst X0.here hx rfl (hb hby own_d1_18) k))) ?_
      by_cases hc5 : x0 = (2 : Int32)
      · refine own_via (T' := s₁) (g' := (mkF m 23 #[.val (.int x0)] [(.int (2 : Int32))])) (fun t k => XS.icmpNo X0.here hx rfl (hb hby own_d1_19) rfl (teq hc5).2 (XS.iconst X0.here hx rfl (hb hby own_d1_22) k)) ?_
        obtain ⟨T6, h6, k6, X6, e6, E6, A6, EA6, st6⟩ := newPE (ad := "[B") X0 hx hZ (hw _ (List.mem_of_getElem? (i := 4) rfl)) e0 (g := (mkF m 23 #[.val (.int x0)] [(.int (2 : Int32))])) rfl (hb hby own_d1_23) rfl (by decide) (cap := 2) (by decide) (by decide) (by decide) (by decide) (by decide)
        obtain ⟨b6, g6⟩ : ∃ z, z = h0.size := ⟨_, rfl⟩
        rw [← g6] at A6 EA6 st6
        have bd_b6 : h0.size ≤ b6 := Nat.le_of_eq g6.symm
        have ge_b6 : n0 ≤ b6 := Nat.le_trans Z0 bd_b6
        have Z6 : n0 ≤ h6.size := Nat.le_trans Z0 E6.1
        have bo_b6 : h0.size ≤ b6 := Nat.le_trans K0.1 bd_b6
        have K6 : Keep h0 h6 [] := K0.ext E6
        have V6 : own_Av Z h6 b6 .byte [(.int (0 : Int32)), (.int (0 : Int32))] := own_Av.new A6
        refine own_via (T' := T6) (g' := (mkF m 25 #[.val (.int x0)] [(.ref b6)])) st6 ?_
        refine own_retA X6 hx hlk hret rfl rfl (hb hby own_d1_25) (by decide) (by decide) ?_
        rw [e6]; exact ⟨b6, rfl, bo_b6, N0, K6, (by rw [own_blen, if_neg hc1, if_neg hc3, if_pos hc5]; exact V6), EA6⟩
      · refine own_via (T' := s₁) (g' := (mkF m 28 #[.val (.int x0)] [(.int (3 : Int32)), (.int x0)])) (fun t k => XS.icmpYes X0.here hx rfl (pc0 := 19) (pc' := 26) rfl (hb hby own_d1_19) rfl (feq hc5).2 (by decide) (by decide) (XS.iloadN X0.here hx rfl (hb hby own_d1_26) rfl (XS.iconst X0.here hx rfl (hb hby own_d1_27) k))) ?_
        by_cases hc7 : x0 = (3 : Int32)
        · refine own_via (T' := s₁) (g' := (mkF m 32 #[.val (.int x0)] [(.int (3 : Int32))])) (fun t k => XS.icmpNo X0.here hx rfl (hb hby own_d1_28) rfl (teq hc7).2 (XS.iconst X0.here hx rfl (hb hby own_d1_31) k)) ?_
          obtain ⟨T8, h8, k8, X8, e8, E8, A8, EA8, st8⟩ := newPE (ad := "[B") X0 hx hZ (hw _ (List.mem_of_getElem? (i := 4) rfl)) e0 (g := (mkF m 32 #[.val (.int x0)] [(.int (3 : Int32))])) rfl (hb hby own_d1_32) rfl (by decide) (cap := 3) (by decide) (by decide) (by decide) (by decide) (by decide)
          obtain ⟨b8, g8⟩ : ∃ z, z = h0.size := ⟨_, rfl⟩
          rw [← g8] at A8 EA8 st8
          have bd_b8 : h0.size ≤ b8 := Nat.le_of_eq g8.symm
          have ge_b8 : n0 ≤ b8 := Nat.le_trans Z0 bd_b8
          have Z8 : n0 ≤ h8.size := Nat.le_trans Z0 E8.1
          have bo_b8 : h0.size ≤ b8 := Nat.le_trans K0.1 bd_b8
          have K8 : Keep h0 h8 [] := K0.ext E8
          have V8 : own_Av Z h8 b8 .byte [(.int (0 : Int32)), (.int (0 : Int32)), (.int (0 : Int32))] := own_Av.new A8
          refine own_via (T' := T8) (g' := (mkF m 34 #[.val (.int x0)] [(.ref b8)])) st8 ?_
          refine own_retA X8 hx hlk hret rfl rfl (hb hby own_d1_34) (by decide) (by decide) ?_
          rw [e8]; exact ⟨b8, rfl, bo_b8, N0, K8, (by rw [own_blen, if_neg hc1, if_neg hc3, if_neg hc5, if_pos hc7]; exact V8), EA8⟩
        · refine own_via (T' := s₁) (g' := (mkF m 37 #[.val (.int x0)] [(.int (4 : Int32)), (.int x0)])) (fun t k => XS.icmpYes X0.here hx rfl (pc0 := 28) (pc' := 35) rfl (hb hby own_d1_28) rfl (feq hc7).2 (by decide) (by decide) (XS.iloadN X0.here hx rfl (hb hby own_d1_35) rfl (XS.iconst X0.here hx rfl (hb hby own_d1_36) k))) ?_
          by_cases hc9 : x0 = (4 : Int32)
          · refine own_via (T' := s₁) (g' := (mkF m 41 #[.val (.int x0)] [(.int (4 : Int32))])) (fun t k => XS.icmpNo X0.here hx rfl (hb hby own_d1_37) rfl (teq hc9).2 (XS.iconst X0.here hx rfl (hb hby own_d1_40) k)) ?_
            obtain ⟨T10, h10, k10, X10, e10, E10, A10, EA10, st10⟩ := newPE (ad := "[B") X0 hx hZ (hw _ (List.mem_of_getElem? (i := 4) rfl)) e0 (g := (mkF m 41 #[.val (.int x0)] [(.int (4 : Int32))])) rfl (hb hby own_d1_41) rfl (by decide) (cap := 4) (by decide) (by decide) (by decide) (by decide) (by decide)
            obtain ⟨b10, g10⟩ : ∃ z, z = h0.size := ⟨_, rfl⟩
            rw [← g10] at A10 EA10 st10
            have bd_b10 : h0.size ≤ b10 := Nat.le_of_eq g10.symm
            have ge_b10 : n0 ≤ b10 := Nat.le_trans Z0 bd_b10
            have Z10 : n0 ≤ h10.size := Nat.le_trans Z0 E10.1
            have bo_b10 : h0.size ≤ b10 := Nat.le_trans K0.1 bd_b10
            have K10 : Keep h0 h10 [] := K0.ext E10
            have V10 : own_Av Z h10 b10 .byte [(.int (0 : Int32)), (.int (0 : Int32)), (.int (0 : Int32)), (.int (0 : Int32))] := own_Av.new A10
            refine own_via (T' := T10) (g' := (mkF m 43 #[.val (.int x0)] [(.ref b10)])) st10 ?_
            refine own_retA X10 hx hlk hret rfl rfl (hb hby own_d1_43) (by decide) (by decide) ?_
            rw [e10]; exact ⟨b10, rfl, bo_b10, N0, K10, (by rw [own_blen, if_neg hc1, if_neg hc3, if_neg hc5, if_neg hc7, if_pos hc9]; exact V10), EA10⟩
          · refine own_via (T' := s₁) (g' := (mkF m 46 #[.val (.int x0)] [(.int (5 : Int32)), (.int x0)])) (fun t k => XS.icmpYes X0.here hx rfl (pc0 := 37) (pc' := 44) rfl (hb hby own_d1_37) rfl (feq hc9).2 (by decide) (by decide) (XS.iloadN X0.here hx rfl (hb hby own_d1_44) rfl (XS.iconst X0.here hx rfl (hb hby own_d1_45) k))) ?_
            by_cases hc11 : x0 = (5 : Int32)
            · refine own_via (T' := s₁) (g' := (mkF m 50 #[.val (.int x0)] [(.int (5 : Int32))])) (fun t k => XS.icmpNo X0.here hx rfl (hb hby own_d1_46) rfl (teq hc11).2 (XS.iconst X0.here hx rfl (hb hby own_d1_49) k)) ?_
              obtain ⟨T12, h12, k12, X12, e12, E12, A12, EA12, st12⟩ := newPE (ad := "[B") X0 hx hZ (hw _ (List.mem_of_getElem? (i := 4) rfl)) e0 (g := (mkF m 50 #[.val (.int x0)] [(.int (5 : Int32))])) rfl (hb hby own_d1_50) rfl (by decide) (cap := 5) (by decide) (by decide) (by decide) (by decide) (by decide)
              obtain ⟨b12, g12⟩ : ∃ z, z = h0.size := ⟨_, rfl⟩
              rw [← g12] at A12 EA12 st12
              have bd_b12 : h0.size ≤ b12 := Nat.le_of_eq g12.symm
              have ge_b12 : n0 ≤ b12 := Nat.le_trans Z0 bd_b12
              have Z12 : n0 ≤ h12.size := Nat.le_trans Z0 E12.1
              have bo_b12 : h0.size ≤ b12 := Nat.le_trans K0.1 bd_b12
              have K12 : Keep h0 h12 [] := K0.ext E12
              have V12 : own_Av Z h12 b12 .byte [(.int (0 : Int32)), (.int (0 : Int32)), (.int (0 : Int32)), (.int (0 : Int32)), (.int (0 : Int32))] := own_Av.new A12
              refine own_via (T' := T12) (g' := (mkF m 52 #[.val (.int x0)] [(.ref b12)])) st12 ?_
              refine own_retA X12 hx hlk hret rfl rfl (hb hby own_d1_52) (by decide) (by decide) ?_
              rw [e12]; exact ⟨b12, rfl, bo_b12, N0, K12, (by rw [own_blen, if_neg hc1, if_neg hc3, if_neg hc5, if_neg hc7, if_neg hc9, if_pos hc11]; exact V12), EA12⟩
            · refine own_via (T' := s₁) (g' := (mkF m 56 #[.val (.int x0)] [(.int (6 : Int32)), (.int x0)])) (fun t k => XS.icmpYes X0.here hx rfl (pc0 := 46) (pc' := 53) rfl (hb hby own_d1_46) rfl (feq hc11).2 (by decide) (by decide) (XS.iloadN X0.here hx rfl (hb hby own_d1_53) rfl (XS.bipush X0.here hx rfl (hb hby own_d1_54) k))) ?_
              by_cases hc13 : x0 = (6 : Int32)
              · refine own_via (T' := s₁) (g' := (mkF m 61 #[.val (.int x0)] [(.int (8 : Int32))])) (fun t k => XS.icmpNo X0.here hx rfl (hb hby own_d1_56) rfl (teq hc13).2 (XS.bipush X0.here hx rfl (hb hby own_d1_59) k)) ?_
                obtain ⟨T14, h14, k14, X14, e14, E14, A14, EA14, st14⟩ := newPE (ad := "[B") X0 hx hZ (hw _ (List.mem_of_getElem? (i := 4) rfl)) e0 (g := (mkF m 61 #[.val (.int x0)] [(.int (8 : Int32))])) rfl (hb hby own_d1_61) rfl (by decide) (cap := 8) (by decide) (by decide) (by decide) (by decide) (by decide)
                obtain ⟨b14, g14⟩ : ∃ z, z = h0.size := ⟨_, rfl⟩
                rw [← g14] at A14 EA14 st14
                have bd_b14 : h0.size ≤ b14 := Nat.le_of_eq g14.symm
                have ge_b14 : n0 ≤ b14 := Nat.le_trans Z0 bd_b14
                have Z14 : n0 ≤ h14.size := Nat.le_trans Z0 E14.1
                have bo_b14 : h0.size ≤ b14 := Nat.le_trans K0.1 bd_b14
                have K14 : Keep h0 h14 [] := K0.ext E14
                have V14 : own_Av Z h14 b14 .byte [(.int (0 : Int32)), (.int (0 : Int32)), (.int (0 : Int32)), (.int (0 : Int32)), (.int (0 : Int32)), (.int (0 : Int32)), (.int (0 : Int32)), (.int (0 : Int32))] := own_Av.new A14
                refine own_via (T' := T14) (g' := (mkF m 63 #[.val (.int x0)] [(.ref b14)])) st14 ?_
                refine own_retA X14 hx hlk hret rfl rfl (hb hby own_d1_63) (by decide) (by decide) ?_
                rw [e14]; exact ⟨b14, rfl, bo_b14, N0, K14, (by rw [own_blen, if_neg hc1, if_neg hc3, if_neg hc5, if_neg hc7, if_neg hc9, if_neg hc11, if_pos hc13]; exact V14), EA14⟩
              · refine own_via (T' := s₁) (g' := (mkF m 66 #[.val (.int x0)] [(.int (9 : Int32))])) (fun t k => XS.icmpYes X0.here hx rfl (pc0 := 56) (pc' := 64) rfl (hb hby own_d1_56) rfl (feq hc13).2 (by decide) (by decide) (XS.bipush X0.here hx rfl (hb hby own_d1_64) k)) ?_
                obtain ⟨T15, h15, k15, X15, e15, E15, A15, EA15, st15⟩ := newPE (ad := "[B") X0 hx hZ (hw _ (List.mem_of_getElem? (i := 4) rfl)) e0 (g := (mkF m 66 #[.val (.int x0)] [(.int (9 : Int32))])) rfl (hb hby own_d1_66) rfl (by decide) (cap := 9) (by decide) (by decide) (by decide) (by decide) (by decide)
                obtain ⟨b15, g15⟩ : ∃ z, z = h0.size := ⟨_, rfl⟩
                rw [← g15] at A15 EA15 st15
                have bd_b15 : h0.size ≤ b15 := Nat.le_of_eq g15.symm
                have ge_b15 : n0 ≤ b15 := Nat.le_trans Z0 bd_b15
                have Z15 : n0 ≤ h15.size := Nat.le_trans Z0 E15.1
                have bo_b15 : h0.size ≤ b15 := Nat.le_trans K0.1 bd_b15
                have K15 : Keep h0 h15 [] := K0.ext E15
                have V15 : own_Av Z h15 b15 .byte [(.int (0 : Int32)), (.int (0 : Int32)), (.int (0 : Int32)), (.int (0 : Int32)), (.int (0 : Int32)), (.int (0 : Int32)), (.int (0 : Int32)), (.int (0 : Int32)), (.int (0 : Int32))] := own_Av.new A15
                refine own_via (T' := T15) (g' := (mkF m 68 #[.val (.int x0)] [(.ref b15)])) st15 ?_
                refine own_retA X15 hx hlk hret rfl rfl (hb hby own_d1_68) (by decide) (by decide) ?_
                rw [e15]; exact ⟨b15, rfl, bo_b15, N0, K15, (by rw [own_blen, if_neg hc1, if_neg hc3, if_neg hc5, if_neg hc7, if_neg hc9, if_neg hc11, if_neg hc13]; exact V15), EA15⟩
theorem own_d2_0 : decode prog_128_method_1_code 0 = .ok (.aload_n 0, 1) := by decide +kernel
theorem own_d2_1 : decode prog_128_method_1_code 1 = .ok (.invokespecial 1, 3) := by decide +kernel
theorem own_d2_4 : decode prog_128_method_1_code 4 = .ok (.aload_n 0, 1) := by decide +kernel
theorem own_d2_5 : decode prog_128_method_1_code 5 = .ok (.aload_n 1, 1) := by decide +kernel
theorem own_d2_6 : decode prog_128_method_1_code 6 = .ok (.putfield 7, 3) := by decide +kernel
theorem own_d2_9 : decode prog_128_method_1_code 9 = .ok (.return_, 1) := by decide +kernel
theorem own_pn1 : plainName "com/example/concordia/concordia/wire/FrameReader" = true := by first | (simp [plainName, overriddenIn]; done) | decide +kernel
set_option maxHeartbeats 40000000 in
theorem own_mt2_ef (m : MethodId) (x0 : Addr) (x1 : Addr) : entryFrame m #[(.ref x0), (.ref x1)] 2 = mkF m 0 #[.val (.ref x0), .val (.ref x1)] [] := by first | (simp [entryFrame, mkF, argsToLocals, Value.category, maxLocals]; done) | rfl
set_option maxRecDepth 65536 in
set_option maxHeartbeats 40000000 in
theorem own_mt2 (l : Launch) (Z : State) (a0 : Array Value) (hw : ∀ d ∈ tables_1, d.before a0 Z = true) (x0 : Addr) (x1 : Addr) (h0 : Heap) (n0 : Nat) (Z0 : n0 ≤ h0.size) (ge_x0 : n0 ≤ x0) (E_x0 : Exa Z h0 x0 "com/example/concordia/concordia/wire/FrameReader") (F_body : Fld Z h0 x0 "com/example/concordia/concordia/wire/FrameReader" "body" "[B" .null) (F_pos : Fld Z h0 x0 "com/example/concordia/concordia/wire/FrameReader" "position" "I" (.int (0 : Int32))) :
    own_Met l Z (⟨"com/example/concordia/concordia/wire/FrameReader", "<init>", "([B)V"⟩ : MethodName) prog_128_method_1_code 2 none ({ frames := 1, cells := 0, slots := 0, locals := 12 } : Room) #[(.ref x0), (.ref x1)] h0 (fun v h L => v = none ∧ Fr n0 L ∧ Keep h0 h [x0] ∧ Exa Z h x0 "com/example/concordia/concordia/wire/FrameReader" ∧ Fld Z h x0 "com/example/concordia/concordia/wire/FrameReader" "body" "[B" (.ref x1) ∧ Fld Z h x0 "com/example/concordia/concordia/wire/FrameReader" "position" "I" (.int (0 : Int32))) := by
  refine own_intro (plainFor_of_name own_pn1) ?_
  intro p e s m below meth c s₁ hx hby hml hown hnm hZ hret hlk X0 e0
  refine own_cast (own_mt2_ef m x0 x1) ?_
  have N0 := Fr.nil n0
  have K0 : Keep h0 h0 [x0] := Keep.refl _ _
  refine own_via (T' := s₁) (g' := (mkF m 1 #[.val (.ref x0), .val (.ref x1)] [(.ref x0)])) (fun t k => XS.aloadN X0.here hx rfl (hb hby own_d2_0) rfl rfl k) ?_
  obtain ⟨T1, X1, e1, st1⟩ := initO X0 hx hZ hown (hw _ (List.mem_of_getElem? (i := 11) rfl)) (hw _ (List.mem_of_getElem? (i := 12) rfl)) (hw _ (List.mem_of_getElem? (i := 13) rfl)) e0 (g := (mkF m 1 #[.val (.ref x0), .val (.ref x1)] [(.ref x0)])) rfl (by rw [hml]; rfl) rfl (hb hby own_d2_1) (by decide) (W := 0) (by show 2 * 0 + _ ≤ _; exact Nat.le_of_eq rfl) (by decide)
  refine own_via (T' := T1) (g' := (mkF m 4 #[.val (.ref x0), .val (.ref x1)] [])) st1 ?_
  refine own_via (T' := T1) (g' := (mkF m 6 #[.val (.ref x0), .val (.ref x1)] [(.ref x1), (.ref x0)])) (fun t k => XS.aloadN X1.here hx rfl (hb hby own_d2_4) rfl rfl (XS.aloadN X1.here hx rfl (hb hby own_d2_5) rfl rfl k)) ?_
  obtain ⟨T2, h2, X2, e2, W2, st2⟩ := putF X1 hx hZ hown (host := "") (Or.inl (hw _ (List.mem_of_getElem? (i := 14) rfl))) Via.refl e1 F_body E_x0 (Or.inr ⟨(hw _ (List.mem_of_getElem? (i := 15) rfl)), rfl, hnm⟩) (hw _ (List.mem_of_getElem? (i := 6) rfl)) (ty := (.array .byte)) (by decide) rfl rfl (g := (mkF m 6 #[.val (.ref x0), .val (.ref x1)] [(.ref x1), (.ref x0)])) rfl rfl (hb hby own_d2_6)
  have Fw2 := F_body.same W2
  have E_x0_at3 := E_x0.wr W2
  have F_pos_at4 := F_pos.other W2 (Or.inr (slot_ne (Or.inl (hw _ (List.mem_of_getElem? (i := 22) rfl))) (Or.inr (hw _ (List.mem_of_getElem? (i := 15) rfl))) (by decide) (t := .int) (t' := (.array .byte)) (by decide) (by decide)))
  have N2 := Fr.snoc X2 N0 ge_x0
  have Z2 : n0 ≤ h2.size := Nat.le_trans Z0 (Nat.le_of_eq W2.size.symm)
  have K2 : Keep h0 h2 [x0] := K0.wr W2 (Or.inl (List.mem_of_getElem? (i := 0) rfl))
  refine own_via (T' := T2) (g' := (mkF m 9 #[.val (.ref x0), .val (.ref x1)] [])) st2 ?_
  refine own_retV X2 hx hlk hret (hb hby own_d2_9) (by decide) (by decide) ?_
  rw [e2]; exact ⟨rfl, N2, K2, E_x0_at3, Fw2, F_pos_at4⟩
theorem own_d4_0 : decode prog_128_method_9_code 0 = .ok (.aload_n 0, 1) := by decide +kernel
theorem own_d4_1 : decode prog_128_method_9_code 1 = .ok (.getfield 19, 3) := by decide +kernel
theorem own_d4_4 : decode prog_128_method_9_code 4 = .ok (.aload_n 0, 1) := by decide +kernel
theorem own_d4_5 : decode prog_128_method_9_code 5 = .ok (.getfield 7, 3) := by decide +kernel
theorem own_d4_8 : decode prog_128_method_9_code 8 = .ok (.arraylength, 1) := by decide +kernel
theorem own_d4_9 : decode prog_128_method_9_code 9 = .ok (.if_icmp .ge 7, 3) := by decide +kernel
theorem own_d4_12 : decode prog_128_method_9_code 12 = .ok (.iconst 1, 1) := by decide +kernel
theorem own_d4_13 : decode prog_128_method_9_code 13 = .ok (.goto 4, 3) := by decide +kernel
theorem own_d4_16 : decode prog_128_method_9_code 16 = .ok (.iconst 0, 1) := by decide +kernel
theorem own_d4_17 : decode prog_128_method_9_code 17 = .ok (.ireturn, 1) := by decide +kernel
set_option maxHeartbeats 40000000 in
theorem own_mth1_ef (m : MethodId) (x0 : Addr) : entryFrame m #[(.ref x0)] 1 = mkF m 0 #[.val (.ref x0)] [] := by first | (simp [entryFrame, mkF, argsToLocals, Value.category, maxLocals]; done) | rfl
set_option maxRecDepth 65536 in
set_option maxHeartbeats 40000000 in
theorem own_mth1 (l : Launch) (Z : State) (a0 : Array Value) (hw : ∀ d ∈ tables_1, d.before a0 Z = true) (x0 : Addr) (bb : Addr) (pp : Int32) (nb : Nat) (h0 : Heap) (F_body : Fld Z h0 x0 "com/example/concordia/concordia/wire/FrameReader" "body" "[B" (.ref bb)) (F_pos : Fld Z h0 x0 "com/example/concordia/concordia/wire/FrameReader" "position" "I" (.int pp)) (V_bb : own_Av Z h0 bb .byte (List.replicate nb (.int (0 : Int32)))) (hlt : pp < (nb.toInt32)) :
    own_Met l Z (⟨"com/example/concordia/concordia/wire/FrameReader", "hasRemaining", "()Z"⟩ : MethodName) prog_128_method_9_code 1 (some .boolean) ({ frames := 0, cells := 0, slots := 0, locals := 0 } : Room) #[(.ref x0)] h0 (fun v h L => v = some (.int (1 : Int32)) ∧ h = h0 ∧ L = []) := by
  refine own_intro (plainFor_of_name own_pn1) ?_
  intro p e s m below meth c s₁ hx hby hml hown hnm hZ hret hlk X0 e0
  refine own_cast (own_mth1_ef m x0) ?_
  refine own_via (T' := s₁) (g' := (mkF m 1 #[.val (.ref x0)] [(.ref x0)])) (fun t k => XS.aloadN X0.here hx rfl (hb hby own_d4_0) rfl rfl k) ?_
  obtain ⟨T1, X1, e1, st1⟩ := getF X0 hx hZ hown (host := "") (Or.inl (hw _ (List.mem_of_getElem? (i := 21) rfl))) Via.refl e0 F_pos (g := (mkF m 1 #[.val (.ref x0)] [(.ref x0)])) rfl rfl (hb hby own_d4_1)
  refine own_via (T' := T1) (g' := (mkF m 4 #[.val (.ref x0)] [(.int pp)])) st1 ?_
  refine own_via (T' := T1) (g' := (mkF m 5 #[.val (.ref x0)] [(.ref x0), (.int pp)])) (fun t k => XS.aloadN X1.here hx rfl (hb hby own_d4_4) rfl rfl k) ?_
  obtain ⟨T2, X2, e2, st2⟩ := getF X1 hx hZ hown (host := "") (Or.inl (hw _ (List.mem_of_getElem? (i := 14) rfl))) Via.refl e1 F_body (g := (mkF m 5 #[.val (.ref x0)] [(.ref x0), (.int pp)])) rfl rfl (hb hby own_d4_5)
  refine own_via (T' := T2) (g' := (mkF m 8 #[.val (.ref x0)] [(.ref bb), (.int pp)])) st2 ?_
  refine own_via (T' := T2) (g' := (mkF m 9 #[.val (.ref x0)] [(.int (nb.toInt32)), (.int pp)])) (own_alen X2 hx hZ e2 V_bb (n := (nb.toInt32)) (by rw [List.length_replicate]) (g := (mkF m 8 #[.val (.ref x0)] [(.ref bb), (.int pp)])) rfl rfl (hb hby own_d4_8)) ?_
  refine own_via (T' := T2) (g' := (mkF m 17 #[.val (.ref x0)] [(.int (1 : Int32))])) (fun t k => XS.icmpNo X2.here hx rfl (hb hby own_d4_9) rfl (tlt hlt).2.1 (XS.iconst X2.here hx rfl (hb hby own_d4_12) (XS.goto X2.here hx rfl (pc0 := 13) (pc' := 17) rfl (hb hby own_d4_13) (by decide) (by decide) k))) ?_
  refine own_retN X2 hx hlk (ty := .boolean) hret (by simp) (hb hby own_d4_17) (by decide) (by decide) ?_
  exact ⟨by rfl <;> rfl, e2, rfl⟩
set_option maxHeartbeats 40000000 in
theorem own_mth0_ef (m : MethodId) (x0 : Addr) : entryFrame m #[(.ref x0)] 1 = mkF m 0 #[.val (.ref x0)] [] := by first | (simp [entryFrame, mkF, argsToLocals, Value.category, maxLocals]; done) | rfl
set_option maxRecDepth 65536 in
set_option maxHeartbeats 40000000 in
theorem own_mth0 (l : Launch) (Z : State) (a0 : Array Value) (hw : ∀ d ∈ tables_1, d.before a0 Z = true) (x0 : Addr) (bb : Addr) (pp : Int32) (nb : Nat) (h0 : Heap) (F_body : Fld Z h0 x0 "com/example/concordia/concordia/wire/FrameReader" "body" "[B" (.ref bb)) (F_pos : Fld Z h0 x0 "com/example/concordia/concordia/wire/FrameReader" "position" "I" (.int pp)) (V_bb : own_Av Z h0 bb .byte (List.replicate nb (.int (0 : Int32)))) (hlt : ¬ (pp < (nb.toInt32))) :
    own_Met l Z (⟨"com/example/concordia/concordia/wire/FrameReader", "hasRemaining", "()Z"⟩ : MethodName) prog_128_method_9_code 1 (some .boolean) ({ frames := 0, cells := 0, slots := 0, locals := 0 } : Room) #[(.ref x0)] h0 (fun v h L => v = some (.int (0 : Int32)) ∧ h = h0 ∧ L = []) := by
  refine own_intro (plainFor_of_name own_pn1) ?_
  intro p e s m below meth c s₁ hx hby hml hown hnm hZ hret hlk X0 e0
  refine own_cast (own_mth0_ef m x0) ?_
  refine own_via (T' := s₁) (g' := (mkF m 1 #[.val (.ref x0)] [(.ref x0)])) (fun t k => XS.aloadN X0.here hx rfl (hb hby own_d4_0) rfl rfl k) ?_
  obtain ⟨T1, X1, e1, st1⟩ := getF X0 hx hZ hown (host := "") (Or.inl (hw _ (List.mem_of_getElem? (i := 21) rfl))) Via.refl e0 F_pos (g := (mkF m 1 #[.val (.ref x0)] [(.ref x0)])) rfl rfl (hb hby own_d4_1)
  refine own_via (T' := T1) (g' := (mkF m 4 #[.val (.ref x0)] [(.int pp)])) st1 ?_
  refine own_via (T' := T1) (g' := (mkF m 5 #[.val (.ref x0)] [(.ref x0), (.int pp)])) (fun t k => XS.aloadN X1.here hx rfl (hb hby own_d4_4) rfl rfl k) ?_
  obtain ⟨T2, X2, e2, st2⟩ := getF X1 hx hZ hown (host := "") (Or.inl (hw _ (List.mem_of_getElem? (i := 14) rfl))) Via.refl e1 F_body (g := (mkF m 5 #[.val (.ref x0)] [(.ref x0), (.int pp)])) rfl rfl (hb hby own_d4_5)
  refine own_via (T' := T2) (g' := (mkF m 8 #[.val (.ref x0)] [(.ref bb), (.int pp)])) st2 ?_
  refine own_via (T' := T2) (g' := (mkF m 9 #[.val (.ref x0)] [(.int (nb.toInt32)), (.int pp)])) (own_alen X2 hx hZ e2 V_bb (n := (nb.toInt32)) (by rw [List.length_replicate]) (g := (mkF m 8 #[.val (.ref x0)] [(.ref bb), (.int pp)])) rfl rfl (hb hby own_d4_8)) ?_
  refine own_via (T' := T2) (g' := (mkF m 17 #[.val (.ref x0)] [(.int (0 : Int32))])) (fun t k => XS.icmpYes X2.here hx rfl (pc0 := 9) (pc' := 16) rfl (hb hby own_d4_9) rfl (flt hlt).2.1 (by decide) (by decide) (XS.iconst X2.here hx rfl (hb hby own_d4_16) k)) ?_
  refine own_retN X2 hx hlk (ty := .boolean) hret (by simp) (hb hby own_d4_17) (by decide) (by decide) ?_
  exact ⟨by rfl <;> rfl, e2, rfl⟩
theorem own_d9_0 : decode prog_128_method_11_code 0 = .ok (.aload_n 0, 1) := by decide +kernel
theorem own_d9_1 : decode prog_128_method_11_code 1 = .ok (.getfield 7, 3) := by decide +kernel
theorem own_d9_4 : decode prog_128_method_11_code 4 = .ok (.arraylength, 1) := by decide +kernel
theorem own_d9_5 : decode prog_128_method_11_code 5 = .ok (.aload_n 0, 1) := by decide +kernel
theorem own_d9_6 : decode prog_128_method_11_code 6 = .ok (.getfield 19, 3) := by decide +kernel
theorem own_d9_9 : decode prog_128_method_11_code 9 = .ok (.isub, 1) := by decide +kernel
theorem own_d9_10 : decode prog_128_method_11_code 10 = .ok (.iload_n 1, 1) := by decide +kernel
theorem own_d9_11 : decode prog_128_method_11_code 11 = .ok (.if_icmp .ge 27, 3) := by decide +kernel
theorem own_d9_14 : decode prog_128_method_11_code 14 = .ok (.new 57, 3) := by decide +kernel
theorem own_d9_17 : decode prog_128_method_11_code 17 = .ok (.dup, 1) := by decide +kernel
theorem own_d9_18 : decode prog_128_method_11_code 18 = .ok (.iload_n 1, 1) := by decide +kernel
theorem own_d9_19 : decode prog_128_method_11_code 19 = .ok (.aload_n 0, 1) := by decide +kernel
theorem own_d9_20 : decode prog_128_method_11_code 20 = .ok (.getfield 7, 3) := by decide +kernel
theorem own_d9_23 : decode prog_128_method_11_code 23 = .ok (.arraylength, 1) := by decide +kernel
theorem own_d9_24 : decode prog_128_method_11_code 24 = .ok (.aload_n 0, 1) := by decide +kernel
theorem own_d9_25 : decode prog_128_method_11_code 25 = .ok (.getfield 19, 3) := by decide +kernel
theorem own_d9_28 : decode prog_128_method_11_code 28 = .ok (.isub, 1) := by decide +kernel
theorem own_d9_34 : decode prog_128_method_11_code 34 = .ok (.invokespecial 63, 3) := by decide +kernel
theorem own_d9_37 : decode prog_128_method_11_code 37 = .ok (.athrow, 1) := by decide +kernel
theorem own_d9_38 : decode prog_128_method_11_code 38 = .ok (.return_, 1) := by decide +kernel
set_option maxHeartbeats 40000000 in
theorem own_mt9_ef (m : MethodId) (x0 : Addr) (x1 : Int32) : entryFrame m #[(.ref x0), (.int x1)] 2 = mkF m 0 #[.val (.ref x0), .val (.int x1)] [] := by first | (simp [entryFrame, mkF, argsToLocals, Value.category, maxLocals]; done) | rfl
set_option maxRecDepth 65536 in
set_option maxHeartbeats 40000000 in
theorem own_mt9 (l : Launch) (Z : State) (a0 : Array Value) (hw : ∀ d ∈ tables_1, d.before a0 Z = true) (x0 : Addr) (x1 : Int32) (bb : Addr) (pp : Int32) (nb : Nat) (h0 : Heap) (F_body : Fld Z h0 x0 "com/example/concordia/concordia/wire/FrameReader" "body" "[B" (.ref bb)) (F_pos : Fld Z h0 x0 "com/example/concordia/concordia/wire/FrameReader" "position" "I" (.int pp)) (V_bb : own_Av Z h0 bb .byte (List.replicate nb (.int (0 : Int32)))) (hneed : ¬ ((nb.toInt32) - pp) < x1) :
    own_Met l Z (⟨"com/example/concordia/concordia/wire/FrameReader", "need", "(I)V"⟩ : MethodName) prog_128_method_11_code 2 none ({ frames := 0, cells := 0, slots := 0, locals := 0 } : Room) #[(.ref x0), (.int x1)] h0 (fun v h L => v = none ∧ h = h0 ∧ L = []) := by
  refine own_intro (plainFor_of_name own_pn1) ?_
  intro p e s m below meth c s₁ hx hby hml hown hnm hZ hret hlk X0 e0
  refine own_cast (own_mt9_ef m x0 x1) ?_
  refine own_via (T' := s₁) (g' := (mkF m 1 #[.val (.ref x0), .val (.int x1)] [(.ref x0)])) (fun t k => XS.aloadN X0.here hx rfl (hb hby own_d9_0) rfl rfl k) ?_
  obtain ⟨T1, X1, e1, st1⟩ := getF X0 hx hZ hown (host := "") (Or.inl (hw _ (List.mem_of_getElem? (i := 14) rfl))) Via.refl e0 F_body (g := (mkF m 1 #[.val (.ref x0), .val (.int x1)] [(.ref x0)])) rfl rfl (hb hby own_d9_1)
  refine own_via (T' := T1) (g' := (mkF m 4 #[.val (.ref x0), .val (.int x1)] [(.ref bb)])) st1 ?_
  refine own_via (T' := T1) (g' := (mkF m 5 #[.val (.ref x0), .val (.int x1)] [(.int (nb.toInt32))])) (own_alen X1 hx hZ e1 V_bb (n := (nb.toInt32)) (by rw [List.length_replicate]) (g := (mkF m 4 #[.val (.ref x0), .val (.int x1)] [(.ref bb)])) rfl rfl (hb hby own_d9_4)) ?_
  refine own_via (T' := T1) (g' := (mkF m 6 #[.val (.ref x0), .val (.int x1)] [(.ref x0), (.int (nb.toInt32))])) (fun t k => XS.aloadN X1.here hx rfl (hb hby own_d9_5) rfl rfl k) ?_
  obtain ⟨T2, X2, e2, st2⟩ := getF X1 hx hZ hown (host := "") (Or.inl (hw _ (List.mem_of_getElem? (i := 21) rfl))) Via.refl e1 F_pos (g := (mkF m 6 #[.val (.ref x0), .val (.int x1)] [(.ref x0), (.int (nb.toInt32))])) rfl rfl (hb hby own_d9_6)
  refine own_via (T' := T2) (g' := (mkF m 9 #[.val (.ref x0), .val (.int x1)] [(.int pp), (.int (nb.toInt32))])) st2 ?_
  refine own_via (T' := T2) (g' := (mkF m 11 #[.val (.ref x0), .val (.int x1)] [(.int x1), (.int ((nb.toInt32) - pp))])) (fun t k => XS.isub X2.here hx rfl (hb hby own_d9_9) rfl (XS.iloadN X2.here hx rfl (hb hby own_d9_10) rfl k)) ?_
  refine own_via (T' := T2) (g' := (mkF m 38 #[.val (.ref x0), .val (.int x1)] [])) (fun t k => XS.icmpYes X2.here hx rfl (pc0 := 11) (pc' := 38) rfl (hb hby own_d9_11) rfl (flt hneed).2.1 (by decide) (by decide) k) ?_
  refine own_retV X2 hx hlk hret (hb hby own_d9_38) (by decide) (by decide) ?_
  exact ⟨rfl, e2, rfl⟩
theorem own_d14_0 : decode jdk_29_method_69_code 0 = .ok (.iload_n 0, 1) := by decide +kernel
theorem own_d14_1 : decode jdk_29_method_69_code 1 = .ok (.iload_n 1, 1) := by decide +kernel
theorem own_d14_2 : decode jdk_29_method_69_code 2 = .ok (.if_icmp .gt 7, 3) := by decide +kernel
theorem own_d14_5 : decode jdk_29_method_69_code 5 = .ok (.iload_n 0, 1) := by decide +kernel
theorem own_d14_6 : decode jdk_29_method_69_code 6 = .ok (.goto 4, 3) := by decide +kernel
theorem own_d14_9 : decode jdk_29_method_69_code 9 = .ok (.iload_n 1, 1) := by decide +kernel
theorem own_d14_10 : decode jdk_29_method_69_code 10 = .ok (.ireturn, 1) := by decide +kernel
def own_min (x0 : Int32) (x1 : Int32) : Int32 := (if x1 < x0 then x1 else x0)
set_option maxHeartbeats 40000000 in
theorem own_mt14_ef (m : MethodId) (x0 : Int32) (x1 : Int32) : entryFrame m #[(.int x0), (.int x1)] 2 = mkF m 0 #[.val (.int x0), .val (.int x1)] [] := by first | (simp [entryFrame, mkF, argsToLocals, Value.category, maxLocals]; done) | rfl
set_option maxRecDepth 65536 in
set_option maxHeartbeats 40000000 in
theorem own_mt14 (l : Launch) (Z : State) (a0 : Array Value) (hw : ∀ d ∈ tables_1, d.before a0 Z = true) (x0 : Int32) (x1 : Int32) (h0 : Heap) :
    own_Met l Z (⟨"java/lang/Math", "min", "(II)I"⟩ : MethodName) jdk_29_method_69_code 2 (some .int) ({ frames := 0, cells := 0, slots := 0, locals := 0 } : Room) #[(.int x0), (.int x1)] h0 (fun v h L => v = some (.int (own_min x0 x1)) ∧ h = h0 ∧ L = []) := by
  refine own_intro (Jvm.Free.JP.mathPlain rfl (by decide +kernel)) ?_
  intro p e s m below meth c s₁ hx hby hml hown hnm hZ hret hlk X0 e0
  refine own_cast (own_mt14_ef m x0 x1) ?_
  refine own_via (T' := s₁) (g' := (mkF m 2 #[.val (.int x0), .val (.int x1)] [(.int x1), (.int x0)])) (fun t k => XS.iloadN X0.here hx rfl (hb hby own_d14_0) rfl (XS.iloadN X0.here hx rfl (hb hby own_d14_1) rfl k)) ?_
  by_cases hc1 : x1 < x0
  · refine own_via (T' := s₁) (g' := (mkF m 10 #[.val (.int x0), .val (.int x1)] [(.int x1)])) (fun t k => XS.icmpYes X0.here hx rfl (pc0 := 2) (pc' := 9) rfl (hb hby own_d14_2) rfl (tlt hc1).2.2.1 (by decide) (by decide) (XS.iloadN X0.here hx rfl (hb hby own_d14_9) rfl k)) ?_
    refine own_retI X0 hx hlk hret (hb hby own_d14_10) (by decide) (by decide) ?_
    exact ⟨by rw [own_min, if_pos hc1] <;> rfl, e0, rfl⟩
  · refine own_via (T' := s₁) (g' := (mkF m 10 #[.val (.int x0), .val (.int x1)] [(.int x0)])) (fun t k => XS.icmpNo X0.here hx rfl (hb hby own_d14_2) rfl (flt hc1).2.2.1 (XS.iloadN X0.here hx rfl (hb hby own_d14_5) rfl (XS.goto X0.here hx rfl (pc0 := 6) (pc' := 10) rfl (hb hby own_d14_6) (by decide) (by decide) k))) ?_
    refine own_retI X0 hx hlk hret (hb hby own_d14_10) (by decide) (by decide) ?_
    exact ⟨by rw [own_min, if_neg hc1] <;> rfl, e0, rfl⟩
theorem own_min_self (a : Int32) : own_min a a = a := by unfold own_min; split <;> rfl
theorem own_len9 {α : Type} {n : Nat} {v : α} (h : n ≤ 9) : (List.replicate n v).length.toInt32.toNatClampNeg = n := by
  rw [List.length_replicate]
  have e := own_nb h
  have i := own_ix (c := n.toInt32) (by omega)
  omega
theorem own_cp1 {nb : Nat} {x1 : Int32} (hnb : nb ≤ 9) (hfr : 0 ≤ x1.toInt ∧ x1.toInt ≤ nb) : ¬ x1 < 0 := own_nlt hfr.1
theorem own_cp2 {nb : Nat} {x1 : Int32} (hnb : nb ≤ 9) (hfr : 0 ≤ x1.toInt ∧ x1.toInt ≤ nb) : ¬ (own_min (nb.toInt32 - x1) (nb.toInt32 - x1)) < 0 := by rw [own_min_self]; exact (own_r2 hnb hfr).1
theorem own_cp3 {nb : Nat} {x1 : Int32} (hnb : nb ≤ 9) (hfr : 0 ≤ x1.toInt ∧ x1.toInt ≤ nb) {α : Type} {v : α} : x1.toNatClampNeg + (own_min (nb.toInt32 - x1) (nb.toInt32 - x1)).toNatClampNeg ≤ (List.replicate nb v).length.toInt32.toNatClampNeg := by
  rw [own_min_self, own_len9 hnb]
  have e := own_left hnb hfr
  have i := own_ix (c := nb.toInt32 - x1) (by omega)
  have j := own_ix hfr.1
  omega
theorem own_cp4 {nb : Nat} {x1 : Int32} (hnb : nb ≤ 9) (hfr : 0 ≤ x1.toInt ∧ x1.toInt ≤ nb) {α : Type} {v : α} : (0 : Int32).toNatClampNeg + (own_min (nb.toInt32 - x1) (nb.toInt32 - x1)).toNatClampNeg ≤ (List.replicate (nb.toInt32 - x1).toNatClampNeg v).length.toInt32.toNatClampNeg := by
  rw [own_min_self, own_len9 (own_r2 hnb hfr).2]
  have : (0 : Int32).toNatClampNeg = 0 := by decide
  omega
theorem own_cp5 {nb : Nat} {x1 : Int32} (hnb : nb ≤ 9) (hfr : 0 ≤ x1.toInt ∧ x1.toInt ≤ nb) {α : Type} {v : α} : (0 : Int32).toNatClampNeg + (own_min (nb.toInt32 - x1) (nb.toInt32 - x1)).toNatClampNeg ≤ (List.replicate (nb.toInt32 - x1).toNatClampNeg v).length := by
  rw [own_min_self, List.length_replicate]
  have : (0 : Int32).toNatClampNeg = 0 := by decide
  omega

theorem own_repfit {n : Nat} : ∀ v ∈ List.replicate n (Value.int (0 : Int32)), fits .byte v = true := fun v hv => by rw [List.eq_of_mem_replicate hv]; rfl
theorem own_d11_0 : decode prog_132_method_3_code 0 = .ok (.aload_n 0, 1) := by decide +kernel
theorem own_d11_1 : decode prog_132_method_3_code 1 = .ok (.iload_n 1, 1) := by decide +kernel
theorem own_d11_2 : decode prog_132_method_3_code 2 = .ok (.baload, 1) := by decide +kernel
theorem own_d11_3 : decode prog_132_method_3_code 3 = .ok (.sipush 255, 3) := by decide +kernel
theorem own_d11_6 : decode prog_132_method_3_code 6 = .ok (.iand, 1) := by decide +kernel
theorem own_d11_7 : decode prog_132_method_3_code 7 = .ok (.bipush 24, 2) := by decide +kernel
theorem own_d11_9 : decode prog_132_method_3_code 9 = .ok (.ishl, 1) := by decide +kernel
theorem own_d11_10 : decode prog_132_method_3_code 10 = .ok (.aload_n 0, 1) := by decide +kernel
theorem own_d11_11 : decode prog_132_method_3_code 11 = .ok (.iload_n 1, 1) := by decide +kernel
theorem own_d11_12 : decode prog_132_method_3_code 12 = .ok (.iconst 1, 1) := by decide +kernel
theorem own_d11_13 : decode prog_132_method_3_code 13 = .ok (.iadd, 1) := by decide +kernel
theorem own_d11_14 : decode prog_132_method_3_code 14 = .ok (.baload, 1) := by decide +kernel
theorem own_d11_15 : decode prog_132_method_3_code 15 = .ok (.sipush 255, 3) := by decide +kernel
theorem own_d11_18 : decode prog_132_method_3_code 18 = .ok (.iand, 1) := by decide +kernel
theorem own_d11_19 : decode prog_132_method_3_code 19 = .ok (.bipush 16, 2) := by decide +kernel
theorem own_d11_21 : decode prog_132_method_3_code 21 = .ok (.ishl, 1) := by decide +kernel
theorem own_d11_22 : decode prog_132_method_3_code 22 = .ok (.ior, 1) := by decide +kernel
theorem own_d11_23 : decode prog_132_method_3_code 23 = .ok (.aload_n 0, 1) := by decide +kernel
theorem own_d11_24 : decode prog_132_method_3_code 24 = .ok (.iload_n 1, 1) := by decide +kernel
theorem own_d11_25 : decode prog_132_method_3_code 25 = .ok (.iconst 2, 1) := by decide +kernel
theorem own_d11_26 : decode prog_132_method_3_code 26 = .ok (.iadd, 1) := by decide +kernel
theorem own_d11_27 : decode prog_132_method_3_code 27 = .ok (.baload, 1) := by decide +kernel
theorem own_d11_28 : decode prog_132_method_3_code 28 = .ok (.sipush 255, 3) := by decide +kernel
theorem own_d11_31 : decode prog_132_method_3_code 31 = .ok (.iand, 1) := by decide +kernel
theorem own_d11_32 : decode prog_132_method_3_code 32 = .ok (.bipush 8, 2) := by decide +kernel
theorem own_d11_34 : decode prog_132_method_3_code 34 = .ok (.ishl, 1) := by decide +kernel
theorem own_d11_35 : decode prog_132_method_3_code 35 = .ok (.ior, 1) := by decide +kernel
theorem own_d11_36 : decode prog_132_method_3_code 36 = .ok (.aload_n 0, 1) := by decide +kernel
theorem own_d11_37 : decode prog_132_method_3_code 37 = .ok (.iload_n 1, 1) := by decide +kernel
theorem own_d11_38 : decode prog_132_method_3_code 38 = .ok (.iconst 3, 1) := by decide +kernel
theorem own_d11_39 : decode prog_132_method_3_code 39 = .ok (.iadd, 1) := by decide +kernel
theorem own_d11_40 : decode prog_132_method_3_code 40 = .ok (.baload, 1) := by decide +kernel
theorem own_d11_41 : decode prog_132_method_3_code 41 = .ok (.sipush 255, 3) := by decide +kernel
theorem own_d11_44 : decode prog_132_method_3_code 44 = .ok (.iand, 1) := by decide +kernel
theorem own_d11_45 : decode prog_132_method_3_code 45 = .ok (.ior, 1) := by decide +kernel
theorem own_d11_46 : decode prog_132_method_3_code 46 = .ok (.ireturn, 1) := by decide +kernel
theorem own_pn2 : plainName "com/example/concordia/concordia/wire/Frames" = true := by first | (simp [plainName, overriddenIn]; done) | decide +kernel
set_option maxHeartbeats 40000000 in
theorem own_mt11_ef (m : MethodId) (x0 : Addr) (x1 : Int32) : entryFrame m #[(.ref x0), (.int x1)] 2 = mkF m 0 #[.val (.ref x0), .val (.int x1)] [] := by first | (simp [entryFrame, mkF, argsToLocals, Value.category, maxLocals]; done) | rfl
set_option maxRecDepth 65536 in
set_option maxHeartbeats 40000000 in
theorem own_mt11 (l : Launch) (Z : State) (a0 : Array Value) (hw : ∀ d ∈ tables_1, d.before a0 Z = true) (x0 : Addr) (x1 : Int32) (nb : Nat) (h0 : Heap) (V_x0 : own_Av Z h0 x0 .byte (List.replicate nb (.int (0 : Int32)))) (hnb : nb ≤ 9) (hat : 0 ≤ x1.toInt ∧ x1.toInt + 3 < nb) :
    own_Met l Z (⟨"com/example/concordia/concordia/wire/Frames", "intAt", "([BI)I"⟩ : MethodName) prog_132_method_3_code 2 (some .int) ({ frames := 0, cells := 0, slots := 0, locals := 0 } : Room) #[(.ref x0), (.int x1)] h0 (fun v h L => v = some (.int (0 : Int32)) ∧ h = h0 ∧ L = []) := by
  refine own_intro (plainFor_of_name own_pn2) ?_
  intro p e s m below meth c s₁ hx hby hml hown hnm hZ hret hlk X0 e0
  refine own_cast (own_mt11_ef m x0 x1) ?_
  refine own_via (T' := s₁) (g' := (mkF m 2 #[.val (.ref x0), .val (.int x1)] [(.int x1), (.ref x0)])) (fun t k => XS.aloadN X0.here hx rfl (hb hby own_d11_0) rfl rfl (XS.iloadN X0.here hx rfl (hb hby own_d11_1) rfl k)) ?_
  refine own_via (T' := s₁) (g' := (mkF m 3 #[.val (.ref x0), .val (.int x1)] [(.int (0 : Int32))])) (own_ldB X0 hx hZ e0 V_x0 (j := x1) (v := (.int (0 : Int32))) (own_ix0 hnb hat).1 (own_rep (own_ix0 hnb hat).2) (g := (mkF m 2 #[.val (.ref x0), .val (.int x1)] [(.int x1), (.ref x0)])) rfl rfl (hb hby own_d11_2)) ?_
  refine own_via (T' := s₁) (g' := (mkF m 14 #[.val (.ref x0), .val (.int x1)] [(.int (x1 + (1 : Int32))), (.ref x0), (.int (0 : Int32))])) (fun t k => XS.sipush X0.here hx rfl (hb hby own_d11_3) (XS.iand X0.here hx rfl (hb hby own_d11_6) rfl (XS.bipush X0.here hx rfl (hb hby own_d11_7) (XS.ishl X0.here hx rfl (hb hby own_d11_9) rfl (XS.aloadN X0.here hx rfl (hb hby own_d11_10) rfl rfl (XS.iloadN X0.here hx rfl (hb hby own_d11_11) rfl (XS.iconst X0.here hx rfl (hb hby own_d11_12) (XS.iadd X0.here hx rfl (hb hby own_d11_13) rfl k)))))))) ?_
  refine own_via (T' := s₁) (g' := (mkF m 15 #[.val (.ref x0), .val (.int x1)] [(.int (0 : Int32)), (.int (0 : Int32))])) (own_ldB X0 hx hZ e0 V_x0 (j := (x1 + (1 : Int32))) (v := (.int (0 : Int32))) (own_ix4 (k := (1 : Int32)) hnb hat (by decide) (by decide)).1 (own_rep (own_ix4 (k := (1 : Int32)) hnb hat (by decide) (by decide)).2) (g := (mkF m 14 #[.val (.ref x0), .val (.int x1)] [(.int (x1 + (1 : Int32))), (.ref x0), (.int (0 : Int32))])) rfl rfl (hb hby own_d11_14)) ?_
  refine own_via (T' := s₁) (g' := (mkF m 27 #[.val (.ref x0), .val (.int x1)] [(.int (x1 + (2 : Int32))), (.ref x0), (.int (0 : Int32))])) (fun t k => XS.sipush X0.here hx rfl (hb hby own_d11_15) (XS.iand X0.here hx rfl (hb hby own_d11_18) rfl (XS.bipush X0.here hx rfl (hb hby own_d11_19) (XS.ishl X0.here hx rfl (hb hby own_d11_21) rfl (XS.ior X0.here hx rfl (hb hby own_d11_22) rfl (XS.aloadN X0.here hx rfl (hb hby own_d11_23) rfl rfl (XS.iloadN X0.here hx rfl (hb hby own_d11_24) rfl (XS.iconst X0.here hx rfl (hb hby own_d11_25) (XS.iadd X0.here hx rfl (hb hby own_d11_26) rfl k))))))))) ?_
  refine own_via (T' := s₁) (g' := (mkF m 28 #[.val (.ref x0), .val (.int x1)] [(.int (0 : Int32)), (.int (0 : Int32))])) (own_ldB X0 hx hZ e0 V_x0 (j := (x1 + (2 : Int32))) (v := (.int (0 : Int32))) (own_ix4 (k := (2 : Int32)) hnb hat (by decide) (by decide)).1 (own_rep (own_ix4 (k := (2 : Int32)) hnb hat (by decide) (by decide)).2) (g := (mkF m 27 #[.val (.ref x0), .val (.int x1)] [(.int (x1 + (2 : Int32))), (.ref x0), (.int (0 : Int32))])) rfl rfl (hb hby own_d11_27)) ?_
  refine own_via (T' := s₁) (g' := (mkF m 40 #[.val (.ref x0), .val (.int x1)] [(.int (x1 + (3 : Int32))), (.ref x0), (.int (0 : Int32))])) (fun t k => XS.sipush X0.here hx rfl (hb hby own_d11_28) (XS.iand X0.here hx rfl (hb hby own_d11_31) rfl (XS.bipush X0.here hx rfl (hb hby own_d11_32) (XS.ishl X0.here hx rfl (hb hby own_d11_34) rfl (XS.ior X0.here hx rfl (hb hby own_d11_35) rfl (XS.aloadN X0.here hx rfl (hb hby own_d11_36) rfl rfl (XS.iloadN X0.here hx rfl (hb hby own_d11_37) rfl (XS.iconst X0.here hx rfl (hb hby own_d11_38) (XS.iadd X0.here hx rfl (hb hby own_d11_39) rfl k))))))))) ?_
  refine own_via (T' := s₁) (g' := (mkF m 41 #[.val (.ref x0), .val (.int x1)] [(.int (0 : Int32)), (.int (0 : Int32))])) (own_ldB X0 hx hZ e0 V_x0 (j := (x1 + (3 : Int32))) (v := (.int (0 : Int32))) (own_ix4 (k := (3 : Int32)) hnb hat (by decide) (by decide)).1 (own_rep (own_ix4 (k := (3 : Int32)) hnb hat (by decide) (by decide)).2) (g := (mkF m 40 #[.val (.ref x0), .val (.int x1)] [(.int (x1 + (3 : Int32))), (.ref x0), (.int (0 : Int32))])) rfl rfl (hb hby own_d11_40)) ?_
  refine own_via (T' := s₁) (g' := (mkF m 46 #[.val (.ref x0), .val (.int x1)] [(.int (0 : Int32))])) (fun t k => XS.sipush X0.here hx rfl (hb hby own_d11_41) (XS.iand X0.here hx rfl (hb hby own_d11_44) rfl (XS.ior X0.here hx rfl (hb hby own_d11_45) rfl k))) ?_
  refine own_retI X0 hx hlk hret (hb hby own_d11_46) (by decide) (by decide) ?_
  exact ⟨by rfl <;> rfl, e0, rfl⟩
theorem own_d8_0 : decode prog_128_method_4_code 0 = .ok (.aload_n 0, 1) := by decide +kernel
theorem own_d8_1 : decode prog_128_method_4_code 1 = .ok (.iconst 1, 1) := by decide +kernel
theorem own_d8_2 : decode prog_128_method_4_code 2 = .ok (.invokevirtual 15, 3) := by decide +kernel
theorem own_d8_5 : decode prog_128_method_4_code 5 = .ok (.aload_n 0, 1) := by decide +kernel
theorem own_d8_6 : decode prog_128_method_4_code 6 = .ok (.getfield 7, 3) := by decide +kernel
theorem own_d8_9 : decode prog_128_method_4_code 9 = .ok (.aload_n 0, 1) := by decide +kernel
theorem own_d8_10 : decode prog_128_method_4_code 10 = .ok (.dup, 1) := by decide +kernel
theorem own_d8_11 : decode prog_128_method_4_code 11 = .ok (.getfield 19, 3) := by decide +kernel
theorem own_d8_14 : decode prog_128_method_4_code 14 = .ok (.dup_x1, 1) := by decide +kernel
theorem own_d8_15 : decode prog_128_method_4_code 15 = .ok (.iconst 1, 1) := by decide +kernel
theorem own_d8_16 : decode prog_128_method_4_code 16 = .ok (.iadd, 1) := by decide +kernel
theorem own_d8_17 : decode prog_128_method_4_code 17 = .ok (.putfield 19, 3) := by decide +kernel
theorem own_d8_20 : decode prog_128_method_4_code 20 = .ok (.baload, 1) := by decide +kernel
theorem own_d8_21 : decode prog_128_method_4_code 21 = .ok (.ifCond .eq 7, 3) := by decide +kernel
theorem own_d8_24 : decode prog_128_method_4_code 24 = .ok (.iconst 1, 1) := by decide +kernel
theorem own_d8_25 : decode prog_128_method_4_code 25 = .ok (.goto 4, 3) := by decide +kernel
theorem own_d8_28 : decode prog_128_method_4_code 28 = .ok (.iconst 0, 1) := by decide +kernel
theorem own_d8_29 : decode prog_128_method_4_code 29 = .ok (.ireturn, 1) := by decide +kernel
theorem own_pd0 : parseMethodDescriptor "(I)V" = some ⟨[.int], none⟩ := by decide +kernel
set_option maxHeartbeats 40000000 in
theorem own_mt8_ef (m : MethodId) (x0 : Addr) : entryFrame m #[(.ref x0)] 1 = mkF m 0 #[.val (.ref x0)] [] := by first | (simp [entryFrame, mkF, argsToLocals, Value.category, maxLocals]; done) | rfl
set_option maxRecDepth 65536 in
set_option maxHeartbeats 40000000 in
theorem own_mt8 (l : Launch) (Z : State) (a0 : Array Value) (hw : ∀ d ∈ tables_1, d.before a0 Z = true) (x0 : Addr) (bb : Addr) (pp : Int32) (nb : Nat) (h0 : Heap) (n0 : Nat) (Z0 : n0 ≤ h0.size) (ge_x0 : n0 ≤ x0) (ne_x0_bb : x0 ≠ bb) (E_x0 : Exa Z h0 x0 "com/example/concordia/concordia/wire/FrameReader") (F_body : Fld Z h0 x0 "com/example/concordia/concordia/wire/FrameReader" "body" "[B" (.ref bb)) (F_pos : Fld Z h0 x0 "com/example/concordia/concordia/wire/FrameReader" "position" "I" (.int pp)) (V_bb : own_Av Z h0 bb .byte (List.replicate nb (.int (0 : Int32)))) (hnb : nb ≤ 9) (hpp : 0 ≤ pp.toInt ∧ pp.toInt ≤ nb) (hneed : ¬ ((nb.toInt32) - pp) < (1 : Int32)) :
    own_Met l Z (⟨"com/example/concordia/concordia/wire/FrameReader", "readBoolean", "()Z"⟩ : MethodName) prog_128_method_4_code 1 (some .boolean) ({ frames := 1, cells := 0, slots := 0, locals := 13 } : Room) #[(.ref x0)] h0 (fun v h L => v = some (.int (0 : Int32)) ∧ Fr n0 L ∧ Keep h0 h [x0] ∧ Exa Z h x0 "com/example/concordia/concordia/wire/FrameReader" ∧ Fld Z h x0 "com/example/concordia/concordia/wire/FrameReader" "body" "[B" (.ref bb) ∧ Fld Z h x0 "com/example/concordia/concordia/wire/FrameReader" "position" "I" (.int (pp + (1 : Int32)))) := by
  refine own_intro (plainFor_of_name own_pn1) ?_
  intro p e s m below meth c s₁ hx hby hml hown hnm hZ hret hlk X0 e0
  refine own_cast (own_mt8_ef m x0) ?_
  have N0 := Fr.nil n0
  have K0 : Keep h0 h0 [x0] := Keep.refl _ _
  refine own_via (T' := s₁) (g' := (mkF m 2 #[.val (.ref x0)] [(.int (1 : Int32)), (.ref x0)])) (fun t k => XS.aloadN X0.here hx rfl (hb hby own_d8_0) rfl rfl (XS.iconst X0.here hx rfl (hb hby own_d8_1) k)) ?_
  obtain ⟨v1, T1, L1, X1, hQ1, st1⟩ := own_callPr (y := (⟨"com/example/concordia/concordia/wire/FrameReader", "need", "(I)V"⟩ : MethodName)) (y' := (⟨"com/example/concordia/concordia/wire/FrameReader", "hasRemaining", "()Z"⟩ : MethodName)) (a := x0) (argsL := [(.int (1 : Int32))]) (rest := []) X0 hx hZ hown (hw _ (List.mem_of_getElem? (i := 49) rfl)) (hw _ (List.mem_of_getElem? (i := 51) rfl)) (hw _ (List.mem_of_getElem? (i := 50) rfl)) (hw _ (List.mem_of_getElem? (i := 7) rfl)) (hw _ (List.mem_of_getElem? (i := 52) rfl)) (hw _ (List.mem_of_getElem? (i := 19) rfl)) (hw _ (List.mem_of_getElem? (i := 18) rfl)) rfl (by decide) E_x0 (own_mt9 l Z a0 hw x0 (1 : Int32) bb pp nb h0 F_body F_pos V_bb hneed) e0 (W := 0) (by decide) (by decide) (g := (mkF m 2 #[.val (.ref x0)] [(.int (1 : Int32)), (.ref x0)])) rfl (by rw [hml]; rfl) (lenOf own_pd0 rfl) rfl (by show 2 * 0 + _ ≤ _; exact Nat.le_of_eq rfl) (hb hby own_d8_2) (by decide) (by decide)
  obtain ⟨rfl, e1, rfl⟩ := hQ1
  have N1 := Fr.app N0 (Fr.nil n0)
  refine own_via (T' := T1) (g' := (mkF m 5 #[.val (.ref x0)] [])) st1 ?_
  refine own_via (T' := T1) (g' := (mkF m 6 #[.val (.ref x0)] [(.ref x0)])) (fun t k => XS.aloadN X1.here hx rfl (hb hby own_d8_5) rfl rfl k) ?_
  obtain ⟨T2, X2, e2, st2⟩ := getF X1 hx hZ hown (host := "") (Or.inl (hw _ (List.mem_of_getElem? (i := 14) rfl))) Via.refl e1 F_body (g := (mkF m 6 #[.val (.ref x0)] [(.ref x0)])) rfl rfl (hb hby own_d8_6)
  refine own_via (T' := T2) (g' := (mkF m 9 #[.val (.ref x0)] [(.ref bb)])) st2 ?_
  refine own_via (T' := T2) (g' := (mkF m 11 #[.val (.ref x0)] [(.ref x0), (.ref x0), (.ref bb)])) (fun t k => XS.aloadN X2.here hx rfl (hb hby own_d8_9) rfl rfl (XS.dup X2.here hx rfl (hb hby own_d8_10) rfl rfl k)) ?_
  obtain ⟨T3, X3, e3, st3⟩ := getF X2 hx hZ hown (host := "") (Or.inl (hw _ (List.mem_of_getElem? (i := 21) rfl))) Via.refl e2 F_pos (g := (mkF m 11 #[.val (.ref x0)] [(.ref x0), (.ref x0), (.ref bb)])) rfl rfl (hb hby own_d8_11)
  refine own_via (T' := T3) (g' := (mkF m 14 #[.val (.ref x0)] [(.int pp), (.ref x0), (.ref bb)])) st3 ?_
  refine own_via (T' := T3) (g' := (mkF m 17 #[.val (.ref x0)] [(.int (pp + (1 : Int32))), (.ref x0), (.int pp), (.ref bb)])) (fun t k => XS.dupX1 X3.here hx rfl (hb hby own_d8_14) rfl rfl rfl (XS.iconst X3.here hx rfl (hb hby own_d8_15) (XS.iadd X3.here hx rfl (hb hby own_d8_16) rfl k))) ?_
  obtain ⟨T4, h4, X4, e4, W4, st4⟩ := putF X3 hx hZ hown (host := "") (Or.inl (hw _ (List.mem_of_getElem? (i := 21) rfl))) Via.refl e3 F_pos E_x0 (Or.inl (hw _ (List.mem_of_getElem? (i := 22) rfl))) (hw _ (List.mem_of_getElem? (i := 6) rfl)) (ty := .int) (by decide) rfl rfl (g := (mkF m 17 #[.val (.ref x0)] [(.int (pp + (1 : Int32))), (.ref x0), (.int pp), (.ref bb)])) rfl rfl (hb hby own_d8_17)
  have Fw4 := F_pos.same W4
  have E_x0_at5 := E_x0.wr W4
  have F_body_at6 := F_body.other W4 (Or.inr (slot_ne (Or.inr (hw _ (List.mem_of_getElem? (i := 15) rfl))) (Or.inl (hw _ (List.mem_of_getElem? (i := 22) rfl))) (by decide) (t := (.array .byte)) (t' := .int) (by decide) (by decide)))
  have V_bb_at7 := V_bb.other W4 (Ne.symm ne_x0_bb)
  have N4 := Fr.snoc X4 N1 ge_x0
  have Z4 : n0 ≤ h4.size := Nat.le_trans Z0 (Nat.le_of_eq W4.size.symm)
  have K4 : Keep h0 h4 [x0] := K0.wr W4 (Or.inl (List.mem_of_getElem? (i := 0) rfl))
  refine own_via (T' := T4) (g' := (mkF m 20 #[.val (.ref x0)] [(.int pp), (.ref bb)])) st4 ?_
  refine own_via (T' := T4) (g' := (mkF m 21 #[.val (.ref x0)] [(.int (0 : Int32))])) (own_ldB X4 hx hZ e4 V_bb_at7 (j := pp) (v := (.int (0 : Int32))) (own_b1 hnb hpp hneed).1 (own_rep (own_b1 hnb hpp hneed).2) (g := (mkF m 20 #[.val (.ref x0)] [(.int pp), (.ref bb)])) rfl rfl (hb hby own_d8_20)) ?_
  refine own_via (T' := T4) (g' := (mkF m 29 #[.val (.ref x0)] [(.int (0 : Int32))])) (fun t k => XS.ifYes X4.here hx rfl (pc0 := 21) (pc' := 28) rfl (hb hby own_d8_21) rfl ((if0 _ _).trans (teq (by decide : (0 : Int32) = (0 : Int32))).1) (by decide) (by decide) (XS.iconst X4.here hx rfl (hb hby own_d8_28) k)) ?_
  refine own_retN X4 hx hlk (ty := .boolean) hret (by simp) (hb hby own_d8_29) (by decide) (by decide) ?_
  rw [e4]; exact ⟨by rfl <;> rfl, N4, K4, E_x0_at5, F_body_at6, Fw4⟩
theorem own_d10_0 : decode prog_128_method_2_code 0 = .ok (.aload_n 0, 1) := by decide +kernel
theorem own_d10_1 : decode prog_128_method_2_code 1 = .ok (.iconst 4, 1) := by decide +kernel
theorem own_d10_2 : decode prog_128_method_2_code 2 = .ok (.invokevirtual 15, 3) := by decide +kernel
theorem own_d10_5 : decode prog_128_method_2_code 5 = .ok (.aload_n 0, 1) := by decide +kernel
theorem own_d10_6 : decode prog_128_method_2_code 6 = .ok (.getfield 7, 3) := by decide +kernel
theorem own_d10_9 : decode prog_128_method_2_code 9 = .ok (.aload_n 0, 1) := by decide +kernel
theorem own_d10_10 : decode prog_128_method_2_code 10 = .ok (.getfield 19, 3) := by decide +kernel
theorem own_d10_13 : decode prog_128_method_2_code 13 = .ok (.invokestatic 23, 3) := by decide +kernel
theorem own_d10_16 : decode prog_128_method_2_code 16 = .ok (.istore_n 1, 1) := by decide +kernel
theorem own_d10_17 : decode prog_128_method_2_code 17 = .ok (.aload_n 0, 1) := by decide +kernel
theorem own_d10_18 : decode prog_128_method_2_code 18 = .ok (.dup, 1) := by decide +kernel
theorem own_d10_19 : decode prog_128_method_2_code 19 = .ok (.getfield 19, 3) := by decide +kernel
theorem own_d10_22 : decode prog_128_method_2_code 22 = .ok (.iconst 4, 1) := by decide +kernel
theorem own_d10_23 : decode prog_128_method_2_code 23 = .ok (.iadd, 1) := by decide +kernel
theorem own_d10_24 : decode prog_128_method_2_code 24 = .ok (.putfield 19, 3) := by decide +kernel
theorem own_d10_27 : decode prog_128_method_2_code 27 = .ok (.iload_n 1, 1) := by decide +kernel
theorem own_d10_28 : decode prog_128_method_2_code 28 = .ok (.ireturn, 1) := by decide +kernel
theorem own_pd1 : parseMethodDescriptor "([BI)I" = some ⟨[(.array .byte), .int], some .int⟩ := by decide +kernel
set_option maxHeartbeats 40000000 in
theorem own_mt10_ef (m : MethodId) (x0 : Addr) : entryFrame m #[(.ref x0)] 2 = mkF m 0 #[.val (.ref x0), .unset] [] := by first | (simp [entryFrame, mkF, argsToLocals, Value.category, maxLocals]; done) | rfl
set_option maxRecDepth 65536 in
set_option maxHeartbeats 40000000 in
theorem own_mt10 (l : Launch) (Z : State) (a0 : Array Value) (hw : ∀ d ∈ tables_1, d.before a0 Z = true) (x0 : Addr) (bb : Addr) (pp : Int32) (nb : Nat) (h0 : Heap) (n0 : Nat) (Z0 : n0 ≤ h0.size) (ge_x0 : n0 ≤ x0) (ne_x0_bb : x0 ≠ bb) (E_x0 : Exa Z h0 x0 "com/example/concordia/concordia/wire/FrameReader") (F_body : Fld Z h0 x0 "com/example/concordia/concordia/wire/FrameReader" "body" "[B" (.ref bb)) (F_pos : Fld Z h0 x0 "com/example/concordia/concordia/wire/FrameReader" "position" "I" (.int pp)) (V_bb : own_Av Z h0 bb .byte (List.replicate nb (.int (0 : Int32)))) (hnb : nb ≤ 9) (hpp : 0 ≤ pp.toInt ∧ pp.toInt ≤ nb) (hneed : ¬ ((nb.toInt32) - pp) < (4 : Int32)) :
    own_Met l Z (⟨"com/example/concordia/concordia/wire/FrameReader", "readInt", "()I"⟩ : MethodName) prog_128_method_2_code 2 (some .int) ({ frames := 1, cells := 0, slots := 0, locals := 13 } : Room) #[(.ref x0)] h0 (fun v h L => v = some (.int (0 : Int32)) ∧ Fr n0 L ∧ Keep h0 h [x0] ∧ Exa Z h x0 "com/example/concordia/concordia/wire/FrameReader" ∧ Fld Z h x0 "com/example/concordia/concordia/wire/FrameReader" "body" "[B" (.ref bb) ∧ Fld Z h x0 "com/example/concordia/concordia/wire/FrameReader" "position" "I" (.int (pp + (4 : Int32)))) := by
  refine own_intro (plainFor_of_name own_pn1) ?_
  intro p e s m below meth c s₁ hx hby hml hown hnm hZ hret hlk X0 e0
  refine own_cast (own_mt10_ef m x0) ?_
  have N0 := Fr.nil n0
  have K0 : Keep h0 h0 [x0] := Keep.refl _ _
  refine own_via (T' := s₁) (g' := (mkF m 2 #[.val (.ref x0), .unset] [(.int (4 : Int32)), (.ref x0)])) (fun t k => XS.aloadN X0.here hx rfl (hb hby own_d10_0) rfl rfl (XS.iconst X0.here hx rfl (hb hby own_d10_1) k)) ?_
  obtain ⟨v1, T1, L1, X1, hQ1, st1⟩ := own_callPr (y := (⟨"com/example/concordia/concordia/wire/FrameReader", "need", "(I)V"⟩ : MethodName)) (y' := (⟨"com/example/concordia/concordia/wire/FrameReader", "hasRemaining", "()Z"⟩ : MethodName)) (a := x0) (argsL := [(.int (4 : Int32))]) (rest := []) X0 hx hZ hown (hw _ (List.mem_of_getElem? (i := 49) rfl)) (hw _ (List.mem_of_getElem? (i := 51) rfl)) (hw _ (List.mem_of_getElem? (i := 50) rfl)) (hw _ (List.mem_of_getElem? (i := 7) rfl)) (hw _ (List.mem_of_getElem? (i := 52) rfl)) (hw _ (List.mem_of_getElem? (i := 19) rfl)) (hw _ (List.mem_of_getElem? (i := 18) rfl)) rfl (by decide) E_x0 (own_mt9 l Z a0 hw x0 (4 : Int32) bb pp nb h0 F_body F_pos V_bb hneed) e0 (W := 0) (by decide) (by decide) (g := (mkF m 2 #[.val (.ref x0), .unset] [(.int (4 : Int32)), (.ref x0)])) rfl (by rw [hml]; rfl) (lenOf own_pd0 rfl) rfl (by show 2 * 0 + _ ≤ _; exact Nat.le_of_eq rfl) (hb hby own_d10_2) (by decide) (by decide)
  obtain ⟨rfl, e1, rfl⟩ := hQ1
  have N1 := Fr.app N0 (Fr.nil n0)
  refine own_via (T' := T1) (g' := (mkF m 5 #[.val (.ref x0), .unset] [])) st1 ?_
  refine own_via (T' := T1) (g' := (mkF m 6 #[.val (.ref x0), .unset] [(.ref x0)])) (fun t k => XS.aloadN X1.here hx rfl (hb hby own_d10_5) rfl rfl k) ?_
  obtain ⟨T2, X2, e2, st2⟩ := getF X1 hx hZ hown (host := "") (Or.inl (hw _ (List.mem_of_getElem? (i := 14) rfl))) Via.refl e1 F_body (g := (mkF m 6 #[.val (.ref x0), .unset] [(.ref x0)])) rfl rfl (hb hby own_d10_6)
  refine own_via (T' := T2) (g' := (mkF m 9 #[.val (.ref x0), .unset] [(.ref bb)])) st2 ?_
  refine own_via (T' := T2) (g' := (mkF m 10 #[.val (.ref x0), .unset] [(.ref x0), (.ref bb)])) (fun t k => XS.aloadN X2.here hx rfl (hb hby own_d10_9) rfl rfl k) ?_
  obtain ⟨T3, X3, e3, st3⟩ := getF X2 hx hZ hown (host := "") (Or.inl (hw _ (List.mem_of_getElem? (i := 21) rfl))) Via.refl e2 F_pos (g := (mkF m 10 #[.val (.ref x0), .unset] [(.ref x0), (.ref bb)])) rfl rfl (hb hby own_d10_10)
  refine own_via (T' := T3) (g' := (mkF m 13 #[.val (.ref x0), .unset] [(.int pp), (.ref bb)])) st3 ?_
  obtain ⟨v4, T4, L4, X4, hQ4, st4⟩ := own_callSt (y := (⟨"com/example/concordia/concordia/wire/Frames", "intAt", "([BI)I"⟩ : MethodName)) (argsL := [(.ref bb), (.int pp)]) (rest := []) X3 hx hZ hown (hw _ (List.mem_of_getElem? (i := 58) rfl)) (hw _ (List.mem_of_getElem? (i := 59) rfl)) (hw _ (List.mem_of_getElem? (i := 60) rfl)) (hw _ (List.mem_of_getElem? (i := 61) rfl)) (by decide) (own_mt11 l Z a0 hw bb pp nb h0 V_bb hnb (own_ai hnb hpp hneed)) e3 (W := 0) (by decide) (by decide) (g := (mkF m 13 #[.val (.ref x0), .unset] [(.int pp), (.ref bb)])) rfl (by rw [hml]; rfl) (lenOf own_pd1 rfl) rfl (by show 2 * 0 + _ ≤ _; exact Nat.le_of_eq rfl) (hb hby own_d10_13) (by decide) (by decide)
  obtain ⟨rfl, e4, rfl⟩ := hQ4
  have N4 := Fr.app N1 (Fr.nil n0)
  refine own_via (T' := T4) (g' := (mkF m 16 #[.val (.ref x0), .unset] [(.int (0 : Int32))])) st4 ?_
  refine own_via (T' := T4) (g' := (mkF m 19 #[.val (.ref x0), .val (.int (0 : Int32))] [(.ref x0), (.ref x0)])) (fun t k => XS.istoreN X4.here hx rfl (hb hby own_d10_16) rfl (l' := #[.val (.ref x0), .val (.int (0 : Int32))]) rfl (XS.aloadN X4.here hx rfl (hb hby own_d10_17) rfl rfl (XS.dup X4.here hx rfl (hb hby own_d10_18) rfl rfl k))) ?_
  obtain ⟨T5, X5, e5, st5⟩ := getF X4 hx hZ hown (host := "") (Or.inl (hw _ (List.mem_of_getElem? (i := 21) rfl))) Via.refl e4 F_pos (g := (mkF m 19 #[.val (.ref x0), .val (.int (0 : Int32))] [(.ref x0), (.ref x0)])) rfl rfl (hb hby own_d10_19)
  refine own_via (T' := T5) (g' := (mkF m 22 #[.val (.ref x0), .val (.int (0 : Int32))] [(.int pp), (.ref x0)])) st5 ?_
  refine own_via (T' := T5) (g' := (mkF m 24 #[.val (.ref x0), .val (.int (0 : Int32))] [(.int (pp + (4 : Int32))), (.ref x0)])) (fun t k => XS.iconst X5.here hx rfl (hb hby own_d10_22) (XS.iadd X5.here hx rfl (hb hby own_d10_23) rfl k)) ?_
  obtain ⟨T6, h6, X6, e6, W6, st6⟩ := putF X5 hx hZ hown (host := "") (Or.inl (hw _ (List.mem_of_getElem? (i := 21) rfl))) Via.refl e5 F_pos E_x0 (Or.inl (hw _ (List.mem_of_getElem? (i := 22) rfl))) (hw _ (List.mem_of_getElem? (i := 6) rfl)) (ty := .int) (by decide) rfl rfl (g := (mkF m 24 #[.val (.ref x0), .val (.int (0 : Int32))] [(.int (pp + (4 : Int32))), (.ref x0)])) rfl rfl (hb hby own_d10_24)
  have Fw6 := F_pos.same W6
  have E_x0_at7 := E_x0.wr W6
  have F_body_at8 := F_body.other W6 (Or.inr (slot_ne (Or.inr (hw _ (List.mem_of_getElem? (i := 15) rfl))) (Or.inl (hw _ (List.mem_of_getElem? (i := 22) rfl))) (by decide) (t := (.array .byte)) (t' := .int) (by decide) (by decide)))
  have V_bb_at9 := V_bb.other W6 (Ne.symm ne_x0_bb)
  have N6 := Fr.snoc X6 N4 ge_x0
  have Z6 : n0 ≤ h6.size := Nat.le_trans Z0 (Nat.le_of_eq W6.size.symm)
  have K6 : Keep h0 h6 [x0] := K0.wr W6 (Or.inl (List.mem_of_getElem? (i := 0) rfl))
  refine own_via (T' := T6) (g' := (mkF m 27 #[.val (.ref x0), .val (.int (0 : Int32))] [])) st6 ?_
  refine own_via (T' := T6) (g' := (mkF m 28 #[.val (.ref x0), .val (.int (0 : Int32))] [(.int (0 : Int32))])) (fun t k => XS.iloadN X6.here hx rfl (hb hby own_d10_27) rfl k) ?_
  refine own_retI X6 hx hlk hret (hb hby own_d10_28) (by decide) (by decide) ?_
  rw [e6]; exact ⟨by rfl <;> rfl, N6, K6, E_x0_at7, F_body_at8, Fw6⟩
theorem own_d15_0 : decode prog_128_method_3_code 0 = .ok (.aload_n 0, 1) := by decide +kernel
theorem own_d15_1 : decode prog_128_method_3_code 1 = .ok (.bipush 8, 2) := by decide +kernel
theorem own_d15_3 : decode prog_128_method_3_code 3 = .ok (.invokevirtual 15, 3) := by decide +kernel
theorem own_d15_6 : decode prog_128_method_3_code 6 = .ok (.aload_n 0, 1) := by decide +kernel
theorem own_d15_7 : decode prog_128_method_3_code 7 = .ok (.getfield 7, 3) := by decide +kernel
theorem own_d15_10 : decode prog_128_method_3_code 10 = .ok (.aload_n 0, 1) := by decide +kernel
theorem own_d15_11 : decode prog_128_method_3_code 11 = .ok (.getfield 19, 3) := by decide +kernel
theorem own_d15_14 : decode prog_128_method_3_code 14 = .ok (.invokestatic 23, 3) := by decide +kernel
theorem own_d15_17 : decode prog_128_method_3_code 17 = .ok (.i2l, 1) := by decide +kernel
theorem own_d15_18 : decode prog_128_method_3_code 18 = .ok (.bipush 32, 2) := by decide +kernel
theorem own_d15_20 : decode prog_128_method_3_code 20 = .ok (.lshl, 1) := by decide +kernel
theorem own_d15_21 : decode prog_128_method_3_code 21 = .ok (.aload_n 0, 1) := by decide +kernel
theorem own_d15_22 : decode prog_128_method_3_code 22 = .ok (.getfield 7, 3) := by decide +kernel
theorem own_d15_25 : decode prog_128_method_3_code 25 = .ok (.aload_n 0, 1) := by decide +kernel
theorem own_d15_26 : decode prog_128_method_3_code 26 = .ok (.getfield 19, 3) := by decide +kernel
theorem own_d15_29 : decode prog_128_method_3_code 29 = .ok (.iconst 4, 1) := by decide +kernel
theorem own_d15_30 : decode prog_128_method_3_code 30 = .ok (.iadd, 1) := by decide +kernel
theorem own_d15_31 : decode prog_128_method_3_code 31 = .ok (.invokestatic 23, 3) := by decide +kernel
theorem own_d15_34 : decode prog_128_method_3_code 34 = .ok (.i2l, 1) := by decide +kernel
theorem own_d15_35 : decode prog_128_method_3_code 35 = .ok (.ldc2_w 31, 3) := by decide +kernel
theorem own_d15_38 : decode prog_128_method_3_code 38 = .ok (.land, 1) := by decide +kernel
theorem own_d15_39 : decode prog_128_method_3_code 39 = .ok (.lor, 1) := by decide +kernel
theorem own_d15_40 : decode prog_128_method_3_code 40 = .ok (.lstore_n 1, 1) := by decide +kernel
theorem own_d15_41 : decode prog_128_method_3_code 41 = .ok (.aload_n 0, 1) := by decide +kernel
theorem own_d15_42 : decode prog_128_method_3_code 42 = .ok (.dup, 1) := by decide +kernel
theorem own_d15_43 : decode prog_128_method_3_code 43 = .ok (.getfield 19, 3) := by decide +kernel
theorem own_d15_46 : decode prog_128_method_3_code 46 = .ok (.bipush 8, 2) := by decide +kernel
theorem own_d15_48 : decode prog_128_method_3_code 48 = .ok (.iadd, 1) := by decide +kernel
theorem own_d15_49 : decode prog_128_method_3_code 49 = .ok (.putfield 19, 3) := by decide +kernel
theorem own_d15_52 : decode prog_128_method_3_code 52 = .ok (.lload_n 1, 1) := by decide +kernel
theorem own_d15_53 : decode prog_128_method_3_code 53 = .ok (.lreturn, 1) := by decide +kernel
set_option maxHeartbeats 40000000 in
theorem own_mt15_ef (m : MethodId) (x0 : Addr) : entryFrame m #[(.ref x0)] 3 = mkF m 0 #[.val (.ref x0), .unset, .unset] [] := by first | (simp [entryFrame, mkF, argsToLocals, Value.category, maxLocals]; done) | rfl
set_option maxRecDepth 65536 in
set_option maxHeartbeats 40000000 in
theorem own_mt15 (l : Launch) (Z : State) (a0 : Array Value) (hw : ∀ d ∈ tables_1, d.before a0 Z = true) (x0 : Addr) (bb : Addr) (pp : Int32) (nb : Nat) (h0 : Heap) (n0 : Nat) (Z0 : n0 ≤ h0.size) (ge_x0 : n0 ≤ x0) (ne_x0_bb : x0 ≠ bb) (E_x0 : Exa Z h0 x0 "com/example/concordia/concordia/wire/FrameReader") (F_body : Fld Z h0 x0 "com/example/concordia/concordia/wire/FrameReader" "body" "[B" (.ref bb)) (F_pos : Fld Z h0 x0 "com/example/concordia/concordia/wire/FrameReader" "position" "I" (.int pp)) (V_bb : own_Av Z h0 bb .byte (List.replicate nb (.int (0 : Int32)))) (hnb : nb ≤ 9) (hpp : 0 ≤ pp.toInt ∧ pp.toInt ≤ nb) (hneed : ¬ ((nb.toInt32) - pp) < (8 : Int32)) :
    own_Met l Z (⟨"com/example/concordia/concordia/wire/FrameReader", "readLong", "()J"⟩ : MethodName) prog_128_method_3_code 3 (some .long) ({ frames := 1, cells := 0, slots := 0, locals := 15 } : Room) #[(.ref x0)] h0 (fun v h L => v = some (.long (0 : Int64)) ∧ Fr n0 L ∧ Keep h0 h [x0] ∧ Exa Z h x0 "com/example/concordia/concordia/wire/FrameReader" ∧ Fld Z h x0 "com/example/concordia/concordia/wire/FrameReader" "body" "[B" (.ref bb) ∧ Fld Z h x0 "com/example/concordia/concordia/wire/FrameReader" "position" "I" (.int (pp + (8 : Int32)))) := by
  refine own_intro (plainFor_of_name own_pn1) ?_
  intro p e s m below meth c s₁ hx hby hml hown hnm hZ hret hlk X0 e0
  refine own_cast (own_mt15_ef m x0) ?_
  have N0 := Fr.nil n0
  have K0 : Keep h0 h0 [x0] := Keep.refl _ _
  refine own_via (T' := s₁) (g' := (mkF m 3 #[.val (.ref x0), .unset, .unset] [(.int (8 : Int32)), (.ref x0)])) (fun t k => XS.aloadN X0.here hx rfl (hb hby own_d15_0) rfl rfl (XS.bipush X0.here hx rfl (hb hby own_d15_1) k)) ?_
  obtain ⟨v1, T1, L1, X1, hQ1, st1⟩ := own_callPr (y := (⟨"com/example/concordia/concordia/wire/FrameReader", "need", "(I)V"⟩ : MethodName)) (y' := (⟨"com/example/concordia/concordia/wire/FrameReader", "hasRemaining", "()Z"⟩ : MethodName)) (a := x0) (argsL := [(.int (8 : Int32))]) (rest := []) X0 hx hZ hown (hw _ (List.mem_of_getElem? (i := 49) rfl)) (hw _ (List.mem_of_getElem? (i := 51) rfl)) (hw _ (List.mem_of_getElem? (i := 50) rfl)) (hw _ (List.mem_of_getElem? (i := 7) rfl)) (hw _ (List.mem_of_getElem? (i := 52) rfl)) (hw _ (List.mem_of_getElem? (i := 19) rfl)) (hw _ (List.mem_of_getElem? (i := 18) rfl)) rfl (by decide) E_x0 (own_mt9 l Z a0 hw x0 (8 : Int32) bb pp nb h0 F_body F_pos V_bb hneed) e0 (W := 0) (by decide) (by decide) (g := (mkF m 3 #[.val (.ref x0), .unset, .unset] [(.int (8 : Int32)), (.ref x0)])) rfl (by rw [hml]; rfl) (lenOf own_pd0 rfl) rfl (by show 2 * 0 + _ ≤ _; exact Nat.le_of_eq rfl) (hb hby own_d15_3) (by decide) (by decide)
  obtain ⟨rfl, e1, rfl⟩ := hQ1
  have N1 := Fr.app N0 (Fr.nil n0)
  refine own_via (T' := T1) (g' := (mkF m 6 #[.val (.ref x0), .unset, .unset] [])) st1 ?_
  refine own_via (T' := T1) (g' := (mkF m 7 #[.val (.ref x0), .unset, .unset] [(.ref x0)])) (fun t k => XS.aloadN X1.here hx rfl (hb hby own_d15_6) rfl rfl k) ?_
  obtain ⟨T2, X2, e2, st2⟩ := getF X1 hx hZ hown (host := "") (Or.inl (hw _ (List.mem_of_getElem? (i := 14) rfl))) Via.refl e1 F_body (g := (mkF m 7 #[.val (.ref x0), .unset, .unset] [(.ref x0)])) rfl rfl (hb hby own_d15_7)
  refine own_via (T' := T2) (g' := (mkF m 10 #[.val (.ref x0), .unset, .unset] [(.ref bb)])) st2 ?_
  refine own_via (T' := T2) (g' := (mkF m 11 #[.val (.ref x0), .unset, .unset] [(.ref x0), (.ref bb)])) (fun t k => XS.aloadN X2.here hx rfl (hb hby own_d15_10) rfl rfl k) ?_
  obtain ⟨T3, X3, e3, st3⟩ := getF X2 hx hZ hown (host := "") (Or.inl (hw _ (List.mem_of_getElem? (i := 21) rfl))) Via.refl e2 F_pos (g := (mkF m 11 #[.val (.ref x0), .unset, .unset] [(.ref x0), (.ref bb)])) rfl rfl (hb hby own_d15_11)
  refine own_via (T' := T3) (g' := (mkF m 14 #[.val (.ref x0), .unset, .unset] [(.int pp), (.ref bb)])) st3 ?_
  obtain ⟨v4, T4, L4, X4, hQ4, st4⟩ := own_callSt (y := (⟨"com/example/concordia/concordia/wire/Frames", "intAt", "([BI)I"⟩ : MethodName)) (argsL := [(.ref bb), (.int pp)]) (rest := []) X3 hx hZ hown (hw _ (List.mem_of_getElem? (i := 58) rfl)) (hw _ (List.mem_of_getElem? (i := 59) rfl)) (hw _ (List.mem_of_getElem? (i := 60) rfl)) (hw _ (List.mem_of_getElem? (i := 61) rfl)) (by decide) (own_mt11 l Z a0 hw bb pp nb h0 V_bb hnb (own_a0 hnb hpp hneed)) e3 (W := 0) (by decide) (by decide) (g := (mkF m 14 #[.val (.ref x0), .unset, .unset] [(.int pp), (.ref bb)])) rfl (by rw [hml]; rfl) (lenOf own_pd1 rfl) rfl (by show 2 * 0 + _ ≤ _; exact Nat.le_of_eq rfl) (hb hby own_d15_14) (by decide) (by decide)
  obtain ⟨rfl, e4, rfl⟩ := hQ4
  have N4 := Fr.app N1 (Fr.nil n0)
  refine own_via (T' := T4) (g' := (mkF m 17 #[.val (.ref x0), .unset, .unset] [(.int (0 : Int32))])) st4 ?_
  refine own_via (T' := T4) (g' := (mkF m 22 #[.val (.ref x0), .unset, .unset] [(.ref x0), (.long (0 : Int64))])) (fun t k => XS.i2l X4.here hx rfl (hb hby own_d15_17) rfl (XS.bipush X4.here hx rfl (hb hby own_d15_18) (XS.lshl X4.here hx rfl (hb hby own_d15_20) rfl (XS.aloadN X4.here hx rfl (hb hby own_d15_21) rfl rfl k)))) ?_
  obtain ⟨T5, X5, e5, st5⟩ := getF X4 hx hZ hown (host := "") (Or.inl (hw _ (List.mem_of_getElem? (i := 14) rfl))) Via.refl e4 F_body (g := (mkF m 22 #[.val (.ref x0), .unset, .unset] [(.ref x0), (.long (0 : Int64))])) rfl rfl (hb hby own_d15_22)
  refine own_via (T' := T5) (g' := (mkF m 25 #[.val (.ref x0), .unset, .unset] [(.ref bb), (.long (0 : Int64))])) st5 ?_
  refine own_via (T' := T5) (g' := (mkF m 26 #[.val (.ref x0), .unset, .unset] [(.ref x0), (.ref bb), (.long (0 : Int64))])) (fun t k => XS.aloadN X5.here hx rfl (hb hby own_d15_25) rfl rfl k) ?_
  obtain ⟨T6, X6, e6, st6⟩ := getF X5 hx hZ hown (host := "") (Or.inl (hw _ (List.mem_of_getElem? (i := 21) rfl))) Via.refl e5 F_pos (g := (mkF m 26 #[.val (.ref x0), .unset, .unset] [(.ref x0), (.ref bb), (.long (0 : Int64))])) rfl rfl (hb hby own_d15_26)
  refine own_via (T' := T6) (g' := (mkF m 29 #[.val (.ref x0), .unset, .unset] [(.int pp), (.ref bb), (.long (0 : Int64))])) st6 ?_
  refine own_via (T' := T6) (g' := (mkF m 31 #[.val (.ref x0), .unset, .unset] [(.int (pp + (4 : Int32))), (.ref bb), (.long (0 : Int64))])) (fun t k => XS.iconst X6.here hx rfl (hb hby own_d15_29) (XS.iadd X6.here hx rfl (hb hby own_d15_30) rfl k)) ?_
  obtain ⟨v7, T7, L7, X7, hQ7, st7⟩ := own_callSt (y := (⟨"com/example/concordia/concordia/wire/Frames", "intAt", "([BI)I"⟩ : MethodName)) (argsL := [(.ref bb), (.int (pp + (4 : Int32)))]) (rest := [(.long (0 : Int64))]) X6 hx hZ hown (hw _ (List.mem_of_getElem? (i := 58) rfl)) (hw _ (List.mem_of_getElem? (i := 59) rfl)) (hw _ (List.mem_of_getElem? (i := 60) rfl)) (hw _ (List.mem_of_getElem? (i := 61) rfl)) (by decide) (own_mt11 l Z a0 hw bb (pp + (4 : Int32)) nb h0 V_bb hnb (own_a4 hnb hpp hneed)) e6 (W := 2) (by decide) (by decide) (g := (mkF m 31 #[.val (.ref x0), .unset, .unset] [(.int (pp + (4 : Int32))), (.ref bb), (.long (0 : Int64))])) rfl (by rw [hml]; rfl) (lenOf own_pd1 rfl) rfl (by show 2 * 0 + _ ≤ _; exact Nat.le_of_eq rfl) (hb hby own_d15_31) (by decide) (by decide)
  obtain ⟨rfl, e7, rfl⟩ := hQ7
  have N7 := Fr.app N4 (Fr.nil n0)
  refine own_via (T' := T7) (g' := (mkF m 34 #[.val (.ref x0), .unset, .unset] [(.int (0 : Int32)), (.long (0 : Int64))])) st7 ?_
  refine own_via (T' := T7) (g' := (mkF m 35 #[.val (.ref x0), .unset, .unset] [(.long (0 : Int64)), (.long (0 : Int64))])) (fun t k => XS.i2l X7.here hx rfl (hb hby own_d15_34) rfl k) ?_
  refine own_via (T' := T7) (g' := (mkF m 38 #[.val (.ref x0), .unset, .unset] [(.long (4294967295 : Int64)), (.long (0 : Int64)), (.long (0 : Int64))])) (X7.ldc2Long hx hown (mvT hZ (hw _ (List.mem_of_getElem? (i := 81) rfl))) (g := (mkF m 35 #[.val (.ref x0), .unset, .unset] [(.long (0 : Int64)), (.long (0 : Int64))])) rfl (hb hby own_d15_35)) ?_
  refine own_via (T' := T7) (g' := (mkF m 43 #[.val (.ref x0), .val (.long (0 : Int64)), .second] [(.ref x0), (.ref x0)])) (fun t k => XS.land X7.here hx rfl (hb hby own_d15_38) rfl (XS.lor X7.here hx rfl (hb hby own_d15_39) rfl (XS.lstoreN X7.here hx rfl (hb hby own_d15_40) rfl (l' := #[.val (.ref x0), .val (.long (0 : Int64)), .second]) rfl (XS.aloadN X7.here hx rfl (hb hby own_d15_41) rfl rfl (XS.dup X7.here hx rfl (hb hby own_d15_42) rfl rfl k))))) ?_
  obtain ⟨T8, X8, e8, st8⟩ := getF X7 hx hZ hown (host := "") (Or.inl (hw _ (List.mem_of_getElem? (i := 21) rfl))) Via.refl e7 F_pos (g := (mkF m 43 #[.val (.ref x0), .val (.long (0 : Int64)), .second] [(.ref x0), (.ref x0)])) rfl rfl (hb hby own_d15_43)
  refine own_via (T' := T8) (g' := (mkF m 46 #[.val (.ref x0), .val (.long (0 : Int64)), .second] [(.int pp), (.ref x0)])) st8 ?_
  refine own_via (T' := T8) (g' := (mkF m 49 #[.val (.ref x0), .val (.long (0 : Int64)), .second] [(.int (pp + (8 : Int32))), (.ref x0)])) (fun t k => XS.bipush X8.here hx rfl (hb hby own_d15_46) (XS.iadd X8.here hx rfl (hb hby own_d15_48) rfl k)) ?_
  obtain ⟨T9, h9, X9, e9, W9, st9⟩ := putF X8 hx hZ hown (host := "") (Or.inl (hw _ (List.mem_of_getElem? (i := 21) rfl))) Via.refl e8 F_pos E_x0 (Or.inl (hw _ (List.mem_of_getElem? (i := 22) rfl))) (hw _ (List.mem_of_getElem? (i := 6) rfl)) (ty := .int) (by decide) rfl rfl (g := (mkF m 49 #[.val (.ref x0), .val (.long (0 : Int64)), .second] [(.int (pp + (8 : Int32))), (.ref x0)])) rfl rfl (hb hby own_d15_49)
  have Fw9 := F_pos.same W9
  have E_x0_at10 := E_x0.wr W9
  have F_body_at11 := F_body.other W9 (Or.inr (slot_ne (Or.inr (hw _ (List.mem_of_getElem? (i := 15) rfl))) (Or.inl (hw _ (List.mem_of_getElem? (i := 22) rfl))) (by decide) (t := (.array .byte)) (t' := .int) (by decide) (by decide)))
  have V_bb_at12 := V_bb.other W9 (Ne.symm ne_x0_bb)
  have N9 := Fr.snoc X9 N7 ge_x0
  have Z9 : n0 ≤ h9.size := Nat.le_trans Z0 (Nat.le_of_eq W9.size.symm)
  have K9 : Keep h0 h9 [x0] := K0.wr W9 (Or.inl (List.mem_of_getElem? (i := 0) rfl))
  refine own_via (T' := T9) (g' := (mkF m 52 #[.val (.ref x0), .val (.long (0 : Int64)), .second] [])) st9 ?_
  refine own_via (T' := T9) (g' := (mkF m 53 #[.val (.ref x0), .val (.long (0 : Int64)), .second] [(.long (0 : Int64))])) (fun t k => XS.lloadN X9.here hx rfl (hb hby own_d15_52) rfl k) ?_
  refine own_retJ X9 hx hlk hret (hb hby own_d15_53) (by decide) (by decide) ?_
  rw [e9]; exact ⟨by rfl <;> rfl, N9, K9, E_x0_at10, F_body_at11, Fw9⟩
theorem own_d13_0 : decode jdk_65_method_131_code 0 = .ok (.iload_n 1, 1) := by decide +kernel
theorem own_d13_1 : decode jdk_65_method_131_code 1 = .ok (.iload_n 0, 1) := by decide +kernel
theorem own_d13_2 : decode jdk_65_method_131_code 2 = .ok (.if_icmp .ge 35, 3) := by decide +kernel
theorem own_d13_5 : decode jdk_65_method_131_code 5 = .ok (.new 43, 3) := by decide +kernel
theorem own_d13_8 : decode jdk_65_method_131_code 8 = .ok (.dup, 1) := by decide +kernel
theorem own_d13_9 : decode jdk_65_method_131_code 9 = .ok (.new 45, 3) := by decide +kernel
theorem own_d13_12 : decode jdk_65_method_131_code 12 = .ok (.dup, 1) := by decide +kernel
theorem own_d13_13 : decode jdk_65_method_131_code 13 = .ok (.invokespecial 47, 3) := by decide +kernel
theorem own_d13_16 : decode jdk_65_method_131_code 16 = .ok (.iload_n 0, 1) := by decide +kernel
theorem own_d13_17 : decode jdk_65_method_131_code 17 = .ok (.invokevirtual 54, 3) := by decide +kernel
theorem own_d13_20 : decode jdk_65_method_131_code 20 = .ok (.ldc_w 337, 3) := by decide +kernel
theorem own_d13_23 : decode jdk_65_method_131_code 23 = .ok (.invokevirtual 50, 3) := by decide +kernel
theorem own_d13_26 : decode jdk_65_method_131_code 26 = .ok (.iload_n 1, 1) := by decide +kernel
theorem own_d13_27 : decode jdk_65_method_131_code 27 = .ok (.invokevirtual 54, 3) := by decide +kernel
theorem own_d13_30 : decode jdk_65_method_131_code 30 = .ok (.invokevirtual 61, 3) := by decide +kernel
theorem own_d13_33 : decode jdk_65_method_131_code 33 = .ok (.invokespecial 65, 3) := by decide +kernel
theorem own_d13_36 : decode jdk_65_method_131_code 36 = .ok (.athrow, 1) := by decide +kernel
theorem own_d13_37 : decode jdk_65_method_131_code 37 = .ok (.return_, 1) := by decide +kernel
theorem own_pn3 : plainName "java/util/Arrays" = true := by first | (simp [plainName, overriddenIn]; done) | decide +kernel
set_option maxHeartbeats 40000000 in
theorem own_mt13_ef (m : MethodId) (x0 : Int32) (x1 : Int32) : entryFrame m #[(.int x0), (.int x1)] 2 = mkF m 0 #[.val (.int x0), .val (.int x1)] [] := by first | (simp [entryFrame, mkF, argsToLocals, Value.category, maxLocals]; done) | rfl
set_option maxRecDepth 65536 in
set_option maxHeartbeats 40000000 in
theorem own_mt13 (l : Launch) (Z : State) (a0 : Array Value) (hw : ∀ d ∈ tables_1, d.before a0 Z = true) (x0 : Int32) (x1 : Int32) (h0 : Heap) (hle : ¬ x1 < x0) :
    own_Met l Z (⟨"java/util/Arrays", "checkLength", "(II)V"⟩ : MethodName) jdk_65_method_131_code 2 none ({ frames := 0, cells := 0, slots := 0, locals := 0 } : Room) #[(.int x0), (.int x1)] h0 (fun v h L => v = none ∧ h = h0 ∧ L = []) := by
  refine own_intro (plainFor_of_name own_pn3) ?_
  intro p e s m below meth c s₁ hx hby hml hown hnm hZ hret hlk X0 e0
  refine own_cast (own_mt13_ef m x0 x1) ?_
  refine own_via (T' := s₁) (g' := (mkF m 2 #[.val (.int x0), .val (.int x1)] [(.int x0), (.int x1)])) (fun t k => XS.iloadN X0.here hx rfl (hb hby own_d13_0) rfl (XS.iloadN X0.here hx rfl (hb hby own_d13_1) rfl k)) ?_
  refine own_via (T' := s₁) (g' := (mkF m 37 #[.val (.int x0), .val (.int x1)] [])) (fun t k => XS.icmpYes X0.here hx rfl (pc0 := 2) (pc' := 37) rfl (hb hby own_d13_2) rfl (flt hle).2.1 (by decide) (by decide) k) ?_
  refine own_retV X0 hx hlk hret (hb hby own_d13_37) (by decide) (by decide) ?_
  exact ⟨rfl, e0, rfl⟩
theorem own_d12_0 : decode jdk_65_method_133_code 0 = .ok (.iload_n 1, 1) := by decide +kernel
theorem own_d12_1 : decode jdk_65_method_133_code 1 = .ok (.iload_n 2, 1) := by decide +kernel
theorem own_d12_2 : decode jdk_65_method_133_code 2 = .ok (.invokestatic 343, 3) := by decide +kernel
theorem own_d12_5 : decode jdk_65_method_133_code 5 = .ok (.iload_n 2, 1) := by decide +kernel
theorem own_d12_6 : decode jdk_65_method_133_code 6 = .ok (.iload_n 1, 1) := by decide +kernel
theorem own_d12_7 : decode jdk_65_method_133_code 7 = .ok (.isub, 1) := by decide +kernel
theorem own_d12_8 : decode jdk_65_method_133_code 8 = .ok (.istore_n 3, 1) := by decide +kernel
theorem own_d12_9 : decode jdk_65_method_133_code 9 = .ok (.iload_n 3, 1) := by decide +kernel
theorem own_d12_10 : decode jdk_65_method_133_code 10 = .ok (.newarray .byte, 2) := by decide +kernel
theorem own_d12_12 : decode jdk_65_method_133_code 12 = .ok (.astore 4, 2) := by decide +kernel
theorem own_d12_14 : decode jdk_65_method_133_code 14 = .ok (.aload_n 0, 1) := by decide +kernel
theorem own_d12_15 : decode jdk_65_method_133_code 15 = .ok (.iload_n 1, 1) := by decide +kernel
theorem own_d12_16 : decode jdk_65_method_133_code 16 = .ok (.aload 4, 2) := by decide +kernel
theorem own_d12_18 : decode jdk_65_method_133_code 18 = .ok (.iconst 0, 1) := by decide +kernel
theorem own_d12_19 : decode jdk_65_method_133_code 19 = .ok (.aload_n 0, 1) := by decide +kernel
theorem own_d12_20 : decode jdk_65_method_133_code 20 = .ok (.arraylength, 1) := by decide +kernel
theorem own_d12_21 : decode jdk_65_method_133_code 21 = .ok (.iload_n 1, 1) := by decide +kernel
theorem own_d12_22 : decode jdk_65_method_133_code 22 = .ok (.isub, 1) := by decide +kernel
theorem own_d12_23 : decode jdk_65_method_133_code 23 = .ok (.iload_n 3, 1) := by decide +kernel
theorem own_d12_24 : decode jdk_65_method_133_code 24 = .ok (.invokestatic 304, 3) := by decide +kernel
theorem own_d12_27 : decode jdk_65_method_133_code 27 = .ok (.invokestatic 150, 3) := by decide +kernel
theorem own_d12_30 : decode jdk_65_method_133_code 30 = .ok (.aload 4, 2) := by decide +kernel
theorem own_d12_32 : decode jdk_65_method_133_code 32 = .ok (.areturn, 1) := by decide +kernel
theorem own_pd2 : parseMethodDescriptor "(II)V" = some ⟨[.int, .int], none⟩ := by decide +kernel
theorem own_pd3 : parseMethodDescriptor "(II)I" = some ⟨[.int, .int], some .int⟩ := by decide +kernel
set_option maxHeartbeats 40000000 in
theorem own_mtcob_ef (m : MethodId) (x0 : Addr) (x1 : Int32) {nb : Nat} : entryFrame m #[(.ref x0), (.int x1), (.int (nb.toInt32))] 5 = mkF m 0 #[.val (.ref x0), .val (.int x1), .val (.int (nb.toInt32)), .unset, .unset] [] := by first | (simp [entryFrame, mkF, argsToLocals, Value.category, maxLocals]; done) | rfl
set_option maxRecDepth 65536 in
set_option maxHeartbeats 40000000 in
theorem own_mtcob (l : Launch) (Z : State) (a0 : Array Value) (hw : ∀ d ∈ tables_1, d.before a0 Z = true) (x0 : Addr) (x1 : Int32) (nb : Nat) (h0 : Heap) (n0 : Nat) (Z0 : n0 ≤ h0.size) (V_x0 : own_Av Z h0 x0 .byte (List.replicate nb (.int (0 : Int32)))) (hnb : nb ≤ 9) (hfr : 0 ≤ x1.toInt ∧ x1.toInt ≤ nb) :
    own_Met l Z (⟨"java/util/Arrays", "copyOfRangeByte", "([BII)[B"⟩ : MethodName) jdk_65_method_133_code 5 (some (.array .byte)) ({ frames := 1, cells := 1, slots := 9, locals := 40 } : Room) #[(.ref x0), (.int x1), (.int (nb.toInt32))] h0 (fun v h L => ∃ r : Addr, v = some (.ref r) ∧ h0.size ≤ r ∧ Fr n0 L ∧ Keep h0 h []) := by
  refine own_intro (plainFor_of_name own_pn3) ?_
  intro p e s m below meth c s₁ hx hby hml hown hnm hZ hret hlk X0 e0
  refine own_cast (own_mtcob_ef m x0 x1) ?_
  have N0 := Fr.nil n0
  have K0 : Keep h0 h0 [] := Keep.refl _ _
  refine own_via (T' := s₁) (g' := (mkF m 2 #[.val (.ref x0), .val (.int x1), .val (.int (nb.toInt32)), .unset, .unset] [(.int (nb.toInt32)), (.int x1)])) (fun t k => XS.iloadN X0.here hx rfl (hb hby own_d12_0) rfl (XS.iloadN X0.here hx rfl (hb hby own_d12_1) rfl k)) ?_
  obtain ⟨v1, T1, L1, X1, hQ1, st1⟩ := own_callSt (y := (⟨"java/util/Arrays", "checkLength", "(II)V"⟩ : MethodName)) (argsL := [(.int x1), (.int (nb.toInt32))]) (rest := []) X0 hx hZ hown (hw _ (List.mem_of_getElem? (i := 65) rfl)) (hw _ (List.mem_of_getElem? (i := 66) rfl)) (hw _ (List.mem_of_getElem? (i := 33) rfl)) (hw _ (List.mem_of_getElem? (i := 67) rfl)) (by decide) (own_mt13 l Z a0 hw x1 (nb.toInt32) h0 (own_r1 hnb hfr)) e0 (W := 0) (by decide) (by decide) (g := (mkF m 2 #[.val (.ref x0), .val (.int x1), .val (.int (nb.toInt32)), .unset, .unset] [(.int (nb.toInt32)), (.int x1)])) rfl (by rw [hml]; rfl) (lenOf own_pd2 rfl) rfl (by show 2 * 0 + _ ≤ _; exact Nat.le_of_eq rfl) (hb hby own_d12_2) (by decide) (by decide)
  obtain ⟨rfl, e1, rfl⟩ := hQ1
  have N1 := Fr.app N0 (Fr.nil n0)
  refine own_via (T' := T1) (g' := (mkF m 5 #[.val (.ref x0), .val (.int x1), .val (.int (nb.toInt32)), .unset, .unset] [])) st1 ?_
  refine own_via (T' := T1) (g' := (mkF m 10 #[.val (.ref x0), .val (.int x1), .val (.int (nb.toInt32)), .val (.int ((nb.toInt32) - x1)), .unset] [(.int ((nb.toInt32) - x1))])) (fun t k => XS.iloadN X1.here hx rfl (hb hby own_d12_5) rfl (XS.iloadN X1.here hx rfl (hb hby own_d12_6) rfl (XS.isub X1.here hx rfl (hb hby own_d12_7) rfl (XS.istoreN X1.here hx rfl (hb hby own_d12_8) rfl (l' := #[.val (.ref x0), .val (.int x1), .val (.int (nb.toInt32)), .val (.int ((nb.toInt32) - x1)), .unset]) rfl (XS.iloadN X1.here hx rfl (hb hby own_d12_9) rfl k))))) ?_
  obtain ⟨T2, h2, k2, X2, e2, E2, A2, EA2, st2⟩ := newPE (ad := "[B") X1 hx hZ (hw _ (List.mem_of_getElem? (i := 4) rfl)) e1 (g := (mkF m 10 #[.val (.ref x0), .val (.int x1), .val (.int (nb.toInt32)), .val (.int ((nb.toInt32) - x1)), .unset] [(.int ((nb.toInt32) - x1))])) rfl (hb hby own_d12_10) rfl (own_r2 hnb hfr).1 (cap := 9) (own_r2 hnb hfr).2 (by decide) (by decide) (by decide) (by decide)
  obtain ⟨b2, g2⟩ : ∃ z, z = h0.size := ⟨_, rfl⟩
  rw [← g2] at A2 EA2 st2
  have bd_b2 : h0.size ≤ b2 := Nat.le_of_eq g2.symm
  have ne_x0_b2 : x0 ≠ b2 := own_ne_of V_x0.lt bd_b2
  have ge_b2 : n0 ≤ b2 := Nat.le_trans Z0 bd_b2
  have Z2 : n0 ≤ h2.size := Nat.le_trans Z0 E2.1
  have bo_b2 : h0.size ≤ b2 := Nat.le_trans K0.1 bd_b2
  have K2 : Keep h0 h2 [] := K0.ext E2
  have V_x0_at3 := V_x0.ext E2
  have V2 : own_Av Z h2 b2 .byte (List.replicate (((nb.toInt32) - x1)).toNatClampNeg (.int (0 : Int32))) := own_Av.new A2
  refine own_via (T' := T2) (g' := (mkF m 12 #[.val (.ref x0), .val (.int x1), .val (.int (nb.toInt32)), .val (.int ((nb.toInt32) - x1)), .unset] [(.ref b2)])) st2 ?_
  refine own_via (T' := T2) (g' := (mkF m 20 #[.val (.ref x0), .val (.int x1), .val (.int (nb.toInt32)), .val (.int ((nb.toInt32) - x1)), .val (.ref b2)] [(.ref x0), (.int (0 : Int32)), (.ref b2), (.int x1), (.ref x0)])) (fun t k => XS.astore X2.here hx rfl (hb hby own_d12_12) rfl rfl (l' := #[.val (.ref x0), .val (.int x1), .val (.int (nb.toInt32)), .val (.int ((nb.toInt32) - x1)), .val (.ref b2)]) rfl (XS.aloadN X2.here hx rfl (hb hby own_d12_14) rfl rfl (XS.iloadN X2.here hx rfl (hb hby own_d12_15) rfl (XS.aload X2.here hx rfl (hb hby own_d12_16) rfl rfl (XS.iconst X2.here hx rfl (hb hby own_d12_18) (XS.aloadN X2.here hx rfl (hb hby own_d12_19) rfl rfl k)))))) ?_
  refine own_via (T' := T2) (g' := (mkF m 21 #[.val (.ref x0), .val (.int x1), .val (.int (nb.toInt32)), .val (.int ((nb.toInt32) - x1)), .val (.ref b2)] [(.int (nb.toInt32)), (.int (0 : Int32)), (.ref b2), (.int x1), (.ref x0)])) (own_alen X2 hx hZ e2 V_x0_at3 (n := (nb.toInt32)) (by rw [List.length_replicate]) (g := (mkF m 20 #[.val (.ref x0), .val (.int x1), .val (.int (nb.toInt32)), .val (.int ((nb.toInt32) - x1)), .val (.ref b2)] [(.ref x0), (.int (0 : Int32)), (.ref b2), (.int x1), (.ref x0)])) rfl rfl (hb hby own_d12_20)) ?_
  refine own_via (T' := T2) (g' := (mkF m 24 #[.val (.ref x0), .val (.int x1), .val (.int (nb.toInt32)), .val (.int ((nb.toInt32) - x1)), .val (.ref b2)] [(.int ((nb.toInt32) - x1)), (.int ((nb.toInt32) - x1)), (.int (0 : Int32)), (.ref b2), (.int x1), (.ref x0)])) (fun t k => XS.iloadN X2.here hx rfl (hb hby own_d12_21) rfl (XS.isub X2.here hx rfl (hb hby own_d12_22) rfl (XS.iloadN X2.here hx rfl (hb hby own_d12_23) rfl k))) ?_
  obtain ⟨v4, T4, L4, X4, hQ4, st4⟩ := own_callSt (y := (⟨"java/lang/Math", "min", "(II)I"⟩ : MethodName)) (argsL := [(.int ((nb.toInt32) - x1)), (.int ((nb.toInt32) - x1))]) (rest := [(.int (0 : Int32)), (.ref b2), (.int x1), (.ref x0)]) X2 hx hZ hown (hw _ (List.mem_of_getElem? (i := 68) rfl)) (hw _ (List.mem_of_getElem? (i := 69) rfl)) (hw _ (List.mem_of_getElem? (i := 70) rfl)) (hw _ (List.mem_of_getElem? (i := 71) rfl)) (by decide) (own_mt14 l Z a0 hw ((nb.toInt32) - x1) ((nb.toInt32) - x1) h2) e2 (W := 4) (by decide) (by decide) (g := (mkF m 24 #[.val (.ref x0), .val (.int x1), .val (.int (nb.toInt32)), .val (.int ((nb.toInt32) - x1)), .val (.ref b2)] [(.int ((nb.toInt32) - x1)), (.int ((nb.toInt32) - x1)), (.int (0 : Int32)), (.ref b2), (.int x1), (.ref x0)])) rfl (by rw [hml]; rfl) (lenOf own_pd3 rfl) rfl (by show 2 * 0 + _ ≤ _; exact Nat.le_of_eq rfl) (hb hby own_d12_24) (by decide) (by decide)
  obtain ⟨rfl, e4, rfl⟩ := hQ4
  have N4 := Fr.app N1 (Fr.nil n0)
  refine own_via (T' := T4) (g' := (mkF m 27 #[.val (.ref x0), .val (.int x1), .val (.int (nb.toInt32)), .val (.int ((nb.toInt32) - x1)), .val (.ref b2)] [(.int (own_min ((nb.toInt32) - x1) ((nb.toInt32) - x1))), (.int (0 : Int32)), (.ref b2), (.int x1), (.ref x0)])) st4 ?_
  obtain ⟨ka5, Aa5⟩ := V_x0_at3.arv (dv := .int 0) own_repfit
  obtain ⟨kb5, Ab5⟩ := V2.arv (dv := .int 0) own_repfit
  obtain ⟨T5, h5, L5, X5, e5, N5, K5q, -, st5⟩ := cpA X4 hx hZ hown (hw _ (List.mem_of_getElem? (i := 72) rfl)) (hw _ (List.mem_of_getElem? (i := 75) rfl)) (hw _ (List.mem_of_getElem? (i := 73) rfl)) (hw _ (List.mem_of_getElem? (i := 74) rfl)) e4 Aa5 Ab5 (Or.inl ⟨rfl, rfl⟩) (own_cp1 hnb hfr) (by decide) (own_cp2 hnb hfr) (own_cp3 hnb hfr) (own_cp4 hnb hfr) rfl (own_cp5 hnb hfr) N4 ge_b2 (g := (mkF m 27 #[.val (.ref x0), .val (.int x1), .val (.int (nb.toInt32)), .val (.int ((nb.toInt32) - x1)), .val (.ref b2)] [(.int (own_min ((nb.toInt32) - x1) ((nb.toInt32) - x1))), (.int (0 : Int32)), (.ref b2), (.int x1), (.ref x0)])) rfl (by rw [hml]; rfl) rfl (hb hby own_d12_27) (by decide) (W := 0) (by show 2 * 0 + _ ≤ _; exact Nat.le_of_eq rfl) (by decide)
  have V_x0_at6 := V_x0_at3.keep K5q (ninS ne_x0_b2 nin0)
  have EA2_at7 := EA2.keep K5q
  have Z5 : n0 ≤ h5.size := Nat.le_trans Z2 K5q.1
  have K5 : Keep h0 h5 [] := K2.trans K5q (allS (Or.inr bo_b2) all0)
  refine own_via (T' := T5) (g' := (mkF m 30 #[.val (.ref x0), .val (.int x1), .val (.int (nb.toInt32)), .val (.int ((nb.toInt32) - x1)), .val (.ref b2)] [])) st5 ?_
  refine own_via (T' := T5) (g' := (mkF m 32 #[.val (.ref x0), .val (.int x1), .val (.int (nb.toInt32)), .val (.int ((nb.toInt32) - x1)), .val (.ref b2)] [(.ref b2)])) (fun t k => XS.aload X5.here hx rfl (hb hby own_d12_30) rfl rfl k) ?_
  refine own_retA X5 hx hlk hret rfl rfl (hb hby own_d12_32) (by decide) (by decide) ?_
  rw [e5]; exact ⟨b2, rfl, bo_b2, N5, K5⟩
theorem own_d7_0 : decode jdk_65_method_132_code 0 = .ok (.iload_n 1, 1) := by decide +kernel
theorem own_d7_1 : decode jdk_65_method_132_code 1 = .ok (.ifCond .ne 9, 3) := by decide +kernel
theorem own_d7_4 : decode jdk_65_method_132_code 4 = .ok (.iload_n 2, 1) := by decide +kernel
theorem own_d7_5 : decode jdk_65_method_132_code 5 = .ok (.aload_n 0, 1) := by decide +kernel
theorem own_d7_6 : decode jdk_65_method_132_code 6 = .ok (.arraylength, 1) := by decide +kernel
theorem own_d7_7 : decode jdk_65_method_132_code 7 = .ok (.if_icmp .eq 10, 3) := by decide +kernel
theorem own_d7_10 : decode jdk_65_method_132_code 10 = .ok (.aload_n 0, 1) := by decide +kernel
theorem own_d7_11 : decode jdk_65_method_132_code 11 = .ok (.iload_n 1, 1) := by decide +kernel
theorem own_d7_12 : decode jdk_65_method_132_code 12 = .ok (.iload_n 2, 1) := by decide +kernel
theorem own_d7_13 : decode jdk_65_method_132_code 13 = .ok (.invokestatic 339, 3) := by decide +kernel
theorem own_d7_16 : decode jdk_65_method_132_code 16 = .ok (.areturn, 1) := by decide +kernel
theorem own_d7_17 : decode jdk_65_method_132_code 17 = .ok (.aload_n 0, 1) := by decide +kernel
theorem own_d7_18 : decode jdk_65_method_132_code 18 = .ok (.invokevirtual 310, 3) := by decide +kernel
theorem own_d7_21 : decode jdk_65_method_132_code 21 = .ok (.checkcast 311, 3) := by decide +kernel
theorem own_d7_24 : decode jdk_65_method_132_code 24 = .ok (.areturn, 1) := by decide +kernel
theorem own_pd4 : parseMethodDescriptor "([BII)[B" = some ⟨[(.array .byte), .int, .int], some (.array .byte)⟩ := by decide +kernel
set_option maxHeartbeats 40000000 in
theorem own_mtcor_ef (m : MethodId) (x0 : Addr) (x1 : Int32) {nb : Nat} : entryFrame m #[(.ref x0), (.int x1), (.int (nb.toInt32))] 3 = mkF m 0 #[.val (.ref x0), .val (.int x1), .val (.int (nb.toInt32))] [] := by first | (simp [entryFrame, mkF, argsToLocals, Value.category, maxLocals]; done) | rfl
set_option maxRecDepth 65536 in
set_option maxHeartbeats 40000000 in
theorem own_mtcor (l : Launch) (Z : State) (a0 : Array Value) (hw : ∀ d ∈ tables_1, d.before a0 Z = true) (x0 : Addr) (x1 : Int32) (nb : Nat) (h0 : Heap) (n0 : Nat) (Z0 : n0 ≤ h0.size) (V_x0 : own_Av Z h0 x0 .byte (List.replicate nb (.int (0 : Int32)))) (E_x0 : Exa Z h0 x0 "[B") (hnb : nb ≤ 9) (hfr : 0 ≤ x1.toInt ∧ x1.toInt ≤ nb) :
    own_Met l Z (⟨"java/util/Arrays", "copyOfRange", "([BII)[B"⟩ : MethodName) jdk_65_method_132_code 3 (some (.array .byte)) ({ frames := 2, cells := 1, slots := 9, locals := 56 } : Room) #[(.ref x0), (.int x1), (.int (nb.toInt32))] h0 (fun v h L => ∃ r : Addr, v = some (.ref r) ∧ h0.size ≤ r ∧ Fr n0 L ∧ Keep h0 h []) := by
  refine own_intro (plainFor_of_name own_pn3) ?_
  intro p e s m below meth c s₁ hx hby hml hown hnm hZ hret hlk X0 e0
  refine own_cast (own_mtcor_ef m x0 x1) ?_
  have N0 := Fr.nil n0
  have K0 : Keep h0 h0 [] := Keep.refl _ _
  refine own_via (T' := s₁) (g' := (mkF m 1 #[.val (.ref x0), .val (.int x1), .val (.int (nb.toInt32))] [(.int x1)])) (fun t k => XS.iloadN X0.here hx rfl (hb hby own_d7_0) rfl k) ?_
  by_cases hc1 : x1 = (0 : Int32)
  · refine own_via (T' := s₁) (g' := (mkF m 6 #[.val (.ref x0), .val (.int x1), .val (.int (nb.toInt32))] [(.ref x0), (.int (nb.toInt32))])) (fun t k => XS.ifNo X0.here hx rfl (hb hby own_d7_1) rfl ((if0 _ _).trans (teq hc1).2) (XS.iloadN X0.here hx rfl (hb hby own_d7_4) rfl (XS.aloadN X0.here hx rfl (hb hby own_d7_5) rfl rfl k))) ?_
    refine own_via (T' := s₁) (g' := (mkF m 7 #[.val (.ref x0), .val (.int x1), .val (.int (nb.toInt32))] [(.int (nb.toInt32)), (.int (nb.toInt32))])) (own_alen X0 hx hZ e0 V_x0 (n := (nb.toInt32)) (by rw [List.length_replicate]) (g := (mkF m 6 #[.val (.ref x0), .val (.int x1), .val (.int (nb.toInt32))] [(.ref x0), (.int (nb.toInt32))])) rfl rfl (hb hby own_d7_6)) ?_
    refine own_via (T' := s₁) (g' := (mkF m 18 #[.val (.ref x0), .val (.int x1), .val (.int (nb.toInt32))] [(.ref x0)])) (fun t k => XS.icmpYes X0.here hx rfl (pc0 := 7) (pc' := 17) rfl (hb hby own_d7_7) rfl (teq (rfl : (nb.toInt32) = (nb.toInt32))).1 (by decide) (by decide) (XS.aloadN X0.here hx rfl (hb hby own_d7_17) rfl rfl k)) ?_
    obtain ⟨T2, h2, X2, e2, E2, V2, EA2, st2⟩ := own_clone X0 hx hZ hown (hw _ (List.mem_of_getElem? (i := 35) rfl)) (hw _ (List.mem_of_getElem? (i := 36) rfl)) (hw _ (List.mem_of_getElem? (i := 40) rfl)) (hw _ (List.mem_of_getElem? (i := 38) rfl)) (hw _ (List.mem_of_getElem? (i := 39) rfl)) (hw _ (List.mem_of_getElem? (i := 41) rfl)) e0 V_x0 own_repfit E_x0 (g := (mkF m 18 #[.val (.ref x0), .val (.int x1), .val (.int (nb.toInt32))] [(.ref x0)])) rfl (by rw [hml]; rfl) rfl (hb hby own_d7_18) (by decide) (W := 0) (cap := 9) (by show 2 * 0 + _ ≤ _; exact Nat.le_of_eq rfl) (by decide) (by rw [List.length_replicate]; exact hnb) (by decide) (by decide)
    obtain ⟨b2, g2⟩ : ∃ z, z = h0.size := ⟨_, rfl⟩
    rw [← g2] at V2 EA2 st2
    have bd_b2 : h0.size ≤ b2 := Nat.le_of_eq g2.symm
    have ne_x0_b2 : x0 ≠ b2 := own_ne_of V_x0.lt bd_b2
    have ge_b2 : n0 ≤ b2 := Nat.le_trans Z0 bd_b2
    have Z2 : n0 ≤ h2.size := Nat.le_trans Z0 E2.1
    have bo_b2 : h0.size ≤ b2 := Nat.le_trans K0.1 bd_b2
    have K2 : Keep h0 h2 [] := K0.ext E2
    have V_x0_at3 := V_x0.ext E2
    have E_x0_at4 := E_x0.ext E2
    refine own_via (T' := T2) (g' := (mkF m 21 #[.val (.ref x0), .val (.int x1), .val (.int (nb.toInt32))] [(.ref b2)])) st2 ?_
    obtain ⟨T5, X5, e5, st5⟩ := castY X2 hx hZ hown (hw _ (List.mem_of_getElem? (i := 42) rfl)) e2 (Ins.self EA2) (g := (mkF m 21 #[.val (.ref x0), .val (.int x1), .val (.int (nb.toInt32))] [(.ref b2)])) rfl rfl (hb hby own_d7_21)
    refine own_via (T' := T5) (g' := (mkF m 24 #[.val (.ref x0), .val (.int x1), .val (.int (nb.toInt32))] [(.ref b2)])) st5 ?_
    refine own_retA X5 hx hlk hret rfl rfl (hb hby own_d7_24) (by decide) (by decide) ?_
    rw [e5]; exact ⟨b2, rfl, bo_b2, N0, K2⟩
  · refine own_via (T' := s₁) (g' := (mkF m 13 #[.val (.ref x0), .val (.int x1), .val (.int (nb.toInt32))] [(.int (nb.toInt32)), (.int x1), (.ref x0)])) (fun t k => XS.ifYes X0.here hx rfl (pc0 := 1) (pc' := 10) rfl (hb hby own_d7_1) rfl ((if0 _ _).trans (feq hc1).2) (by decide) (by decide) (XS.aloadN X0.here hx rfl (hb hby own_d7_10) rfl rfl (XS.iloadN X0.here hx rfl (hb hby own_d7_11) rfl (XS.iloadN X0.here hx rfl (hb hby own_d7_12) rfl k)))) ?_
    obtain ⟨v6, T6, L6, X6, hQ6, st6⟩ := own_callSt (y := (⟨"java/util/Arrays", "copyOfRangeByte", "([BII)[B"⟩ : MethodName)) (argsL := [(.ref x0), (.int x1), (.int (nb.toInt32))]) (rest := []) X0 hx hZ hown (hw _ (List.mem_of_getElem? (i := 62) rfl)) (hw _ (List.mem_of_getElem? (i := 63) rfl)) (hw _ (List.mem_of_getElem? (i := 33) rfl)) (hw _ (List.mem_of_getElem? (i := 64) rfl)) (by decide) (own_mtcob l Z a0 hw x0 x1 nb h0 n0 Z0 V_x0 hnb hfr) e0 (W := 0) (by decide) (by decide) (g := (mkF m 13 #[.val (.ref x0), .val (.int x1), .val (.int (nb.toInt32))] [(.int (nb.toInt32)), (.int x1), (.ref x0)])) rfl (by rw [hml]; rfl) (lenOf own_pd4 rfl) rfl (by show 2 * 0 + _ ≤ _; exact Nat.le_of_eq rfl) (hb hby own_d7_13) (by decide) (by decide)
    obtain ⟨r6, rfl, bd6, Nq6, K6q⟩ := hQ6
    have N6 := Fr.app N0 Nq6
    have ne_x0_r6 : x0 ≠ r6 := own_ne_of V_x0.lt bd6
    have ge_r6 : n0 ≤ r6 := Nat.le_trans Z0 bd6
    have bo_r6 : h0.size ≤ r6 := Nat.le_trans K0.1 bd6
    have K6 : Keep h0 T6.heap [] := K0.trans K6q all0
    have Z6 : n0 ≤ T6.heap.size := Nat.le_trans Z0 K6q.1
    have V_x0_at7 := V_x0.keep K6q nin0
    have E_x0_at8 := E_x0.keep K6q
    refine own_via (T' := T6) (g' := (mkF m 16 #[.val (.ref x0), .val (.int x1), .val (.int (nb.toInt32))] [(.ref r6)])) st6 ?_
    refine own_retA X6 hx hlk hret rfl rfl (hb hby own_d7_16) (by decide) (by decide) ?_
    exact ⟨r6, rfl, bo_r6, N6, K6⟩
theorem own_d6_0 : decode prog_128_method_8_code 0 = .ok (.aload_n 0, 1) := by decide +kernel
theorem own_d6_1 : decode prog_128_method_8_code 1 = .ok (.getfield 7, 3) := by decide +kernel
theorem own_d6_4 : decode prog_128_method_8_code 4 = .ok (.aload_n 0, 1) := by decide +kernel
theorem own_d6_5 : decode prog_128_method_8_code 5 = .ok (.getfield 19, 3) := by decide +kernel
theorem own_d6_8 : decode prog_128_method_8_code 8 = .ok (.aload_n 0, 1) := by decide +kernel
theorem own_d6_9 : decode prog_128_method_8_code 9 = .ok (.getfield 7, 3) := by decide +kernel
theorem own_d6_12 : decode prog_128_method_8_code 12 = .ok (.arraylength, 1) := by decide +kernel
theorem own_d6_13 : decode prog_128_method_8_code 13 = .ok (.invokestatic 37, 3) := by decide +kernel
theorem own_d6_16 : decode prog_128_method_8_code 16 = .ok (.astore_n 1, 1) := by decide +kernel
theorem own_d6_17 : decode prog_128_method_8_code 17 = .ok (.aload_n 0, 1) := by decide +kernel
theorem own_d6_18 : decode prog_128_method_8_code 18 = .ok (.aload_n 0, 1) := by decide +kernel
theorem own_d6_19 : decode prog_128_method_8_code 19 = .ok (.getfield 7, 3) := by decide +kernel
theorem own_d6_22 : decode prog_128_method_8_code 22 = .ok (.arraylength, 1) := by decide +kernel
theorem own_d6_23 : decode prog_128_method_8_code 23 = .ok (.putfield 19, 3) := by decide +kernel
theorem own_d6_26 : decode prog_128_method_8_code 26 = .ok (.aload_n 1, 1) := by decide +kernel
theorem own_d6_27 : decode prog_128_method_8_code 27 = .ok (.areturn, 1) := by decide +kernel
set_option maxHeartbeats 40000000 in
theorem own_mt6_ef (m : MethodId) (x0 : Addr) : entryFrame m #[(.ref x0)] 2 = mkF m 0 #[.val (.ref x0), .unset] [] := by first | (simp [entryFrame, mkF, argsToLocals, Value.category, maxLocals]; done) | rfl
set_option maxRecDepth 65536 in
set_option maxHeartbeats 40000000 in
theorem own_mt6 (l : Launch) (Z : State) (a0 : Array Value) (hw : ∀ d ∈ tables_1, d.before a0 Z = true) (x0 : Addr) (bb : Addr) (pp : Int32) (nb : Nat) (h0 : Heap) (n0 : Nat) (Z0 : n0 ≤ h0.size) (ge_x0 : n0 ≤ x0) (ne_x0_bb : x0 ≠ bb) (E_x0 : Exa Z h0 x0 "com/example/concordia/concordia/wire/FrameReader") (F_body : Fld Z h0 x0 "com/example/concordia/concordia/wire/FrameReader" "body" "[B" (.ref bb)) (F_pos : Fld Z h0 x0 "com/example/concordia/concordia/wire/FrameReader" "position" "I" (.int pp)) (V_bb : own_Av Z h0 bb .byte (List.replicate nb (.int (0 : Int32)))) (E_bb : Exa Z h0 bb "[B") (hnb : nb ≤ 9) (hpp : 0 ≤ pp.toInt ∧ pp.toInt ≤ nb) :
    own_Met l Z (⟨"com/example/concordia/concordia/wire/FrameReader", "readRest", "()[B"⟩ : MethodName) prog_128_method_8_code 2 (some (.array .byte)) ({ frames := 3, cells := 1, slots := 9, locals := 70 } : Room) #[(.ref x0)] h0 (fun v h L => ∃ r : Addr, v = some (.ref r) ∧ Fr n0 L ∧ Keep h0 h [x0] ∧ Exa Z h x0 "com/example/concordia/concordia/wire/FrameReader" ∧ Fld Z h x0 "com/example/concordia/concordia/wire/FrameReader" "body" "[B" (.ref bb) ∧ Fld Z h x0 "com/example/concordia/concordia/wire/FrameReader" "position" "I" (.int (nb.toInt32))) := by
  refine own_intro (plainFor_of_name own_pn1) ?_
  intro p e s m below meth c s₁ hx hby hml hown hnm hZ hret hlk X0 e0
  refine own_cast (own_mt6_ef m x0) ?_
  have N0 := Fr.nil n0
  have K0 : Keep h0 h0 [x0] := Keep.refl _ _
  refine own_via (T' := s₁) (g' := (mkF m 1 #[.val (.ref x0), .unset] [(.ref x0)])) (fun t k => XS.aloadN X0.here hx rfl (hb hby own_d6_0) rfl rfl k) ?_
  obtain ⟨T1, X1, e1, st1⟩ := getF X0 hx hZ hown (host := "") (Or.inl (hw _ (List.mem_of_getElem? (i := 14) rfl))) Via.refl e0 F_body (g := (mkF m 1 #[.val (.ref x0), .unset] [(.ref x0)])) rfl rfl (hb hby own_d6_1)
  refine own_via (T' := T1) (g' := (mkF m 4 #[.val (.ref x0), .unset] [(.ref bb)])) st1 ?_
  refine own_via (T' := T1) (g' := (mkF m 5 #[.val (.ref x0), .unset] [(.ref x0), (.ref bb)])) (fun t k => XS.aloadN X1.here hx rfl (hb hby own_d6_4) rfl rfl k) ?_
  obtain ⟨T2, X2, e2, st2⟩ := getF X1 hx hZ hown (host := "") (Or.inl (hw _ (List.mem_of_getElem? (i := 21) rfl))) Via.refl e1 F_pos (g := (mkF m 5 #[.val (.ref x0), .unset] [(.ref x0), (.ref bb)])) rfl rfl (hb hby own_d6_5)
  refine own_via (T' := T2) (g' := (mkF m 8 #[.val (.ref x0), .unset] [(.int pp), (.ref bb)])) st2 ?_
  refine own_via (T' := T2) (g' := (mkF m 9 #[.val (.ref x0), .unset] [(.ref x0), (.int pp), (.ref bb)])) (fun t k => XS.aloadN X2.here hx rfl (hb hby own_d6_8) rfl rfl k) ?_
  obtain ⟨T3, X3, e3, st3⟩ := getF X2 hx hZ hown (host := "") (Or.inl (hw _ (List.mem_of_getElem? (i := 14) rfl))) Via.refl e2 F_body (g := (mkF m 9 #[.val (.ref x0), .unset] [(.ref x0), (.int pp), (.ref bb)])) rfl rfl (hb hby own_d6_9)
  refine own_via (T' := T3) (g' := (mkF m 12 #[.val (.ref x0), .unset] [(.ref bb), (.int pp), (.ref bb)])) st3 ?_
  refine own_via (T' := T3) (g' := (mkF m 13 #[.val (.ref x0), .unset] [(.int (nb.toInt32)), (.int pp), (.ref bb)])) (own_alen X3 hx hZ e3 V_bb (n := (nb.toInt32)) (by rw [List.length_replicate]) (g := (mkF m 12 #[.val (.ref x0), .unset] [(.ref bb), (.int pp), (.ref bb)])) rfl rfl (hb hby own_d6_12)) ?_
  obtain ⟨v4, T4, L4, X4, hQ4, st4⟩ := own_callSt (y := (⟨"java/util/Arrays", "copyOfRange", "([BII)[B"⟩ : MethodName)) (argsL := [(.ref bb), (.int pp), (.int (nb.toInt32))]) (rest := []) X3 hx hZ hown (hw _ (List.mem_of_getElem? (i := 31) rfl)) (hw _ (List.mem_of_getElem? (i := 32) rfl)) (hw _ (List.mem_of_getElem? (i := 33) rfl)) (hw _ (List.mem_of_getElem? (i := 34) rfl)) (by decide) (own_mtcor l Z a0 hw bb pp nb h0 n0 Z0 V_bb E_bb hnb hpp) e3 (W := 0) (by decide) (by decide) (g := (mkF m 13 #[.val (.ref x0), .unset] [(.int (nb.toInt32)), (.int pp), (.ref bb)])) rfl (by rw [hml]; rfl) (lenOf own_pd4 rfl) rfl (by show 2 * 0 + _ ≤ _; exact Nat.le_of_eq rfl) (hb hby own_d6_13) (by decide) (by decide)
  obtain ⟨r4, rfl, bd4, Nq4, K4q⟩ := hQ4
  have N4 := Fr.app N0 Nq4
  have ne_x0_r4 : x0 ≠ r4 := own_ne_of E_x0.lt bd4
  have ne_bb_r4 : bb ≠ r4 := own_ne_of V_bb.lt bd4
  have ge_r4 : n0 ≤ r4 := Nat.le_trans Z0 bd4
  have bo_r4 : h0.size ≤ r4 := Nat.le_trans K0.1 bd4
  have K4 : Keep h0 T4.heap [x0] := K0.trans K4q all0
  have Z4 : n0 ≤ T4.heap.size := Nat.le_trans Z0 K4q.1
  have E_x0_at5 := E_x0.keep K4q
  have F_body_at6 := F_body.keep K4q nin0
  have F_pos_at7 := F_pos.keep K4q nin0
  have V_bb_at8 := V_bb.keep K4q nin0
  have E_bb_at9 := E_bb.keep K4q
  refine own_via (T' := T4) (g' := (mkF m 16 #[.val (.ref x0), .unset] [(.ref r4)])) st4 ?_
  refine own_via (T' := T4) (g' := (mkF m 19 #[.val (.ref x0), .val (.ref r4)] [(.ref x0), (.ref x0)])) (fun t k => XS.astoreN X4.here hx rfl (hb hby own_d6_16) rfl rfl (l' := #[.val (.ref x0), .val (.ref r4)]) rfl (XS.aloadN X4.here hx rfl (hb hby own_d6_17) rfl rfl (XS.aloadN X4.here hx rfl (hb hby own_d6_18) rfl rfl k))) ?_
  obtain ⟨T10, X10, e10, st10⟩ := getF X4 hx hZ hown (host := "") (Or.inl (hw _ (List.mem_of_getElem? (i := 14) rfl))) Via.refl rfl F_body_at6 (g := (mkF m 19 #[.val (.ref x0), .val (.ref r4)] [(.ref x0), (.ref x0)])) rfl rfl (hb hby own_d6_19)
  refine own_via (T' := T10) (g' := (mkF m 22 #[.val (.ref x0), .val (.ref r4)] [(.ref bb), (.ref x0)])) st10 ?_
  refine own_via (T' := T10) (g' := (mkF m 23 #[.val (.ref x0), .val (.ref r4)] [(.int (nb.toInt32)), (.ref x0)])) (own_alen X10 hx hZ e10 V_bb_at8 (n := (nb.toInt32)) (by rw [List.length_replicate]) (g := (mkF m 22 #[.val (.ref x0), .val (.ref r4)] [(.ref bb), (.ref x0)])) rfl rfl (hb hby own_d6_22)) ?_
  obtain ⟨T11, h11, X11, e11, W11, st11⟩ := putF X10 hx hZ hown (host := "") (Or.inl (hw _ (List.mem_of_getElem? (i := 21) rfl))) Via.refl e10 F_pos_at7 E_x0_at5 (Or.inl (hw _ (List.mem_of_getElem? (i := 22) rfl))) (hw _ (List.mem_of_getElem? (i := 6) rfl)) (ty := .int) (by decide) rfl rfl (g := (mkF m 23 #[.val (.ref x0), .val (.ref r4)] [(.int (nb.toInt32)), (.ref x0)])) rfl rfl (hb hby own_d6_23)
  have Fw11 := F_pos_at7.same W11
  have E_x0_at12 := E_x0_at5.wr W11
  have F_body_at13 := F_body_at6.other W11 (Or.inr (slot_ne (Or.inr (hw _ (List.mem_of_getElem? (i := 15) rfl))) (Or.inl (hw _ (List.mem_of_getElem? (i := 22) rfl))) (by decide) (t := (.array .byte)) (t' := .int) (by decide) (by decide)))
  have V_bb_at14 := V_bb_at8.other W11 (Ne.symm ne_x0_bb)
  have E_bb_at15 := E_bb_at9.wr W11
  have N11 := Fr.snoc X11 N4 ge_x0
  have Z11 : n0 ≤ h11.size := Nat.le_trans Z4 (Nat.le_of_eq W11.size.symm)
  have K11 : Keep h0 h11 [x0] := K4.wr W11 (Or.inl (List.mem_of_getElem? (i := 0) rfl))
  refine own_via (T' := T11) (g' := (mkF m 26 #[.val (.ref x0), .val (.ref r4)] [])) st11 ?_
  refine own_via (T' := T11) (g' := (mkF m 27 #[.val (.ref x0), .val (.ref r4)] [(.ref r4)])) (fun t k => XS.aloadN X11.here hx rfl (hb hby own_d6_26) rfl rfl k) ?_
  refine own_retA X11 hx hlk hret rfl rfl (hb hby own_d6_27) (by decide) (by decide) ?_
  rw [e11]; exact ⟨r4, rfl, N11, K11, E_x0_at12, F_body_at13, Fw11⟩
theorem own_d5_0 : decode method_4_code 0 = .ok (.iload_n 3, 1) := by decide +kernel
theorem own_d5_1 : decode method_4_code 1 = .ok (.iload_n 2, 1) := by decide +kernel
theorem own_d5_2 : decode method_4_code 2 = .ok (.isub, 1) := by decide +kernel
theorem own_d5_3 : decode method_4_code 3 = .ok (.istore 4, 2) := by decide +kernel
theorem own_d5_5 : decode method_4_code 5 = .ok (.iload_n 1, 1) := by decide +kernel
theorem own_d5_6 : decode method_4_code 6 = .ok (.iconst 1, 1) := by decide +kernel
theorem own_d5_7 : decode method_4_code 7 = .ok (.if_icmp .ne 18, 3) := by decide +kernel
theorem own_d5_10 : decode method_4_code 10 = .ok (.iload 4, 2) := by decide +kernel
theorem own_d5_12 : decode method_4_code 12 = .ok (.iconst 1, 1) := by decide +kernel
theorem own_d5_13 : decode method_4_code 13 = .ok (.if_icmp .lt 12, 3) := by decide +kernel
theorem own_d5_16 : decode method_4_code 16 = .ok (.aload_n 0, 1) := by decide +kernel
theorem own_d5_17 : decode method_4_code 17 = .ok (.invokevirtual 26, 3) := by decide +kernel
theorem own_d5_20 : decode method_4_code 20 = .ok (.pop, 1) := by decide +kernel
theorem own_d5_21 : decode method_4_code 21 = .ok (.iload_n 2, 1) := by decide +kernel
theorem own_d5_22 : decode method_4_code 22 = .ok (.iconst 1, 1) := by decide +kernel
theorem own_d5_23 : decode method_4_code 23 = .ok (.iadd, 1) := by decide +kernel
theorem own_d5_24 : decode method_4_code 24 = .ok (.ireturn, 1) := by decide +kernel
theorem own_d5_25 : decode method_4_code 25 = .ok (.iload_n 1, 1) := by decide +kernel
theorem own_d5_26 : decode method_4_code 26 = .ok (.iconst 2, 1) := by decide +kernel
theorem own_d5_27 : decode method_4_code 27 = .ok (.if_icmp .ne 18, 3) := by decide +kernel
theorem own_d5_30 : decode method_4_code 30 = .ok (.iload 4, 2) := by decide +kernel
theorem own_d5_32 : decode method_4_code 32 = .ok (.iconst 4, 1) := by decide +kernel
theorem own_d5_33 : decode method_4_code 33 = .ok (.if_icmp .lt 12, 3) := by decide +kernel
theorem own_d5_36 : decode method_4_code 36 = .ok (.aload_n 0, 1) := by decide +kernel
theorem own_d5_37 : decode method_4_code 37 = .ok (.invokevirtual 29, 3) := by decide +kernel
theorem own_d5_40 : decode method_4_code 40 = .ok (.pop, 1) := by decide +kernel
theorem own_d5_41 : decode method_4_code 41 = .ok (.iload_n 2, 1) := by decide +kernel
theorem own_d5_42 : decode method_4_code 42 = .ok (.iconst 4, 1) := by decide +kernel
theorem own_d5_43 : decode method_4_code 43 = .ok (.iadd, 1) := by decide +kernel
theorem own_d5_44 : decode method_4_code 44 = .ok (.ireturn, 1) := by decide +kernel
theorem own_d5_45 : decode method_4_code 45 = .ok (.iload_n 1, 1) := by decide +kernel
theorem own_d5_46 : decode method_4_code 46 = .ok (.iconst 3, 1) := by decide +kernel
theorem own_d5_47 : decode method_4_code 47 = .ok (.if_icmp .ne 20, 3) := by decide +kernel
theorem own_d5_50 : decode method_4_code 50 = .ok (.iload 4, 2) := by decide +kernel
theorem own_d5_52 : decode method_4_code 52 = .ok (.bipush 8, 2) := by decide +kernel
theorem own_d5_54 : decode method_4_code 54 = .ok (.if_icmp .lt 13, 3) := by decide +kernel
theorem own_d5_57 : decode method_4_code 57 = .ok (.aload_n 0, 1) := by decide +kernel
theorem own_d5_58 : decode method_4_code 58 = .ok (.invokevirtual 33, 3) := by decide +kernel
theorem own_d5_61 : decode method_4_code 61 = .ok (.pop2, 1) := by decide +kernel
theorem own_d5_62 : decode method_4_code 62 = .ok (.iload_n 2, 1) := by decide +kernel
theorem own_d5_63 : decode method_4_code 63 = .ok (.bipush 8, 2) := by decide +kernel
theorem own_d5_65 : decode method_4_code 65 = .ok (.iadd, 1) := by decide +kernel
theorem own_d5_66 : decode method_4_code 66 = .ok (.ireturn, 1) := by decide +kernel
theorem own_d5_67 : decode method_4_code 67 = .ok (.iload_n 1, 1) := by decide +kernel
theorem own_d5_68 : decode method_4_code 68 = .ok (.iconst 4, 1) := by decide +kernel
theorem own_d5_69 : decode method_4_code 69 = .ok (.if_icmp .ne 10, 3) := by decide +kernel
theorem own_d5_72 : decode method_4_code 72 = .ok (.aload_n 0, 1) := by decide +kernel
theorem own_d5_73 : decode method_4_code 73 = .ok (.invokevirtual 37, 3) := by decide +kernel
theorem own_d5_76 : decode method_4_code 76 = .ok (.pop, 1) := by decide +kernel
theorem own_d5_77 : decode method_4_code 77 = .ok (.iload_n 3, 1) := by decide +kernel
theorem own_d5_78 : decode method_4_code 78 = .ok (.ireturn, 1) := by decide +kernel
theorem own_d5_79 : decode method_4_code 79 = .ok (.iload_n 1, 1) := by decide +kernel
theorem own_d5_80 : decode method_4_code 80 = .ok (.iconst 5, 1) := by decide +kernel
theorem own_d5_81 : decode method_4_code 81 = .ok (.if_icmp .lt 18, 3) := by decide +kernel
theorem own_d5_84 : decode method_4_code 84 = .ok (.iload 4, 2) := by decide +kernel
theorem own_d5_86 : decode method_4_code 86 = .ok (.iconst 1, 1) := by decide +kernel
theorem own_d5_87 : decode method_4_code 87 = .ok (.if_icmp .lt 12, 3) := by decide +kernel
theorem own_d5_90 : decode method_4_code 90 = .ok (.aload_n 0, 1) := by decide +kernel
theorem own_d5_91 : decode method_4_code 91 = .ok (.invokevirtual 26, 3) := by decide +kernel
theorem own_d5_94 : decode method_4_code 94 = .ok (.pop, 1) := by decide +kernel
theorem own_d5_95 : decode method_4_code 95 = .ok (.iload_n 2, 1) := by decide +kernel
theorem own_d5_96 : decode method_4_code 96 = .ok (.iconst 1, 1) := by decide +kernel
theorem own_d5_97 : decode method_4_code 97 = .ok (.iadd, 1) := by decide +kernel
theorem own_d5_98 : decode method_4_code 98 = .ok (.ireturn, 1) := by decide +kernel
theorem own_d5_99 : decode method_4_code 99 = .ok (.iload_n 2, 1) := by decide +kernel
theorem own_d5_100 : decode method_4_code 100 = .ok (.ireturn, 1) := by decide +kernel
theorem own_pd5 : parseMethodDescriptor "()[B" = some ⟨[], some (.array .byte)⟩ := by decide +kernel
theorem own_pd6 : parseMethodDescriptor "()J" = some ⟨[], some .long⟩ := by decide +kernel
theorem own_pd7 : parseMethodDescriptor "()I" = some ⟨[], some .int⟩ := by decide +kernel
theorem own_pd8 : parseMethodDescriptor "()Z" = some ⟨[], some .boolean⟩ := by decide +kernel
def own_step (x1 : Int32) (pp : Int32) (nb : Nat) : Int32 := (if x1 = (1 : Int32) then (if ((nb.toInt32) - pp) < (1 : Int32) then (if x1 = (2 : Int32) then (if ((nb.toInt32) - pp) < (4 : Int32) then (if x1 = (3 : Int32) then (if ((nb.toInt32) - pp) < (8 : Int32) then (if x1 = (4 : Int32) then (nb.toInt32) else (if x1 < (5 : Int32) then pp else pp)) else (pp + (8 : Int32))) else (if x1 = (4 : Int32) then (nb.toInt32) else (if x1 < (5 : Int32) then pp else pp))) else (pp + (4 : Int32))) else (if x1 = (3 : Int32) then (if ((nb.toInt32) - pp) < (8 : Int32) then (if x1 = (4 : Int32) then (nb.toInt32) else (if x1 < (5 : Int32) then pp else pp)) else (pp + (8 : Int32))) else (if x1 = (4 : Int32) then (nb.toInt32) else (if x1 < (5 : Int32) then pp else pp)))) else (pp + (1 : Int32))) else (if x1 = (2 : Int32) then (if ((nb.toInt32) - pp) < (4 : Int32) then (if x1 = (3 : Int32) then (if ((nb.toInt32) - pp) < (8 : Int32) then (if x1 = (4 : Int32) then (nb.toInt32) else (if x1 < (5 : Int32) then pp else (if ((nb.toInt32) - pp) < (1 : Int32) then pp else (pp + (1 : Int32))))) else (pp + (8 : Int32))) else (if x1 = (4 : Int32) then (nb.toInt32) else (if x1 < (5 : Int32) then pp else (if ((nb.toInt32) - pp) < (1 : Int32) then pp else (pp + (1 : Int32)))))) else (pp + (4 : Int32))) else (if x1 = (3 : Int32) then (if ((nb.toInt32) - pp) < (8 : Int32) then (if x1 = (4 : Int32) then (nb.toInt32) else (if x1 < (5 : Int32) then pp else (if ((nb.toInt32) - pp) < (1 : Int32) then pp else (pp + (1 : Int32))))) else (pp + (8 : Int32))) else (if x1 = (4 : Int32) then (nb.toInt32) else (if x1 < (5 : Int32) then pp else (if ((nb.toInt32) - pp) < (1 : Int32) then pp else (pp + (1 : Int32))))))))
def own_step_x0_position (x1 : Int32) (pp : Int32) (nb : Nat) : Int32 := (if x1 = (1 : Int32) then (if ((nb.toInt32) - pp) < (1 : Int32) then (if x1 = (2 : Int32) then (if ((nb.toInt32) - pp) < (4 : Int32) then (if x1 = (3 : Int32) then (if ((nb.toInt32) - pp) < (8 : Int32) then (if x1 = (4 : Int32) then (nb.toInt32) else (if x1 < (5 : Int32) then pp else pp)) else (pp + (8 : Int32))) else (if x1 = (4 : Int32) then (nb.toInt32) else (if x1 < (5 : Int32) then pp else pp))) else (pp + (4 : Int32))) else (if x1 = (3 : Int32) then (if ((nb.toInt32) - pp) < (8 : Int32) then (if x1 = (4 : Int32) then (nb.toInt32) else (if x1 < (5 : Int32) then pp else pp)) else (pp + (8 : Int32))) else (if x1 = (4 : Int32) then (nb.toInt32) else (if x1 < (5 : Int32) then pp else pp)))) else (pp + (1 : Int32))) else (if x1 = (2 : Int32) then (if ((nb.toInt32) - pp) < (4 : Int32) then (if x1 = (3 : Int32) then (if ((nb.toInt32) - pp) < (8 : Int32) then (if x1 = (4 : Int32) then (nb.toInt32) else (if x1 < (5 : Int32) then pp else (if ((nb.toInt32) - pp) < (1 : Int32) then pp else (pp + (1 : Int32))))) else (pp + (8 : Int32))) else (if x1 = (4 : Int32) then (nb.toInt32) else (if x1 < (5 : Int32) then pp else (if ((nb.toInt32) - pp) < (1 : Int32) then pp else (pp + (1 : Int32)))))) else (pp + (4 : Int32))) else (if x1 = (3 : Int32) then (if ((nb.toInt32) - pp) < (8 : Int32) then (if x1 = (4 : Int32) then (nb.toInt32) else (if x1 < (5 : Int32) then pp else (if ((nb.toInt32) - pp) < (1 : Int32) then pp else (pp + (1 : Int32))))) else (pp + (8 : Int32))) else (if x1 = (4 : Int32) then (nb.toInt32) else (if x1 < (5 : Int32) then pp else (if ((nb.toInt32) - pp) < (1 : Int32) then pp else (pp + (1 : Int32))))))))
set_option maxHeartbeats 40000000 in
theorem own_mt5_ef (m : MethodId) (x0 : Addr) (x1 : Int32) (pp : Int32) (nb : Nat) : entryFrame m #[(.ref x0), (.int x1), (.int pp), (.int (nb.toInt32))] 5 = mkF m 0 #[.val (.ref x0), .val (.int x1), .val (.int pp), .val (.int (nb.toInt32)), .unset] [] := by first | (simp [entryFrame, mkF, argsToLocals, Value.category, maxLocals]; done) | rfl
set_option maxRecDepth 65536 in
set_option maxHeartbeats 40000000 in
theorem own_mt5 (l : Launch) (Z : State) (a0 : Array Value) (hw : ∀ d ∈ tables_1, d.before a0 Z = true) (x0 : Addr) (x1 : Int32) (pp : Int32) (bb : Addr) (nb : Nat) (h0 : Heap) (n0 : Nat) (Z0 : n0 ≤ h0.size) (ge_x0 : n0 ≤ x0) (ne_x0_bb : x0 ≠ bb) (E_x0 : Exa Z h0 x0 "com/example/concordia/concordia/wire/FrameReader") (F_body : Fld Z h0 x0 "com/example/concordia/concordia/wire/FrameReader" "body" "[B" (.ref bb)) (F_pos : Fld Z h0 x0 "com/example/concordia/concordia/wire/FrameReader" "position" "I" (.int pp)) (V_bb : own_Av Z h0 bb .byte (List.replicate nb (.int (0 : Int32)))) (E_bb : Exa Z h0 bb "[B") (hnb : nb ≤ 9) (hpp : 0 ≤ pp.toInt ∧ pp.toInt ≤ nb) :
    own_Met l Z (⟨"com/example/concordia/concordia/wire/FrameReaderHasRemainingPinLaw", "step", "(Lcom/example/concordia/concordia/wire/FrameReader;III)I"⟩ : MethodName) method_4_code 5 (some .int) ({ frames := 4, cells := 1, slots := 9, locals := 83 } : Room) #[(.ref x0), (.int x1), (.int pp), (.int (nb.toInt32))] h0 (fun v h L => v = some (.int (own_step x1 pp nb)) ∧ Fr n0 L ∧ Keep h0 h [x0] ∧ Exa Z h x0 "com/example/concordia/concordia/wire/FrameReader" ∧ Fld Z h x0 "com/example/concordia/concordia/wire/FrameReader" "body" "[B" (.ref bb) ∧ Fld Z h x0 "com/example/concordia/concordia/wire/FrameReader" "position" "I" (.int (own_step_x0_position x1 pp nb))) := by
  refine own_intro (plainFor_of_name own_pn0) ?_
  intro p e s m below meth c s₁ hx hby hml hown hnm hZ hret hlk X0 e0
  refine own_cast (own_mt5_ef m x0 x1 pp nb) ?_
  have N0 := Fr.nil n0
  have K0 : Keep h0 h0 [x0] := Keep.refl _ _
  refine own_via (T' := s₁) (g' := (mkF m 7 #[.val (.ref x0), .val (.int x1), .val (.int pp), .val (.int (nb.toInt32)), .val (.int ((nb.toInt32) - pp))] [(.int (1 : Int32)), (.int x1)])) (fun t k => XS.iloadN X0.here hx rfl (hb hby own_d5_0) rfl (XS.iloadN X0.here hx rfl (hb hby own_d5_1) rfl (XS.isub X0.here hx rfl (hb hby own_d5_2) rfl (XS.istore X0.here hx rfl (hb hby own_d5_3) rfl (l' := #[.val (.ref x0), .val (.int x1), .val (.int pp), .val (.int (nb.toInt32)), .val (.int ((nb.toInt32) - pp))]) rfl (XS.iloadN X0.here hx rfl (hb hby own_d5_5) rfl (XS.iconst X0.here hx rfl (hb hby own_d5_6) k)))))) ?_
  by_cases hc1 : x1 = (1 : Int32)
  · refine own_via (T' := s₁) (g' := (mkF m 13 #[.val (.ref x0), .val (.int x1), .val (.int pp), .val (.int (nb.toInt32)), .val (.int ((nb.toInt32) - pp))] [(.int (1 : Int32)), (.int ((nb.toInt32) - pp))])) (fun t k => XS.icmpNo X0.here hx rfl (hb hby own_d5_7) rfl (teq hc1).2 (XS.iload X0.here hx rfl (hb hby own_d5_10) rfl (XS.iconst X0.here hx rfl (hb hby own_d5_12) k))) ?_
    by_cases hc2 : ((nb.toInt32) - pp) < (1 : Int32)
    · refine own_via (T' := s₁) (g' := (mkF m 27 #[.val (.ref x0), .val (.int x1), .val (.int pp), .val (.int (nb.toInt32)), .val (.int ((nb.toInt32) - pp))] [(.int (2 : Int32)), (.int x1)])) (fun t k => XS.icmpYes X0.here hx rfl (pc0 := 13) (pc' := 25) rfl (hb hby own_d5_13) rfl (tlt hc2).1 (by decide) (by decide) (XS.iloadN X0.here hx rfl (hb hby own_d5_25) rfl (XS.iconst X0.here hx rfl (hb hby own_d5_26) k))) ?_
      by_cases hc3 : x1 = (2 : Int32)
      · refine own_via (T' := s₁) (g' := (mkF m 33 #[.val (.ref x0), .val (.int x1), .val (.int pp), .val (.int (nb.toInt32)), .val (.int ((nb.toInt32) - pp))] [(.int (4 : Int32)), (.int ((nb.toInt32) - pp))])) (fun t k => XS.icmpNo X0.here hx rfl (hb hby own_d5_27) rfl (teq hc3).2 (XS.iload X0.here hx rfl (hb hby own_d5_30) rfl (XS.iconst X0.here hx rfl (hb hby own_d5_32) k))) ?_
        by_cases hc4 : ((nb.toInt32) - pp) < (4 : Int32)
        · refine own_via (T' := s₁) (g' := (mkF m 47 #[.val (.ref x0), .val (.int x1), .val (.int pp), .val (.int (nb.toInt32)), .val (.int ((nb.toInt32) - pp))] [(.int (3 : Int32)), (.int x1)])) (fun t k => XS.icmpYes X0.here hx rfl (pc0 := 33) (pc' := 45) rfl (hb hby own_d5_33) rfl (tlt hc4).1 (by decide) (by decide) (XS.iloadN X0.here hx rfl (hb hby own_d5_45) rfl (XS.iconst X0.here hx rfl (hb hby own_d5_46) k))) ?_
          by_cases hc5 : x1 = (3 : Int32)
          · refine own_via (T' := s₁) (g' := (mkF m 54 #[.val (.ref x0), .val (.int x1), .val (.int pp), .val (.int (nb.toInt32)), .val (.int ((nb.toInt32) - pp))] [(.int (8 : Int32)), (.int ((nb.toInt32) - pp))])) (fun t k => XS.icmpNo X0.here hx rfl (hb hby own_d5_47) rfl (teq hc5).2 (XS.iload X0.here hx rfl (hb hby own_d5_50) rfl (XS.bipush X0.here hx rfl (hb hby own_d5_52) k))) ?_
            by_cases hc6 : ((nb.toInt32) - pp) < (8 : Int32)
            · refine own_via (T' := s₁) (g' := (mkF m 69 #[.val (.ref x0), .val (.int x1), .val (.int pp), .val (.int (nb.toInt32)), .val (.int ((nb.toInt32) - pp))] [(.int (4 : Int32)), (.int x1)])) (fun t k => XS.icmpYes X0.here hx rfl (pc0 := 54) (pc' := 67) rfl (hb hby own_d5_54) rfl (tlt hc6).1 (by decide) (by decide) (XS.iloadN X0.here hx rfl (hb hby own_d5_67) rfl (XS.iconst X0.here hx rfl (hb hby own_d5_68) k))) ?_
              by_cases hc7 : x1 = (4 : Int32)
              · refine own_via (T' := s₁) (g' := (mkF m 73 #[.val (.ref x0), .val (.int x1), .val (.int pp), .val (.int (nb.toInt32)), .val (.int ((nb.toInt32) - pp))] [(.ref x0)])) (fun t k => XS.icmpNo X0.here hx rfl (hb hby own_d5_69) rfl (teq hc7).2 (XS.aloadN X0.here hx rfl (hb hby own_d5_72) rfl rfl k)) ?_
                obtain ⟨v8, T8, L8, X8, hQ8, st8⟩ := own_callVi (y := (⟨"com/example/concordia/concordia/wire/FrameReader", "readRest", "()[B"⟩ : MethodName)) (z := (⟨"com/example/concordia/concordia/wire/FrameReader", "readRest", "()[B"⟩ : MethodName)) (a := x0) (C := "com/example/concordia/concordia/wire/FrameReader") (argsL := []) (rest := []) X0 hx hZ hown (hw _ (List.mem_of_getElem? (i := 26) rfl)) (hw _ (List.mem_of_getElem? (i := 27) rfl)) (notFace_of_selects (args := #[]) (mvT hZ (hw _ (List.mem_of_getElem? (i := 29) rfl)))) (hw _ (List.mem_of_getElem? (i := 29) rfl)) (hw _ (List.mem_of_getElem? (i := 28) rfl)) (hw _ (List.mem_of_getElem? (i := 7) rfl)) (hw _ (List.mem_of_getElem? (i := 30) rfl)) (by decide) E_x0 (own_mt6 l Z a0 hw x0 bb pp nb h0 n0 Z0 ge_x0 ne_x0_bb E_x0 F_body F_pos V_bb E_bb hnb hpp) e0 (W := 0) (by decide) (by decide) (g := (mkF m 73 #[.val (.ref x0), .val (.int x1), .val (.int pp), .val (.int (nb.toInt32)), .val (.int ((nb.toInt32) - pp))] [(.ref x0)])) rfl (by rw [hml]; rfl) (lenOf own_pd5 rfl) rfl (by show 2 * 0 + _ ≤ _; exact Nat.le_of_eq rfl) (hb hby own_d5_73) (by decide) (by decide)
                obtain ⟨r8, rfl, Nq8, K8q, G8_0, G8_1, G8_2⟩ := hQ8
                have N8 := Fr.app N0 Nq8
                have Z8 : n0 ≤ T8.heap.size := Nat.le_trans Z0 K8q.1
                have K8 : Keep h0 T8.heap [x0] := K0.trans K8q (allS (Or.inl (List.mem_of_getElem? (i := 0) rfl)) all0)
                have E_x0_at9 := E_x0.keep K8q
                have V_bb_at10 := V_bb.keep K8q (ninS (Ne.symm ne_x0_bb) nin0)
                have E_bb_at11 := E_bb.keep K8q
                refine own_via (T' := T8) (g' := (mkF m 76 #[.val (.ref x0), .val (.int x1), .val (.int pp), .val (.int (nb.toInt32)), .val (.int ((nb.toInt32) - pp))] [(.ref r8)])) st8 ?_
                refine own_via (T' := T8) (g' := (mkF m 78 #[.val (.ref x0), .val (.int x1), .val (.int pp), .val (.int (nb.toInt32)), .val (.int ((nb.toInt32) - pp))] [(.int (nb.toInt32))])) (fun t k => XS.pop X8.here hx rfl (hb hby own_d5_76) rfl rfl (XS.iloadN X8.here hx rfl (hb hby own_d5_77) rfl k)) ?_
                refine own_retI X8 hx hlk hret (hb hby own_d5_78) (by decide) (by decide) ?_
                exact ⟨by rw [own_step, if_pos hc1, if_pos hc2, if_pos hc3, if_pos hc4, if_pos hc5, if_pos hc6, if_pos hc7] <;> rfl, N8, K8, G8_0, G8_1, (by rw [own_step_x0_position, if_pos hc1, if_pos hc2, if_pos hc3, if_pos hc4, if_pos hc5, if_pos hc6, if_pos hc7]; exact G8_2)⟩
              · refine own_via (T' := s₁) (g' := (mkF m 81 #[.val (.ref x0), .val (.int x1), .val (.int pp), .val (.int (nb.toInt32)), .val (.int ((nb.toInt32) - pp))] [(.int (5 : Int32)), (.int x1)])) (fun t k => XS.icmpYes X0.here hx rfl (pc0 := 69) (pc' := 79) rfl (hb hby own_d5_69) rfl (feq hc7).2 (by decide) (by decide) (XS.iloadN X0.here hx rfl (hb hby own_d5_79) rfl (XS.iconst X0.here hx rfl (hb hby own_d5_80) k))) ?_
                by_cases hc12 : x1 < (5 : Int32)
                · refine own_via (T' := s₁) (g' := (mkF m 100 #[.val (.ref x0), .val (.int x1), .val (.int pp), .val (.int (nb.toInt32)), .val (.int ((nb.toInt32) - pp))] [(.int pp)])) (fun t k => XS.icmpYes X0.here hx rfl (pc0 := 81) (pc' := 99) rfl (hb hby own_d5_81) rfl (tlt hc12).1 (by decide) (by decide) (XS.iloadN X0.here hx rfl (hb hby own_d5_99) rfl k)) ?_
                  refine own_retI X0 hx hlk hret (hb hby own_d5_100) (by decide) (by decide) ?_
                  rw [e0]; exact ⟨by rw [own_step, if_pos hc1, if_pos hc2, if_pos hc3, if_pos hc4, if_pos hc5, if_pos hc6, if_neg hc7, if_pos hc12] <;> rfl, N0, K0, E_x0, F_body, (by rw [own_step_x0_position, if_pos hc1, if_pos hc2, if_pos hc3, if_pos hc4, if_pos hc5, if_pos hc6, if_neg hc7, if_pos hc12]; exact F_pos)⟩
                · refine own_via (T' := s₁) (g' := (mkF m 87 #[.val (.ref x0), .val (.int x1), .val (.int pp), .val (.int (nb.toInt32)), .val (.int ((nb.toInt32) - pp))] [(.int (1 : Int32)), (.int ((nb.toInt32) - pp))])) (fun t k => XS.icmpNo X0.here hx rfl (hb hby own_d5_81) rfl (flt hc12).1 (XS.iload X0.here hx rfl (hb hby own_d5_84) rfl (XS.iconst X0.here hx rfl (hb hby own_d5_86) k))) ?_
                  refine own_via (T' := s₁) (g' := (mkF m 100 #[.val (.ref x0), .val (.int x1), .val (.int pp), .val (.int (nb.toInt32)), .val (.int ((nb.toInt32) - pp))] [(.int pp)])) (fun t k => XS.icmpYes X0.here hx rfl (pc0 := 87) (pc' := 99) rfl (hb hby own_d5_87) rfl (tlt hc2).1 (by decide) (by decide) (XS.iloadN X0.here hx rfl (hb hby own_d5_99) rfl k)) ?_
                  refine own_retI X0 hx hlk hret (hb hby own_d5_100) (by decide) (by decide) ?_
                  rw [e0]; exact ⟨by rw [own_step, if_pos hc1, if_pos hc2, if_pos hc3, if_pos hc4, if_pos hc5, if_pos hc6, if_neg hc7, if_neg hc12] <;> rfl, N0, K0, E_x0, F_body, (by rw [own_step_x0_position, if_pos hc1, if_pos hc2, if_pos hc3, if_pos hc4, if_pos hc5, if_pos hc6, if_neg hc7, if_neg hc12]; exact F_pos)⟩
            · refine own_via (T' := s₁) (g' := (mkF m 58 #[.val (.ref x0), .val (.int x1), .val (.int pp), .val (.int (nb.toInt32)), .val (.int ((nb.toInt32) - pp))] [(.ref x0)])) (fun t k => XS.icmpNo X0.here hx rfl (hb hby own_d5_54) rfl (flt hc6).1 (XS.aloadN X0.here hx rfl (hb hby own_d5_57) rfl rfl k)) ?_
              obtain ⟨v13, T13, L13, X13, hQ13, st13⟩ := own_callVi (y := (⟨"com/example/concordia/concordia/wire/FrameReader", "readLong", "()J"⟩ : MethodName)) (z := (⟨"com/example/concordia/concordia/wire/FrameReader", "readLong", "()J"⟩ : MethodName)) (a := x0) (C := "com/example/concordia/concordia/wire/FrameReader") (argsL := []) (rest := []) X0 hx hZ hown (hw _ (List.mem_of_getElem? (i := 76) rfl)) (hw _ (List.mem_of_getElem? (i := 77) rfl)) (notFace_of_selects (args := #[]) (mvT hZ (hw _ (List.mem_of_getElem? (i := 79) rfl)))) (hw _ (List.mem_of_getElem? (i := 79) rfl)) (hw _ (List.mem_of_getElem? (i := 78) rfl)) (hw _ (List.mem_of_getElem? (i := 7) rfl)) (hw _ (List.mem_of_getElem? (i := 80) rfl)) (by decide) E_x0 (own_mt15 l Z a0 hw x0 bb pp nb h0 n0 Z0 ge_x0 ne_x0_bb E_x0 F_body F_pos V_bb hnb hpp hc6) e0 (W := 0) (by decide) (by decide) (g := (mkF m 58 #[.val (.ref x0), .val (.int x1), .val (.int pp), .val (.int (nb.toInt32)), .val (.int ((nb.toInt32) - pp))] [(.ref x0)])) rfl (by rw [hml]; rfl) (lenOf own_pd6 rfl) rfl (by show 2 * 0 + _ ≤ _; exact Nat.le_of_eq rfl) (hb hby own_d5_58) (by decide) (by decide)
              obtain ⟨rfl, Nq13, K13q, G13_0, G13_1, G13_2⟩ := hQ13
              have N13 := Fr.app N0 Nq13
              have Z13 : n0 ≤ T13.heap.size := Nat.le_trans Z0 K13q.1
              have K13 : Keep h0 T13.heap [x0] := K0.trans K13q (allS (Or.inl (List.mem_of_getElem? (i := 0) rfl)) all0)
              have E_x0_at14 := E_x0.keep K13q
              have V_bb_at15 := V_bb.keep K13q (ninS (Ne.symm ne_x0_bb) nin0)
              have E_bb_at16 := E_bb.keep K13q
              refine own_via (T' := T13) (g' := (mkF m 61 #[.val (.ref x0), .val (.int x1), .val (.int pp), .val (.int (nb.toInt32)), .val (.int ((nb.toInt32) - pp))] [(.long (0 : Int64))])) st13 ?_
              refine own_via (T' := T13) (g' := (mkF m 62 #[.val (.ref x0), .val (.int x1), .val (.int pp), .val (.int (nb.toInt32)), .val (.int ((nb.toInt32) - pp))] [])) (fun t k => by jvm_step X13.here [X13.here.top, hx, (hb hby own_d5_61), Value.category]; exact k) ?_
              refine own_via (T' := T13) (g' := (mkF m 66 #[.val (.ref x0), .val (.int x1), .val (.int pp), .val (.int (nb.toInt32)), .val (.int ((nb.toInt32) - pp))] [(.int (pp + (8 : Int32)))])) (fun t k => XS.iloadN X13.here hx rfl (hb hby own_d5_62) rfl (XS.bipush X13.here hx rfl (hb hby own_d5_63) (XS.iadd X13.here hx rfl (hb hby own_d5_65) rfl k))) ?_
              refine own_retI X13 hx hlk hret (hb hby own_d5_66) (by decide) (by decide) ?_
              exact ⟨by rw [own_step, if_pos hc1, if_pos hc2, if_pos hc3, if_pos hc4, if_pos hc5, if_neg hc6] <;> rfl, N13, K13, G13_0, G13_1, (by rw [own_step_x0_position, if_pos hc1, if_pos hc2, if_pos hc3, if_pos hc4, if_pos hc5, if_neg hc6]; exact G13_2)⟩
          · refine own_via (T' := s₁) (g' := (mkF m 69 #[.val (.ref x0), .val (.int x1), .val (.int pp), .val (.int (nb.toInt32)), .val (.int ((nb.toInt32) - pp))] [(.int (4 : Int32)), (.int x1)])) (fun t k => XS.icmpYes X0.here hx rfl (pc0 := 47) (pc' := 67) rfl (hb hby own_d5_47) rfl (feq hc5).2 (by decide) (by decide) (XS.iloadN X0.here hx rfl (hb hby own_d5_67) rfl (XS.iconst X0.here hx rfl (hb hby own_d5_68) k))) ?_
            by_cases hc17 : x1 = (4 : Int32)
            · refine own_via (T' := s₁) (g' := (mkF m 73 #[.val (.ref x0), .val (.int x1), .val (.int pp), .val (.int (nb.toInt32)), .val (.int ((nb.toInt32) - pp))] [(.ref x0)])) (fun t k => XS.icmpNo X0.here hx rfl (hb hby own_d5_69) rfl (teq hc17).2 (XS.aloadN X0.here hx rfl (hb hby own_d5_72) rfl rfl k)) ?_
              obtain ⟨v18, T18, L18, X18, hQ18, st18⟩ := own_callVi (y := (⟨"com/example/concordia/concordia/wire/FrameReader", "readRest", "()[B"⟩ : MethodName)) (z := (⟨"com/example/concordia/concordia/wire/FrameReader", "readRest", "()[B"⟩ : MethodName)) (a := x0) (C := "com/example/concordia/concordia/wire/FrameReader") (argsL := []) (rest := []) X0 hx hZ hown (hw _ (List.mem_of_getElem? (i := 26) rfl)) (hw _ (List.mem_of_getElem? (i := 27) rfl)) (notFace_of_selects (args := #[]) (mvT hZ (hw _ (List.mem_of_getElem? (i := 29) rfl)))) (hw _ (List.mem_of_getElem? (i := 29) rfl)) (hw _ (List.mem_of_getElem? (i := 28) rfl)) (hw _ (List.mem_of_getElem? (i := 7) rfl)) (hw _ (List.mem_of_getElem? (i := 30) rfl)) (by decide) E_x0 (own_mt6 l Z a0 hw x0 bb pp nb h0 n0 Z0 ge_x0 ne_x0_bb E_x0 F_body F_pos V_bb E_bb hnb hpp) e0 (W := 0) (by decide) (by decide) (g := (mkF m 73 #[.val (.ref x0), .val (.int x1), .val (.int pp), .val (.int (nb.toInt32)), .val (.int ((nb.toInt32) - pp))] [(.ref x0)])) rfl (by rw [hml]; rfl) (lenOf own_pd5 rfl) rfl (by show 2 * 0 + _ ≤ _; exact Nat.le_of_eq rfl) (hb hby own_d5_73) (by decide) (by decide)
              obtain ⟨r18, rfl, Nq18, K18q, G18_0, G18_1, G18_2⟩ := hQ18
              have N18 := Fr.app N0 Nq18
              have Z18 : n0 ≤ T18.heap.size := Nat.le_trans Z0 K18q.1
              have K18 : Keep h0 T18.heap [x0] := K0.trans K18q (allS (Or.inl (List.mem_of_getElem? (i := 0) rfl)) all0)
              have E_x0_at19 := E_x0.keep K18q
              have V_bb_at20 := V_bb.keep K18q (ninS (Ne.symm ne_x0_bb) nin0)
              have E_bb_at21 := E_bb.keep K18q
              refine own_via (T' := T18) (g' := (mkF m 76 #[.val (.ref x0), .val (.int x1), .val (.int pp), .val (.int (nb.toInt32)), .val (.int ((nb.toInt32) - pp))] [(.ref r18)])) st18 ?_
              refine own_via (T' := T18) (g' := (mkF m 78 #[.val (.ref x0), .val (.int x1), .val (.int pp), .val (.int (nb.toInt32)), .val (.int ((nb.toInt32) - pp))] [(.int (nb.toInt32))])) (fun t k => XS.pop X18.here hx rfl (hb hby own_d5_76) rfl rfl (XS.iloadN X18.here hx rfl (hb hby own_d5_77) rfl k)) ?_
              refine own_retI X18 hx hlk hret (hb hby own_d5_78) (by decide) (by decide) ?_
              exact ⟨by rw [own_step, if_pos hc1, if_pos hc2, if_pos hc3, if_pos hc4, if_neg hc5, if_pos hc17] <;> rfl, N18, K18, G18_0, G18_1, (by rw [own_step_x0_position, if_pos hc1, if_pos hc2, if_pos hc3, if_pos hc4, if_neg hc5, if_pos hc17]; exact G18_2)⟩
            · refine own_via (T' := s₁) (g' := (mkF m 81 #[.val (.ref x0), .val (.int x1), .val (.int pp), .val (.int (nb.toInt32)), .val (.int ((nb.toInt32) - pp))] [(.int (5 : Int32)), (.int x1)])) (fun t k => XS.icmpYes X0.here hx rfl (pc0 := 69) (pc' := 79) rfl (hb hby own_d5_69) rfl (feq hc17).2 (by decide) (by decide) (XS.iloadN X0.here hx rfl (hb hby own_d5_79) rfl (XS.iconst X0.here hx rfl (hb hby own_d5_80) k))) ?_
              by_cases hc22 : x1 < (5 : Int32)
              · refine own_via (T' := s₁) (g' := (mkF m 100 #[.val (.ref x0), .val (.int x1), .val (.int pp), .val (.int (nb.toInt32)), .val (.int ((nb.toInt32) - pp))] [(.int pp)])) (fun t k => XS.icmpYes X0.here hx rfl (pc0 := 81) (pc' := 99) rfl (hb hby own_d5_81) rfl (tlt hc22).1 (by decide) (by decide) (XS.iloadN X0.here hx rfl (hb hby own_d5_99) rfl k)) ?_
                refine own_retI X0 hx hlk hret (hb hby own_d5_100) (by decide) (by decide) ?_
                rw [e0]; exact ⟨by rw [own_step, if_pos hc1, if_pos hc2, if_pos hc3, if_pos hc4, if_neg hc5, if_neg hc17, if_pos hc22] <;> rfl, N0, K0, E_x0, F_body, (by rw [own_step_x0_position, if_pos hc1, if_pos hc2, if_pos hc3, if_pos hc4, if_neg hc5, if_neg hc17, if_pos hc22]; exact F_pos)⟩
              · refine own_via (T' := s₁) (g' := (mkF m 87 #[.val (.ref x0), .val (.int x1), .val (.int pp), .val (.int (nb.toInt32)), .val (.int ((nb.toInt32) - pp))] [(.int (1 : Int32)), (.int ((nb.toInt32) - pp))])) (fun t k => XS.icmpNo X0.here hx rfl (hb hby own_d5_81) rfl (flt hc22).1 (XS.iload X0.here hx rfl (hb hby own_d5_84) rfl (XS.iconst X0.here hx rfl (hb hby own_d5_86) k))) ?_
                refine own_via (T' := s₁) (g' := (mkF m 100 #[.val (.ref x0), .val (.int x1), .val (.int pp), .val (.int (nb.toInt32)), .val (.int ((nb.toInt32) - pp))] [(.int pp)])) (fun t k => XS.icmpYes X0.here hx rfl (pc0 := 87) (pc' := 99) rfl (hb hby own_d5_87) rfl (tlt hc2).1 (by decide) (by decide) (XS.iloadN X0.here hx rfl (hb hby own_d5_99) rfl k)) ?_
                refine own_retI X0 hx hlk hret (hb hby own_d5_100) (by decide) (by decide) ?_
                rw [e0]; exact ⟨by rw [own_step, if_pos hc1, if_pos hc2, if_pos hc3, if_pos hc4, if_neg hc5, if_neg hc17, if_neg hc22] <;> rfl, N0, K0, E_x0, F_body, (by rw [own_step_x0_position, if_pos hc1, if_pos hc2, if_pos hc3, if_pos hc4, if_neg hc5, if_neg hc17, if_neg hc22]; exact F_pos)⟩
        · refine own_via (T' := s₁) (g' := (mkF m 37 #[.val (.ref x0), .val (.int x1), .val (.int pp), .val (.int (nb.toInt32)), .val (.int ((nb.toInt32) - pp))] [(.ref x0)])) (fun t k => XS.icmpNo X0.here hx rfl (hb hby own_d5_33) rfl (flt hc4).1 (XS.aloadN X0.here hx rfl (hb hby own_d5_36) rfl rfl k)) ?_
          obtain ⟨v23, T23, L23, X23, hQ23, st23⟩ := own_callVi (y := (⟨"com/example/concordia/concordia/wire/FrameReader", "readInt", "()I"⟩ : MethodName)) (z := (⟨"com/example/concordia/concordia/wire/FrameReader", "readInt", "()I"⟩ : MethodName)) (a := x0) (C := "com/example/concordia/concordia/wire/FrameReader") (argsL := []) (rest := []) X0 hx hZ hown (hw _ (List.mem_of_getElem? (i := 53) rfl)) (hw _ (List.mem_of_getElem? (i := 54) rfl)) (notFace_of_selects (args := #[]) (mvT hZ (hw _ (List.mem_of_getElem? (i := 56) rfl)))) (hw _ (List.mem_of_getElem? (i := 56) rfl)) (hw _ (List.mem_of_getElem? (i := 55) rfl)) (hw _ (List.mem_of_getElem? (i := 7) rfl)) (hw _ (List.mem_of_getElem? (i := 57) rfl)) (by decide) E_x0 (own_mt10 l Z a0 hw x0 bb pp nb h0 n0 Z0 ge_x0 ne_x0_bb E_x0 F_body F_pos V_bb hnb hpp hc4) e0 (W := 0) (by decide) (by decide) (g := (mkF m 37 #[.val (.ref x0), .val (.int x1), .val (.int pp), .val (.int (nb.toInt32)), .val (.int ((nb.toInt32) - pp))] [(.ref x0)])) rfl (by rw [hml]; rfl) (lenOf own_pd7 rfl) rfl (by show 2 * 0 + _ ≤ _; exact Nat.le_of_eq rfl) (hb hby own_d5_37) (by decide) (by decide)
          obtain ⟨rfl, Nq23, K23q, G23_0, G23_1, G23_2⟩ := hQ23
          have N23 := Fr.app N0 Nq23
          have Z23 : n0 ≤ T23.heap.size := Nat.le_trans Z0 K23q.1
          have K23 : Keep h0 T23.heap [x0] := K0.trans K23q (allS (Or.inl (List.mem_of_getElem? (i := 0) rfl)) all0)
          have E_x0_at24 := E_x0.keep K23q
          have V_bb_at25 := V_bb.keep K23q (ninS (Ne.symm ne_x0_bb) nin0)
          have E_bb_at26 := E_bb.keep K23q
          refine own_via (T' := T23) (g' := (mkF m 40 #[.val (.ref x0), .val (.int x1), .val (.int pp), .val (.int (nb.toInt32)), .val (.int ((nb.toInt32) - pp))] [(.int (0 : Int32))])) st23 ?_
          refine own_via (T' := T23) (g' := (mkF m 44 #[.val (.ref x0), .val (.int x1), .val (.int pp), .val (.int (nb.toInt32)), .val (.int ((nb.toInt32) - pp))] [(.int (pp + (4 : Int32)))])) (fun t k => XS.pop X23.here hx rfl (hb hby own_d5_40) rfl rfl (XS.iloadN X23.here hx rfl (hb hby own_d5_41) rfl (XS.iconst X23.here hx rfl (hb hby own_d5_42) (XS.iadd X23.here hx rfl (hb hby own_d5_43) rfl k)))) ?_
          refine own_retI X23 hx hlk hret (hb hby own_d5_44) (by decide) (by decide) ?_
          exact ⟨by rw [own_step, if_pos hc1, if_pos hc2, if_pos hc3, if_neg hc4] <;> rfl, N23, K23, G23_0, G23_1, (by rw [own_step_x0_position, if_pos hc1, if_pos hc2, if_pos hc3, if_neg hc4]; exact G23_2)⟩
      · refine own_via (T' := s₁) (g' := (mkF m 47 #[.val (.ref x0), .val (.int x1), .val (.int pp), .val (.int (nb.toInt32)), .val (.int ((nb.toInt32) - pp))] [(.int (3 : Int32)), (.int x1)])) (fun t k => XS.icmpYes X0.here hx rfl (pc0 := 27) (pc' := 45) rfl (hb hby own_d5_27) rfl (feq hc3).2 (by decide) (by decide) (XS.iloadN X0.here hx rfl (hb hby own_d5_45) rfl (XS.iconst X0.here hx rfl (hb hby own_d5_46) k))) ?_
        by_cases hc27 : x1 = (3 : Int32)
        · refine own_via (T' := s₁) (g' := (mkF m 54 #[.val (.ref x0), .val (.int x1), .val (.int pp), .val (.int (nb.toInt32)), .val (.int ((nb.toInt32) - pp))] [(.int (8 : Int32)), (.int ((nb.toInt32) - pp))])) (fun t k => XS.icmpNo X0.here hx rfl (hb hby own_d5_47) rfl (teq hc27).2 (XS.iload X0.here hx rfl (hb hby own_d5_50) rfl (XS.bipush X0.here hx rfl (hb hby own_d5_52) k))) ?_
          by_cases hc28 : ((nb.toInt32) - pp) < (8 : Int32)
          · refine own_via (T' := s₁) (g' := (mkF m 69 #[.val (.ref x0), .val (.int x1), .val (.int pp), .val (.int (nb.toInt32)), .val (.int ((nb.toInt32) - pp))] [(.int (4 : Int32)), (.int x1)])) (fun t k => XS.icmpYes X0.here hx rfl (pc0 := 54) (pc' := 67) rfl (hb hby own_d5_54) rfl (tlt hc28).1 (by decide) (by decide) (XS.iloadN X0.here hx rfl (hb hby own_d5_67) rfl (XS.iconst X0.here hx rfl (hb hby own_d5_68) k))) ?_
            by_cases hc29 : x1 = (4 : Int32)
            · refine own_via (T' := s₁) (g' := (mkF m 73 #[.val (.ref x0), .val (.int x1), .val (.int pp), .val (.int (nb.toInt32)), .val (.int ((nb.toInt32) - pp))] [(.ref x0)])) (fun t k => XS.icmpNo X0.here hx rfl (hb hby own_d5_69) rfl (teq hc29).2 (XS.aloadN X0.here hx rfl (hb hby own_d5_72) rfl rfl k)) ?_
              obtain ⟨v30, T30, L30, X30, hQ30, st30⟩ := own_callVi (y := (⟨"com/example/concordia/concordia/wire/FrameReader", "readRest", "()[B"⟩ : MethodName)) (z := (⟨"com/example/concordia/concordia/wire/FrameReader", "readRest", "()[B"⟩ : MethodName)) (a := x0) (C := "com/example/concordia/concordia/wire/FrameReader") (argsL := []) (rest := []) X0 hx hZ hown (hw _ (List.mem_of_getElem? (i := 26) rfl)) (hw _ (List.mem_of_getElem? (i := 27) rfl)) (notFace_of_selects (args := #[]) (mvT hZ (hw _ (List.mem_of_getElem? (i := 29) rfl)))) (hw _ (List.mem_of_getElem? (i := 29) rfl)) (hw _ (List.mem_of_getElem? (i := 28) rfl)) (hw _ (List.mem_of_getElem? (i := 7) rfl)) (hw _ (List.mem_of_getElem? (i := 30) rfl)) (by decide) E_x0 (own_mt6 l Z a0 hw x0 bb pp nb h0 n0 Z0 ge_x0 ne_x0_bb E_x0 F_body F_pos V_bb E_bb hnb hpp) e0 (W := 0) (by decide) (by decide) (g := (mkF m 73 #[.val (.ref x0), .val (.int x1), .val (.int pp), .val (.int (nb.toInt32)), .val (.int ((nb.toInt32) - pp))] [(.ref x0)])) rfl (by rw [hml]; rfl) (lenOf own_pd5 rfl) rfl (by show 2 * 0 + _ ≤ _; exact Nat.le_of_eq rfl) (hb hby own_d5_73) (by decide) (by decide)
              obtain ⟨r30, rfl, Nq30, K30q, G30_0, G30_1, G30_2⟩ := hQ30
              have N30 := Fr.app N0 Nq30
              have Z30 : n0 ≤ T30.heap.size := Nat.le_trans Z0 K30q.1
              have K30 : Keep h0 T30.heap [x0] := K0.trans K30q (allS (Or.inl (List.mem_of_getElem? (i := 0) rfl)) all0)
              have E_x0_at31 := E_x0.keep K30q
              have V_bb_at32 := V_bb.keep K30q (ninS (Ne.symm ne_x0_bb) nin0)
              have E_bb_at33 := E_bb.keep K30q
              refine own_via (T' := T30) (g' := (mkF m 76 #[.val (.ref x0), .val (.int x1), .val (.int pp), .val (.int (nb.toInt32)), .val (.int ((nb.toInt32) - pp))] [(.ref r30)])) st30 ?_
              refine own_via (T' := T30) (g' := (mkF m 78 #[.val (.ref x0), .val (.int x1), .val (.int pp), .val (.int (nb.toInt32)), .val (.int ((nb.toInt32) - pp))] [(.int (nb.toInt32))])) (fun t k => XS.pop X30.here hx rfl (hb hby own_d5_76) rfl rfl (XS.iloadN X30.here hx rfl (hb hby own_d5_77) rfl k)) ?_
              refine own_retI X30 hx hlk hret (hb hby own_d5_78) (by decide) (by decide) ?_
              exact ⟨by rw [own_step, if_pos hc1, if_pos hc2, if_neg hc3, if_pos hc27, if_pos hc28, if_pos hc29] <;> rfl, N30, K30, G30_0, G30_1, (by rw [own_step_x0_position, if_pos hc1, if_pos hc2, if_neg hc3, if_pos hc27, if_pos hc28, if_pos hc29]; exact G30_2)⟩
            · refine own_via (T' := s₁) (g' := (mkF m 81 #[.val (.ref x0), .val (.int x1), .val (.int pp), .val (.int (nb.toInt32)), .val (.int ((nb.toInt32) - pp))] [(.int (5 : Int32)), (.int x1)])) (fun t k => XS.icmpYes X0.here hx rfl (pc0 := 69) (pc' := 79) rfl (hb hby own_d5_69) rfl (feq hc29).2 (by decide) (by decide) (XS.iloadN X0.here hx rfl (hb hby own_d5_79) rfl (XS.iconst X0.here hx rfl (hb hby own_d5_80) k))) ?_
              by_cases hc34 : x1 < (5 : Int32)
              · refine own_via (T' := s₁) (g' := (mkF m 100 #[.val (.ref x0), .val (.int x1), .val (.int pp), .val (.int (nb.toInt32)), .val (.int ((nb.toInt32) - pp))] [(.int pp)])) (fun t k => XS.icmpYes X0.here hx rfl (pc0 := 81) (pc' := 99) rfl (hb hby own_d5_81) rfl (tlt hc34).1 (by decide) (by decide) (XS.iloadN X0.here hx rfl (hb hby own_d5_99) rfl k)) ?_
                refine own_retI X0 hx hlk hret (hb hby own_d5_100) (by decide) (by decide) ?_
                rw [e0]; exact ⟨by rw [own_step, if_pos hc1, if_pos hc2, if_neg hc3, if_pos hc27, if_pos hc28, if_neg hc29, if_pos hc34] <;> rfl, N0, K0, E_x0, F_body, (by rw [own_step_x0_position, if_pos hc1, if_pos hc2, if_neg hc3, if_pos hc27, if_pos hc28, if_neg hc29, if_pos hc34]; exact F_pos)⟩
              · refine own_via (T' := s₁) (g' := (mkF m 87 #[.val (.ref x0), .val (.int x1), .val (.int pp), .val (.int (nb.toInt32)), .val (.int ((nb.toInt32) - pp))] [(.int (1 : Int32)), (.int ((nb.toInt32) - pp))])) (fun t k => XS.icmpNo X0.here hx rfl (hb hby own_d5_81) rfl (flt hc34).1 (XS.iload X0.here hx rfl (hb hby own_d5_84) rfl (XS.iconst X0.here hx rfl (hb hby own_d5_86) k))) ?_
                refine own_via (T' := s₁) (g' := (mkF m 100 #[.val (.ref x0), .val (.int x1), .val (.int pp), .val (.int (nb.toInt32)), .val (.int ((nb.toInt32) - pp))] [(.int pp)])) (fun t k => XS.icmpYes X0.here hx rfl (pc0 := 87) (pc' := 99) rfl (hb hby own_d5_87) rfl (tlt hc2).1 (by decide) (by decide) (XS.iloadN X0.here hx rfl (hb hby own_d5_99) rfl k)) ?_
                refine own_retI X0 hx hlk hret (hb hby own_d5_100) (by decide) (by decide) ?_
                rw [e0]; exact ⟨by rw [own_step, if_pos hc1, if_pos hc2, if_neg hc3, if_pos hc27, if_pos hc28, if_neg hc29, if_neg hc34] <;> rfl, N0, K0, E_x0, F_body, (by rw [own_step_x0_position, if_pos hc1, if_pos hc2, if_neg hc3, if_pos hc27, if_pos hc28, if_neg hc29, if_neg hc34]; exact F_pos)⟩
          · refine own_via (T' := s₁) (g' := (mkF m 58 #[.val (.ref x0), .val (.int x1), .val (.int pp), .val (.int (nb.toInt32)), .val (.int ((nb.toInt32) - pp))] [(.ref x0)])) (fun t k => XS.icmpNo X0.here hx rfl (hb hby own_d5_54) rfl (flt hc28).1 (XS.aloadN X0.here hx rfl (hb hby own_d5_57) rfl rfl k)) ?_
            obtain ⟨v35, T35, L35, X35, hQ35, st35⟩ := own_callVi (y := (⟨"com/example/concordia/concordia/wire/FrameReader", "readLong", "()J"⟩ : MethodName)) (z := (⟨"com/example/concordia/concordia/wire/FrameReader", "readLong", "()J"⟩ : MethodName)) (a := x0) (C := "com/example/concordia/concordia/wire/FrameReader") (argsL := []) (rest := []) X0 hx hZ hown (hw _ (List.mem_of_getElem? (i := 76) rfl)) (hw _ (List.mem_of_getElem? (i := 77) rfl)) (notFace_of_selects (args := #[]) (mvT hZ (hw _ (List.mem_of_getElem? (i := 79) rfl)))) (hw _ (List.mem_of_getElem? (i := 79) rfl)) (hw _ (List.mem_of_getElem? (i := 78) rfl)) (hw _ (List.mem_of_getElem? (i := 7) rfl)) (hw _ (List.mem_of_getElem? (i := 80) rfl)) (by decide) E_x0 (own_mt15 l Z a0 hw x0 bb pp nb h0 n0 Z0 ge_x0 ne_x0_bb E_x0 F_body F_pos V_bb hnb hpp hc28) e0 (W := 0) (by decide) (by decide) (g := (mkF m 58 #[.val (.ref x0), .val (.int x1), .val (.int pp), .val (.int (nb.toInt32)), .val (.int ((nb.toInt32) - pp))] [(.ref x0)])) rfl (by rw [hml]; rfl) (lenOf own_pd6 rfl) rfl (by show 2 * 0 + _ ≤ _; exact Nat.le_of_eq rfl) (hb hby own_d5_58) (by decide) (by decide)
            obtain ⟨rfl, Nq35, K35q, G35_0, G35_1, G35_2⟩ := hQ35
            have N35 := Fr.app N0 Nq35
            have Z35 : n0 ≤ T35.heap.size := Nat.le_trans Z0 K35q.1
            have K35 : Keep h0 T35.heap [x0] := K0.trans K35q (allS (Or.inl (List.mem_of_getElem? (i := 0) rfl)) all0)
            have E_x0_at36 := E_x0.keep K35q
            have V_bb_at37 := V_bb.keep K35q (ninS (Ne.symm ne_x0_bb) nin0)
            have E_bb_at38 := E_bb.keep K35q
            refine own_via (T' := T35) (g' := (mkF m 61 #[.val (.ref x0), .val (.int x1), .val (.int pp), .val (.int (nb.toInt32)), .val (.int ((nb.toInt32) - pp))] [(.long (0 : Int64))])) st35 ?_
            refine own_via (T' := T35) (g' := (mkF m 62 #[.val (.ref x0), .val (.int x1), .val (.int pp), .val (.int (nb.toInt32)), .val (.int ((nb.toInt32) - pp))] [])) (fun t k => by jvm_step X35.here [X35.here.top, hx, (hb hby own_d5_61), Value.category]; exact k) ?_
            refine own_via (T' := T35) (g' := (mkF m 66 #[.val (.ref x0), .val (.int x1), .val (.int pp), .val (.int (nb.toInt32)), .val (.int ((nb.toInt32) - pp))] [(.int (pp + (8 : Int32)))])) (fun t k => XS.iloadN X35.here hx rfl (hb hby own_d5_62) rfl (XS.bipush X35.here hx rfl (hb hby own_d5_63) (XS.iadd X35.here hx rfl (hb hby own_d5_65) rfl k))) ?_
            refine own_retI X35 hx hlk hret (hb hby own_d5_66) (by decide) (by decide) ?_
            exact ⟨by rw [own_step, if_pos hc1, if_pos hc2, if_neg hc3, if_pos hc27, if_neg hc28] <;> rfl, N35, K35, G35_0, G35_1, (by rw [own_step_x0_position, if_pos hc1, if_pos hc2, if_neg hc3, if_pos hc27, if_neg hc28]; exact G35_2)⟩
        · refine own_via (T' := s₁) (g' := (mkF m 69 #[.val (.ref x0), .val (.int x1), .val (.int pp), .val (.int (nb.toInt32)), .val (.int ((nb.toInt32) - pp))] [(.int (4 : Int32)), (.int x1)])) (fun t k => XS.icmpYes X0.here hx rfl (pc0 := 47) (pc' := 67) rfl (hb hby own_d5_47) rfl (feq hc27).2 (by decide) (by decide) (XS.iloadN X0.here hx rfl (hb hby own_d5_67) rfl (XS.iconst X0.here hx rfl (hb hby own_d5_68) k))) ?_
          by_cases hc39 : x1 = (4 : Int32)
          · refine own_via (T' := s₁) (g' := (mkF m 73 #[.val (.ref x0), .val (.int x1), .val (.int pp), .val (.int (nb.toInt32)), .val (.int ((nb.toInt32) - pp))] [(.ref x0)])) (fun t k => XS.icmpNo X0.here hx rfl (hb hby own_d5_69) rfl (teq hc39).2 (XS.aloadN X0.here hx rfl (hb hby own_d5_72) rfl rfl k)) ?_
            obtain ⟨v40, T40, L40, X40, hQ40, st40⟩ := own_callVi (y := (⟨"com/example/concordia/concordia/wire/FrameReader", "readRest", "()[B"⟩ : MethodName)) (z := (⟨"com/example/concordia/concordia/wire/FrameReader", "readRest", "()[B"⟩ : MethodName)) (a := x0) (C := "com/example/concordia/concordia/wire/FrameReader") (argsL := []) (rest := []) X0 hx hZ hown (hw _ (List.mem_of_getElem? (i := 26) rfl)) (hw _ (List.mem_of_getElem? (i := 27) rfl)) (notFace_of_selects (args := #[]) (mvT hZ (hw _ (List.mem_of_getElem? (i := 29) rfl)))) (hw _ (List.mem_of_getElem? (i := 29) rfl)) (hw _ (List.mem_of_getElem? (i := 28) rfl)) (hw _ (List.mem_of_getElem? (i := 7) rfl)) (hw _ (List.mem_of_getElem? (i := 30) rfl)) (by decide) E_x0 (own_mt6 l Z a0 hw x0 bb pp nb h0 n0 Z0 ge_x0 ne_x0_bb E_x0 F_body F_pos V_bb E_bb hnb hpp) e0 (W := 0) (by decide) (by decide) (g := (mkF m 73 #[.val (.ref x0), .val (.int x1), .val (.int pp), .val (.int (nb.toInt32)), .val (.int ((nb.toInt32) - pp))] [(.ref x0)])) rfl (by rw [hml]; rfl) (lenOf own_pd5 rfl) rfl (by show 2 * 0 + _ ≤ _; exact Nat.le_of_eq rfl) (hb hby own_d5_73) (by decide) (by decide)
            obtain ⟨r40, rfl, Nq40, K40q, G40_0, G40_1, G40_2⟩ := hQ40
            have N40 := Fr.app N0 Nq40
            have Z40 : n0 ≤ T40.heap.size := Nat.le_trans Z0 K40q.1
            have K40 : Keep h0 T40.heap [x0] := K0.trans K40q (allS (Or.inl (List.mem_of_getElem? (i := 0) rfl)) all0)
            have E_x0_at41 := E_x0.keep K40q
            have V_bb_at42 := V_bb.keep K40q (ninS (Ne.symm ne_x0_bb) nin0)
            have E_bb_at43 := E_bb.keep K40q
            refine own_via (T' := T40) (g' := (mkF m 76 #[.val (.ref x0), .val (.int x1), .val (.int pp), .val (.int (nb.toInt32)), .val (.int ((nb.toInt32) - pp))] [(.ref r40)])) st40 ?_
            refine own_via (T' := T40) (g' := (mkF m 78 #[.val (.ref x0), .val (.int x1), .val (.int pp), .val (.int (nb.toInt32)), .val (.int ((nb.toInt32) - pp))] [(.int (nb.toInt32))])) (fun t k => XS.pop X40.here hx rfl (hb hby own_d5_76) rfl rfl (XS.iloadN X40.here hx rfl (hb hby own_d5_77) rfl k)) ?_
            refine own_retI X40 hx hlk hret (hb hby own_d5_78) (by decide) (by decide) ?_
            exact ⟨by rw [own_step, if_pos hc1, if_pos hc2, if_neg hc3, if_neg hc27, if_pos hc39] <;> rfl, N40, K40, G40_0, G40_1, (by rw [own_step_x0_position, if_pos hc1, if_pos hc2, if_neg hc3, if_neg hc27, if_pos hc39]; exact G40_2)⟩
          · refine own_via (T' := s₁) (g' := (mkF m 81 #[.val (.ref x0), .val (.int x1), .val (.int pp), .val (.int (nb.toInt32)), .val (.int ((nb.toInt32) - pp))] [(.int (5 : Int32)), (.int x1)])) (fun t k => XS.icmpYes X0.here hx rfl (pc0 := 69) (pc' := 79) rfl (hb hby own_d5_69) rfl (feq hc39).2 (by decide) (by decide) (XS.iloadN X0.here hx rfl (hb hby own_d5_79) rfl (XS.iconst X0.here hx rfl (hb hby own_d5_80) k))) ?_
            by_cases hc44 : x1 < (5 : Int32)
            · refine own_via (T' := s₁) (g' := (mkF m 100 #[.val (.ref x0), .val (.int x1), .val (.int pp), .val (.int (nb.toInt32)), .val (.int ((nb.toInt32) - pp))] [(.int pp)])) (fun t k => XS.icmpYes X0.here hx rfl (pc0 := 81) (pc' := 99) rfl (hb hby own_d5_81) rfl (tlt hc44).1 (by decide) (by decide) (XS.iloadN X0.here hx rfl (hb hby own_d5_99) rfl k)) ?_
              refine own_retI X0 hx hlk hret (hb hby own_d5_100) (by decide) (by decide) ?_
              rw [e0]; exact ⟨by rw [own_step, if_pos hc1, if_pos hc2, if_neg hc3, if_neg hc27, if_neg hc39, if_pos hc44] <;> rfl, N0, K0, E_x0, F_body, (by rw [own_step_x0_position, if_pos hc1, if_pos hc2, if_neg hc3, if_neg hc27, if_neg hc39, if_pos hc44]; exact F_pos)⟩
            · refine own_via (T' := s₁) (g' := (mkF m 87 #[.val (.ref x0), .val (.int x1), .val (.int pp), .val (.int (nb.toInt32)), .val (.int ((nb.toInt32) - pp))] [(.int (1 : Int32)), (.int ((nb.toInt32) - pp))])) (fun t k => XS.icmpNo X0.here hx rfl (hb hby own_d5_81) rfl (flt hc44).1 (XS.iload X0.here hx rfl (hb hby own_d5_84) rfl (XS.iconst X0.here hx rfl (hb hby own_d5_86) k))) ?_
              refine own_via (T' := s₁) (g' := (mkF m 100 #[.val (.ref x0), .val (.int x1), .val (.int pp), .val (.int (nb.toInt32)), .val (.int ((nb.toInt32) - pp))] [(.int pp)])) (fun t k => XS.icmpYes X0.here hx rfl (pc0 := 87) (pc' := 99) rfl (hb hby own_d5_87) rfl (tlt hc2).1 (by decide) (by decide) (XS.iloadN X0.here hx rfl (hb hby own_d5_99) rfl k)) ?_
              refine own_retI X0 hx hlk hret (hb hby own_d5_100) (by decide) (by decide) ?_
              rw [e0]; exact ⟨by rw [own_step, if_pos hc1, if_pos hc2, if_neg hc3, if_neg hc27, if_neg hc39, if_neg hc44] <;> rfl, N0, K0, E_x0, F_body, (by rw [own_step_x0_position, if_pos hc1, if_pos hc2, if_neg hc3, if_neg hc27, if_neg hc39, if_neg hc44]; exact F_pos)⟩
    · refine own_via (T' := s₁) (g' := (mkF m 17 #[.val (.ref x0), .val (.int x1), .val (.int pp), .val (.int (nb.toInt32)), .val (.int ((nb.toInt32) - pp))] [(.ref x0)])) (fun t k => XS.icmpNo X0.here hx rfl (hb hby own_d5_13) rfl (flt hc2).1 (XS.aloadN X0.here hx rfl (hb hby own_d5_16) rfl rfl k)) ?_
      obtain ⟨v45, T45, L45, X45, hQ45, st45⟩ := own_callVi (y := (⟨"com/example/concordia/concordia/wire/FrameReader", "readBoolean", "()Z"⟩ : MethodName)) (z := (⟨"com/example/concordia/concordia/wire/FrameReader", "readBoolean", "()Z"⟩ : MethodName)) (a := x0) (C := "com/example/concordia/concordia/wire/FrameReader") (argsL := []) (rest := []) X0 hx hZ hown (hw _ (List.mem_of_getElem? (i := 44) rfl)) (hw _ (List.mem_of_getElem? (i := 45) rfl)) (notFace_of_selects (args := #[]) (mvT hZ (hw _ (List.mem_of_getElem? (i := 47) rfl)))) (hw _ (List.mem_of_getElem? (i := 47) rfl)) (hw _ (List.mem_of_getElem? (i := 46) rfl)) (hw _ (List.mem_of_getElem? (i := 7) rfl)) (hw _ (List.mem_of_getElem? (i := 48) rfl)) (by decide) E_x0 (own_mt8 l Z a0 hw x0 bb pp nb h0 n0 Z0 ge_x0 ne_x0_bb E_x0 F_body F_pos V_bb hnb hpp hc2) e0 (W := 0) (by decide) (by decide) (g := (mkF m 17 #[.val (.ref x0), .val (.int x1), .val (.int pp), .val (.int (nb.toInt32)), .val (.int ((nb.toInt32) - pp))] [(.ref x0)])) rfl (by rw [hml]; rfl) (lenOf own_pd8 rfl) rfl (by show 2 * 0 + _ ≤ _; exact Nat.le_of_eq rfl) (hb hby own_d5_17) (by decide) (by decide)
      obtain ⟨rfl, Nq45, K45q, G45_0, G45_1, G45_2⟩ := hQ45
      have N45 := Fr.app N0 Nq45
      have Z45 : n0 ≤ T45.heap.size := Nat.le_trans Z0 K45q.1
      have K45 : Keep h0 T45.heap [x0] := K0.trans K45q (allS (Or.inl (List.mem_of_getElem? (i := 0) rfl)) all0)
      have E_x0_at46 := E_x0.keep K45q
      have V_bb_at47 := V_bb.keep K45q (ninS (Ne.symm ne_x0_bb) nin0)
      have E_bb_at48 := E_bb.keep K45q
      refine own_via (T' := T45) (g' := (mkF m 20 #[.val (.ref x0), .val (.int x1), .val (.int pp), .val (.int (nb.toInt32)), .val (.int ((nb.toInt32) - pp))] [(.int (0 : Int32))])) st45 ?_
      refine own_via (T' := T45) (g' := (mkF m 24 #[.val (.ref x0), .val (.int x1), .val (.int pp), .val (.int (nb.toInt32)), .val (.int ((nb.toInt32) - pp))] [(.int (pp + (1 : Int32)))])) (fun t k => XS.pop X45.here hx rfl (hb hby own_d5_20) rfl rfl (XS.iloadN X45.here hx rfl (hb hby own_d5_21) rfl (XS.iconst X45.here hx rfl (hb hby own_d5_22) (XS.iadd X45.here hx rfl (hb hby own_d5_23) rfl k)))) ?_
      refine own_retI X45 hx hlk hret (hb hby own_d5_24) (by decide) (by decide) ?_
      exact ⟨by rw [own_step, if_pos hc1, if_neg hc2] <;> rfl, N45, K45, G45_0, G45_1, (by rw [own_step_x0_position, if_pos hc1, if_neg hc2]; exact G45_2)⟩
  · refine own_via (T' := s₁) (g' := (mkF m 27 #[.val (.ref x0), .val (.int x1), .val (.int pp), .val (.int (nb.toInt32)), .val (.int ((nb.toInt32) - pp))] [(.int (2 : Int32)), (.int x1)])) (fun t k => XS.icmpYes X0.here hx rfl (pc0 := 7) (pc' := 25) rfl (hb hby own_d5_7) rfl (feq hc1).2 (by decide) (by decide) (XS.iloadN X0.here hx rfl (hb hby own_d5_25) rfl (XS.iconst X0.here hx rfl (hb hby own_d5_26) k))) ?_
    by_cases hc49 : x1 = (2 : Int32)
    · refine own_via (T' := s₁) (g' := (mkF m 33 #[.val (.ref x0), .val (.int x1), .val (.int pp), .val (.int (nb.toInt32)), .val (.int ((nb.toInt32) - pp))] [(.int (4 : Int32)), (.int ((nb.toInt32) - pp))])) (fun t k => XS.icmpNo X0.here hx rfl (hb hby own_d5_27) rfl (teq hc49).2 (XS.iload X0.here hx rfl (hb hby own_d5_30) rfl (XS.iconst X0.here hx rfl (hb hby own_d5_32) k))) ?_
      by_cases hc50 : ((nb.toInt32) - pp) < (4 : Int32)
      · refine own_via (T' := s₁) (g' := (mkF m 47 #[.val (.ref x0), .val (.int x1), .val (.int pp), .val (.int (nb.toInt32)), .val (.int ((nb.toInt32) - pp))] [(.int (3 : Int32)), (.int x1)])) (fun t k => XS.icmpYes X0.here hx rfl (pc0 := 33) (pc' := 45) rfl (hb hby own_d5_33) rfl (tlt hc50).1 (by decide) (by decide) (XS.iloadN X0.here hx rfl (hb hby own_d5_45) rfl (XS.iconst X0.here hx rfl (hb hby own_d5_46) k))) ?_
        by_cases hc51 : x1 = (3 : Int32)
        · refine own_via (T' := s₁) (g' := (mkF m 54 #[.val (.ref x0), .val (.int x1), .val (.int pp), .val (.int (nb.toInt32)), .val (.int ((nb.toInt32) - pp))] [(.int (8 : Int32)), (.int ((nb.toInt32) - pp))])) (fun t k => XS.icmpNo X0.here hx rfl (hb hby own_d5_47) rfl (teq hc51).2 (XS.iload X0.here hx rfl (hb hby own_d5_50) rfl (XS.bipush X0.here hx rfl (hb hby own_d5_52) k))) ?_
          by_cases hc52 : ((nb.toInt32) - pp) < (8 : Int32)
          · refine own_via (T' := s₁) (g' := (mkF m 69 #[.val (.ref x0), .val (.int x1), .val (.int pp), .val (.int (nb.toInt32)), .val (.int ((nb.toInt32) - pp))] [(.int (4 : Int32)), (.int x1)])) (fun t k => XS.icmpYes X0.here hx rfl (pc0 := 54) (pc' := 67) rfl (hb hby own_d5_54) rfl (tlt hc52).1 (by decide) (by decide) (XS.iloadN X0.here hx rfl (hb hby own_d5_67) rfl (XS.iconst X0.here hx rfl (hb hby own_d5_68) k))) ?_
            by_cases hc53 : x1 = (4 : Int32)
            · refine own_via (T' := s₁) (g' := (mkF m 73 #[.val (.ref x0), .val (.int x1), .val (.int pp), .val (.int (nb.toInt32)), .val (.int ((nb.toInt32) - pp))] [(.ref x0)])) (fun t k => XS.icmpNo X0.here hx rfl (hb hby own_d5_69) rfl (teq hc53).2 (XS.aloadN X0.here hx rfl (hb hby own_d5_72) rfl rfl k)) ?_
              obtain ⟨v54, T54, L54, X54, hQ54, st54⟩ := own_callVi (y := (⟨"com/example/concordia/concordia/wire/FrameReader", "readRest", "()[B"⟩ : MethodName)) (z := (⟨"com/example/concordia/concordia/wire/FrameReader", "readRest", "()[B"⟩ : MethodName)) (a := x0) (C := "com/example/concordia/concordia/wire/FrameReader") (argsL := []) (rest := []) X0 hx hZ hown (hw _ (List.mem_of_getElem? (i := 26) rfl)) (hw _ (List.mem_of_getElem? (i := 27) rfl)) (notFace_of_selects (args := #[]) (mvT hZ (hw _ (List.mem_of_getElem? (i := 29) rfl)))) (hw _ (List.mem_of_getElem? (i := 29) rfl)) (hw _ (List.mem_of_getElem? (i := 28) rfl)) (hw _ (List.mem_of_getElem? (i := 7) rfl)) (hw _ (List.mem_of_getElem? (i := 30) rfl)) (by decide) E_x0 (own_mt6 l Z a0 hw x0 bb pp nb h0 n0 Z0 ge_x0 ne_x0_bb E_x0 F_body F_pos V_bb E_bb hnb hpp) e0 (W := 0) (by decide) (by decide) (g := (mkF m 73 #[.val (.ref x0), .val (.int x1), .val (.int pp), .val (.int (nb.toInt32)), .val (.int ((nb.toInt32) - pp))] [(.ref x0)])) rfl (by rw [hml]; rfl) (lenOf own_pd5 rfl) rfl (by show 2 * 0 + _ ≤ _; exact Nat.le_of_eq rfl) (hb hby own_d5_73) (by decide) (by decide)
              obtain ⟨r54, rfl, Nq54, K54q, G54_0, G54_1, G54_2⟩ := hQ54
              have N54 := Fr.app N0 Nq54
              have Z54 : n0 ≤ T54.heap.size := Nat.le_trans Z0 K54q.1
              have K54 : Keep h0 T54.heap [x0] := K0.trans K54q (allS (Or.inl (List.mem_of_getElem? (i := 0) rfl)) all0)
              have E_x0_at55 := E_x0.keep K54q
              have V_bb_at56 := V_bb.keep K54q (ninS (Ne.symm ne_x0_bb) nin0)
              have E_bb_at57 := E_bb.keep K54q
              refine own_via (T' := T54) (g' := (mkF m 76 #[.val (.ref x0), .val (.int x1), .val (.int pp), .val (.int (nb.toInt32)), .val (.int ((nb.toInt32) - pp))] [(.ref r54)])) st54 ?_
              refine own_via (T' := T54) (g' := (mkF m 78 #[.val (.ref x0), .val (.int x1), .val (.int pp), .val (.int (nb.toInt32)), .val (.int ((nb.toInt32) - pp))] [(.int (nb.toInt32))])) (fun t k => XS.pop X54.here hx rfl (hb hby own_d5_76) rfl rfl (XS.iloadN X54.here hx rfl (hb hby own_d5_77) rfl k)) ?_
              refine own_retI X54 hx hlk hret (hb hby own_d5_78) (by decide) (by decide) ?_
              exact ⟨by rw [own_step, if_neg hc1, if_pos hc49, if_pos hc50, if_pos hc51, if_pos hc52, if_pos hc53] <;> rfl, N54, K54, G54_0, G54_1, (by rw [own_step_x0_position, if_neg hc1, if_pos hc49, if_pos hc50, if_pos hc51, if_pos hc52, if_pos hc53]; exact G54_2)⟩
            · refine own_via (T' := s₁) (g' := (mkF m 81 #[.val (.ref x0), .val (.int x1), .val (.int pp), .val (.int (nb.toInt32)), .val (.int ((nb.toInt32) - pp))] [(.int (5 : Int32)), (.int x1)])) (fun t k => XS.icmpYes X0.here hx rfl (pc0 := 69) (pc' := 79) rfl (hb hby own_d5_69) rfl (feq hc53).2 (by decide) (by decide) (XS.iloadN X0.here hx rfl (hb hby own_d5_79) rfl (XS.iconst X0.here hx rfl (hb hby own_d5_80) k))) ?_
              by_cases hc58 : x1 < (5 : Int32)
              · refine own_via (T' := s₁) (g' := (mkF m 100 #[.val (.ref x0), .val (.int x1), .val (.int pp), .val (.int (nb.toInt32)), .val (.int ((nb.toInt32) - pp))] [(.int pp)])) (fun t k => XS.icmpYes X0.here hx rfl (pc0 := 81) (pc' := 99) rfl (hb hby own_d5_81) rfl (tlt hc58).1 (by decide) (by decide) (XS.iloadN X0.here hx rfl (hb hby own_d5_99) rfl k)) ?_
                refine own_retI X0 hx hlk hret (hb hby own_d5_100) (by decide) (by decide) ?_
                rw [e0]; exact ⟨by rw [own_step, if_neg hc1, if_pos hc49, if_pos hc50, if_pos hc51, if_pos hc52, if_neg hc53, if_pos hc58] <;> rfl, N0, K0, E_x0, F_body, (by rw [own_step_x0_position, if_neg hc1, if_pos hc49, if_pos hc50, if_pos hc51, if_pos hc52, if_neg hc53, if_pos hc58]; exact F_pos)⟩
              · refine own_via (T' := s₁) (g' := (mkF m 87 #[.val (.ref x0), .val (.int x1), .val (.int pp), .val (.int (nb.toInt32)), .val (.int ((nb.toInt32) - pp))] [(.int (1 : Int32)), (.int ((nb.toInt32) - pp))])) (fun t k => XS.icmpNo X0.here hx rfl (hb hby own_d5_81) rfl (flt hc58).1 (XS.iload X0.here hx rfl (hb hby own_d5_84) rfl (XS.iconst X0.here hx rfl (hb hby own_d5_86) k))) ?_
                by_cases hc59 : ((nb.toInt32) - pp) < (1 : Int32)
                · refine own_via (T' := s₁) (g' := (mkF m 100 #[.val (.ref x0), .val (.int x1), .val (.int pp), .val (.int (nb.toInt32)), .val (.int ((nb.toInt32) - pp))] [(.int pp)])) (fun t k => XS.icmpYes X0.here hx rfl (pc0 := 87) (pc' := 99) rfl (hb hby own_d5_87) rfl (tlt hc59).1 (by decide) (by decide) (XS.iloadN X0.here hx rfl (hb hby own_d5_99) rfl k)) ?_
                  refine own_retI X0 hx hlk hret (hb hby own_d5_100) (by decide) (by decide) ?_
                  rw [e0]; exact ⟨by rw [own_step, if_neg hc1, if_pos hc49, if_pos hc50, if_pos hc51, if_pos hc52, if_neg hc53, if_neg hc58, if_pos hc59] <;> rfl, N0, K0, E_x0, F_body, (by rw [own_step_x0_position, if_neg hc1, if_pos hc49, if_pos hc50, if_pos hc51, if_pos hc52, if_neg hc53, if_neg hc58, if_pos hc59]; exact F_pos)⟩
                · refine own_via (T' := s₁) (g' := (mkF m 91 #[.val (.ref x0), .val (.int x1), .val (.int pp), .val (.int (nb.toInt32)), .val (.int ((nb.toInt32) - pp))] [(.ref x0)])) (fun t k => XS.icmpNo X0.here hx rfl (hb hby own_d5_87) rfl (flt hc59).1 (XS.aloadN X0.here hx rfl (hb hby own_d5_90) rfl rfl k)) ?_
                  obtain ⟨v60, T60, L60, X60, hQ60, st60⟩ := own_callVi (y := (⟨"com/example/concordia/concordia/wire/FrameReader", "readBoolean", "()Z"⟩ : MethodName)) (z := (⟨"com/example/concordia/concordia/wire/FrameReader", "readBoolean", "()Z"⟩ : MethodName)) (a := x0) (C := "com/example/concordia/concordia/wire/FrameReader") (argsL := []) (rest := []) X0 hx hZ hown (hw _ (List.mem_of_getElem? (i := 44) rfl)) (hw _ (List.mem_of_getElem? (i := 45) rfl)) (notFace_of_selects (args := #[]) (mvT hZ (hw _ (List.mem_of_getElem? (i := 47) rfl)))) (hw _ (List.mem_of_getElem? (i := 47) rfl)) (hw _ (List.mem_of_getElem? (i := 46) rfl)) (hw _ (List.mem_of_getElem? (i := 7) rfl)) (hw _ (List.mem_of_getElem? (i := 48) rfl)) (by decide) E_x0 (own_mt8 l Z a0 hw x0 bb pp nb h0 n0 Z0 ge_x0 ne_x0_bb E_x0 F_body F_pos V_bb hnb hpp hc59) e0 (W := 0) (by decide) (by decide) (g := (mkF m 91 #[.val (.ref x0), .val (.int x1), .val (.int pp), .val (.int (nb.toInt32)), .val (.int ((nb.toInt32) - pp))] [(.ref x0)])) rfl (by rw [hml]; rfl) (lenOf own_pd8 rfl) rfl (by show 2 * 0 + _ ≤ _; exact Nat.le_of_eq rfl) (hb hby own_d5_91) (by decide) (by decide)
                  obtain ⟨rfl, Nq60, K60q, G60_0, G60_1, G60_2⟩ := hQ60
                  have N60 := Fr.app N0 Nq60
                  have Z60 : n0 ≤ T60.heap.size := Nat.le_trans Z0 K60q.1
                  have K60 : Keep h0 T60.heap [x0] := K0.trans K60q (allS (Or.inl (List.mem_of_getElem? (i := 0) rfl)) all0)
                  have E_x0_at61 := E_x0.keep K60q
                  have V_bb_at62 := V_bb.keep K60q (ninS (Ne.symm ne_x0_bb) nin0)
                  have E_bb_at63 := E_bb.keep K60q
                  refine own_via (T' := T60) (g' := (mkF m 94 #[.val (.ref x0), .val (.int x1), .val (.int pp), .val (.int (nb.toInt32)), .val (.int ((nb.toInt32) - pp))] [(.int (0 : Int32))])) st60 ?_
                  refine own_via (T' := T60) (g' := (mkF m 98 #[.val (.ref x0), .val (.int x1), .val (.int pp), .val (.int (nb.toInt32)), .val (.int ((nb.toInt32) - pp))] [(.int (pp + (1 : Int32)))])) (fun t k => XS.pop X60.here hx rfl (hb hby own_d5_94) rfl rfl (XS.iloadN X60.here hx rfl (hb hby own_d5_95) rfl (XS.iconst X60.here hx rfl (hb hby own_d5_96) (XS.iadd X60.here hx rfl (hb hby own_d5_97) rfl k)))) ?_
                  refine own_retI X60 hx hlk hret (hb hby own_d5_98) (by decide) (by decide) ?_
                  exact ⟨by rw [own_step, if_neg hc1, if_pos hc49, if_pos hc50, if_pos hc51, if_pos hc52, if_neg hc53, if_neg hc58, if_neg hc59] <;> rfl, N60, K60, G60_0, G60_1, (by rw [own_step_x0_position, if_neg hc1, if_pos hc49, if_pos hc50, if_pos hc51, if_pos hc52, if_neg hc53, if_neg hc58, if_neg hc59]; exact G60_2)⟩
          · refine own_via (T' := s₁) (g' := (mkF m 58 #[.val (.ref x0), .val (.int x1), .val (.int pp), .val (.int (nb.toInt32)), .val (.int ((nb.toInt32) - pp))] [(.ref x0)])) (fun t k => XS.icmpNo X0.here hx rfl (hb hby own_d5_54) rfl (flt hc52).1 (XS.aloadN X0.here hx rfl (hb hby own_d5_57) rfl rfl k)) ?_
            obtain ⟨v64, T64, L64, X64, hQ64, st64⟩ := own_callVi (y := (⟨"com/example/concordia/concordia/wire/FrameReader", "readLong", "()J"⟩ : MethodName)) (z := (⟨"com/example/concordia/concordia/wire/FrameReader", "readLong", "()J"⟩ : MethodName)) (a := x0) (C := "com/example/concordia/concordia/wire/FrameReader") (argsL := []) (rest := []) X0 hx hZ hown (hw _ (List.mem_of_getElem? (i := 76) rfl)) (hw _ (List.mem_of_getElem? (i := 77) rfl)) (notFace_of_selects (args := #[]) (mvT hZ (hw _ (List.mem_of_getElem? (i := 79) rfl)))) (hw _ (List.mem_of_getElem? (i := 79) rfl)) (hw _ (List.mem_of_getElem? (i := 78) rfl)) (hw _ (List.mem_of_getElem? (i := 7) rfl)) (hw _ (List.mem_of_getElem? (i := 80) rfl)) (by decide) E_x0 (own_mt15 l Z a0 hw x0 bb pp nb h0 n0 Z0 ge_x0 ne_x0_bb E_x0 F_body F_pos V_bb hnb hpp hc52) e0 (W := 0) (by decide) (by decide) (g := (mkF m 58 #[.val (.ref x0), .val (.int x1), .val (.int pp), .val (.int (nb.toInt32)), .val (.int ((nb.toInt32) - pp))] [(.ref x0)])) rfl (by rw [hml]; rfl) (lenOf own_pd6 rfl) rfl (by show 2 * 0 + _ ≤ _; exact Nat.le_of_eq rfl) (hb hby own_d5_58) (by decide) (by decide)
            obtain ⟨rfl, Nq64, K64q, G64_0, G64_1, G64_2⟩ := hQ64
            have N64 := Fr.app N0 Nq64
            have Z64 : n0 ≤ T64.heap.size := Nat.le_trans Z0 K64q.1
            have K64 : Keep h0 T64.heap [x0] := K0.trans K64q (allS (Or.inl (List.mem_of_getElem? (i := 0) rfl)) all0)
            have E_x0_at65 := E_x0.keep K64q
            have V_bb_at66 := V_bb.keep K64q (ninS (Ne.symm ne_x0_bb) nin0)
            have E_bb_at67 := E_bb.keep K64q
            refine own_via (T' := T64) (g' := (mkF m 61 #[.val (.ref x0), .val (.int x1), .val (.int pp), .val (.int (nb.toInt32)), .val (.int ((nb.toInt32) - pp))] [(.long (0 : Int64))])) st64 ?_
            refine own_via (T' := T64) (g' := (mkF m 62 #[.val (.ref x0), .val (.int x1), .val (.int pp), .val (.int (nb.toInt32)), .val (.int ((nb.toInt32) - pp))] [])) (fun t k => by jvm_step X64.here [X64.here.top, hx, (hb hby own_d5_61), Value.category]; exact k) ?_
            refine own_via (T' := T64) (g' := (mkF m 66 #[.val (.ref x0), .val (.int x1), .val (.int pp), .val (.int (nb.toInt32)), .val (.int ((nb.toInt32) - pp))] [(.int (pp + (8 : Int32)))])) (fun t k => XS.iloadN X64.here hx rfl (hb hby own_d5_62) rfl (XS.bipush X64.here hx rfl (hb hby own_d5_63) (XS.iadd X64.here hx rfl (hb hby own_d5_65) rfl k))) ?_
            refine own_retI X64 hx hlk hret (hb hby own_d5_66) (by decide) (by decide) ?_
            exact ⟨by rw [own_step, if_neg hc1, if_pos hc49, if_pos hc50, if_pos hc51, if_neg hc52] <;> rfl, N64, K64, G64_0, G64_1, (by rw [own_step_x0_position, if_neg hc1, if_pos hc49, if_pos hc50, if_pos hc51, if_neg hc52]; exact G64_2)⟩
        · refine own_via (T' := s₁) (g' := (mkF m 69 #[.val (.ref x0), .val (.int x1), .val (.int pp), .val (.int (nb.toInt32)), .val (.int ((nb.toInt32) - pp))] [(.int (4 : Int32)), (.int x1)])) (fun t k => XS.icmpYes X0.here hx rfl (pc0 := 47) (pc' := 67) rfl (hb hby own_d5_47) rfl (feq hc51).2 (by decide) (by decide) (XS.iloadN X0.here hx rfl (hb hby own_d5_67) rfl (XS.iconst X0.here hx rfl (hb hby own_d5_68) k))) ?_
          by_cases hc68 : x1 = (4 : Int32)
          · refine own_via (T' := s₁) (g' := (mkF m 73 #[.val (.ref x0), .val (.int x1), .val (.int pp), .val (.int (nb.toInt32)), .val (.int ((nb.toInt32) - pp))] [(.ref x0)])) (fun t k => XS.icmpNo X0.here hx rfl (hb hby own_d5_69) rfl (teq hc68).2 (XS.aloadN X0.here hx rfl (hb hby own_d5_72) rfl rfl k)) ?_
            obtain ⟨v69, T69, L69, X69, hQ69, st69⟩ := own_callVi (y := (⟨"com/example/concordia/concordia/wire/FrameReader", "readRest", "()[B"⟩ : MethodName)) (z := (⟨"com/example/concordia/concordia/wire/FrameReader", "readRest", "()[B"⟩ : MethodName)) (a := x0) (C := "com/example/concordia/concordia/wire/FrameReader") (argsL := []) (rest := []) X0 hx hZ hown (hw _ (List.mem_of_getElem? (i := 26) rfl)) (hw _ (List.mem_of_getElem? (i := 27) rfl)) (notFace_of_selects (args := #[]) (mvT hZ (hw _ (List.mem_of_getElem? (i := 29) rfl)))) (hw _ (List.mem_of_getElem? (i := 29) rfl)) (hw _ (List.mem_of_getElem? (i := 28) rfl)) (hw _ (List.mem_of_getElem? (i := 7) rfl)) (hw _ (List.mem_of_getElem? (i := 30) rfl)) (by decide) E_x0 (own_mt6 l Z a0 hw x0 bb pp nb h0 n0 Z0 ge_x0 ne_x0_bb E_x0 F_body F_pos V_bb E_bb hnb hpp) e0 (W := 0) (by decide) (by decide) (g := (mkF m 73 #[.val (.ref x0), .val (.int x1), .val (.int pp), .val (.int (nb.toInt32)), .val (.int ((nb.toInt32) - pp))] [(.ref x0)])) rfl (by rw [hml]; rfl) (lenOf own_pd5 rfl) rfl (by show 2 * 0 + _ ≤ _; exact Nat.le_of_eq rfl) (hb hby own_d5_73) (by decide) (by decide)
            obtain ⟨r69, rfl, Nq69, K69q, G69_0, G69_1, G69_2⟩ := hQ69
            have N69 := Fr.app N0 Nq69
            have Z69 : n0 ≤ T69.heap.size := Nat.le_trans Z0 K69q.1
            have K69 : Keep h0 T69.heap [x0] := K0.trans K69q (allS (Or.inl (List.mem_of_getElem? (i := 0) rfl)) all0)
            have E_x0_at70 := E_x0.keep K69q
            have V_bb_at71 := V_bb.keep K69q (ninS (Ne.symm ne_x0_bb) nin0)
            have E_bb_at72 := E_bb.keep K69q
            refine own_via (T' := T69) (g' := (mkF m 76 #[.val (.ref x0), .val (.int x1), .val (.int pp), .val (.int (nb.toInt32)), .val (.int ((nb.toInt32) - pp))] [(.ref r69)])) st69 ?_
            refine own_via (T' := T69) (g' := (mkF m 78 #[.val (.ref x0), .val (.int x1), .val (.int pp), .val (.int (nb.toInt32)), .val (.int ((nb.toInt32) - pp))] [(.int (nb.toInt32))])) (fun t k => XS.pop X69.here hx rfl (hb hby own_d5_76) rfl rfl (XS.iloadN X69.here hx rfl (hb hby own_d5_77) rfl k)) ?_
            refine own_retI X69 hx hlk hret (hb hby own_d5_78) (by decide) (by decide) ?_
            exact ⟨by rw [own_step, if_neg hc1, if_pos hc49, if_pos hc50, if_neg hc51, if_pos hc68] <;> rfl, N69, K69, G69_0, G69_1, (by rw [own_step_x0_position, if_neg hc1, if_pos hc49, if_pos hc50, if_neg hc51, if_pos hc68]; exact G69_2)⟩
          · refine own_via (T' := s₁) (g' := (mkF m 81 #[.val (.ref x0), .val (.int x1), .val (.int pp), .val (.int (nb.toInt32)), .val (.int ((nb.toInt32) - pp))] [(.int (5 : Int32)), (.int x1)])) (fun t k => XS.icmpYes X0.here hx rfl (pc0 := 69) (pc' := 79) rfl (hb hby own_d5_69) rfl (feq hc68).2 (by decide) (by decide) (XS.iloadN X0.here hx rfl (hb hby own_d5_79) rfl (XS.iconst X0.here hx rfl (hb hby own_d5_80) k))) ?_
            by_cases hc73 : x1 < (5 : Int32)
            · refine own_via (T' := s₁) (g' := (mkF m 100 #[.val (.ref x0), .val (.int x1), .val (.int pp), .val (.int (nb.toInt32)), .val (.int ((nb.toInt32) - pp))] [(.int pp)])) (fun t k => XS.icmpYes X0.here hx rfl (pc0 := 81) (pc' := 99) rfl (hb hby own_d5_81) rfl (tlt hc73).1 (by decide) (by decide) (XS.iloadN X0.here hx rfl (hb hby own_d5_99) rfl k)) ?_
              refine own_retI X0 hx hlk hret (hb hby own_d5_100) (by decide) (by decide) ?_
              rw [e0]; exact ⟨by rw [own_step, if_neg hc1, if_pos hc49, if_pos hc50, if_neg hc51, if_neg hc68, if_pos hc73] <;> rfl, N0, K0, E_x0, F_body, (by rw [own_step_x0_position, if_neg hc1, if_pos hc49, if_pos hc50, if_neg hc51, if_neg hc68, if_pos hc73]; exact F_pos)⟩
            · refine own_via (T' := s₁) (g' := (mkF m 87 #[.val (.ref x0), .val (.int x1), .val (.int pp), .val (.int (nb.toInt32)), .val (.int ((nb.toInt32) - pp))] [(.int (1 : Int32)), (.int ((nb.toInt32) - pp))])) (fun t k => XS.icmpNo X0.here hx rfl (hb hby own_d5_81) rfl (flt hc73).1 (XS.iload X0.here hx rfl (hb hby own_d5_84) rfl (XS.iconst X0.here hx rfl (hb hby own_d5_86) k))) ?_
              by_cases hc74 : ((nb.toInt32) - pp) < (1 : Int32)
              · refine own_via (T' := s₁) (g' := (mkF m 100 #[.val (.ref x0), .val (.int x1), .val (.int pp), .val (.int (nb.toInt32)), .val (.int ((nb.toInt32) - pp))] [(.int pp)])) (fun t k => XS.icmpYes X0.here hx rfl (pc0 := 87) (pc' := 99) rfl (hb hby own_d5_87) rfl (tlt hc74).1 (by decide) (by decide) (XS.iloadN X0.here hx rfl (hb hby own_d5_99) rfl k)) ?_
                refine own_retI X0 hx hlk hret (hb hby own_d5_100) (by decide) (by decide) ?_
                rw [e0]; exact ⟨by rw [own_step, if_neg hc1, if_pos hc49, if_pos hc50, if_neg hc51, if_neg hc68, if_neg hc73, if_pos hc74] <;> rfl, N0, K0, E_x0, F_body, (by rw [own_step_x0_position, if_neg hc1, if_pos hc49, if_pos hc50, if_neg hc51, if_neg hc68, if_neg hc73, if_pos hc74]; exact F_pos)⟩
              · refine own_via (T' := s₁) (g' := (mkF m 91 #[.val (.ref x0), .val (.int x1), .val (.int pp), .val (.int (nb.toInt32)), .val (.int ((nb.toInt32) - pp))] [(.ref x0)])) (fun t k => XS.icmpNo X0.here hx rfl (hb hby own_d5_87) rfl (flt hc74).1 (XS.aloadN X0.here hx rfl (hb hby own_d5_90) rfl rfl k)) ?_
                obtain ⟨v75, T75, L75, X75, hQ75, st75⟩ := own_callVi (y := (⟨"com/example/concordia/concordia/wire/FrameReader", "readBoolean", "()Z"⟩ : MethodName)) (z := (⟨"com/example/concordia/concordia/wire/FrameReader", "readBoolean", "()Z"⟩ : MethodName)) (a := x0) (C := "com/example/concordia/concordia/wire/FrameReader") (argsL := []) (rest := []) X0 hx hZ hown (hw _ (List.mem_of_getElem? (i := 44) rfl)) (hw _ (List.mem_of_getElem? (i := 45) rfl)) (notFace_of_selects (args := #[]) (mvT hZ (hw _ (List.mem_of_getElem? (i := 47) rfl)))) (hw _ (List.mem_of_getElem? (i := 47) rfl)) (hw _ (List.mem_of_getElem? (i := 46) rfl)) (hw _ (List.mem_of_getElem? (i := 7) rfl)) (hw _ (List.mem_of_getElem? (i := 48) rfl)) (by decide) E_x0 (own_mt8 l Z a0 hw x0 bb pp nb h0 n0 Z0 ge_x0 ne_x0_bb E_x0 F_body F_pos V_bb hnb hpp hc74) e0 (W := 0) (by decide) (by decide) (g := (mkF m 91 #[.val (.ref x0), .val (.int x1), .val (.int pp), .val (.int (nb.toInt32)), .val (.int ((nb.toInt32) - pp))] [(.ref x0)])) rfl (by rw [hml]; rfl) (lenOf own_pd8 rfl) rfl (by show 2 * 0 + _ ≤ _; exact Nat.le_of_eq rfl) (hb hby own_d5_91) (by decide) (by decide)
                obtain ⟨rfl, Nq75, K75q, G75_0, G75_1, G75_2⟩ := hQ75
                have N75 := Fr.app N0 Nq75
                have Z75 : n0 ≤ T75.heap.size := Nat.le_trans Z0 K75q.1
                have K75 : Keep h0 T75.heap [x0] := K0.trans K75q (allS (Or.inl (List.mem_of_getElem? (i := 0) rfl)) all0)
                have E_x0_at76 := E_x0.keep K75q
                have V_bb_at77 := V_bb.keep K75q (ninS (Ne.symm ne_x0_bb) nin0)
                have E_bb_at78 := E_bb.keep K75q
                refine own_via (T' := T75) (g' := (mkF m 94 #[.val (.ref x0), .val (.int x1), .val (.int pp), .val (.int (nb.toInt32)), .val (.int ((nb.toInt32) - pp))] [(.int (0 : Int32))])) st75 ?_
                refine own_via (T' := T75) (g' := (mkF m 98 #[.val (.ref x0), .val (.int x1), .val (.int pp), .val (.int (nb.toInt32)), .val (.int ((nb.toInt32) - pp))] [(.int (pp + (1 : Int32)))])) (fun t k => XS.pop X75.here hx rfl (hb hby own_d5_94) rfl rfl (XS.iloadN X75.here hx rfl (hb hby own_d5_95) rfl (XS.iconst X75.here hx rfl (hb hby own_d5_96) (XS.iadd X75.here hx rfl (hb hby own_d5_97) rfl k)))) ?_
                refine own_retI X75 hx hlk hret (hb hby own_d5_98) (by decide) (by decide) ?_
                exact ⟨by rw [own_step, if_neg hc1, if_pos hc49, if_pos hc50, if_neg hc51, if_neg hc68, if_neg hc73, if_neg hc74] <;> rfl, N75, K75, G75_0, G75_1, (by rw [own_step_x0_position, if_neg hc1, if_pos hc49, if_pos hc50, if_neg hc51, if_neg hc68, if_neg hc73, if_neg hc74]; exact G75_2)⟩
      · refine own_via (T' := s₁) (g' := (mkF m 37 #[.val (.ref x0), .val (.int x1), .val (.int pp), .val (.int (nb.toInt32)), .val (.int ((nb.toInt32) - pp))] [(.ref x0)])) (fun t k => XS.icmpNo X0.here hx rfl (hb hby own_d5_33) rfl (flt hc50).1 (XS.aloadN X0.here hx rfl (hb hby own_d5_36) rfl rfl k)) ?_
        obtain ⟨v79, T79, L79, X79, hQ79, st79⟩ := own_callVi (y := (⟨"com/example/concordia/concordia/wire/FrameReader", "readInt", "()I"⟩ : MethodName)) (z := (⟨"com/example/concordia/concordia/wire/FrameReader", "readInt", "()I"⟩ : MethodName)) (a := x0) (C := "com/example/concordia/concordia/wire/FrameReader") (argsL := []) (rest := []) X0 hx hZ hown (hw _ (List.mem_of_getElem? (i := 53) rfl)) (hw _ (List.mem_of_getElem? (i := 54) rfl)) (notFace_of_selects (args := #[]) (mvT hZ (hw _ (List.mem_of_getElem? (i := 56) rfl)))) (hw _ (List.mem_of_getElem? (i := 56) rfl)) (hw _ (List.mem_of_getElem? (i := 55) rfl)) (hw _ (List.mem_of_getElem? (i := 7) rfl)) (hw _ (List.mem_of_getElem? (i := 57) rfl)) (by decide) E_x0 (own_mt10 l Z a0 hw x0 bb pp nb h0 n0 Z0 ge_x0 ne_x0_bb E_x0 F_body F_pos V_bb hnb hpp hc50) e0 (W := 0) (by decide) (by decide) (g := (mkF m 37 #[.val (.ref x0), .val (.int x1), .val (.int pp), .val (.int (nb.toInt32)), .val (.int ((nb.toInt32) - pp))] [(.ref x0)])) rfl (by rw [hml]; rfl) (lenOf own_pd7 rfl) rfl (by show 2 * 0 + _ ≤ _; exact Nat.le_of_eq rfl) (hb hby own_d5_37) (by decide) (by decide)
        obtain ⟨rfl, Nq79, K79q, G79_0, G79_1, G79_2⟩ := hQ79
        have N79 := Fr.app N0 Nq79
        have Z79 : n0 ≤ T79.heap.size := Nat.le_trans Z0 K79q.1
        have K79 : Keep h0 T79.heap [x0] := K0.trans K79q (allS (Or.inl (List.mem_of_getElem? (i := 0) rfl)) all0)
        have E_x0_at80 := E_x0.keep K79q
        have V_bb_at81 := V_bb.keep K79q (ninS (Ne.symm ne_x0_bb) nin0)
        have E_bb_at82 := E_bb.keep K79q
        refine own_via (T' := T79) (g' := (mkF m 40 #[.val (.ref x0), .val (.int x1), .val (.int pp), .val (.int (nb.toInt32)), .val (.int ((nb.toInt32) - pp))] [(.int (0 : Int32))])) st79 ?_
        refine own_via (T' := T79) (g' := (mkF m 44 #[.val (.ref x0), .val (.int x1), .val (.int pp), .val (.int (nb.toInt32)), .val (.int ((nb.toInt32) - pp))] [(.int (pp + (4 : Int32)))])) (fun t k => XS.pop X79.here hx rfl (hb hby own_d5_40) rfl rfl (XS.iloadN X79.here hx rfl (hb hby own_d5_41) rfl (XS.iconst X79.here hx rfl (hb hby own_d5_42) (XS.iadd X79.here hx rfl (hb hby own_d5_43) rfl k)))) ?_
        refine own_retI X79 hx hlk hret (hb hby own_d5_44) (by decide) (by decide) ?_
        exact ⟨by rw [own_step, if_neg hc1, if_pos hc49, if_neg hc50] <;> rfl, N79, K79, G79_0, G79_1, (by rw [own_step_x0_position, if_neg hc1, if_pos hc49, if_neg hc50]; exact G79_2)⟩
    · refine own_via (T' := s₁) (g' := (mkF m 47 #[.val (.ref x0), .val (.int x1), .val (.int pp), .val (.int (nb.toInt32)), .val (.int ((nb.toInt32) - pp))] [(.int (3 : Int32)), (.int x1)])) (fun t k => XS.icmpYes X0.here hx rfl (pc0 := 27) (pc' := 45) rfl (hb hby own_d5_27) rfl (feq hc49).2 (by decide) (by decide) (XS.iloadN X0.here hx rfl (hb hby own_d5_45) rfl (XS.iconst X0.here hx rfl (hb hby own_d5_46) k))) ?_
      by_cases hc83 : x1 = (3 : Int32)
      · refine own_via (T' := s₁) (g' := (mkF m 54 #[.val (.ref x0), .val (.int x1), .val (.int pp), .val (.int (nb.toInt32)), .val (.int ((nb.toInt32) - pp))] [(.int (8 : Int32)), (.int ((nb.toInt32) - pp))])) (fun t k => XS.icmpNo X0.here hx rfl (hb hby own_d5_47) rfl (teq hc83).2 (XS.iload X0.here hx rfl (hb hby own_d5_50) rfl (XS.bipush X0.here hx rfl (hb hby own_d5_52) k))) ?_
        by_cases hc84 : ((nb.toInt32) - pp) < (8 : Int32)
        · refine own_via (T' := s₁) (g' := (mkF m 69 #[.val (.ref x0), .val (.int x1), .val (.int pp), .val (.int (nb.toInt32)), .val (.int ((nb.toInt32) - pp))] [(.int (4 : Int32)), (.int x1)])) (fun t k => XS.icmpYes X0.here hx rfl (pc0 := 54) (pc' := 67) rfl (hb hby own_d5_54) rfl (tlt hc84).1 (by decide) (by decide) (XS.iloadN X0.here hx rfl (hb hby own_d5_67) rfl (XS.iconst X0.here hx rfl (hb hby own_d5_68) k))) ?_
          by_cases hc85 : x1 = (4 : Int32)
          · refine own_via (T' := s₁) (g' := (mkF m 73 #[.val (.ref x0), .val (.int x1), .val (.int pp), .val (.int (nb.toInt32)), .val (.int ((nb.toInt32) - pp))] [(.ref x0)])) (fun t k => XS.icmpNo X0.here hx rfl (hb hby own_d5_69) rfl (teq hc85).2 (XS.aloadN X0.here hx rfl (hb hby own_d5_72) rfl rfl k)) ?_
            obtain ⟨v86, T86, L86, X86, hQ86, st86⟩ := own_callVi (y := (⟨"com/example/concordia/concordia/wire/FrameReader", "readRest", "()[B"⟩ : MethodName)) (z := (⟨"com/example/concordia/concordia/wire/FrameReader", "readRest", "()[B"⟩ : MethodName)) (a := x0) (C := "com/example/concordia/concordia/wire/FrameReader") (argsL := []) (rest := []) X0 hx hZ hown (hw _ (List.mem_of_getElem? (i := 26) rfl)) (hw _ (List.mem_of_getElem? (i := 27) rfl)) (notFace_of_selects (args := #[]) (mvT hZ (hw _ (List.mem_of_getElem? (i := 29) rfl)))) (hw _ (List.mem_of_getElem? (i := 29) rfl)) (hw _ (List.mem_of_getElem? (i := 28) rfl)) (hw _ (List.mem_of_getElem? (i := 7) rfl)) (hw _ (List.mem_of_getElem? (i := 30) rfl)) (by decide) E_x0 (own_mt6 l Z a0 hw x0 bb pp nb h0 n0 Z0 ge_x0 ne_x0_bb E_x0 F_body F_pos V_bb E_bb hnb hpp) e0 (W := 0) (by decide) (by decide) (g := (mkF m 73 #[.val (.ref x0), .val (.int x1), .val (.int pp), .val (.int (nb.toInt32)), .val (.int ((nb.toInt32) - pp))] [(.ref x0)])) rfl (by rw [hml]; rfl) (lenOf own_pd5 rfl) rfl (by show 2 * 0 + _ ≤ _; exact Nat.le_of_eq rfl) (hb hby own_d5_73) (by decide) (by decide)
            obtain ⟨r86, rfl, Nq86, K86q, G86_0, G86_1, G86_2⟩ := hQ86
            have N86 := Fr.app N0 Nq86
            have Z86 : n0 ≤ T86.heap.size := Nat.le_trans Z0 K86q.1
            have K86 : Keep h0 T86.heap [x0] := K0.trans K86q (allS (Or.inl (List.mem_of_getElem? (i := 0) rfl)) all0)
            have E_x0_at87 := E_x0.keep K86q
            have V_bb_at88 := V_bb.keep K86q (ninS (Ne.symm ne_x0_bb) nin0)
            have E_bb_at89 := E_bb.keep K86q
            refine own_via (T' := T86) (g' := (mkF m 76 #[.val (.ref x0), .val (.int x1), .val (.int pp), .val (.int (nb.toInt32)), .val (.int ((nb.toInt32) - pp))] [(.ref r86)])) st86 ?_
            refine own_via (T' := T86) (g' := (mkF m 78 #[.val (.ref x0), .val (.int x1), .val (.int pp), .val (.int (nb.toInt32)), .val (.int ((nb.toInt32) - pp))] [(.int (nb.toInt32))])) (fun t k => XS.pop X86.here hx rfl (hb hby own_d5_76) rfl rfl (XS.iloadN X86.here hx rfl (hb hby own_d5_77) rfl k)) ?_
            refine own_retI X86 hx hlk hret (hb hby own_d5_78) (by decide) (by decide) ?_
            exact ⟨by rw [own_step, if_neg hc1, if_neg hc49, if_pos hc83, if_pos hc84, if_pos hc85] <;> rfl, N86, K86, G86_0, G86_1, (by rw [own_step_x0_position, if_neg hc1, if_neg hc49, if_pos hc83, if_pos hc84, if_pos hc85]; exact G86_2)⟩
          · refine own_via (T' := s₁) (g' := (mkF m 81 #[.val (.ref x0), .val (.int x1), .val (.int pp), .val (.int (nb.toInt32)), .val (.int ((nb.toInt32) - pp))] [(.int (5 : Int32)), (.int x1)])) (fun t k => XS.icmpYes X0.here hx rfl (pc0 := 69) (pc' := 79) rfl (hb hby own_d5_69) rfl (feq hc85).2 (by decide) (by decide) (XS.iloadN X0.here hx rfl (hb hby own_d5_79) rfl (XS.iconst X0.here hx rfl (hb hby own_d5_80) k))) ?_
            by_cases hc90 : x1 < (5 : Int32)
            · refine own_via (T' := s₁) (g' := (mkF m 100 #[.val (.ref x0), .val (.int x1), .val (.int pp), .val (.int (nb.toInt32)), .val (.int ((nb.toInt32) - pp))] [(.int pp)])) (fun t k => XS.icmpYes X0.here hx rfl (pc0 := 81) (pc' := 99) rfl (hb hby own_d5_81) rfl (tlt hc90).1 (by decide) (by decide) (XS.iloadN X0.here hx rfl (hb hby own_d5_99) rfl k)) ?_
              refine own_retI X0 hx hlk hret (hb hby own_d5_100) (by decide) (by decide) ?_
              rw [e0]; exact ⟨by rw [own_step, if_neg hc1, if_neg hc49, if_pos hc83, if_pos hc84, if_neg hc85, if_pos hc90] <;> rfl, N0, K0, E_x0, F_body, (by rw [own_step_x0_position, if_neg hc1, if_neg hc49, if_pos hc83, if_pos hc84, if_neg hc85, if_pos hc90]; exact F_pos)⟩
            · refine own_via (T' := s₁) (g' := (mkF m 87 #[.val (.ref x0), .val (.int x1), .val (.int pp), .val (.int (nb.toInt32)), .val (.int ((nb.toInt32) - pp))] [(.int (1 : Int32)), (.int ((nb.toInt32) - pp))])) (fun t k => XS.icmpNo X0.here hx rfl (hb hby own_d5_81) rfl (flt hc90).1 (XS.iload X0.here hx rfl (hb hby own_d5_84) rfl (XS.iconst X0.here hx rfl (hb hby own_d5_86) k))) ?_
              by_cases hc91 : ((nb.toInt32) - pp) < (1 : Int32)
              · refine own_via (T' := s₁) (g' := (mkF m 100 #[.val (.ref x0), .val (.int x1), .val (.int pp), .val (.int (nb.toInt32)), .val (.int ((nb.toInt32) - pp))] [(.int pp)])) (fun t k => XS.icmpYes X0.here hx rfl (pc0 := 87) (pc' := 99) rfl (hb hby own_d5_87) rfl (tlt hc91).1 (by decide) (by decide) (XS.iloadN X0.here hx rfl (hb hby own_d5_99) rfl k)) ?_
                refine own_retI X0 hx hlk hret (hb hby own_d5_100) (by decide) (by decide) ?_
                rw [e0]; exact ⟨by rw [own_step, if_neg hc1, if_neg hc49, if_pos hc83, if_pos hc84, if_neg hc85, if_neg hc90, if_pos hc91] <;> rfl, N0, K0, E_x0, F_body, (by rw [own_step_x0_position, if_neg hc1, if_neg hc49, if_pos hc83, if_pos hc84, if_neg hc85, if_neg hc90, if_pos hc91]; exact F_pos)⟩
              · refine own_via (T' := s₁) (g' := (mkF m 91 #[.val (.ref x0), .val (.int x1), .val (.int pp), .val (.int (nb.toInt32)), .val (.int ((nb.toInt32) - pp))] [(.ref x0)])) (fun t k => XS.icmpNo X0.here hx rfl (hb hby own_d5_87) rfl (flt hc91).1 (XS.aloadN X0.here hx rfl (hb hby own_d5_90) rfl rfl k)) ?_
                obtain ⟨v92, T92, L92, X92, hQ92, st92⟩ := own_callVi (y := (⟨"com/example/concordia/concordia/wire/FrameReader", "readBoolean", "()Z"⟩ : MethodName)) (z := (⟨"com/example/concordia/concordia/wire/FrameReader", "readBoolean", "()Z"⟩ : MethodName)) (a := x0) (C := "com/example/concordia/concordia/wire/FrameReader") (argsL := []) (rest := []) X0 hx hZ hown (hw _ (List.mem_of_getElem? (i := 44) rfl)) (hw _ (List.mem_of_getElem? (i := 45) rfl)) (notFace_of_selects (args := #[]) (mvT hZ (hw _ (List.mem_of_getElem? (i := 47) rfl)))) (hw _ (List.mem_of_getElem? (i := 47) rfl)) (hw _ (List.mem_of_getElem? (i := 46) rfl)) (hw _ (List.mem_of_getElem? (i := 7) rfl)) (hw _ (List.mem_of_getElem? (i := 48) rfl)) (by decide) E_x0 (own_mt8 l Z a0 hw x0 bb pp nb h0 n0 Z0 ge_x0 ne_x0_bb E_x0 F_body F_pos V_bb hnb hpp hc91) e0 (W := 0) (by decide) (by decide) (g := (mkF m 91 #[.val (.ref x0), .val (.int x1), .val (.int pp), .val (.int (nb.toInt32)), .val (.int ((nb.toInt32) - pp))] [(.ref x0)])) rfl (by rw [hml]; rfl) (lenOf own_pd8 rfl) rfl (by show 2 * 0 + _ ≤ _; exact Nat.le_of_eq rfl) (hb hby own_d5_91) (by decide) (by decide)
                obtain ⟨rfl, Nq92, K92q, G92_0, G92_1, G92_2⟩ := hQ92
                have N92 := Fr.app N0 Nq92
                have Z92 : n0 ≤ T92.heap.size := Nat.le_trans Z0 K92q.1
                have K92 : Keep h0 T92.heap [x0] := K0.trans K92q (allS (Or.inl (List.mem_of_getElem? (i := 0) rfl)) all0)
                have E_x0_at93 := E_x0.keep K92q
                have V_bb_at94 := V_bb.keep K92q (ninS (Ne.symm ne_x0_bb) nin0)
                have E_bb_at95 := E_bb.keep K92q
                refine own_via (T' := T92) (g' := (mkF m 94 #[.val (.ref x0), .val (.int x1), .val (.int pp), .val (.int (nb.toInt32)), .val (.int ((nb.toInt32) - pp))] [(.int (0 : Int32))])) st92 ?_
                refine own_via (T' := T92) (g' := (mkF m 98 #[.val (.ref x0), .val (.int x1), .val (.int pp), .val (.int (nb.toInt32)), .val (.int ((nb.toInt32) - pp))] [(.int (pp + (1 : Int32)))])) (fun t k => XS.pop X92.here hx rfl (hb hby own_d5_94) rfl rfl (XS.iloadN X92.here hx rfl (hb hby own_d5_95) rfl (XS.iconst X92.here hx rfl (hb hby own_d5_96) (XS.iadd X92.here hx rfl (hb hby own_d5_97) rfl k)))) ?_
                refine own_retI X92 hx hlk hret (hb hby own_d5_98) (by decide) (by decide) ?_
                exact ⟨by rw [own_step, if_neg hc1, if_neg hc49, if_pos hc83, if_pos hc84, if_neg hc85, if_neg hc90, if_neg hc91] <;> rfl, N92, K92, G92_0, G92_1, (by rw [own_step_x0_position, if_neg hc1, if_neg hc49, if_pos hc83, if_pos hc84, if_neg hc85, if_neg hc90, if_neg hc91]; exact G92_2)⟩
        · refine own_via (T' := s₁) (g' := (mkF m 58 #[.val (.ref x0), .val (.int x1), .val (.int pp), .val (.int (nb.toInt32)), .val (.int ((nb.toInt32) - pp))] [(.ref x0)])) (fun t k => XS.icmpNo X0.here hx rfl (hb hby own_d5_54) rfl (flt hc84).1 (XS.aloadN X0.here hx rfl (hb hby own_d5_57) rfl rfl k)) ?_
          obtain ⟨v96, T96, L96, X96, hQ96, st96⟩ := own_callVi (y := (⟨"com/example/concordia/concordia/wire/FrameReader", "readLong", "()J"⟩ : MethodName)) (z := (⟨"com/example/concordia/concordia/wire/FrameReader", "readLong", "()J"⟩ : MethodName)) (a := x0) (C := "com/example/concordia/concordia/wire/FrameReader") (argsL := []) (rest := []) X0 hx hZ hown (hw _ (List.mem_of_getElem? (i := 76) rfl)) (hw _ (List.mem_of_getElem? (i := 77) rfl)) (notFace_of_selects (args := #[]) (mvT hZ (hw _ (List.mem_of_getElem? (i := 79) rfl)))) (hw _ (List.mem_of_getElem? (i := 79) rfl)) (hw _ (List.mem_of_getElem? (i := 78) rfl)) (hw _ (List.mem_of_getElem? (i := 7) rfl)) (hw _ (List.mem_of_getElem? (i := 80) rfl)) (by decide) E_x0 (own_mt15 l Z a0 hw x0 bb pp nb h0 n0 Z0 ge_x0 ne_x0_bb E_x0 F_body F_pos V_bb hnb hpp hc84) e0 (W := 0) (by decide) (by decide) (g := (mkF m 58 #[.val (.ref x0), .val (.int x1), .val (.int pp), .val (.int (nb.toInt32)), .val (.int ((nb.toInt32) - pp))] [(.ref x0)])) rfl (by rw [hml]; rfl) (lenOf own_pd6 rfl) rfl (by show 2 * 0 + _ ≤ _; exact Nat.le_of_eq rfl) (hb hby own_d5_58) (by decide) (by decide)
          obtain ⟨rfl, Nq96, K96q, G96_0, G96_1, G96_2⟩ := hQ96
          have N96 := Fr.app N0 Nq96
          have Z96 : n0 ≤ T96.heap.size := Nat.le_trans Z0 K96q.1
          have K96 : Keep h0 T96.heap [x0] := K0.trans K96q (allS (Or.inl (List.mem_of_getElem? (i := 0) rfl)) all0)
          have E_x0_at97 := E_x0.keep K96q
          have V_bb_at98 := V_bb.keep K96q (ninS (Ne.symm ne_x0_bb) nin0)
          have E_bb_at99 := E_bb.keep K96q
          refine own_via (T' := T96) (g' := (mkF m 61 #[.val (.ref x0), .val (.int x1), .val (.int pp), .val (.int (nb.toInt32)), .val (.int ((nb.toInt32) - pp))] [(.long (0 : Int64))])) st96 ?_
          refine own_via (T' := T96) (g' := (mkF m 62 #[.val (.ref x0), .val (.int x1), .val (.int pp), .val (.int (nb.toInt32)), .val (.int ((nb.toInt32) - pp))] [])) (fun t k => by jvm_step X96.here [X96.here.top, hx, (hb hby own_d5_61), Value.category]; exact k) ?_
          refine own_via (T' := T96) (g' := (mkF m 66 #[.val (.ref x0), .val (.int x1), .val (.int pp), .val (.int (nb.toInt32)), .val (.int ((nb.toInt32) - pp))] [(.int (pp + (8 : Int32)))])) (fun t k => XS.iloadN X96.here hx rfl (hb hby own_d5_62) rfl (XS.bipush X96.here hx rfl (hb hby own_d5_63) (XS.iadd X96.here hx rfl (hb hby own_d5_65) rfl k))) ?_
          refine own_retI X96 hx hlk hret (hb hby own_d5_66) (by decide) (by decide) ?_
          exact ⟨by rw [own_step, if_neg hc1, if_neg hc49, if_pos hc83, if_neg hc84] <;> rfl, N96, K96, G96_0, G96_1, (by rw [own_step_x0_position, if_neg hc1, if_neg hc49, if_pos hc83, if_neg hc84]; exact G96_2)⟩
      · refine own_via (T' := s₁) (g' := (mkF m 69 #[.val (.ref x0), .val (.int x1), .val (.int pp), .val (.int (nb.toInt32)), .val (.int ((nb.toInt32) - pp))] [(.int (4 : Int32)), (.int x1)])) (fun t k => XS.icmpYes X0.here hx rfl (pc0 := 47) (pc' := 67) rfl (hb hby own_d5_47) rfl (feq hc83).2 (by decide) (by decide) (XS.iloadN X0.here hx rfl (hb hby own_d5_67) rfl (XS.iconst X0.here hx rfl (hb hby own_d5_68) k))) ?_
        by_cases hc100 : x1 = (4 : Int32)
        · refine own_via (T' := s₁) (g' := (mkF m 73 #[.val (.ref x0), .val (.int x1), .val (.int pp), .val (.int (nb.toInt32)), .val (.int ((nb.toInt32) - pp))] [(.ref x0)])) (fun t k => XS.icmpNo X0.here hx rfl (hb hby own_d5_69) rfl (teq hc100).2 (XS.aloadN X0.here hx rfl (hb hby own_d5_72) rfl rfl k)) ?_
          obtain ⟨v101, T101, L101, X101, hQ101, st101⟩ := own_callVi (y := (⟨"com/example/concordia/concordia/wire/FrameReader", "readRest", "()[B"⟩ : MethodName)) (z := (⟨"com/example/concordia/concordia/wire/FrameReader", "readRest", "()[B"⟩ : MethodName)) (a := x0) (C := "com/example/concordia/concordia/wire/FrameReader") (argsL := []) (rest := []) X0 hx hZ hown (hw _ (List.mem_of_getElem? (i := 26) rfl)) (hw _ (List.mem_of_getElem? (i := 27) rfl)) (notFace_of_selects (args := #[]) (mvT hZ (hw _ (List.mem_of_getElem? (i := 29) rfl)))) (hw _ (List.mem_of_getElem? (i := 29) rfl)) (hw _ (List.mem_of_getElem? (i := 28) rfl)) (hw _ (List.mem_of_getElem? (i := 7) rfl)) (hw _ (List.mem_of_getElem? (i := 30) rfl)) (by decide) E_x0 (own_mt6 l Z a0 hw x0 bb pp nb h0 n0 Z0 ge_x0 ne_x0_bb E_x0 F_body F_pos V_bb E_bb hnb hpp) e0 (W := 0) (by decide) (by decide) (g := (mkF m 73 #[.val (.ref x0), .val (.int x1), .val (.int pp), .val (.int (nb.toInt32)), .val (.int ((nb.toInt32) - pp))] [(.ref x0)])) rfl (by rw [hml]; rfl) (lenOf own_pd5 rfl) rfl (by show 2 * 0 + _ ≤ _; exact Nat.le_of_eq rfl) (hb hby own_d5_73) (by decide) (by decide)
          obtain ⟨r101, rfl, Nq101, K101q, G101_0, G101_1, G101_2⟩ := hQ101
          have N101 := Fr.app N0 Nq101
          have Z101 : n0 ≤ T101.heap.size := Nat.le_trans Z0 K101q.1
          have K101 : Keep h0 T101.heap [x0] := K0.trans K101q (allS (Or.inl (List.mem_of_getElem? (i := 0) rfl)) all0)
          have E_x0_at102 := E_x0.keep K101q
          have V_bb_at103 := V_bb.keep K101q (ninS (Ne.symm ne_x0_bb) nin0)
          have E_bb_at104 := E_bb.keep K101q
          refine own_via (T' := T101) (g' := (mkF m 76 #[.val (.ref x0), .val (.int x1), .val (.int pp), .val (.int (nb.toInt32)), .val (.int ((nb.toInt32) - pp))] [(.ref r101)])) st101 ?_
          refine own_via (T' := T101) (g' := (mkF m 78 #[.val (.ref x0), .val (.int x1), .val (.int pp), .val (.int (nb.toInt32)), .val (.int ((nb.toInt32) - pp))] [(.int (nb.toInt32))])) (fun t k => XS.pop X101.here hx rfl (hb hby own_d5_76) rfl rfl (XS.iloadN X101.here hx rfl (hb hby own_d5_77) rfl k)) ?_
          refine own_retI X101 hx hlk hret (hb hby own_d5_78) (by decide) (by decide) ?_
          exact ⟨by rw [own_step, if_neg hc1, if_neg hc49, if_neg hc83, if_pos hc100] <;> rfl, N101, K101, G101_0, G101_1, (by rw [own_step_x0_position, if_neg hc1, if_neg hc49, if_neg hc83, if_pos hc100]; exact G101_2)⟩
        · refine own_via (T' := s₁) (g' := (mkF m 81 #[.val (.ref x0), .val (.int x1), .val (.int pp), .val (.int (nb.toInt32)), .val (.int ((nb.toInt32) - pp))] [(.int (5 : Int32)), (.int x1)])) (fun t k => XS.icmpYes X0.here hx rfl (pc0 := 69) (pc' := 79) rfl (hb hby own_d5_69) rfl (feq hc100).2 (by decide) (by decide) (XS.iloadN X0.here hx rfl (hb hby own_d5_79) rfl (XS.iconst X0.here hx rfl (hb hby own_d5_80) k))) ?_
          by_cases hc105 : x1 < (5 : Int32)
          · refine own_via (T' := s₁) (g' := (mkF m 100 #[.val (.ref x0), .val (.int x1), .val (.int pp), .val (.int (nb.toInt32)), .val (.int ((nb.toInt32) - pp))] [(.int pp)])) (fun t k => XS.icmpYes X0.here hx rfl (pc0 := 81) (pc' := 99) rfl (hb hby own_d5_81) rfl (tlt hc105).1 (by decide) (by decide) (XS.iloadN X0.here hx rfl (hb hby own_d5_99) rfl k)) ?_
            refine own_retI X0 hx hlk hret (hb hby own_d5_100) (by decide) (by decide) ?_
            rw [e0]; exact ⟨by rw [own_step, if_neg hc1, if_neg hc49, if_neg hc83, if_neg hc100, if_pos hc105] <;> rfl, N0, K0, E_x0, F_body, (by rw [own_step_x0_position, if_neg hc1, if_neg hc49, if_neg hc83, if_neg hc100, if_pos hc105]; exact F_pos)⟩
          · refine own_via (T' := s₁) (g' := (mkF m 87 #[.val (.ref x0), .val (.int x1), .val (.int pp), .val (.int (nb.toInt32)), .val (.int ((nb.toInt32) - pp))] [(.int (1 : Int32)), (.int ((nb.toInt32) - pp))])) (fun t k => XS.icmpNo X0.here hx rfl (hb hby own_d5_81) rfl (flt hc105).1 (XS.iload X0.here hx rfl (hb hby own_d5_84) rfl (XS.iconst X0.here hx rfl (hb hby own_d5_86) k))) ?_
            by_cases hc106 : ((nb.toInt32) - pp) < (1 : Int32)
            · refine own_via (T' := s₁) (g' := (mkF m 100 #[.val (.ref x0), .val (.int x1), .val (.int pp), .val (.int (nb.toInt32)), .val (.int ((nb.toInt32) - pp))] [(.int pp)])) (fun t k => XS.icmpYes X0.here hx rfl (pc0 := 87) (pc' := 99) rfl (hb hby own_d5_87) rfl (tlt hc106).1 (by decide) (by decide) (XS.iloadN X0.here hx rfl (hb hby own_d5_99) rfl k)) ?_
              refine own_retI X0 hx hlk hret (hb hby own_d5_100) (by decide) (by decide) ?_
              rw [e0]; exact ⟨by rw [own_step, if_neg hc1, if_neg hc49, if_neg hc83, if_neg hc100, if_neg hc105, if_pos hc106] <;> rfl, N0, K0, E_x0, F_body, (by rw [own_step_x0_position, if_neg hc1, if_neg hc49, if_neg hc83, if_neg hc100, if_neg hc105, if_pos hc106]; exact F_pos)⟩
            · refine own_via (T' := s₁) (g' := (mkF m 91 #[.val (.ref x0), .val (.int x1), .val (.int pp), .val (.int (nb.toInt32)), .val (.int ((nb.toInt32) - pp))] [(.ref x0)])) (fun t k => XS.icmpNo X0.here hx rfl (hb hby own_d5_87) rfl (flt hc106).1 (XS.aloadN X0.here hx rfl (hb hby own_d5_90) rfl rfl k)) ?_
              obtain ⟨v107, T107, L107, X107, hQ107, st107⟩ := own_callVi (y := (⟨"com/example/concordia/concordia/wire/FrameReader", "readBoolean", "()Z"⟩ : MethodName)) (z := (⟨"com/example/concordia/concordia/wire/FrameReader", "readBoolean", "()Z"⟩ : MethodName)) (a := x0) (C := "com/example/concordia/concordia/wire/FrameReader") (argsL := []) (rest := []) X0 hx hZ hown (hw _ (List.mem_of_getElem? (i := 44) rfl)) (hw _ (List.mem_of_getElem? (i := 45) rfl)) (notFace_of_selects (args := #[]) (mvT hZ (hw _ (List.mem_of_getElem? (i := 47) rfl)))) (hw _ (List.mem_of_getElem? (i := 47) rfl)) (hw _ (List.mem_of_getElem? (i := 46) rfl)) (hw _ (List.mem_of_getElem? (i := 7) rfl)) (hw _ (List.mem_of_getElem? (i := 48) rfl)) (by decide) E_x0 (own_mt8 l Z a0 hw x0 bb pp nb h0 n0 Z0 ge_x0 ne_x0_bb E_x0 F_body F_pos V_bb hnb hpp hc106) e0 (W := 0) (by decide) (by decide) (g := (mkF m 91 #[.val (.ref x0), .val (.int x1), .val (.int pp), .val (.int (nb.toInt32)), .val (.int ((nb.toInt32) - pp))] [(.ref x0)])) rfl (by rw [hml]; rfl) (lenOf own_pd8 rfl) rfl (by show 2 * 0 + _ ≤ _; exact Nat.le_of_eq rfl) (hb hby own_d5_91) (by decide) (by decide)
              obtain ⟨rfl, Nq107, K107q, G107_0, G107_1, G107_2⟩ := hQ107
              have N107 := Fr.app N0 Nq107
              have Z107 : n0 ≤ T107.heap.size := Nat.le_trans Z0 K107q.1
              have K107 : Keep h0 T107.heap [x0] := K0.trans K107q (allS (Or.inl (List.mem_of_getElem? (i := 0) rfl)) all0)
              have E_x0_at108 := E_x0.keep K107q
              have V_bb_at109 := V_bb.keep K107q (ninS (Ne.symm ne_x0_bb) nin0)
              have E_bb_at110 := E_bb.keep K107q
              refine own_via (T' := T107) (g' := (mkF m 94 #[.val (.ref x0), .val (.int x1), .val (.int pp), .val (.int (nb.toInt32)), .val (.int ((nb.toInt32) - pp))] [(.int (0 : Int32))])) st107 ?_
              refine own_via (T' := T107) (g' := (mkF m 98 #[.val (.ref x0), .val (.int x1), .val (.int pp), .val (.int (nb.toInt32)), .val (.int ((nb.toInt32) - pp))] [(.int (pp + (1 : Int32)))])) (fun t k => XS.pop X107.here hx rfl (hb hby own_d5_94) rfl rfl (XS.iloadN X107.here hx rfl (hb hby own_d5_95) rfl (XS.iconst X107.here hx rfl (hb hby own_d5_96) (XS.iadd X107.here hx rfl (hb hby own_d5_97) rfl k)))) ?_
              refine own_retI X107 hx hlk hret (hb hby own_d5_98) (by decide) (by decide) ?_
              exact ⟨by rw [own_step, if_neg hc1, if_neg hc49, if_neg hc83, if_neg hc100, if_neg hc105, if_neg hc106] <;> rfl, N107, K107, G107_0, G107_1, (by rw [own_step_x0_position, if_neg hc1, if_neg hc49, if_neg hc83, if_neg hc100, if_neg hc105, if_neg hc106]; exact G107_2)⟩
theorem own_step_eq (x pp : Int32) (nb : Nat) : own_step_x0_position x pp nb = own_step x pp nb := rfl
theorem own_step_ok {nb : Nat} {pp : Int32} (hnb : nb ≤ 9) (hpp : 0 ≤ pp.toInt ∧ pp.toInt ≤ nb) (x : Int32) : 0 ≤ (own_step x pp nb).toInt ∧ (own_step x pp nb).toInt ≤ nb := by
  have e := own_left hnb hpp
  have n := own_nb hnb
  have a1 := own_add (k := 1) hnb hpp.1 hpp.2 (by decide) (by decide)
  have a4 := own_add (k := 4) hnb hpp.1 hpp.2 (by decide) (by decide)
  have a8 := own_add (k := 8) hnb hpp.1 hpp.2 (by decide) (by decide)
  have k1 : (1 : Int32).toInt = 1 := by decide
  have k4 : (4 : Int32).toInt = 4 := by decide
  have k8 : (8 : Int32).toInt = 8 := by decide
  unfold own_step
  simp only [Int32.lt_iff_toInt_lt]
  repeat' split
  all_goals first | exact hpp | omega
theorem own_pd9 : parseMethodDescriptor "(I)[B" = some ⟨[.int], some (.array .byte)⟩ := by decide +kernel
theorem own_pd10 : parseMethodDescriptor "([B)V" = some ⟨[(.array .byte)], none⟩ := by decide +kernel
theorem own_pd11 : parseMethodDescriptor "(Lcom/example/concordia/concordia/wire/FrameReader;III)I" = some ⟨[(.object "com/example/concordia/concordia/wire/FrameReader"), .int, .int, .int], some .int⟩ := by decide +kernel
def own_f0 (x0 : Int32) (x1 : Int32) (x2 : Int32) (x3 : Int32) : Int32 := (1 : Int32)
set_option maxHeartbeats 40000000 in
theorem own_mt0_ef (m : MethodId) (x0 : Int32) (x1 : Int32) (x2 : Int32) (x3 : Int32) : entryFrame m #[(.int x0), (.int x1), (.int x2), (.int x3)] maxLocals = mkF m 0 #[.val (.int x0), .val (.int x1), .val (.int x2), .val (.int x3), .unset, .unset, .unset, .unset, .unset, .unset, .unset, .unset, .unset] [] := by first | (simp [entryFrame, mkF, argsToLocals, Value.category, maxLocals]; done) | rfl
set_option maxRecDepth 65536 in
set_option maxHeartbeats 40000000 in
theorem own_mt0 (l : Launch) (Z : State) (a0 : Array Value) (hw : ∀ d ∈ tables_1, d.before a0 Z = true) (x0 : Int32) (x1 : Int32) (x2 : Int32) (x3 : Int32) (h0 : Heap) (n0 : Nat) (Z0 : n0 ≤ h0.size) :
    own_Met l Z x code maxLocals ret room_1 #[(.int x0), (.int x1), (.int x2), (.int x3)] h0 (fun v h L => v = some (.int (own_f0 x0 x1 x2 x3)) ∧ Fr n0 L) := by
  refine own_intro (plainFor_of_name own_pn0) ?_
  intro p e s m below meth c s₁ hx hby hml hown hnm hZ hret hlk X0 e0
  refine own_cast (own_mt0_ef m x0 x1 x2 x3) ?_
  have N0 := Fr.nil n0
  refine own_via (T' := s₁) (g' := (mkF m 4 #[.val (.int x0), .val (.int x1), .val (.int x2), .val (.int x3), .unset, .unset, .unset, .unset, .unset, .unset, .unset, .unset, .unset] [(.int (x0 &&& (7 : Int32)))])) (fun t k => XS.iloadN X0.here hx rfl (hb hby at_0) rfl (XS.bipush X0.here hx rfl (hb hby at_1) (XS.iand X0.here hx rfl (hb hby at_3) rfl k))) ?_
  obtain ⟨v1, T1, L1, X1, hQ1, st1⟩ := own_callSt (y := (⟨"com/example/concordia/concordia/wire/FrameReaderHasRemainingPinLaw", "body", "(I)[B"⟩ : MethodName)) (argsL := [(.int (x0 &&& (7 : Int32)))]) (rest := []) X0 hx hZ hown (hw _ (List.mem_of_getElem? (i := 0) rfl)) (hw _ (List.mem_of_getElem? (i := 1) rfl)) (hw _ (List.mem_of_getElem? (i := 2) rfl)) (hw _ (List.mem_of_getElem? (i := 3) rfl)) (by decide) (own_mtb l Z a0 hw (x0 &&& (7 : Int32)) h0 n0 Z0) e0 (W := 0) (by decide) (by decide) (g := (mkF m 4 #[.val (.int x0), .val (.int x1), .val (.int x2), .val (.int x3), .unset, .unset, .unset, .unset, .unset, .unset, .unset, .unset, .unset] [(.int (x0 &&& (7 : Int32)))])) rfl (by rw [hml]; rfl) (lenOf own_pd9 rfl) rfl (by show 2 * 0 + _ ≤ _; exact Nat.le_of_eq rfl) (hb hby at_4) (by decide) (by decide)
  obtain ⟨r1, rfl, bd1, Nq1, K1q, V1q, EA1q⟩ := hQ1
  have hnb := own_blen9 (x0 &&& (7 : Int32))
  generalize own_blen (x0 &&& (7 : Int32)) = nb at V1q hnb
  have N1 := Fr.app N0 Nq1
  have ge_r1 : n0 ≤ r1 := Nat.le_trans Z0 bd1
  have Z1 : n0 ≤ T1.heap.size := Nat.le_trans Z0 K1q.1
  refine own_via (T' := T1) (g' := (mkF m 7 #[.val (.int x0), .val (.int x1), .val (.int x2), .val (.int x3), .unset, .unset, .unset, .unset, .unset, .unset, .unset, .unset, .unset] [(.ref r1)])) st1 ?_
  refine own_via (T' := T1) (g' := (mkF m 11 #[.val (.int x0), .val (.int x1), .val (.int x2), .val (.int x3), .val (.ref r1), .unset, .unset, .unset, .unset, .unset, .unset, .unset, .unset] [(.ref r1)])) (fun t k => XS.astore X1.here hx rfl (hb hby at_7) rfl rfl (l' := #[.val (.int x0), .val (.int x1), .val (.int x2), .val (.int x3), .val (.ref r1), .unset, .unset, .unset, .unset, .unset, .unset, .unset, .unset]) rfl (XS.aload X1.here hx rfl (hb hby at_9) rfl rfl k)) ?_
  refine own_via (T' := T1) (g' := (mkF m 12 #[.val (.int x0), .val (.int x1), .val (.int x2), .val (.int x3), .val (.ref r1), .unset, .unset, .unset, .unset, .unset, .unset, .unset, .unset] [(.int (nb.toInt32))])) (own_alen X1 hx hZ rfl V1q (n := (nb.toInt32)) (by rw [List.length_replicate]) (g := (mkF m 11 #[.val (.int x0), .val (.int x1), .val (.int x2), .val (.int x3), .val (.ref r1), .unset, .unset, .unset, .unset, .unset, .unset, .unset, .unset] [(.ref r1)])) rfl rfl (hb hby at_11)) ?_
  refine own_via (T' := T1) (g' := (mkF m 14 #[.val (.int x0), .val (.int x1), .val (.int x2), .val (.int x3), .val (.ref r1), .val (.int (nb.toInt32)), .unset, .unset, .unset, .unset, .unset, .unset, .unset] [])) (fun t k => XS.istore X1.here hx rfl (hb hby at_12) rfl (l' := #[.val (.int x0), .val (.int x1), .val (.int x2), .val (.int x3), .val (.ref r1), .val (.int (nb.toInt32)), .unset, .unset, .unset, .unset, .unset, .unset, .unset]) rfl k) ?_
  obtain ⟨T2, h2, X2, e2, E2, A2, D2, -, st2⟩ := newO X1 hx hZ hown (hw _ (List.mem_of_getElem? (i := 5) rfl)) (hw _ (List.mem_of_getElem? (i := 6) rfl)) (hw _ (List.mem_of_getElem? (i := 7) rfl)) rfl (g := (mkF m 14 #[.val (.int x0), .val (.int x1), .val (.int x2), .val (.int x3), .val (.ref r1), .val (.int (nb.toInt32)), .unset, .unset, .unset, .unset, .unset, .unset, .unset] [])) rfl (hb hby at_14) (by decide) (by decide)
  obtain ⟨b2, g2⟩ : ∃ z, z = T1.heap.size := ⟨_, rfl⟩
  rw [← g2] at A2 D2 st2
  have bd_b2 : T1.heap.size ≤ b2 := Nat.le_of_eq g2.symm
  have ne_r1_b2 : r1 ≠ b2 := own_ne_of V1q.lt bd_b2
  have ge_b2 : n0 ≤ b2 := Nat.le_trans Z1 bd_b2
  have Z2 : n0 ≤ h2.size := Nat.le_trans Z1 E2.1
  have V1q_at3 := V1q.ext E2
  have EA1q_at4 := EA1q.ext E2
  have Fbody_2 : Fld Z h2 b2 "com/example/concordia/concordia/wire/FrameReader" "body" "[B" .null := D2 (Or.inr (hw _ (List.mem_of_getElem? (i := 15) rfl))) (ty := (.array .byte)) (by decide)
  have Fposition_2 : Fld Z h2 b2 "com/example/concordia/concordia/wire/FrameReader" "position" "I" (.int (0 : Int32)) := D2 (Or.inl (hw _ (List.mem_of_getElem? (i := 22) rfl))) (ty := .int) (by decide)
  refine own_via (T' := T2) (g' := (mkF m 17 #[.val (.int x0), .val (.int x1), .val (.int x2), .val (.int x3), .val (.ref r1), .val (.int (nb.toInt32)), .unset, .unset, .unset, .unset, .unset, .unset, .unset] [(.ref b2)])) st2 ?_
  refine own_via (T' := T2) (g' := (mkF m 20 #[.val (.int x0), .val (.int x1), .val (.int x2), .val (.int x3), .val (.ref r1), .val (.int (nb.toInt32)), .unset, .unset, .unset, .unset, .unset, .unset, .unset] [(.ref r1), (.ref b2), (.ref b2)])) (fun t k => XS.dup X2.here hx rfl (hb hby at_17) rfl rfl (XS.aload X2.here hx rfl (hb hby at_18) rfl rfl k)) ?_
  obtain ⟨v5, T5, L5, X5, hQ5, st5⟩ := own_callSp (y := (⟨"com/example/concordia/concordia/wire/FrameReader", "<init>", "([B)V"⟩ : MethodName)) (a := b2) (argsL := [(.ref r1)]) (rest := [(.ref b2)]) X2 hx hZ hown rfl (hw _ (List.mem_of_getElem? (i := 8) rfl)) (hw _ (List.mem_of_getElem? (i := 9) rfl)) (hw _ (List.mem_of_getElem? (i := 7) rfl)) (hw _ (List.mem_of_getElem? (i := 10) rfl)) (by decide) (own_mt2 l Z a0 hw b2 r1 h2 n0 Z2 ge_b2 A2 Fbody_2 Fposition_2) e2 (W := 1) (by decide) (by decide) (g := (mkF m 20 #[.val (.int x0), .val (.int x1), .val (.int x2), .val (.int x3), .val (.ref r1), .val (.int (nb.toInt32)), .unset, .unset, .unset, .unset, .unset, .unset, .unset] [(.ref r1), (.ref b2), (.ref b2)])) rfl (by rw [hml]; rfl) (lenOf own_pd10 rfl) rfl (by show 2 * 0 + _ ≤ _; exact Nat.le_of_eq rfl) (hb hby at_20) (by decide) (by decide)
  obtain ⟨rfl, Nq5, K5q, G5_0, G5_1, G5_2⟩ := hQ5
  have N5 := Fr.app N1 Nq5
  have Z5 : n0 ≤ T5.heap.size := Nat.le_trans Z2 K5q.1
  have V1q_at6 := V1q_at3.keep K5q (ninS ne_r1_b2 nin0)
  have EA1q_at7 := EA1q_at4.keep K5q
  have A2_at8 := A2.keep K5q
  refine own_via (T' := T5) (g' := (mkF m 23 #[.val (.int x0), .val (.int x1), .val (.int x2), .val (.int x3), .val (.ref r1), .val (.int (nb.toInt32)), .unset, .unset, .unset, .unset, .unset, .unset, .unset] [(.ref b2)])) st5 ?_
  refine own_via (T' := T5) (g' := (mkF m 27 #[.val (.int x0), .val (.int x1), .val (.int x2), .val (.int x3), .val (.ref r1), .val (.int (nb.toInt32)), .val (.ref b2), .unset, .unset, .unset, .unset, .unset, .unset] [(.ref b2)])) (fun t k => XS.astore X5.here hx rfl (hb hby at_23) rfl rfl (l' := #[.val (.int x0), .val (.int x1), .val (.int x2), .val (.int x3), .val (.ref r1), .val (.int (nb.toInt32)), .val (.ref b2), .unset, .unset, .unset, .unset, .unset, .unset]) rfl (XS.aload X5.here hx rfl (hb hby at_25) rfl rfl k)) ?_
  by_cases hc9 : (0 : Int32) < (nb.toInt32)
  · obtain ⟨v10, T10, L10, X10, hQ10, st10⟩ := own_callVi (y := (⟨"com/example/concordia/concordia/wire/FrameReader", "hasRemaining", "()Z"⟩ : MethodName)) (z := (⟨"com/example/concordia/concordia/wire/FrameReader", "hasRemaining", "()Z"⟩ : MethodName)) (a := b2) (C := "com/example/concordia/concordia/wire/FrameReader") (argsL := []) (rest := []) X5 hx hZ hown (hw _ (List.mem_of_getElem? (i := 16) rfl)) (hw _ (List.mem_of_getElem? (i := 17) rfl)) (notFace_of_selects (args := #[]) (mvT hZ (hw _ (List.mem_of_getElem? (i := 19) rfl)))) (hw _ (List.mem_of_getElem? (i := 19) rfl)) (hw _ (List.mem_of_getElem? (i := 18) rfl)) (hw _ (List.mem_of_getElem? (i := 7) rfl)) (hw _ (List.mem_of_getElem? (i := 20) rfl)) (by decide) G5_0 (own_mth1 l Z a0 hw b2 r1 (0 : Int32) nb T5.heap G5_1 G5_2 V1q_at6 hc9) rfl (W := 0) (by decide) (by decide) (g := (mkF m 27 #[.val (.int x0), .val (.int x1), .val (.int x2), .val (.int x3), .val (.ref r1), .val (.int (nb.toInt32)), .val (.ref b2), .unset, .unset, .unset, .unset, .unset, .unset] [(.ref b2)])) rfl (by rw [hml]; rfl) (lenOf own_pd8 rfl) rfl (by show 2 * 0 + _ ≤ _; exact Nat.le_of_eq rfl) (hb hby at_27) (by decide) (by decide)
    obtain ⟨rfl, e10, rfl⟩ := hQ10
    have N10 := Fr.app N5 (Fr.nil n0)
    refine own_via (T' := T10) (g' := (mkF m 30 #[.val (.int x0), .val (.int x1), .val (.int x2), .val (.int x3), .val (.ref r1), .val (.int (nb.toInt32)), .val (.ref b2), .unset, .unset, .unset, .unset, .unset, .unset] [(.int (1 : Int32))])) st10 ?_
    refine own_via (T' := T10) (g' := (mkF m 37 #[.val (.int x0), .val (.int x1), .val (.int x2), .val (.int x3), .val (.ref r1), .val (.int (nb.toInt32)), .val (.ref b2), .val (.int (1 : Int32)), .unset, .unset, .unset, .unset, .unset] [(.int (nb.toInt32)), (.int (0 : Int32)), (.int (1 : Int32))])) (fun t k => XS.istore X10.here hx rfl (hb hby at_30) rfl (l' := #[.val (.int x0), .val (.int x1), .val (.int x2), .val (.int x3), .val (.ref r1), .val (.int (nb.toInt32)), .val (.ref b2), .val (.int (1 : Int32)), .unset, .unset, .unset, .unset, .unset]) rfl (XS.iload X10.here hx rfl (hb hby at_32) rfl (XS.iconst X10.here hx rfl (hb hby at_34) (XS.iload X10.here hx rfl (hb hby at_35) rfl k)))) ?_
    refine own_via (T' := T10) (g' := (mkF m 45 #[.val (.int x0), .val (.int x1), .val (.int x2), .val (.int x3), .val (.ref r1), .val (.int (nb.toInt32)), .val (.ref b2), .val (.int (1 : Int32)), .unset, .unset, .unset, .unset, .unset] [(.int (1 : Int32)), (.int (1 : Int32))])) (fun t k => XS.icmpNo X10.here hx rfl (hb hby at_37) rfl (tlt hc9).2.1 (XS.iconst X10.here hx rfl (hb hby at_40) (XS.goto X10.here hx rfl (pc0 := 41) (pc' := 45) rfl (hb hby at_41) (by decide) (by decide) k))) ?_
    refine own_via (T' := T10) (g' := (mkF m 64 #[.val (.int x0), .val (.int x1), .val (.int x2), .val (.int x3), .val (.ref r1), .val (.int (nb.toInt32)), .val (.ref b2), .val (.int (1 : Int32)), .val (.int (1 : Int32)), .val (.int (0 : Int32)), .unset, .unset, .unset] [(.int (x1 &&& (7 : Int32))), (.ref b2)])) (fun t k => XS.icmpNo X10.here hx rfl (hb hby at_45) rfl (teq (by decide : (1 : Int32) = (1 : Int32))).2 (XS.iconst X10.here hx rfl (hb hby at_48) (XS.goto X10.here hx rfl (pc0 := 49) (pc' := 53) rfl (hb hby at_49) (by decide) (by decide) (XS.istore X10.here hx rfl (hb hby at_53) rfl (l' := #[.val (.int x0), .val (.int x1), .val (.int x2), .val (.int x3), .val (.ref r1), .val (.int (nb.toInt32)), .val (.ref b2), .val (.int (1 : Int32)), .val (.int (1 : Int32)), .unset, .unset, .unset, .unset]) rfl (XS.iconst X10.here hx rfl (hb hby at_55) (XS.istore X10.here hx rfl (hb hby at_56) rfl (l' := #[.val (.int x0), .val (.int x1), .val (.int x2), .val (.int x3), .val (.ref r1), .val (.int (nb.toInt32)), .val (.ref b2), .val (.int (1 : Int32)), .val (.int (1 : Int32)), .val (.int (0 : Int32)), .unset, .unset, .unset]) rfl (XS.aload X10.here hx rfl (hb hby at_58) rfl rfl (XS.iloadN X10.here hx rfl (hb hby at_60) rfl (XS.bipush X10.here hx rfl (hb hby at_61) (XS.iand X10.here hx rfl (hb hby at_63) rfl k)))))))))) ?_
    refine own_via (T' := T10) (g' := (mkF m 68 #[.val (.int x0), .val (.int x1), .val (.int x2), .val (.int x3), .val (.ref r1), .val (.int (nb.toInt32)), .val (.ref b2), .val (.int (1 : Int32)), .val (.int (1 : Int32)), .val (.int (0 : Int32)), .unset, .unset, .unset] [(.int (nb.toInt32)), (.int (0 : Int32)), (.int (x1 &&& (7 : Int32))), (.ref b2)])) (fun t k => XS.iload X10.here hx rfl (hb hby at_64) rfl (XS.iload X10.here hx rfl (hb hby at_66) rfl k)) ?_
    obtain ⟨v11, T11, L11, X11, hQ11, st11⟩ := own_callSt (y := (⟨"com/example/concordia/concordia/wire/FrameReaderHasRemainingPinLaw", "step", "(Lcom/example/concordia/concordia/wire/FrameReader;III)I"⟩ : MethodName)) (argsL := [(.ref b2), (.int (x1 &&& (7 : Int32))), (.int (0 : Int32)), (.int (nb.toInt32))]) (rest := []) X10 hx hZ hown (hw _ (List.mem_of_getElem? (i := 23) rfl)) (hw _ (List.mem_of_getElem? (i := 24) rfl)) (hw _ (List.mem_of_getElem? (i := 2) rfl)) (hw _ (List.mem_of_getElem? (i := 25) rfl)) (by decide) (own_mt5 l Z a0 hw b2 (x1 &&& (7 : Int32)) (0 : Int32) r1 nb T5.heap n0 Z5 ge_b2 (Ne.symm ne_r1_b2) G5_0 G5_1 G5_2 V1q_at6 EA1q_at7 hnb own_zero) e10 (W := 0) (by decide) (by decide) (g := (mkF m 68 #[.val (.int x0), .val (.int x1), .val (.int x2), .val (.int x3), .val (.ref r1), .val (.int (nb.toInt32)), .val (.ref b2), .val (.int (1 : Int32)), .val (.int (1 : Int32)), .val (.int (0 : Int32)), .unset, .unset, .unset] [(.int (nb.toInt32)), (.int (0 : Int32)), (.int (x1 &&& (7 : Int32))), (.ref b2)])) rfl (by rw [hml]; rfl) (lenOf own_pd11 rfl) rfl (by show 2 * 0 + _ ≤ _; exact Nat.le_of_eq rfl) (hb hby at_68) (by decide) (by decide)
    obtain ⟨rfl, Nq11, K11q, G11_0, G11_1, G11_2⟩ := hQ11
    have N11 := Fr.app N10 Nq11
    have Z11 : n0 ≤ T11.heap.size := Nat.le_trans Z5 K11q.1
    have V1q_at12 := V1q_at6.keep K11q (ninS ne_r1_b2 nin0)
    have EA1q_at13 := EA1q_at7.keep K11q
    have G5_0_at14 := G5_0.keep K11q
    have hp11 := own_step_ok hnb own_zero (x1 &&& (7 : Int32))
    have hse11 := own_step_eq (x1 &&& (7 : Int32)) (0 : Int32) nb
    rw [hse11] at G11_2
    generalize hg11 : (own_step (x1 &&& (7 : Int32)) (0 : Int32) nb) = ps11 at G11_2 hp11 st11
    refine own_via (T' := T11) (g' := (mkF m 71 #[.val (.int x0), .val (.int x1), .val (.int x2), .val (.int x3), .val (.ref r1), .val (.int (nb.toInt32)), .val (.ref b2), .val (.int (1 : Int32)), .val (.int (1 : Int32)), .val (.int (0 : Int32)), .unset, .unset, .unset] [(.int ps11)])) st11 ?_
    refine own_via (T' := T11) (g' := (mkF m 75 #[.val (.int x0), .val (.int x1), .val (.int x2), .val (.int x3), .val (.ref r1), .val (.int (nb.toInt32)), .val (.ref b2), .val (.int (1 : Int32)), .val (.int (1 : Int32)), .val (.int ps11), .unset, .unset, .unset] [(.ref b2)])) (fun t k => XS.istore X11.here hx rfl (hb hby at_71) rfl (l' := #[.val (.int x0), .val (.int x1), .val (.int x2), .val (.int x3), .val (.ref r1), .val (.int (nb.toInt32)), .val (.ref b2), .val (.int (1 : Int32)), .val (.int (1 : Int32)), .val (.int ps11), .unset, .unset, .unset]) rfl (XS.aload X11.here hx rfl (hb hby at_73) rfl rfl k)) ?_
    by_cases hc15 : ps11 < (nb.toInt32)
    · obtain ⟨v16, T16, L16, X16, hQ16, st16⟩ := own_callVi (y := (⟨"com/example/concordia/concordia/wire/FrameReader", "hasRemaining", "()Z"⟩ : MethodName)) (z := (⟨"com/example/concordia/concordia/wire/FrameReader", "hasRemaining", "()Z"⟩ : MethodName)) (a := b2) (C := "com/example/concordia/concordia/wire/FrameReader") (argsL := []) (rest := []) X11 hx hZ hown (hw _ (List.mem_of_getElem? (i := 16) rfl)) (hw _ (List.mem_of_getElem? (i := 17) rfl)) (notFace_of_selects (args := #[]) (mvT hZ (hw _ (List.mem_of_getElem? (i := 19) rfl)))) (hw _ (List.mem_of_getElem? (i := 19) rfl)) (hw _ (List.mem_of_getElem? (i := 18) rfl)) (hw _ (List.mem_of_getElem? (i := 7) rfl)) (hw _ (List.mem_of_getElem? (i := 20) rfl)) (by decide) G11_0 (own_mth1 l Z a0 hw b2 r1 ps11 nb T11.heap G11_1 G11_2 V1q_at12 hc15) rfl (W := 0) (by decide) (by decide) (g := (mkF m 75 #[.val (.int x0), .val (.int x1), .val (.int x2), .val (.int x3), .val (.ref r1), .val (.int (nb.toInt32)), .val (.ref b2), .val (.int (1 : Int32)), .val (.int (1 : Int32)), .val (.int ps11), .unset, .unset, .unset] [(.ref b2)])) rfl (by rw [hml]; rfl) (lenOf own_pd8 rfl) rfl (by show 2 * 0 + _ ≤ _; exact Nat.le_of_eq rfl) (hb hby at_75) (by decide) (by decide)
      obtain ⟨rfl, e16, rfl⟩ := hQ16
      have N16 := Fr.app N11 (Fr.nil n0)
      refine own_via (T' := T16) (g' := (mkF m 78 #[.val (.int x0), .val (.int x1), .val (.int x2), .val (.int x3), .val (.ref r1), .val (.int (nb.toInt32)), .val (.ref b2), .val (.int (1 : Int32)), .val (.int (1 : Int32)), .val (.int ps11), .unset, .unset, .unset] [(.int (1 : Int32))])) st16 ?_
      refine own_via (T' := T16) (g' := (mkF m 82 #[.val (.int x0), .val (.int x1), .val (.int x2), .val (.int x3), .val (.ref r1), .val (.int (nb.toInt32)), .val (.ref b2), .val (.int (1 : Int32)), .val (.int (1 : Int32)), .val (.int ps11), .val (.int (1 : Int32)), .unset, .unset] [(.int (1 : Int32))])) (fun t k => XS.istore X16.here hx rfl (hb hby at_78) rfl (l' := #[.val (.int x0), .val (.int x1), .val (.int x2), .val (.int x3), .val (.ref r1), .val (.int (nb.toInt32)), .val (.ref b2), .val (.int (1 : Int32)), .val (.int (1 : Int32)), .val (.int ps11), .val (.int (1 : Int32)), .unset, .unset]) rfl (XS.iload X16.here hx rfl (hb hby at_80) rfl k)) ?_
      refine own_via (T' := T16) (g' := (mkF m 91 #[.val (.int x0), .val (.int x1), .val (.int x2), .val (.int x3), .val (.ref r1), .val (.int (nb.toInt32)), .val (.ref b2), .val (.int (1 : Int32)), .val (.int (1 : Int32)), .val (.int ps11), .val (.int (1 : Int32)), .unset, .unset] [(.int (nb.toInt32)), (.int ps11), (.int (1 : Int32))])) (fun t k => XS.ifNo X16.here hx rfl (hb hby at_82) rfl ((if0 _ _).trans (feq (by decide : ¬ ((1 : Int32) = (0 : Int32)))).1) (XS.iload X16.here hx rfl (hb hby at_85) rfl (XS.iload X16.here hx rfl (hb hby at_87) rfl (XS.iload X16.here hx rfl (hb hby at_89) rfl k)))) ?_
      refine own_via (T' := T16) (g' := (mkF m 99 #[.val (.int x0), .val (.int x1), .val (.int x2), .val (.int x3), .val (.ref r1), .val (.int (nb.toInt32)), .val (.ref b2), .val (.int (1 : Int32)), .val (.int (1 : Int32)), .val (.int ps11), .val (.int (1 : Int32)), .unset, .unset] [(.int (1 : Int32)), (.int (1 : Int32))])) (fun t k => XS.icmpNo X16.here hx rfl (hb hby at_91) rfl (tlt hc15).2.1 (XS.iconst X16.here hx rfl (hb hby at_94) (XS.goto X16.here hx rfl (pc0 := 95) (pc' := 99) rfl (hb hby at_95) (by decide) (by decide) k))) ?_
      refine own_via (T' := T16) (g' := (mkF m 119 #[.val (.int x0), .val (.int x1), .val (.int x2), .val (.int x3), .val (.ref r1), .val (.int (nb.toInt32)), .val (.ref b2), .val (.int (1 : Int32)), .val (.int (1 : Int32)), .val (.int ps11), .val (.int (1 : Int32)), .unset, .unset] [(.int (nb.toInt32)), (.int ps11), (.int (x2 &&& (7 : Int32))), (.ref b2)])) (fun t k => XS.icmpNo X16.here hx rfl (hb hby at_99) rfl (teq (by decide : (1 : Int32) = (1 : Int32))).2 (XS.iconst X16.here hx rfl (hb hby at_102) (XS.goto X16.here hx rfl (pc0 := 103) (pc' := 107) rfl (hb hby at_103) (by decide) (by decide) (XS.istore X16.here hx rfl (hb hby at_107) rfl (l' := #[.val (.int x0), .val (.int x1), .val (.int x2), .val (.int x3), .val (.ref r1), .val (.int (nb.toInt32)), .val (.ref b2), .val (.int (1 : Int32)), .val (.int (1 : Int32)), .val (.int ps11), .val (.int (1 : Int32)), .unset, .unset]) rfl (XS.aload X16.here hx rfl (hb hby at_109) rfl rfl (XS.iloadN X16.here hx rfl (hb hby at_111) rfl (XS.bipush X16.here hx rfl (hb hby at_112) (XS.iand X16.here hx rfl (hb hby at_114) rfl (XS.iload X16.here hx rfl (hb hby at_115) rfl (XS.iload X16.here hx rfl (hb hby at_117) rfl k)))))))))) ?_
      obtain ⟨v17, T17, L17, X17, hQ17, st17⟩ := own_callSt (y := (⟨"com/example/concordia/concordia/wire/FrameReaderHasRemainingPinLaw", "step", "(Lcom/example/concordia/concordia/wire/FrameReader;III)I"⟩ : MethodName)) (argsL := [(.ref b2), (.int (x2 &&& (7 : Int32))), (.int ps11), (.int (nb.toInt32))]) (rest := []) X16 hx hZ hown (hw _ (List.mem_of_getElem? (i := 23) rfl)) (hw _ (List.mem_of_getElem? (i := 24) rfl)) (hw _ (List.mem_of_getElem? (i := 2) rfl)) (hw _ (List.mem_of_getElem? (i := 25) rfl)) (by decide) (own_mt5 l Z a0 hw b2 (x2 &&& (7 : Int32)) ps11 r1 nb T11.heap n0 Z11 ge_b2 (Ne.symm ne_r1_b2) G11_0 G11_1 G11_2 V1q_at12 EA1q_at13 hnb hp11) e16 (W := 0) (by decide) (by decide) (g := (mkF m 119 #[.val (.int x0), .val (.int x1), .val (.int x2), .val (.int x3), .val (.ref r1), .val (.int (nb.toInt32)), .val (.ref b2), .val (.int (1 : Int32)), .val (.int (1 : Int32)), .val (.int ps11), .val (.int (1 : Int32)), .unset, .unset] [(.int (nb.toInt32)), (.int ps11), (.int (x2 &&& (7 : Int32))), (.ref b2)])) rfl (by rw [hml]; rfl) (lenOf own_pd11 rfl) rfl (by show 2 * 0 + _ ≤ _; exact Nat.le_of_eq rfl) (hb hby at_119) (by decide) (by decide)
      obtain ⟨rfl, Nq17, K17q, G17_0, G17_1, G17_2⟩ := hQ17
      have N17 := Fr.app N16 Nq17
      have Z17 : n0 ≤ T17.heap.size := Nat.le_trans Z11 K17q.1
      have V1q_at18 := V1q_at12.keep K17q (ninS ne_r1_b2 nin0)
      have EA1q_at19 := EA1q_at13.keep K17q
      have G11_0_at20 := G11_0.keep K17q
      have hp17 := own_step_ok hnb hp11 (x2 &&& (7 : Int32))
      have hse17 := own_step_eq (x2 &&& (7 : Int32)) ps11 nb
      rw [hse17] at G17_2
      generalize hg17 : (own_step (x2 &&& (7 : Int32)) ps11 nb) = ps17 at G17_2 hp17 st17
      refine own_via (T' := T17) (g' := (mkF m 122 #[.val (.int x0), .val (.int x1), .val (.int x2), .val (.int x3), .val (.ref r1), .val (.int (nb.toInt32)), .val (.ref b2), .val (.int (1 : Int32)), .val (.int (1 : Int32)), .val (.int ps11), .val (.int (1 : Int32)), .unset, .unset] [(.int ps17)])) st17 ?_
      refine own_via (T' := T17) (g' := (mkF m 126 #[.val (.int x0), .val (.int x1), .val (.int x2), .val (.int x3), .val (.ref r1), .val (.int (nb.toInt32)), .val (.ref b2), .val (.int (1 : Int32)), .val (.int (1 : Int32)), .val (.int ps17), .val (.int (1 : Int32)), .unset, .unset] [(.ref b2)])) (fun t k => XS.istore X17.here hx rfl (hb hby at_122) rfl (l' := #[.val (.int x0), .val (.int x1), .val (.int x2), .val (.int x3), .val (.ref r1), .val (.int (nb.toInt32)), .val (.ref b2), .val (.int (1 : Int32)), .val (.int (1 : Int32)), .val (.int ps17), .val (.int (1 : Int32)), .unset, .unset]) rfl (XS.aload X17.here hx rfl (hb hby at_124) rfl rfl k)) ?_
      by_cases hc21 : ps17 < (nb.toInt32)
      · obtain ⟨v22, T22, L22, X22, hQ22, st22⟩ := own_callVi (y := (⟨"com/example/concordia/concordia/wire/FrameReader", "hasRemaining", "()Z"⟩ : MethodName)) (z := (⟨"com/example/concordia/concordia/wire/FrameReader", "hasRemaining", "()Z"⟩ : MethodName)) (a := b2) (C := "com/example/concordia/concordia/wire/FrameReader") (argsL := []) (rest := []) X17 hx hZ hown (hw _ (List.mem_of_getElem? (i := 16) rfl)) (hw _ (List.mem_of_getElem? (i := 17) rfl)) (notFace_of_selects (args := #[]) (mvT hZ (hw _ (List.mem_of_getElem? (i := 19) rfl)))) (hw _ (List.mem_of_getElem? (i := 19) rfl)) (hw _ (List.mem_of_getElem? (i := 18) rfl)) (hw _ (List.mem_of_getElem? (i := 7) rfl)) (hw _ (List.mem_of_getElem? (i := 20) rfl)) (by decide) G17_0 (own_mth1 l Z a0 hw b2 r1 ps17 nb T17.heap G17_1 G17_2 V1q_at18 hc21) rfl (W := 0) (by decide) (by decide) (g := (mkF m 126 #[.val (.int x0), .val (.int x1), .val (.int x2), .val (.int x3), .val (.ref r1), .val (.int (nb.toInt32)), .val (.ref b2), .val (.int (1 : Int32)), .val (.int (1 : Int32)), .val (.int ps17), .val (.int (1 : Int32)), .unset, .unset] [(.ref b2)])) rfl (by rw [hml]; rfl) (lenOf own_pd8 rfl) rfl (by show 2 * 0 + _ ≤ _; exact Nat.le_of_eq rfl) (hb hby at_126) (by decide) (by decide)
        obtain ⟨rfl, e22, rfl⟩ := hQ22
        have N22 := Fr.app N17 (Fr.nil n0)
        refine own_via (T' := T22) (g' := (mkF m 129 #[.val (.int x0), .val (.int x1), .val (.int x2), .val (.int x3), .val (.ref r1), .val (.int (nb.toInt32)), .val (.ref b2), .val (.int (1 : Int32)), .val (.int (1 : Int32)), .val (.int ps17), .val (.int (1 : Int32)), .unset, .unset] [(.int (1 : Int32))])) st22 ?_
        refine own_via (T' := T22) (g' := (mkF m 133 #[.val (.int x0), .val (.int x1), .val (.int x2), .val (.int x3), .val (.ref r1), .val (.int (nb.toInt32)), .val (.ref b2), .val (.int (1 : Int32)), .val (.int (1 : Int32)), .val (.int ps17), .val (.int (1 : Int32)), .val (.int (1 : Int32)), .unset] [(.int (1 : Int32))])) (fun t k => XS.istore X22.here hx rfl (hb hby at_129) rfl (l' := #[.val (.int x0), .val (.int x1), .val (.int x2), .val (.int x3), .val (.ref r1), .val (.int (nb.toInt32)), .val (.ref b2), .val (.int (1 : Int32)), .val (.int (1 : Int32)), .val (.int ps17), .val (.int (1 : Int32)), .val (.int (1 : Int32)), .unset]) rfl (XS.iload X22.here hx rfl (hb hby at_131) rfl k)) ?_
        refine own_via (T' := T22) (g' := (mkF m 142 #[.val (.int x0), .val (.int x1), .val (.int x2), .val (.int x3), .val (.ref r1), .val (.int (nb.toInt32)), .val (.ref b2), .val (.int (1 : Int32)), .val (.int (1 : Int32)), .val (.int ps17), .val (.int (1 : Int32)), .val (.int (1 : Int32)), .unset] [(.int (nb.toInt32)), (.int ps17), (.int (1 : Int32))])) (fun t k => XS.ifNo X22.here hx rfl (hb hby at_133) rfl ((if0 _ _).trans (feq (by decide : ¬ ((1 : Int32) = (0 : Int32)))).1) (XS.iload X22.here hx rfl (hb hby at_136) rfl (XS.iload X22.here hx rfl (hb hby at_138) rfl (XS.iload X22.here hx rfl (hb hby at_140) rfl k)))) ?_
        refine own_via (T' := T22) (g' := (mkF m 150 #[.val (.int x0), .val (.int x1), .val (.int x2), .val (.int x3), .val (.ref r1), .val (.int (nb.toInt32)), .val (.ref b2), .val (.int (1 : Int32)), .val (.int (1 : Int32)), .val (.int ps17), .val (.int (1 : Int32)), .val (.int (1 : Int32)), .unset] [(.int (1 : Int32)), (.int (1 : Int32))])) (fun t k => XS.icmpNo X22.here hx rfl (hb hby at_142) rfl (tlt hc21).2.1 (XS.iconst X22.here hx rfl (hb hby at_145) (XS.goto X22.here hx rfl (pc0 := 146) (pc' := 150) rfl (hb hby at_146) (by decide) (by decide) k))) ?_
        refine own_via (T' := T22) (g' := (mkF m 170 #[.val (.int x0), .val (.int x1), .val (.int x2), .val (.int x3), .val (.ref r1), .val (.int (nb.toInt32)), .val (.ref b2), .val (.int (1 : Int32)), .val (.int (1 : Int32)), .val (.int ps17), .val (.int (1 : Int32)), .val (.int (1 : Int32)), .unset] [(.int (nb.toInt32)), (.int ps17), (.int (x3 &&& (7 : Int32))), (.ref b2)])) (fun t k => XS.icmpNo X22.here hx rfl (hb hby at_150) rfl (teq (by decide : (1 : Int32) = (1 : Int32))).2 (XS.iconst X22.here hx rfl (hb hby at_153) (XS.goto X22.here hx rfl (pc0 := 154) (pc' := 158) rfl (hb hby at_154) (by decide) (by decide) (XS.istore X22.here hx rfl (hb hby at_158) rfl (l' := #[.val (.int x0), .val (.int x1), .val (.int x2), .val (.int x3), .val (.ref r1), .val (.int (nb.toInt32)), .val (.ref b2), .val (.int (1 : Int32)), .val (.int (1 : Int32)), .val (.int ps17), .val (.int (1 : Int32)), .val (.int (1 : Int32)), .unset]) rfl (XS.aload X22.here hx rfl (hb hby at_160) rfl rfl (XS.iloadN X22.here hx rfl (hb hby at_162) rfl (XS.bipush X22.here hx rfl (hb hby at_163) (XS.iand X22.here hx rfl (hb hby at_165) rfl (XS.iload X22.here hx rfl (hb hby at_166) rfl (XS.iload X22.here hx rfl (hb hby at_168) rfl k)))))))))) ?_
        obtain ⟨v23, T23, L23, X23, hQ23, st23⟩ := own_callSt (y := (⟨"com/example/concordia/concordia/wire/FrameReaderHasRemainingPinLaw", "step", "(Lcom/example/concordia/concordia/wire/FrameReader;III)I"⟩ : MethodName)) (argsL := [(.ref b2), (.int (x3 &&& (7 : Int32))), (.int ps17), (.int (nb.toInt32))]) (rest := []) X22 hx hZ hown (hw _ (List.mem_of_getElem? (i := 23) rfl)) (hw _ (List.mem_of_getElem? (i := 24) rfl)) (hw _ (List.mem_of_getElem? (i := 2) rfl)) (hw _ (List.mem_of_getElem? (i := 25) rfl)) (by decide) (own_mt5 l Z a0 hw b2 (x3 &&& (7 : Int32)) ps17 r1 nb T17.heap n0 Z17 ge_b2 (Ne.symm ne_r1_b2) G17_0 G17_1 G17_2 V1q_at18 EA1q_at19 hnb hp17) e22 (W := 0) (by decide) (by decide) (g := (mkF m 170 #[.val (.int x0), .val (.int x1), .val (.int x2), .val (.int x3), .val (.ref r1), .val (.int (nb.toInt32)), .val (.ref b2), .val (.int (1 : Int32)), .val (.int (1 : Int32)), .val (.int ps17), .val (.int (1 : Int32)), .val (.int (1 : Int32)), .unset] [(.int (nb.toInt32)), (.int ps17), (.int (x3 &&& (7 : Int32))), (.ref b2)])) rfl (by rw [hml]; rfl) (lenOf own_pd11 rfl) rfl (by show 2 * 0 + _ ≤ _; exact Nat.le_of_eq rfl) (hb hby at_170) (by decide) (by decide)
        obtain ⟨rfl, Nq23, K23q, G23_0, G23_1, G23_2⟩ := hQ23
        have N23 := Fr.app N22 Nq23
        have Z23 : n0 ≤ T23.heap.size := Nat.le_trans Z17 K23q.1
        have V1q_at24 := V1q_at18.keep K23q (ninS ne_r1_b2 nin0)
        have EA1q_at25 := EA1q_at19.keep K23q
        have G17_0_at26 := G17_0.keep K23q
        have hp23 := own_step_ok hnb hp17 (x3 &&& (7 : Int32))
        have hse23 := own_step_eq (x3 &&& (7 : Int32)) ps17 nb
        rw [hse23] at G23_2
        generalize hg23 : (own_step (x3 &&& (7 : Int32)) ps17 nb) = ps23 at G23_2 hp23 st23
        refine own_via (T' := T23) (g' := (mkF m 173 #[.val (.int x0), .val (.int x1), .val (.int x2), .val (.int x3), .val (.ref r1), .val (.int (nb.toInt32)), .val (.ref b2), .val (.int (1 : Int32)), .val (.int (1 : Int32)), .val (.int ps17), .val (.int (1 : Int32)), .val (.int (1 : Int32)), .unset] [(.int ps23)])) st23 ?_
        refine own_via (T' := T23) (g' := (mkF m 177 #[.val (.int x0), .val (.int x1), .val (.int x2), .val (.int x3), .val (.ref r1), .val (.int (nb.toInt32)), .val (.ref b2), .val (.int (1 : Int32)), .val (.int (1 : Int32)), .val (.int ps23), .val (.int (1 : Int32)), .val (.int (1 : Int32)), .unset] [(.ref b2)])) (fun t k => XS.istore X23.here hx rfl (hb hby at_173) rfl (l' := #[.val (.int x0), .val (.int x1), .val (.int x2), .val (.int x3), .val (.ref r1), .val (.int (nb.toInt32)), .val (.ref b2), .val (.int (1 : Int32)), .val (.int (1 : Int32)), .val (.int ps23), .val (.int (1 : Int32)), .val (.int (1 : Int32)), .unset]) rfl (XS.aload X23.here hx rfl (hb hby at_175) rfl rfl k)) ?_
        by_cases hc27 : ps23 < (nb.toInt32)
        · obtain ⟨v28, T28, L28, X28, hQ28, st28⟩ := own_callVi (y := (⟨"com/example/concordia/concordia/wire/FrameReader", "hasRemaining", "()Z"⟩ : MethodName)) (z := (⟨"com/example/concordia/concordia/wire/FrameReader", "hasRemaining", "()Z"⟩ : MethodName)) (a := b2) (C := "com/example/concordia/concordia/wire/FrameReader") (argsL := []) (rest := []) X23 hx hZ hown (hw _ (List.mem_of_getElem? (i := 16) rfl)) (hw _ (List.mem_of_getElem? (i := 17) rfl)) (notFace_of_selects (args := #[]) (mvT hZ (hw _ (List.mem_of_getElem? (i := 19) rfl)))) (hw _ (List.mem_of_getElem? (i := 19) rfl)) (hw _ (List.mem_of_getElem? (i := 18) rfl)) (hw _ (List.mem_of_getElem? (i := 7) rfl)) (hw _ (List.mem_of_getElem? (i := 20) rfl)) (by decide) G23_0 (own_mth1 l Z a0 hw b2 r1 ps23 nb T23.heap G23_1 G23_2 V1q_at24 hc27) rfl (W := 0) (by decide) (by decide) (g := (mkF m 177 #[.val (.int x0), .val (.int x1), .val (.int x2), .val (.int x3), .val (.ref r1), .val (.int (nb.toInt32)), .val (.ref b2), .val (.int (1 : Int32)), .val (.int (1 : Int32)), .val (.int ps23), .val (.int (1 : Int32)), .val (.int (1 : Int32)), .unset] [(.ref b2)])) rfl (by rw [hml]; rfl) (lenOf own_pd8 rfl) rfl (by show 2 * 0 + _ ≤ _; exact Nat.le_of_eq rfl) (hb hby at_177) (by decide) (by decide)
          obtain ⟨rfl, e28, rfl⟩ := hQ28
          have N28 := Fr.app N23 (Fr.nil n0)
          refine own_via (T' := T28) (g' := (mkF m 180 #[.val (.int x0), .val (.int x1), .val (.int x2), .val (.int x3), .val (.ref r1), .val (.int (nb.toInt32)), .val (.ref b2), .val (.int (1 : Int32)), .val (.int (1 : Int32)), .val (.int ps23), .val (.int (1 : Int32)), .val (.int (1 : Int32)), .unset] [(.int (1 : Int32))])) st28 ?_
          refine own_via (T' := T28) (g' := (mkF m 184 #[.val (.int x0), .val (.int x1), .val (.int x2), .val (.int x3), .val (.ref r1), .val (.int (nb.toInt32)), .val (.ref b2), .val (.int (1 : Int32)), .val (.int (1 : Int32)), .val (.int ps23), .val (.int (1 : Int32)), .val (.int (1 : Int32)), .val (.int (1 : Int32))] [(.int (1 : Int32))])) (fun t k => XS.istore X28.here hx rfl (hb hby at_180) rfl (l' := #[.val (.int x0), .val (.int x1), .val (.int x2), .val (.int x3), .val (.ref r1), .val (.int (nb.toInt32)), .val (.ref b2), .val (.int (1 : Int32)), .val (.int (1 : Int32)), .val (.int ps23), .val (.int (1 : Int32)), .val (.int (1 : Int32)), .val (.int (1 : Int32))]) rfl (XS.iload X28.here hx rfl (hb hby at_182) rfl k)) ?_
          refine own_via (T' := T28) (g' := (mkF m 193 #[.val (.int x0), .val (.int x1), .val (.int x2), .val (.int x3), .val (.ref r1), .val (.int (nb.toInt32)), .val (.ref b2), .val (.int (1 : Int32)), .val (.int (1 : Int32)), .val (.int ps23), .val (.int (1 : Int32)), .val (.int (1 : Int32)), .val (.int (1 : Int32))] [(.int (nb.toInt32)), (.int ps23), (.int (1 : Int32))])) (fun t k => XS.ifNo X28.here hx rfl (hb hby at_184) rfl ((if0 _ _).trans (feq (by decide : ¬ ((1 : Int32) = (0 : Int32)))).1) (XS.iload X28.here hx rfl (hb hby at_187) rfl (XS.iload X28.here hx rfl (hb hby at_189) rfl (XS.iload X28.here hx rfl (hb hby at_191) rfl k)))) ?_
          refine own_via (T' := T28) (g' := (mkF m 201 #[.val (.int x0), .val (.int x1), .val (.int x2), .val (.int x3), .val (.ref r1), .val (.int (nb.toInt32)), .val (.ref b2), .val (.int (1 : Int32)), .val (.int (1 : Int32)), .val (.int ps23), .val (.int (1 : Int32)), .val (.int (1 : Int32)), .val (.int (1 : Int32))] [(.int (1 : Int32)), (.int (1 : Int32))])) (fun t k => XS.icmpNo X28.here hx rfl (hb hby at_193) rfl (tlt hc27).2.1 (XS.iconst X28.here hx rfl (hb hby at_196) (XS.goto X28.here hx rfl (pc0 := 197) (pc' := 201) rfl (hb hby at_197) (by decide) (by decide) k))) ?_
          refine own_via (T' := T28) (g' := (mkF m 213 #[.val (.int x0), .val (.int x1), .val (.int x2), .val (.int x3), .val (.ref r1), .val (.int (nb.toInt32)), .val (.ref b2), .val (.int (1 : Int32)), .val (.int (1 : Int32)), .val (.int ps23), .val (.int (1 : Int32)), .val (.int (1 : Int32)), .val (.int (1 : Int32))] [(.int (1 : Int32))])) (fun t k => XS.icmpNo X28.here hx rfl (hb hby at_201) rfl (teq (by decide : (1 : Int32) = (1 : Int32))).2 (XS.iconst X28.here hx rfl (hb hby at_204) (XS.goto X28.here hx rfl (pc0 := 205) (pc' := 209) rfl (hb hby at_205) (by decide) (by decide) (XS.istore X28.here hx rfl (hb hby at_209) rfl (l' := #[.val (.int x0), .val (.int x1), .val (.int x2), .val (.int x3), .val (.ref r1), .val (.int (nb.toInt32)), .val (.ref b2), .val (.int (1 : Int32)), .val (.int (1 : Int32)), .val (.int ps23), .val (.int (1 : Int32)), .val (.int (1 : Int32)), .val (.int (1 : Int32))]) rfl (XS.iload X28.here hx rfl (hb hby at_211) rfl k))))) ?_
          refine own_retN X28 hx hlk (ty := .boolean) hret (by simp) (hb hby at_213) (by decide) (by decide) ?_
          exact ⟨by rw [own_f0] <;> rfl, N28⟩
        · obtain ⟨v29, T29, L29, X29, hQ29, st29⟩ := own_callVi (y := (⟨"com/example/concordia/concordia/wire/FrameReader", "hasRemaining", "()Z"⟩ : MethodName)) (z := (⟨"com/example/concordia/concordia/wire/FrameReader", "hasRemaining", "()Z"⟩ : MethodName)) (a := b2) (C := "com/example/concordia/concordia/wire/FrameReader") (argsL := []) (rest := []) X23 hx hZ hown (hw _ (List.mem_of_getElem? (i := 16) rfl)) (hw _ (List.mem_of_getElem? (i := 17) rfl)) (notFace_of_selects (args := #[]) (mvT hZ (hw _ (List.mem_of_getElem? (i := 19) rfl)))) (hw _ (List.mem_of_getElem? (i := 19) rfl)) (hw _ (List.mem_of_getElem? (i := 18) rfl)) (hw _ (List.mem_of_getElem? (i := 7) rfl)) (hw _ (List.mem_of_getElem? (i := 20) rfl)) (by decide) G23_0 (own_mth0 l Z a0 hw b2 r1 ps23 nb T23.heap G23_1 G23_2 V1q_at24 hc27) rfl (W := 0) (by decide) (by decide) (g := (mkF m 177 #[.val (.int x0), .val (.int x1), .val (.int x2), .val (.int x3), .val (.ref r1), .val (.int (nb.toInt32)), .val (.ref b2), .val (.int (1 : Int32)), .val (.int (1 : Int32)), .val (.int ps23), .val (.int (1 : Int32)), .val (.int (1 : Int32)), .unset] [(.ref b2)])) rfl (by rw [hml]; rfl) (lenOf own_pd8 rfl) rfl (by show 2 * 0 + _ ≤ _; exact Nat.le_of_eq rfl) (hb hby at_177) (by decide) (by decide)
          obtain ⟨rfl, e29, rfl⟩ := hQ29
          have N29 := Fr.app N23 (Fr.nil n0)
          refine own_via (T' := T29) (g' := (mkF m 180 #[.val (.int x0), .val (.int x1), .val (.int x2), .val (.int x3), .val (.ref r1), .val (.int (nb.toInt32)), .val (.ref b2), .val (.int (1 : Int32)), .val (.int (1 : Int32)), .val (.int ps23), .val (.int (1 : Int32)), .val (.int (1 : Int32)), .unset] [(.int (0 : Int32))])) st29 ?_
          refine own_via (T' := T29) (g' := (mkF m 184 #[.val (.int x0), .val (.int x1), .val (.int x2), .val (.int x3), .val (.ref r1), .val (.int (nb.toInt32)), .val (.ref b2), .val (.int (1 : Int32)), .val (.int (1 : Int32)), .val (.int ps23), .val (.int (1 : Int32)), .val (.int (1 : Int32)), .val (.int (0 : Int32))] [(.int (1 : Int32))])) (fun t k => XS.istore X29.here hx rfl (hb hby at_180) rfl (l' := #[.val (.int x0), .val (.int x1), .val (.int x2), .val (.int x3), .val (.ref r1), .val (.int (nb.toInt32)), .val (.ref b2), .val (.int (1 : Int32)), .val (.int (1 : Int32)), .val (.int ps23), .val (.int (1 : Int32)), .val (.int (1 : Int32)), .val (.int (0 : Int32))]) rfl (XS.iload X29.here hx rfl (hb hby at_182) rfl k)) ?_
          refine own_via (T' := T29) (g' := (mkF m 193 #[.val (.int x0), .val (.int x1), .val (.int x2), .val (.int x3), .val (.ref r1), .val (.int (nb.toInt32)), .val (.ref b2), .val (.int (1 : Int32)), .val (.int (1 : Int32)), .val (.int ps23), .val (.int (1 : Int32)), .val (.int (1 : Int32)), .val (.int (0 : Int32))] [(.int (nb.toInt32)), (.int ps23), (.int (0 : Int32))])) (fun t k => XS.ifNo X29.here hx rfl (hb hby at_184) rfl ((if0 _ _).trans (feq (by decide : ¬ ((1 : Int32) = (0 : Int32)))).1) (XS.iload X29.here hx rfl (hb hby at_187) rfl (XS.iload X29.here hx rfl (hb hby at_189) rfl (XS.iload X29.here hx rfl (hb hby at_191) rfl k)))) ?_
          refine own_via (T' := T29) (g' := (mkF m 201 #[.val (.int x0), .val (.int x1), .val (.int x2), .val (.int x3), .val (.ref r1), .val (.int (nb.toInt32)), .val (.ref b2), .val (.int (1 : Int32)), .val (.int (1 : Int32)), .val (.int ps23), .val (.int (1 : Int32)), .val (.int (1 : Int32)), .val (.int (0 : Int32))] [(.int (0 : Int32)), (.int (0 : Int32))])) (fun t k => XS.icmpYes X29.here hx rfl (pc0 := 193) (pc' := 200) rfl (hb hby at_193) rfl (flt hc27).2.1 (by decide) (by decide) (XS.iconst X29.here hx rfl (hb hby at_200) k)) ?_
          refine own_via (T' := T29) (g' := (mkF m 213 #[.val (.int x0), .val (.int x1), .val (.int x2), .val (.int x3), .val (.ref r1), .val (.int (nb.toInt32)), .val (.ref b2), .val (.int (1 : Int32)), .val (.int (1 : Int32)), .val (.int ps23), .val (.int (1 : Int32)), .val (.int (1 : Int32)), .val (.int (0 : Int32))] [(.int (1 : Int32))])) (fun t k => XS.icmpNo X29.here hx rfl (hb hby at_201) rfl (teq (by decide : (0 : Int32) = (0 : Int32))).2 (XS.iconst X29.here hx rfl (hb hby at_204) (XS.goto X29.here hx rfl (pc0 := 205) (pc' := 209) rfl (hb hby at_205) (by decide) (by decide) (XS.istore X29.here hx rfl (hb hby at_209) rfl (l' := #[.val (.int x0), .val (.int x1), .val (.int x2), .val (.int x3), .val (.ref r1), .val (.int (nb.toInt32)), .val (.ref b2), .val (.int (1 : Int32)), .val (.int (1 : Int32)), .val (.int ps23), .val (.int (1 : Int32)), .val (.int (1 : Int32)), .val (.int (0 : Int32))]) rfl (XS.iload X29.here hx rfl (hb hby at_211) rfl k))))) ?_
          refine own_retN X29 hx hlk (ty := .boolean) hret (by simp) (hb hby at_213) (by decide) (by decide) ?_
          exact ⟨by rw [own_f0] <;> rfl, N29⟩
      · obtain ⟨v30, T30, L30, X30, hQ30, st30⟩ := own_callVi (y := (⟨"com/example/concordia/concordia/wire/FrameReader", "hasRemaining", "()Z"⟩ : MethodName)) (z := (⟨"com/example/concordia/concordia/wire/FrameReader", "hasRemaining", "()Z"⟩ : MethodName)) (a := b2) (C := "com/example/concordia/concordia/wire/FrameReader") (argsL := []) (rest := []) X17 hx hZ hown (hw _ (List.mem_of_getElem? (i := 16) rfl)) (hw _ (List.mem_of_getElem? (i := 17) rfl)) (notFace_of_selects (args := #[]) (mvT hZ (hw _ (List.mem_of_getElem? (i := 19) rfl)))) (hw _ (List.mem_of_getElem? (i := 19) rfl)) (hw _ (List.mem_of_getElem? (i := 18) rfl)) (hw _ (List.mem_of_getElem? (i := 7) rfl)) (hw _ (List.mem_of_getElem? (i := 20) rfl)) (by decide) G17_0 (own_mth0 l Z a0 hw b2 r1 ps17 nb T17.heap G17_1 G17_2 V1q_at18 hc21) rfl (W := 0) (by decide) (by decide) (g := (mkF m 126 #[.val (.int x0), .val (.int x1), .val (.int x2), .val (.int x3), .val (.ref r1), .val (.int (nb.toInt32)), .val (.ref b2), .val (.int (1 : Int32)), .val (.int (1 : Int32)), .val (.int ps17), .val (.int (1 : Int32)), .unset, .unset] [(.ref b2)])) rfl (by rw [hml]; rfl) (lenOf own_pd8 rfl) rfl (by show 2 * 0 + _ ≤ _; exact Nat.le_of_eq rfl) (hb hby at_126) (by decide) (by decide)
        obtain ⟨rfl, e30, rfl⟩ := hQ30
        have N30 := Fr.app N17 (Fr.nil n0)
        refine own_via (T' := T30) (g' := (mkF m 129 #[.val (.int x0), .val (.int x1), .val (.int x2), .val (.int x3), .val (.ref r1), .val (.int (nb.toInt32)), .val (.ref b2), .val (.int (1 : Int32)), .val (.int (1 : Int32)), .val (.int ps17), .val (.int (1 : Int32)), .unset, .unset] [(.int (0 : Int32))])) st30 ?_
        refine own_via (T' := T30) (g' := (mkF m 133 #[.val (.int x0), .val (.int x1), .val (.int x2), .val (.int x3), .val (.ref r1), .val (.int (nb.toInt32)), .val (.ref b2), .val (.int (1 : Int32)), .val (.int (1 : Int32)), .val (.int ps17), .val (.int (1 : Int32)), .val (.int (0 : Int32)), .unset] [(.int (1 : Int32))])) (fun t k => XS.istore X30.here hx rfl (hb hby at_129) rfl (l' := #[.val (.int x0), .val (.int x1), .val (.int x2), .val (.int x3), .val (.ref r1), .val (.int (nb.toInt32)), .val (.ref b2), .val (.int (1 : Int32)), .val (.int (1 : Int32)), .val (.int ps17), .val (.int (1 : Int32)), .val (.int (0 : Int32)), .unset]) rfl (XS.iload X30.here hx rfl (hb hby at_131) rfl k)) ?_
        refine own_via (T' := T30) (g' := (mkF m 142 #[.val (.int x0), .val (.int x1), .val (.int x2), .val (.int x3), .val (.ref r1), .val (.int (nb.toInt32)), .val (.ref b2), .val (.int (1 : Int32)), .val (.int (1 : Int32)), .val (.int ps17), .val (.int (1 : Int32)), .val (.int (0 : Int32)), .unset] [(.int (nb.toInt32)), (.int ps17), (.int (0 : Int32))])) (fun t k => XS.ifNo X30.here hx rfl (hb hby at_133) rfl ((if0 _ _).trans (feq (by decide : ¬ ((1 : Int32) = (0 : Int32)))).1) (XS.iload X30.here hx rfl (hb hby at_136) rfl (XS.iload X30.here hx rfl (hb hby at_138) rfl (XS.iload X30.here hx rfl (hb hby at_140) rfl k)))) ?_
        refine own_via (T' := T30) (g' := (mkF m 150 #[.val (.int x0), .val (.int x1), .val (.int x2), .val (.int x3), .val (.ref r1), .val (.int (nb.toInt32)), .val (.ref b2), .val (.int (1 : Int32)), .val (.int (1 : Int32)), .val (.int ps17), .val (.int (1 : Int32)), .val (.int (0 : Int32)), .unset] [(.int (0 : Int32)), (.int (0 : Int32))])) (fun t k => XS.icmpYes X30.here hx rfl (pc0 := 142) (pc' := 149) rfl (hb hby at_142) rfl (flt hc21).2.1 (by decide) (by decide) (XS.iconst X30.here hx rfl (hb hby at_149) k)) ?_
        refine own_via (T' := T30) (g' := (mkF m 170 #[.val (.int x0), .val (.int x1), .val (.int x2), .val (.int x3), .val (.ref r1), .val (.int (nb.toInt32)), .val (.ref b2), .val (.int (1 : Int32)), .val (.int (1 : Int32)), .val (.int ps17), .val (.int (1 : Int32)), .val (.int (0 : Int32)), .unset] [(.int (nb.toInt32)), (.int ps17), (.int (x3 &&& (7 : Int32))), (.ref b2)])) (fun t k => XS.icmpNo X30.here hx rfl (hb hby at_150) rfl (teq (by decide : (0 : Int32) = (0 : Int32))).2 (XS.iconst X30.here hx rfl (hb hby at_153) (XS.goto X30.here hx rfl (pc0 := 154) (pc' := 158) rfl (hb hby at_154) (by decide) (by decide) (XS.istore X30.here hx rfl (hb hby at_158) rfl (l' := #[.val (.int x0), .val (.int x1), .val (.int x2), .val (.int x3), .val (.ref r1), .val (.int (nb.toInt32)), .val (.ref b2), .val (.int (1 : Int32)), .val (.int (1 : Int32)), .val (.int ps17), .val (.int (1 : Int32)), .val (.int (0 : Int32)), .unset]) rfl (XS.aload X30.here hx rfl (hb hby at_160) rfl rfl (XS.iloadN X30.here hx rfl (hb hby at_162) rfl (XS.bipush X30.here hx rfl (hb hby at_163) (XS.iand X30.here hx rfl (hb hby at_165) rfl (XS.iload X30.here hx rfl (hb hby at_166) rfl (XS.iload X30.here hx rfl (hb hby at_168) rfl k)))))))))) ?_
        obtain ⟨v31, T31, L31, X31, hQ31, st31⟩ := own_callSt (y := (⟨"com/example/concordia/concordia/wire/FrameReaderHasRemainingPinLaw", "step", "(Lcom/example/concordia/concordia/wire/FrameReader;III)I"⟩ : MethodName)) (argsL := [(.ref b2), (.int (x3 &&& (7 : Int32))), (.int ps17), (.int (nb.toInt32))]) (rest := []) X30 hx hZ hown (hw _ (List.mem_of_getElem? (i := 23) rfl)) (hw _ (List.mem_of_getElem? (i := 24) rfl)) (hw _ (List.mem_of_getElem? (i := 2) rfl)) (hw _ (List.mem_of_getElem? (i := 25) rfl)) (by decide) (own_mt5 l Z a0 hw b2 (x3 &&& (7 : Int32)) ps17 r1 nb T17.heap n0 Z17 ge_b2 (Ne.symm ne_r1_b2) G17_0 G17_1 G17_2 V1q_at18 EA1q_at19 hnb hp17) e30 (W := 0) (by decide) (by decide) (g := (mkF m 170 #[.val (.int x0), .val (.int x1), .val (.int x2), .val (.int x3), .val (.ref r1), .val (.int (nb.toInt32)), .val (.ref b2), .val (.int (1 : Int32)), .val (.int (1 : Int32)), .val (.int ps17), .val (.int (1 : Int32)), .val (.int (0 : Int32)), .unset] [(.int (nb.toInt32)), (.int ps17), (.int (x3 &&& (7 : Int32))), (.ref b2)])) rfl (by rw [hml]; rfl) (lenOf own_pd11 rfl) rfl (by show 2 * 0 + _ ≤ _; exact Nat.le_of_eq rfl) (hb hby at_170) (by decide) (by decide)
        obtain ⟨rfl, Nq31, K31q, G31_0, G31_1, G31_2⟩ := hQ31
        have N31 := Fr.app N30 Nq31
        have Z31 : n0 ≤ T31.heap.size := Nat.le_trans Z17 K31q.1
        have V1q_at32 := V1q_at18.keep K31q (ninS ne_r1_b2 nin0)
        have EA1q_at33 := EA1q_at19.keep K31q
        have G17_0_at34 := G17_0.keep K31q
        have hp31 := own_step_ok hnb hp17 (x3 &&& (7 : Int32))
        have hse31 := own_step_eq (x3 &&& (7 : Int32)) ps17 nb
        rw [hse31] at G31_2
        generalize hg31 : (own_step (x3 &&& (7 : Int32)) ps17 nb) = ps31 at G31_2 hp31 st31
        refine own_via (T' := T31) (g' := (mkF m 173 #[.val (.int x0), .val (.int x1), .val (.int x2), .val (.int x3), .val (.ref r1), .val (.int (nb.toInt32)), .val (.ref b2), .val (.int (1 : Int32)), .val (.int (1 : Int32)), .val (.int ps17), .val (.int (1 : Int32)), .val (.int (0 : Int32)), .unset] [(.int ps31)])) st31 ?_
        refine own_via (T' := T31) (g' := (mkF m 177 #[.val (.int x0), .val (.int x1), .val (.int x2), .val (.int x3), .val (.ref r1), .val (.int (nb.toInt32)), .val (.ref b2), .val (.int (1 : Int32)), .val (.int (1 : Int32)), .val (.int ps31), .val (.int (1 : Int32)), .val (.int (0 : Int32)), .unset] [(.ref b2)])) (fun t k => XS.istore X31.here hx rfl (hb hby at_173) rfl (l' := #[.val (.int x0), .val (.int x1), .val (.int x2), .val (.int x3), .val (.ref r1), .val (.int (nb.toInt32)), .val (.ref b2), .val (.int (1 : Int32)), .val (.int (1 : Int32)), .val (.int ps31), .val (.int (1 : Int32)), .val (.int (0 : Int32)), .unset]) rfl (XS.aload X31.here hx rfl (hb hby at_175) rfl rfl k)) ?_
        by_cases hc35 : ps31 < (nb.toInt32)
        · obtain ⟨v36, T36, L36, X36, hQ36, st36⟩ := own_callVi (y := (⟨"com/example/concordia/concordia/wire/FrameReader", "hasRemaining", "()Z"⟩ : MethodName)) (z := (⟨"com/example/concordia/concordia/wire/FrameReader", "hasRemaining", "()Z"⟩ : MethodName)) (a := b2) (C := "com/example/concordia/concordia/wire/FrameReader") (argsL := []) (rest := []) X31 hx hZ hown (hw _ (List.mem_of_getElem? (i := 16) rfl)) (hw _ (List.mem_of_getElem? (i := 17) rfl)) (notFace_of_selects (args := #[]) (mvT hZ (hw _ (List.mem_of_getElem? (i := 19) rfl)))) (hw _ (List.mem_of_getElem? (i := 19) rfl)) (hw _ (List.mem_of_getElem? (i := 18) rfl)) (hw _ (List.mem_of_getElem? (i := 7) rfl)) (hw _ (List.mem_of_getElem? (i := 20) rfl)) (by decide) G31_0 (own_mth1 l Z a0 hw b2 r1 ps31 nb T31.heap G31_1 G31_2 V1q_at32 hc35) rfl (W := 0) (by decide) (by decide) (g := (mkF m 177 #[.val (.int x0), .val (.int x1), .val (.int x2), .val (.int x3), .val (.ref r1), .val (.int (nb.toInt32)), .val (.ref b2), .val (.int (1 : Int32)), .val (.int (1 : Int32)), .val (.int ps31), .val (.int (1 : Int32)), .val (.int (0 : Int32)), .unset] [(.ref b2)])) rfl (by rw [hml]; rfl) (lenOf own_pd8 rfl) rfl (by show 2 * 0 + _ ≤ _; exact Nat.le_of_eq rfl) (hb hby at_177) (by decide) (by decide)
          obtain ⟨rfl, e36, rfl⟩ := hQ36
          have N36 := Fr.app N31 (Fr.nil n0)
          refine own_via (T' := T36) (g' := (mkF m 180 #[.val (.int x0), .val (.int x1), .val (.int x2), .val (.int x3), .val (.ref r1), .val (.int (nb.toInt32)), .val (.ref b2), .val (.int (1 : Int32)), .val (.int (1 : Int32)), .val (.int ps31), .val (.int (1 : Int32)), .val (.int (0 : Int32)), .unset] [(.int (1 : Int32))])) st36 ?_
          refine own_via (T' := T36) (g' := (mkF m 184 #[.val (.int x0), .val (.int x1), .val (.int x2), .val (.int x3), .val (.ref r1), .val (.int (nb.toInt32)), .val (.ref b2), .val (.int (1 : Int32)), .val (.int (1 : Int32)), .val (.int ps31), .val (.int (1 : Int32)), .val (.int (0 : Int32)), .val (.int (1 : Int32))] [(.int (1 : Int32))])) (fun t k => XS.istore X36.here hx rfl (hb hby at_180) rfl (l' := #[.val (.int x0), .val (.int x1), .val (.int x2), .val (.int x3), .val (.ref r1), .val (.int (nb.toInt32)), .val (.ref b2), .val (.int (1 : Int32)), .val (.int (1 : Int32)), .val (.int ps31), .val (.int (1 : Int32)), .val (.int (0 : Int32)), .val (.int (1 : Int32))]) rfl (XS.iload X36.here hx rfl (hb hby at_182) rfl k)) ?_
          refine own_via (T' := T36) (g' := (mkF m 193 #[.val (.int x0), .val (.int x1), .val (.int x2), .val (.int x3), .val (.ref r1), .val (.int (nb.toInt32)), .val (.ref b2), .val (.int (1 : Int32)), .val (.int (1 : Int32)), .val (.int ps31), .val (.int (1 : Int32)), .val (.int (0 : Int32)), .val (.int (1 : Int32))] [(.int (nb.toInt32)), (.int ps31), (.int (1 : Int32))])) (fun t k => XS.ifNo X36.here hx rfl (hb hby at_184) rfl ((if0 _ _).trans (feq (by decide : ¬ ((1 : Int32) = (0 : Int32)))).1) (XS.iload X36.here hx rfl (hb hby at_187) rfl (XS.iload X36.here hx rfl (hb hby at_189) rfl (XS.iload X36.here hx rfl (hb hby at_191) rfl k)))) ?_
          refine own_via (T' := T36) (g' := (mkF m 201 #[.val (.int x0), .val (.int x1), .val (.int x2), .val (.int x3), .val (.ref r1), .val (.int (nb.toInt32)), .val (.ref b2), .val (.int (1 : Int32)), .val (.int (1 : Int32)), .val (.int ps31), .val (.int (1 : Int32)), .val (.int (0 : Int32)), .val (.int (1 : Int32))] [(.int (1 : Int32)), (.int (1 : Int32))])) (fun t k => XS.icmpNo X36.here hx rfl (hb hby at_193) rfl (tlt hc35).2.1 (XS.iconst X36.here hx rfl (hb hby at_196) (XS.goto X36.here hx rfl (pc0 := 197) (pc' := 201) rfl (hb hby at_197) (by decide) (by decide) k))) ?_
          refine own_via (T' := T36) (g' := (mkF m 213 #[.val (.int x0), .val (.int x1), .val (.int x2), .val (.int x3), .val (.ref r1), .val (.int (nb.toInt32)), .val (.ref b2), .val (.int (1 : Int32)), .val (.int (1 : Int32)), .val (.int ps31), .val (.int (1 : Int32)), .val (.int (0 : Int32)), .val (.int (1 : Int32))] [(.int (1 : Int32))])) (fun t k => XS.icmpNo X36.here hx rfl (hb hby at_201) rfl (teq (by decide : (1 : Int32) = (1 : Int32))).2 (XS.iconst X36.here hx rfl (hb hby at_204) (XS.goto X36.here hx rfl (pc0 := 205) (pc' := 209) rfl (hb hby at_205) (by decide) (by decide) (XS.istore X36.here hx rfl (hb hby at_209) rfl (l' := #[.val (.int x0), .val (.int x1), .val (.int x2), .val (.int x3), .val (.ref r1), .val (.int (nb.toInt32)), .val (.ref b2), .val (.int (1 : Int32)), .val (.int (1 : Int32)), .val (.int ps31), .val (.int (1 : Int32)), .val (.int (0 : Int32)), .val (.int (1 : Int32))]) rfl (XS.iload X36.here hx rfl (hb hby at_211) rfl k))))) ?_
          refine own_retN X36 hx hlk (ty := .boolean) hret (by simp) (hb hby at_213) (by decide) (by decide) ?_
          exact ⟨by rw [own_f0] <;> rfl, N36⟩
        · obtain ⟨v37, T37, L37, X37, hQ37, st37⟩ := own_callVi (y := (⟨"com/example/concordia/concordia/wire/FrameReader", "hasRemaining", "()Z"⟩ : MethodName)) (z := (⟨"com/example/concordia/concordia/wire/FrameReader", "hasRemaining", "()Z"⟩ : MethodName)) (a := b2) (C := "com/example/concordia/concordia/wire/FrameReader") (argsL := []) (rest := []) X31 hx hZ hown (hw _ (List.mem_of_getElem? (i := 16) rfl)) (hw _ (List.mem_of_getElem? (i := 17) rfl)) (notFace_of_selects (args := #[]) (mvT hZ (hw _ (List.mem_of_getElem? (i := 19) rfl)))) (hw _ (List.mem_of_getElem? (i := 19) rfl)) (hw _ (List.mem_of_getElem? (i := 18) rfl)) (hw _ (List.mem_of_getElem? (i := 7) rfl)) (hw _ (List.mem_of_getElem? (i := 20) rfl)) (by decide) G31_0 (own_mth0 l Z a0 hw b2 r1 ps31 nb T31.heap G31_1 G31_2 V1q_at32 hc35) rfl (W := 0) (by decide) (by decide) (g := (mkF m 177 #[.val (.int x0), .val (.int x1), .val (.int x2), .val (.int x3), .val (.ref r1), .val (.int (nb.toInt32)), .val (.ref b2), .val (.int (1 : Int32)), .val (.int (1 : Int32)), .val (.int ps31), .val (.int (1 : Int32)), .val (.int (0 : Int32)), .unset] [(.ref b2)])) rfl (by rw [hml]; rfl) (lenOf own_pd8 rfl) rfl (by show 2 * 0 + _ ≤ _; exact Nat.le_of_eq rfl) (hb hby at_177) (by decide) (by decide)
          obtain ⟨rfl, e37, rfl⟩ := hQ37
          have N37 := Fr.app N31 (Fr.nil n0)
          refine own_via (T' := T37) (g' := (mkF m 180 #[.val (.int x0), .val (.int x1), .val (.int x2), .val (.int x3), .val (.ref r1), .val (.int (nb.toInt32)), .val (.ref b2), .val (.int (1 : Int32)), .val (.int (1 : Int32)), .val (.int ps31), .val (.int (1 : Int32)), .val (.int (0 : Int32)), .unset] [(.int (0 : Int32))])) st37 ?_
          refine own_via (T' := T37) (g' := (mkF m 184 #[.val (.int x0), .val (.int x1), .val (.int x2), .val (.int x3), .val (.ref r1), .val (.int (nb.toInt32)), .val (.ref b2), .val (.int (1 : Int32)), .val (.int (1 : Int32)), .val (.int ps31), .val (.int (1 : Int32)), .val (.int (0 : Int32)), .val (.int (0 : Int32))] [(.int (1 : Int32))])) (fun t k => XS.istore X37.here hx rfl (hb hby at_180) rfl (l' := #[.val (.int x0), .val (.int x1), .val (.int x2), .val (.int x3), .val (.ref r1), .val (.int (nb.toInt32)), .val (.ref b2), .val (.int (1 : Int32)), .val (.int (1 : Int32)), .val (.int ps31), .val (.int (1 : Int32)), .val (.int (0 : Int32)), .val (.int (0 : Int32))]) rfl (XS.iload X37.here hx rfl (hb hby at_182) rfl k)) ?_
          refine own_via (T' := T37) (g' := (mkF m 193 #[.val (.int x0), .val (.int x1), .val (.int x2), .val (.int x3), .val (.ref r1), .val (.int (nb.toInt32)), .val (.ref b2), .val (.int (1 : Int32)), .val (.int (1 : Int32)), .val (.int ps31), .val (.int (1 : Int32)), .val (.int (0 : Int32)), .val (.int (0 : Int32))] [(.int (nb.toInt32)), (.int ps31), (.int (0 : Int32))])) (fun t k => XS.ifNo X37.here hx rfl (hb hby at_184) rfl ((if0 _ _).trans (feq (by decide : ¬ ((1 : Int32) = (0 : Int32)))).1) (XS.iload X37.here hx rfl (hb hby at_187) rfl (XS.iload X37.here hx rfl (hb hby at_189) rfl (XS.iload X37.here hx rfl (hb hby at_191) rfl k)))) ?_
          refine own_via (T' := T37) (g' := (mkF m 201 #[.val (.int x0), .val (.int x1), .val (.int x2), .val (.int x3), .val (.ref r1), .val (.int (nb.toInt32)), .val (.ref b2), .val (.int (1 : Int32)), .val (.int (1 : Int32)), .val (.int ps31), .val (.int (1 : Int32)), .val (.int (0 : Int32)), .val (.int (0 : Int32))] [(.int (0 : Int32)), (.int (0 : Int32))])) (fun t k => XS.icmpYes X37.here hx rfl (pc0 := 193) (pc' := 200) rfl (hb hby at_193) rfl (flt hc35).2.1 (by decide) (by decide) (XS.iconst X37.here hx rfl (hb hby at_200) k)) ?_
          refine own_via (T' := T37) (g' := (mkF m 213 #[.val (.int x0), .val (.int x1), .val (.int x2), .val (.int x3), .val (.ref r1), .val (.int (nb.toInt32)), .val (.ref b2), .val (.int (1 : Int32)), .val (.int (1 : Int32)), .val (.int ps31), .val (.int (1 : Int32)), .val (.int (0 : Int32)), .val (.int (0 : Int32))] [(.int (1 : Int32))])) (fun t k => XS.icmpNo X37.here hx rfl (hb hby at_201) rfl (teq (by decide : (0 : Int32) = (0 : Int32))).2 (XS.iconst X37.here hx rfl (hb hby at_204) (XS.goto X37.here hx rfl (pc0 := 205) (pc' := 209) rfl (hb hby at_205) (by decide) (by decide) (XS.istore X37.here hx rfl (hb hby at_209) rfl (l' := #[.val (.int x0), .val (.int x1), .val (.int x2), .val (.int x3), .val (.ref r1), .val (.int (nb.toInt32)), .val (.ref b2), .val (.int (1 : Int32)), .val (.int (1 : Int32)), .val (.int ps31), .val (.int (1 : Int32)), .val (.int (0 : Int32)), .val (.int (0 : Int32))]) rfl (XS.iload X37.here hx rfl (hb hby at_211) rfl k))))) ?_
          refine own_retN X37 hx hlk (ty := .boolean) hret (by simp) (hb hby at_213) (by decide) (by decide) ?_
          exact ⟨by rw [own_f0] <;> rfl, N37⟩
    · obtain ⟨v38, T38, L38, X38, hQ38, st38⟩ := own_callVi (y := (⟨"com/example/concordia/concordia/wire/FrameReader", "hasRemaining", "()Z"⟩ : MethodName)) (z := (⟨"com/example/concordia/concordia/wire/FrameReader", "hasRemaining", "()Z"⟩ : MethodName)) (a := b2) (C := "com/example/concordia/concordia/wire/FrameReader") (argsL := []) (rest := []) X11 hx hZ hown (hw _ (List.mem_of_getElem? (i := 16) rfl)) (hw _ (List.mem_of_getElem? (i := 17) rfl)) (notFace_of_selects (args := #[]) (mvT hZ (hw _ (List.mem_of_getElem? (i := 19) rfl)))) (hw _ (List.mem_of_getElem? (i := 19) rfl)) (hw _ (List.mem_of_getElem? (i := 18) rfl)) (hw _ (List.mem_of_getElem? (i := 7) rfl)) (hw _ (List.mem_of_getElem? (i := 20) rfl)) (by decide) G11_0 (own_mth0 l Z a0 hw b2 r1 ps11 nb T11.heap G11_1 G11_2 V1q_at12 hc15) rfl (W := 0) (by decide) (by decide) (g := (mkF m 75 #[.val (.int x0), .val (.int x1), .val (.int x2), .val (.int x3), .val (.ref r1), .val (.int (nb.toInt32)), .val (.ref b2), .val (.int (1 : Int32)), .val (.int (1 : Int32)), .val (.int ps11), .unset, .unset, .unset] [(.ref b2)])) rfl (by rw [hml]; rfl) (lenOf own_pd8 rfl) rfl (by show 2 * 0 + _ ≤ _; exact Nat.le_of_eq rfl) (hb hby at_75) (by decide) (by decide)
      obtain ⟨rfl, e38, rfl⟩ := hQ38
      have N38 := Fr.app N11 (Fr.nil n0)
      refine own_via (T' := T38) (g' := (mkF m 78 #[.val (.int x0), .val (.int x1), .val (.int x2), .val (.int x3), .val (.ref r1), .val (.int (nb.toInt32)), .val (.ref b2), .val (.int (1 : Int32)), .val (.int (1 : Int32)), .val (.int ps11), .unset, .unset, .unset] [(.int (0 : Int32))])) st38 ?_
      refine own_via (T' := T38) (g' := (mkF m 82 #[.val (.int x0), .val (.int x1), .val (.int x2), .val (.int x3), .val (.ref r1), .val (.int (nb.toInt32)), .val (.ref b2), .val (.int (1 : Int32)), .val (.int (1 : Int32)), .val (.int ps11), .val (.int (0 : Int32)), .unset, .unset] [(.int (1 : Int32))])) (fun t k => XS.istore X38.here hx rfl (hb hby at_78) rfl (l' := #[.val (.int x0), .val (.int x1), .val (.int x2), .val (.int x3), .val (.ref r1), .val (.int (nb.toInt32)), .val (.ref b2), .val (.int (1 : Int32)), .val (.int (1 : Int32)), .val (.int ps11), .val (.int (0 : Int32)), .unset, .unset]) rfl (XS.iload X38.here hx rfl (hb hby at_80) rfl k)) ?_
      refine own_via (T' := T38) (g' := (mkF m 91 #[.val (.int x0), .val (.int x1), .val (.int x2), .val (.int x3), .val (.ref r1), .val (.int (nb.toInt32)), .val (.ref b2), .val (.int (1 : Int32)), .val (.int (1 : Int32)), .val (.int ps11), .val (.int (0 : Int32)), .unset, .unset] [(.int (nb.toInt32)), (.int ps11), (.int (0 : Int32))])) (fun t k => XS.ifNo X38.here hx rfl (hb hby at_82) rfl ((if0 _ _).trans (feq (by decide : ¬ ((1 : Int32) = (0 : Int32)))).1) (XS.iload X38.here hx rfl (hb hby at_85) rfl (XS.iload X38.here hx rfl (hb hby at_87) rfl (XS.iload X38.here hx rfl (hb hby at_89) rfl k)))) ?_
      refine own_via (T' := T38) (g' := (mkF m 99 #[.val (.int x0), .val (.int x1), .val (.int x2), .val (.int x3), .val (.ref r1), .val (.int (nb.toInt32)), .val (.ref b2), .val (.int (1 : Int32)), .val (.int (1 : Int32)), .val (.int ps11), .val (.int (0 : Int32)), .unset, .unset] [(.int (0 : Int32)), (.int (0 : Int32))])) (fun t k => XS.icmpYes X38.here hx rfl (pc0 := 91) (pc' := 98) rfl (hb hby at_91) rfl (flt hc15).2.1 (by decide) (by decide) (XS.iconst X38.here hx rfl (hb hby at_98) k)) ?_
      refine own_via (T' := T38) (g' := (mkF m 119 #[.val (.int x0), .val (.int x1), .val (.int x2), .val (.int x3), .val (.ref r1), .val (.int (nb.toInt32)), .val (.ref b2), .val (.int (1 : Int32)), .val (.int (1 : Int32)), .val (.int ps11), .val (.int (0 : Int32)), .unset, .unset] [(.int (nb.toInt32)), (.int ps11), (.int (x2 &&& (7 : Int32))), (.ref b2)])) (fun t k => XS.icmpNo X38.here hx rfl (hb hby at_99) rfl (teq (by decide : (0 : Int32) = (0 : Int32))).2 (XS.iconst X38.here hx rfl (hb hby at_102) (XS.goto X38.here hx rfl (pc0 := 103) (pc' := 107) rfl (hb hby at_103) (by decide) (by decide) (XS.istore X38.here hx rfl (hb hby at_107) rfl (l' := #[.val (.int x0), .val (.int x1), .val (.int x2), .val (.int x3), .val (.ref r1), .val (.int (nb.toInt32)), .val (.ref b2), .val (.int (1 : Int32)), .val (.int (1 : Int32)), .val (.int ps11), .val (.int (0 : Int32)), .unset, .unset]) rfl (XS.aload X38.here hx rfl (hb hby at_109) rfl rfl (XS.iloadN X38.here hx rfl (hb hby at_111) rfl (XS.bipush X38.here hx rfl (hb hby at_112) (XS.iand X38.here hx rfl (hb hby at_114) rfl (XS.iload X38.here hx rfl (hb hby at_115) rfl (XS.iload X38.here hx rfl (hb hby at_117) rfl k)))))))))) ?_
      obtain ⟨v39, T39, L39, X39, hQ39, st39⟩ := own_callSt (y := (⟨"com/example/concordia/concordia/wire/FrameReaderHasRemainingPinLaw", "step", "(Lcom/example/concordia/concordia/wire/FrameReader;III)I"⟩ : MethodName)) (argsL := [(.ref b2), (.int (x2 &&& (7 : Int32))), (.int ps11), (.int (nb.toInt32))]) (rest := []) X38 hx hZ hown (hw _ (List.mem_of_getElem? (i := 23) rfl)) (hw _ (List.mem_of_getElem? (i := 24) rfl)) (hw _ (List.mem_of_getElem? (i := 2) rfl)) (hw _ (List.mem_of_getElem? (i := 25) rfl)) (by decide) (own_mt5 l Z a0 hw b2 (x2 &&& (7 : Int32)) ps11 r1 nb T11.heap n0 Z11 ge_b2 (Ne.symm ne_r1_b2) G11_0 G11_1 G11_2 V1q_at12 EA1q_at13 hnb hp11) e38 (W := 0) (by decide) (by decide) (g := (mkF m 119 #[.val (.int x0), .val (.int x1), .val (.int x2), .val (.int x3), .val (.ref r1), .val (.int (nb.toInt32)), .val (.ref b2), .val (.int (1 : Int32)), .val (.int (1 : Int32)), .val (.int ps11), .val (.int (0 : Int32)), .unset, .unset] [(.int (nb.toInt32)), (.int ps11), (.int (x2 &&& (7 : Int32))), (.ref b2)])) rfl (by rw [hml]; rfl) (lenOf own_pd11 rfl) rfl (by show 2 * 0 + _ ≤ _; exact Nat.le_of_eq rfl) (hb hby at_119) (by decide) (by decide)
      obtain ⟨rfl, Nq39, K39q, G39_0, G39_1, G39_2⟩ := hQ39
      have N39 := Fr.app N38 Nq39
      have Z39 : n0 ≤ T39.heap.size := Nat.le_trans Z11 K39q.1
      have V1q_at40 := V1q_at12.keep K39q (ninS ne_r1_b2 nin0)
      have EA1q_at41 := EA1q_at13.keep K39q
      have G11_0_at42 := G11_0.keep K39q
      have hp39 := own_step_ok hnb hp11 (x2 &&& (7 : Int32))
      have hse39 := own_step_eq (x2 &&& (7 : Int32)) ps11 nb
      rw [hse39] at G39_2
      generalize hg39 : (own_step (x2 &&& (7 : Int32)) ps11 nb) = ps39 at G39_2 hp39 st39
      refine own_via (T' := T39) (g' := (mkF m 122 #[.val (.int x0), .val (.int x1), .val (.int x2), .val (.int x3), .val (.ref r1), .val (.int (nb.toInt32)), .val (.ref b2), .val (.int (1 : Int32)), .val (.int (1 : Int32)), .val (.int ps11), .val (.int (0 : Int32)), .unset, .unset] [(.int ps39)])) st39 ?_
      refine own_via (T' := T39) (g' := (mkF m 126 #[.val (.int x0), .val (.int x1), .val (.int x2), .val (.int x3), .val (.ref r1), .val (.int (nb.toInt32)), .val (.ref b2), .val (.int (1 : Int32)), .val (.int (1 : Int32)), .val (.int ps39), .val (.int (0 : Int32)), .unset, .unset] [(.ref b2)])) (fun t k => XS.istore X39.here hx rfl (hb hby at_122) rfl (l' := #[.val (.int x0), .val (.int x1), .val (.int x2), .val (.int x3), .val (.ref r1), .val (.int (nb.toInt32)), .val (.ref b2), .val (.int (1 : Int32)), .val (.int (1 : Int32)), .val (.int ps39), .val (.int (0 : Int32)), .unset, .unset]) rfl (XS.aload X39.here hx rfl (hb hby at_124) rfl rfl k)) ?_
      by_cases hc43 : ps39 < (nb.toInt32)
      · obtain ⟨v44, T44, L44, X44, hQ44, st44⟩ := own_callVi (y := (⟨"com/example/concordia/concordia/wire/FrameReader", "hasRemaining", "()Z"⟩ : MethodName)) (z := (⟨"com/example/concordia/concordia/wire/FrameReader", "hasRemaining", "()Z"⟩ : MethodName)) (a := b2) (C := "com/example/concordia/concordia/wire/FrameReader") (argsL := []) (rest := []) X39 hx hZ hown (hw _ (List.mem_of_getElem? (i := 16) rfl)) (hw _ (List.mem_of_getElem? (i := 17) rfl)) (notFace_of_selects (args := #[]) (mvT hZ (hw _ (List.mem_of_getElem? (i := 19) rfl)))) (hw _ (List.mem_of_getElem? (i := 19) rfl)) (hw _ (List.mem_of_getElem? (i := 18) rfl)) (hw _ (List.mem_of_getElem? (i := 7) rfl)) (hw _ (List.mem_of_getElem? (i := 20) rfl)) (by decide) G39_0 (own_mth1 l Z a0 hw b2 r1 ps39 nb T39.heap G39_1 G39_2 V1q_at40 hc43) rfl (W := 0) (by decide) (by decide) (g := (mkF m 126 #[.val (.int x0), .val (.int x1), .val (.int x2), .val (.int x3), .val (.ref r1), .val (.int (nb.toInt32)), .val (.ref b2), .val (.int (1 : Int32)), .val (.int (1 : Int32)), .val (.int ps39), .val (.int (0 : Int32)), .unset, .unset] [(.ref b2)])) rfl (by rw [hml]; rfl) (lenOf own_pd8 rfl) rfl (by show 2 * 0 + _ ≤ _; exact Nat.le_of_eq rfl) (hb hby at_126) (by decide) (by decide)
        obtain ⟨rfl, e44, rfl⟩ := hQ44
        have N44 := Fr.app N39 (Fr.nil n0)
        refine own_via (T' := T44) (g' := (mkF m 129 #[.val (.int x0), .val (.int x1), .val (.int x2), .val (.int x3), .val (.ref r1), .val (.int (nb.toInt32)), .val (.ref b2), .val (.int (1 : Int32)), .val (.int (1 : Int32)), .val (.int ps39), .val (.int (0 : Int32)), .unset, .unset] [(.int (1 : Int32))])) st44 ?_
        refine own_via (T' := T44) (g' := (mkF m 133 #[.val (.int x0), .val (.int x1), .val (.int x2), .val (.int x3), .val (.ref r1), .val (.int (nb.toInt32)), .val (.ref b2), .val (.int (1 : Int32)), .val (.int (1 : Int32)), .val (.int ps39), .val (.int (0 : Int32)), .val (.int (1 : Int32)), .unset] [(.int (1 : Int32))])) (fun t k => XS.istore X44.here hx rfl (hb hby at_129) rfl (l' := #[.val (.int x0), .val (.int x1), .val (.int x2), .val (.int x3), .val (.ref r1), .val (.int (nb.toInt32)), .val (.ref b2), .val (.int (1 : Int32)), .val (.int (1 : Int32)), .val (.int ps39), .val (.int (0 : Int32)), .val (.int (1 : Int32)), .unset]) rfl (XS.iload X44.here hx rfl (hb hby at_131) rfl k)) ?_
        refine own_via (T' := T44) (g' := (mkF m 142 #[.val (.int x0), .val (.int x1), .val (.int x2), .val (.int x3), .val (.ref r1), .val (.int (nb.toInt32)), .val (.ref b2), .val (.int (1 : Int32)), .val (.int (1 : Int32)), .val (.int ps39), .val (.int (0 : Int32)), .val (.int (1 : Int32)), .unset] [(.int (nb.toInt32)), (.int ps39), (.int (1 : Int32))])) (fun t k => XS.ifNo X44.here hx rfl (hb hby at_133) rfl ((if0 _ _).trans (feq (by decide : ¬ ((1 : Int32) = (0 : Int32)))).1) (XS.iload X44.here hx rfl (hb hby at_136) rfl (XS.iload X44.here hx rfl (hb hby at_138) rfl (XS.iload X44.here hx rfl (hb hby at_140) rfl k)))) ?_
        refine own_via (T' := T44) (g' := (mkF m 150 #[.val (.int x0), .val (.int x1), .val (.int x2), .val (.int x3), .val (.ref r1), .val (.int (nb.toInt32)), .val (.ref b2), .val (.int (1 : Int32)), .val (.int (1 : Int32)), .val (.int ps39), .val (.int (0 : Int32)), .val (.int (1 : Int32)), .unset] [(.int (1 : Int32)), (.int (1 : Int32))])) (fun t k => XS.icmpNo X44.here hx rfl (hb hby at_142) rfl (tlt hc43).2.1 (XS.iconst X44.here hx rfl (hb hby at_145) (XS.goto X44.here hx rfl (pc0 := 146) (pc' := 150) rfl (hb hby at_146) (by decide) (by decide) k))) ?_
        refine own_via (T' := T44) (g' := (mkF m 170 #[.val (.int x0), .val (.int x1), .val (.int x2), .val (.int x3), .val (.ref r1), .val (.int (nb.toInt32)), .val (.ref b2), .val (.int (1 : Int32)), .val (.int (1 : Int32)), .val (.int ps39), .val (.int (0 : Int32)), .val (.int (1 : Int32)), .unset] [(.int (nb.toInt32)), (.int ps39), (.int (x3 &&& (7 : Int32))), (.ref b2)])) (fun t k => XS.icmpNo X44.here hx rfl (hb hby at_150) rfl (teq (by decide : (1 : Int32) = (1 : Int32))).2 (XS.iconst X44.here hx rfl (hb hby at_153) (XS.goto X44.here hx rfl (pc0 := 154) (pc' := 158) rfl (hb hby at_154) (by decide) (by decide) (XS.istore X44.here hx rfl (hb hby at_158) rfl (l' := #[.val (.int x0), .val (.int x1), .val (.int x2), .val (.int x3), .val (.ref r1), .val (.int (nb.toInt32)), .val (.ref b2), .val (.int (1 : Int32)), .val (.int (1 : Int32)), .val (.int ps39), .val (.int (0 : Int32)), .val (.int (1 : Int32)), .unset]) rfl (XS.aload X44.here hx rfl (hb hby at_160) rfl rfl (XS.iloadN X44.here hx rfl (hb hby at_162) rfl (XS.bipush X44.here hx rfl (hb hby at_163) (XS.iand X44.here hx rfl (hb hby at_165) rfl (XS.iload X44.here hx rfl (hb hby at_166) rfl (XS.iload X44.here hx rfl (hb hby at_168) rfl k)))))))))) ?_
        obtain ⟨v45, T45, L45, X45, hQ45, st45⟩ := own_callSt (y := (⟨"com/example/concordia/concordia/wire/FrameReaderHasRemainingPinLaw", "step", "(Lcom/example/concordia/concordia/wire/FrameReader;III)I"⟩ : MethodName)) (argsL := [(.ref b2), (.int (x3 &&& (7 : Int32))), (.int ps39), (.int (nb.toInt32))]) (rest := []) X44 hx hZ hown (hw _ (List.mem_of_getElem? (i := 23) rfl)) (hw _ (List.mem_of_getElem? (i := 24) rfl)) (hw _ (List.mem_of_getElem? (i := 2) rfl)) (hw _ (List.mem_of_getElem? (i := 25) rfl)) (by decide) (own_mt5 l Z a0 hw b2 (x3 &&& (7 : Int32)) ps39 r1 nb T39.heap n0 Z39 ge_b2 (Ne.symm ne_r1_b2) G39_0 G39_1 G39_2 V1q_at40 EA1q_at41 hnb hp39) e44 (W := 0) (by decide) (by decide) (g := (mkF m 170 #[.val (.int x0), .val (.int x1), .val (.int x2), .val (.int x3), .val (.ref r1), .val (.int (nb.toInt32)), .val (.ref b2), .val (.int (1 : Int32)), .val (.int (1 : Int32)), .val (.int ps39), .val (.int (0 : Int32)), .val (.int (1 : Int32)), .unset] [(.int (nb.toInt32)), (.int ps39), (.int (x3 &&& (7 : Int32))), (.ref b2)])) rfl (by rw [hml]; rfl) (lenOf own_pd11 rfl) rfl (by show 2 * 0 + _ ≤ _; exact Nat.le_of_eq rfl) (hb hby at_170) (by decide) (by decide)
        obtain ⟨rfl, Nq45, K45q, G45_0, G45_1, G45_2⟩ := hQ45
        have N45 := Fr.app N44 Nq45
        have Z45 : n0 ≤ T45.heap.size := Nat.le_trans Z39 K45q.1
        have V1q_at46 := V1q_at40.keep K45q (ninS ne_r1_b2 nin0)
        have EA1q_at47 := EA1q_at41.keep K45q
        have G39_0_at48 := G39_0.keep K45q
        have hp45 := own_step_ok hnb hp39 (x3 &&& (7 : Int32))
        have hse45 := own_step_eq (x3 &&& (7 : Int32)) ps39 nb
        rw [hse45] at G45_2
        generalize hg45 : (own_step (x3 &&& (7 : Int32)) ps39 nb) = ps45 at G45_2 hp45 st45
        refine own_via (T' := T45) (g' := (mkF m 173 #[.val (.int x0), .val (.int x1), .val (.int x2), .val (.int x3), .val (.ref r1), .val (.int (nb.toInt32)), .val (.ref b2), .val (.int (1 : Int32)), .val (.int (1 : Int32)), .val (.int ps39), .val (.int (0 : Int32)), .val (.int (1 : Int32)), .unset] [(.int ps45)])) st45 ?_
        refine own_via (T' := T45) (g' := (mkF m 177 #[.val (.int x0), .val (.int x1), .val (.int x2), .val (.int x3), .val (.ref r1), .val (.int (nb.toInt32)), .val (.ref b2), .val (.int (1 : Int32)), .val (.int (1 : Int32)), .val (.int ps45), .val (.int (0 : Int32)), .val (.int (1 : Int32)), .unset] [(.ref b2)])) (fun t k => XS.istore X45.here hx rfl (hb hby at_173) rfl (l' := #[.val (.int x0), .val (.int x1), .val (.int x2), .val (.int x3), .val (.ref r1), .val (.int (nb.toInt32)), .val (.ref b2), .val (.int (1 : Int32)), .val (.int (1 : Int32)), .val (.int ps45), .val (.int (0 : Int32)), .val (.int (1 : Int32)), .unset]) rfl (XS.aload X45.here hx rfl (hb hby at_175) rfl rfl k)) ?_
        by_cases hc49 : ps45 < (nb.toInt32)
        · obtain ⟨v50, T50, L50, X50, hQ50, st50⟩ := own_callVi (y := (⟨"com/example/concordia/concordia/wire/FrameReader", "hasRemaining", "()Z"⟩ : MethodName)) (z := (⟨"com/example/concordia/concordia/wire/FrameReader", "hasRemaining", "()Z"⟩ : MethodName)) (a := b2) (C := "com/example/concordia/concordia/wire/FrameReader") (argsL := []) (rest := []) X45 hx hZ hown (hw _ (List.mem_of_getElem? (i := 16) rfl)) (hw _ (List.mem_of_getElem? (i := 17) rfl)) (notFace_of_selects (args := #[]) (mvT hZ (hw _ (List.mem_of_getElem? (i := 19) rfl)))) (hw _ (List.mem_of_getElem? (i := 19) rfl)) (hw _ (List.mem_of_getElem? (i := 18) rfl)) (hw _ (List.mem_of_getElem? (i := 7) rfl)) (hw _ (List.mem_of_getElem? (i := 20) rfl)) (by decide) G45_0 (own_mth1 l Z a0 hw b2 r1 ps45 nb T45.heap G45_1 G45_2 V1q_at46 hc49) rfl (W := 0) (by decide) (by decide) (g := (mkF m 177 #[.val (.int x0), .val (.int x1), .val (.int x2), .val (.int x3), .val (.ref r1), .val (.int (nb.toInt32)), .val (.ref b2), .val (.int (1 : Int32)), .val (.int (1 : Int32)), .val (.int ps45), .val (.int (0 : Int32)), .val (.int (1 : Int32)), .unset] [(.ref b2)])) rfl (by rw [hml]; rfl) (lenOf own_pd8 rfl) rfl (by show 2 * 0 + _ ≤ _; exact Nat.le_of_eq rfl) (hb hby at_177) (by decide) (by decide)
          obtain ⟨rfl, e50, rfl⟩ := hQ50
          have N50 := Fr.app N45 (Fr.nil n0)
          refine own_via (T' := T50) (g' := (mkF m 180 #[.val (.int x0), .val (.int x1), .val (.int x2), .val (.int x3), .val (.ref r1), .val (.int (nb.toInt32)), .val (.ref b2), .val (.int (1 : Int32)), .val (.int (1 : Int32)), .val (.int ps45), .val (.int (0 : Int32)), .val (.int (1 : Int32)), .unset] [(.int (1 : Int32))])) st50 ?_
          refine own_via (T' := T50) (g' := (mkF m 184 #[.val (.int x0), .val (.int x1), .val (.int x2), .val (.int x3), .val (.ref r1), .val (.int (nb.toInt32)), .val (.ref b2), .val (.int (1 : Int32)), .val (.int (1 : Int32)), .val (.int ps45), .val (.int (0 : Int32)), .val (.int (1 : Int32)), .val (.int (1 : Int32))] [(.int (1 : Int32))])) (fun t k => XS.istore X50.here hx rfl (hb hby at_180) rfl (l' := #[.val (.int x0), .val (.int x1), .val (.int x2), .val (.int x3), .val (.ref r1), .val (.int (nb.toInt32)), .val (.ref b2), .val (.int (1 : Int32)), .val (.int (1 : Int32)), .val (.int ps45), .val (.int (0 : Int32)), .val (.int (1 : Int32)), .val (.int (1 : Int32))]) rfl (XS.iload X50.here hx rfl (hb hby at_182) rfl k)) ?_
          refine own_via (T' := T50) (g' := (mkF m 193 #[.val (.int x0), .val (.int x1), .val (.int x2), .val (.int x3), .val (.ref r1), .val (.int (nb.toInt32)), .val (.ref b2), .val (.int (1 : Int32)), .val (.int (1 : Int32)), .val (.int ps45), .val (.int (0 : Int32)), .val (.int (1 : Int32)), .val (.int (1 : Int32))] [(.int (nb.toInt32)), (.int ps45), (.int (1 : Int32))])) (fun t k => XS.ifNo X50.here hx rfl (hb hby at_184) rfl ((if0 _ _).trans (feq (by decide : ¬ ((1 : Int32) = (0 : Int32)))).1) (XS.iload X50.here hx rfl (hb hby at_187) rfl (XS.iload X50.here hx rfl (hb hby at_189) rfl (XS.iload X50.here hx rfl (hb hby at_191) rfl k)))) ?_
          refine own_via (T' := T50) (g' := (mkF m 201 #[.val (.int x0), .val (.int x1), .val (.int x2), .val (.int x3), .val (.ref r1), .val (.int (nb.toInt32)), .val (.ref b2), .val (.int (1 : Int32)), .val (.int (1 : Int32)), .val (.int ps45), .val (.int (0 : Int32)), .val (.int (1 : Int32)), .val (.int (1 : Int32))] [(.int (1 : Int32)), (.int (1 : Int32))])) (fun t k => XS.icmpNo X50.here hx rfl (hb hby at_193) rfl (tlt hc49).2.1 (XS.iconst X50.here hx rfl (hb hby at_196) (XS.goto X50.here hx rfl (pc0 := 197) (pc' := 201) rfl (hb hby at_197) (by decide) (by decide) k))) ?_
          refine own_via (T' := T50) (g' := (mkF m 213 #[.val (.int x0), .val (.int x1), .val (.int x2), .val (.int x3), .val (.ref r1), .val (.int (nb.toInt32)), .val (.ref b2), .val (.int (1 : Int32)), .val (.int (1 : Int32)), .val (.int ps45), .val (.int (0 : Int32)), .val (.int (1 : Int32)), .val (.int (1 : Int32))] [(.int (1 : Int32))])) (fun t k => XS.icmpNo X50.here hx rfl (hb hby at_201) rfl (teq (by decide : (1 : Int32) = (1 : Int32))).2 (XS.iconst X50.here hx rfl (hb hby at_204) (XS.goto X50.here hx rfl (pc0 := 205) (pc' := 209) rfl (hb hby at_205) (by decide) (by decide) (XS.istore X50.here hx rfl (hb hby at_209) rfl (l' := #[.val (.int x0), .val (.int x1), .val (.int x2), .val (.int x3), .val (.ref r1), .val (.int (nb.toInt32)), .val (.ref b2), .val (.int (1 : Int32)), .val (.int (1 : Int32)), .val (.int ps45), .val (.int (0 : Int32)), .val (.int (1 : Int32)), .val (.int (1 : Int32))]) rfl (XS.iload X50.here hx rfl (hb hby at_211) rfl k))))) ?_
          refine own_retN X50 hx hlk (ty := .boolean) hret (by simp) (hb hby at_213) (by decide) (by decide) ?_
          exact ⟨by rw [own_f0] <;> rfl, N50⟩
        · obtain ⟨v51, T51, L51, X51, hQ51, st51⟩ := own_callVi (y := (⟨"com/example/concordia/concordia/wire/FrameReader", "hasRemaining", "()Z"⟩ : MethodName)) (z := (⟨"com/example/concordia/concordia/wire/FrameReader", "hasRemaining", "()Z"⟩ : MethodName)) (a := b2) (C := "com/example/concordia/concordia/wire/FrameReader") (argsL := []) (rest := []) X45 hx hZ hown (hw _ (List.mem_of_getElem? (i := 16) rfl)) (hw _ (List.mem_of_getElem? (i := 17) rfl)) (notFace_of_selects (args := #[]) (mvT hZ (hw _ (List.mem_of_getElem? (i := 19) rfl)))) (hw _ (List.mem_of_getElem? (i := 19) rfl)) (hw _ (List.mem_of_getElem? (i := 18) rfl)) (hw _ (List.mem_of_getElem? (i := 7) rfl)) (hw _ (List.mem_of_getElem? (i := 20) rfl)) (by decide) G45_0 (own_mth0 l Z a0 hw b2 r1 ps45 nb T45.heap G45_1 G45_2 V1q_at46 hc49) rfl (W := 0) (by decide) (by decide) (g := (mkF m 177 #[.val (.int x0), .val (.int x1), .val (.int x2), .val (.int x3), .val (.ref r1), .val (.int (nb.toInt32)), .val (.ref b2), .val (.int (1 : Int32)), .val (.int (1 : Int32)), .val (.int ps45), .val (.int (0 : Int32)), .val (.int (1 : Int32)), .unset] [(.ref b2)])) rfl (by rw [hml]; rfl) (lenOf own_pd8 rfl) rfl (by show 2 * 0 + _ ≤ _; exact Nat.le_of_eq rfl) (hb hby at_177) (by decide) (by decide)
          obtain ⟨rfl, e51, rfl⟩ := hQ51
          have N51 := Fr.app N45 (Fr.nil n0)
          refine own_via (T' := T51) (g' := (mkF m 180 #[.val (.int x0), .val (.int x1), .val (.int x2), .val (.int x3), .val (.ref r1), .val (.int (nb.toInt32)), .val (.ref b2), .val (.int (1 : Int32)), .val (.int (1 : Int32)), .val (.int ps45), .val (.int (0 : Int32)), .val (.int (1 : Int32)), .unset] [(.int (0 : Int32))])) st51 ?_
          refine own_via (T' := T51) (g' := (mkF m 184 #[.val (.int x0), .val (.int x1), .val (.int x2), .val (.int x3), .val (.ref r1), .val (.int (nb.toInt32)), .val (.ref b2), .val (.int (1 : Int32)), .val (.int (1 : Int32)), .val (.int ps45), .val (.int (0 : Int32)), .val (.int (1 : Int32)), .val (.int (0 : Int32))] [(.int (1 : Int32))])) (fun t k => XS.istore X51.here hx rfl (hb hby at_180) rfl (l' := #[.val (.int x0), .val (.int x1), .val (.int x2), .val (.int x3), .val (.ref r1), .val (.int (nb.toInt32)), .val (.ref b2), .val (.int (1 : Int32)), .val (.int (1 : Int32)), .val (.int ps45), .val (.int (0 : Int32)), .val (.int (1 : Int32)), .val (.int (0 : Int32))]) rfl (XS.iload X51.here hx rfl (hb hby at_182) rfl k)) ?_
          refine own_via (T' := T51) (g' := (mkF m 193 #[.val (.int x0), .val (.int x1), .val (.int x2), .val (.int x3), .val (.ref r1), .val (.int (nb.toInt32)), .val (.ref b2), .val (.int (1 : Int32)), .val (.int (1 : Int32)), .val (.int ps45), .val (.int (0 : Int32)), .val (.int (1 : Int32)), .val (.int (0 : Int32))] [(.int (nb.toInt32)), (.int ps45), (.int (0 : Int32))])) (fun t k => XS.ifNo X51.here hx rfl (hb hby at_184) rfl ((if0 _ _).trans (feq (by decide : ¬ ((1 : Int32) = (0 : Int32)))).1) (XS.iload X51.here hx rfl (hb hby at_187) rfl (XS.iload X51.here hx rfl (hb hby at_189) rfl (XS.iload X51.here hx rfl (hb hby at_191) rfl k)))) ?_
          refine own_via (T' := T51) (g' := (mkF m 201 #[.val (.int x0), .val (.int x1), .val (.int x2), .val (.int x3), .val (.ref r1), .val (.int (nb.toInt32)), .val (.ref b2), .val (.int (1 : Int32)), .val (.int (1 : Int32)), .val (.int ps45), .val (.int (0 : Int32)), .val (.int (1 : Int32)), .val (.int (0 : Int32))] [(.int (0 : Int32)), (.int (0 : Int32))])) (fun t k => XS.icmpYes X51.here hx rfl (pc0 := 193) (pc' := 200) rfl (hb hby at_193) rfl (flt hc49).2.1 (by decide) (by decide) (XS.iconst X51.here hx rfl (hb hby at_200) k)) ?_
          refine own_via (T' := T51) (g' := (mkF m 213 #[.val (.int x0), .val (.int x1), .val (.int x2), .val (.int x3), .val (.ref r1), .val (.int (nb.toInt32)), .val (.ref b2), .val (.int (1 : Int32)), .val (.int (1 : Int32)), .val (.int ps45), .val (.int (0 : Int32)), .val (.int (1 : Int32)), .val (.int (0 : Int32))] [(.int (1 : Int32))])) (fun t k => XS.icmpNo X51.here hx rfl (hb hby at_201) rfl (teq (by decide : (0 : Int32) = (0 : Int32))).2 (XS.iconst X51.here hx rfl (hb hby at_204) (XS.goto X51.here hx rfl (pc0 := 205) (pc' := 209) rfl (hb hby at_205) (by decide) (by decide) (XS.istore X51.here hx rfl (hb hby at_209) rfl (l' := #[.val (.int x0), .val (.int x1), .val (.int x2), .val (.int x3), .val (.ref r1), .val (.int (nb.toInt32)), .val (.ref b2), .val (.int (1 : Int32)), .val (.int (1 : Int32)), .val (.int ps45), .val (.int (0 : Int32)), .val (.int (1 : Int32)), .val (.int (0 : Int32))]) rfl (XS.iload X51.here hx rfl (hb hby at_211) rfl k))))) ?_
          refine own_retN X51 hx hlk (ty := .boolean) hret (by simp) (hb hby at_213) (by decide) (by decide) ?_
          exact ⟨by rw [own_f0] <;> rfl, N51⟩
      · obtain ⟨v52, T52, L52, X52, hQ52, st52⟩ := own_callVi (y := (⟨"com/example/concordia/concordia/wire/FrameReader", "hasRemaining", "()Z"⟩ : MethodName)) (z := (⟨"com/example/concordia/concordia/wire/FrameReader", "hasRemaining", "()Z"⟩ : MethodName)) (a := b2) (C := "com/example/concordia/concordia/wire/FrameReader") (argsL := []) (rest := []) X39 hx hZ hown (hw _ (List.mem_of_getElem? (i := 16) rfl)) (hw _ (List.mem_of_getElem? (i := 17) rfl)) (notFace_of_selects (args := #[]) (mvT hZ (hw _ (List.mem_of_getElem? (i := 19) rfl)))) (hw _ (List.mem_of_getElem? (i := 19) rfl)) (hw _ (List.mem_of_getElem? (i := 18) rfl)) (hw _ (List.mem_of_getElem? (i := 7) rfl)) (hw _ (List.mem_of_getElem? (i := 20) rfl)) (by decide) G39_0 (own_mth0 l Z a0 hw b2 r1 ps39 nb T39.heap G39_1 G39_2 V1q_at40 hc43) rfl (W := 0) (by decide) (by decide) (g := (mkF m 126 #[.val (.int x0), .val (.int x1), .val (.int x2), .val (.int x3), .val (.ref r1), .val (.int (nb.toInt32)), .val (.ref b2), .val (.int (1 : Int32)), .val (.int (1 : Int32)), .val (.int ps39), .val (.int (0 : Int32)), .unset, .unset] [(.ref b2)])) rfl (by rw [hml]; rfl) (lenOf own_pd8 rfl) rfl (by show 2 * 0 + _ ≤ _; exact Nat.le_of_eq rfl) (hb hby at_126) (by decide) (by decide)
        obtain ⟨rfl, e52, rfl⟩ := hQ52
        have N52 := Fr.app N39 (Fr.nil n0)
        refine own_via (T' := T52) (g' := (mkF m 129 #[.val (.int x0), .val (.int x1), .val (.int x2), .val (.int x3), .val (.ref r1), .val (.int (nb.toInt32)), .val (.ref b2), .val (.int (1 : Int32)), .val (.int (1 : Int32)), .val (.int ps39), .val (.int (0 : Int32)), .unset, .unset] [(.int (0 : Int32))])) st52 ?_
        refine own_via (T' := T52) (g' := (mkF m 133 #[.val (.int x0), .val (.int x1), .val (.int x2), .val (.int x3), .val (.ref r1), .val (.int (nb.toInt32)), .val (.ref b2), .val (.int (1 : Int32)), .val (.int (1 : Int32)), .val (.int ps39), .val (.int (0 : Int32)), .val (.int (0 : Int32)), .unset] [(.int (1 : Int32))])) (fun t k => XS.istore X52.here hx rfl (hb hby at_129) rfl (l' := #[.val (.int x0), .val (.int x1), .val (.int x2), .val (.int x3), .val (.ref r1), .val (.int (nb.toInt32)), .val (.ref b2), .val (.int (1 : Int32)), .val (.int (1 : Int32)), .val (.int ps39), .val (.int (0 : Int32)), .val (.int (0 : Int32)), .unset]) rfl (XS.iload X52.here hx rfl (hb hby at_131) rfl k)) ?_
        refine own_via (T' := T52) (g' := (mkF m 142 #[.val (.int x0), .val (.int x1), .val (.int x2), .val (.int x3), .val (.ref r1), .val (.int (nb.toInt32)), .val (.ref b2), .val (.int (1 : Int32)), .val (.int (1 : Int32)), .val (.int ps39), .val (.int (0 : Int32)), .val (.int (0 : Int32)), .unset] [(.int (nb.toInt32)), (.int ps39), (.int (0 : Int32))])) (fun t k => XS.ifNo X52.here hx rfl (hb hby at_133) rfl ((if0 _ _).trans (feq (by decide : ¬ ((1 : Int32) = (0 : Int32)))).1) (XS.iload X52.here hx rfl (hb hby at_136) rfl (XS.iload X52.here hx rfl (hb hby at_138) rfl (XS.iload X52.here hx rfl (hb hby at_140) rfl k)))) ?_
        refine own_via (T' := T52) (g' := (mkF m 150 #[.val (.int x0), .val (.int x1), .val (.int x2), .val (.int x3), .val (.ref r1), .val (.int (nb.toInt32)), .val (.ref b2), .val (.int (1 : Int32)), .val (.int (1 : Int32)), .val (.int ps39), .val (.int (0 : Int32)), .val (.int (0 : Int32)), .unset] [(.int (0 : Int32)), (.int (0 : Int32))])) (fun t k => XS.icmpYes X52.here hx rfl (pc0 := 142) (pc' := 149) rfl (hb hby at_142) rfl (flt hc43).2.1 (by decide) (by decide) (XS.iconst X52.here hx rfl (hb hby at_149) k)) ?_
        refine own_via (T' := T52) (g' := (mkF m 170 #[.val (.int x0), .val (.int x1), .val (.int x2), .val (.int x3), .val (.ref r1), .val (.int (nb.toInt32)), .val (.ref b2), .val (.int (1 : Int32)), .val (.int (1 : Int32)), .val (.int ps39), .val (.int (0 : Int32)), .val (.int (0 : Int32)), .unset] [(.int (nb.toInt32)), (.int ps39), (.int (x3 &&& (7 : Int32))), (.ref b2)])) (fun t k => XS.icmpNo X52.here hx rfl (hb hby at_150) rfl (teq (by decide : (0 : Int32) = (0 : Int32))).2 (XS.iconst X52.here hx rfl (hb hby at_153) (XS.goto X52.here hx rfl (pc0 := 154) (pc' := 158) rfl (hb hby at_154) (by decide) (by decide) (XS.istore X52.here hx rfl (hb hby at_158) rfl (l' := #[.val (.int x0), .val (.int x1), .val (.int x2), .val (.int x3), .val (.ref r1), .val (.int (nb.toInt32)), .val (.ref b2), .val (.int (1 : Int32)), .val (.int (1 : Int32)), .val (.int ps39), .val (.int (0 : Int32)), .val (.int (0 : Int32)), .unset]) rfl (XS.aload X52.here hx rfl (hb hby at_160) rfl rfl (XS.iloadN X52.here hx rfl (hb hby at_162) rfl (XS.bipush X52.here hx rfl (hb hby at_163) (XS.iand X52.here hx rfl (hb hby at_165) rfl (XS.iload X52.here hx rfl (hb hby at_166) rfl (XS.iload X52.here hx rfl (hb hby at_168) rfl k)))))))))) ?_
        obtain ⟨v53, T53, L53, X53, hQ53, st53⟩ := own_callSt (y := (⟨"com/example/concordia/concordia/wire/FrameReaderHasRemainingPinLaw", "step", "(Lcom/example/concordia/concordia/wire/FrameReader;III)I"⟩ : MethodName)) (argsL := [(.ref b2), (.int (x3 &&& (7 : Int32))), (.int ps39), (.int (nb.toInt32))]) (rest := []) X52 hx hZ hown (hw _ (List.mem_of_getElem? (i := 23) rfl)) (hw _ (List.mem_of_getElem? (i := 24) rfl)) (hw _ (List.mem_of_getElem? (i := 2) rfl)) (hw _ (List.mem_of_getElem? (i := 25) rfl)) (by decide) (own_mt5 l Z a0 hw b2 (x3 &&& (7 : Int32)) ps39 r1 nb T39.heap n0 Z39 ge_b2 (Ne.symm ne_r1_b2) G39_0 G39_1 G39_2 V1q_at40 EA1q_at41 hnb hp39) e52 (W := 0) (by decide) (by decide) (g := (mkF m 170 #[.val (.int x0), .val (.int x1), .val (.int x2), .val (.int x3), .val (.ref r1), .val (.int (nb.toInt32)), .val (.ref b2), .val (.int (1 : Int32)), .val (.int (1 : Int32)), .val (.int ps39), .val (.int (0 : Int32)), .val (.int (0 : Int32)), .unset] [(.int (nb.toInt32)), (.int ps39), (.int (x3 &&& (7 : Int32))), (.ref b2)])) rfl (by rw [hml]; rfl) (lenOf own_pd11 rfl) rfl (by show 2 * 0 + _ ≤ _; exact Nat.le_of_eq rfl) (hb hby at_170) (by decide) (by decide)
        obtain ⟨rfl, Nq53, K53q, G53_0, G53_1, G53_2⟩ := hQ53
        have N53 := Fr.app N52 Nq53
        have Z53 : n0 ≤ T53.heap.size := Nat.le_trans Z39 K53q.1
        have V1q_at54 := V1q_at40.keep K53q (ninS ne_r1_b2 nin0)
        have EA1q_at55 := EA1q_at41.keep K53q
        have G39_0_at56 := G39_0.keep K53q
        have hp53 := own_step_ok hnb hp39 (x3 &&& (7 : Int32))
        have hse53 := own_step_eq (x3 &&& (7 : Int32)) ps39 nb
        rw [hse53] at G53_2
        generalize hg53 : (own_step (x3 &&& (7 : Int32)) ps39 nb) = ps53 at G53_2 hp53 st53
        refine own_via (T' := T53) (g' := (mkF m 173 #[.val (.int x0), .val (.int x1), .val (.int x2), .val (.int x3), .val (.ref r1), .val (.int (nb.toInt32)), .val (.ref b2), .val (.int (1 : Int32)), .val (.int (1 : Int32)), .val (.int ps39), .val (.int (0 : Int32)), .val (.int (0 : Int32)), .unset] [(.int ps53)])) st53 ?_
        refine own_via (T' := T53) (g' := (mkF m 177 #[.val (.int x0), .val (.int x1), .val (.int x2), .val (.int x3), .val (.ref r1), .val (.int (nb.toInt32)), .val (.ref b2), .val (.int (1 : Int32)), .val (.int (1 : Int32)), .val (.int ps53), .val (.int (0 : Int32)), .val (.int (0 : Int32)), .unset] [(.ref b2)])) (fun t k => XS.istore X53.here hx rfl (hb hby at_173) rfl (l' := #[.val (.int x0), .val (.int x1), .val (.int x2), .val (.int x3), .val (.ref r1), .val (.int (nb.toInt32)), .val (.ref b2), .val (.int (1 : Int32)), .val (.int (1 : Int32)), .val (.int ps53), .val (.int (0 : Int32)), .val (.int (0 : Int32)), .unset]) rfl (XS.aload X53.here hx rfl (hb hby at_175) rfl rfl k)) ?_
        by_cases hc57 : ps53 < (nb.toInt32)
        · obtain ⟨v58, T58, L58, X58, hQ58, st58⟩ := own_callVi (y := (⟨"com/example/concordia/concordia/wire/FrameReader", "hasRemaining", "()Z"⟩ : MethodName)) (z := (⟨"com/example/concordia/concordia/wire/FrameReader", "hasRemaining", "()Z"⟩ : MethodName)) (a := b2) (C := "com/example/concordia/concordia/wire/FrameReader") (argsL := []) (rest := []) X53 hx hZ hown (hw _ (List.mem_of_getElem? (i := 16) rfl)) (hw _ (List.mem_of_getElem? (i := 17) rfl)) (notFace_of_selects (args := #[]) (mvT hZ (hw _ (List.mem_of_getElem? (i := 19) rfl)))) (hw _ (List.mem_of_getElem? (i := 19) rfl)) (hw _ (List.mem_of_getElem? (i := 18) rfl)) (hw _ (List.mem_of_getElem? (i := 7) rfl)) (hw _ (List.mem_of_getElem? (i := 20) rfl)) (by decide) G53_0 (own_mth1 l Z a0 hw b2 r1 ps53 nb T53.heap G53_1 G53_2 V1q_at54 hc57) rfl (W := 0) (by decide) (by decide) (g := (mkF m 177 #[.val (.int x0), .val (.int x1), .val (.int x2), .val (.int x3), .val (.ref r1), .val (.int (nb.toInt32)), .val (.ref b2), .val (.int (1 : Int32)), .val (.int (1 : Int32)), .val (.int ps53), .val (.int (0 : Int32)), .val (.int (0 : Int32)), .unset] [(.ref b2)])) rfl (by rw [hml]; rfl) (lenOf own_pd8 rfl) rfl (by show 2 * 0 + _ ≤ _; exact Nat.le_of_eq rfl) (hb hby at_177) (by decide) (by decide)
          obtain ⟨rfl, e58, rfl⟩ := hQ58
          have N58 := Fr.app N53 (Fr.nil n0)
          refine own_via (T' := T58) (g' := (mkF m 180 #[.val (.int x0), .val (.int x1), .val (.int x2), .val (.int x3), .val (.ref r1), .val (.int (nb.toInt32)), .val (.ref b2), .val (.int (1 : Int32)), .val (.int (1 : Int32)), .val (.int ps53), .val (.int (0 : Int32)), .val (.int (0 : Int32)), .unset] [(.int (1 : Int32))])) st58 ?_
          refine own_via (T' := T58) (g' := (mkF m 184 #[.val (.int x0), .val (.int x1), .val (.int x2), .val (.int x3), .val (.ref r1), .val (.int (nb.toInt32)), .val (.ref b2), .val (.int (1 : Int32)), .val (.int (1 : Int32)), .val (.int ps53), .val (.int (0 : Int32)), .val (.int (0 : Int32)), .val (.int (1 : Int32))] [(.int (1 : Int32))])) (fun t k => XS.istore X58.here hx rfl (hb hby at_180) rfl (l' := #[.val (.int x0), .val (.int x1), .val (.int x2), .val (.int x3), .val (.ref r1), .val (.int (nb.toInt32)), .val (.ref b2), .val (.int (1 : Int32)), .val (.int (1 : Int32)), .val (.int ps53), .val (.int (0 : Int32)), .val (.int (0 : Int32)), .val (.int (1 : Int32))]) rfl (XS.iload X58.here hx rfl (hb hby at_182) rfl k)) ?_
          refine own_via (T' := T58) (g' := (mkF m 193 #[.val (.int x0), .val (.int x1), .val (.int x2), .val (.int x3), .val (.ref r1), .val (.int (nb.toInt32)), .val (.ref b2), .val (.int (1 : Int32)), .val (.int (1 : Int32)), .val (.int ps53), .val (.int (0 : Int32)), .val (.int (0 : Int32)), .val (.int (1 : Int32))] [(.int (nb.toInt32)), (.int ps53), (.int (1 : Int32))])) (fun t k => XS.ifNo X58.here hx rfl (hb hby at_184) rfl ((if0 _ _).trans (feq (by decide : ¬ ((1 : Int32) = (0 : Int32)))).1) (XS.iload X58.here hx rfl (hb hby at_187) rfl (XS.iload X58.here hx rfl (hb hby at_189) rfl (XS.iload X58.here hx rfl (hb hby at_191) rfl k)))) ?_
          refine own_via (T' := T58) (g' := (mkF m 201 #[.val (.int x0), .val (.int x1), .val (.int x2), .val (.int x3), .val (.ref r1), .val (.int (nb.toInt32)), .val (.ref b2), .val (.int (1 : Int32)), .val (.int (1 : Int32)), .val (.int ps53), .val (.int (0 : Int32)), .val (.int (0 : Int32)), .val (.int (1 : Int32))] [(.int (1 : Int32)), (.int (1 : Int32))])) (fun t k => XS.icmpNo X58.here hx rfl (hb hby at_193) rfl (tlt hc57).2.1 (XS.iconst X58.here hx rfl (hb hby at_196) (XS.goto X58.here hx rfl (pc0 := 197) (pc' := 201) rfl (hb hby at_197) (by decide) (by decide) k))) ?_
          refine own_via (T' := T58) (g' := (mkF m 213 #[.val (.int x0), .val (.int x1), .val (.int x2), .val (.int x3), .val (.ref r1), .val (.int (nb.toInt32)), .val (.ref b2), .val (.int (1 : Int32)), .val (.int (1 : Int32)), .val (.int ps53), .val (.int (0 : Int32)), .val (.int (0 : Int32)), .val (.int (1 : Int32))] [(.int (1 : Int32))])) (fun t k => XS.icmpNo X58.here hx rfl (hb hby at_201) rfl (teq (by decide : (1 : Int32) = (1 : Int32))).2 (XS.iconst X58.here hx rfl (hb hby at_204) (XS.goto X58.here hx rfl (pc0 := 205) (pc' := 209) rfl (hb hby at_205) (by decide) (by decide) (XS.istore X58.here hx rfl (hb hby at_209) rfl (l' := #[.val (.int x0), .val (.int x1), .val (.int x2), .val (.int x3), .val (.ref r1), .val (.int (nb.toInt32)), .val (.ref b2), .val (.int (1 : Int32)), .val (.int (1 : Int32)), .val (.int ps53), .val (.int (0 : Int32)), .val (.int (0 : Int32)), .val (.int (1 : Int32))]) rfl (XS.iload X58.here hx rfl (hb hby at_211) rfl k))))) ?_
          refine own_retN X58 hx hlk (ty := .boolean) hret (by simp) (hb hby at_213) (by decide) (by decide) ?_
          exact ⟨by rw [own_f0] <;> rfl, N58⟩
        · obtain ⟨v59, T59, L59, X59, hQ59, st59⟩ := own_callVi (y := (⟨"com/example/concordia/concordia/wire/FrameReader", "hasRemaining", "()Z"⟩ : MethodName)) (z := (⟨"com/example/concordia/concordia/wire/FrameReader", "hasRemaining", "()Z"⟩ : MethodName)) (a := b2) (C := "com/example/concordia/concordia/wire/FrameReader") (argsL := []) (rest := []) X53 hx hZ hown (hw _ (List.mem_of_getElem? (i := 16) rfl)) (hw _ (List.mem_of_getElem? (i := 17) rfl)) (notFace_of_selects (args := #[]) (mvT hZ (hw _ (List.mem_of_getElem? (i := 19) rfl)))) (hw _ (List.mem_of_getElem? (i := 19) rfl)) (hw _ (List.mem_of_getElem? (i := 18) rfl)) (hw _ (List.mem_of_getElem? (i := 7) rfl)) (hw _ (List.mem_of_getElem? (i := 20) rfl)) (by decide) G53_0 (own_mth0 l Z a0 hw b2 r1 ps53 nb T53.heap G53_1 G53_2 V1q_at54 hc57) rfl (W := 0) (by decide) (by decide) (g := (mkF m 177 #[.val (.int x0), .val (.int x1), .val (.int x2), .val (.int x3), .val (.ref r1), .val (.int (nb.toInt32)), .val (.ref b2), .val (.int (1 : Int32)), .val (.int (1 : Int32)), .val (.int ps53), .val (.int (0 : Int32)), .val (.int (0 : Int32)), .unset] [(.ref b2)])) rfl (by rw [hml]; rfl) (lenOf own_pd8 rfl) rfl (by show 2 * 0 + _ ≤ _; exact Nat.le_of_eq rfl) (hb hby at_177) (by decide) (by decide)
          obtain ⟨rfl, e59, rfl⟩ := hQ59
          have N59 := Fr.app N53 (Fr.nil n0)
          refine own_via (T' := T59) (g' := (mkF m 180 #[.val (.int x0), .val (.int x1), .val (.int x2), .val (.int x3), .val (.ref r1), .val (.int (nb.toInt32)), .val (.ref b2), .val (.int (1 : Int32)), .val (.int (1 : Int32)), .val (.int ps53), .val (.int (0 : Int32)), .val (.int (0 : Int32)), .unset] [(.int (0 : Int32))])) st59 ?_
          refine own_via (T' := T59) (g' := (mkF m 184 #[.val (.int x0), .val (.int x1), .val (.int x2), .val (.int x3), .val (.ref r1), .val (.int (nb.toInt32)), .val (.ref b2), .val (.int (1 : Int32)), .val (.int (1 : Int32)), .val (.int ps53), .val (.int (0 : Int32)), .val (.int (0 : Int32)), .val (.int (0 : Int32))] [(.int (1 : Int32))])) (fun t k => XS.istore X59.here hx rfl (hb hby at_180) rfl (l' := #[.val (.int x0), .val (.int x1), .val (.int x2), .val (.int x3), .val (.ref r1), .val (.int (nb.toInt32)), .val (.ref b2), .val (.int (1 : Int32)), .val (.int (1 : Int32)), .val (.int ps53), .val (.int (0 : Int32)), .val (.int (0 : Int32)), .val (.int (0 : Int32))]) rfl (XS.iload X59.here hx rfl (hb hby at_182) rfl k)) ?_
          refine own_via (T' := T59) (g' := (mkF m 193 #[.val (.int x0), .val (.int x1), .val (.int x2), .val (.int x3), .val (.ref r1), .val (.int (nb.toInt32)), .val (.ref b2), .val (.int (1 : Int32)), .val (.int (1 : Int32)), .val (.int ps53), .val (.int (0 : Int32)), .val (.int (0 : Int32)), .val (.int (0 : Int32))] [(.int (nb.toInt32)), (.int ps53), (.int (0 : Int32))])) (fun t k => XS.ifNo X59.here hx rfl (hb hby at_184) rfl ((if0 _ _).trans (feq (by decide : ¬ ((1 : Int32) = (0 : Int32)))).1) (XS.iload X59.here hx rfl (hb hby at_187) rfl (XS.iload X59.here hx rfl (hb hby at_189) rfl (XS.iload X59.here hx rfl (hb hby at_191) rfl k)))) ?_
          refine own_via (T' := T59) (g' := (mkF m 201 #[.val (.int x0), .val (.int x1), .val (.int x2), .val (.int x3), .val (.ref r1), .val (.int (nb.toInt32)), .val (.ref b2), .val (.int (1 : Int32)), .val (.int (1 : Int32)), .val (.int ps53), .val (.int (0 : Int32)), .val (.int (0 : Int32)), .val (.int (0 : Int32))] [(.int (0 : Int32)), (.int (0 : Int32))])) (fun t k => XS.icmpYes X59.here hx rfl (pc0 := 193) (pc' := 200) rfl (hb hby at_193) rfl (flt hc57).2.1 (by decide) (by decide) (XS.iconst X59.here hx rfl (hb hby at_200) k)) ?_
          refine own_via (T' := T59) (g' := (mkF m 213 #[.val (.int x0), .val (.int x1), .val (.int x2), .val (.int x3), .val (.ref r1), .val (.int (nb.toInt32)), .val (.ref b2), .val (.int (1 : Int32)), .val (.int (1 : Int32)), .val (.int ps53), .val (.int (0 : Int32)), .val (.int (0 : Int32)), .val (.int (0 : Int32))] [(.int (1 : Int32))])) (fun t k => XS.icmpNo X59.here hx rfl (hb hby at_201) rfl (teq (by decide : (0 : Int32) = (0 : Int32))).2 (XS.iconst X59.here hx rfl (hb hby at_204) (XS.goto X59.here hx rfl (pc0 := 205) (pc' := 209) rfl (hb hby at_205) (by decide) (by decide) (XS.istore X59.here hx rfl (hb hby at_209) rfl (l' := #[.val (.int x0), .val (.int x1), .val (.int x2), .val (.int x3), .val (.ref r1), .val (.int (nb.toInt32)), .val (.ref b2), .val (.int (1 : Int32)), .val (.int (1 : Int32)), .val (.int ps53), .val (.int (0 : Int32)), .val (.int (0 : Int32)), .val (.int (0 : Int32))]) rfl (XS.iload X59.here hx rfl (hb hby at_211) rfl k))))) ?_
          refine own_retN X59 hx hlk (ty := .boolean) hret (by simp) (hb hby at_213) (by decide) (by decide) ?_
          exact ⟨by rw [own_f0] <;> rfl, N59⟩
  · obtain ⟨v60, T60, L60, X60, hQ60, st60⟩ := own_callVi (y := (⟨"com/example/concordia/concordia/wire/FrameReader", "hasRemaining", "()Z"⟩ : MethodName)) (z := (⟨"com/example/concordia/concordia/wire/FrameReader", "hasRemaining", "()Z"⟩ : MethodName)) (a := b2) (C := "com/example/concordia/concordia/wire/FrameReader") (argsL := []) (rest := []) X5 hx hZ hown (hw _ (List.mem_of_getElem? (i := 16) rfl)) (hw _ (List.mem_of_getElem? (i := 17) rfl)) (notFace_of_selects (args := #[]) (mvT hZ (hw _ (List.mem_of_getElem? (i := 19) rfl)))) (hw _ (List.mem_of_getElem? (i := 19) rfl)) (hw _ (List.mem_of_getElem? (i := 18) rfl)) (hw _ (List.mem_of_getElem? (i := 7) rfl)) (hw _ (List.mem_of_getElem? (i := 20) rfl)) (by decide) G5_0 (own_mth0 l Z a0 hw b2 r1 (0 : Int32) nb T5.heap G5_1 G5_2 V1q_at6 hc9) rfl (W := 0) (by decide) (by decide) (g := (mkF m 27 #[.val (.int x0), .val (.int x1), .val (.int x2), .val (.int x3), .val (.ref r1), .val (.int (nb.toInt32)), .val (.ref b2), .unset, .unset, .unset, .unset, .unset, .unset] [(.ref b2)])) rfl (by rw [hml]; rfl) (lenOf own_pd8 rfl) rfl (by show 2 * 0 + _ ≤ _; exact Nat.le_of_eq rfl) (hb hby at_27) (by decide) (by decide)
    obtain ⟨rfl, e60, rfl⟩ := hQ60
    have N60 := Fr.app N5 (Fr.nil n0)
    refine own_via (T' := T60) (g' := (mkF m 30 #[.val (.int x0), .val (.int x1), .val (.int x2), .val (.int x3), .val (.ref r1), .val (.int (nb.toInt32)), .val (.ref b2), .unset, .unset, .unset, .unset, .unset, .unset] [(.int (0 : Int32))])) st60 ?_
    refine own_via (T' := T60) (g' := (mkF m 37 #[.val (.int x0), .val (.int x1), .val (.int x2), .val (.int x3), .val (.ref r1), .val (.int (nb.toInt32)), .val (.ref b2), .val (.int (0 : Int32)), .unset, .unset, .unset, .unset, .unset] [(.int (nb.toInt32)), (.int (0 : Int32)), (.int (0 : Int32))])) (fun t k => XS.istore X60.here hx rfl (hb hby at_30) rfl (l' := #[.val (.int x0), .val (.int x1), .val (.int x2), .val (.int x3), .val (.ref r1), .val (.int (nb.toInt32)), .val (.ref b2), .val (.int (0 : Int32)), .unset, .unset, .unset, .unset, .unset]) rfl (XS.iload X60.here hx rfl (hb hby at_32) rfl (XS.iconst X60.here hx rfl (hb hby at_34) (XS.iload X60.here hx rfl (hb hby at_35) rfl k)))) ?_
    refine own_via (T' := T60) (g' := (mkF m 45 #[.val (.int x0), .val (.int x1), .val (.int x2), .val (.int x3), .val (.ref r1), .val (.int (nb.toInt32)), .val (.ref b2), .val (.int (0 : Int32)), .unset, .unset, .unset, .unset, .unset] [(.int (0 : Int32)), (.int (0 : Int32))])) (fun t k => XS.icmpYes X60.here hx rfl (pc0 := 37) (pc' := 44) rfl (hb hby at_37) rfl (flt hc9).2.1 (by decide) (by decide) (XS.iconst X60.here hx rfl (hb hby at_44) k)) ?_
    refine own_via (T' := T60) (g' := (mkF m 64 #[.val (.int x0), .val (.int x1), .val (.int x2), .val (.int x3), .val (.ref r1), .val (.int (nb.toInt32)), .val (.ref b2), .val (.int (0 : Int32)), .val (.int (1 : Int32)), .val (.int (0 : Int32)), .unset, .unset, .unset] [(.int (x1 &&& (7 : Int32))), (.ref b2)])) (fun t k => XS.icmpNo X60.here hx rfl (hb hby at_45) rfl (teq (by decide : (0 : Int32) = (0 : Int32))).2 (XS.iconst X60.here hx rfl (hb hby at_48) (XS.goto X60.here hx rfl (pc0 := 49) (pc' := 53) rfl (hb hby at_49) (by decide) (by decide) (XS.istore X60.here hx rfl (hb hby at_53) rfl (l' := #[.val (.int x0), .val (.int x1), .val (.int x2), .val (.int x3), .val (.ref r1), .val (.int (nb.toInt32)), .val (.ref b2), .val (.int (0 : Int32)), .val (.int (1 : Int32)), .unset, .unset, .unset, .unset]) rfl (XS.iconst X60.here hx rfl (hb hby at_55) (XS.istore X60.here hx rfl (hb hby at_56) rfl (l' := #[.val (.int x0), .val (.int x1), .val (.int x2), .val (.int x3), .val (.ref r1), .val (.int (nb.toInt32)), .val (.ref b2), .val (.int (0 : Int32)), .val (.int (1 : Int32)), .val (.int (0 : Int32)), .unset, .unset, .unset]) rfl (XS.aload X60.here hx rfl (hb hby at_58) rfl rfl (XS.iloadN X60.here hx rfl (hb hby at_60) rfl (XS.bipush X60.here hx rfl (hb hby at_61) (XS.iand X60.here hx rfl (hb hby at_63) rfl k)))))))))) ?_
    refine own_via (T' := T60) (g' := (mkF m 68 #[.val (.int x0), .val (.int x1), .val (.int x2), .val (.int x3), .val (.ref r1), .val (.int (nb.toInt32)), .val (.ref b2), .val (.int (0 : Int32)), .val (.int (1 : Int32)), .val (.int (0 : Int32)), .unset, .unset, .unset] [(.int (nb.toInt32)), (.int (0 : Int32)), (.int (x1 &&& (7 : Int32))), (.ref b2)])) (fun t k => XS.iload X60.here hx rfl (hb hby at_64) rfl (XS.iload X60.here hx rfl (hb hby at_66) rfl k)) ?_
    obtain ⟨v61, T61, L61, X61, hQ61, st61⟩ := own_callSt (y := (⟨"com/example/concordia/concordia/wire/FrameReaderHasRemainingPinLaw", "step", "(Lcom/example/concordia/concordia/wire/FrameReader;III)I"⟩ : MethodName)) (argsL := [(.ref b2), (.int (x1 &&& (7 : Int32))), (.int (0 : Int32)), (.int (nb.toInt32))]) (rest := []) X60 hx hZ hown (hw _ (List.mem_of_getElem? (i := 23) rfl)) (hw _ (List.mem_of_getElem? (i := 24) rfl)) (hw _ (List.mem_of_getElem? (i := 2) rfl)) (hw _ (List.mem_of_getElem? (i := 25) rfl)) (by decide) (own_mt5 l Z a0 hw b2 (x1 &&& (7 : Int32)) (0 : Int32) r1 nb T5.heap n0 Z5 ge_b2 (Ne.symm ne_r1_b2) G5_0 G5_1 G5_2 V1q_at6 EA1q_at7 hnb own_zero) e60 (W := 0) (by decide) (by decide) (g := (mkF m 68 #[.val (.int x0), .val (.int x1), .val (.int x2), .val (.int x3), .val (.ref r1), .val (.int (nb.toInt32)), .val (.ref b2), .val (.int (0 : Int32)), .val (.int (1 : Int32)), .val (.int (0 : Int32)), .unset, .unset, .unset] [(.int (nb.toInt32)), (.int (0 : Int32)), (.int (x1 &&& (7 : Int32))), (.ref b2)])) rfl (by rw [hml]; rfl) (lenOf own_pd11 rfl) rfl (by show 2 * 0 + _ ≤ _; exact Nat.le_of_eq rfl) (hb hby at_68) (by decide) (by decide)
    obtain ⟨rfl, Nq61, K61q, G61_0, G61_1, G61_2⟩ := hQ61
    have N61 := Fr.app N60 Nq61
    have Z61 : n0 ≤ T61.heap.size := Nat.le_trans Z5 K61q.1
    have V1q_at62 := V1q_at6.keep K61q (ninS ne_r1_b2 nin0)
    have EA1q_at63 := EA1q_at7.keep K61q
    have G5_0_at64 := G5_0.keep K61q
    have hp61 := own_step_ok hnb own_zero (x1 &&& (7 : Int32))
    have hse61 := own_step_eq (x1 &&& (7 : Int32)) (0 : Int32) nb
    rw [hse61] at G61_2
    generalize hg61 : (own_step (x1 &&& (7 : Int32)) (0 : Int32) nb) = ps61 at G61_2 hp61 st61
    refine own_via (T' := T61) (g' := (mkF m 71 #[.val (.int x0), .val (.int x1), .val (.int x2), .val (.int x3), .val (.ref r1), .val (.int (nb.toInt32)), .val (.ref b2), .val (.int (0 : Int32)), .val (.int (1 : Int32)), .val (.int (0 : Int32)), .unset, .unset, .unset] [(.int ps61)])) st61 ?_
    refine own_via (T' := T61) (g' := (mkF m 75 #[.val (.int x0), .val (.int x1), .val (.int x2), .val (.int x3), .val (.ref r1), .val (.int (nb.toInt32)), .val (.ref b2), .val (.int (0 : Int32)), .val (.int (1 : Int32)), .val (.int ps61), .unset, .unset, .unset] [(.ref b2)])) (fun t k => XS.istore X61.here hx rfl (hb hby at_71) rfl (l' := #[.val (.int x0), .val (.int x1), .val (.int x2), .val (.int x3), .val (.ref r1), .val (.int (nb.toInt32)), .val (.ref b2), .val (.int (0 : Int32)), .val (.int (1 : Int32)), .val (.int ps61), .unset, .unset, .unset]) rfl (XS.aload X61.here hx rfl (hb hby at_73) rfl rfl k)) ?_
    by_cases hc65 : ps61 < (nb.toInt32)
    · obtain ⟨v66, T66, L66, X66, hQ66, st66⟩ := own_callVi (y := (⟨"com/example/concordia/concordia/wire/FrameReader", "hasRemaining", "()Z"⟩ : MethodName)) (z := (⟨"com/example/concordia/concordia/wire/FrameReader", "hasRemaining", "()Z"⟩ : MethodName)) (a := b2) (C := "com/example/concordia/concordia/wire/FrameReader") (argsL := []) (rest := []) X61 hx hZ hown (hw _ (List.mem_of_getElem? (i := 16) rfl)) (hw _ (List.mem_of_getElem? (i := 17) rfl)) (notFace_of_selects (args := #[]) (mvT hZ (hw _ (List.mem_of_getElem? (i := 19) rfl)))) (hw _ (List.mem_of_getElem? (i := 19) rfl)) (hw _ (List.mem_of_getElem? (i := 18) rfl)) (hw _ (List.mem_of_getElem? (i := 7) rfl)) (hw _ (List.mem_of_getElem? (i := 20) rfl)) (by decide) G61_0 (own_mth1 l Z a0 hw b2 r1 ps61 nb T61.heap G61_1 G61_2 V1q_at62 hc65) rfl (W := 0) (by decide) (by decide) (g := (mkF m 75 #[.val (.int x0), .val (.int x1), .val (.int x2), .val (.int x3), .val (.ref r1), .val (.int (nb.toInt32)), .val (.ref b2), .val (.int (0 : Int32)), .val (.int (1 : Int32)), .val (.int ps61), .unset, .unset, .unset] [(.ref b2)])) rfl (by rw [hml]; rfl) (lenOf own_pd8 rfl) rfl (by show 2 * 0 + _ ≤ _; exact Nat.le_of_eq rfl) (hb hby at_75) (by decide) (by decide)
      obtain ⟨rfl, e66, rfl⟩ := hQ66
      have N66 := Fr.app N61 (Fr.nil n0)
      refine own_via (T' := T66) (g' := (mkF m 78 #[.val (.int x0), .val (.int x1), .val (.int x2), .val (.int x3), .val (.ref r1), .val (.int (nb.toInt32)), .val (.ref b2), .val (.int (0 : Int32)), .val (.int (1 : Int32)), .val (.int ps61), .unset, .unset, .unset] [(.int (1 : Int32))])) st66 ?_
      refine own_via (T' := T66) (g' := (mkF m 82 #[.val (.int x0), .val (.int x1), .val (.int x2), .val (.int x3), .val (.ref r1), .val (.int (nb.toInt32)), .val (.ref b2), .val (.int (0 : Int32)), .val (.int (1 : Int32)), .val (.int ps61), .val (.int (1 : Int32)), .unset, .unset] [(.int (1 : Int32))])) (fun t k => XS.istore X66.here hx rfl (hb hby at_78) rfl (l' := #[.val (.int x0), .val (.int x1), .val (.int x2), .val (.int x3), .val (.ref r1), .val (.int (nb.toInt32)), .val (.ref b2), .val (.int (0 : Int32)), .val (.int (1 : Int32)), .val (.int ps61), .val (.int (1 : Int32)), .unset, .unset]) rfl (XS.iload X66.here hx rfl (hb hby at_80) rfl k)) ?_
      refine own_via (T' := T66) (g' := (mkF m 91 #[.val (.int x0), .val (.int x1), .val (.int x2), .val (.int x3), .val (.ref r1), .val (.int (nb.toInt32)), .val (.ref b2), .val (.int (0 : Int32)), .val (.int (1 : Int32)), .val (.int ps61), .val (.int (1 : Int32)), .unset, .unset] [(.int (nb.toInt32)), (.int ps61), (.int (1 : Int32))])) (fun t k => XS.ifNo X66.here hx rfl (hb hby at_82) rfl ((if0 _ _).trans (feq (by decide : ¬ ((1 : Int32) = (0 : Int32)))).1) (XS.iload X66.here hx rfl (hb hby at_85) rfl (XS.iload X66.here hx rfl (hb hby at_87) rfl (XS.iload X66.here hx rfl (hb hby at_89) rfl k)))) ?_
      refine own_via (T' := T66) (g' := (mkF m 99 #[.val (.int x0), .val (.int x1), .val (.int x2), .val (.int x3), .val (.ref r1), .val (.int (nb.toInt32)), .val (.ref b2), .val (.int (0 : Int32)), .val (.int (1 : Int32)), .val (.int ps61), .val (.int (1 : Int32)), .unset, .unset] [(.int (1 : Int32)), (.int (1 : Int32))])) (fun t k => XS.icmpNo X66.here hx rfl (hb hby at_91) rfl (tlt hc65).2.1 (XS.iconst X66.here hx rfl (hb hby at_94) (XS.goto X66.here hx rfl (pc0 := 95) (pc' := 99) rfl (hb hby at_95) (by decide) (by decide) k))) ?_
      refine own_via (T' := T66) (g' := (mkF m 119 #[.val (.int x0), .val (.int x1), .val (.int x2), .val (.int x3), .val (.ref r1), .val (.int (nb.toInt32)), .val (.ref b2), .val (.int (0 : Int32)), .val (.int (1 : Int32)), .val (.int ps61), .val (.int (1 : Int32)), .unset, .unset] [(.int (nb.toInt32)), (.int ps61), (.int (x2 &&& (7 : Int32))), (.ref b2)])) (fun t k => XS.icmpNo X66.here hx rfl (hb hby at_99) rfl (teq (by decide : (1 : Int32) = (1 : Int32))).2 (XS.iconst X66.here hx rfl (hb hby at_102) (XS.goto X66.here hx rfl (pc0 := 103) (pc' := 107) rfl (hb hby at_103) (by decide) (by decide) (XS.istore X66.here hx rfl (hb hby at_107) rfl (l' := #[.val (.int x0), .val (.int x1), .val (.int x2), .val (.int x3), .val (.ref r1), .val (.int (nb.toInt32)), .val (.ref b2), .val (.int (0 : Int32)), .val (.int (1 : Int32)), .val (.int ps61), .val (.int (1 : Int32)), .unset, .unset]) rfl (XS.aload X66.here hx rfl (hb hby at_109) rfl rfl (XS.iloadN X66.here hx rfl (hb hby at_111) rfl (XS.bipush X66.here hx rfl (hb hby at_112) (XS.iand X66.here hx rfl (hb hby at_114) rfl (XS.iload X66.here hx rfl (hb hby at_115) rfl (XS.iload X66.here hx rfl (hb hby at_117) rfl k)))))))))) ?_
      obtain ⟨v67, T67, L67, X67, hQ67, st67⟩ := own_callSt (y := (⟨"com/example/concordia/concordia/wire/FrameReaderHasRemainingPinLaw", "step", "(Lcom/example/concordia/concordia/wire/FrameReader;III)I"⟩ : MethodName)) (argsL := [(.ref b2), (.int (x2 &&& (7 : Int32))), (.int ps61), (.int (nb.toInt32))]) (rest := []) X66 hx hZ hown (hw _ (List.mem_of_getElem? (i := 23) rfl)) (hw _ (List.mem_of_getElem? (i := 24) rfl)) (hw _ (List.mem_of_getElem? (i := 2) rfl)) (hw _ (List.mem_of_getElem? (i := 25) rfl)) (by decide) (own_mt5 l Z a0 hw b2 (x2 &&& (7 : Int32)) ps61 r1 nb T61.heap n0 Z61 ge_b2 (Ne.symm ne_r1_b2) G61_0 G61_1 G61_2 V1q_at62 EA1q_at63 hnb hp61) e66 (W := 0) (by decide) (by decide) (g := (mkF m 119 #[.val (.int x0), .val (.int x1), .val (.int x2), .val (.int x3), .val (.ref r1), .val (.int (nb.toInt32)), .val (.ref b2), .val (.int (0 : Int32)), .val (.int (1 : Int32)), .val (.int ps61), .val (.int (1 : Int32)), .unset, .unset] [(.int (nb.toInt32)), (.int ps61), (.int (x2 &&& (7 : Int32))), (.ref b2)])) rfl (by rw [hml]; rfl) (lenOf own_pd11 rfl) rfl (by show 2 * 0 + _ ≤ _; exact Nat.le_of_eq rfl) (hb hby at_119) (by decide) (by decide)
      obtain ⟨rfl, Nq67, K67q, G67_0, G67_1, G67_2⟩ := hQ67
      have N67 := Fr.app N66 Nq67
      have Z67 : n0 ≤ T67.heap.size := Nat.le_trans Z61 K67q.1
      have V1q_at68 := V1q_at62.keep K67q (ninS ne_r1_b2 nin0)
      have EA1q_at69 := EA1q_at63.keep K67q
      have G61_0_at70 := G61_0.keep K67q
      have hp67 := own_step_ok hnb hp61 (x2 &&& (7 : Int32))
      have hse67 := own_step_eq (x2 &&& (7 : Int32)) ps61 nb
      rw [hse67] at G67_2
      generalize hg67 : (own_step (x2 &&& (7 : Int32)) ps61 nb) = ps67 at G67_2 hp67 st67
      refine own_via (T' := T67) (g' := (mkF m 122 #[.val (.int x0), .val (.int x1), .val (.int x2), .val (.int x3), .val (.ref r1), .val (.int (nb.toInt32)), .val (.ref b2), .val (.int (0 : Int32)), .val (.int (1 : Int32)), .val (.int ps61), .val (.int (1 : Int32)), .unset, .unset] [(.int ps67)])) st67 ?_
      refine own_via (T' := T67) (g' := (mkF m 126 #[.val (.int x0), .val (.int x1), .val (.int x2), .val (.int x3), .val (.ref r1), .val (.int (nb.toInt32)), .val (.ref b2), .val (.int (0 : Int32)), .val (.int (1 : Int32)), .val (.int ps67), .val (.int (1 : Int32)), .unset, .unset] [(.ref b2)])) (fun t k => XS.istore X67.here hx rfl (hb hby at_122) rfl (l' := #[.val (.int x0), .val (.int x1), .val (.int x2), .val (.int x3), .val (.ref r1), .val (.int (nb.toInt32)), .val (.ref b2), .val (.int (0 : Int32)), .val (.int (1 : Int32)), .val (.int ps67), .val (.int (1 : Int32)), .unset, .unset]) rfl (XS.aload X67.here hx rfl (hb hby at_124) rfl rfl k)) ?_
      by_cases hc71 : ps67 < (nb.toInt32)
      · obtain ⟨v72, T72, L72, X72, hQ72, st72⟩ := own_callVi (y := (⟨"com/example/concordia/concordia/wire/FrameReader", "hasRemaining", "()Z"⟩ : MethodName)) (z := (⟨"com/example/concordia/concordia/wire/FrameReader", "hasRemaining", "()Z"⟩ : MethodName)) (a := b2) (C := "com/example/concordia/concordia/wire/FrameReader") (argsL := []) (rest := []) X67 hx hZ hown (hw _ (List.mem_of_getElem? (i := 16) rfl)) (hw _ (List.mem_of_getElem? (i := 17) rfl)) (notFace_of_selects (args := #[]) (mvT hZ (hw _ (List.mem_of_getElem? (i := 19) rfl)))) (hw _ (List.mem_of_getElem? (i := 19) rfl)) (hw _ (List.mem_of_getElem? (i := 18) rfl)) (hw _ (List.mem_of_getElem? (i := 7) rfl)) (hw _ (List.mem_of_getElem? (i := 20) rfl)) (by decide) G67_0 (own_mth1 l Z a0 hw b2 r1 ps67 nb T67.heap G67_1 G67_2 V1q_at68 hc71) rfl (W := 0) (by decide) (by decide) (g := (mkF m 126 #[.val (.int x0), .val (.int x1), .val (.int x2), .val (.int x3), .val (.ref r1), .val (.int (nb.toInt32)), .val (.ref b2), .val (.int (0 : Int32)), .val (.int (1 : Int32)), .val (.int ps67), .val (.int (1 : Int32)), .unset, .unset] [(.ref b2)])) rfl (by rw [hml]; rfl) (lenOf own_pd8 rfl) rfl (by show 2 * 0 + _ ≤ _; exact Nat.le_of_eq rfl) (hb hby at_126) (by decide) (by decide)
        obtain ⟨rfl, e72, rfl⟩ := hQ72
        have N72 := Fr.app N67 (Fr.nil n0)
        refine own_via (T' := T72) (g' := (mkF m 129 #[.val (.int x0), .val (.int x1), .val (.int x2), .val (.int x3), .val (.ref r1), .val (.int (nb.toInt32)), .val (.ref b2), .val (.int (0 : Int32)), .val (.int (1 : Int32)), .val (.int ps67), .val (.int (1 : Int32)), .unset, .unset] [(.int (1 : Int32))])) st72 ?_
        refine own_via (T' := T72) (g' := (mkF m 133 #[.val (.int x0), .val (.int x1), .val (.int x2), .val (.int x3), .val (.ref r1), .val (.int (nb.toInt32)), .val (.ref b2), .val (.int (0 : Int32)), .val (.int (1 : Int32)), .val (.int ps67), .val (.int (1 : Int32)), .val (.int (1 : Int32)), .unset] [(.int (1 : Int32))])) (fun t k => XS.istore X72.here hx rfl (hb hby at_129) rfl (l' := #[.val (.int x0), .val (.int x1), .val (.int x2), .val (.int x3), .val (.ref r1), .val (.int (nb.toInt32)), .val (.ref b2), .val (.int (0 : Int32)), .val (.int (1 : Int32)), .val (.int ps67), .val (.int (1 : Int32)), .val (.int (1 : Int32)), .unset]) rfl (XS.iload X72.here hx rfl (hb hby at_131) rfl k)) ?_
        refine own_via (T' := T72) (g' := (mkF m 142 #[.val (.int x0), .val (.int x1), .val (.int x2), .val (.int x3), .val (.ref r1), .val (.int (nb.toInt32)), .val (.ref b2), .val (.int (0 : Int32)), .val (.int (1 : Int32)), .val (.int ps67), .val (.int (1 : Int32)), .val (.int (1 : Int32)), .unset] [(.int (nb.toInt32)), (.int ps67), (.int (1 : Int32))])) (fun t k => XS.ifNo X72.here hx rfl (hb hby at_133) rfl ((if0 _ _).trans (feq (by decide : ¬ ((1 : Int32) = (0 : Int32)))).1) (XS.iload X72.here hx rfl (hb hby at_136) rfl (XS.iload X72.here hx rfl (hb hby at_138) rfl (XS.iload X72.here hx rfl (hb hby at_140) rfl k)))) ?_
        refine own_via (T' := T72) (g' := (mkF m 150 #[.val (.int x0), .val (.int x1), .val (.int x2), .val (.int x3), .val (.ref r1), .val (.int (nb.toInt32)), .val (.ref b2), .val (.int (0 : Int32)), .val (.int (1 : Int32)), .val (.int ps67), .val (.int (1 : Int32)), .val (.int (1 : Int32)), .unset] [(.int (1 : Int32)), (.int (1 : Int32))])) (fun t k => XS.icmpNo X72.here hx rfl (hb hby at_142) rfl (tlt hc71).2.1 (XS.iconst X72.here hx rfl (hb hby at_145) (XS.goto X72.here hx rfl (pc0 := 146) (pc' := 150) rfl (hb hby at_146) (by decide) (by decide) k))) ?_
        refine own_via (T' := T72) (g' := (mkF m 170 #[.val (.int x0), .val (.int x1), .val (.int x2), .val (.int x3), .val (.ref r1), .val (.int (nb.toInt32)), .val (.ref b2), .val (.int (0 : Int32)), .val (.int (1 : Int32)), .val (.int ps67), .val (.int (1 : Int32)), .val (.int (1 : Int32)), .unset] [(.int (nb.toInt32)), (.int ps67), (.int (x3 &&& (7 : Int32))), (.ref b2)])) (fun t k => XS.icmpNo X72.here hx rfl (hb hby at_150) rfl (teq (by decide : (1 : Int32) = (1 : Int32))).2 (XS.iconst X72.here hx rfl (hb hby at_153) (XS.goto X72.here hx rfl (pc0 := 154) (pc' := 158) rfl (hb hby at_154) (by decide) (by decide) (XS.istore X72.here hx rfl (hb hby at_158) rfl (l' := #[.val (.int x0), .val (.int x1), .val (.int x2), .val (.int x3), .val (.ref r1), .val (.int (nb.toInt32)), .val (.ref b2), .val (.int (0 : Int32)), .val (.int (1 : Int32)), .val (.int ps67), .val (.int (1 : Int32)), .val (.int (1 : Int32)), .unset]) rfl (XS.aload X72.here hx rfl (hb hby at_160) rfl rfl (XS.iloadN X72.here hx rfl (hb hby at_162) rfl (XS.bipush X72.here hx rfl (hb hby at_163) (XS.iand X72.here hx rfl (hb hby at_165) rfl (XS.iload X72.here hx rfl (hb hby at_166) rfl (XS.iload X72.here hx rfl (hb hby at_168) rfl k)))))))))) ?_
        obtain ⟨v73, T73, L73, X73, hQ73, st73⟩ := own_callSt (y := (⟨"com/example/concordia/concordia/wire/FrameReaderHasRemainingPinLaw", "step", "(Lcom/example/concordia/concordia/wire/FrameReader;III)I"⟩ : MethodName)) (argsL := [(.ref b2), (.int (x3 &&& (7 : Int32))), (.int ps67), (.int (nb.toInt32))]) (rest := []) X72 hx hZ hown (hw _ (List.mem_of_getElem? (i := 23) rfl)) (hw _ (List.mem_of_getElem? (i := 24) rfl)) (hw _ (List.mem_of_getElem? (i := 2) rfl)) (hw _ (List.mem_of_getElem? (i := 25) rfl)) (by decide) (own_mt5 l Z a0 hw b2 (x3 &&& (7 : Int32)) ps67 r1 nb T67.heap n0 Z67 ge_b2 (Ne.symm ne_r1_b2) G67_0 G67_1 G67_2 V1q_at68 EA1q_at69 hnb hp67) e72 (W := 0) (by decide) (by decide) (g := (mkF m 170 #[.val (.int x0), .val (.int x1), .val (.int x2), .val (.int x3), .val (.ref r1), .val (.int (nb.toInt32)), .val (.ref b2), .val (.int (0 : Int32)), .val (.int (1 : Int32)), .val (.int ps67), .val (.int (1 : Int32)), .val (.int (1 : Int32)), .unset] [(.int (nb.toInt32)), (.int ps67), (.int (x3 &&& (7 : Int32))), (.ref b2)])) rfl (by rw [hml]; rfl) (lenOf own_pd11 rfl) rfl (by show 2 * 0 + _ ≤ _; exact Nat.le_of_eq rfl) (hb hby at_170) (by decide) (by decide)
        obtain ⟨rfl, Nq73, K73q, G73_0, G73_1, G73_2⟩ := hQ73
        have N73 := Fr.app N72 Nq73
        have Z73 : n0 ≤ T73.heap.size := Nat.le_trans Z67 K73q.1
        have V1q_at74 := V1q_at68.keep K73q (ninS ne_r1_b2 nin0)
        have EA1q_at75 := EA1q_at69.keep K73q
        have G67_0_at76 := G67_0.keep K73q
        have hp73 := own_step_ok hnb hp67 (x3 &&& (7 : Int32))
        have hse73 := own_step_eq (x3 &&& (7 : Int32)) ps67 nb
        rw [hse73] at G73_2
        generalize hg73 : (own_step (x3 &&& (7 : Int32)) ps67 nb) = ps73 at G73_2 hp73 st73
        refine own_via (T' := T73) (g' := (mkF m 173 #[.val (.int x0), .val (.int x1), .val (.int x2), .val (.int x3), .val (.ref r1), .val (.int (nb.toInt32)), .val (.ref b2), .val (.int (0 : Int32)), .val (.int (1 : Int32)), .val (.int ps67), .val (.int (1 : Int32)), .val (.int (1 : Int32)), .unset] [(.int ps73)])) st73 ?_
        refine own_via (T' := T73) (g' := (mkF m 177 #[.val (.int x0), .val (.int x1), .val (.int x2), .val (.int x3), .val (.ref r1), .val (.int (nb.toInt32)), .val (.ref b2), .val (.int (0 : Int32)), .val (.int (1 : Int32)), .val (.int ps73), .val (.int (1 : Int32)), .val (.int (1 : Int32)), .unset] [(.ref b2)])) (fun t k => XS.istore X73.here hx rfl (hb hby at_173) rfl (l' := #[.val (.int x0), .val (.int x1), .val (.int x2), .val (.int x3), .val (.ref r1), .val (.int (nb.toInt32)), .val (.ref b2), .val (.int (0 : Int32)), .val (.int (1 : Int32)), .val (.int ps73), .val (.int (1 : Int32)), .val (.int (1 : Int32)), .unset]) rfl (XS.aload X73.here hx rfl (hb hby at_175) rfl rfl k)) ?_
        by_cases hc77 : ps73 < (nb.toInt32)
        · obtain ⟨v78, T78, L78, X78, hQ78, st78⟩ := own_callVi (y := (⟨"com/example/concordia/concordia/wire/FrameReader", "hasRemaining", "()Z"⟩ : MethodName)) (z := (⟨"com/example/concordia/concordia/wire/FrameReader", "hasRemaining", "()Z"⟩ : MethodName)) (a := b2) (C := "com/example/concordia/concordia/wire/FrameReader") (argsL := []) (rest := []) X73 hx hZ hown (hw _ (List.mem_of_getElem? (i := 16) rfl)) (hw _ (List.mem_of_getElem? (i := 17) rfl)) (notFace_of_selects (args := #[]) (mvT hZ (hw _ (List.mem_of_getElem? (i := 19) rfl)))) (hw _ (List.mem_of_getElem? (i := 19) rfl)) (hw _ (List.mem_of_getElem? (i := 18) rfl)) (hw _ (List.mem_of_getElem? (i := 7) rfl)) (hw _ (List.mem_of_getElem? (i := 20) rfl)) (by decide) G73_0 (own_mth1 l Z a0 hw b2 r1 ps73 nb T73.heap G73_1 G73_2 V1q_at74 hc77) rfl (W := 0) (by decide) (by decide) (g := (mkF m 177 #[.val (.int x0), .val (.int x1), .val (.int x2), .val (.int x3), .val (.ref r1), .val (.int (nb.toInt32)), .val (.ref b2), .val (.int (0 : Int32)), .val (.int (1 : Int32)), .val (.int ps73), .val (.int (1 : Int32)), .val (.int (1 : Int32)), .unset] [(.ref b2)])) rfl (by rw [hml]; rfl) (lenOf own_pd8 rfl) rfl (by show 2 * 0 + _ ≤ _; exact Nat.le_of_eq rfl) (hb hby at_177) (by decide) (by decide)
          obtain ⟨rfl, e78, rfl⟩ := hQ78
          have N78 := Fr.app N73 (Fr.nil n0)
          refine own_via (T' := T78) (g' := (mkF m 180 #[.val (.int x0), .val (.int x1), .val (.int x2), .val (.int x3), .val (.ref r1), .val (.int (nb.toInt32)), .val (.ref b2), .val (.int (0 : Int32)), .val (.int (1 : Int32)), .val (.int ps73), .val (.int (1 : Int32)), .val (.int (1 : Int32)), .unset] [(.int (1 : Int32))])) st78 ?_
          refine own_via (T' := T78) (g' := (mkF m 184 #[.val (.int x0), .val (.int x1), .val (.int x2), .val (.int x3), .val (.ref r1), .val (.int (nb.toInt32)), .val (.ref b2), .val (.int (0 : Int32)), .val (.int (1 : Int32)), .val (.int ps73), .val (.int (1 : Int32)), .val (.int (1 : Int32)), .val (.int (1 : Int32))] [(.int (1 : Int32))])) (fun t k => XS.istore X78.here hx rfl (hb hby at_180) rfl (l' := #[.val (.int x0), .val (.int x1), .val (.int x2), .val (.int x3), .val (.ref r1), .val (.int (nb.toInt32)), .val (.ref b2), .val (.int (0 : Int32)), .val (.int (1 : Int32)), .val (.int ps73), .val (.int (1 : Int32)), .val (.int (1 : Int32)), .val (.int (1 : Int32))]) rfl (XS.iload X78.here hx rfl (hb hby at_182) rfl k)) ?_
          refine own_via (T' := T78) (g' := (mkF m 193 #[.val (.int x0), .val (.int x1), .val (.int x2), .val (.int x3), .val (.ref r1), .val (.int (nb.toInt32)), .val (.ref b2), .val (.int (0 : Int32)), .val (.int (1 : Int32)), .val (.int ps73), .val (.int (1 : Int32)), .val (.int (1 : Int32)), .val (.int (1 : Int32))] [(.int (nb.toInt32)), (.int ps73), (.int (1 : Int32))])) (fun t k => XS.ifNo X78.here hx rfl (hb hby at_184) rfl ((if0 _ _).trans (feq (by decide : ¬ ((1 : Int32) = (0 : Int32)))).1) (XS.iload X78.here hx rfl (hb hby at_187) rfl (XS.iload X78.here hx rfl (hb hby at_189) rfl (XS.iload X78.here hx rfl (hb hby at_191) rfl k)))) ?_
          refine own_via (T' := T78) (g' := (mkF m 201 #[.val (.int x0), .val (.int x1), .val (.int x2), .val (.int x3), .val (.ref r1), .val (.int (nb.toInt32)), .val (.ref b2), .val (.int (0 : Int32)), .val (.int (1 : Int32)), .val (.int ps73), .val (.int (1 : Int32)), .val (.int (1 : Int32)), .val (.int (1 : Int32))] [(.int (1 : Int32)), (.int (1 : Int32))])) (fun t k => XS.icmpNo X78.here hx rfl (hb hby at_193) rfl (tlt hc77).2.1 (XS.iconst X78.here hx rfl (hb hby at_196) (XS.goto X78.here hx rfl (pc0 := 197) (pc' := 201) rfl (hb hby at_197) (by decide) (by decide) k))) ?_
          refine own_via (T' := T78) (g' := (mkF m 213 #[.val (.int x0), .val (.int x1), .val (.int x2), .val (.int x3), .val (.ref r1), .val (.int (nb.toInt32)), .val (.ref b2), .val (.int (0 : Int32)), .val (.int (1 : Int32)), .val (.int ps73), .val (.int (1 : Int32)), .val (.int (1 : Int32)), .val (.int (1 : Int32))] [(.int (1 : Int32))])) (fun t k => XS.icmpNo X78.here hx rfl (hb hby at_201) rfl (teq (by decide : (1 : Int32) = (1 : Int32))).2 (XS.iconst X78.here hx rfl (hb hby at_204) (XS.goto X78.here hx rfl (pc0 := 205) (pc' := 209) rfl (hb hby at_205) (by decide) (by decide) (XS.istore X78.here hx rfl (hb hby at_209) rfl (l' := #[.val (.int x0), .val (.int x1), .val (.int x2), .val (.int x3), .val (.ref r1), .val (.int (nb.toInt32)), .val (.ref b2), .val (.int (0 : Int32)), .val (.int (1 : Int32)), .val (.int ps73), .val (.int (1 : Int32)), .val (.int (1 : Int32)), .val (.int (1 : Int32))]) rfl (XS.iload X78.here hx rfl (hb hby at_211) rfl k))))) ?_
          refine own_retN X78 hx hlk (ty := .boolean) hret (by simp) (hb hby at_213) (by decide) (by decide) ?_
          exact ⟨by rw [own_f0] <;> rfl, N78⟩
        · obtain ⟨v79, T79, L79, X79, hQ79, st79⟩ := own_callVi (y := (⟨"com/example/concordia/concordia/wire/FrameReader", "hasRemaining", "()Z"⟩ : MethodName)) (z := (⟨"com/example/concordia/concordia/wire/FrameReader", "hasRemaining", "()Z"⟩ : MethodName)) (a := b2) (C := "com/example/concordia/concordia/wire/FrameReader") (argsL := []) (rest := []) X73 hx hZ hown (hw _ (List.mem_of_getElem? (i := 16) rfl)) (hw _ (List.mem_of_getElem? (i := 17) rfl)) (notFace_of_selects (args := #[]) (mvT hZ (hw _ (List.mem_of_getElem? (i := 19) rfl)))) (hw _ (List.mem_of_getElem? (i := 19) rfl)) (hw _ (List.mem_of_getElem? (i := 18) rfl)) (hw _ (List.mem_of_getElem? (i := 7) rfl)) (hw _ (List.mem_of_getElem? (i := 20) rfl)) (by decide) G73_0 (own_mth0 l Z a0 hw b2 r1 ps73 nb T73.heap G73_1 G73_2 V1q_at74 hc77) rfl (W := 0) (by decide) (by decide) (g := (mkF m 177 #[.val (.int x0), .val (.int x1), .val (.int x2), .val (.int x3), .val (.ref r1), .val (.int (nb.toInt32)), .val (.ref b2), .val (.int (0 : Int32)), .val (.int (1 : Int32)), .val (.int ps73), .val (.int (1 : Int32)), .val (.int (1 : Int32)), .unset] [(.ref b2)])) rfl (by rw [hml]; rfl) (lenOf own_pd8 rfl) rfl (by show 2 * 0 + _ ≤ _; exact Nat.le_of_eq rfl) (hb hby at_177) (by decide) (by decide)
          obtain ⟨rfl, e79, rfl⟩ := hQ79
          have N79 := Fr.app N73 (Fr.nil n0)
          refine own_via (T' := T79) (g' := (mkF m 180 #[.val (.int x0), .val (.int x1), .val (.int x2), .val (.int x3), .val (.ref r1), .val (.int (nb.toInt32)), .val (.ref b2), .val (.int (0 : Int32)), .val (.int (1 : Int32)), .val (.int ps73), .val (.int (1 : Int32)), .val (.int (1 : Int32)), .unset] [(.int (0 : Int32))])) st79 ?_
          refine own_via (T' := T79) (g' := (mkF m 184 #[.val (.int x0), .val (.int x1), .val (.int x2), .val (.int x3), .val (.ref r1), .val (.int (nb.toInt32)), .val (.ref b2), .val (.int (0 : Int32)), .val (.int (1 : Int32)), .val (.int ps73), .val (.int (1 : Int32)), .val (.int (1 : Int32)), .val (.int (0 : Int32))] [(.int (1 : Int32))])) (fun t k => XS.istore X79.here hx rfl (hb hby at_180) rfl (l' := #[.val (.int x0), .val (.int x1), .val (.int x2), .val (.int x3), .val (.ref r1), .val (.int (nb.toInt32)), .val (.ref b2), .val (.int (0 : Int32)), .val (.int (1 : Int32)), .val (.int ps73), .val (.int (1 : Int32)), .val (.int (1 : Int32)), .val (.int (0 : Int32))]) rfl (XS.iload X79.here hx rfl (hb hby at_182) rfl k)) ?_
          refine own_via (T' := T79) (g' := (mkF m 193 #[.val (.int x0), .val (.int x1), .val (.int x2), .val (.int x3), .val (.ref r1), .val (.int (nb.toInt32)), .val (.ref b2), .val (.int (0 : Int32)), .val (.int (1 : Int32)), .val (.int ps73), .val (.int (1 : Int32)), .val (.int (1 : Int32)), .val (.int (0 : Int32))] [(.int (nb.toInt32)), (.int ps73), (.int (0 : Int32))])) (fun t k => XS.ifNo X79.here hx rfl (hb hby at_184) rfl ((if0 _ _).trans (feq (by decide : ¬ ((1 : Int32) = (0 : Int32)))).1) (XS.iload X79.here hx rfl (hb hby at_187) rfl (XS.iload X79.here hx rfl (hb hby at_189) rfl (XS.iload X79.here hx rfl (hb hby at_191) rfl k)))) ?_
          refine own_via (T' := T79) (g' := (mkF m 201 #[.val (.int x0), .val (.int x1), .val (.int x2), .val (.int x3), .val (.ref r1), .val (.int (nb.toInt32)), .val (.ref b2), .val (.int (0 : Int32)), .val (.int (1 : Int32)), .val (.int ps73), .val (.int (1 : Int32)), .val (.int (1 : Int32)), .val (.int (0 : Int32))] [(.int (0 : Int32)), (.int (0 : Int32))])) (fun t k => XS.icmpYes X79.here hx rfl (pc0 := 193) (pc' := 200) rfl (hb hby at_193) rfl (flt hc77).2.1 (by decide) (by decide) (XS.iconst X79.here hx rfl (hb hby at_200) k)) ?_
          refine own_via (T' := T79) (g' := (mkF m 213 #[.val (.int x0), .val (.int x1), .val (.int x2), .val (.int x3), .val (.ref r1), .val (.int (nb.toInt32)), .val (.ref b2), .val (.int (0 : Int32)), .val (.int (1 : Int32)), .val (.int ps73), .val (.int (1 : Int32)), .val (.int (1 : Int32)), .val (.int (0 : Int32))] [(.int (1 : Int32))])) (fun t k => XS.icmpNo X79.here hx rfl (hb hby at_201) rfl (teq (by decide : (0 : Int32) = (0 : Int32))).2 (XS.iconst X79.here hx rfl (hb hby at_204) (XS.goto X79.here hx rfl (pc0 := 205) (pc' := 209) rfl (hb hby at_205) (by decide) (by decide) (XS.istore X79.here hx rfl (hb hby at_209) rfl (l' := #[.val (.int x0), .val (.int x1), .val (.int x2), .val (.int x3), .val (.ref r1), .val (.int (nb.toInt32)), .val (.ref b2), .val (.int (0 : Int32)), .val (.int (1 : Int32)), .val (.int ps73), .val (.int (1 : Int32)), .val (.int (1 : Int32)), .val (.int (0 : Int32))]) rfl (XS.iload X79.here hx rfl (hb hby at_211) rfl k))))) ?_
          refine own_retN X79 hx hlk (ty := .boolean) hret (by simp) (hb hby at_213) (by decide) (by decide) ?_
          exact ⟨by rw [own_f0] <;> rfl, N79⟩
      · obtain ⟨v80, T80, L80, X80, hQ80, st80⟩ := own_callVi (y := (⟨"com/example/concordia/concordia/wire/FrameReader", "hasRemaining", "()Z"⟩ : MethodName)) (z := (⟨"com/example/concordia/concordia/wire/FrameReader", "hasRemaining", "()Z"⟩ : MethodName)) (a := b2) (C := "com/example/concordia/concordia/wire/FrameReader") (argsL := []) (rest := []) X67 hx hZ hown (hw _ (List.mem_of_getElem? (i := 16) rfl)) (hw _ (List.mem_of_getElem? (i := 17) rfl)) (notFace_of_selects (args := #[]) (mvT hZ (hw _ (List.mem_of_getElem? (i := 19) rfl)))) (hw _ (List.mem_of_getElem? (i := 19) rfl)) (hw _ (List.mem_of_getElem? (i := 18) rfl)) (hw _ (List.mem_of_getElem? (i := 7) rfl)) (hw _ (List.mem_of_getElem? (i := 20) rfl)) (by decide) G67_0 (own_mth0 l Z a0 hw b2 r1 ps67 nb T67.heap G67_1 G67_2 V1q_at68 hc71) rfl (W := 0) (by decide) (by decide) (g := (mkF m 126 #[.val (.int x0), .val (.int x1), .val (.int x2), .val (.int x3), .val (.ref r1), .val (.int (nb.toInt32)), .val (.ref b2), .val (.int (0 : Int32)), .val (.int (1 : Int32)), .val (.int ps67), .val (.int (1 : Int32)), .unset, .unset] [(.ref b2)])) rfl (by rw [hml]; rfl) (lenOf own_pd8 rfl) rfl (by show 2 * 0 + _ ≤ _; exact Nat.le_of_eq rfl) (hb hby at_126) (by decide) (by decide)
        obtain ⟨rfl, e80, rfl⟩ := hQ80
        have N80 := Fr.app N67 (Fr.nil n0)
        refine own_via (T' := T80) (g' := (mkF m 129 #[.val (.int x0), .val (.int x1), .val (.int x2), .val (.int x3), .val (.ref r1), .val (.int (nb.toInt32)), .val (.ref b2), .val (.int (0 : Int32)), .val (.int (1 : Int32)), .val (.int ps67), .val (.int (1 : Int32)), .unset, .unset] [(.int (0 : Int32))])) st80 ?_
        refine own_via (T' := T80) (g' := (mkF m 133 #[.val (.int x0), .val (.int x1), .val (.int x2), .val (.int x3), .val (.ref r1), .val (.int (nb.toInt32)), .val (.ref b2), .val (.int (0 : Int32)), .val (.int (1 : Int32)), .val (.int ps67), .val (.int (1 : Int32)), .val (.int (0 : Int32)), .unset] [(.int (1 : Int32))])) (fun t k => XS.istore X80.here hx rfl (hb hby at_129) rfl (l' := #[.val (.int x0), .val (.int x1), .val (.int x2), .val (.int x3), .val (.ref r1), .val (.int (nb.toInt32)), .val (.ref b2), .val (.int (0 : Int32)), .val (.int (1 : Int32)), .val (.int ps67), .val (.int (1 : Int32)), .val (.int (0 : Int32)), .unset]) rfl (XS.iload X80.here hx rfl (hb hby at_131) rfl k)) ?_
        refine own_via (T' := T80) (g' := (mkF m 142 #[.val (.int x0), .val (.int x1), .val (.int x2), .val (.int x3), .val (.ref r1), .val (.int (nb.toInt32)), .val (.ref b2), .val (.int (0 : Int32)), .val (.int (1 : Int32)), .val (.int ps67), .val (.int (1 : Int32)), .val (.int (0 : Int32)), .unset] [(.int (nb.toInt32)), (.int ps67), (.int (0 : Int32))])) (fun t k => XS.ifNo X80.here hx rfl (hb hby at_133) rfl ((if0 _ _).trans (feq (by decide : ¬ ((1 : Int32) = (0 : Int32)))).1) (XS.iload X80.here hx rfl (hb hby at_136) rfl (XS.iload X80.here hx rfl (hb hby at_138) rfl (XS.iload X80.here hx rfl (hb hby at_140) rfl k)))) ?_
        refine own_via (T' := T80) (g' := (mkF m 150 #[.val (.int x0), .val (.int x1), .val (.int x2), .val (.int x3), .val (.ref r1), .val (.int (nb.toInt32)), .val (.ref b2), .val (.int (0 : Int32)), .val (.int (1 : Int32)), .val (.int ps67), .val (.int (1 : Int32)), .val (.int (0 : Int32)), .unset] [(.int (0 : Int32)), (.int (0 : Int32))])) (fun t k => XS.icmpYes X80.here hx rfl (pc0 := 142) (pc' := 149) rfl (hb hby at_142) rfl (flt hc71).2.1 (by decide) (by decide) (XS.iconst X80.here hx rfl (hb hby at_149) k)) ?_
        refine own_via (T' := T80) (g' := (mkF m 170 #[.val (.int x0), .val (.int x1), .val (.int x2), .val (.int x3), .val (.ref r1), .val (.int (nb.toInt32)), .val (.ref b2), .val (.int (0 : Int32)), .val (.int (1 : Int32)), .val (.int ps67), .val (.int (1 : Int32)), .val (.int (0 : Int32)), .unset] [(.int (nb.toInt32)), (.int ps67), (.int (x3 &&& (7 : Int32))), (.ref b2)])) (fun t k => XS.icmpNo X80.here hx rfl (hb hby at_150) rfl (teq (by decide : (0 : Int32) = (0 : Int32))).2 (XS.iconst X80.here hx rfl (hb hby at_153) (XS.goto X80.here hx rfl (pc0 := 154) (pc' := 158) rfl (hb hby at_154) (by decide) (by decide) (XS.istore X80.here hx rfl (hb hby at_158) rfl (l' := #[.val (.int x0), .val (.int x1), .val (.int x2), .val (.int x3), .val (.ref r1), .val (.int (nb.toInt32)), .val (.ref b2), .val (.int (0 : Int32)), .val (.int (1 : Int32)), .val (.int ps67), .val (.int (1 : Int32)), .val (.int (0 : Int32)), .unset]) rfl (XS.aload X80.here hx rfl (hb hby at_160) rfl rfl (XS.iloadN X80.here hx rfl (hb hby at_162) rfl (XS.bipush X80.here hx rfl (hb hby at_163) (XS.iand X80.here hx rfl (hb hby at_165) rfl (XS.iload X80.here hx rfl (hb hby at_166) rfl (XS.iload X80.here hx rfl (hb hby at_168) rfl k)))))))))) ?_
        obtain ⟨v81, T81, L81, X81, hQ81, st81⟩ := own_callSt (y := (⟨"com/example/concordia/concordia/wire/FrameReaderHasRemainingPinLaw", "step", "(Lcom/example/concordia/concordia/wire/FrameReader;III)I"⟩ : MethodName)) (argsL := [(.ref b2), (.int (x3 &&& (7 : Int32))), (.int ps67), (.int (nb.toInt32))]) (rest := []) X80 hx hZ hown (hw _ (List.mem_of_getElem? (i := 23) rfl)) (hw _ (List.mem_of_getElem? (i := 24) rfl)) (hw _ (List.mem_of_getElem? (i := 2) rfl)) (hw _ (List.mem_of_getElem? (i := 25) rfl)) (by decide) (own_mt5 l Z a0 hw b2 (x3 &&& (7 : Int32)) ps67 r1 nb T67.heap n0 Z67 ge_b2 (Ne.symm ne_r1_b2) G67_0 G67_1 G67_2 V1q_at68 EA1q_at69 hnb hp67) e80 (W := 0) (by decide) (by decide) (g := (mkF m 170 #[.val (.int x0), .val (.int x1), .val (.int x2), .val (.int x3), .val (.ref r1), .val (.int (nb.toInt32)), .val (.ref b2), .val (.int (0 : Int32)), .val (.int (1 : Int32)), .val (.int ps67), .val (.int (1 : Int32)), .val (.int (0 : Int32)), .unset] [(.int (nb.toInt32)), (.int ps67), (.int (x3 &&& (7 : Int32))), (.ref b2)])) rfl (by rw [hml]; rfl) (lenOf own_pd11 rfl) rfl (by show 2 * 0 + _ ≤ _; exact Nat.le_of_eq rfl) (hb hby at_170) (by decide) (by decide)
        obtain ⟨rfl, Nq81, K81q, G81_0, G81_1, G81_2⟩ := hQ81
        have N81 := Fr.app N80 Nq81
        have Z81 : n0 ≤ T81.heap.size := Nat.le_trans Z67 K81q.1
        have V1q_at82 := V1q_at68.keep K81q (ninS ne_r1_b2 nin0)
        have EA1q_at83 := EA1q_at69.keep K81q
        have G67_0_at84 := G67_0.keep K81q
        have hp81 := own_step_ok hnb hp67 (x3 &&& (7 : Int32))
        have hse81 := own_step_eq (x3 &&& (7 : Int32)) ps67 nb
        rw [hse81] at G81_2
        generalize hg81 : (own_step (x3 &&& (7 : Int32)) ps67 nb) = ps81 at G81_2 hp81 st81
        refine own_via (T' := T81) (g' := (mkF m 173 #[.val (.int x0), .val (.int x1), .val (.int x2), .val (.int x3), .val (.ref r1), .val (.int (nb.toInt32)), .val (.ref b2), .val (.int (0 : Int32)), .val (.int (1 : Int32)), .val (.int ps67), .val (.int (1 : Int32)), .val (.int (0 : Int32)), .unset] [(.int ps81)])) st81 ?_
        refine own_via (T' := T81) (g' := (mkF m 177 #[.val (.int x0), .val (.int x1), .val (.int x2), .val (.int x3), .val (.ref r1), .val (.int (nb.toInt32)), .val (.ref b2), .val (.int (0 : Int32)), .val (.int (1 : Int32)), .val (.int ps81), .val (.int (1 : Int32)), .val (.int (0 : Int32)), .unset] [(.ref b2)])) (fun t k => XS.istore X81.here hx rfl (hb hby at_173) rfl (l' := #[.val (.int x0), .val (.int x1), .val (.int x2), .val (.int x3), .val (.ref r1), .val (.int (nb.toInt32)), .val (.ref b2), .val (.int (0 : Int32)), .val (.int (1 : Int32)), .val (.int ps81), .val (.int (1 : Int32)), .val (.int (0 : Int32)), .unset]) rfl (XS.aload X81.here hx rfl (hb hby at_175) rfl rfl k)) ?_
        by_cases hc85 : ps81 < (nb.toInt32)
        · obtain ⟨v86, T86, L86, X86, hQ86, st86⟩ := own_callVi (y := (⟨"com/example/concordia/concordia/wire/FrameReader", "hasRemaining", "()Z"⟩ : MethodName)) (z := (⟨"com/example/concordia/concordia/wire/FrameReader", "hasRemaining", "()Z"⟩ : MethodName)) (a := b2) (C := "com/example/concordia/concordia/wire/FrameReader") (argsL := []) (rest := []) X81 hx hZ hown (hw _ (List.mem_of_getElem? (i := 16) rfl)) (hw _ (List.mem_of_getElem? (i := 17) rfl)) (notFace_of_selects (args := #[]) (mvT hZ (hw _ (List.mem_of_getElem? (i := 19) rfl)))) (hw _ (List.mem_of_getElem? (i := 19) rfl)) (hw _ (List.mem_of_getElem? (i := 18) rfl)) (hw _ (List.mem_of_getElem? (i := 7) rfl)) (hw _ (List.mem_of_getElem? (i := 20) rfl)) (by decide) G81_0 (own_mth1 l Z a0 hw b2 r1 ps81 nb T81.heap G81_1 G81_2 V1q_at82 hc85) rfl (W := 0) (by decide) (by decide) (g := (mkF m 177 #[.val (.int x0), .val (.int x1), .val (.int x2), .val (.int x3), .val (.ref r1), .val (.int (nb.toInt32)), .val (.ref b2), .val (.int (0 : Int32)), .val (.int (1 : Int32)), .val (.int ps81), .val (.int (1 : Int32)), .val (.int (0 : Int32)), .unset] [(.ref b2)])) rfl (by rw [hml]; rfl) (lenOf own_pd8 rfl) rfl (by show 2 * 0 + _ ≤ _; exact Nat.le_of_eq rfl) (hb hby at_177) (by decide) (by decide)
          obtain ⟨rfl, e86, rfl⟩ := hQ86
          have N86 := Fr.app N81 (Fr.nil n0)
          refine own_via (T' := T86) (g' := (mkF m 180 #[.val (.int x0), .val (.int x1), .val (.int x2), .val (.int x3), .val (.ref r1), .val (.int (nb.toInt32)), .val (.ref b2), .val (.int (0 : Int32)), .val (.int (1 : Int32)), .val (.int ps81), .val (.int (1 : Int32)), .val (.int (0 : Int32)), .unset] [(.int (1 : Int32))])) st86 ?_
          refine own_via (T' := T86) (g' := (mkF m 184 #[.val (.int x0), .val (.int x1), .val (.int x2), .val (.int x3), .val (.ref r1), .val (.int (nb.toInt32)), .val (.ref b2), .val (.int (0 : Int32)), .val (.int (1 : Int32)), .val (.int ps81), .val (.int (1 : Int32)), .val (.int (0 : Int32)), .val (.int (1 : Int32))] [(.int (1 : Int32))])) (fun t k => XS.istore X86.here hx rfl (hb hby at_180) rfl (l' := #[.val (.int x0), .val (.int x1), .val (.int x2), .val (.int x3), .val (.ref r1), .val (.int (nb.toInt32)), .val (.ref b2), .val (.int (0 : Int32)), .val (.int (1 : Int32)), .val (.int ps81), .val (.int (1 : Int32)), .val (.int (0 : Int32)), .val (.int (1 : Int32))]) rfl (XS.iload X86.here hx rfl (hb hby at_182) rfl k)) ?_
          refine own_via (T' := T86) (g' := (mkF m 193 #[.val (.int x0), .val (.int x1), .val (.int x2), .val (.int x3), .val (.ref r1), .val (.int (nb.toInt32)), .val (.ref b2), .val (.int (0 : Int32)), .val (.int (1 : Int32)), .val (.int ps81), .val (.int (1 : Int32)), .val (.int (0 : Int32)), .val (.int (1 : Int32))] [(.int (nb.toInt32)), (.int ps81), (.int (1 : Int32))])) (fun t k => XS.ifNo X86.here hx rfl (hb hby at_184) rfl ((if0 _ _).trans (feq (by decide : ¬ ((1 : Int32) = (0 : Int32)))).1) (XS.iload X86.here hx rfl (hb hby at_187) rfl (XS.iload X86.here hx rfl (hb hby at_189) rfl (XS.iload X86.here hx rfl (hb hby at_191) rfl k)))) ?_
          refine own_via (T' := T86) (g' := (mkF m 201 #[.val (.int x0), .val (.int x1), .val (.int x2), .val (.int x3), .val (.ref r1), .val (.int (nb.toInt32)), .val (.ref b2), .val (.int (0 : Int32)), .val (.int (1 : Int32)), .val (.int ps81), .val (.int (1 : Int32)), .val (.int (0 : Int32)), .val (.int (1 : Int32))] [(.int (1 : Int32)), (.int (1 : Int32))])) (fun t k => XS.icmpNo X86.here hx rfl (hb hby at_193) rfl (tlt hc85).2.1 (XS.iconst X86.here hx rfl (hb hby at_196) (XS.goto X86.here hx rfl (pc0 := 197) (pc' := 201) rfl (hb hby at_197) (by decide) (by decide) k))) ?_
          refine own_via (T' := T86) (g' := (mkF m 213 #[.val (.int x0), .val (.int x1), .val (.int x2), .val (.int x3), .val (.ref r1), .val (.int (nb.toInt32)), .val (.ref b2), .val (.int (0 : Int32)), .val (.int (1 : Int32)), .val (.int ps81), .val (.int (1 : Int32)), .val (.int (0 : Int32)), .val (.int (1 : Int32))] [(.int (1 : Int32))])) (fun t k => XS.icmpNo X86.here hx rfl (hb hby at_201) rfl (teq (by decide : (1 : Int32) = (1 : Int32))).2 (XS.iconst X86.here hx rfl (hb hby at_204) (XS.goto X86.here hx rfl (pc0 := 205) (pc' := 209) rfl (hb hby at_205) (by decide) (by decide) (XS.istore X86.here hx rfl (hb hby at_209) rfl (l' := #[.val (.int x0), .val (.int x1), .val (.int x2), .val (.int x3), .val (.ref r1), .val (.int (nb.toInt32)), .val (.ref b2), .val (.int (0 : Int32)), .val (.int (1 : Int32)), .val (.int ps81), .val (.int (1 : Int32)), .val (.int (0 : Int32)), .val (.int (1 : Int32))]) rfl (XS.iload X86.here hx rfl (hb hby at_211) rfl k))))) ?_
          refine own_retN X86 hx hlk (ty := .boolean) hret (by simp) (hb hby at_213) (by decide) (by decide) ?_
          exact ⟨by rw [own_f0] <;> rfl, N86⟩
        · obtain ⟨v87, T87, L87, X87, hQ87, st87⟩ := own_callVi (y := (⟨"com/example/concordia/concordia/wire/FrameReader", "hasRemaining", "()Z"⟩ : MethodName)) (z := (⟨"com/example/concordia/concordia/wire/FrameReader", "hasRemaining", "()Z"⟩ : MethodName)) (a := b2) (C := "com/example/concordia/concordia/wire/FrameReader") (argsL := []) (rest := []) X81 hx hZ hown (hw _ (List.mem_of_getElem? (i := 16) rfl)) (hw _ (List.mem_of_getElem? (i := 17) rfl)) (notFace_of_selects (args := #[]) (mvT hZ (hw _ (List.mem_of_getElem? (i := 19) rfl)))) (hw _ (List.mem_of_getElem? (i := 19) rfl)) (hw _ (List.mem_of_getElem? (i := 18) rfl)) (hw _ (List.mem_of_getElem? (i := 7) rfl)) (hw _ (List.mem_of_getElem? (i := 20) rfl)) (by decide) G81_0 (own_mth0 l Z a0 hw b2 r1 ps81 nb T81.heap G81_1 G81_2 V1q_at82 hc85) rfl (W := 0) (by decide) (by decide) (g := (mkF m 177 #[.val (.int x0), .val (.int x1), .val (.int x2), .val (.int x3), .val (.ref r1), .val (.int (nb.toInt32)), .val (.ref b2), .val (.int (0 : Int32)), .val (.int (1 : Int32)), .val (.int ps81), .val (.int (1 : Int32)), .val (.int (0 : Int32)), .unset] [(.ref b2)])) rfl (by rw [hml]; rfl) (lenOf own_pd8 rfl) rfl (by show 2 * 0 + _ ≤ _; exact Nat.le_of_eq rfl) (hb hby at_177) (by decide) (by decide)
          obtain ⟨rfl, e87, rfl⟩ := hQ87
          have N87 := Fr.app N81 (Fr.nil n0)
          refine own_via (T' := T87) (g' := (mkF m 180 #[.val (.int x0), .val (.int x1), .val (.int x2), .val (.int x3), .val (.ref r1), .val (.int (nb.toInt32)), .val (.ref b2), .val (.int (0 : Int32)), .val (.int (1 : Int32)), .val (.int ps81), .val (.int (1 : Int32)), .val (.int (0 : Int32)), .unset] [(.int (0 : Int32))])) st87 ?_
          refine own_via (T' := T87) (g' := (mkF m 184 #[.val (.int x0), .val (.int x1), .val (.int x2), .val (.int x3), .val (.ref r1), .val (.int (nb.toInt32)), .val (.ref b2), .val (.int (0 : Int32)), .val (.int (1 : Int32)), .val (.int ps81), .val (.int (1 : Int32)), .val (.int (0 : Int32)), .val (.int (0 : Int32))] [(.int (1 : Int32))])) (fun t k => XS.istore X87.here hx rfl (hb hby at_180) rfl (l' := #[.val (.int x0), .val (.int x1), .val (.int x2), .val (.int x3), .val (.ref r1), .val (.int (nb.toInt32)), .val (.ref b2), .val (.int (0 : Int32)), .val (.int (1 : Int32)), .val (.int ps81), .val (.int (1 : Int32)), .val (.int (0 : Int32)), .val (.int (0 : Int32))]) rfl (XS.iload X87.here hx rfl (hb hby at_182) rfl k)) ?_
          refine own_via (T' := T87) (g' := (mkF m 193 #[.val (.int x0), .val (.int x1), .val (.int x2), .val (.int x3), .val (.ref r1), .val (.int (nb.toInt32)), .val (.ref b2), .val (.int (0 : Int32)), .val (.int (1 : Int32)), .val (.int ps81), .val (.int (1 : Int32)), .val (.int (0 : Int32)), .val (.int (0 : Int32))] [(.int (nb.toInt32)), (.int ps81), (.int (0 : Int32))])) (fun t k => XS.ifNo X87.here hx rfl (hb hby at_184) rfl ((if0 _ _).trans (feq (by decide : ¬ ((1 : Int32) = (0 : Int32)))).1) (XS.iload X87.here hx rfl (hb hby at_187) rfl (XS.iload X87.here hx rfl (hb hby at_189) rfl (XS.iload X87.here hx rfl (hb hby at_191) rfl k)))) ?_
          refine own_via (T' := T87) (g' := (mkF m 201 #[.val (.int x0), .val (.int x1), .val (.int x2), .val (.int x3), .val (.ref r1), .val (.int (nb.toInt32)), .val (.ref b2), .val (.int (0 : Int32)), .val (.int (1 : Int32)), .val (.int ps81), .val (.int (1 : Int32)), .val (.int (0 : Int32)), .val (.int (0 : Int32))] [(.int (0 : Int32)), (.int (0 : Int32))])) (fun t k => XS.icmpYes X87.here hx rfl (pc0 := 193) (pc' := 200) rfl (hb hby at_193) rfl (flt hc85).2.1 (by decide) (by decide) (XS.iconst X87.here hx rfl (hb hby at_200) k)) ?_
          refine own_via (T' := T87) (g' := (mkF m 213 #[.val (.int x0), .val (.int x1), .val (.int x2), .val (.int x3), .val (.ref r1), .val (.int (nb.toInt32)), .val (.ref b2), .val (.int (0 : Int32)), .val (.int (1 : Int32)), .val (.int ps81), .val (.int (1 : Int32)), .val (.int (0 : Int32)), .val (.int (0 : Int32))] [(.int (1 : Int32))])) (fun t k => XS.icmpNo X87.here hx rfl (hb hby at_201) rfl (teq (by decide : (0 : Int32) = (0 : Int32))).2 (XS.iconst X87.here hx rfl (hb hby at_204) (XS.goto X87.here hx rfl (pc0 := 205) (pc' := 209) rfl (hb hby at_205) (by decide) (by decide) (XS.istore X87.here hx rfl (hb hby at_209) rfl (l' := #[.val (.int x0), .val (.int x1), .val (.int x2), .val (.int x3), .val (.ref r1), .val (.int (nb.toInt32)), .val (.ref b2), .val (.int (0 : Int32)), .val (.int (1 : Int32)), .val (.int ps81), .val (.int (1 : Int32)), .val (.int (0 : Int32)), .val (.int (0 : Int32))]) rfl (XS.iload X87.here hx rfl (hb hby at_211) rfl k))))) ?_
          refine own_retN X87 hx hlk (ty := .boolean) hret (by simp) (hb hby at_213) (by decide) (by decide) ?_
          exact ⟨by rw [own_f0] <;> rfl, N87⟩
    · obtain ⟨v88, T88, L88, X88, hQ88, st88⟩ := own_callVi (y := (⟨"com/example/concordia/concordia/wire/FrameReader", "hasRemaining", "()Z"⟩ : MethodName)) (z := (⟨"com/example/concordia/concordia/wire/FrameReader", "hasRemaining", "()Z"⟩ : MethodName)) (a := b2) (C := "com/example/concordia/concordia/wire/FrameReader") (argsL := []) (rest := []) X61 hx hZ hown (hw _ (List.mem_of_getElem? (i := 16) rfl)) (hw _ (List.mem_of_getElem? (i := 17) rfl)) (notFace_of_selects (args := #[]) (mvT hZ (hw _ (List.mem_of_getElem? (i := 19) rfl)))) (hw _ (List.mem_of_getElem? (i := 19) rfl)) (hw _ (List.mem_of_getElem? (i := 18) rfl)) (hw _ (List.mem_of_getElem? (i := 7) rfl)) (hw _ (List.mem_of_getElem? (i := 20) rfl)) (by decide) G61_0 (own_mth0 l Z a0 hw b2 r1 ps61 nb T61.heap G61_1 G61_2 V1q_at62 hc65) rfl (W := 0) (by decide) (by decide) (g := (mkF m 75 #[.val (.int x0), .val (.int x1), .val (.int x2), .val (.int x3), .val (.ref r1), .val (.int (nb.toInt32)), .val (.ref b2), .val (.int (0 : Int32)), .val (.int (1 : Int32)), .val (.int ps61), .unset, .unset, .unset] [(.ref b2)])) rfl (by rw [hml]; rfl) (lenOf own_pd8 rfl) rfl (by show 2 * 0 + _ ≤ _; exact Nat.le_of_eq rfl) (hb hby at_75) (by decide) (by decide)
      obtain ⟨rfl, e88, rfl⟩ := hQ88
      have N88 := Fr.app N61 (Fr.nil n0)
      refine own_via (T' := T88) (g' := (mkF m 78 #[.val (.int x0), .val (.int x1), .val (.int x2), .val (.int x3), .val (.ref r1), .val (.int (nb.toInt32)), .val (.ref b2), .val (.int (0 : Int32)), .val (.int (1 : Int32)), .val (.int ps61), .unset, .unset, .unset] [(.int (0 : Int32))])) st88 ?_
      refine own_via (T' := T88) (g' := (mkF m 82 #[.val (.int x0), .val (.int x1), .val (.int x2), .val (.int x3), .val (.ref r1), .val (.int (nb.toInt32)), .val (.ref b2), .val (.int (0 : Int32)), .val (.int (1 : Int32)), .val (.int ps61), .val (.int (0 : Int32)), .unset, .unset] [(.int (1 : Int32))])) (fun t k => XS.istore X88.here hx rfl (hb hby at_78) rfl (l' := #[.val (.int x0), .val (.int x1), .val (.int x2), .val (.int x3), .val (.ref r1), .val (.int (nb.toInt32)), .val (.ref b2), .val (.int (0 : Int32)), .val (.int (1 : Int32)), .val (.int ps61), .val (.int (0 : Int32)), .unset, .unset]) rfl (XS.iload X88.here hx rfl (hb hby at_80) rfl k)) ?_
      refine own_via (T' := T88) (g' := (mkF m 91 #[.val (.int x0), .val (.int x1), .val (.int x2), .val (.int x3), .val (.ref r1), .val (.int (nb.toInt32)), .val (.ref b2), .val (.int (0 : Int32)), .val (.int (1 : Int32)), .val (.int ps61), .val (.int (0 : Int32)), .unset, .unset] [(.int (nb.toInt32)), (.int ps61), (.int (0 : Int32))])) (fun t k => XS.ifNo X88.here hx rfl (hb hby at_82) rfl ((if0 _ _).trans (feq (by decide : ¬ ((1 : Int32) = (0 : Int32)))).1) (XS.iload X88.here hx rfl (hb hby at_85) rfl (XS.iload X88.here hx rfl (hb hby at_87) rfl (XS.iload X88.here hx rfl (hb hby at_89) rfl k)))) ?_
      refine own_via (T' := T88) (g' := (mkF m 99 #[.val (.int x0), .val (.int x1), .val (.int x2), .val (.int x3), .val (.ref r1), .val (.int (nb.toInt32)), .val (.ref b2), .val (.int (0 : Int32)), .val (.int (1 : Int32)), .val (.int ps61), .val (.int (0 : Int32)), .unset, .unset] [(.int (0 : Int32)), (.int (0 : Int32))])) (fun t k => XS.icmpYes X88.here hx rfl (pc0 := 91) (pc' := 98) rfl (hb hby at_91) rfl (flt hc65).2.1 (by decide) (by decide) (XS.iconst X88.here hx rfl (hb hby at_98) k)) ?_
      refine own_via (T' := T88) (g' := (mkF m 119 #[.val (.int x0), .val (.int x1), .val (.int x2), .val (.int x3), .val (.ref r1), .val (.int (nb.toInt32)), .val (.ref b2), .val (.int (0 : Int32)), .val (.int (1 : Int32)), .val (.int ps61), .val (.int (0 : Int32)), .unset, .unset] [(.int (nb.toInt32)), (.int ps61), (.int (x2 &&& (7 : Int32))), (.ref b2)])) (fun t k => XS.icmpNo X88.here hx rfl (hb hby at_99) rfl (teq (by decide : (0 : Int32) = (0 : Int32))).2 (XS.iconst X88.here hx rfl (hb hby at_102) (XS.goto X88.here hx rfl (pc0 := 103) (pc' := 107) rfl (hb hby at_103) (by decide) (by decide) (XS.istore X88.here hx rfl (hb hby at_107) rfl (l' := #[.val (.int x0), .val (.int x1), .val (.int x2), .val (.int x3), .val (.ref r1), .val (.int (nb.toInt32)), .val (.ref b2), .val (.int (0 : Int32)), .val (.int (1 : Int32)), .val (.int ps61), .val (.int (0 : Int32)), .unset, .unset]) rfl (XS.aload X88.here hx rfl (hb hby at_109) rfl rfl (XS.iloadN X88.here hx rfl (hb hby at_111) rfl (XS.bipush X88.here hx rfl (hb hby at_112) (XS.iand X88.here hx rfl (hb hby at_114) rfl (XS.iload X88.here hx rfl (hb hby at_115) rfl (XS.iload X88.here hx rfl (hb hby at_117) rfl k)))))))))) ?_
      obtain ⟨v89, T89, L89, X89, hQ89, st89⟩ := own_callSt (y := (⟨"com/example/concordia/concordia/wire/FrameReaderHasRemainingPinLaw", "step", "(Lcom/example/concordia/concordia/wire/FrameReader;III)I"⟩ : MethodName)) (argsL := [(.ref b2), (.int (x2 &&& (7 : Int32))), (.int ps61), (.int (nb.toInt32))]) (rest := []) X88 hx hZ hown (hw _ (List.mem_of_getElem? (i := 23) rfl)) (hw _ (List.mem_of_getElem? (i := 24) rfl)) (hw _ (List.mem_of_getElem? (i := 2) rfl)) (hw _ (List.mem_of_getElem? (i := 25) rfl)) (by decide) (own_mt5 l Z a0 hw b2 (x2 &&& (7 : Int32)) ps61 r1 nb T61.heap n0 Z61 ge_b2 (Ne.symm ne_r1_b2) G61_0 G61_1 G61_2 V1q_at62 EA1q_at63 hnb hp61) e88 (W := 0) (by decide) (by decide) (g := (mkF m 119 #[.val (.int x0), .val (.int x1), .val (.int x2), .val (.int x3), .val (.ref r1), .val (.int (nb.toInt32)), .val (.ref b2), .val (.int (0 : Int32)), .val (.int (1 : Int32)), .val (.int ps61), .val (.int (0 : Int32)), .unset, .unset] [(.int (nb.toInt32)), (.int ps61), (.int (x2 &&& (7 : Int32))), (.ref b2)])) rfl (by rw [hml]; rfl) (lenOf own_pd11 rfl) rfl (by show 2 * 0 + _ ≤ _; exact Nat.le_of_eq rfl) (hb hby at_119) (by decide) (by decide)
      obtain ⟨rfl, Nq89, K89q, G89_0, G89_1, G89_2⟩ := hQ89
      have N89 := Fr.app N88 Nq89
      have Z89 : n0 ≤ T89.heap.size := Nat.le_trans Z61 K89q.1
      have V1q_at90 := V1q_at62.keep K89q (ninS ne_r1_b2 nin0)
      have EA1q_at91 := EA1q_at63.keep K89q
      have G61_0_at92 := G61_0.keep K89q
      have hp89 := own_step_ok hnb hp61 (x2 &&& (7 : Int32))
      have hse89 := own_step_eq (x2 &&& (7 : Int32)) ps61 nb
      rw [hse89] at G89_2
      generalize hg89 : (own_step (x2 &&& (7 : Int32)) ps61 nb) = ps89 at G89_2 hp89 st89
      refine own_via (T' := T89) (g' := (mkF m 122 #[.val (.int x0), .val (.int x1), .val (.int x2), .val (.int x3), .val (.ref r1), .val (.int (nb.toInt32)), .val (.ref b2), .val (.int (0 : Int32)), .val (.int (1 : Int32)), .val (.int ps61), .val (.int (0 : Int32)), .unset, .unset] [(.int ps89)])) st89 ?_
      refine own_via (T' := T89) (g' := (mkF m 126 #[.val (.int x0), .val (.int x1), .val (.int x2), .val (.int x3), .val (.ref r1), .val (.int (nb.toInt32)), .val (.ref b2), .val (.int (0 : Int32)), .val (.int (1 : Int32)), .val (.int ps89), .val (.int (0 : Int32)), .unset, .unset] [(.ref b2)])) (fun t k => XS.istore X89.here hx rfl (hb hby at_122) rfl (l' := #[.val (.int x0), .val (.int x1), .val (.int x2), .val (.int x3), .val (.ref r1), .val (.int (nb.toInt32)), .val (.ref b2), .val (.int (0 : Int32)), .val (.int (1 : Int32)), .val (.int ps89), .val (.int (0 : Int32)), .unset, .unset]) rfl (XS.aload X89.here hx rfl (hb hby at_124) rfl rfl k)) ?_
      by_cases hc93 : ps89 < (nb.toInt32)
      · obtain ⟨v94, T94, L94, X94, hQ94, st94⟩ := own_callVi (y := (⟨"com/example/concordia/concordia/wire/FrameReader", "hasRemaining", "()Z"⟩ : MethodName)) (z := (⟨"com/example/concordia/concordia/wire/FrameReader", "hasRemaining", "()Z"⟩ : MethodName)) (a := b2) (C := "com/example/concordia/concordia/wire/FrameReader") (argsL := []) (rest := []) X89 hx hZ hown (hw _ (List.mem_of_getElem? (i := 16) rfl)) (hw _ (List.mem_of_getElem? (i := 17) rfl)) (notFace_of_selects (args := #[]) (mvT hZ (hw _ (List.mem_of_getElem? (i := 19) rfl)))) (hw _ (List.mem_of_getElem? (i := 19) rfl)) (hw _ (List.mem_of_getElem? (i := 18) rfl)) (hw _ (List.mem_of_getElem? (i := 7) rfl)) (hw _ (List.mem_of_getElem? (i := 20) rfl)) (by decide) G89_0 (own_mth1 l Z a0 hw b2 r1 ps89 nb T89.heap G89_1 G89_2 V1q_at90 hc93) rfl (W := 0) (by decide) (by decide) (g := (mkF m 126 #[.val (.int x0), .val (.int x1), .val (.int x2), .val (.int x3), .val (.ref r1), .val (.int (nb.toInt32)), .val (.ref b2), .val (.int (0 : Int32)), .val (.int (1 : Int32)), .val (.int ps89), .val (.int (0 : Int32)), .unset, .unset] [(.ref b2)])) rfl (by rw [hml]; rfl) (lenOf own_pd8 rfl) rfl (by show 2 * 0 + _ ≤ _; exact Nat.le_of_eq rfl) (hb hby at_126) (by decide) (by decide)
        obtain ⟨rfl, e94, rfl⟩ := hQ94
        have N94 := Fr.app N89 (Fr.nil n0)
        refine own_via (T' := T94) (g' := (mkF m 129 #[.val (.int x0), .val (.int x1), .val (.int x2), .val (.int x3), .val (.ref r1), .val (.int (nb.toInt32)), .val (.ref b2), .val (.int (0 : Int32)), .val (.int (1 : Int32)), .val (.int ps89), .val (.int (0 : Int32)), .unset, .unset] [(.int (1 : Int32))])) st94 ?_
        refine own_via (T' := T94) (g' := (mkF m 133 #[.val (.int x0), .val (.int x1), .val (.int x2), .val (.int x3), .val (.ref r1), .val (.int (nb.toInt32)), .val (.ref b2), .val (.int (0 : Int32)), .val (.int (1 : Int32)), .val (.int ps89), .val (.int (0 : Int32)), .val (.int (1 : Int32)), .unset] [(.int (1 : Int32))])) (fun t k => XS.istore X94.here hx rfl (hb hby at_129) rfl (l' := #[.val (.int x0), .val (.int x1), .val (.int x2), .val (.int x3), .val (.ref r1), .val (.int (nb.toInt32)), .val (.ref b2), .val (.int (0 : Int32)), .val (.int (1 : Int32)), .val (.int ps89), .val (.int (0 : Int32)), .val (.int (1 : Int32)), .unset]) rfl (XS.iload X94.here hx rfl (hb hby at_131) rfl k)) ?_
        refine own_via (T' := T94) (g' := (mkF m 142 #[.val (.int x0), .val (.int x1), .val (.int x2), .val (.int x3), .val (.ref r1), .val (.int (nb.toInt32)), .val (.ref b2), .val (.int (0 : Int32)), .val (.int (1 : Int32)), .val (.int ps89), .val (.int (0 : Int32)), .val (.int (1 : Int32)), .unset] [(.int (nb.toInt32)), (.int ps89), (.int (1 : Int32))])) (fun t k => XS.ifNo X94.here hx rfl (hb hby at_133) rfl ((if0 _ _).trans (feq (by decide : ¬ ((1 : Int32) = (0 : Int32)))).1) (XS.iload X94.here hx rfl (hb hby at_136) rfl (XS.iload X94.here hx rfl (hb hby at_138) rfl (XS.iload X94.here hx rfl (hb hby at_140) rfl k)))) ?_
        refine own_via (T' := T94) (g' := (mkF m 150 #[.val (.int x0), .val (.int x1), .val (.int x2), .val (.int x3), .val (.ref r1), .val (.int (nb.toInt32)), .val (.ref b2), .val (.int (0 : Int32)), .val (.int (1 : Int32)), .val (.int ps89), .val (.int (0 : Int32)), .val (.int (1 : Int32)), .unset] [(.int (1 : Int32)), (.int (1 : Int32))])) (fun t k => XS.icmpNo X94.here hx rfl (hb hby at_142) rfl (tlt hc93).2.1 (XS.iconst X94.here hx rfl (hb hby at_145) (XS.goto X94.here hx rfl (pc0 := 146) (pc' := 150) rfl (hb hby at_146) (by decide) (by decide) k))) ?_
        refine own_via (T' := T94) (g' := (mkF m 170 #[.val (.int x0), .val (.int x1), .val (.int x2), .val (.int x3), .val (.ref r1), .val (.int (nb.toInt32)), .val (.ref b2), .val (.int (0 : Int32)), .val (.int (1 : Int32)), .val (.int ps89), .val (.int (0 : Int32)), .val (.int (1 : Int32)), .unset] [(.int (nb.toInt32)), (.int ps89), (.int (x3 &&& (7 : Int32))), (.ref b2)])) (fun t k => XS.icmpNo X94.here hx rfl (hb hby at_150) rfl (teq (by decide : (1 : Int32) = (1 : Int32))).2 (XS.iconst X94.here hx rfl (hb hby at_153) (XS.goto X94.here hx rfl (pc0 := 154) (pc' := 158) rfl (hb hby at_154) (by decide) (by decide) (XS.istore X94.here hx rfl (hb hby at_158) rfl (l' := #[.val (.int x0), .val (.int x1), .val (.int x2), .val (.int x3), .val (.ref r1), .val (.int (nb.toInt32)), .val (.ref b2), .val (.int (0 : Int32)), .val (.int (1 : Int32)), .val (.int ps89), .val (.int (0 : Int32)), .val (.int (1 : Int32)), .unset]) rfl (XS.aload X94.here hx rfl (hb hby at_160) rfl rfl (XS.iloadN X94.here hx rfl (hb hby at_162) rfl (XS.bipush X94.here hx rfl (hb hby at_163) (XS.iand X94.here hx rfl (hb hby at_165) rfl (XS.iload X94.here hx rfl (hb hby at_166) rfl (XS.iload X94.here hx rfl (hb hby at_168) rfl k)))))))))) ?_
        obtain ⟨v95, T95, L95, X95, hQ95, st95⟩ := own_callSt (y := (⟨"com/example/concordia/concordia/wire/FrameReaderHasRemainingPinLaw", "step", "(Lcom/example/concordia/concordia/wire/FrameReader;III)I"⟩ : MethodName)) (argsL := [(.ref b2), (.int (x3 &&& (7 : Int32))), (.int ps89), (.int (nb.toInt32))]) (rest := []) X94 hx hZ hown (hw _ (List.mem_of_getElem? (i := 23) rfl)) (hw _ (List.mem_of_getElem? (i := 24) rfl)) (hw _ (List.mem_of_getElem? (i := 2) rfl)) (hw _ (List.mem_of_getElem? (i := 25) rfl)) (by decide) (own_mt5 l Z a0 hw b2 (x3 &&& (7 : Int32)) ps89 r1 nb T89.heap n0 Z89 ge_b2 (Ne.symm ne_r1_b2) G89_0 G89_1 G89_2 V1q_at90 EA1q_at91 hnb hp89) e94 (W := 0) (by decide) (by decide) (g := (mkF m 170 #[.val (.int x0), .val (.int x1), .val (.int x2), .val (.int x3), .val (.ref r1), .val (.int (nb.toInt32)), .val (.ref b2), .val (.int (0 : Int32)), .val (.int (1 : Int32)), .val (.int ps89), .val (.int (0 : Int32)), .val (.int (1 : Int32)), .unset] [(.int (nb.toInt32)), (.int ps89), (.int (x3 &&& (7 : Int32))), (.ref b2)])) rfl (by rw [hml]; rfl) (lenOf own_pd11 rfl) rfl (by show 2 * 0 + _ ≤ _; exact Nat.le_of_eq rfl) (hb hby at_170) (by decide) (by decide)
        obtain ⟨rfl, Nq95, K95q, G95_0, G95_1, G95_2⟩ := hQ95
        have N95 := Fr.app N94 Nq95
        have Z95 : n0 ≤ T95.heap.size := Nat.le_trans Z89 K95q.1
        have V1q_at96 := V1q_at90.keep K95q (ninS ne_r1_b2 nin0)
        have EA1q_at97 := EA1q_at91.keep K95q
        have G89_0_at98 := G89_0.keep K95q
        have hp95 := own_step_ok hnb hp89 (x3 &&& (7 : Int32))
        have hse95 := own_step_eq (x3 &&& (7 : Int32)) ps89 nb
        rw [hse95] at G95_2
        generalize hg95 : (own_step (x3 &&& (7 : Int32)) ps89 nb) = ps95 at G95_2 hp95 st95
        refine own_via (T' := T95) (g' := (mkF m 173 #[.val (.int x0), .val (.int x1), .val (.int x2), .val (.int x3), .val (.ref r1), .val (.int (nb.toInt32)), .val (.ref b2), .val (.int (0 : Int32)), .val (.int (1 : Int32)), .val (.int ps89), .val (.int (0 : Int32)), .val (.int (1 : Int32)), .unset] [(.int ps95)])) st95 ?_
        refine own_via (T' := T95) (g' := (mkF m 177 #[.val (.int x0), .val (.int x1), .val (.int x2), .val (.int x3), .val (.ref r1), .val (.int (nb.toInt32)), .val (.ref b2), .val (.int (0 : Int32)), .val (.int (1 : Int32)), .val (.int ps95), .val (.int (0 : Int32)), .val (.int (1 : Int32)), .unset] [(.ref b2)])) (fun t k => XS.istore X95.here hx rfl (hb hby at_173) rfl (l' := #[.val (.int x0), .val (.int x1), .val (.int x2), .val (.int x3), .val (.ref r1), .val (.int (nb.toInt32)), .val (.ref b2), .val (.int (0 : Int32)), .val (.int (1 : Int32)), .val (.int ps95), .val (.int (0 : Int32)), .val (.int (1 : Int32)), .unset]) rfl (XS.aload X95.here hx rfl (hb hby at_175) rfl rfl k)) ?_
        by_cases hc99 : ps95 < (nb.toInt32)
        · obtain ⟨v100, T100, L100, X100, hQ100, st100⟩ := own_callVi (y := (⟨"com/example/concordia/concordia/wire/FrameReader", "hasRemaining", "()Z"⟩ : MethodName)) (z := (⟨"com/example/concordia/concordia/wire/FrameReader", "hasRemaining", "()Z"⟩ : MethodName)) (a := b2) (C := "com/example/concordia/concordia/wire/FrameReader") (argsL := []) (rest := []) X95 hx hZ hown (hw _ (List.mem_of_getElem? (i := 16) rfl)) (hw _ (List.mem_of_getElem? (i := 17) rfl)) (notFace_of_selects (args := #[]) (mvT hZ (hw _ (List.mem_of_getElem? (i := 19) rfl)))) (hw _ (List.mem_of_getElem? (i := 19) rfl)) (hw _ (List.mem_of_getElem? (i := 18) rfl)) (hw _ (List.mem_of_getElem? (i := 7) rfl)) (hw _ (List.mem_of_getElem? (i := 20) rfl)) (by decide) G95_0 (own_mth1 l Z a0 hw b2 r1 ps95 nb T95.heap G95_1 G95_2 V1q_at96 hc99) rfl (W := 0) (by decide) (by decide) (g := (mkF m 177 #[.val (.int x0), .val (.int x1), .val (.int x2), .val (.int x3), .val (.ref r1), .val (.int (nb.toInt32)), .val (.ref b2), .val (.int (0 : Int32)), .val (.int (1 : Int32)), .val (.int ps95), .val (.int (0 : Int32)), .val (.int (1 : Int32)), .unset] [(.ref b2)])) rfl (by rw [hml]; rfl) (lenOf own_pd8 rfl) rfl (by show 2 * 0 + _ ≤ _; exact Nat.le_of_eq rfl) (hb hby at_177) (by decide) (by decide)
          obtain ⟨rfl, e100, rfl⟩ := hQ100
          have N100 := Fr.app N95 (Fr.nil n0)
          refine own_via (T' := T100) (g' := (mkF m 180 #[.val (.int x0), .val (.int x1), .val (.int x2), .val (.int x3), .val (.ref r1), .val (.int (nb.toInt32)), .val (.ref b2), .val (.int (0 : Int32)), .val (.int (1 : Int32)), .val (.int ps95), .val (.int (0 : Int32)), .val (.int (1 : Int32)), .unset] [(.int (1 : Int32))])) st100 ?_
          refine own_via (T' := T100) (g' := (mkF m 184 #[.val (.int x0), .val (.int x1), .val (.int x2), .val (.int x3), .val (.ref r1), .val (.int (nb.toInt32)), .val (.ref b2), .val (.int (0 : Int32)), .val (.int (1 : Int32)), .val (.int ps95), .val (.int (0 : Int32)), .val (.int (1 : Int32)), .val (.int (1 : Int32))] [(.int (1 : Int32))])) (fun t k => XS.istore X100.here hx rfl (hb hby at_180) rfl (l' := #[.val (.int x0), .val (.int x1), .val (.int x2), .val (.int x3), .val (.ref r1), .val (.int (nb.toInt32)), .val (.ref b2), .val (.int (0 : Int32)), .val (.int (1 : Int32)), .val (.int ps95), .val (.int (0 : Int32)), .val (.int (1 : Int32)), .val (.int (1 : Int32))]) rfl (XS.iload X100.here hx rfl (hb hby at_182) rfl k)) ?_
          refine own_via (T' := T100) (g' := (mkF m 193 #[.val (.int x0), .val (.int x1), .val (.int x2), .val (.int x3), .val (.ref r1), .val (.int (nb.toInt32)), .val (.ref b2), .val (.int (0 : Int32)), .val (.int (1 : Int32)), .val (.int ps95), .val (.int (0 : Int32)), .val (.int (1 : Int32)), .val (.int (1 : Int32))] [(.int (nb.toInt32)), (.int ps95), (.int (1 : Int32))])) (fun t k => XS.ifNo X100.here hx rfl (hb hby at_184) rfl ((if0 _ _).trans (feq (by decide : ¬ ((1 : Int32) = (0 : Int32)))).1) (XS.iload X100.here hx rfl (hb hby at_187) rfl (XS.iload X100.here hx rfl (hb hby at_189) rfl (XS.iload X100.here hx rfl (hb hby at_191) rfl k)))) ?_
          refine own_via (T' := T100) (g' := (mkF m 201 #[.val (.int x0), .val (.int x1), .val (.int x2), .val (.int x3), .val (.ref r1), .val (.int (nb.toInt32)), .val (.ref b2), .val (.int (0 : Int32)), .val (.int (1 : Int32)), .val (.int ps95), .val (.int (0 : Int32)), .val (.int (1 : Int32)), .val (.int (1 : Int32))] [(.int (1 : Int32)), (.int (1 : Int32))])) (fun t k => XS.icmpNo X100.here hx rfl (hb hby at_193) rfl (tlt hc99).2.1 (XS.iconst X100.here hx rfl (hb hby at_196) (XS.goto X100.here hx rfl (pc0 := 197) (pc' := 201) rfl (hb hby at_197) (by decide) (by decide) k))) ?_
          refine own_via (T' := T100) (g' := (mkF m 213 #[.val (.int x0), .val (.int x1), .val (.int x2), .val (.int x3), .val (.ref r1), .val (.int (nb.toInt32)), .val (.ref b2), .val (.int (0 : Int32)), .val (.int (1 : Int32)), .val (.int ps95), .val (.int (0 : Int32)), .val (.int (1 : Int32)), .val (.int (1 : Int32))] [(.int (1 : Int32))])) (fun t k => XS.icmpNo X100.here hx rfl (hb hby at_201) rfl (teq (by decide : (1 : Int32) = (1 : Int32))).2 (XS.iconst X100.here hx rfl (hb hby at_204) (XS.goto X100.here hx rfl (pc0 := 205) (pc' := 209) rfl (hb hby at_205) (by decide) (by decide) (XS.istore X100.here hx rfl (hb hby at_209) rfl (l' := #[.val (.int x0), .val (.int x1), .val (.int x2), .val (.int x3), .val (.ref r1), .val (.int (nb.toInt32)), .val (.ref b2), .val (.int (0 : Int32)), .val (.int (1 : Int32)), .val (.int ps95), .val (.int (0 : Int32)), .val (.int (1 : Int32)), .val (.int (1 : Int32))]) rfl (XS.iload X100.here hx rfl (hb hby at_211) rfl k))))) ?_
          refine own_retN X100 hx hlk (ty := .boolean) hret (by simp) (hb hby at_213) (by decide) (by decide) ?_
          exact ⟨by rw [own_f0] <;> rfl, N100⟩
        · obtain ⟨v101, T101, L101, X101, hQ101, st101⟩ := own_callVi (y := (⟨"com/example/concordia/concordia/wire/FrameReader", "hasRemaining", "()Z"⟩ : MethodName)) (z := (⟨"com/example/concordia/concordia/wire/FrameReader", "hasRemaining", "()Z"⟩ : MethodName)) (a := b2) (C := "com/example/concordia/concordia/wire/FrameReader") (argsL := []) (rest := []) X95 hx hZ hown (hw _ (List.mem_of_getElem? (i := 16) rfl)) (hw _ (List.mem_of_getElem? (i := 17) rfl)) (notFace_of_selects (args := #[]) (mvT hZ (hw _ (List.mem_of_getElem? (i := 19) rfl)))) (hw _ (List.mem_of_getElem? (i := 19) rfl)) (hw _ (List.mem_of_getElem? (i := 18) rfl)) (hw _ (List.mem_of_getElem? (i := 7) rfl)) (hw _ (List.mem_of_getElem? (i := 20) rfl)) (by decide) G95_0 (own_mth0 l Z a0 hw b2 r1 ps95 nb T95.heap G95_1 G95_2 V1q_at96 hc99) rfl (W := 0) (by decide) (by decide) (g := (mkF m 177 #[.val (.int x0), .val (.int x1), .val (.int x2), .val (.int x3), .val (.ref r1), .val (.int (nb.toInt32)), .val (.ref b2), .val (.int (0 : Int32)), .val (.int (1 : Int32)), .val (.int ps95), .val (.int (0 : Int32)), .val (.int (1 : Int32)), .unset] [(.ref b2)])) rfl (by rw [hml]; rfl) (lenOf own_pd8 rfl) rfl (by show 2 * 0 + _ ≤ _; exact Nat.le_of_eq rfl) (hb hby at_177) (by decide) (by decide)
          obtain ⟨rfl, e101, rfl⟩ := hQ101
          have N101 := Fr.app N95 (Fr.nil n0)
          refine own_via (T' := T101) (g' := (mkF m 180 #[.val (.int x0), .val (.int x1), .val (.int x2), .val (.int x3), .val (.ref r1), .val (.int (nb.toInt32)), .val (.ref b2), .val (.int (0 : Int32)), .val (.int (1 : Int32)), .val (.int ps95), .val (.int (0 : Int32)), .val (.int (1 : Int32)), .unset] [(.int (0 : Int32))])) st101 ?_
          refine own_via (T' := T101) (g' := (mkF m 184 #[.val (.int x0), .val (.int x1), .val (.int x2), .val (.int x3), .val (.ref r1), .val (.int (nb.toInt32)), .val (.ref b2), .val (.int (0 : Int32)), .val (.int (1 : Int32)), .val (.int ps95), .val (.int (0 : Int32)), .val (.int (1 : Int32)), .val (.int (0 : Int32))] [(.int (1 : Int32))])) (fun t k => XS.istore X101.here hx rfl (hb hby at_180) rfl (l' := #[.val (.int x0), .val (.int x1), .val (.int x2), .val (.int x3), .val (.ref r1), .val (.int (nb.toInt32)), .val (.ref b2), .val (.int (0 : Int32)), .val (.int (1 : Int32)), .val (.int ps95), .val (.int (0 : Int32)), .val (.int (1 : Int32)), .val (.int (0 : Int32))]) rfl (XS.iload X101.here hx rfl (hb hby at_182) rfl k)) ?_
          refine own_via (T' := T101) (g' := (mkF m 193 #[.val (.int x0), .val (.int x1), .val (.int x2), .val (.int x3), .val (.ref r1), .val (.int (nb.toInt32)), .val (.ref b2), .val (.int (0 : Int32)), .val (.int (1 : Int32)), .val (.int ps95), .val (.int (0 : Int32)), .val (.int (1 : Int32)), .val (.int (0 : Int32))] [(.int (nb.toInt32)), (.int ps95), (.int (0 : Int32))])) (fun t k => XS.ifNo X101.here hx rfl (hb hby at_184) rfl ((if0 _ _).trans (feq (by decide : ¬ ((1 : Int32) = (0 : Int32)))).1) (XS.iload X101.here hx rfl (hb hby at_187) rfl (XS.iload X101.here hx rfl (hb hby at_189) rfl (XS.iload X101.here hx rfl (hb hby at_191) rfl k)))) ?_
          refine own_via (T' := T101) (g' := (mkF m 201 #[.val (.int x0), .val (.int x1), .val (.int x2), .val (.int x3), .val (.ref r1), .val (.int (nb.toInt32)), .val (.ref b2), .val (.int (0 : Int32)), .val (.int (1 : Int32)), .val (.int ps95), .val (.int (0 : Int32)), .val (.int (1 : Int32)), .val (.int (0 : Int32))] [(.int (0 : Int32)), (.int (0 : Int32))])) (fun t k => XS.icmpYes X101.here hx rfl (pc0 := 193) (pc' := 200) rfl (hb hby at_193) rfl (flt hc99).2.1 (by decide) (by decide) (XS.iconst X101.here hx rfl (hb hby at_200) k)) ?_
          refine own_via (T' := T101) (g' := (mkF m 213 #[.val (.int x0), .val (.int x1), .val (.int x2), .val (.int x3), .val (.ref r1), .val (.int (nb.toInt32)), .val (.ref b2), .val (.int (0 : Int32)), .val (.int (1 : Int32)), .val (.int ps95), .val (.int (0 : Int32)), .val (.int (1 : Int32)), .val (.int (0 : Int32))] [(.int (1 : Int32))])) (fun t k => XS.icmpNo X101.here hx rfl (hb hby at_201) rfl (teq (by decide : (0 : Int32) = (0 : Int32))).2 (XS.iconst X101.here hx rfl (hb hby at_204) (XS.goto X101.here hx rfl (pc0 := 205) (pc' := 209) rfl (hb hby at_205) (by decide) (by decide) (XS.istore X101.here hx rfl (hb hby at_209) rfl (l' := #[.val (.int x0), .val (.int x1), .val (.int x2), .val (.int x3), .val (.ref r1), .val (.int (nb.toInt32)), .val (.ref b2), .val (.int (0 : Int32)), .val (.int (1 : Int32)), .val (.int ps95), .val (.int (0 : Int32)), .val (.int (1 : Int32)), .val (.int (0 : Int32))]) rfl (XS.iload X101.here hx rfl (hb hby at_211) rfl k))))) ?_
          refine own_retN X101 hx hlk (ty := .boolean) hret (by simp) (hb hby at_213) (by decide) (by decide) ?_
          exact ⟨by rw [own_f0] <;> rfl, N101⟩
      · obtain ⟨v102, T102, L102, X102, hQ102, st102⟩ := own_callVi (y := (⟨"com/example/concordia/concordia/wire/FrameReader", "hasRemaining", "()Z"⟩ : MethodName)) (z := (⟨"com/example/concordia/concordia/wire/FrameReader", "hasRemaining", "()Z"⟩ : MethodName)) (a := b2) (C := "com/example/concordia/concordia/wire/FrameReader") (argsL := []) (rest := []) X89 hx hZ hown (hw _ (List.mem_of_getElem? (i := 16) rfl)) (hw _ (List.mem_of_getElem? (i := 17) rfl)) (notFace_of_selects (args := #[]) (mvT hZ (hw _ (List.mem_of_getElem? (i := 19) rfl)))) (hw _ (List.mem_of_getElem? (i := 19) rfl)) (hw _ (List.mem_of_getElem? (i := 18) rfl)) (hw _ (List.mem_of_getElem? (i := 7) rfl)) (hw _ (List.mem_of_getElem? (i := 20) rfl)) (by decide) G89_0 (own_mth0 l Z a0 hw b2 r1 ps89 nb T89.heap G89_1 G89_2 V1q_at90 hc93) rfl (W := 0) (by decide) (by decide) (g := (mkF m 126 #[.val (.int x0), .val (.int x1), .val (.int x2), .val (.int x3), .val (.ref r1), .val (.int (nb.toInt32)), .val (.ref b2), .val (.int (0 : Int32)), .val (.int (1 : Int32)), .val (.int ps89), .val (.int (0 : Int32)), .unset, .unset] [(.ref b2)])) rfl (by rw [hml]; rfl) (lenOf own_pd8 rfl) rfl (by show 2 * 0 + _ ≤ _; exact Nat.le_of_eq rfl) (hb hby at_126) (by decide) (by decide)
        obtain ⟨rfl, e102, rfl⟩ := hQ102
        have N102 := Fr.app N89 (Fr.nil n0)
        refine own_via (T' := T102) (g' := (mkF m 129 #[.val (.int x0), .val (.int x1), .val (.int x2), .val (.int x3), .val (.ref r1), .val (.int (nb.toInt32)), .val (.ref b2), .val (.int (0 : Int32)), .val (.int (1 : Int32)), .val (.int ps89), .val (.int (0 : Int32)), .unset, .unset] [(.int (0 : Int32))])) st102 ?_
        refine own_via (T' := T102) (g' := (mkF m 133 #[.val (.int x0), .val (.int x1), .val (.int x2), .val (.int x3), .val (.ref r1), .val (.int (nb.toInt32)), .val (.ref b2), .val (.int (0 : Int32)), .val (.int (1 : Int32)), .val (.int ps89), .val (.int (0 : Int32)), .val (.int (0 : Int32)), .unset] [(.int (1 : Int32))])) (fun t k => XS.istore X102.here hx rfl (hb hby at_129) rfl (l' := #[.val (.int x0), .val (.int x1), .val (.int x2), .val (.int x3), .val (.ref r1), .val (.int (nb.toInt32)), .val (.ref b2), .val (.int (0 : Int32)), .val (.int (1 : Int32)), .val (.int ps89), .val (.int (0 : Int32)), .val (.int (0 : Int32)), .unset]) rfl (XS.iload X102.here hx rfl (hb hby at_131) rfl k)) ?_
        refine own_via (T' := T102) (g' := (mkF m 142 #[.val (.int x0), .val (.int x1), .val (.int x2), .val (.int x3), .val (.ref r1), .val (.int (nb.toInt32)), .val (.ref b2), .val (.int (0 : Int32)), .val (.int (1 : Int32)), .val (.int ps89), .val (.int (0 : Int32)), .val (.int (0 : Int32)), .unset] [(.int (nb.toInt32)), (.int ps89), (.int (0 : Int32))])) (fun t k => XS.ifNo X102.here hx rfl (hb hby at_133) rfl ((if0 _ _).trans (feq (by decide : ¬ ((1 : Int32) = (0 : Int32)))).1) (XS.iload X102.here hx rfl (hb hby at_136) rfl (XS.iload X102.here hx rfl (hb hby at_138) rfl (XS.iload X102.here hx rfl (hb hby at_140) rfl k)))) ?_
        refine own_via (T' := T102) (g' := (mkF m 150 #[.val (.int x0), .val (.int x1), .val (.int x2), .val (.int x3), .val (.ref r1), .val (.int (nb.toInt32)), .val (.ref b2), .val (.int (0 : Int32)), .val (.int (1 : Int32)), .val (.int ps89), .val (.int (0 : Int32)), .val (.int (0 : Int32)), .unset] [(.int (0 : Int32)), (.int (0 : Int32))])) (fun t k => XS.icmpYes X102.here hx rfl (pc0 := 142) (pc' := 149) rfl (hb hby at_142) rfl (flt hc93).2.1 (by decide) (by decide) (XS.iconst X102.here hx rfl (hb hby at_149) k)) ?_
        refine own_via (T' := T102) (g' := (mkF m 170 #[.val (.int x0), .val (.int x1), .val (.int x2), .val (.int x3), .val (.ref r1), .val (.int (nb.toInt32)), .val (.ref b2), .val (.int (0 : Int32)), .val (.int (1 : Int32)), .val (.int ps89), .val (.int (0 : Int32)), .val (.int (0 : Int32)), .unset] [(.int (nb.toInt32)), (.int ps89), (.int (x3 &&& (7 : Int32))), (.ref b2)])) (fun t k => XS.icmpNo X102.here hx rfl (hb hby at_150) rfl (teq (by decide : (0 : Int32) = (0 : Int32))).2 (XS.iconst X102.here hx rfl (hb hby at_153) (XS.goto X102.here hx rfl (pc0 := 154) (pc' := 158) rfl (hb hby at_154) (by decide) (by decide) (XS.istore X102.here hx rfl (hb hby at_158) rfl (l' := #[.val (.int x0), .val (.int x1), .val (.int x2), .val (.int x3), .val (.ref r1), .val (.int (nb.toInt32)), .val (.ref b2), .val (.int (0 : Int32)), .val (.int (1 : Int32)), .val (.int ps89), .val (.int (0 : Int32)), .val (.int (0 : Int32)), .unset]) rfl (XS.aload X102.here hx rfl (hb hby at_160) rfl rfl (XS.iloadN X102.here hx rfl (hb hby at_162) rfl (XS.bipush X102.here hx rfl (hb hby at_163) (XS.iand X102.here hx rfl (hb hby at_165) rfl (XS.iload X102.here hx rfl (hb hby at_166) rfl (XS.iload X102.here hx rfl (hb hby at_168) rfl k)))))))))) ?_
        obtain ⟨v103, T103, L103, X103, hQ103, st103⟩ := own_callSt (y := (⟨"com/example/concordia/concordia/wire/FrameReaderHasRemainingPinLaw", "step", "(Lcom/example/concordia/concordia/wire/FrameReader;III)I"⟩ : MethodName)) (argsL := [(.ref b2), (.int (x3 &&& (7 : Int32))), (.int ps89), (.int (nb.toInt32))]) (rest := []) X102 hx hZ hown (hw _ (List.mem_of_getElem? (i := 23) rfl)) (hw _ (List.mem_of_getElem? (i := 24) rfl)) (hw _ (List.mem_of_getElem? (i := 2) rfl)) (hw _ (List.mem_of_getElem? (i := 25) rfl)) (by decide) (own_mt5 l Z a0 hw b2 (x3 &&& (7 : Int32)) ps89 r1 nb T89.heap n0 Z89 ge_b2 (Ne.symm ne_r1_b2) G89_0 G89_1 G89_2 V1q_at90 EA1q_at91 hnb hp89) e102 (W := 0) (by decide) (by decide) (g := (mkF m 170 #[.val (.int x0), .val (.int x1), .val (.int x2), .val (.int x3), .val (.ref r1), .val (.int (nb.toInt32)), .val (.ref b2), .val (.int (0 : Int32)), .val (.int (1 : Int32)), .val (.int ps89), .val (.int (0 : Int32)), .val (.int (0 : Int32)), .unset] [(.int (nb.toInt32)), (.int ps89), (.int (x3 &&& (7 : Int32))), (.ref b2)])) rfl (by rw [hml]; rfl) (lenOf own_pd11 rfl) rfl (by show 2 * 0 + _ ≤ _; exact Nat.le_of_eq rfl) (hb hby at_170) (by decide) (by decide)
        obtain ⟨rfl, Nq103, K103q, G103_0, G103_1, G103_2⟩ := hQ103
        have N103 := Fr.app N102 Nq103
        have Z103 : n0 ≤ T103.heap.size := Nat.le_trans Z89 K103q.1
        have V1q_at104 := V1q_at90.keep K103q (ninS ne_r1_b2 nin0)
        have EA1q_at105 := EA1q_at91.keep K103q
        have G89_0_at106 := G89_0.keep K103q
        have hp103 := own_step_ok hnb hp89 (x3 &&& (7 : Int32))
        have hse103 := own_step_eq (x3 &&& (7 : Int32)) ps89 nb
        rw [hse103] at G103_2
        generalize hg103 : (own_step (x3 &&& (7 : Int32)) ps89 nb) = ps103 at G103_2 hp103 st103
        refine own_via (T' := T103) (g' := (mkF m 173 #[.val (.int x0), .val (.int x1), .val (.int x2), .val (.int x3), .val (.ref r1), .val (.int (nb.toInt32)), .val (.ref b2), .val (.int (0 : Int32)), .val (.int (1 : Int32)), .val (.int ps89), .val (.int (0 : Int32)), .val (.int (0 : Int32)), .unset] [(.int ps103)])) st103 ?_
        refine own_via (T' := T103) (g' := (mkF m 177 #[.val (.int x0), .val (.int x1), .val (.int x2), .val (.int x3), .val (.ref r1), .val (.int (nb.toInt32)), .val (.ref b2), .val (.int (0 : Int32)), .val (.int (1 : Int32)), .val (.int ps103), .val (.int (0 : Int32)), .val (.int (0 : Int32)), .unset] [(.ref b2)])) (fun t k => XS.istore X103.here hx rfl (hb hby at_173) rfl (l' := #[.val (.int x0), .val (.int x1), .val (.int x2), .val (.int x3), .val (.ref r1), .val (.int (nb.toInt32)), .val (.ref b2), .val (.int (0 : Int32)), .val (.int (1 : Int32)), .val (.int ps103), .val (.int (0 : Int32)), .val (.int (0 : Int32)), .unset]) rfl (XS.aload X103.here hx rfl (hb hby at_175) rfl rfl k)) ?_
        by_cases hc107 : ps103 < (nb.toInt32)
        · obtain ⟨v108, T108, L108, X108, hQ108, st108⟩ := own_callVi (y := (⟨"com/example/concordia/concordia/wire/FrameReader", "hasRemaining", "()Z"⟩ : MethodName)) (z := (⟨"com/example/concordia/concordia/wire/FrameReader", "hasRemaining", "()Z"⟩ : MethodName)) (a := b2) (C := "com/example/concordia/concordia/wire/FrameReader") (argsL := []) (rest := []) X103 hx hZ hown (hw _ (List.mem_of_getElem? (i := 16) rfl)) (hw _ (List.mem_of_getElem? (i := 17) rfl)) (notFace_of_selects (args := #[]) (mvT hZ (hw _ (List.mem_of_getElem? (i := 19) rfl)))) (hw _ (List.mem_of_getElem? (i := 19) rfl)) (hw _ (List.mem_of_getElem? (i := 18) rfl)) (hw _ (List.mem_of_getElem? (i := 7) rfl)) (hw _ (List.mem_of_getElem? (i := 20) rfl)) (by decide) G103_0 (own_mth1 l Z a0 hw b2 r1 ps103 nb T103.heap G103_1 G103_2 V1q_at104 hc107) rfl (W := 0) (by decide) (by decide) (g := (mkF m 177 #[.val (.int x0), .val (.int x1), .val (.int x2), .val (.int x3), .val (.ref r1), .val (.int (nb.toInt32)), .val (.ref b2), .val (.int (0 : Int32)), .val (.int (1 : Int32)), .val (.int ps103), .val (.int (0 : Int32)), .val (.int (0 : Int32)), .unset] [(.ref b2)])) rfl (by rw [hml]; rfl) (lenOf own_pd8 rfl) rfl (by show 2 * 0 + _ ≤ _; exact Nat.le_of_eq rfl) (hb hby at_177) (by decide) (by decide)
          obtain ⟨rfl, e108, rfl⟩ := hQ108
          have N108 := Fr.app N103 (Fr.nil n0)
          refine own_via (T' := T108) (g' := (mkF m 180 #[.val (.int x0), .val (.int x1), .val (.int x2), .val (.int x3), .val (.ref r1), .val (.int (nb.toInt32)), .val (.ref b2), .val (.int (0 : Int32)), .val (.int (1 : Int32)), .val (.int ps103), .val (.int (0 : Int32)), .val (.int (0 : Int32)), .unset] [(.int (1 : Int32))])) st108 ?_
          refine own_via (T' := T108) (g' := (mkF m 184 #[.val (.int x0), .val (.int x1), .val (.int x2), .val (.int x3), .val (.ref r1), .val (.int (nb.toInt32)), .val (.ref b2), .val (.int (0 : Int32)), .val (.int (1 : Int32)), .val (.int ps103), .val (.int (0 : Int32)), .val (.int (0 : Int32)), .val (.int (1 : Int32))] [(.int (1 : Int32))])) (fun t k => XS.istore X108.here hx rfl (hb hby at_180) rfl (l' := #[.val (.int x0), .val (.int x1), .val (.int x2), .val (.int x3), .val (.ref r1), .val (.int (nb.toInt32)), .val (.ref b2), .val (.int (0 : Int32)), .val (.int (1 : Int32)), .val (.int ps103), .val (.int (0 : Int32)), .val (.int (0 : Int32)), .val (.int (1 : Int32))]) rfl (XS.iload X108.here hx rfl (hb hby at_182) rfl k)) ?_
          refine own_via (T' := T108) (g' := (mkF m 193 #[.val (.int x0), .val (.int x1), .val (.int x2), .val (.int x3), .val (.ref r1), .val (.int (nb.toInt32)), .val (.ref b2), .val (.int (0 : Int32)), .val (.int (1 : Int32)), .val (.int ps103), .val (.int (0 : Int32)), .val (.int (0 : Int32)), .val (.int (1 : Int32))] [(.int (nb.toInt32)), (.int ps103), (.int (1 : Int32))])) (fun t k => XS.ifNo X108.here hx rfl (hb hby at_184) rfl ((if0 _ _).trans (feq (by decide : ¬ ((1 : Int32) = (0 : Int32)))).1) (XS.iload X108.here hx rfl (hb hby at_187) rfl (XS.iload X108.here hx rfl (hb hby at_189) rfl (XS.iload X108.here hx rfl (hb hby at_191) rfl k)))) ?_
          refine own_via (T' := T108) (g' := (mkF m 201 #[.val (.int x0), .val (.int x1), .val (.int x2), .val (.int x3), .val (.ref r1), .val (.int (nb.toInt32)), .val (.ref b2), .val (.int (0 : Int32)), .val (.int (1 : Int32)), .val (.int ps103), .val (.int (0 : Int32)), .val (.int (0 : Int32)), .val (.int (1 : Int32))] [(.int (1 : Int32)), (.int (1 : Int32))])) (fun t k => XS.icmpNo X108.here hx rfl (hb hby at_193) rfl (tlt hc107).2.1 (XS.iconst X108.here hx rfl (hb hby at_196) (XS.goto X108.here hx rfl (pc0 := 197) (pc' := 201) rfl (hb hby at_197) (by decide) (by decide) k))) ?_
          refine own_via (T' := T108) (g' := (mkF m 213 #[.val (.int x0), .val (.int x1), .val (.int x2), .val (.int x3), .val (.ref r1), .val (.int (nb.toInt32)), .val (.ref b2), .val (.int (0 : Int32)), .val (.int (1 : Int32)), .val (.int ps103), .val (.int (0 : Int32)), .val (.int (0 : Int32)), .val (.int (1 : Int32))] [(.int (1 : Int32))])) (fun t k => XS.icmpNo X108.here hx rfl (hb hby at_201) rfl (teq (by decide : (1 : Int32) = (1 : Int32))).2 (XS.iconst X108.here hx rfl (hb hby at_204) (XS.goto X108.here hx rfl (pc0 := 205) (pc' := 209) rfl (hb hby at_205) (by decide) (by decide) (XS.istore X108.here hx rfl (hb hby at_209) rfl (l' := #[.val (.int x0), .val (.int x1), .val (.int x2), .val (.int x3), .val (.ref r1), .val (.int (nb.toInt32)), .val (.ref b2), .val (.int (0 : Int32)), .val (.int (1 : Int32)), .val (.int ps103), .val (.int (0 : Int32)), .val (.int (0 : Int32)), .val (.int (1 : Int32))]) rfl (XS.iload X108.here hx rfl (hb hby at_211) rfl k))))) ?_
          refine own_retN X108 hx hlk (ty := .boolean) hret (by simp) (hb hby at_213) (by decide) (by decide) ?_
          exact ⟨by rw [own_f0] <;> rfl, N108⟩
        · obtain ⟨v109, T109, L109, X109, hQ109, st109⟩ := own_callVi (y := (⟨"com/example/concordia/concordia/wire/FrameReader", "hasRemaining", "()Z"⟩ : MethodName)) (z := (⟨"com/example/concordia/concordia/wire/FrameReader", "hasRemaining", "()Z"⟩ : MethodName)) (a := b2) (C := "com/example/concordia/concordia/wire/FrameReader") (argsL := []) (rest := []) X103 hx hZ hown (hw _ (List.mem_of_getElem? (i := 16) rfl)) (hw _ (List.mem_of_getElem? (i := 17) rfl)) (notFace_of_selects (args := #[]) (mvT hZ (hw _ (List.mem_of_getElem? (i := 19) rfl)))) (hw _ (List.mem_of_getElem? (i := 19) rfl)) (hw _ (List.mem_of_getElem? (i := 18) rfl)) (hw _ (List.mem_of_getElem? (i := 7) rfl)) (hw _ (List.mem_of_getElem? (i := 20) rfl)) (by decide) G103_0 (own_mth0 l Z a0 hw b2 r1 ps103 nb T103.heap G103_1 G103_2 V1q_at104 hc107) rfl (W := 0) (by decide) (by decide) (g := (mkF m 177 #[.val (.int x0), .val (.int x1), .val (.int x2), .val (.int x3), .val (.ref r1), .val (.int (nb.toInt32)), .val (.ref b2), .val (.int (0 : Int32)), .val (.int (1 : Int32)), .val (.int ps103), .val (.int (0 : Int32)), .val (.int (0 : Int32)), .unset] [(.ref b2)])) rfl (by rw [hml]; rfl) (lenOf own_pd8 rfl) rfl (by show 2 * 0 + _ ≤ _; exact Nat.le_of_eq rfl) (hb hby at_177) (by decide) (by decide)
          obtain ⟨rfl, e109, rfl⟩ := hQ109
          have N109 := Fr.app N103 (Fr.nil n0)
          refine own_via (T' := T109) (g' := (mkF m 180 #[.val (.int x0), .val (.int x1), .val (.int x2), .val (.int x3), .val (.ref r1), .val (.int (nb.toInt32)), .val (.ref b2), .val (.int (0 : Int32)), .val (.int (1 : Int32)), .val (.int ps103), .val (.int (0 : Int32)), .val (.int (0 : Int32)), .unset] [(.int (0 : Int32))])) st109 ?_
          refine own_via (T' := T109) (g' := (mkF m 184 #[.val (.int x0), .val (.int x1), .val (.int x2), .val (.int x3), .val (.ref r1), .val (.int (nb.toInt32)), .val (.ref b2), .val (.int (0 : Int32)), .val (.int (1 : Int32)), .val (.int ps103), .val (.int (0 : Int32)), .val (.int (0 : Int32)), .val (.int (0 : Int32))] [(.int (1 : Int32))])) (fun t k => XS.istore X109.here hx rfl (hb hby at_180) rfl (l' := #[.val (.int x0), .val (.int x1), .val (.int x2), .val (.int x3), .val (.ref r1), .val (.int (nb.toInt32)), .val (.ref b2), .val (.int (0 : Int32)), .val (.int (1 : Int32)), .val (.int ps103), .val (.int (0 : Int32)), .val (.int (0 : Int32)), .val (.int (0 : Int32))]) rfl (XS.iload X109.here hx rfl (hb hby at_182) rfl k)) ?_
          refine own_via (T' := T109) (g' := (mkF m 193 #[.val (.int x0), .val (.int x1), .val (.int x2), .val (.int x3), .val (.ref r1), .val (.int (nb.toInt32)), .val (.ref b2), .val (.int (0 : Int32)), .val (.int (1 : Int32)), .val (.int ps103), .val (.int (0 : Int32)), .val (.int (0 : Int32)), .val (.int (0 : Int32))] [(.int (nb.toInt32)), (.int ps103), (.int (0 : Int32))])) (fun t k => XS.ifNo X109.here hx rfl (hb hby at_184) rfl ((if0 _ _).trans (feq (by decide : ¬ ((1 : Int32) = (0 : Int32)))).1) (XS.iload X109.here hx rfl (hb hby at_187) rfl (XS.iload X109.here hx rfl (hb hby at_189) rfl (XS.iload X109.here hx rfl (hb hby at_191) rfl k)))) ?_
          refine own_via (T' := T109) (g' := (mkF m 201 #[.val (.int x0), .val (.int x1), .val (.int x2), .val (.int x3), .val (.ref r1), .val (.int (nb.toInt32)), .val (.ref b2), .val (.int (0 : Int32)), .val (.int (1 : Int32)), .val (.int ps103), .val (.int (0 : Int32)), .val (.int (0 : Int32)), .val (.int (0 : Int32))] [(.int (0 : Int32)), (.int (0 : Int32))])) (fun t k => XS.icmpYes X109.here hx rfl (pc0 := 193) (pc' := 200) rfl (hb hby at_193) rfl (flt hc107).2.1 (by decide) (by decide) (XS.iconst X109.here hx rfl (hb hby at_200) k)) ?_
          refine own_via (T' := T109) (g' := (mkF m 213 #[.val (.int x0), .val (.int x1), .val (.int x2), .val (.int x3), .val (.ref r1), .val (.int (nb.toInt32)), .val (.ref b2), .val (.int (0 : Int32)), .val (.int (1 : Int32)), .val (.int ps103), .val (.int (0 : Int32)), .val (.int (0 : Int32)), .val (.int (0 : Int32))] [(.int (1 : Int32))])) (fun t k => XS.icmpNo X109.here hx rfl (hb hby at_201) rfl (teq (by decide : (0 : Int32) = (0 : Int32))).2 (XS.iconst X109.here hx rfl (hb hby at_204) (XS.goto X109.here hx rfl (pc0 := 205) (pc' := 209) rfl (hb hby at_205) (by decide) (by decide) (XS.istore X109.here hx rfl (hb hby at_209) rfl (l' := #[.val (.int x0), .val (.int x1), .val (.int x2), .val (.int x3), .val (.ref r1), .val (.int (nb.toInt32)), .val (.ref b2), .val (.int (0 : Int32)), .val (.int (1 : Int32)), .val (.int ps103), .val (.int (0 : Int32)), .val (.int (0 : Int32)), .val (.int (0 : Int32))]) rfl (XS.iload X109.here hx rfl (hb hby at_211) rfl k))))) ?_
          refine own_retN X109 hx hlk (ty := .boolean) hret (by simp) (hb hby at_213) (by decide) (by decide) ?_
          exact ⟨by rw [own_f0] <;> rfl, N109⟩
theorem own_law (x0 x1 x2 x3 : Int32) : own_f0 x0 x1 x2 x3 = 1 := rfl
set_option maxRecDepth 65536 in
set_option maxHeartbeats 40000000 in
theorem own_comes {Post : Tables → Env → Array Value → State → Outcome → State → Prop} (hpost : ∀ tb e args s v u, (limb_1_1.after args s (.returned v) u = true ∧ limb_1_2.after args s (.returned v) u = true ∧ True) → FrameEnd s (.returned v) u (Jvm.fieldLocs frame_1_writes args s ++ Jvm.arrayLocs frame_1_arrays args s ++ Jvm.staticLocs frame_1_statics s) 24 128 → Post tb e args s (.returned v) u) :
    ArmFor flags0 classFile x code maxLocals ret World_1 tables_1 room_1 Calls_1 rest_1 Pre_1 Post := by
  intro l hfl _ _ p e ha hc hk s m args below hf hA hF happ hP
  obtain ⟨hcalls, hrest, hpre⟩ := hP
  obtain ⟨-, -, -, hnamed, -, -, -, hat⟩ := (Spec.applies_iff hf).mp happ
  obtain ⟨hg, hn⟩ := and_e (Cond.before_iff.mp (show (Jvm.Cond.and given_1 narrow_1).before args s = true from hpre))
  obtain ⟨g1, g2⟩ := and_e hg
  obtain ⟨g3, g4⟩ := and_e g2
  obtain ⟨g5, g6⟩ := and_e g4
  obtain ⟨g7, g8⟩ := and_e g6
  obtain ⟨w0, w1, w2, w3, rfl⟩ : ∃ w0 w1 w2 w3 : Value, args = #[w0, w1, w2, w3] := by
    have hs : args.size = 4 := by simpa [Cond.value, given_1] using g1
    obtain ⟨L⟩ := args
    match L, hs with
    | [w0, w1, w2, w3], _ => exact ⟨w0, w1, w2, w3, rfl⟩
  have hw := fun d (hd : d ∈ tables_1) => atoms_spec (ws := Jvm.Cond.code x code maxLocals ret :: tables_1) hat d (List.mem_cons_of_mem _ hd)
  have hfit : Fit s := fun {y c} hc i hi => by
    obtain ⟨ha, rfl⟩ := Array.getElem?_eq_some_iff.mp hc
    have q := List.all_eq_true.mp ((Array.all_eq_true_iff_forall_mem.mp hF) _ (Array.getElem_mem ha)) i (List.mem_range.mpr hi)
    simpa [Array.getElem?_eq_getElem hi] using q
  obtain ⟨i0, ei0⟩ := is_v g3
  obtain rfl : w0 = (.int i0) := Option.some.inj ei0
  obtain ⟨i1, ei1⟩ := is_v g5
  obtain rfl : w1 = (.int i1) := Option.some.inj ei1
  obtain ⟨i2, ei2⟩ := is_v g7
  obtain rfl : w2 = (.int i2) := Option.some.inj ei2
  obtain ⟨i3, ei3⟩ := is_v g8
  obtain rfl : w3 = (.int i3) := Option.some.inj ei3
  obtain ⟨n, o, h1, h2, h3, _, L, rfl, ⟨hval, N⟩, hq⟩ := own_mt0 l s _ hw i0 i1 i2 i3 s.heap s.heap.size (Nat.le_refl _) tables_1 p e ha hc hk s m _ below hf ((Spec.applies_iff_loose hf).mp happ).1 ⟨rfl, State.Warmed39.refl s, rfl⟩ trivial
  rw [own_law i0 i1 i2 i3] at hval
  subst hval
  refine ⟨n, _, h1, h2, h3, hpost _ _ _ _ _ _ ⟨Cond.after_iff.mpr rfl, Cond.after_iff.mpr (eq_i res_at (Term.int_eval (1)) rfl), trivial⟩ ⟨hq.1, hq.2.1, (hq.2.2.sift fun y hy => Or.inr (N y hy)).mono (by decide) (by decide)⟩⟩
theorem main_1_1 : Claimed_1_1 := own_comes fun _ _ _ _ _ _ h hF => ⟨h.1, hF⟩
theorem main_1_2 : Claimed_1_2 := own_comes fun _ _ _ _ _ _ h hF => ⟨h.2.1, hF⟩
end Jvm.Pilot.@@N@@
namespace Jvm.Pilot.@@N@@
open Jvm Jvm.ClassFile Sem Op Lib Jvm.Free Jvm.Stand Jvm.Pilot.@@N@@.Jvm.D
/-! MADE BY PROGRAM (witnessworld.py) out of the Statement's table words and the real class files: 13 classes; the members and pool entries that the words name. The judged class is class 1, her method 1. -/
namespace start1
open Jvm.ClassFile
def u (s : String) : CpInfo := .utf8 (stringToUtf16 s)
/-- a pool by its gaps: so many unusable entries, then the entry; so many at the end -/
def gap : Nat → List CpInfo → List CpInfo
  | 0, r => r
  | n + 1, r => .unusable :: gap n r
def poolList (es : List (Nat × CpInfo)) (last : Nat) : List CpInfo := es.foldr (fun e r => gap e.1 (e.2 :: r)) (gap last [])
def pool (es : List (Nat × CpInfo)) (last : Nat) : Array CpInfo := ⟨poolList es last⟩
def fileOf (pool : Array CpInfo) (this : Nat) (attrs : Array Attribute := #[]) (ms : Array MethodInfo := #[]) (fl : Nat := 33) (sup : Nat := 0) (ifs : Array Nat := #[]) (fds : Array FieldInfo := #[]) : ClassFile where
  minorVersion := 0
  majorVersion := 65
  constantPool := pool
  accessFlags := fl
  thisClass := this
  superClass := sup
  interfaces := ifs
  fields := fds
  methods := ms
  attributes := attrs
def plain (name : String) (sup : Option ClassId) : Class where
  name := name
  kind := .ordinary
  loader := none
  accessFlags := 33
  super := sup
  interfaces := #[]
  cf := none
  fields := #[]
  methods := #[]
  instanceTypes := #[]
  staticTypes := #[]
  resolved := #[]
  callSites := []
  init := .initialized
  statics := none
  mirror := none

def pool0 : Array CpInfo := pool [(5, u "<init>"), (0, u "()V"), (1, .class_ 10), (1, u "java/lang/Object"), (85, u "clone"), (0, u "()Ljava/lang/Object;")] 26

def k0c0 : Code := { maxStack := 0, maxLocals := 1, code := object_method_1_code, exceptionTable := #[], attributes := #[] }
def k0m0 : Method := { name := "<init>", desc := "()V", sig := { parameters := [], returnType := none }, accessFlags := 1, code := some k0c0 }
def k0m1 : Method := { name := "clone", desc := "()Ljava/lang/Object;", sig := { parameters := [], returnType := some (.object "java/lang/Object") }, accessFlags := 260, code := none }
/-- java/lang/Object -/
def k0 : Class := { plain "java/lang/Object" none with
  accessFlags := 33
  interfaces := #[]
  cf := some (fileOf pool0 8 #[] #[{ accessFlags := 1, nameIndex := 5, descriptorIndex := 6, attributes := #[] }, { accessFlags := 260, nameIndex := 96, descriptorIndex := 97, attributes := #[] }] 33 0 #[] #[])
  fields := #[]
  methods := #[k0m0, k0m1]
  instanceTypes := #[]
  staticTypes := #[]
  resolved := Array.replicate 124 none
  statics := none }

def pool1 : Array CpInfo := pool [(2, .class_ 4), (1, u "java/lang/Object"), (0, u "<init>"), (0, u "()V"), (0, .methodref 8 9), (0, .class_ 10), (0, .nameAndType 11 12), (0, u "com/example/concordia/concordia/wire/FrameReaderHasRemainingPinLaw"), (0, u "body"), (0, u "(I)[B"), (0, .class_ 14), (0, u "com/example/concordia/concordia/wire/FrameReader"), (0, .methodref 13 16), (0, .nameAndType 5 17), (0, u "([B)V"), (0, .methodref 13 19), (0, .nameAndType 20 21), (0, u "hasRemaining"), (0, u "()Z"), (0, .methodref 8 23), (0, .nameAndType 24 25), (0, u "step"), (0, u "(Lcom/example/concordia/concordia/wire/FrameReader;III)I"), (0, .methodref 13 27), (0, .nameAndType 28 21), (0, u "readBoolean"), (0, .methodref 13 30), (0, .nameAndType 31 32), (0, u "readInt"), (0, u "()I"), (0, .methodref 13 34), (0, .nameAndType 35 36), (0, u "readLong"), (0, u "()J"), (0, .methodref 13 38), (0, .nameAndType 39 40), (0, u "readRest"), (0, u "()[B"), (2, u "law"), (0, u "(IIII)Z")] 8

def k1m0 : Method := { name := "<init>", desc := "()V", sig := { parameters := [], returnType := none }, accessFlags := 1, code := none }
def k1c1 : Code := { maxStack := 4, maxLocals := 13, code := code, exceptionTable := #[], attributes := #[] }
def k1m1 : Method := { name := "law", desc := "(IIII)Z", sig := { parameters := [.int, .int, .int, .int], returnType := some .boolean }, accessFlags := 9, code := some k1c1 }
def k1c2 : Code := { maxStack := 2, maxLocals := 1, code := method_3_code, exceptionTable := #[], attributes := #[] }
def k1m2 : Method := { name := "body", desc := "(I)[B", sig := { parameters := [.int], returnType := some (.array .byte) }, accessFlags := 10, code := some k1c2 }
def k1c3 : Code := { maxStack := 2, maxLocals := 5, code := method_4_code, exceptionTable := #[], attributes := #[] }
def k1m3 : Method := { name := "step", desc := "(Lcom/example/concordia/concordia/wire/FrameReader;III)I", sig := { parameters := [(.object "com/example/concordia/concordia/wire/FrameReader"), .int, .int, .int], returnType := some .int }, accessFlags := 10, code := some k1c3 }
/-- com/example/concordia/concordia/wire/FrameReaderHasRemainingPinLaw -/
def k1 : Class := { plain "com/example/concordia/concordia/wire/FrameReaderHasRemainingPinLaw" (some 0) with
  accessFlags := 49
  interfaces := #[]
  cf := some (fileOf pool1 8 #[] #[{ accessFlags := 1, nameIndex := 5, descriptorIndex := 6, attributes := #[] }, { accessFlags := 9, nameIndex := 43, descriptorIndex := 44, attributes := #[] }, { accessFlags := 10, nameIndex := 11, descriptorIndex := 12, attributes := #[] }, { accessFlags := 10, nameIndex := 24, descriptorIndex := 25, attributes := #[] }] 49 2 #[] #[])
  fields := #[]
  methods := #[k1m0, k1m1, k1m2, k1m3]
  instanceTypes := #[]
  staticTypes := #[]
  resolved := Array.replicate 53 none
  statics := none }

def pool2 : Array CpInfo := pool [(1, .methodref 2 3), (0, .class_ 4), (0, .nameAndType 5 6), (0, u "java/lang/Object"), (0, u "<init>"), (0, u "()V"), (0, .fieldref 8 9), (0, .class_ 10), (0, .nameAndType 11 12), (0, u "com/example/concordia/concordia/wire/FrameReader"), (0, u "body"), (0, u "[B"), (2, .methodref 8 16), (0, .nameAndType 17 18), (0, u "need"), (0, u "(I)V"), (0, .fieldref 8 20), (0, .nameAndType 21 22), (0, u "position"), (0, u "I"), (0, .methodref 24 25), (0, .class_ 26), (0, .nameAndType 27 28), (0, u "com/example/concordia/concordia/wire/Frames"), (0, u "intAt"), (0, u "([BI)I"), (2, .long 4294967295), (4, u "()I"), (0, .methodref 38 39), (0, .class_ 40), (0, .nameAndType 41 42), (0, u "java/util/Arrays"), (0, u "copyOfRange"), (0, u "([BII)[B"), (13, u "readInt"), (13, .class_ 72), (1, u "com/example/concordia/concordia/wire/FrameReader$ElementReader"), (12, u "NULL_LENGTH"), (2, u "([B)V"), (3, u "readLong"), (0, u "()J"), (0, u "readBoolean"), (0, u "()Z"), (2, u "()[B"), (6, u "readRest"), (0, u "hasRemaining")] 23

def k2c0 : Code := { maxStack := 2, maxLocals := 2, code := prog_128_method_1_code, exceptionTable := #[], attributes := #[] }
def k2m0 : Method := { name := "<init>", desc := "([B)V", sig := { parameters := [(.array .byte)], returnType := none }, accessFlags := 1, code := some k2c0 }
def k2c1 : Code := { maxStack := 3, maxLocals := 2, code := prog_128_method_2_code, exceptionTable := #[], attributes := #[] }
def k2m1 : Method := { name := "readInt", desc := "()I", sig := { parameters := [], returnType := some .int }, accessFlags := 1, code := some k2c1 }
def k2c2 : Code := { maxStack := 6, maxLocals := 3, code := prog_128_method_3_code, exceptionTable := #[], attributes := #[] }
def k2m2 : Method := { name := "readLong", desc := "()J", sig := { parameters := [], returnType := some .long }, accessFlags := 1, code := some k2c2 }
def k2c3 : Code := { maxStack := 5, maxLocals := 1, code := prog_128_method_4_code, exceptionTable := #[], attributes := #[] }
def k2m3 : Method := { name := "readBoolean", desc := "()Z", sig := { parameters := [], returnType := some .boolean }, accessFlags := 1, code := some k2c3 }
def k2c4 : Code := { maxStack := 3, maxLocals := 2, code := prog_128_method_8_code, exceptionTable := #[], attributes := #[] }
def k2m4 : Method := { name := "readRest", desc := "()[B", sig := { parameters := [], returnType := some (.array .byte) }, accessFlags := 1, code := some k2c4 }
def k2c5 : Code := { maxStack := 2, maxLocals := 1, code := prog_128_method_9_code, exceptionTable := #[], attributes := #[] }
def k2m5 : Method := { name := "hasRemaining", desc := "()Z", sig := { parameters := [], returnType := some .boolean }, accessFlags := 1, code := some k2c5 }
def k2c6 : Code := { maxStack := 5, maxLocals := 2, code := prog_128_method_11_code, exceptionTable := #[], attributes := #[] }
def k2m6 : Method := { name := "need", desc := "(I)V", sig := { parameters := [.int], returnType := none }, accessFlags := 2, code := some k2c6 }
/-- com/example/concordia/concordia/wire/FrameReader -/
def k2 : Class := { plain "com/example/concordia/concordia/wire/FrameReader" (some 0) with
  accessFlags := 49
  interfaces := #[]
  cf := some (fileOf pool2 8 #[.nestMembers #[70]] #[{ accessFlags := 1, nameIndex := 5, descriptorIndex := 88, attributes := #[] }, { accessFlags := 1, nameIndex := 56, descriptorIndex := 36, attributes := #[] }, { accessFlags := 1, nameIndex := 92, descriptorIndex := 93, attributes := #[] }, { accessFlags := 1, nameIndex := 94, descriptorIndex := 95, attributes := #[] }, { accessFlags := 1, nameIndex := 105, descriptorIndex := 98, attributes := #[] }, { accessFlags := 1, nameIndex := 106, descriptorIndex := 95, attributes := #[] }, { accessFlags := 2, nameIndex := 17, descriptorIndex := 18, attributes := #[] }] 49 2 #[] #[{ accessFlags := 26, nameIndex := 85, descriptorIndex := 22, attributes := #[] }, { accessFlags := 18, nameIndex := 11, descriptorIndex := 12, attributes := #[] }, { accessFlags := 2, nameIndex := 21, descriptorIndex := 22, attributes := #[] }])
  fields := #[{ name := "NULL_LENGTH", type := .int, accessFlags := 26, slot := 0, constantValue := 0 }, { name := "body", type := (.array .byte), accessFlags := 18, slot := 0, constantValue := 0 }, { name := "position", type := .int, accessFlags := 2, slot := 1, constantValue := 0 }]
  methods := #[k2m0, k2m1, k2m2, k2m3, k2m4, k2m5, k2m6]
  instanceTypes := #[(.array .byte), .int]
  staticTypes := #[.int]
  resolved := Array.replicate 130 none
  statics := none }

def pool3 : Array CpInfo := pool [(2, .class_ 4), (1, u "java/lang/Object"), (0, u "<init>"), (0, u "()V"), (7, .class_ 16), (1, u "java/util/Arrays"), (57, .class_ 76), (1, u "java/util/Arrays$NaturalOrder"), (32, u "()Ljava/lang/Object;"), (3, .class_ 115), (1, u "java/util/Arrays$LegacyMergeSort"), (1, u "Z"), (10, .nameAndType 129 109), (0, u "clone"), (9, u "copyOfRange"), (10, .methodref 151 152), (0, .class_ 153), (0, .nameAndType 154 155), (0, u "java/lang/System"), (0, u "arraycopy"), (0, u "(Ljava/lang/Object;ILjava/lang/Object;II)V"), (148, .methodref 305 306), (0, .class_ 307), (0, .nameAndType 308 309), (0, u "java/lang/Math"), (0, u "min"), (0, u "(II)I"), (0, .methodref 311 128), (0, .class_ 312), (0, u "[B"), (26, .methodref 14 340), (0, .nameAndType 341 342), (0, u "copyOfRangeByte"), (0, u "([BII)[B"), (0, .methodref 14 344), (0, .nameAndType 345 346), (0, u "checkLength"), (0, u "(II)V"), (28, .class_ 376), (0, u "java/util/Arrays$ArrayList"), (68, u "$assertionsDisabled"), (269, u "MIN_ARRAY_SORT_GRAN"), (0, u "I"), (2, u "INSERTIONSORT_THRESHOLD"), (255, .class_ 976), (0, u "java/util/Arrays$ArrayItr")] 52

def k3m0 : Method := { name := "<init>", desc := "()V", sig := { parameters := [], returnType := none }, accessFlags := 2, code := none }
def k3c1 : Code := { maxStack := 4, maxLocals := 2, code := jdk_65_method_131_code, exceptionTable := #[], attributes := #[] }
def k3m1 : Method := { name := "checkLength", desc := "(II)V", sig := { parameters := [.int, .int], returnType := none }, accessFlags := 10, code := some k3c1 }
def k3c2 : Code := { maxStack := 3, maxLocals := 3, code := jdk_65_method_132_code, exceptionTable := #[], attributes := #[] }
def k3m2 : Method := { name := "copyOfRange", desc := "([BII)[B", sig := { parameters := [(.array .byte), .int, .int], returnType := some (.array .byte) }, accessFlags := 9, code := some k3c2 }
def k3c3 : Code := { maxStack := 6, maxLocals := 5, code := jdk_65_method_133_code, exceptionTable := #[], attributes := #[] }
def k3m3 : Method := { name := "copyOfRangeByte", desc := "([BII)[B", sig := { parameters := [(.array .byte), .int, .int], returnType := some (.array .byte) }, accessFlags := 10, code := some k3c3 }
/-- java/util/Arrays -/
def k3 : Class := { plain "java/util/Arrays" (some 0) with
  accessFlags := 49
  interfaces := #[]
  cf := some (fileOf pool3 14 #[.nestMembers #[975, 375, 113, 74]] #[{ accessFlags := 2, nameIndex := 5, descriptorIndex := 6, attributes := #[] }, { accessFlags := 10, nameIndex := 345, descriptorIndex := 346, attributes := #[] }, { accessFlags := 9, nameIndex := 139, descriptorIndex := 342, attributes := #[] }, { accessFlags := 10, nameIndex := 341, descriptorIndex := 342, attributes := #[] }] 49 2 #[] #[{ accessFlags := 26, nameIndex := 715, descriptorIndex := 716, attributes := #[] }, { accessFlags := 26, nameIndex := 719, descriptorIndex := 716, attributes := #[] }, { accessFlags := 4120, nameIndex := 445, descriptorIndex := 117, attributes := #[] }])
  fields := #[{ name := "MIN_ARRAY_SORT_GRAN", type := .int, accessFlags := 26, slot := 0, constantValue := 0 }, { name := "INSERTIONSORT_THRESHOLD", type := .int, accessFlags := 26, slot := 1, constantValue := 0 }, { name := "$assertionsDisabled", type := .boolean, accessFlags := 4120, slot := 2, constantValue := 0 }]
  methods := #[k3m0, k3m1, k3m2, k3m3]
  instanceTypes := #[]
  staticTypes := #[.int, .int, .boolean]
  resolved := Array.replicate 1029 none
  statics := none }

def pool4 : Array CpInfo := pool [(1, .class_ 2), (0, u "java/lang/Cloneable"), (0, .class_ 4), (0, u "java/lang/Object")] 2

/-- java/lang/Cloneable -/
def k4 : Class := { plain "java/lang/Cloneable" (some 0) with
  accessFlags := 1537
  interfaces := #[]
  cf := some (fileOf pool4 1 #[] #[] 1537 3 #[] #[])
  fields := #[]
  methods := #[]
  instanceTypes := #[]
  staticTypes := #[]
  resolved := Array.replicate 7 none
  statics := none }

def pool5 : Array CpInfo := pool [(1, .class_ 2), (0, u "com/example/concordia/concordia/wire/Frames"), (1, .class_ 6), (1, u "java/lang/Object"), (0, u "<init>"), (0, u "()V"), (33, u "intAt"), (0, u "([BI)I"), (12, u "MAX_DATA_LENGTH"), (0, u "I"), (2, u "MAX_LENGTH")] 32

def k5m0 : Method := { name := "<init>", desc := "()V", sig := { parameters := [], returnType := none }, accessFlags := 2, code := none }
def k5c1 : Code := { maxStack := 4, maxLocals := 2, code := prog_132_method_3_code, exceptionTable := #[], attributes := #[] }
def k5m1 : Method := { name := "intAt", desc := "([BI)I", sig := { parameters := [(.array .byte), .int], returnType := some .int }, accessFlags := 9, code := some k5c1 }
/-- com/example/concordia/concordia/wire/Frames -/
def k5 : Class := { plain "com/example/concordia/concordia/wire/Frames" (some 0) with
  accessFlags := 49
  interfaces := #[]
  cf := some (fileOf pool5 1 #[] #[{ accessFlags := 2, nameIndex := 7, descriptorIndex := 8, attributes := #[] }, { accessFlags := 9, nameIndex := 42, descriptorIndex := 43, attributes := #[] }] 49 4 #[] #[{ accessFlags := 25, nameIndex := 56, descriptorIndex := 57, attributes := #[] }, { accessFlags := 25, nameIndex := 60, descriptorIndex := 57, attributes := #[] }])
  fields := #[{ name := "MAX_DATA_LENGTH", type := .int, accessFlags := 25, slot := 0, constantValue := 0 }, { name := "MAX_LENGTH", type := .int, accessFlags := 25, slot := 1, constantValue := 0 }]
  methods := #[k5m0, k5m1]
  instanceTypes := #[]
  staticTypes := #[.int, .int]
  resolved := Array.replicate 93 none
  statics := none }

def pool6 : Array CpInfo := pool [(1, .class_ 2), (0, u "java/lang/Math"), (1, .class_ 6), (1, u "java/lang/Object"), (0, u "<init>"), (0, u "()V"), (89, .class_ 100), (1, u "java/lang/Math$RandomNumberGeneratorHolder"), (71, u "negativeZeroFloatBits"), (0, u "J"), (2, u "negativeZeroDoubleBits"), (24, u "min"), (43, u "$assertionsDisabled"), (0, u "Z"), (88, u "(II)I"), (2, u "twoToTheDoubleScaleDown"), (0, u "D"), (4, u "twoToTheDoubleScaleUp"), (9, u "E"), (3, u "PI"), (2, u "TAU"), (2, u "DEGREES_TO_RADIANS"), (0, u "RADIANS_TO_DEGREES")] 94

def k6m0 : Method := { name := "<init>", desc := "()V", sig := { parameters := [], returnType := none }, accessFlags := 2, code := none }
def k6c1 : Code := { maxStack := 2, maxLocals := 2, code := jdk_29_method_69_code, exceptionTable := #[], attributes := #[] }
def k6m1 : Method := { name := "min", desc := "(II)I", sig := { parameters := [.int, .int], returnType := some .int }, accessFlags := 9, code := some k6c1 }
/-- java/lang/Math -/
def k6 : Class := { plain "java/lang/Math" (some 0) with
  accessFlags := 49
  interfaces := #[]
  cf := some (fileOf pool6 1 #[.nestMembers #[98]] #[{ accessFlags := 2, nameIndex := 7, descriptorIndex := 8, attributes := #[] }, { accessFlags := 9, nameIndex := 201, descriptorIndex := 335, attributes := #[] }] 49 4 #[] #[{ accessFlags := 25, nameIndex := 354, descriptorIndex := 339, attributes := #[] }, { accessFlags := 25, nameIndex := 358, descriptorIndex := 339, attributes := #[] }, { accessFlags := 25, nameIndex := 361, descriptorIndex := 339, attributes := #[] }, { accessFlags := 26, nameIndex := 364, descriptorIndex := 339, attributes := #[] }, { accessFlags := 26, nameIndex := 365, descriptorIndex := 339, attributes := #[] }, { accessFlags := 26, nameIndex := 172, descriptorIndex := 173, attributes := #[] }, { accessFlags := 26, nameIndex := 176, descriptorIndex := 173, attributes := #[] }, { accessFlags := 8, nameIndex := 344, descriptorIndex := 339, attributes := #[] }, { accessFlags := 8, nameIndex := 338, descriptorIndex := 339, attributes := #[] }, { accessFlags := 4120, nameIndex := 245, descriptorIndex := 246, attributes := #[] }])
  fields := #[{ name := "E", type := .double, accessFlags := 25, slot := 0, constantValue := 0 }, { name := "PI", type := .double, accessFlags := 25, slot := 1, constantValue := 0 }, { name := "TAU", type := .double, accessFlags := 25, slot := 2, constantValue := 0 }, { name := "DEGREES_TO_RADIANS", type := .double, accessFlags := 26, slot := 3, constantValue := 0 }, { name := "RADIANS_TO_DEGREES", type := .double, accessFlags := 26, slot := 4, constantValue := 0 }, { name := "negativeZeroFloatBits", type := .long, accessFlags := 26, slot := 5, constantValue := 0 }, { name := "negativeZeroDoubleBits", type := .long, accessFlags := 26, slot := 6, constantValue := 0 }, { name := "twoToTheDoubleScaleUp", type := .double, accessFlags := 8, slot := 7, constantValue := 0 }, { name := "twoToTheDoubleScaleDown", type := .double, accessFlags := 8, slot := 8, constantValue := 0 }, { name := "$assertionsDisabled", type := .boolean, accessFlags := 4120, slot := 9, constantValue := 0 }]
  methods := #[k6m0, k6m1]
  instanceTypes := #[]
  staticTypes := #[.double, .double, .double, .double, .double, .long, .long, .double, .double, .boolean]
  resolved := Array.replicate 460 none
  statics := none }

def pool7 : Array CpInfo := pool [(2, .class_ 4), (1, u "java/lang/Object"), (0, u "<init>"), (0, u "()V"), (1, .class_ 10), (1, u "java/lang/System"), (0, u "allowSecurityManager"), (0, u "I"), (16, u "cons"), (0, u "Ljava/io/Console;"), (77, .class_ 110), (1, u "java/lang/System$CallersHolder"), (43, u "initialErrStream"), (0, u "Ljava/io/PrintStream;"), (19, u "security"), (0, u "Ljava/lang/SecurityManager;"), (31, .class_ 209), (0, u "java/lang/System$1"), (7, u "props"), (0, u "Ljava/util/Properties;"), (2, u "lineSeparator"), (0, u "Ljava/lang/String;"), (96, .class_ 321), (1, u "java/lang/System$LoggerFinder"), (5, .class_ 328), (0, u "java/lang/System$Logger"), (67, u "err"), (2, u "out"), (91, u "notSupportedJnuEncoding"), (15, u "in"), (17, u "initialIn"), (0, u "Ljava/io/InputStream;"), (35, u "bootLayer"), (0, u "Ljava/lang/ModuleLayer;"), (99, .class_ 664), (0, u "java/lang/System$2"), (9, u "NEVER"), (2, u "MAYBE"), (49, u "arraycopy"), (0, u "(Ljava/lang/Object;ILjava/lang/Object;II)V"), (72, .class_ 802), (0, u "java/lang/System$Logger$Level")] 31

def k7m0 : Method := { name := "<init>", desc := "()V", sig := { parameters := [], returnType := none }, accessFlags := 2, code := none }
def k7m1 : Method := { name := "arraycopy", desc := "(Ljava/lang/Object;ILjava/lang/Object;II)V", sig := { parameters := [(.object "java/lang/Object"), .int, (.object "java/lang/Object"), .int, .int], returnType := none }, accessFlags := 265, code := none }
/-- java/lang/System -/
def k7 : Class := { plain "java/lang/System" (some 0) with
  accessFlags := 49
  interfaces := #[]
  cf := some (fileOf pool7 8 #[.nestMembers #[319, 327, 801, 108, 663, 208]] #[{ accessFlags := 2, nameIndex := 5, descriptorIndex := 6, attributes := #[] }, { accessFlags := 265, nameIndex := 727, descriptorIndex := 728, attributes := #[] }] 49 2 #[] #[{ accessFlags := 25, nameIndex := 507, descriptorIndex := 526, attributes := #[] }, { accessFlags := 25, nameIndex := 399, descriptorIndex := 155, attributes := #[] }, { accessFlags := 25, nameIndex := 396, descriptorIndex := 155, attributes := #[] }, { accessFlags := 10, nameIndex := 525, descriptorIndex := 526, attributes := #[] }, { accessFlags := 26, nameIndex := 674, descriptorIndex := 12, attributes := #[] }, { accessFlags := 26, nameIndex := 677, descriptorIndex := 12, attributes := #[] }, { accessFlags := 10, nameIndex := 11, descriptorIndex := 12, attributes := #[] }, { accessFlags := 74, nameIndex := 175, descriptorIndex := 176, attributes := #[] }, { accessFlags := 10, nameIndex := 491, descriptorIndex := 222, attributes := #[] }, { accessFlags := 74, nameIndex := 29, descriptorIndex := 30, attributes := #[] }, { accessFlags := 74, nameIndex := 154, descriptorIndex := 155, attributes := #[] }, { accessFlags := 10, nameIndex := 217, descriptorIndex := 218, attributes := #[] }, { accessFlags := 10, nameIndex := 221, descriptorIndex := 222, attributes := #[] }, { accessFlags := 8, nameIndex := 562, descriptorIndex := 563, attributes := #[] }])
  fields := #[{ name := "in", type := (.object "java/io/InputStream"), accessFlags := 25, slot := 0, constantValue := 0 }, { name := "out", type := (.object "java/io/PrintStream"), accessFlags := 25, slot := 1, constantValue := 0 }, { name := "err", type := (.object "java/io/PrintStream"), accessFlags := 25, slot := 2, constantValue := 0 }, { name := "initialIn", type := (.object "java/io/InputStream"), accessFlags := 10, slot := 3, constantValue := 0 }, { name := "NEVER", type := .int, accessFlags := 26, slot := 4, constantValue := 0 }, { name := "MAYBE", type := .int, accessFlags := 26, slot := 5, constantValue := 0 }, { name := "allowSecurityManager", type := .int, accessFlags := 10, slot := 6, constantValue := 0 }, { name := "security", type := (.object "java/lang/SecurityManager"), accessFlags := 74, slot := 7, constantValue := 0 }, { name := "notSupportedJnuEncoding", type := (.object "java/lang/String"), accessFlags := 10, slot := 8, constantValue := 0 }, { name := "cons", type := (.object "java/io/Console"), accessFlags := 74, slot := 9, constantValue := 0 }, { name := "initialErrStream", type := (.object "java/io/PrintStream"), accessFlags := 74, slot := 10, constantValue := 0 }, { name := "props", type := (.object "java/util/Properties"), accessFlags := 10, slot := 11, constantValue := 0 }, { name := "lineSeparator", type := (.object "java/lang/String"), accessFlags := 10, slot := 12, constantValue := 0 }, { name := "bootLayer", type := (.object "java/lang/ModuleLayer"), accessFlags := 8, slot := 13, constantValue := 0 }]
  methods := #[k7m0, k7m1]
  instanceTypes := #[]
  staticTypes := #[(.object "java/io/InputStream"), (.object "java/io/PrintStream"), (.object "java/io/PrintStream"), (.object "java/io/InputStream"), .int, .int, .int, (.object "java/lang/SecurityManager"), (.object "java/lang/String"), (.object "java/io/Console"), (.object "java/io/PrintStream"), (.object "java/util/Properties"), (.object "java/lang/String"), (.object "java/lang/ModuleLayer")]
  resolved := Array.replicate 834 none
  statics := none }

def pool8 : Array CpInfo := pool [(1, u "java/io/Serializable"), (0, .class_ 1), (0, u "java/lang/Object"), (0, .class_ 3)] 3

/-- java/io/Serializable -/
def k8 : Class := { plain "java/io/Serializable" (some 0) with
  accessFlags := 1537
  interfaces := #[]
  cf := some (fileOf pool8 2 #[] #[] 1537 4 #[] #[])
  fields := #[]
  methods := #[]
  instanceTypes := #[]
  staticTypes := #[]
  resolved := Array.replicate 8 none
  statics := none }

/-- the primitive byte -/
def k9 : Class := { plain "byte" none with kind := .primitive 'B', accessFlags := 0x411 }
/-- [B -/
def k10 : Class := { plain "[B" (some 0) with kind := .array 9 .byte, interfaces := #[4, 8], accessFlags := 1041 }

/-- the primitive int -/
def k11 : Class := { plain "int" none with kind := .primitive 'I', accessFlags := 0x411 }
/-- [I -/
def k12 : Class := { plain "[I" (some 0) with kind := .array 11 .int, interfaces := #[4, 8], accessFlags := 1041 }

def heap : Heap := #[]
def classes : Array Class := #[k0, k1, k2, k3, k4, k5, k6, k7, k8, k9, k10, k11, k12]
def interned : List (Array UInt16 × Addr) := []
def slotsUsed : Nat := 0
def theMethod : MethodId := ⟨1, 1⟩
def args0 : Array Value := #[.int 5, .int 3, .int 1, .int 2]
def aboutOver (below : List Frame) : State where
  vm := { classes := classes, interned := interned.toArray }
  heap := heap
  slotsUsed := slotsUsed
  threads := #[{ frames := .invoking theMethod args0 :: below }]
def below0 : List Frame := [.native { method := ⟨0, 0⟩, args := #[] }]
def about1 : State := aboutOver below0
def p0 : Program := .bare "" "" ""
def e0 : Env := launch0.env 0 0 0
theorem w_frames : about1.frames = Frame.invoking theMethod args0 :: below0 := rfl
set_option maxRecDepth 65536 in
theorem w_args : argsFit about1.vm theMethod args0 = true := by decide +kernel
set_option maxRecDepth 65536 in
theorem w_heap : heapFits about1 = true := by decide +kernel
set_option maxRecDepth 65536 in
theorem w_runnable : about1.curStatus? = some .runnable := by decide +kernel
set_option maxRecDepth 65536 in
theorem w_alone : about1.alone = true := by decide +kernel
set_option maxRecDepth 65536 in
theorem w_named : about1.methodNamed? x = some theMethod := by decide +kernel
set_option maxRecDepth 65536 in
theorem w_hears : about1.hears theMethod below0 = true := by decide +kernel
set_option maxRecDepth 65536 in
theorem w_ripe : about1.ripe theMethod args0 below0 = true := by decide +kernel
theorem w_running : about1.status = .running := rfl
set_option maxRecDepth 65536 in
theorem w_room : about1.hasRoom e0.platform room_1 = true :=
  launch0.hasRoom_least _ room_1 (by decide +kernel) (by decide +kernel) (by decide +kernel) (by decide +kernel) (by decide +kernel) (by decide +kernel)
theorem allAtoms_all (ts : List Jvm.Cond) (a : Array Jvm.Value) (st : Jvm.State) : (allAtoms ts).before a st = ts.all (fun c => c.before a st) := by
  induction ts with
  | nil => rfl
  | cons c t ih =>
    show (Jvm.Cond.and c (allAtoms t)).before a st = _
    rw [Jvm.Cond.before_and, ih, List.all_cons]
def words1 : List Jvm.Cond := Jvm.Cond.code x code maxLocals ret :: tables_1
/-- a 'code' word, met by the world's own term for the bytes: nothing is compared byte by byte -/
theorem code_word {y : MethodName} {bytes : ByteArray} {mx : Nat} {rt : Option FieldType} {a : Array Value} {s : State} {m : MethodId} {meth : Method} {c : Code} (h1 : s.methodNamed? y = some m) (h2 : s.vm.method? m = some meth) (h3 : meth.code = some c) (h4 : c.code = bytes)
    (h5 : (c.maxLocals == mx && c.exceptionTable.isEmpty && decide (c.maxStack ≤ mostOperands) && decide (meth.sig.returnType = rt) && !meth.locks && decide (parseMethodDescriptor y.desc = some meth.sig)) = true) : (Jvm.Cond.code y bytes mx rt).before a s = true := by
  simp only [Bool.and_eq_true, beq_iff_eq, Bool.not_eq_true', decide_eq_true_eq] at h5
  obtain ⟨⟨⟨⟨⟨g1, g2⟩, g3⟩, g4⟩, g5⟩, g6⟩ := h5
  simp [Cond.before, Cond.holds, Cond.value, h1, h2, h3, h4, g1, g2, g3, g4, g5, g6]
def isCode : Jvm.Cond → Bool
  | .code _ _ _ _ => true
  | _ => false
theorem all_split {L : List Jvm.Cond} {P : Jvm.Cond → Bool} (h1 : L.all (fun c => isCode c || P c) = true) (h2 : ∀ c ∈ L.filter isCode, P c = true) : L.all P = true := by
  refine List.all_eq_true.mpr fun c hc => ?_
  have h := List.all_eq_true.mp h1 c hc
  rcases Bool.eq_false_or_eq_true (isCode c) with hi | hi
  · exact h2 c (List.mem_filter.mpr ⟨hc, hi⟩)
  · simpa [hi] using h
set_option maxRecDepth 65536 in
theorem w_c0 : (Jvm.Cond.code x code maxLocals ret).before args0 about1 = true := code_word (m := ⟨1, 1⟩) (meth := k1m1) (c := k1c1) (by decide +kernel) rfl rfl rfl (by decide +kernel)
set_option maxRecDepth 65536 in
theorem w_c1 : (Jvm.Cond.code ({ cls := "com/example/concordia/concordia/wire/FrameReaderHasRemainingPinLaw", name := "body", desc := "(I)[B" } : Jvm.MethodName) method_3_code (1 : Nat) (Option.some (Jvm.ClassFile.FieldType.array Jvm.ClassFile.FieldType.byte))).before args0 about1 = true := code_word (m := ⟨1, 2⟩) (meth := k1m2) (c := k1c2) (by decide +kernel) rfl rfl rfl (by decide +kernel)
set_option maxRecDepth 65536 in
theorem w_c2 : (Jvm.Cond.code ({ cls := "com/example/concordia/concordia/wire/FrameReader", name := "<init>", desc := "([B)V" } : Jvm.MethodName) prog_128_method_1_code (2 : Nat) (Option.none : Option Jvm.ClassFile.FieldType)).before args0 about1 = true := code_word (m := ⟨2, 0⟩) (meth := k2m0) (c := k2c0) (by decide +kernel) rfl rfl rfl (by decide +kernel)
set_option maxRecDepth 65536 in
theorem w_c3 : (Jvm.Cond.code ({ cls := "java/lang/Object", name := "<init>", desc := "()V" } : Jvm.MethodName) object_method_1_code (1 : Nat) (Option.none : Option Jvm.ClassFile.FieldType)).before args0 about1 = true := code_word (m := ⟨0, 0⟩) (meth := k0m0) (c := k0c0) (by decide +kernel) rfl rfl rfl (by decide +kernel)
set_option maxRecDepth 65536 in
theorem w_c4 : (Jvm.Cond.code ({ cls := "com/example/concordia/concordia/wire/FrameReader", name := "hasRemaining", desc := "()Z" } : Jvm.MethodName) prog_128_method_9_code (1 : Nat) (Option.some Jvm.ClassFile.FieldType.boolean)).before args0 about1 = true := code_word (m := ⟨2, 5⟩) (meth := k2m5) (c := k2c5) (by decide +kernel) rfl rfl rfl (by decide +kernel)
set_option maxRecDepth 65536 in
theorem w_c5 : (Jvm.Cond.code ({ cls := "com/example/concordia/concordia/wire/FrameReaderHasRemainingPinLaw", name := "step", desc := "(Lcom/example/concordia/concordia/wire/FrameReader;III)I" } : Jvm.MethodName) method_4_code (5 : Nat) (Option.some Jvm.ClassFile.FieldType.int)).before args0 about1 = true := code_word (m := ⟨1, 3⟩) (meth := k1m3) (c := k1c3) (by decide +kernel) rfl rfl rfl (by decide +kernel)
set_option maxRecDepth 65536 in
theorem w_c6 : (Jvm.Cond.code ({ cls := "com/example/concordia/concordia/wire/FrameReader", name := "readRest", desc := "()[B" } : Jvm.MethodName) prog_128_method_8_code (2 : Nat) (Option.some (Jvm.ClassFile.FieldType.array Jvm.ClassFile.FieldType.byte))).before args0 about1 = true := code_word (m := ⟨2, 4⟩) (meth := k2m4) (c := k2c4) (by decide +kernel) rfl rfl rfl (by decide +kernel)
set_option maxRecDepth 65536 in
theorem w_c7 : (Jvm.Cond.code ({ cls := "java/util/Arrays", name := "copyOfRange", desc := "([BII)[B" } : Jvm.MethodName) jdk_65_method_132_code (3 : Nat) (Option.some (Jvm.ClassFile.FieldType.array Jvm.ClassFile.FieldType.byte))).before args0 about1 = true := code_word (m := ⟨3, 2⟩) (meth := k3m2) (c := k3c2) (by decide +kernel) rfl rfl rfl (by decide +kernel)
set_option maxRecDepth 65536 in
theorem w_c8 : (Jvm.Cond.code ({ cls := "com/example/concordia/concordia/wire/FrameReader", name := "readBoolean", desc := "()Z" } : Jvm.MethodName) prog_128_method_4_code (1 : Nat) (Option.some Jvm.ClassFile.FieldType.boolean)).before args0 about1 = true := code_word (m := ⟨2, 3⟩) (meth := k2m3) (c := k2c3) (by decide +kernel) rfl rfl rfl (by decide +kernel)
set_option maxRecDepth 65536 in
theorem w_c9 : (Jvm.Cond.code ({ cls := "com/example/concordia/concordia/wire/FrameReader", name := "need", desc := "(I)V" } : Jvm.MethodName) prog_128_method_11_code (2 : Nat) (Option.none : Option Jvm.ClassFile.FieldType)).before args0 about1 = true := code_word (m := ⟨2, 6⟩) (meth := k2m6) (c := k2c6) (by decide +kernel) rfl rfl rfl (by decide +kernel)
set_option maxRecDepth 65536 in
theorem w_c10 : (Jvm.Cond.code ({ cls := "com/example/concordia/concordia/wire/FrameReader", name := "readInt", desc := "()I" } : Jvm.MethodName) prog_128_method_2_code (2 : Nat) (Option.some Jvm.ClassFile.FieldType.int)).before args0 about1 = true := code_word (m := ⟨2, 1⟩) (meth := k2m1) (c := k2c1) (by decide +kernel) rfl rfl rfl (by decide +kernel)
set_option maxRecDepth 65536 in
theorem w_c11 : (Jvm.Cond.code ({ cls := "com/example/concordia/concordia/wire/Frames", name := "intAt", desc := "([BI)I" } : Jvm.MethodName) prog_132_method_3_code (2 : Nat) (Option.some Jvm.ClassFile.FieldType.int)).before args0 about1 = true := code_word (m := ⟨5, 1⟩) (meth := k5m1) (c := k5c1) (by decide +kernel) rfl rfl rfl (by decide +kernel)
set_option maxRecDepth 65536 in
theorem w_c12 : (Jvm.Cond.code ({ cls := "java/util/Arrays", name := "copyOfRangeByte", desc := "([BII)[B" } : Jvm.MethodName) jdk_65_method_133_code (5 : Nat) (Option.some (Jvm.ClassFile.FieldType.array Jvm.ClassFile.FieldType.byte))).before args0 about1 = true := code_word (m := ⟨3, 3⟩) (meth := k3m3) (c := k3c3) (by decide +kernel) rfl rfl rfl (by decide +kernel)
set_option maxRecDepth 65536 in
theorem w_c13 : (Jvm.Cond.code ({ cls := "java/util/Arrays", name := "checkLength", desc := "(II)V" } : Jvm.MethodName) jdk_65_method_131_code (2 : Nat) (Option.none : Option Jvm.ClassFile.FieldType)).before args0 about1 = true := code_word (m := ⟨3, 1⟩) (meth := k3m1) (c := k3c1) (by decide +kernel) rfl rfl rfl (by decide +kernel)
set_option maxRecDepth 65536 in
theorem w_c14 : (Jvm.Cond.code ({ cls := "java/lang/Math", name := "min", desc := "(II)I" } : Jvm.MethodName) jdk_29_method_69_code (2 : Nat) (Option.some Jvm.ClassFile.FieldType.int)).before args0 about1 = true := code_word (m := ⟨6, 1⟩) (meth := k6m1) (c := k6c1) (by decide +kernel) rfl rfl rfl (by decide +kernel)
set_option maxRecDepth 65536 in
theorem w_c15 : (Jvm.Cond.code ({ cls := "com/example/concordia/concordia/wire/FrameReader", name := "readLong", desc := "()J" } : Jvm.MethodName) prog_128_method_3_code (3 : Nat) (Option.some Jvm.ClassFile.FieldType.long)).before args0 about1 = true := code_word (m := ⟨2, 2⟩) (meth := k2m2) (c := k2c2) (by decide +kernel) rfl rfl rfl (by decide +kernel)
def codes1 : List Jvm.Cond := [Jvm.Cond.code x code maxLocals ret, Jvm.Cond.code ({ cls := "com/example/concordia/concordia/wire/FrameReaderHasRemainingPinLaw", name := "body", desc := "(I)[B" } : Jvm.MethodName) method_3_code (1 : Nat) (Option.some (Jvm.ClassFile.FieldType.array Jvm.ClassFile.FieldType.byte)), Jvm.Cond.code ({ cls := "com/example/concordia/concordia/wire/FrameReader", name := "<init>", desc := "([B)V" } : Jvm.MethodName) prog_128_method_1_code (2 : Nat) (Option.none : Option Jvm.ClassFile.FieldType), Jvm.Cond.code ({ cls := "java/lang/Object", name := "<init>", desc := "()V" } : Jvm.MethodName) object_method_1_code (1 : Nat) (Option.none : Option Jvm.ClassFile.FieldType), Jvm.Cond.code ({ cls := "com/example/concordia/concordia/wire/FrameReader", name := "hasRemaining", desc := "()Z" } : Jvm.MethodName) prog_128_method_9_code (1 : Nat) (Option.some Jvm.ClassFile.FieldType.boolean), Jvm.Cond.code ({ cls := "com/example/concordia/concordia/wire/FrameReaderHasRemainingPinLaw", name := "step", desc := "(Lcom/example/concordia/concordia/wire/FrameReader;III)I" } : Jvm.MethodName) method_4_code (5 : Nat) (Option.some Jvm.ClassFile.FieldType.int), Jvm.Cond.code ({ cls := "com/example/concordia/concordia/wire/FrameReader", name := "readRest", desc := "()[B" } : Jvm.MethodName) prog_128_method_8_code (2 : Nat) (Option.some (Jvm.ClassFile.FieldType.array Jvm.ClassFile.FieldType.byte)), Jvm.Cond.code ({ cls := "java/util/Arrays", name := "copyOfRange", desc := "([BII)[B" } : Jvm.MethodName) jdk_65_method_132_code (3 : Nat) (Option.some (Jvm.ClassFile.FieldType.array Jvm.ClassFile.FieldType.byte)), Jvm.Cond.code ({ cls := "com/example/concordia/concordia/wire/FrameReader", name := "readBoolean", desc := "()Z" } : Jvm.MethodName) prog_128_method_4_code (1 : Nat) (Option.some Jvm.ClassFile.FieldType.boolean), Jvm.Cond.code ({ cls := "com/example/concordia/concordia/wire/FrameReader", name := "need", desc := "(I)V" } : Jvm.MethodName) prog_128_method_11_code (2 : Nat) (Option.none : Option Jvm.ClassFile.FieldType), Jvm.Cond.code ({ cls := "com/example/concordia/concordia/wire/FrameReader", name := "readInt", desc := "()I" } : Jvm.MethodName) prog_128_method_2_code (2 : Nat) (Option.some Jvm.ClassFile.FieldType.int), Jvm.Cond.code ({ cls := "com/example/concordia/concordia/wire/Frames", name := "intAt", desc := "([BI)I" } : Jvm.MethodName) prog_132_method_3_code (2 : Nat) (Option.some Jvm.ClassFile.FieldType.int), Jvm.Cond.code ({ cls := "java/util/Arrays", name := "copyOfRangeByte", desc := "([BII)[B" } : Jvm.MethodName) jdk_65_method_133_code (5 : Nat) (Option.some (Jvm.ClassFile.FieldType.array Jvm.ClassFile.FieldType.byte)), Jvm.Cond.code ({ cls := "java/util/Arrays", name := "checkLength", desc := "(II)V" } : Jvm.MethodName) jdk_65_method_131_code (2 : Nat) (Option.none : Option Jvm.ClassFile.FieldType), Jvm.Cond.code ({ cls := "java/lang/Math", name := "min", desc := "(II)I" } : Jvm.MethodName) jdk_29_method_69_code (2 : Nat) (Option.some Jvm.ClassFile.FieldType.int), Jvm.Cond.code ({ cls := "com/example/concordia/concordia/wire/FrameReader", name := "readLong", desc := "()J" } : Jvm.MethodName) prog_128_method_3_code (3 : Nat) (Option.some Jvm.ClassFile.FieldType.long)]
set_option maxRecDepth 65536 in
theorem codes_eq : words1.filter isCode = codes1 := rfl
theorem w_codes : ∀ c ∈ words1.filter isCode, c.before args0 about1 = true := by
  rw [codes_eq]
  intro c hc
  simp only [codes1, List.mem_cons, List.not_mem_nil, or_false] at hc
  rcases hc with rfl | rfl | rfl | rfl | rfl | rfl | rfl | rfl | rfl | rfl | rfl | rfl | rfl | rfl | rfl | rfl
  · exact w_c0
  · exact w_c1
  · exact w_c2
  · exact w_c3
  · exact w_c4
  · exact w_c5
  · exact w_c6
  · exact w_c7
  · exact w_c8
  · exact w_c9
  · exact w_c10
  · exact w_c11
  · exact w_c12
  · exact w_c13
  · exact w_c14
  · exact w_c15
set_option maxRecDepth 65536 in
theorem w_t1 : (words1.take 24).all (fun c => isCode c || c.before args0 about1) = true := by decide +kernel
set_option maxRecDepth 65536 in
theorem w_t2 : ((words1.drop 24).take 24).all (fun c => isCode c || c.before args0 about1) = true := by decide +kernel
set_option maxRecDepth 65536 in
theorem w_t3 : (((words1.drop 24).drop 24).take 24).all (fun c => isCode c || c.before args0 about1) = true := by decide +kernel
set_option maxRecDepth 65536 in
theorem w_t4 : (((words1.drop 24).drop 24).drop 24).all (fun c => isCode c || c.before args0 about1) = true := by decide +kernel
theorem w_tables : (allAtoms (Jvm.Cond.code x code maxLocals ret :: tables_1)).before args0 about1 = true := by
  rw [allAtoms_all]
  show words1.all (fun c => c.before args0 about1) = true
  refine all_split ?_ w_codes
  rw [← List.take_append_drop 24 words1, List.all_append, w_t1, ← List.take_append_drop 24 (words1.drop 24), List.all_append, w_t2, ← List.take_append_drop 24 ((words1.drop 24).drop 24), List.all_append, w_t3, w_t4]
  rfl
set_option maxRecDepth 65536 in
theorem w_case : (Jvm.Cond.and given_1 narrow_1).before args0 about1 = true := by decide +kernel
theorem w_applies : (headSpec (Jvm.Cond.code x code maxLocals ret :: tables_1) room_1).applies x e0.platform about1 = true :=
  (Spec.applies_iff w_frames).mpr ⟨w_running, w_runnable, w_alone, w_named, w_hears, w_ripe, w_room, w_tables⟩
theorem atStart : AtStart classFile x code maxLocals ret World_1 tables_1 room_1 Calls_1 rest_1 Pre_1 launch0 p0 e0 about1 theMethod args0 below0 :=
  ⟨lists_1, trivial, launch0.admits_env _ _ _, launch0.least_env, fairChoices_fair.cas, fairChoices_fair.clock, w_frames, w_args, w_heap, w_applies, trivial, trivial, w_case⟩
end start1
theorem witness_1 : WitnessClaimed_1 := ⟨start1.p0, start1.e0, start1.about1, start1.theMethod, start1.args0, start1.below0, start1.atStart⟩
end Jvm.Pilot.@@N@@
