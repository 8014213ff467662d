import JvmDerived
import JvmDerived.Pilot.@@N@@Statement
import JvmDerived.Pilot.@@N@@Code
set_option linter.unusedVariables false
set_option linter.unusedSimpArgs false
namespace Jvm.Pilot.@@N@@
open Jvm Jvm.ClassFile Sem Op Lib Jvm.Free Jvm.Stand Jvm.LawKit Jvm.RoadKit Bundle Jvm.Pilot.@@N@@.Jvm.D
/-! my own small kit: a walk by continuation -/
section Own
variable {p : Program} {l : Launch} {e : Env} {R : Room} {s : State} {m : MethodId} {args : Array Value} {below : List Frame} {meth : Method} {c : Code} {T T' : State} {locs : List Loc} {cells slots : Nat} {Z : State} {a0 : Array Value} {h h' h0 : Heap} {g g' : JFrame} {a b : Addr} {ty : FieldType} {vs : List Value} {v w : Value} {sl : Nat} {ws : List Addr}
/-- from the frame g over T the run comes to an end with G -/
def own_Go (p : Program) (e : Env) (below : List Frame) (G : Outcome → State → Prop) (T : State) (g : JFrame) : Prop := ∃ s₂ o, Steps p.tables e below (T.setTop g) s₂ ∧ s₂.status = .running ∧ Ended s₂ below o ∧ G o s₂
def own_End (s : State) (kc ks : Nat) (Q : Option Value → Heap → List Loc → Prop) (o : Outcome) (U' : State) : Prop := ∃ v L, o = .returned v ∧ Q v U'.heap L ∧ FrameEnd s o U' L kc ks
def own_Met (l : Launch) (Z : State) (y : MethodName) (bytes : ByteArray) (maxL : Nat) (ret : Option FieldType) (rm : Room) (as' : Array Value) (h0 : Heap) (Q : Option Value → Heap → List Loc → Prop) : Prop :=
  ∀ ws : List Jvm.Cond, MetFree l y (head1 (Jvm.Cond.code y bytes maxL ret :: ws) rm) (fun a U => a = as' ∧ Z.Warmed39 U.vm ∧ U.heap = h0) (fun _ _ _ _ _ => True) (fun _ U o U' => ∃ v L, o = .returned v ∧ Q v U'.heap L ∧ FrameEnd U o U' L rm.cells rm.slots)
theorem own_via {G : Outcome → State → Prop} (q : ∀ t, Steps p.tables e below (T'.setTop g') t → Steps p.tables e below (T.setTop g) t) (k : own_Go p e below G T' g') : own_Go p e below G T g := by
  obtain ⟨t, o, h1, r⟩ := k; exact ⟨t, o, q t h1, r⟩
theorem own_cast {G : Outcome → State → Prop} (q : g = g') (k : own_Go p e below G T g') : own_Go p e below G T g := q ▸ k
theorem own_intro {y : MethodName} {bytes : ByteArray} {maxL : Nat} {ret : Option FieldType} {rm : Room} {as' : Array Value} {Q : Option Value → Heap → List Loc → Prop} (hp : plainFor y = true)
    (body : ∀ (p : Program) (e : Env) (s : State) (m : MethodId) (below : List Frame) (meth : Method) (c : Code) (s₁ : State), p.tables.exec = Jvm.exec → c.code = bytes → c.maxLocals = maxL → s.vm.findClass y.cls = some m.cls → meth.name = y.name → Z.Warmed39 s.vm → meth.sig.returnType = ret → meth.locks = false → Stand p l e rm s m as' below meth c s₁ [] 0 0 → s₁.heap = h0 → own_Go p e below (own_End s rm.cells rm.slots Q) s₁ (entryFrame m as' maxL)) : own_Met l Z y bytes maxL ret rm as' h0 Q := by
  intro ws
  refine MetFree.of_bodySF hp hisR ?_
  intro p e s m args below meth c s₁ Bd hml hP hK
  obtain ⟨rfl, hZ, hh⟩ := hP
  exact body p e s m below meth c s₁ Bd.exec Bd.bytes hml (findClass_of_methodNamed Bd.named) (name_of_methodNamed Bd.named Bd.method).1 hZ Bd.returns Bd.notSynchronized (Stand.of_body Bd) (by rw [← hh, Bd.state]; rfl)
theorem own_ends {kc ks : Nat} {Q : Option Value → Heap → List Loc → Prop} (X : Stand p l e R s m args below meth c T locs cells slots) (hlk : meth.locks = false) {u : Option Value} (hv : meth.sig.returnType = none → u = none) (hq : Q u T.heap locs) (hc : cells ≤ kc) (hs : slots ≤ ks)
    (st : ∀ fs, (∀ (f : JFrame) (acts : List Action), f.method = m → f.locked = none → f.entered = [] → (doReturn e (T.setTop f) acts u).1 = T.setFrames fs) → Steps p.tables e below (T.setTop g) (T.setFrames fs)) : own_Go p e below (own_End s kc ks Q) T g := by
  obtain ⟨fs, hr, hrun, hended, hW, hsame⟩ := X.leave (v := u) hv hlk
  exact ⟨_, _, st fs hr, hrun, hended, _, _, rfl, hq, ⟨_, rfl⟩, hW, hsame.mono hc hs⟩
theorem own_retI {kc ks : Nat} {Q : Option Value → Heap → List Loc → Prop} (X : Stand p l e R s m args below meth c T locs cells slots) (hx : p.tables.exec = Jvm.exec) (hlk : meth.locks = false) {pc : Nat} {Ls : Array Slot} {z : Int32} {rest : List Value} (hret : meth.sig.returnType = some .int) (hd : decode c.code pc = .ok (.ireturn, 1)) (hc : cells ≤ kc) (hs : slots ≤ ks) (hq : Q (some (.int z)) T.heap locs) : own_Go p e below (own_End s kc ks Q) T (mkF m pc Ls (.int z :: rest)) :=
  own_ends X hlk (fun q => by rw [hret] at q; cases q) hq hc hs fun fs hr => retOut X hx hret rfl (Or.inl ⟨rfl, Or.inl rfl, _, rfl⟩) hd hr
theorem own_retJ {kc ks : Nat} {Q : Option Value → Heap → List Loc → Prop} (X : Stand p l e R s m args below meth c T locs cells slots) (hx : p.tables.exec = Jvm.exec) (hlk : meth.locks = false) {pc : Nat} {Ls : Array Slot} {z : Int64} {rest : List Value} (hret : meth.sig.returnType = some .long) (hd : decode c.code pc = .ok (.lreturn, 1)) (hc : cells ≤ kc) (hs : slots ≤ ks) (hq : Q (some (.long z)) T.heap locs) : own_Go p e below (own_End s kc ks Q) T (mkF m pc Ls (.long z :: rest)) :=
  own_ends X hlk (fun q => by rw [hret] at q; cases q) hq hc hs fun fs hr => retOut X hx hret rfl (Or.inr (Or.inl ⟨rfl, rfl, _, rfl⟩)) hd hr
theorem own_retA {kc ks : Nat} {Q : Option Value → Heap → List Loc → Prop} (X : Stand p l e R s m args below meth c T locs cells slots) (hx : p.tables.exec = Jvm.exec) (hlk : meth.locks = false) {pc : Nat} {Ls : Array Slot} {z : Value} {rest : List Value} (hret : meth.sig.returnType = some ty) (ht : ty.isReference = true) (hz : z.isRef = true) (hd : decode c.code pc = .ok (.areturn, 1)) (hc : cells ≤ kc) (hs : slots ≤ ks) (hq : Q (some z) T.heap locs) : own_Go p e below (own_End s kc ks Q) T (mkF m pc Ls (z :: rest)) :=
  own_ends X hlk (fun q => by rw [hret] at q; cases q) hq hc hs fun fs hr => retOut X hx hret (by cases ty <;> first | rfl | cases ht) (Or.inr (Or.inr (Or.inr (Or.inr ⟨rfl, ht, hz⟩)))) hd hr
theorem own_retN {kc ks : Nat} {Q : Option Value → Heap → List Loc → Prop} (X : Stand p l e R s m args below meth c T locs cells slots) (hx : p.tables.exec = Jvm.exec) (hlk : meth.locks = false) {pc : Nat} {Ls : Array Slot} {z : Int32} {rest : List Value} (hret : meth.sig.returnType = some ty) (ht : ty = .boolean ∨ ty = .byte ∨ ty = .char ∨ ty = .short) (hd : decode c.code pc = .ok (.ireturn, 1)) (hc : cells ≤ kc) (hs : slots ≤ ks) (hq : Q (some (.int (nar ty z))) T.heap locs) : own_Go p e below (own_End s kc ks Q) T (mkF m pc Ls (.int z :: rest)) :=
  own_ends X hlk (fun q => by rw [hret] at q; cases q) hq hc hs fun fs hr => retN X hx hret ht hd hr
theorem own_retV {kc ks : Nat} {Q : Option Value → Heap → List Loc → Prop} (X : Stand p l e R s m args below meth c T locs cells slots) (hx : p.tables.exec = Jvm.exec) (hlk : meth.locks = false) {pc : Nat} {Ls : Array Slot} (hret : meth.sig.returnType = none) (hd : decode c.code pc = .ok (.return_, 1)) (hc : cells ≤ kc) (hs : slots ≤ ks) (hq : Q none T.heap locs) : own_Go p e below (own_End s kc ks Q) T (mkF m pc Ls []) :=
  own_ends X hlk (fun _ => rfl) hq hc hs fun fs hr => X.returnOut hx hret hd hr
theorem own_callSt {y : MethodName} {bytes : ByteArray} {maxL : Nat} {ret : Option FieldType} {rm : Room} {Q : Option Value → Heap → List Loc → Prop} (X : Stand p l e R s m args below meth c T locs cells slots) (hx : p.tables.exec = Jvm.exec) (hZ : Z.Warmed39 s.vm) {own : String} {index : Nat} (hown : s.vm.findClass own = some m.cls)
    (w1 : (Jvm.Cond.methodLink own index y).before a0 Z = true) (w2 : (Jvm.Cond.static y).before a0 Z = true) (w3 : (Jvm.Cond.initialized y.cls).before a0 Z = true) (w4 : (Jvm.Cond.code y bytes maxL ret).before a0 Z = true) (hy : y.cls ≠ "java/lang/invoke/MethodHandle" ∧ y.cls ≠ "java/lang/invoke/VarHandle") {argsL rest : List Value}
    (M : own_Met l Z y bytes maxL ret rm argsL.toArray h Q) (eT : T.heap = h) {W : Nat} (hf : rm.frames + 1 ≤ R.frames) (hl : W + (maxL + 11) + rm.locals ≤ R.locals) {g : JFrame} (hg : g.method = m) (hsize : g.locals.size = c.maxLocals) (hlen : ∀ sig, parseMethodDescriptor y.desc = some sig → argsL.length = sig.parameters.length) (hs : g.stack = argsL.reverse ++ rest) (hW : 2 * g.monitorRoom + (rest.map fun v => v.category).sum ≤ W) (hd : decode c.code g.pc = .ok (.invokestatic index, 3)) (hc : cells + rm.cells ≤ R.cells) (hsl : slots + rm.slots ≤ R.slots) :
    ∃ v T' L, Stand p l e R s m args below meth c T' (locs ++ L) (cells + rm.cells) (slots + rm.slots) ∧ Q v T'.heap L ∧ ∀ target, Steps p.tables e below (T'.setTop { g with pc := g.pc + 3, stack := v.toList ++ rest }) target → Steps p.tables e below (T.setTop g) target := by
  obtain ⟨v, _, ⟨T', L', k', n'⟩, -, X', ⟨L, hQ, l1, l2, l3⟩, st⟩ := Jvm.LawKit.callS X hx (y := y) hown (mvT hZ w1) (mvT hZ w2) (mvT hZ w3) (mvT hZ w4) hy (backOf (W := W) (M []) hZ w4 w3 hf hl) hg hsize (argsL := argsL) (rest := rest) hlen hs hW hd (fun _ _ => ⟨rfl, eT, hc, hsl⟩)
  dsimp only [Pt.U, Pt.locs, Pt.cells, Pt.slots] at X' l1 l2 l3 st hQ
  subst l1 l2 l3
  exact ⟨v, T', L, X', hQ, st⟩
theorem own_callSp {y : MethodName} {bytes : ByteArray} {maxL : Nat} {rm : Room} {Q : Option Value → Heap → List Loc → Prop} (X : Stand p l e R s m args below meth c T locs cells slots) (hx : p.tables.exec = Jvm.exec) (hZ : Z.Warmed39 s.vm) {own : String} {index : Nat} (hown : s.vm.findClass own = some m.cls) (hy1 : y.name = "<init>")
    (w1 : (Jvm.Cond.methodLink own index y).before a0 Z = true) (w2 : (Jvm.Cond.instanceMethod y).before a0 Z = true) (w3 : (Jvm.Cond.initialized y.cls).before a0 Z = true) (w4 : (Jvm.Cond.code y bytes maxL none).before a0 Z = true) (hy : y.cls ≠ "java/lang/invoke/MethodHandle" ∧ y.cls ≠ "java/lang/invoke/VarHandle") {argsL rest : List Value}
    (M : own_Met l Z y bytes maxL none rm (.ref a :: argsL).toArray h Q) (eT : T.heap = h) {W : Nat} (hf : rm.frames + 1 ≤ R.frames) (hl : W + (maxL + 11) + rm.locals ≤ R.locals) {g : JFrame} (hg : g.method = m) (hsize : g.locals.size = c.maxLocals) (hlen : ∀ sig, parseMethodDescriptor y.desc = some sig → argsL.length = sig.parameters.length) (hs : g.stack = argsL.reverse ++ .ref a :: rest) (hW : 2 * g.monitorRoom + (rest.map fun v => v.category).sum ≤ W) (hd : decode c.code g.pc = .ok (.invokespecial index, 3)) (hc : cells + rm.cells ≤ R.cells) (hsl : slots + rm.slots ≤ R.slots) :
    ∃ v T' L, Stand p l e R s m args below meth c T' (locs ++ L) (cells + rm.cells) (slots + rm.slots) ∧ Q v T'.heap L ∧ ∀ target, Steps p.tables e below (T'.setTop { g with pc := g.pc + 3, stack := v.toList ++ rest }) target → Steps p.tables e below (T.setTop g) target := by
  obtain ⟨v, _, ⟨T', L', k', n'⟩, -, X', ⟨L, hQ, l1, l2, l3⟩, st⟩ := X.specialBack hx (y := y) hy1 hown (mvT hZ w1) (mvT hZ w2) (mvT hZ w4) hy (backOf (W := W) (M []) hZ w4 w3 hf hl) hg hsize (Steps.refl _) (a := a) (argsL := argsL) (rest := rest) hlen hs hW hd (fun _ _ => ⟨rfl, eT, hc, hsl⟩)
  dsimp only [Pt.U, Pt.locs, Pt.cells, Pt.slots] at X' l1 l2 l3 st hQ
  subst l1 l2 l3
  exact ⟨v, T', L, X', hQ, fun _ k => st.trans k⟩
theorem own_callVi {y z : MethodName} {bytes : ByteArray} {maxL : Nat} {ret : Option FieldType} {rm : Room} {Q : Option Value → Heap → List Loc → Prop} {C : String} (X : Stand p l e R s m args below meth c T locs cells slots) (hx : p.tables.exec = Jvm.exec) (hZ : Z.Warmed39 s.vm) {own : String} {index : Nat} (hown : s.vm.findClass own = some m.cls)
    (w1 : (Jvm.Cond.methodLink own index y).before a0 Z = true) (w2 : (Jvm.Cond.declares y).before a0 Z = true) (nf : NotFace s y) (w5 : (Jvm.Cond.selects C y z).before a0 Z = true) (w6 : (Jvm.Cond.instanceMethod z).before a0 Z = true) (w3 : (Jvm.Cond.initialized z.cls).before a0 Z = true) (w4 : (Jvm.Cond.code z bytes maxL ret).before a0 Z = true) (hy : y.cls ≠ "java/lang/invoke/MethodHandle" ∧ y.cls ≠ "java/lang/invoke/VarHandle") (E : Exa Z h a C) {argsL rest : List Value}
    (M : own_Met l Z z bytes maxL ret rm (.ref a :: argsL).toArray h Q) (eT : T.heap = h) {W : Nat} (hf : rm.frames + 1 ≤ R.frames) (hl : W + (maxL + 11) + rm.locals ≤ R.locals) {g : JFrame} (hg : g.method = m) (hsize : g.locals.size = c.maxLocals) (hlen : ∀ sig, parseMethodDescriptor y.desc = some sig → argsL.length = sig.parameters.length) (hs : g.stack = argsL.reverse ++ .ref a :: rest) (hW : 2 * g.monitorRoom + (rest.map fun v => v.category).sum ≤ W) (hd : decode c.code g.pc = .ok (.invokevirtual index, 3)) (hc : cells + rm.cells ≤ R.cells) (hsl : slots + rm.slots ≤ R.slots) :
    ∃ v T' L, Stand p l e R s m args below meth c T' (locs ++ L) (cells + rm.cells) (slots + rm.slots) ∧ Q v T'.heap L ∧ ∀ target, Steps p.tables e below (T'.setTop { g with pc := g.pc + 3, stack := v.toList ++ rest }) target → Steps p.tables e below (T.setTop g) target := by
  obtain ⟨cq, kq, qa, qb, qc⟩ := isOf hZ eT E
  obtain ⟨v, _, ⟨T', L', k', n'⟩, -, X', ⟨L, hQ, l1, l2, l3⟩, st⟩ := X.virtualBack hx (y := y) (z := z) hown (mvT hZ w1) (mvT hZ w2) nf (mvT hZ w5) (mvT hZ w6) hy (backOf (W := W) (M []) hZ w4 w3 hf hl) qa qc hg hsize (Steps.refl _) (argsL := argsL) (rest := rest) hlen hs hW hd (fun _ _ => ⟨rfl, eT, hc, hsl⟩)
  dsimp only [Pt.U, Pt.locs, Pt.cells, Pt.slots] at X' l1 l2 l3 st hQ
  subst l1 l2 l3
  exact ⟨v, T', L, X', hQ, fun _ k => st.trans k⟩
/-- the whole contents of an array -/
def own_Av (Z : State) (h : Heap) (a : Addr) (ty : FieldType) (vs : List Value) : Prop := ∃ c : Cell, Arr Z h a c ty ∧ c.slots = vs.toArray ∧ vs.length < 2 ^ 31
theorem own_Av.lt (F : own_Av Z h a ty vs) : a < h.size := by obtain ⟨c, A, -⟩ := F; exact A.lt
theorem own_Av.ext (F : own_Av Z h a ty vs) (E : Ext h h') : own_Av Z h' a ty vs := by obtain ⟨c, A, r⟩ := F; exact ⟨c, A.ext E, r⟩
theorem own_Av.other (F : own_Av Z h b ty vs) (W : Wr h h' a sl v) (q : b ≠ a) : own_Av Z h' b ty vs := by obtain ⟨c, A, r⟩ := F; exact ⟨c, A.other W q, r⟩
theorem own_Av.keep (F : own_Av Z h a ty vs) (K : Keep h h' ws) (q : a ∉ ws) : own_Av Z h' a ty vs := by obtain ⟨c, A, r⟩ := F; exact ⟨c, ⟨K.2.1 a c A.1 q, A.2⟩, r⟩
theorem own_Av.len (F : own_Av Z h a ty vs) : vs.length < 2 ^ 31 := by obtain ⟨c, A, r, q⟩ := F; exact q
theorem own_Av.new {k : ClassId} {z : Int32} (A : Arr Z h a (newA k ty z) ty) : own_Av Z h a ty (List.replicate z.toNatClampNeg (defaultValue ty)) := ⟨_, A, by simp [newA], by rw [List.length_replicate]; have := z.toInt_lt; simp only [Int32.toNatClampNeg]; omega⟩
theorem own_Av.set (F : own_Av Z h a ty vs) {j : Nat} (W : Wr h h' a j v) : own_Av Z h' a ty (vs.set j v) := by
  obtain ⟨c, A, r, q⟩ := F
  refine ⟨_, A.same W, ?_, by rw [List.length_set]; exact q⟩
  simp [Cell.setSlot, r]
theorem own_in {c : Cell} {j : Int32} (r : c.slots = vs.toArray) (hj : ¬ j < 0) (hl : j.toNatClampNeg < vs.length) : ¬ (j < 0 ∨ c.slots.size ≤ j.toNatClampNeg) := by
  rw [r]; simp; exact ⟨Int32.not_lt.mp hj, hl⟩
theorem own_lt_of {α : Type} {vs : List α} {j : Nat} {v : α} (q : vs[j]? = some v) : j < vs.length := (List.getElem?_eq_some_iff.mp q).1
theorem own_ldI (X : Stand p l e R s m args below meth c T locs cells slots) (hx : p.tables.exec = Jvm.exec) (hZ : Z.Warmed39 s.vm) (eT : T.heap = h) (F : own_Av Z h a .int vs) {j : Int32} (hj : ¬ j < 0) (hv : vs[j.toNatClampNeg]? = some v) {g : JFrame} (hg : g.method = m) {rest : List Value} (hs : g.stack = .int j :: .ref a :: rest) (hd : decode c.code g.pc = .ok (.iaload, 1)) :
    ∀ target, Steps p.tables e below (T.setTop { g with pc := g.pc + 1, stack := v :: rest }) target → Steps p.tables e below (T.setTop g) target := by
  obtain ⟨cl, A, r, -⟩ := F
  exact X.iaload hx (j := j) (v := v) (by rw [eT]; exact A.1) (State.isArrayOf_alike hZ.alike A.2.1) A.2.2 (own_in r hj (own_lt_of hv)) (by rw [r]; simpa using hv) hg hs hd
theorem own_ldJ (X : Stand p l e R s m args below meth c T locs cells slots) (hx : p.tables.exec = Jvm.exec) (hZ : Z.Warmed39 s.vm) (eT : T.heap = h) (F : own_Av Z h a .long vs) {j : Int32} (hj : ¬ j < 0) (hv : vs[j.toNatClampNeg]? = some v) {g : JFrame} (hg : g.method = m) {rest : List Value} (hs : g.stack = .int j :: .ref a :: rest) (hd : decode c.code g.pc = .ok (.laload, 1)) :
    ∀ target, Steps p.tables e below (T.setTop { g with pc := g.pc + 1, stack := v :: rest }) target → Steps p.tables e below (T.setTop g) target := by
  obtain ⟨cl, A, r, -⟩ := F
  exact X.laload hx (j := j) (v := v) (by rw [eT]; exact A.1) (State.isArrayOf_alike hZ.alike A.2.1) A.2.2 (own_in r hj (own_lt_of hv)) (by rw [r]; simpa using hv) hg hs hd
theorem own_ldB (X : Stand p l e R s m args below meth c T locs cells slots) (hx : p.tables.exec = Jvm.exec) (hZ : Z.Warmed39 s.vm) (eT : T.heap = h) (F : own_Av Z h a .byte vs) {j : Int32} (hj : ¬ j < 0) (hv : vs[j.toNatClampNeg]? = some v) {g : JFrame} (hg : g.method = m) {rest : List Value} (hs : g.stack = .int j :: .ref a :: rest) (hd : decode c.code g.pc = .ok (.baload, 1)) :
    ∀ target, Steps p.tables e below (T.setTop { g with pc := g.pc + 1, stack := v :: rest }) target → Steps p.tables e below (T.setTop g) target := by
  obtain ⟨cl, A, r, -⟩ := F
  exact X.baloadBytes hx (j := j) (v := v) (by rw [eT]; exact A.1) (State.isArrayOf_alike hZ.alike A.2.1) A.2.2 (own_in r hj (own_lt_of hv)) (by rw [r]; simpa using hv) hg hs hd
theorem own_ldZ (X : Stand p l e R s m args below meth c T locs cells slots) (hx : p.tables.exec = Jvm.exec) (hZ : Z.Warmed39 s.vm) (eT : T.heap = h) (F : own_Av Z h a .boolean vs) {j : Int32} (hj : ¬ j < 0) (hv : vs[j.toNatClampNeg]? = some v) {g : JFrame} (hg : g.method = m) {rest : List Value} (hs : g.stack = .int j :: .ref a :: rest) (hd : decode c.code g.pc = .ok (.baload, 1)) :
    ∀ target, Steps p.tables e below (T.setTop { g with pc := g.pc + 1, stack := v :: rest }) target → Steps p.tables e below (T.setTop g) target := by
  obtain ⟨cl, A, r, -⟩ := F
  exact X.baloadBooleans hx (j := j) (v := v) (by rw [eT]; exact A.1) (State.isArrayOf_alike hZ.alike A.2.1) A.2.2 (own_in r hj (own_lt_of hv)) (by rw [r]; simpa using hv) hg hs hd
theorem own_alen (X : Stand p l e R s m args below meth c T locs cells slots) (hx : p.tables.exec = Jvm.exec) (hZ : Z.Warmed39 s.vm) (eT : T.heap = h) (F : own_Av Z h a ty vs) {n : Int32} (hn : vs.length.toInt32 = n) {g : JFrame} (hg : g.method = m) {rest : List Value} (hs : g.stack = .ref a :: rest) (hd : decode c.code g.pc = .ok (.arraylength, 1)) :
    ∀ target, Steps p.tables e below (T.setTop { g with pc := g.pc + 1, stack := .int n :: rest }) target → Steps p.tables e below (T.setTop g) target := by
  obtain ⟨cl, A, r, -⟩ := F
  have q := X.arraylength hx (by rw [eT]; exact A.1) (State.isArrayOf_alike hZ.alike A.2.1) hg hs hd
  have e1 : cl.slots.size.toInt32 = n := by rw [r]; simpa using hn
  rw [e1] at q; exact q
theorem own_stI (X : Stand p l e R s m args below meth c T locs cells slots) (hx : p.tables.exec = Jvm.exec) (hZ : Z.Warmed39 s.vm) (eT : T.heap = h) (F : own_Av Z h a .int vs) {j x : Int32} (hj : ¬ j < 0) (hl : j.toNatClampNeg < vs.length) {g : JFrame} (hg : g.method = m) {rest : List Value} (hs : g.stack = .int x :: .int j :: .ref a :: rest) (hd : decode c.code g.pc = .ok (.iastore, 1)) :
    ∃ T' h', Stand p l e R s m args below meth c T' (locs ++ [⟨a, j.toNatClampNeg⟩]) cells slots ∧ T'.heap = h' ∧ Wr h h' a j.toNatClampNeg (.int x) ∧ own_Av Z h' a .int (vs.set j.toNatClampNeg (.int x)) ∧ ∀ target, Steps p.tables e below (T'.setTop { g with pc := g.pc + 1, stack := rest }) target → Steps p.tables e below (T.setTop g) target := by
  obtain ⟨cl, A, r, q⟩ := F
  obtain ⟨T', h', X', e', W, st⟩ := stI X hx hZ eT A (own_in r hj hl) hg hs hd
  exact ⟨T', h', X', e', W, own_Av.set ⟨cl, A, r, q⟩ W, st⟩
theorem own_stJ (X : Stand p l e R s m args below meth c T locs cells slots) (hx : p.tables.exec = Jvm.exec) (hZ : Z.Warmed39 s.vm) (eT : T.heap = h) (F : own_Av Z h a .long vs) {j : Int32} {x : Int64} (hj : ¬ j < 0) (hl : j.toNatClampNeg < vs.length) {g : JFrame} (hg : g.method = m) {rest : List Value} (hs : g.stack = .long x :: .int j :: .ref a :: rest) (hd : decode c.code g.pc = .ok (.lastore, 1)) :
    ∃ T' h', Stand p l e R s m args below meth c T' (locs ++ [⟨a, j.toNatClampNeg⟩]) cells slots ∧ T'.heap = h' ∧ Wr h h' a j.toNatClampNeg (.long x) ∧ own_Av Z h' a .long (vs.set j.toNatClampNeg (.long x)) ∧ ∀ target, Steps p.tables e below (T'.setTop { g with pc := g.pc + 1, stack := rest }) target → Steps p.tables e below (T.setTop g) target := by
  obtain ⟨cl, A, r, q⟩ := F
  obtain ⟨T', h', X', e', W, st⟩ := stJ X hx hZ eT A (own_in r hj hl) hg hs hd
  exact ⟨T', h', X', e', W, own_Av.set ⟨cl, A, r, q⟩ W, st⟩
theorem own_stB (X : Stand p l e R s m args below meth c T locs cells slots) (hx : p.tables.exec = Jvm.exec) (hZ : Z.Warmed39 s.vm) (eT : T.heap = h) (F : own_Av Z h a .byte vs) {j x : Int32} (hj : ¬ j < 0) (hl : j.toNatClampNeg < vs.length) {g : JFrame} (hg : g.method = m) {rest : List Value} (hs : g.stack = .int x :: .int j :: .ref a :: rest) (hd : decode c.code g.pc = .ok (.bastore, 1)) :
    ∃ T' h', Stand p l e R s m args below meth c T' (locs ++ [⟨a, j.toNatClampNeg⟩]) cells slots ∧ T'.heap = h' ∧ Wr h h' a j.toNatClampNeg (.int x.toInt8.toInt32) ∧ own_Av Z h' a .byte (vs.set j.toNatClampNeg (.int x.toInt8.toInt32)) ∧ ∀ target, Steps p.tables e below (T'.setTop { g with pc := g.pc + 1, stack := rest }) target → Steps p.tables e below (T.setTop g) target := by
  obtain ⟨cl, A, r, q⟩ := F
  obtain ⟨T', h', X', e', W, st⟩ := stB X hx hZ eT A (own_in r hj hl) hg hs hd
  exact ⟨T', h', X', e', W, own_Av.set ⟨cl, A, r, q⟩ W, st⟩
theorem own_stZ (X : Stand p l e R s m args below meth c T locs cells slots) (hx : p.tables.exec = Jvm.exec) (hZ : Z.Warmed39 s.vm) (eT : T.heap = h) (F : own_Av Z h a .boolean vs) {j x : Int32} (hj : ¬ j < 0) (hl : j.toNatClampNeg < vs.length) {g : JFrame} (hg : g.method = m) {rest : List Value} (hs : g.stack = .int x :: .int j :: .ref a :: rest) (hd : decode c.code g.pc = .ok (.bastore, 1)) :
    ∃ T' h', Stand p l e R s m args below meth c T' (locs ++ [⟨a, j.toNatClampNeg⟩]) cells slots ∧ T'.heap = h' ∧ Wr h h' a j.toNatClampNeg (.int (x &&& 1)) ∧ own_Av Z h' a .boolean (vs.set j.toNatClampNeg (.int (x &&& 1))) ∧ ∀ target, Steps p.tables e below (T'.setTop { g with pc := g.pc + 1, stack := rest }) target → Steps p.tables e below (T.setTop g) target := by
  obtain ⟨cl, A, r, q⟩ := F
  obtain ⟨T', h', X', e', W, st⟩ := stZ X hx hZ eT A (own_in r hj hl) hg hs hd
  exact ⟨T', h', X', e', W, own_Av.set ⟨cl, A, r, q⟩ W, st⟩
theorem own_len {t : Term} {n : Int32} {cl : Cell} (q : (Jvm.Cond.eq (.length t) (.int n)).value args s none s [] = some true) (ht : t.eval args s none [] s = some (.ref a)) (A : Arr s s.heap a cl ty) (hn : ¬ n < 0) : cl.slots.size = n.toNatClampNeg := by
  have ha := Arr.fin (State.Warmed39.refl s).alike A
  by_cases hl : cl.slots.size < 2 ^ 31
  · have e1 := len_f (t := t) ht ha hl
    have e2 : cl.slots.size.toInt32 = n := by
      simp only [Cond.value, e1] at q
      simpa [Term.eval] using q
    rw [← e2]
    simp only [Int32.toNatClampNeg, len_toInt hl]; rfl
  · exfalso
    have e1 : (Term.length t).eval args s none [] s = none := by
      have hl' : ¬ cl.slots.size < 2147483648 := hl
      simp [Term.eval, ht, ha, hl']
    simp [Cond.value, e1] at q
theorem own_elemJ {t : Term} {j : Int32} {v : Int64} {cl : Cell} (q : (Jvm.Cond.eq (.elem t (.int j)) (.long v)).value args s none s [] = some true) (ht : t.eval args s none [] s = some (.ref a)) (A : Arr s s.heap a cl ty) : cl.slots[j.toNatClampNeg]? = some (.long v) := by
  cases e1 : (Term.elem t (.int j)).eval args s none [] s with
  | none => simp [Cond.value, e1] at q
  | some x =>
    have e2 := (elem_in e1 ht rfl A.1).2
    rw [e2]
    simp only [Cond.value, e1] at q
    cases x <;> simp [Term.eval] at q
    rw [q]
theorem own_elemI {t : Term} {j : Int32} {v : Int32} {cl : Cell} (q : (Jvm.Cond.eq (.elem t (.int j)) (.int v)).value args s none s [] = some true) (ht : t.eval args s none [] s = some (.ref a)) (A : Arr s s.heap a cl ty) : cl.slots[j.toNatClampNeg]? = some (.int v) := by
  cases e1 : (Term.elem t (.int j)).eval args s none [] s with
  | none => simp [Cond.value, e1] at q
  | some x =>
    have e2 := (elem_in e1 ht rfl A.1).2
    rw [e2]
    simp only [Cond.value, e1] at q
    cases x <;> simp [Term.eval] at q
    rw [q]
theorem own_Av.of {cl : Cell} (A : Arr Z h a cl ty) (hs : cl.slots.size = vs.length) (hv : ∀ i, i < vs.length → cl.slots[i]? = vs[i]?) (hl : vs.length < 2 ^ 31) : own_Av Z h a ty vs := by
  refine ⟨cl, A, ?_, hl⟩
  apply Array.ext
  · simpa using hs
  · intro i h1 h2
    have h3 : i < vs.length := by rw [← hs]; exact h1
    have := hv i h3
    rw [Array.getElem?_eq_getElem h1, List.getElem?_eq_getElem h3] at this
    simpa using this
theorem own_Sta.keep0 {C n d : String} (F : Sta Z h C n d v) (K : Keep h h' []) : Sta Z h' C n d v := by
  obtain ⟨cf, i, k, f, st, cell, h1, h2, h3, h4, h5, r⟩ := F; exact ⟨cf, i, k, f, st, cell, h1, h2, h3, h4, K.2.1 _ _ h5 nin0, r⟩
theorem own_fldJ {t : Term} {C n d : String} {z : Int64} (q : (Jvm.Cond.eq (.field t C n d) (.long z)).value args s none s [] = some true) (ht : t.eval args s none [] s = some (.ref a)) : Fld s s.heap a C n d (.long z) := by
  have e0 := fld_at (C := C) (n := n) (dd := d) ht
  refine Fld.start ?_
  cases e1 : s.fieldOf? a C n d with
  | none => rw [e1] at e0; simp [Cond.value, e0] at q
  | some x =>
    rw [e1] at e0
    simp only [Cond.value, e0] at q
    cases x <;> simp [Term.eval] at q
    rw [q]
theorem own_cloneI (X : Stand p l e R s m args below meth c T locs cells slots) (hx : p.tables.exec = Jvm.exec) (hZ : Z.Warmed39 s.vm) {own : String} {index : Nat} (hown : s.vm.findClass own = some m.cls)
    (w1 : (Jvm.Cond.methodLink own index ⟨"[I", "clone", "()Ljava/lang/Object;"⟩).before a0 Z = true) (w2 : (Jvm.Cond.sameMethod "[I" "java/lang/Object" "clone" "()Ljava/lang/Object;").before a0 Z = true) (w3 : (Jvm.Cond.native ⟨"java/lang/Object", "clone", "()Ljava/lang/Object;"⟩).before a0 Z = true)
    (w4 : (Jvm.Cond.instanceMethod ⟨"java/lang/Object", "clone", "()Ljava/lang/Object;"⟩).before a0 Z = true) (w5 : (Jvm.Cond.selects "[I" ⟨"[I", "clone", "()Ljava/lang/Object;"⟩ ⟨"java/lang/Object", "clone", "()Ljava/lang/Object;"⟩).before a0 Z = true) (w6 : (Jvm.Cond.castable "[I" "java/lang/Cloneable").before a0 Z = true)
    (eT : T.heap = h) {I : List Int32} (F : own_Av Z h a .int (I.map Value.int)) (E : Exa Z h a "[I") {g : JFrame} (hg : g.method = m) (hsize : g.locals.size = c.maxLocals) {rest : List Value} (hs : g.stack = .ref a :: rest) (hd : decode c.code g.pc = .ok (.invokevirtual index, 3))
    (hf : 1 ≤ R.frames) {W cap : Nat} (hW : 2 * g.monitorRoom + (rest.map fun v => v.category).sum ≤ W) (hl : W + 14 ≤ R.locals) (hcap : I.length ≤ cap) (hc : cells + 1 ≤ R.cells) (hsl : slots + cap ≤ R.slots) :
    ∃ T' h', Stand p l e R s m args below meth c T' locs (cells + 1) (slots + cap) ∧ T'.heap = h' ∧ Ext h h' ∧ own_Av Z h' h.size .int (I.map Value.int) ∧ Exa Z h' h.size "[I" ∧
      ∀ target, Steps p.tables e below (T'.setTop { g with pc := g.pc + 3, stack := .ref h.size :: rest }) target → Steps p.tables e below (T.setTop g) target := by
  obtain ⟨cl, A, r, q⟩ := F
  have FC : FitC Z cl := fitC_of A fun i hi v hv => by
    rw [r] at hv
    simp only [List.getElem?_toArray, List.getElem?_map, Option.map_eq_some_iff] at hv
    obtain ⟨z, -, rfl⟩ := hv
    rfl
  obtain ⟨T', h', X', e', ex, A', E', st⟩ := cloneA X hx hZ hown w1 w2 w3 w4 w5 w6 eT A E FC hg hsize hs hd hf hW hl (by rw [r]; simpa using hcap) hc hsl
  exact ⟨T', h', X', e', ex, ⟨cloneOf cl, A', r, q⟩, E', st⟩
theorem own_callPr {y y' : MethodName} {bytes : ByteArray} {maxL : Nat} {ret : Option FieldType} {rm : Room} {Q : Option Value → Heap → List Loc → Prop} (X : Stand p l e R s m args below meth c T locs cells slots) (hx : p.tables.exec = Jvm.exec) (hZ : Z.Warmed39 s.vm) {own : String} {index : Nat} (hown : s.vm.findClass own = some m.cls)
    (w1 : (Jvm.Cond.methodLink own index y).before a0 Z = true) (w2 : (Jvm.Cond.privateMethod y).before a0 Z = true) (w6 : (Jvm.Cond.instanceMethod y).before a0 Z = true) (w3 : (Jvm.Cond.initialized y.cls).before a0 Z = true) (w4 : (Jvm.Cond.code y bytes maxL ret).before a0 Z = true) (w7 : (Jvm.Cond.selects y.cls y' y').before a0 Z = true) (w8 : (Jvm.Cond.instanceMethod y').before a0 Z = true) (hcl : y'.cls = y.cls) (hy : y.cls ≠ "java/lang/invoke/MethodHandle" ∧ y.cls ≠ "java/lang/invoke/VarHandle") {C : String} (E : Exa Z h a C) {argsL rest : List Value}
    (M : own_Met l Z y bytes maxL ret rm (.ref a :: argsL).toArray h Q) (eT : T.heap = h) {W : Nat} (hf : rm.frames + 1 ≤ R.frames) (hl : W + (maxL + 11) + rm.locals ≤ R.locals) {g : JFrame} (hg : g.method = m) (hsize : g.locals.size = c.maxLocals) (hlen : ∀ sig, parseMethodDescriptor y.desc = some sig → argsL.length = sig.parameters.length) (hs : g.stack = argsL.reverse ++ .ref a :: rest) (hW : 2 * g.monitorRoom + (rest.map fun v => v.category).sum ≤ W) (hd : decode c.code g.pc = .ok (.invokevirtual index, 3)) (hc : cells + rm.cells ≤ R.cells) (hsl : slots + rm.slots ≤ R.slots) :
    ∃ v T' L, Stand p l e R s m args below meth c T' (locs ++ L) (cells + rm.cells) (slots + rm.slots) ∧ Q v T'.heap L ∧ ∀ target, Steps p.tables e below (T'.setTop { g with pc := g.pc + 3, stack := v.toList ++ rest }) target → Steps p.tables e below (T.setTop g) target := by
  obtain ⟨cq, qa, qb⟩ := E.cell
  have nf := notFace_of_selects (args := #[]) (mvT hZ w7)
  obtain ⟨mk', meth', hn', -⟩ := Cond.instanceMethod_spec (mvT (args := #[]) hZ w8)
  obtain ⟨k', hk', hni⟩ := nf mk' hn'
  have hc' := findClass_of_methodNamed hn'
  rw [hcl] at hc'
  have hpriv := Cond.privateMethod_at (mvP hZ w2 (args := #[]))
  have hsel := selects_self_of_private (args := args) hc' hk' hni hpriv (mvT hZ w6) hy
  obtain ⟨v, _, ⟨T', L', k', n'⟩, -, X', ⟨L, hQ, l1, l2, l3⟩, st⟩ := X.privateBack hx (y := y) hown (mvT hZ w1) (mvT hZ w6) hsel hpriv (mvT hZ w4) hy (backOf (W := W) (M []) hZ w4 w3 hf hl) hg hsize (Steps.refl _) (a := a) (by rw [eT]; exact qa) qb (argsL := argsL) (rest := rest) hlen hs hW hd (fun _ _ => ⟨rfl, eT, hc, hsl⟩)
  dsimp only [Pt.U, Pt.locs, Pt.cells, Pt.slots] at X' l1 l2 l3 st hQ
  subst l1 l2 l3
  exact ⟨v, T', L, X', hQ, fun _ k => st.trans k⟩
theorem own_clone {ad : String} (X : Stand p l e R s m args below meth c T locs cells slots) (hx : p.tables.exec = Jvm.exec) (hZ : Z.Warmed39 s.vm) {own : String} {index : Nat} (hown : s.vm.findClass own = some m.cls)
    (w1 : (Jvm.Cond.methodLink own index ⟨ad, "clone", "()Ljava/lang/Object;"⟩).before a0 Z = true) (w2 : (Jvm.Cond.sameMethod ad "java/lang/Object" "clone" "()Ljava/lang/Object;").before a0 Z = true) (w3 : (Jvm.Cond.native ⟨"java/lang/Object", "clone", "()Ljava/lang/Object;"⟩).before a0 Z = true)
    (w4 : (Jvm.Cond.instanceMethod ⟨"java/lang/Object", "clone", "()Ljava/lang/Object;"⟩).before a0 Z = true) (w5 : (Jvm.Cond.selects ad ⟨ad, "clone", "()Ljava/lang/Object;"⟩ ⟨"java/lang/Object", "clone", "()Ljava/lang/Object;"⟩).before a0 Z = true) (w6 : (Jvm.Cond.castable ad "java/lang/Cloneable").before a0 Z = true)
    (eT : T.heap = h) (F : own_Av Z h a ty vs) (hfit : ∀ v ∈ vs, fits ty v = true) (E : Exa Z h a ad) {g : JFrame} (hg : g.method = m) (hsize : g.locals.size = c.maxLocals) {rest : List Value} (hs : g.stack = .ref a :: rest) (hd : decode c.code g.pc = .ok (.invokevirtual index, 3))
    (hf : 1 ≤ R.frames) {W cap : Nat} (hW : 2 * g.monitorRoom + (rest.map fun v => v.category).sum ≤ W) (hl : W + 14 ≤ R.locals) (hcap : vs.length ≤ cap) (hc : cells + 1 ≤ R.cells) (hsl : slots + cap ≤ R.slots) :
    ∃ T' h', Stand p l e R s m args below meth c T' locs (cells + 1) (slots + cap) ∧ T'.heap = h' ∧ Ext h h' ∧ own_Av Z h' h.size ty vs ∧ Exa Z h' h.size ad ∧
      ∀ target, Steps p.tables e below (T'.setTop { g with pc := g.pc + 3, stack := .ref h.size :: rest }) target → Steps p.tables e below (T.setTop g) target := by
  obtain ⟨cl, A, r, q⟩ := F
  have FC : FitC Z cl := fitC_of A fun i hi v hv => by
    rw [r] at hv
    simp only [List.getElem?_toArray] at hv
    exact hfit v (List.mem_of_getElem? hv)
  obtain ⟨T', h', X', e', ex, A', E', st⟩ := cloneA X hx hZ hown w1 w2 w3 w4 w5 w6 eT A E FC hg hsize hs hd hf hW hl (by rw [r]; simpa using hcap) hc hsl
  exact ⟨T', h', X', e', ex, ⟨cloneOf cl, A', r, q⟩, E', st⟩
theorem own_Av.arv (F : own_Av Z h a ty vs) {dv : Value} (hfit : ∀ v ∈ vs, fits ty v = true) : ∃ k, Arv Z h a k ty vs.length.toInt32 vs dv := by
  obtain ⟨cl, A, r, q⟩ := F
  have e1 : vs.length.toInt32.toNatClampNeg = vs.length := by simp only [Int32.toNatClampNeg, len_toInt q]; rfl
  have hs : cl.slots.size = vs.length := by rw [r]; simp
  refine ⟨cl.cls, cl, A, rfl, by rw [e1, hs], ?_, fun k hk => ?_, fun i hi => ?_⟩
  · rw [Int32.lt_iff_toInt_lt, len_toInt q]; have : (0 : Int32).toInt = 0 := by decide
    omega
  · rw [hs] at hk; rw [r]; simp [List.getD_eq_getElem?_getD, List.getElem?_eq_getElem hk]
  · rw [hs] at hi
    have : vs.getD i dv = vs[i] := by simp [List.getD_eq_getElem?_getD, List.getElem?_eq_getElem hi]
    rw [this]; exact hfit _ (List.getElem_mem hi)
theorem own_stC (X : Stand p l e R s m args below meth c T locs cells slots) (hx : p.tables.exec = Jvm.exec) (hZ : Z.Warmed39 s.vm) (eT : T.heap = h) (F : own_Av Z h a .char vs) {j x : Int32} (hj : ¬ j < 0) (hl : j.toNatClampNeg < vs.length) {g : JFrame} (hg : g.method = m) {rest : List Value} (hs : g.stack = .int x :: .int j :: .ref a :: rest) (hd : decode c.code g.pc = .ok (.castore, 1)) :
    ∃ T' h', Stand p l e R s m args below meth c T' (locs ++ [⟨a, j.toNatClampNeg⟩]) cells slots ∧ T'.heap = h' ∧ Wr h h' a j.toNatClampNeg (.int x.toUInt32.toUInt16.toUInt32.toInt32) ∧ own_Av Z h' a .char (vs.set j.toNatClampNeg (.int x.toUInt32.toUInt16.toUInt32.toInt32)) ∧ ∀ target, Steps p.tables e below (T'.setTop { g with pc := g.pc + 1, stack := rest }) target → Steps p.tables e below (T.setTop g) target := by
  obtain ⟨cl, A, r, q⟩ := F
  obtain ⟨T', h', X', e', W, st⟩ := stC X hx hZ eT A (own_in r hj hl) hg hs hd
  exact ⟨T', h', X', e', W, own_Av.set ⟨cl, A, r, q⟩ W, st⟩
theorem own_ne_of (q : a < h.size) (r : h.size ≤ b) : a ≠ b := Nat.ne_of_lt (Nat.lt_of_lt_of_le q r)
end Own
section OwnW
variable {p : Program} {l : Launch} {e : Env} {R : Room} {s : State} {m : MethodId} {args : Array Value} {below : List Frame} {meth : Method} {c : Code} {T T' : State} {locs : List Loc} {cells slots : Nat} {Z : State} {a0 : Array Value} {h h' h0 : Heap} {g g' : JFrame} {a b : Addr} {ty : FieldType} {vs : List Value} {v w : Value} {vm0 : Vm} {k0 : Nat}
def own_EndW (s : State) (kc ks : Nat) (Q : Option Value → Heap → List Loc → Prop) (o : Outcome) (U' : State) : Prop := ∃ v L, o = .returned v ∧ Q v U'.heap L ∧ ReturnedEndW s o U' L kc ks
/-- the judged method, started at Z itself -/
def own_MetW (l : Launch) (Z : State) (y : MethodName) (bytes : ByteArray) (maxL : Nat) (ret : Option FieldType) (rm : Room) (as' : Array Value) (Q : Option Value → Heap → List Loc → Prop) : Prop :=
  ∀ ws : List Jvm.Cond, MetFree l y (head1 (Jvm.Cond.code y bytes maxL ret :: ws) rm) (fun a U => a = as' ∧ U = Z) (fun _ _ _ _ _ => True) (fun _ U o U' => ∃ v L, o = .returned v ∧ Q v U'.heap L ∧ ReturnedEndW U o U' L rm.cells rm.slots)
theorem own_introW {y : MethodName} {bytes : ByteArray} {maxL : Nat} {ret : Option FieldType} {rm : Room} {as' : Array Value} {Q : Option Value → Heap → List Loc → Prop} (hp : plainFor y = true)
    (body : ∀ (p : Program) (e : Env) (m : MethodId) (below : List Frame) (meth : Method) (c : Code) (s₁ : State), p.tables.exec = Jvm.exec → c.code = bytes → c.maxLocals = maxL → Z.vm.findClass y.cls = some m.cls → meth.name = y.name → meth.sig.returnType = ret → meth.locks = false → Stand p l e rm (Z.setVm Z.vm) m as' below meth c s₁ [] 0 0 → s₁.heap = Z.heap → own_Go p e below (own_EndW Z rm.cells rm.slots Q) s₁ (entryFrame m as' maxL)) : own_MetW l Z y bytes maxL ret rm as' Q := by
  intro ws
  refine MetFree.of_bodySF hp hisR ?_
  intro p e s m args below meth c s₁ Bd hml hP hK
  obtain ⟨rfl, rfl⟩ := hP
  exact body p e m below meth c s₁ Bd.exec Bd.bytes hml (findClass_of_methodNamed Bd.named) (name_of_methodNamed Bd.named Bd.method).1 Bd.returns Bd.notSynchronized (Stand.of_body Bd) (by rw [Bd.state]; rfl)
theorem own_finW {kc ks : Nat} {Q : Option Value → Heap → List Loc → Prop} (X : Stand p l e R (s.setVm vm0) m args below meth c T locs cells slots) (hS : s.Since vm0 k0) (eT : T.heap = h) (hk : k0 ≤ h.size) (hlk : meth.locks = false) {u : Option Value} (hv : meth.sig.returnType = none → u = none) (hq : Q u T.heap locs) (hc : cells ≤ kc) (hs : slots ≤ ks)
    (st : ∀ fs, (∀ (f : JFrame) (acts : List Action), f.method = m → f.locked = none → f.entered = [] → (doReturn e (T.setTop f) acts u).1 = T.setFrames fs) → Steps p.tables e below (T.setTop g) (T.setFrames fs)) : own_Go p e below (own_EndW s kc ks Q) T g := by
  obtain ⟨fs, hr, hrun, hended, hW⟩ := X.leaveW hS (by rw [eT]; exact hk) (v := u) hv hlk
  exact ⟨_, _, st fs hr, hrun, hended, _, _, rfl, hq, hW.1, hW.2.1, hW.2.2.1, hW.2.2.2.mono hc hs⟩
theorem own_retNW {kc ks : Nat} {Q : Option Value → Heap → List Loc → Prop} (X : Stand p l e R (s.setVm vm0) m args below meth c T locs cells slots) (hx : p.tables.exec = Jvm.exec) (hS : s.Since vm0 k0) (eT : T.heap = h) (hk : k0 ≤ h.size) (hlk : meth.locks = false) {pc : Nat} {Ls : Array Slot} {z : Int32} {rest : List Value} (hret : meth.sig.returnType = some ty) (ht : ty = .boolean ∨ ty = .byte ∨ ty = .char ∨ ty = .short) (hd : decode c.code pc = .ok (.ireturn, 1)) (hc : cells ≤ kc) (hs : slots ≤ ks) (hq : Q (some (.int (nar ty z))) T.heap locs) : own_Go p e below (own_EndW s kc ks Q) T (mkF m pc Ls (.int z :: rest)) :=
  own_finW X hS eT hk hlk (fun q => by rw [hret] at q; cases q) hq hc hs fun fs hr => retN X hx hret ht hd hr
theorem own_Av.of_arv {k : ClassId} {z : Int32} {dv : Value} (F : Arv Z h a k ty z vs dv) (hl : z.toNatClampNeg = vs.length) : own_Av Z h a ty vs := by
  obtain ⟨cl, A, -, S, hz, H, -⟩ := F
  refine own_Av.of A (by rw [S, hl]) (fun i hi => ?_) (by rw [← hl]; exact (back32 hz).2)
  rw [H i (by rw [S, hl]; exact hi)]
  simp [List.getD_eq_getElem?_getD, List.getElem?_eq_getElem hi]
end OwnW

def own_g (S : List Int32) (j : Int32) : Int32 := S.getD j.toNatClampNeg 0
theorem own_ix {c : Int32} (h0 : 0 ≤ c.toInt) : (c.toNatClampNeg : Int) = c.toInt := by simp only [Int32.toNatClampNeg]; omega
theorem own_nlt {c : Int32} (h0 : 0 ≤ c.toInt) : ¬ c < 0 := by
  have k0 : (0 : Int32).toInt = 0 := by decide
  rw [Int32.lt_iff_toInt_lt]; omega
theorem own_llt {B : List Int32} {x1 : Int32} (hB : B.length ≤ 1000) (hx1 : 0 ≤ x1.toInt ∧ x1.toInt < B.length) : x1 < B.length.toInt32 := by
  rw [Int32.lt_iff_toInt_lt, show B.length.toInt32 = Int32.ofNat B.length from rfl, Int32.toInt_ofNat_of_lt (by omega)]; exact hx1.2
theorem own_g_at {B : List Int32} {x1 : Int32} (hx1 : 0 ≤ x1.toInt ∧ x1.toInt < B.length) {α : Type} {f : Int32 → α} : (B.map f)[x1.toNatClampNeg]? = some (f (own_g B x1)) := by
  have e := own_ix hx1.1
  have q : x1.toNatClampNeg < B.length := by omega
  simp [own_g, List.getD_eq_getElem?_getD, List.getElem?_eq_getElem q]
theorem own_m15 (x : Int32) : 0 ≤ (x &&& (15 : Int32)).toInt ∧ (x &&& (15 : Int32)).toInt < (16 : Nat) := by
  have m := c_mask x 15 4 (by decide) (by decide)
  omega
theorem own_r15 {r : Int32} (h1 : ¬ r < (-1 : Int32)) (h2 : ¬ (15 : Int32) < r) (h3 : ¬ r = (-1 : Int32)) : 0 ≤ r.toInt ∧ r.toInt < (16 : Nat) := by
  have k1 : (-1 : Int32).toInt = -1 := by decide
  have k2 : (15 : Int32).toInt = 15 := by decide
  rw [Int32.lt_iff_toInt_lt] at h1 h2
  have h4 : r.toInt ≠ -1 := fun q => h3 (Int32.toInt_inj.mp (by omega))
  omega

theorem own_strw {a0 : Array Value} {Z : State} (hw : ∀ d ∈ tables_1, d.before a0 Z = true) : ∀ a ∈ Bundle.stringAtoms, a.before a0 Z = true := fun d hd => hw d ((by decide +kernel : ∀ d ∈ Bundle.stringAtoms, d ∈ tables_1) d hd)
theorem own_fr {n0 : Nat} {Z : State} {L : List Loc} (h : n0 = Z.heap.size) (N : Fr n0 L) : Fr Z.heap.size L := h ▸ N
theorem own_d5_0 : decode jdk_41_method_11_code 0 = .ok (.iload_n 0, 1) := by decide +kernel
theorem own_d5_1 : decode jdk_41_method_11_code 1 = .ok (.ifCond .lt 8, 3) := by decide +kernel
theorem own_d5_4 : decode jdk_41_method_11_code 4 = .ok (.iload_n 0, 1) := by decide +kernel
theorem own_d5_5 : decode jdk_41_method_11_code 5 = .ok (.iload_n 1, 1) := by decide +kernel
theorem own_d5_6 : decode jdk_41_method_11_code 6 = .ok (.if_icmp .lt 10, 3) := by decide +kernel
theorem own_d5_9 : decode jdk_41_method_11_code 9 = .ok (.aload_n 2, 1) := by decide +kernel
theorem own_d5_10 : decode jdk_41_method_11_code 10 = .ok (.iload_n 0, 1) := by decide +kernel
theorem own_d5_11 : decode jdk_41_method_11_code 11 = .ok (.iload_n 1, 1) := by decide +kernel
theorem own_d5_12 : decode jdk_41_method_11_code 12 = .ok (.invokestatic 95, 3) := by decide +kernel
theorem own_d5_15 : decode jdk_41_method_11_code 15 = .ok (.athrow, 1) := by decide +kernel
theorem own_d5_16 : decode jdk_41_method_11_code 16 = .ok (.iload_n 0, 1) := by decide +kernel
theorem own_d5_17 : decode jdk_41_method_11_code 17 = .ok (.ireturn, 1) := by decide +kernel
theorem own_pn0 : plainName "jdk/internal/util/Preconditions" = true := by first | (simp [plainName, overriddenIn]; done) | decide +kernel
def own_pc (x0 : Int32) (x1 : Int32) : Int32 := x0
set_option maxHeartbeats 40000000 in
theorem own_mt5_ef (m : MethodId) (x0 : Int32) (x1 : Int32) (x2 : Value) (hX_x2 : x2.isRef = true) : entryFrame m #[(.int x0), (.int x1), x2] 3 = mkF m 0 #[.val (.int x0), .val (.int x1), .val x2] [] := by rcases ref_cases hX_x2 with rfl | ⟨_, rfl⟩ <;> first | (simp [entryFrame, mkF, argsToLocals, Value.category, maxLocals]; done) | rfl
set_option maxRecDepth 65536 in
set_option maxHeartbeats 40000000 in
theorem own_mt5 (l : Launch) (Z : State) (a0 : Array Value) (hw : ∀ d ∈ tables_1, d.before a0 Z = true) (x0 : Int32) (x1 : Int32) (x2 : Value) (h0 : Heap) (hX_x2 : x2.isRef = true) (hn0 : ¬ x0 < 0) (hn1 : x0 < x1) :
    own_Met l Z (⟨"jdk/internal/util/Preconditions", "checkIndex", "(IILjava/util/function/BiFunction;)I"⟩ : MethodName) jdk_41_method_11_code 3 (some .int) ({ frames := 0, cells := 0, slots := 0, locals := 0 } : Room) #[(.int x0), (.int x1), x2] h0 (fun v h L => v = some (.int (own_pc x0 x1)) ∧ h = h0 ∧ L = []) := by
  refine own_intro (plainFor_of_name own_pn0) ?_
  intro p e s m below meth c s₁ hx hby hml hown hnm hZ hret hlk X0 e0
  refine own_cast (own_mt5_ef m x0 x1 x2 hX_x2) ?_
  refine own_via (T' := s₁) (g' := (mkF m 1 #[.val (.int x0), .val (.int x1), .val x2] [(.int x0)])) (fun t k => XS.iloadN X0.here hx rfl (hb hby own_d5_0) rfl k) ?_
  refine own_via (T' := s₁) (g' := (mkF m 6 #[.val (.int x0), .val (.int x1), .val x2] [(.int x1), (.int x0)])) (fun t k => XS.ifNo X0.here hx rfl (hb hby own_d5_1) rfl ((if0 _ _).trans (flt hn0).1) (XS.iloadN X0.here hx rfl (hb hby own_d5_4) rfl (XS.iloadN X0.here hx rfl (hb hby own_d5_5) rfl k))) ?_
  refine own_via (T' := s₁) (g' := (mkF m 17 #[.val (.int x0), .val (.int x1), .val x2] [(.int x0)])) (fun t k => XS.icmpYes X0.here hx rfl (pc0 := 6) (pc' := 16) rfl (hb hby own_d5_6) rfl (tlt hn1).1 (by decide) (by decide) (XS.iloadN X0.here hx rfl (hb hby own_d5_16) rfl k)) ?_
  refine own_retI X0 hx hlk hret (hb hby own_d5_17) (by decide) (by decide) ?_
  exact ⟨by rw [own_pc] <;> rfl, e0, rfl⟩
theorem own_d4_0 : decode jdk_42_method_155_code 0 = .ok (.iload_n 0, 1) := by decide +kernel
theorem own_d4_1 : decode jdk_42_method_155_code 1 = .ok (.iload_n 1, 1) := by decide +kernel
theorem own_d4_2 : decode jdk_42_method_155_code 2 = .ok (.getstatic 1053, 3) := by decide +kernel
theorem own_d4_5 : decode jdk_42_method_155_code 5 = .ok (.invokestatic 1059, 3) := by decide +kernel
theorem own_d4_8 : decode jdk_42_method_155_code 8 = .ok (.pop, 1) := by decide +kernel
theorem own_d4_9 : decode jdk_42_method_155_code 9 = .ok (.return_, 1) := by decide +kernel
theorem own_pn1 : plainName "java/lang/String" = true := by first | (simp [plainName, overriddenIn]; done) | decide +kernel
theorem own_pd0 : parseMethodDescriptor "(IILjava/util/function/BiFunction;)I" = some ⟨[.int, .int, (.object "java/util/function/BiFunction")], some .int⟩ := by decide +kernel
set_option maxHeartbeats 40000000 in
theorem own_mt4_ef (m : MethodId) (x0 : Int32) (x1 : Int32) : entryFrame m #[(.int x0), (.int x1)] 2 = mkF m 0 #[.val (.int x0), .val (.int x1)] [] := by first | (simp [entryFrame, mkF, argsToLocals, Value.category, maxLocals]; done) | rfl
set_option maxRecDepth 65536 in
set_option maxHeartbeats 40000000 in
theorem own_mt4 (l : Launch) (Z : State) (a0 : Array Value) (hw : ∀ d ∈ tables_1, d.before a0 Z = true) (x0 : Int32) (x1 : Int32) (fm : Value) (h0 : Heap) (S_fm : Sta Z h0 "jdk/internal/util/Preconditions" "SIOOBE_FORMATTER" "Ljava/util/function/BiFunction;" fm) (hX_fm : fm.isRef = true) (hn0 : ¬ x0 < 0) (hn1 : x0 < x1) :
    own_Met l Z (⟨"java/lang/String", "checkIndex", "(II)V"⟩ : MethodName) jdk_42_method_155_code 2 none ({ frames := 1, cells := 0, slots := 0, locals := 14 } : Room) #[(.int x0), (.int x1)] h0 (fun v h L => v = none ∧ h = h0 ∧ L = []) := by
  refine own_intro (plainFor_of_name own_pn1) ?_
  intro p e s m below meth c s₁ hx hby hml hown hnm hZ hret hlk X0 e0
  refine own_cast (own_mt4_ef m x0 x1) ?_
  refine own_via (T' := s₁) (g' := (mkF m 2 #[.val (.int x0), .val (.int x1)] [(.int x1), (.int x0)])) (fun t k => XS.iloadN X0.here hx rfl (hb hby own_d4_0) rfl (XS.iloadN X0.here hx rfl (hb hby own_d4_1) rfl k)) ?_
  obtain ⟨T1, X1, e1, st1⟩ := getS2 X0 hx hZ hown (host := "") (Or.inl (hw _ (List.mem_of_getElem? (i := 29) rfl))) Via.refl e0 S_fm (g := (mkF m 2 #[.val (.int x0), .val (.int x1)] [(.int x1), (.int x0)])) rfl (hb hby own_d4_2)
  refine own_via (T' := T1) (g' := (mkF m 5 #[.val (.int x0), .val (.int x1)] [fm, (.int x1), (.int x0)])) st1 ?_
  obtain ⟨v2, T2, L2, X2, hQ2, st2⟩ := own_callSt (y := (⟨"jdk/internal/util/Preconditions", "checkIndex", "(IILjava/util/function/BiFunction;)I"⟩ : MethodName)) (argsL := [(.int x0), (.int x1), fm]) (rest := []) X1 hx hZ hown (hw _ (List.mem_of_getElem? (i := 31) rfl)) (hw _ (List.mem_of_getElem? (i := 32) rfl)) (hw _ (List.mem_of_getElem? (i := 30) rfl)) (hw _ (List.mem_of_getElem? (i := 33) rfl)) (by decide) (own_mt5 l Z a0 hw x0 x1 fm h0 hX_fm hn0 hn1) e1 (W := 0) (by decide) (by decide) (g := (mkF m 5 #[.val (.int x0), .val (.int x1)] [fm, (.int x1), (.int x0)])) rfl (by rw [hml]; rfl) (lenOf own_pd0 rfl) rfl (by show 2 * 0 + _ ≤ _; exact Nat.le_of_eq rfl) (hb hby own_d4_5) (by decide) (by decide)
  obtain ⟨rfl, e2, rfl⟩ := hQ2
  refine own_via (T' := T2) (g' := (mkF m 8 #[.val (.int x0), .val (.int x1)] [(.int (own_pc x0 x1))])) st2 ?_
  refine own_via (T' := T2) (g' := (mkF m 9 #[.val (.int x0), .val (.int x1)] [])) (fun t k => XS.pop X2.here hx rfl (hb hby own_d4_8) rfl rfl k) ?_
  refine own_retV X2 hx hlk hret (hb hby own_d4_9) (by decide) (by decide) ?_
  exact ⟨rfl, e2, rfl⟩
theorem own_d3_0 : decode jdk_43_method_2_code 0 = .ok (.iload_n 1, 1) := by decide +kernel
theorem own_d3_1 : decode jdk_43_method_2_code 1 = .ok (.aload_n 0, 1) := by decide +kernel
theorem own_d3_2 : decode jdk_43_method_2_code 2 = .ok (.arraylength, 1) := by decide +kernel
theorem own_d3_3 : decode jdk_43_method_2_code 3 = .ok (.invokestatic 9, 3) := by decide +kernel
theorem own_d3_6 : decode jdk_43_method_2_code 6 = .ok (.aload_n 0, 1) := by decide +kernel
theorem own_d3_7 : decode jdk_43_method_2_code 7 = .ok (.iload_n 1, 1) := by decide +kernel
theorem own_d3_8 : decode jdk_43_method_2_code 8 = .ok (.baload, 1) := by decide +kernel
theorem own_d3_9 : decode jdk_43_method_2_code 9 = .ok (.sipush 255, 3) := by decide +kernel
theorem own_d3_12 : decode jdk_43_method_2_code 12 = .ok (.iand, 1) := by decide +kernel
theorem own_d3_13 : decode jdk_43_method_2_code 13 = .ok (.i2c, 1) := by decide +kernel
theorem own_d3_14 : decode jdk_43_method_2_code 14 = .ok (.ireturn, 1) := by decide +kernel
theorem own_pn2 : plainName "java/lang/StringLatin1" = true := by first | (simp [plainName, overriddenIn]; done) | decide +kernel
theorem own_pd1 : parseMethodDescriptor "(II)V" = some ⟨[.int, .int], none⟩ := by decide +kernel
def own_l1 (x1 : Int32) (B : List Int32) : Int32 := (nar .char (((own_g B x1) &&& (255 : Int32)).toUInt32.toUInt16.toUInt32.toInt32))
set_option maxHeartbeats 40000000 in
theorem own_mt3_ef (m : MethodId) (x0 : Addr) (x1 : Int32) : entryFrame m #[(.ref x0), (.int x1)] 2 = mkF m 0 #[.val (.ref x0), .val (.int x1)] [] := by first | (simp [entryFrame, mkF, argsToLocals, Value.category, maxLocals]; done) | rfl
set_option maxRecDepth 65536 in
set_option maxHeartbeats 40000000 in
theorem own_mt3 (l : Launch) (Z : State) (a0 : Array Value) (hw : ∀ d ∈ tables_1, d.before a0 Z = true) (x0 : Addr) (x1 : Int32) (B : List Int32) (fm : Value) (h0 : Heap) (V_x0 : own_Av Z h0 x0 .byte (B.map Value.int)) (S_fm : Sta Z h0 "jdk/internal/util/Preconditions" "SIOOBE_FORMATTER" "Ljava/util/function/BiFunction;" fm) (hX_fm : fm.isRef = true) (hB : B.length ≤ 1000) (hx1 : 0 ≤ x1.toInt ∧ x1.toInt < B.length) :
    own_Met l Z (⟨"java/lang/StringLatin1", "charAt", "([BI)C"⟩ : MethodName) jdk_43_method_2_code 2 (some .char) ({ frames := 2, cells := 0, slots := 0, locals := 27 } : Room) #[(.ref x0), (.int x1)] h0 (fun v h L => v = some (.int (own_l1 x1 B)) ∧ h = h0 ∧ L = []) := by
  refine own_intro (plainFor_of_name own_pn2) ?_
  intro p e s m below meth c s₁ hx hby hml hown hnm hZ hret hlk X0 e0
  refine own_cast (own_mt3_ef m x0 x1) ?_
  refine own_via (T' := s₁) (g' := (mkF m 2 #[.val (.ref x0), .val (.int x1)] [(.ref x0), (.int x1)])) (fun t k => XS.iloadN X0.here hx rfl (hb hby own_d3_0) rfl (XS.aloadN X0.here hx rfl (hb hby own_d3_1) rfl rfl k)) ?_
  refine own_via (T' := s₁) (g' := (mkF m 3 #[.val (.ref x0), .val (.int x1)] [(.int (B.length.toInt32)), (.int x1)])) (own_alen X0 hx hZ e0 V_x0 (n := (B.length.toInt32)) (by rw [List.length_map]) (g := (mkF m 2 #[.val (.ref x0), .val (.int x1)] [(.ref x0), (.int x1)])) rfl rfl (hb hby own_d3_2)) ?_
  obtain ⟨v1, T1, L1, X1, hQ1, st1⟩ := own_callSt (y := (⟨"java/lang/String", "checkIndex", "(II)V"⟩ : MethodName)) (argsL := [(.int x1), (.int (B.length.toInt32))]) (rest := []) X0 hx hZ hown (hw _ (List.mem_of_getElem? (i := 26) rfl)) (hw _ (List.mem_of_getElem? (i := 27) rfl)) (hw _ (List.mem_of_getElem? (i := 1) rfl)) (hw _ (List.mem_of_getElem? (i := 28) rfl)) (by decide) (own_mt4 l Z a0 hw x1 (B.length.toInt32) fm h0 S_fm hX_fm (own_nlt hx1.1) (own_llt hB hx1)) e0 (W := 0) (by decide) (by decide) (g := (mkF m 3 #[.val (.ref x0), .val (.int x1)] [(.int (B.length.toInt32)), (.int x1)])) rfl (by rw [hml]; rfl) (lenOf own_pd1 rfl) rfl (by show 2 * 0 + _ ≤ _; exact Nat.le_of_eq rfl) (hb hby own_d3_3) (by decide) (by decide)
  obtain ⟨rfl, e1, rfl⟩ := hQ1
  refine own_via (T' := T1) (g' := (mkF m 6 #[.val (.ref x0), .val (.int x1)] [])) st1 ?_
  refine own_via (T' := T1) (g' := (mkF m 8 #[.val (.ref x0), .val (.int x1)] [(.int x1), (.ref x0)])) (fun t k => XS.aloadN X1.here hx rfl (hb hby own_d3_6) rfl rfl (XS.iloadN X1.here hx rfl (hb hby own_d3_7) rfl k)) ?_
  refine own_via (T' := T1) (g' := (mkF m 9 #[.val (.ref x0), .val (.int x1)] [(.int (own_g B x1))])) (own_ldB X1 hx hZ e1 V_x0 (j := x1) (v := (.int (own_g B x1))) (own_nlt hx1.1) (own_g_at hx1) (g := (mkF m 8 #[.val (.ref x0), .val (.int x1)] [(.int x1), (.ref x0)])) rfl rfl (hb hby own_d3_8)) ?_
  refine own_via (T' := T1) (g' := (mkF m 14 #[.val (.ref x0), .val (.int x1)] [(.int (((own_g B x1) &&& (255 : Int32)).toUInt32.toUInt16.toUInt32.toInt32))])) (fun t k => XS.sipush X1.here hx rfl (hb hby own_d3_9) (XS.iand X1.here hx rfl (hb hby own_d3_12) rfl (XS.i2c X1.here hx rfl (hb hby own_d3_13) rfl k))) ?_
  refine own_retN X1 hx hlk (ty := .char) hret (by simp) (hb hby own_d3_14) (by decide) (by decide) ?_
  exact ⟨by rw [own_l1] <;> rfl, e1, rfl⟩
theorem own_d2_0 : decode jdk_42_method_154_code 0 = .ok (.getstatic 38, 3) := by decide +kernel
theorem own_d2_3 : decode jdk_42_method_154_code 3 = .ok (.ifCond .eq 14, 3) := by decide +kernel
theorem own_d2_6 : decode jdk_42_method_154_code 6 = .ok (.aload_n 0, 1) := by decide +kernel
theorem own_d2_7 : decode jdk_42_method_154_code 7 = .ok (.getfield 15, 3) := by decide +kernel
theorem own_d2_10 : decode jdk_42_method_154_code 10 = .ok (.ifCond .ne 7, 3) := by decide +kernel
theorem own_d2_13 : decode jdk_42_method_154_code 13 = .ok (.iconst 1, 1) := by decide +kernel
theorem own_d2_14 : decode jdk_42_method_154_code 14 = .ok (.goto 4, 3) := by decide +kernel
theorem own_d2_17 : decode jdk_42_method_154_code 17 = .ok (.iconst 0, 1) := by decide +kernel
theorem own_d2_18 : decode jdk_42_method_154_code 18 = .ok (.ireturn, 1) := by decide +kernel
set_option maxHeartbeats 40000000 in
theorem own_mt2_ef (m : MethodId) (x0 : Addr) : entryFrame m #[(.ref x0)] 1 = mkF m 0 #[.val (.ref x0)] [] := by first | (simp [entryFrame, mkF, argsToLocals, Value.category, maxLocals]; done) | rfl
set_option maxRecDepth 65536 in
set_option maxHeartbeats 40000000 in
theorem own_mt2 (l : Launch) (Z : State) (a0 : Array Value) (hw : ∀ d ∈ tables_1, d.before a0 Z = true) (x0 : Addr) (cz : Int32) (h0 : Heap) (F_coder : Fld Z h0 x0 "java/lang/String" "coder" "B" (.int (0 : Int32))) (S_cs : Sta Z h0 "java/lang/String" "COMPACT_STRINGS" "Z" (.int cz)) (hcz : ¬ cz = 0) :
    own_Met l Z (⟨"java/lang/String", "isLatin1", "()Z"⟩ : MethodName) jdk_42_method_154_code 1 (some .boolean) ({ frames := 0, cells := 0, slots := 0, locals := 0 } : Room) #[(.ref x0)] h0 (fun v h L => v = some (.int (1 : Int32)) ∧ h = h0 ∧ L = []) := by
  refine own_intro (plainFor_of_name own_pn1) ?_
  intro p e s m below meth c s₁ hx hby hml hown hnm hZ hret hlk X0 e0
  refine own_cast (own_mt2_ef m x0) ?_
  obtain ⟨T1, X1, e1, st1⟩ := getS2 X0 hx hZ hown (host := "") (Or.inl (hw _ (List.mem_of_getElem? (i := 19) rfl))) Via.refl e0 S_cs (g := (mkF m 0 #[.val (.ref x0)] [])) rfl (hb hby own_d2_0)
  refine own_via (T' := T1) (g' := (mkF m 3 #[.val (.ref x0)] [(.int cz)])) st1 ?_
  refine own_via (T' := T1) (g' := (mkF m 7 #[.val (.ref x0)] [(.ref x0)])) (fun t k => XS.ifNo X1.here hx rfl (hb hby own_d2_3) rfl ((if0 _ _).trans (feq hcz).1) (XS.aloadN X1.here hx rfl (hb hby own_d2_6) rfl rfl k)) ?_
  obtain ⟨T2, X2, e2, st2⟩ := getF X1 hx hZ hown (host := "") (Or.inl (hw _ (List.mem_of_getElem? (i := 20) rfl))) Via.refl e1 F_coder (g := (mkF m 7 #[.val (.ref x0)] [(.ref x0)])) rfl rfl (hb hby own_d2_7)
  refine own_via (T' := T2) (g' := (mkF m 10 #[.val (.ref x0)] [(.int (0 : Int32))])) st2 ?_
  refine own_via (T' := T2) (g' := (mkF m 18 #[.val (.ref x0)] [(.int (1 : Int32))])) (fun t k => XS.ifNo X2.here hx rfl (hb hby own_d2_10) rfl ((if0 _ _).trans (teq (by decide : (0 : Int32) = (0 : Int32))).2) (XS.iconst X2.here hx rfl (hb hby own_d2_13) (XS.goto X2.here hx rfl (pc0 := 14) (pc' := 18) rfl (hb hby own_d2_14) (by decide) (by decide) k))) ?_
  refine own_retN X2 hx hlk (ty := .boolean) hret (by simp) (hb hby own_d2_18) (by decide) (by decide) ?_
  exact ⟨by rfl <;> rfl, e2, rfl⟩
theorem own_d1_0 : decode jdk_42_method_56_code 0 = .ok (.aload_n 0, 1) := by decide +kernel
theorem own_d1_1 : decode jdk_42_method_56_code 1 = .ok (.invokevirtual 492, 3) := by decide +kernel
theorem own_d1_4 : decode jdk_42_method_56_code 4 = .ok (.ifCond .eq 12, 3) := by decide +kernel
theorem own_d1_7 : decode jdk_42_method_56_code 7 = .ok (.aload_n 0, 1) := by decide +kernel
theorem own_d1_8 : decode jdk_42_method_56_code 8 = .ok (.getfield 9, 3) := by decide +kernel
theorem own_d1_11 : decode jdk_42_method_56_code 11 = .ok (.iload_n 1, 1) := by decide +kernel
theorem own_d1_12 : decode jdk_42_method_56_code 12 = .ok (.invokestatic 495, 3) := by decide +kernel
theorem own_d1_15 : decode jdk_42_method_56_code 15 = .ok (.ireturn, 1) := by decide +kernel
theorem own_d1_16 : decode jdk_42_method_56_code 16 = .ok (.aload_n 0, 1) := by decide +kernel
theorem own_d1_17 : decode jdk_42_method_56_code 17 = .ok (.getfield 9, 3) := by decide +kernel
theorem own_d1_20 : decode jdk_42_method_56_code 20 = .ok (.iload_n 1, 1) := by decide +kernel
theorem own_d1_21 : decode jdk_42_method_56_code 21 = .ok (.invokestatic 498, 3) := by decide +kernel
theorem own_d1_24 : decode jdk_42_method_56_code 24 = .ok (.ireturn, 1) := by decide +kernel
theorem own_pd2 : parseMethodDescriptor "()Z" = some ⟨[], some .boolean⟩ := by decide +kernel
theorem own_pd3 : parseMethodDescriptor "([BI)C" = some ⟨[(.array .byte), .int], some .char⟩ := by decide +kernel
def own_ch (x1 : Int32) (B : List Int32) (cz : Int32) : Int32 := (nar .char (own_l1 x1 B))
set_option maxHeartbeats 40000000 in
theorem own_mt1_ef (m : MethodId) (x0 : Addr) (x1 : Int32) : entryFrame m #[(.ref x0), (.int x1)] 2 = mkF m 0 #[.val (.ref x0), .val (.int x1)] [] := by first | (simp [entryFrame, mkF, argsToLocals, Value.category, maxLocals]; done) | rfl
set_option maxRecDepth 65536 in
set_option maxHeartbeats 40000000 in
theorem own_mt1 (l : Launch) (Z : State) (a0 : Array Value) (hw : ∀ d ∈ tables_1, d.before a0 Z = true) (x0 : Addr) (x1 : Int32) (bb : Addr) (B : List Int32) (cz : Int32) (fm : Value) (h0 : Heap) (E_x0 : Exa Z h0 x0 "java/lang/String") (F_coder : Fld Z h0 x0 "java/lang/String" "coder" "B" (.int (0 : Int32))) (F_value : Fld Z h0 x0 "java/lang/String" "value" "[B" (.ref bb)) (V_bb : own_Av Z h0 bb .byte (B.map Value.int)) (S_cs : Sta Z h0 "java/lang/String" "COMPACT_STRINGS" "Z" (.int cz)) (S_fm : Sta Z h0 "jdk/internal/util/Preconditions" "SIOOBE_FORMATTER" "Ljava/util/function/BiFunction;" fm) (hcz : ¬ cz = 0) (hX_fm : fm.isRef = true) (hB : B.length ≤ 1000) (hx1 : 0 ≤ x1.toInt ∧ x1.toInt < B.length) :
    own_Met l Z (⟨"java/lang/String", "charAt", "(I)C"⟩ : MethodName) jdk_42_method_56_code 2 (some .char) ({ frames := 3, cells := 0, slots := 0, locals := 40 } : Room) #[(.ref x0), (.int x1)] h0 (fun v h L => v = some (.int (own_ch x1 B cz)) ∧ h = h0 ∧ L = []) := by
  refine own_intro (plainFor_of_name own_pn1) ?_
  intro p e s m below meth c s₁ hx hby hml hown hnm hZ hret hlk X0 e0
  refine own_cast (own_mt1_ef m x0 x1) ?_
  refine own_via (T' := s₁) (g' := (mkF m 1 #[.val (.ref x0), .val (.int x1)] [(.ref x0)])) (fun t k => XS.aloadN X0.here hx rfl (hb hby own_d1_0) rfl rfl k) ?_
  obtain ⟨v1, T1, L1, X1, hQ1, st1⟩ := own_callVi (y := (⟨"java/lang/String", "isLatin1", "()Z"⟩ : MethodName)) (z := (⟨"java/lang/String", "isLatin1", "()Z"⟩ : MethodName)) (a := x0) (C := "java/lang/String") (argsL := []) (rest := []) X0 hx hZ hown (hw _ (List.mem_of_getElem? (i := 14) rfl)) (hw _ (List.mem_of_getElem? (i := 15) rfl)) (notFace_of_selects (args := #[]) (mvT hZ (hw _ (List.mem_of_getElem? (i := 17) rfl)))) (hw _ (List.mem_of_getElem? (i := 17) rfl)) (hw _ (List.mem_of_getElem? (i := 16) rfl)) (hw _ (List.mem_of_getElem? (i := 1) rfl)) (hw _ (List.mem_of_getElem? (i := 18) rfl)) (by decide) E_x0 (own_mt2 l Z a0 hw x0 cz h0 F_coder S_cs hcz) e0 (W := 0) (by decide) (by decide) (g := (mkF m 1 #[.val (.ref x0), .val (.int x1)] [(.ref x0)])) rfl (by rw [hml]; rfl) (lenOf own_pd2 rfl) rfl (by show 2 * 0 + _ ≤ _; exact Nat.le_of_eq rfl) (hb hby own_d1_1) (by decide) (by decide)
  obtain ⟨rfl, e1, rfl⟩ := hQ1
  refine own_via (T' := T1) (g' := (mkF m 4 #[.val (.ref x0), .val (.int x1)] [(.int (1 : Int32))])) st1 ?_
  refine own_via (T' := T1) (g' := (mkF m 8 #[.val (.ref x0), .val (.int x1)] [(.ref x0)])) (fun t k => XS.ifNo X1.here hx rfl (hb hby own_d1_4) rfl ((if0 _ _).trans (feq (by decide : ¬ ((1 : Int32) = (0 : Int32)))).1) (XS.aloadN X1.here hx rfl (hb hby own_d1_7) rfl rfl k)) ?_
  obtain ⟨T2, X2, e2, st2⟩ := getF X1 hx hZ hown (host := "") (Or.inl (hw _ (List.mem_of_getElem? (i := 21) rfl))) Via.refl e1 F_value (g := (mkF m 8 #[.val (.ref x0), .val (.int x1)] [(.ref x0)])) rfl rfl (hb hby own_d1_8)
  refine own_via (T' := T2) (g' := (mkF m 11 #[.val (.ref x0), .val (.int x1)] [(.ref bb)])) st2 ?_
  refine own_via (T' := T2) (g' := (mkF m 12 #[.val (.ref x0), .val (.int x1)] [(.int x1), (.ref bb)])) (fun t k => XS.iloadN X2.here hx rfl (hb hby own_d1_11) rfl k) ?_
  obtain ⟨v3, T3, L3, X3, hQ3, st3⟩ := own_callSt (y := (⟨"java/lang/StringLatin1", "charAt", "([BI)C"⟩ : MethodName)) (argsL := [(.ref bb), (.int x1)]) (rest := []) X2 hx hZ hown (hw _ (List.mem_of_getElem? (i := 22) rfl)) (hw _ (List.mem_of_getElem? (i := 23) rfl)) (hw _ (List.mem_of_getElem? (i := 24) rfl)) (hw _ (List.mem_of_getElem? (i := 25) rfl)) (by decide) (own_mt3 l Z a0 hw bb x1 B fm h0 V_bb S_fm hX_fm hB hx1) e2 (W := 0) (by decide) (by decide) (g := (mkF m 12 #[.val (.ref x0), .val (.int x1)] [(.int x1), (.ref bb)])) rfl (by rw [hml]; rfl) (lenOf own_pd3 rfl) rfl (by show 2 * 0 + _ ≤ _; exact Nat.le_of_eq rfl) (hb hby own_d1_12) (by decide) (by decide)
  obtain ⟨rfl, e3, rfl⟩ := hQ3
  refine own_via (T' := T3) (g' := (mkF m 15 #[.val (.ref x0), .val (.int x1)] [(.int (own_l1 x1 B))])) st3 ?_
  refine own_retN X3 hx hlk (ty := .char) hret (by simp) (hb hby own_d1_15) (by decide) (by decide) ?_
  exact ⟨by rw [own_ch] <;> rfl, e3, rfl⟩
theorem own_d6_0 : decode prog_29_method_9_code 0 = .ok (.iload_n 0, 1) := by decide +kernel
theorem own_d6_1 : decode prog_29_method_9_code 1 = .ok (.bipush 48, 2) := by decide +kernel
theorem own_d6_3 : decode prog_29_method_9_code 3 = .ok (.if_icmp .lt 14, 3) := by decide +kernel
theorem own_d6_6 : decode prog_29_method_9_code 6 = .ok (.iload_n 0, 1) := by decide +kernel
theorem own_d6_7 : decode prog_29_method_9_code 7 = .ok (.bipush 57, 2) := by decide +kernel
theorem own_d6_9 : decode prog_29_method_9_code 9 = .ok (.if_icmp .gt 8, 3) := by decide +kernel
theorem own_d6_12 : decode prog_29_method_9_code 12 = .ok (.iload_n 0, 1) := by decide +kernel
theorem own_d6_13 : decode prog_29_method_9_code 13 = .ok (.bipush 48, 2) := by decide +kernel
theorem own_d6_15 : decode prog_29_method_9_code 15 = .ok (.isub, 1) := by decide +kernel
theorem own_d6_16 : decode prog_29_method_9_code 16 = .ok (.ireturn, 1) := by decide +kernel
theorem own_d6_17 : decode prog_29_method_9_code 17 = .ok (.iload_n 0, 1) := by decide +kernel
theorem own_d6_18 : decode prog_29_method_9_code 18 = .ok (.bipush 65, 2) := by decide +kernel
theorem own_d6_20 : decode prog_29_method_9_code 20 = .ok (.if_icmp .lt 17, 3) := by decide +kernel
theorem own_d6_23 : decode prog_29_method_9_code 23 = .ok (.iload_n 0, 1) := by decide +kernel
theorem own_d6_24 : decode prog_29_method_9_code 24 = .ok (.bipush 70, 2) := by decide +kernel
theorem own_d6_26 : decode prog_29_method_9_code 26 = .ok (.if_icmp .gt 11, 3) := by decide +kernel
theorem own_d6_29 : decode prog_29_method_9_code 29 = .ok (.iload_n 0, 1) := by decide +kernel
theorem own_d6_30 : decode prog_29_method_9_code 30 = .ok (.bipush 65, 2) := by decide +kernel
theorem own_d6_32 : decode prog_29_method_9_code 32 = .ok (.isub, 1) := by decide +kernel
theorem own_d6_33 : decode prog_29_method_9_code 33 = .ok (.bipush 10, 2) := by decide +kernel
theorem own_d6_35 : decode prog_29_method_9_code 35 = .ok (.iadd, 1) := by decide +kernel
theorem own_d6_36 : decode prog_29_method_9_code 36 = .ok (.ireturn, 1) := by decide +kernel
theorem own_d6_37 : decode prog_29_method_9_code 37 = .ok (.iload_n 0, 1) := by decide +kernel
theorem own_d6_38 : decode prog_29_method_9_code 38 = .ok (.bipush 97, 2) := by decide +kernel
theorem own_d6_40 : decode prog_29_method_9_code 40 = .ok (.if_icmp .lt 17, 3) := by decide +kernel
theorem own_d6_43 : decode prog_29_method_9_code 43 = .ok (.iload_n 0, 1) := by decide +kernel
theorem own_d6_44 : decode prog_29_method_9_code 44 = .ok (.bipush 102, 2) := by decide +kernel
theorem own_d6_46 : decode prog_29_method_9_code 46 = .ok (.if_icmp .gt 11, 3) := by decide +kernel
theorem own_d6_49 : decode prog_29_method_9_code 49 = .ok (.iload_n 0, 1) := by decide +kernel
theorem own_d6_50 : decode prog_29_method_9_code 50 = .ok (.bipush 97, 2) := by decide +kernel
theorem own_d6_52 : decode prog_29_method_9_code 52 = .ok (.isub, 1) := by decide +kernel
theorem own_d6_53 : decode prog_29_method_9_code 53 = .ok (.bipush 10, 2) := by decide +kernel
theorem own_d6_55 : decode prog_29_method_9_code 55 = .ok (.iadd, 1) := by decide +kernel
theorem own_d6_56 : decode prog_29_method_9_code 56 = .ok (.ireturn, 1) := by decide +kernel
theorem own_d6_57 : decode prog_29_method_9_code 57 = .ok (.iconst (-1), 1) := by decide +kernel
theorem own_d6_58 : decode prog_29_method_9_code 58 = .ok (.ireturn, 1) := by decide +kernel
theorem own_pn3 : plainName "com/example/countersign/countersign/PercentEncoding" = true := by first | (simp [plainName, overriddenIn]; done) | decide +kernel
def own_hex (x0 : Int32) : Int32 := (if x0 < (48 : Int32) then (if x0 < (65 : Int32) then (if x0 < (97 : Int32) then (-1 : Int32) else (if (102 : Int32) < x0 then (-1 : Int32) else ((x0 - (97 : Int32)) + (10 : Int32)))) else (if (70 : Int32) < x0 then (if x0 < (97 : Int32) then (-1 : Int32) else (if (102 : Int32) < x0 then (-1 : Int32) else ((x0 - (97 : Int32)) + (10 : Int32)))) else ((x0 - (65 : Int32)) + (10 : Int32)))) else (if (57 : Int32) < x0 then (if x0 < (65 : Int32) then (if x0 < (97 : Int32) then (-1 : Int32) else (if (102 : Int32) < x0 then (-1 : Int32) else ((x0 - (97 : Int32)) + (10 : Int32)))) else (if (70 : Int32) < x0 then (if x0 < (97 : Int32) then (-1 : Int32) else (if (102 : Int32) < x0 then (-1 : Int32) else ((x0 - (97 : Int32)) + (10 : Int32)))) else ((x0 - (65 : Int32)) + (10 : Int32)))) else (x0 - (48 : Int32))))
set_option maxHeartbeats 40000000 in
theorem own_mt6_ef (m : MethodId) (x0 : Int32) : entryFrame m #[(.int x0)] 1 = mkF m 0 #[.val (.int x0)] [] := by first | (simp [entryFrame, mkF, argsToLocals, Value.category, maxLocals]; done) | rfl
set_option maxRecDepth 65536 in
set_option maxHeartbeats 40000000 in
theorem own_mt6 (l : Launch) (Z : State) (a0 : Array Value) (hw : ∀ d ∈ tables_1, d.before a0 Z = true) (x0 : Int32) (h0 : Heap) :
    own_Met l Z (⟨"com/example/countersign/countersign/PercentEncoding", "hexValue", "(C)I"⟩ : MethodName) prog_29_method_9_code 1 (some .int) ({ frames := 0, cells := 0, slots := 0, locals := 0 } : Room) #[(.int x0)] h0 (fun v h L => v = some (.int (own_hex x0)) ∧ h = h0 ∧ L = []) := by
  refine own_intro (plainFor_of_name own_pn3) ?_
  intro p e s m below meth c s₁ hx hby hml hown hnm hZ hret hlk X0 e0
  refine own_cast (own_mt6_ef m x0) ?_
  refine own_via (T' := s₁) (g' := (mkF m 3 #[.val (.int x0)] [(.int (48 : Int32)), (.int x0)])) (fun t k => XS.iloadN X0.here hx rfl (hb hby own_d6_0) rfl (XS.bipush X0.here hx rfl (hb hby own_d6_1) k)) ?_
  by_cases hc1 : x0 < (48 : Int32)
  · refine own_via (T' := s₁) (g' := (mkF m 20 #[.val (.int x0)] [(.int (65 : Int32)), (.int x0)])) (fun t k => XS.icmpYes X0.here hx rfl (pc0 := 3) (pc' := 17) rfl (hb hby own_d6_3) rfl (tlt hc1).1 (by decide) (by decide) (XS.iloadN X0.here hx rfl (hb hby own_d6_17) rfl (XS.bipush X0.here hx rfl (hb hby own_d6_18) k))) ?_
    by_cases hc2 : x0 < (65 : Int32)
    · refine own_via (T' := s₁) (g' := (mkF m 40 #[.val (.int x0)] [(.int (97 : Int32)), (.int x0)])) (fun t k => XS.icmpYes X0.here hx rfl (pc0 := 20) (pc' := 37) rfl (hb hby own_d6_20) rfl (tlt hc2).1 (by decide) (by decide) (XS.iloadN X0.here hx rfl (hb hby own_d6_37) rfl (XS.bipush X0.here hx rfl (hb hby own_d6_38) k))) ?_
      by_cases hc3 : x0 < (97 : Int32)
      · refine own_via (T' := s₁) (g' := (mkF m 58 #[.val (.int x0)] [(.int (-1 : Int32))])) (fun t k => XS.icmpYes X0.here hx rfl (pc0 := 40) (pc' := 57) rfl (hb hby own_d6_40) rfl (tlt hc3).1 (by decide) (by decide) (XS.iconst X0.here hx rfl (hb hby own_d6_57) k)) ?_
        refine own_retI X0 hx hlk hret (hb hby own_d6_58) (by decide) (by decide) ?_
        exact ⟨by rw [own_hex, if_pos hc1, if_pos hc2, if_pos hc3] <;> rfl, e0, rfl⟩
      · refine own_via (T' := s₁) (g' := (mkF m 46 #[.val (.int x0)] [(.int (102 : Int32)), (.int x0)])) (fun t k => XS.icmpNo X0.here hx rfl (hb hby own_d6_40) rfl (flt hc3).1 (XS.iloadN X0.here hx rfl (hb hby own_d6_43) rfl (XS.bipush X0.here hx rfl (hb hby own_d6_44) k))) ?_
        by_cases hc4 : (102 : Int32) < x0
        · refine own_via (T' := s₁) (g' := (mkF m 58 #[.val (.int x0)] [(.int (-1 : Int32))])) (fun t k => XS.icmpYes X0.here hx rfl (pc0 := 46) (pc' := 57) rfl (hb hby own_d6_46) rfl (tlt hc4).2.2.1 (by decide) (by decide) (XS.iconst X0.here hx rfl (hb hby own_d6_57) k)) ?_
          refine own_retI X0 hx hlk hret (hb hby own_d6_58) (by decide) (by decide) ?_
          exact ⟨by rw [own_hex, if_pos hc1, if_pos hc2, if_neg hc3, if_pos hc4] <;> rfl, e0, rfl⟩
        · refine own_via (T' := s₁) (g' := (mkF m 56 #[.val (.int x0)] [(.int ((x0 - (97 : Int32)) + (10 : Int32)))])) (fun t k => XS.icmpNo X0.here hx rfl (hb hby own_d6_46) rfl (flt hc4).2.2.1 (XS.iloadN X0.here hx rfl (hb hby own_d6_49) rfl (XS.bipush X0.here hx rfl (hb hby own_d6_50) (XS.isub X0.here hx rfl (hb hby own_d6_52) rfl (XS.bipush X0.here hx rfl (hb hby own_d6_53) (XS.iadd X0.here hx rfl (hb hby own_d6_55) rfl k)))))) ?_
          refine own_retI X0 hx hlk hret (hb hby own_d6_56) (by decide) (by decide) ?_
          exact ⟨by rw [own_hex, if_pos hc1, if_pos hc2, if_neg hc3, if_neg hc4] <;> rfl, e0, rfl⟩
    · refine own_via (T' := s₁) (g' := (mkF m 26 #[.val (.int x0)] [(.int (70 : Int32)), (.int x0)])) (fun t k => XS.icmpNo X0.here hx rfl (hb hby own_d6_20) rfl (flt hc2).1 (XS.iloadN X0.here hx rfl (hb hby own_d6_23) rfl (XS.bipush X0.here hx rfl (hb hby own_d6_24) k))) ?_
      by_cases hc5 : (70 : Int32) < x0
      · refine own_via (T' := s₁) (g' := (mkF m 40 #[.val (.int x0)] [(.int (97 : Int32)), (.int x0)])) (fun t k => XS.icmpYes X0.here hx rfl (pc0 := 26) (pc' := 37) rfl (hb hby own_d6_26) rfl (tlt hc5).2.2.1 (by decide) (by decide) (XS.iloadN X0.here hx rfl (hb hby own_d6_37) rfl (XS.bipush X0.here hx rfl (hb hby own_d6_38) k))) ?_
        by_cases hc6 : x0 < (97 : Int32)
        · refine own_via (T' := s₁) (g' := (mkF m 58 #[.val (.int x0)] [(.int (-1 : Int32))])) (fun t k => XS.icmpYes X0.here hx rfl (pc0 := 40) (pc' := 57) rfl (hb hby own_d6_40) rfl (tlt hc6).1 (by decide) (by decide) (XS.iconst X0.here hx rfl (hb hby own_d6_57) k)) ?_
          refine own_retI X0 hx hlk hret (hb hby own_d6_58) (by decide) (by decide) ?_
          exact ⟨by rw [own_hex, if_pos hc1, if_neg hc2, if_pos hc5, if_pos hc6] <;> rfl, e0, rfl⟩
        · refine own_via (T' := s₁) (g' := (mkF m 46 #[.val (.int x0)] [(.int (102 : Int32)), (.int x0)])) (fun t k => XS.icmpNo X0.here hx rfl (hb hby own_d6_40) rfl (flt hc6).1 (XS.iloadN X0.here hx rfl (hb hby own_d6_43) rfl (XS.bipush X0.here hx rfl (hb hby own_d6_44) k))) ?_
          by_cases hc7 : (102 : Int32) < x0
          · refine own_via (T' := s₁) (g' := (mkF m 58 #[.val (.int x0)] [(.int (-1 : Int32))])) (fun t k => XS.icmpYes X0.here hx rfl (pc0 := 46) (pc' := 57) rfl (hb hby own_d6_46) rfl (tlt hc7).2.2.1 (by decide) (by decide) (XS.iconst X0.here hx rfl (hb hby own_d6_57) k)) ?_
            refine own_retI X0 hx hlk hret (hb hby own_d6_58) (by decide) (by decide) ?_
            exact ⟨by rw [own_hex, if_pos hc1, if_neg hc2, if_pos hc5, if_neg hc6, if_pos hc7] <;> rfl, e0, rfl⟩
          · refine own_via (T' := s₁) (g' := (mkF m 56 #[.val (.int x0)] [(.int ((x0 - (97 : Int32)) + (10 : Int32)))])) (fun t k => XS.icmpNo X0.here hx rfl (hb hby own_d6_46) rfl (flt hc7).2.2.1 (XS.iloadN X0.here hx rfl (hb hby own_d6_49) rfl (XS.bipush X0.here hx rfl (hb hby own_d6_50) (XS.isub X0.here hx rfl (hb hby own_d6_52) rfl (XS.bipush X0.here hx rfl (hb hby own_d6_53) (XS.iadd X0.here hx rfl (hb hby own_d6_55) rfl k)))))) ?_
            refine own_retI X0 hx hlk hret (hb hby own_d6_56) (by decide) (by decide) ?_
            exact ⟨by rw [own_hex, if_pos hc1, if_neg hc2, if_pos hc5, if_neg hc6, if_neg hc7] <;> rfl, e0, rfl⟩
      · refine own_via (T' := s₁) (g' := (mkF m 36 #[.val (.int x0)] [(.int ((x0 - (65 : Int32)) + (10 : Int32)))])) (fun t k => XS.icmpNo X0.here hx rfl (hb hby own_d6_26) rfl (flt hc5).2.2.1 (XS.iloadN X0.here hx rfl (hb hby own_d6_29) rfl (XS.bipush X0.here hx rfl (hb hby own_d6_30) (XS.isub X0.here hx rfl (hb hby own_d6_32) rfl (XS.bipush X0.here hx rfl (hb hby own_d6_33) (XS.iadd X0.here hx rfl (hb hby own_d6_35) rfl k)))))) ?_
        refine own_retI X0 hx hlk hret (hb hby own_d6_36) (by decide) (by decide) ?_
        exact ⟨by rw [own_hex, if_pos hc1, if_neg hc2, if_neg hc5] <;> rfl, e0, rfl⟩
  · refine own_via (T' := s₁) (g' := (mkF m 9 #[.val (.int x0)] [(.int (57 : Int32)), (.int x0)])) (fun t k => XS.icmpNo X0.here hx rfl (hb hby own_d6_3) rfl (flt hc1).1 (XS.iloadN X0.here hx rfl (hb hby own_d6_6) rfl (XS.bipush X0.here hx rfl (hb hby own_d6_7) k))) ?_
    by_cases hc8 : (57 : Int32) < x0
    · refine own_via (T' := s₁) (g' := (mkF m 20 #[.val (.int x0)] [(.int (65 : Int32)), (.int x0)])) (fun t k => XS.icmpYes X0.here hx rfl (pc0 := 9) (pc' := 17) rfl (hb hby own_d6_9) rfl (tlt hc8).2.2.1 (by decide) (by decide) (XS.iloadN X0.here hx rfl (hb hby own_d6_17) rfl (XS.bipush X0.here hx rfl (hb hby own_d6_18) k))) ?_
      by_cases hc9 : x0 < (65 : Int32)
      · refine own_via (T' := s₁) (g' := (mkF m 40 #[.val (.int x0)] [(.int (97 : Int32)), (.int x0)])) (fun t k => XS.icmpYes X0.here hx rfl (pc0 := 20) (pc' := 37) rfl (hb hby own_d6_20) rfl (tlt hc9).1 (by decide) (by decide) (XS.iloadN X0.here hx rfl (hb hby own_d6_37) rfl (XS.bipush X0.here hx rfl (hb hby own_d6_38) k))) ?_
        by_cases hc10 : x0 < (97 : Int32)
        · refine own_via (T' := s₁) (g' := (mkF m 58 #[.val (.int x0)] [(.int (-1 : Int32))])) (fun t k => XS.icmpYes X0.here hx rfl (pc0 := 40) (pc' := 57) rfl (hb hby own_d6_40) rfl (tlt hc10).1 (by decide) (by decide) (XS.iconst X0.here hx rfl (hb hby own_d6_57) k)) ?_
          refine own_retI X0 hx hlk hret (hb hby own_d6_58) (by decide) (by decide) ?_
          exact ⟨by rw [own_hex, if_neg hc1, if_pos hc8, if_pos hc9, if_pos hc10] <;> rfl, e0, rfl⟩
        · refine own_via (T' := s₁) (g' := (mkF m 46 #[.val (.int x0)] [(.int (102 : Int32)), (.int x0)])) (fun t k => XS.icmpNo X0.here hx rfl (hb hby own_d6_40) rfl (flt hc10).1 (XS.iloadN X0.here hx rfl (hb hby own_d6_43) rfl (XS.bipush X0.here hx rfl (hb hby own_d6_44) k))) ?_
          by_cases hc11 : (102 : Int32) < x0
          · refine own_via (T' := s₁) (g' := (mkF m 58 #[.val (.int x0)] [(.int (-1 : Int32))])) (fun t k => XS.icmpYes X0.here hx rfl (pc0 := 46) (pc' := 57) rfl (hb hby own_d6_46) rfl (tlt hc11).2.2.1 (by decide) (by decide) (XS.iconst X0.here hx rfl (hb hby own_d6_57) k)) ?_
            refine own_retI X0 hx hlk hret (hb hby own_d6_58) (by decide) (by decide) ?_
            exact ⟨by rw [own_hex, if_neg hc1, if_pos hc8, if_pos hc9, if_neg hc10, if_pos hc11] <;> rfl, e0, rfl⟩
          · refine own_via (T' := s₁) (g' := (mkF m 56 #[.val (.int x0)] [(.int ((x0 - (97 : Int32)) + (10 : Int32)))])) (fun t k => XS.icmpNo X0.here hx rfl (hb hby own_d6_46) rfl (flt hc11).2.2.1 (XS.iloadN X0.here hx rfl (hb hby own_d6_49) rfl (XS.bipush X0.here hx rfl (hb hby own_d6_50) (XS.isub X0.here hx rfl (hb hby own_d6_52) rfl (XS.bipush X0.here hx rfl (hb hby own_d6_53) (XS.iadd X0.here hx rfl (hb hby own_d6_55) rfl k)))))) ?_
            refine own_retI X0 hx hlk hret (hb hby own_d6_56) (by decide) (by decide) ?_
            exact ⟨by rw [own_hex, if_neg hc1, if_pos hc8, if_pos hc9, if_neg hc10, if_neg hc11] <;> rfl, e0, rfl⟩
      · refine own_via (T' := s₁) (g' := (mkF m 26 #[.val (.int x0)] [(.int (70 : Int32)), (.int x0)])) (fun t k => XS.icmpNo X0.here hx rfl (hb hby own_d6_20) rfl (flt hc9).1 (XS.iloadN X0.here hx rfl (hb hby own_d6_23) rfl (XS.bipush X0.here hx rfl (hb hby own_d6_24) k))) ?_
        by_cases hc12 : (70 : Int32) < x0
        · refine own_via (T' := s₁) (g' := (mkF m 40 #[.val (.int x0)] [(.int (97 : Int32)), (.int x0)])) (fun t k => XS.icmpYes X0.here hx rfl (pc0 := 26) (pc' := 37) rfl (hb hby own_d6_26) rfl (tlt hc12).2.2.1 (by decide) (by decide) (XS.iloadN X0.here hx rfl (hb hby own_d6_37) rfl (XS.bipush X0.here hx rfl (hb hby own_d6_38) k))) ?_
          by_cases hc13 : x0 < (97 : Int32)
          · refine own_via (T' := s₁) (g' := (mkF m 58 #[.val (.int x0)] [(.int (-1 : Int32))])) (fun t k => XS.icmpYes X0.here hx rfl (pc0 := 40) (pc' := 57) rfl (hb hby own_d6_40) rfl (tlt hc13).1 (by decide) (by decide) (XS.iconst X0.here hx rfl (hb hby own_d6_57) k)) ?_
            refine own_retI X0 hx hlk hret (hb hby own_d6_58) (by decide) (by decide) ?_
            exact ⟨by rw [own_hex, if_neg hc1, if_pos hc8, if_neg hc9, if_pos hc12, if_pos hc13] <;> rfl, e0, rfl⟩
          · refine own_via (T' := s₁) (g' := (mkF m 46 #[.val (.int x0)] [(.int (102 : Int32)), (.int x0)])) (fun t k => XS.icmpNo X0.here hx rfl (hb hby own_d6_40) rfl (flt hc13).1 (XS.iloadN X0.here hx rfl (hb hby own_d6_43) rfl (XS.bipush X0.here hx rfl (hb hby own_d6_44) k))) ?_
            by_cases hc14 : (102 : Int32) < x0
            · refine own_via (T' := s₁) (g' := (mkF m 58 #[.val (.int x0)] [(.int (-1 : Int32))])) (fun t k => XS.icmpYes X0.here hx rfl (pc0 := 46) (pc' := 57) rfl (hb hby own_d6_46) rfl (tlt hc14).2.2.1 (by decide) (by decide) (XS.iconst X0.here hx rfl (hb hby own_d6_57) k)) ?_
              refine own_retI X0 hx hlk hret (hb hby own_d6_58) (by decide) (by decide) ?_
              exact ⟨by rw [own_hex, if_neg hc1, if_pos hc8, if_neg hc9, if_pos hc12, if_neg hc13, if_pos hc14] <;> rfl, e0, rfl⟩
            · refine own_via (T' := s₁) (g' := (mkF m 56 #[.val (.int x0)] [(.int ((x0 - (97 : Int32)) + (10 : Int32)))])) (fun t k => XS.icmpNo X0.here hx rfl (hb hby own_d6_46) rfl (flt hc14).2.2.1 (XS.iloadN X0.here hx rfl (hb hby own_d6_49) rfl (XS.bipush X0.here hx rfl (hb hby own_d6_50) (XS.isub X0.here hx rfl (hb hby own_d6_52) rfl (XS.bipush X0.here hx rfl (hb hby own_d6_53) (XS.iadd X0.here hx rfl (hb hby own_d6_55) rfl k)))))) ?_
              refine own_retI X0 hx hlk hret (hb hby own_d6_56) (by decide) (by decide) ?_
              exact ⟨by rw [own_hex, if_neg hc1, if_pos hc8, if_neg hc9, if_pos hc12, if_neg hc13, if_neg hc14] <;> rfl, e0, rfl⟩
        · refine own_via (T' := s₁) (g' := (mkF m 36 #[.val (.int x0)] [(.int ((x0 - (65 : Int32)) + (10 : Int32)))])) (fun t k => XS.icmpNo X0.here hx rfl (hb hby own_d6_26) rfl (flt hc12).2.2.1 (XS.iloadN X0.here hx rfl (hb hby own_d6_29) rfl (XS.bipush X0.here hx rfl (hb hby own_d6_30) (XS.isub X0.here hx rfl (hb hby own_d6_32) rfl (XS.bipush X0.here hx rfl (hb hby own_d6_33) (XS.iadd X0.here hx rfl (hb hby own_d6_35) rfl k)))))) ?_
          refine own_retI X0 hx hlk hret (hb hby own_d6_36) (by decide) (by decide) ?_
          exact ⟨by rw [own_hex, if_neg hc1, if_pos hc8, if_neg hc9, if_neg hc12] <;> rfl, e0, rfl⟩
    · refine own_via (T' := s₁) (g' := (mkF m 16 #[.val (.int x0)] [(.int (x0 - (48 : Int32)))])) (fun t k => XS.icmpNo X0.here hx rfl (hb hby own_d6_9) rfl (flt hc8).2.2.1 (XS.iloadN X0.here hx rfl (hb hby own_d6_12) rfl (XS.bipush X0.here hx rfl (hb hby own_d6_13) (XS.isub X0.here hx rfl (hb hby own_d6_15) rfl k)))) ?_
      refine own_retI X0 hx hlk hret (hb hby own_d6_16) (by decide) (by decide) ?_
      exact ⟨by rw [own_hex, if_neg hc1, if_neg hc8] <;> rfl, e0, rfl⟩
theorem own_txt7 : (∀ c ∈ ("0123456789ABCDEF" : String).toList, c.toNat < 256) ∧ ("0123456789ABCDEF" : String).toList.map (fun c => Value.int (Jvm.Lit.byteI c.toNat.toUInt16)) = [(.int (48 : Int32)), (.int (49 : Int32)), (.int (50 : Int32)), (.int (51 : Int32)), (.int (52 : Int32)), (.int (53 : Int32)), (.int (54 : Int32)), (.int (55 : Int32)), (.int (56 : Int32)), (.int (57 : Int32)), (.int (65 : Int32)), (.int (66 : Int32)), (.int (67 : Int32)), (.int (68 : Int32)), (.int (69 : Int32)), (.int (70 : Int32))] := ⟨by decide, by decide +kernel⟩
theorem own_txt9 : (∀ c ∈ ("0123456789abcdef" : String).toList, c.toNat < 256) ∧ ("0123456789abcdef" : String).toList.map (fun c => Value.int (Jvm.Lit.byteI c.toNat.toUInt16)) = [(.int (48 : Int32)), (.int (49 : Int32)), (.int (50 : Int32)), (.int (51 : Int32)), (.int (52 : Int32)), (.int (53 : Int32)), (.int (54 : Int32)), (.int (55 : Int32)), (.int (56 : Int32)), (.int (57 : Int32)), (.int (97 : Int32)), (.int (98 : Int32)), (.int (99 : Int32)), (.int (100 : Int32)), (.int (101 : Int32)), (.int (102 : Int32))] := ⟨by decide, by decide +kernel⟩
theorem own_pn4 : plainName "com/example/countersign/countersign/PercentEncodingHexValuePinLaw" = true := by first | (simp [plainName, overriddenIn]; done) | decide +kernel
theorem own_pd4 : parseMethodDescriptor "(I)C" = some ⟨[.int], some .char⟩ := by decide +kernel
theorem own_pd5 : parseMethodDescriptor "(C)I" = some ⟨[.char], some .int⟩ := by decide +kernel
def own_f0 (x0 : Int32) (x1 : Int32) (cz : Int32) : Int32 := (if (own_hex (own_ch (x1 &&& (15 : Int32)) ([48, 49, 50, 51, 52, 53, 54, 55, 56, 57, 65, 66, 67, 68, 69, 70] : List Int32) cz)) = (x1 &&& (15 : Int32)) then (if (own_hex (own_ch (x1 &&& (15 : Int32)) ([48, 49, 50, 51, 52, 53, 54, 55, 56, 57, 97, 98, 99, 100, 101, 102] : List Int32) cz)) = (x1 &&& (15 : Int32)) then (if (own_hex ((x0 &&& (65535 : Int32)).toUInt32.toUInt16.toUInt32.toInt32)) < (-1 : Int32) then (0 : Int32) else (if (15 : Int32) < (own_hex ((x0 &&& (65535 : Int32)).toUInt32.toUInt16.toUInt32.toInt32)) then (0 : Int32) else (if (own_hex ((x0 &&& (65535 : Int32)).toUInt32.toUInt16.toUInt32.toInt32)) = (-1 : Int32) then (if ((x0 &&& (65535 : Int32)).toUInt32.toUInt16.toUInt32.toInt32) = (own_ch (x1 &&& (15 : Int32)) ([48, 49, 50, 51, 52, 53, 54, 55, 56, 57, 65, 66, 67, 68, 69, 70] : List Int32) cz) then (0 : Int32) else (if ((x0 &&& (65535 : Int32)).toUInt32.toUInt16.toUInt32.toInt32) = (own_ch (x1 &&& (15 : Int32)) ([48, 49, 50, 51, 52, 53, 54, 55, 56, 57, 97, 98, 99, 100, 101, 102] : List Int32) cz) then (0 : Int32) else (1 : Int32))) else (if ((x0 &&& (65535 : Int32)).toUInt32.toUInt16.toUInt32.toInt32) = (own_ch (own_hex ((x0 &&& (65535 : Int32)).toUInt32.toUInt16.toUInt32.toInt32)) ([48, 49, 50, 51, 52, 53, 54, 55, 56, 57, 65, 66, 67, 68, 69, 70] : List Int32) cz) then (1 : Int32) else (if ((x0 &&& (65535 : Int32)).toUInt32.toUInt16.toUInt32.toInt32) = (own_ch (own_hex ((x0 &&& (65535 : Int32)).toUInt32.toUInt16.toUInt32.toInt32)) ([48, 49, 50, 51, 52, 53, 54, 55, 56, 57, 97, 98, 99, 100, 101, 102] : List Int32) cz) then (1 : Int32) else (0 : Int32)))))) else (0 : Int32)) else (0 : Int32))
set_option maxHeartbeats 40000000 in
theorem own_mt0_ef (m : MethodId) (x0 : Int32) (x1 : Int32) : entryFrame m #[(.int x0), (.int x1)] maxLocals = mkF m 0 #[.val (.int x0), .val (.int x1), .unset, .unset, .unset, .unset, .unset, .unset, .unset] [] := by first | (simp [entryFrame, mkF, argsToLocals, Value.category, maxLocals]; done) | rfl
set_option maxRecDepth 65536 in
set_option maxHeartbeats 40000000 in
theorem own_mt0 (l : Launch) (Z : State) (a0 : Array Value) (hw : ∀ d ∈ tables_1, d.before a0 Z = true) (x0 : Int32) (x1 : Int32) (cz : Int32) (fm : Value) (h0 : Heap) (n0 : Nat) (hh0 : Z.heap = h0) (hn0 : n0 = Z.heap.size) (S_cs : Sta Z Z.heap "java/lang/String" "COMPACT_STRINGS" "Z" (.int cz)) (S_fm : Sta Z Z.heap "jdk/internal/util/Preconditions" "SIOOBE_FORMATTER" "Ljava/util/function/BiFunction;" fm) (Ol : Old Z n0 h0) (hcz : ¬ cz = 0) (hX_fm : fm.isRef = true) (hch : ∀ p ∈ consts_1, Jvm.Lit.constHeld Z p.1 p.2) (hcw : Jvm.Lit.compactW.before a0 Z = true) :
    own_MetW l Z x code maxLocals ret room_1 #[(.int x0), (.int x1)] (fun v h L => v = some (.int (own_f0 x0 x1 cz)) ∧ Fr n0 L) := by
  refine own_introW (plainFor_of_name own_pn4) ?_
  intro p e m below meth c s₁ hx hby hml hown hnm hret hlk X0 e0'
  have e0 : s₁.heap = h0 := e0'.trans hh0
  have hZ : Z.Warmed39 Z.vm := State.Warmed39.refl Z
  have hS0 : Z.Since Z.vm 0 := (State.WarmedH.refl Z).since 0
  have kz0 : 0 ≤ h0.size := Nat.zero_le _
  have Z0 : n0 ≤ h0.size := by rw [hn0, hh0]; exact Nat.le_refl _
  have I0 : IB Z Z.vm [] := IB.start
  refine own_cast (own_mt0_ef m x0 x1) ?_
  have N0 := Fr.nil n0
  obtain ⟨a1, T1, h1, kk1, bb1, kb1, X1, e1, E1, hS1, kz1, hZ, hown, Ex1, Fc1, Fv1, Av1, -, -, I1, st1⟩ := ldcSV X0 hx hZ hown (hw _ (List.mem_of_getElem? (i := 0) rfl)) (own_strw hw) e0 hS0 kz0 (own_fr hn0 N0) (fun _ _ q => q) I0 (by decide) (hch _ (List.mem_of_getElem? (i := 0) rfl)) hcw (vs := [(.int (48 : Int32)), (.int (49 : Int32)), (.int (50 : Int32)), (.int (51 : Int32)), (.int (52 : Int32)), (.int (53 : Int32)), (.int (54 : Int32)), (.int (55 : Int32)), (.int (56 : Int32)), (.int (57 : Int32)), (.int (65 : Int32)), (.int (66 : Int32)), (.int (67 : Int32)), (.int (68 : Int32)), (.int (69 : Int32)), (.int (70 : Int32))]) (z := 16) (own_txt7) (by decide) rfl (g := (mkF m 0 #[.val (.int x0), .val (.int x1), .unset, .unset, .unset, .unset, .unset, .unset, .unset] [])) rfl (hb hby at_0) (n := 64) (by decide) (by decide) (by decide) (by decide)
  have kz2 := Nat.le_trans kz0 E1.1
  have Ol3 := Ol.ext E1
  have V1 : own_Av Z h1 bb1 .byte (([48, 49, 50, 51, 52, 53, 54, 55, 56, 57, 65, 66, 67, 68, 69, 70] : List Int32).map Value.int) := own_Av.of_arv Av1 rfl
  have Z1 : n0 ≤ h1.size := Nat.le_trans Z0 E1.1
  refine own_via (T' := T1) (g' := (mkF m 2 #[.val (.int x0), .val (.int x1), .unset, .unset, .unset, .unset, .unset, .unset, .unset] [(.ref a1)])) st1 ?_
  refine own_via (T' := T1) (g' := (mkF m 3 #[.val (.int x0), .val (.int x1), .val (.ref a1), .unset, .unset, .unset, .unset, .unset, .unset] [])) (fun t k => XS.astoreN X1.here hx rfl (hb hby at_2) rfl rfl (l' := #[.val (.int x0), .val (.int x1), .val (.ref a1), .unset, .unset, .unset, .unset, .unset, .unset]) rfl k) ?_
  obtain ⟨a4, T4, h4, kk4, bb4, kb4, X4, e4, E4, hS4, kz4, hZ, hown, Ex4, Fc4, Fv4, Av4, -, -, I4, st4⟩ := ldcSV X1 hx hZ hown (hw _ (List.mem_of_getElem? (i := 8) rfl)) (own_strw hw) e1 hS1 kz1 (own_fr hn0 N0) (fun _ _ q => q) I1 (by decide) (hch _ (List.mem_of_getElem? (i := 1) rfl)) hcw (vs := [(.int (48 : Int32)), (.int (49 : Int32)), (.int (50 : Int32)), (.int (51 : Int32)), (.int (52 : Int32)), (.int (53 : Int32)), (.int (54 : Int32)), (.int (55 : Int32)), (.int (56 : Int32)), (.int (57 : Int32)), (.int (97 : Int32)), (.int (98 : Int32)), (.int (99 : Int32)), (.int (100 : Int32)), (.int (101 : Int32)), (.int (102 : Int32))]) (z := 16) (own_txt9) (by decide) rfl (g := (mkF m 3 #[.val (.int x0), .val (.int x1), .val (.ref a1), .unset, .unset, .unset, .unset, .unset, .unset] [])) rfl (hb hby at_3) (n := 64) (by decide) (by decide) (by decide) (by decide)
  have kz5 := Nat.le_trans kz1 E4.1
  have Ol6 := Ol3.ext E4
  have Ex1_at7 := Ex1.ext E4
  have Fc1_at8 := Fc1.ext E4
  have Fv1_at9 := Fv1.ext E4
  have V1_at10 := V1.ext E4
  have V4 : own_Av Z h4 bb4 .byte (([48, 49, 50, 51, 52, 53, 54, 55, 56, 57, 97, 98, 99, 100, 101, 102] : List Int32).map Value.int) := own_Av.of_arv Av4 rfl
  have Z4 : n0 ≤ h4.size := Nat.le_trans Z1 E4.1
  refine own_via (T' := T4) (g' := (mkF m 5 #[.val (.int x0), .val (.int x1), .val (.ref a1), .unset, .unset, .unset, .unset, .unset, .unset] [(.ref a4)])) st4 ?_
  refine own_via (T' := T4) (g' := (mkF m 15 #[.val (.int x0), .val (.int x1), .val (.ref a1), .val (.ref a4), .val (.int (x1 &&& (15 : Int32))), .unset, .unset, .unset, .unset] [(.int (x1 &&& (15 : Int32))), (.ref a1)])) (fun t k => XS.astoreN X4.here hx rfl (hb hby at_5) rfl rfl (l' := #[.val (.int x0), .val (.int x1), .val (.ref a1), .val (.ref a4), .unset, .unset, .unset, .unset, .unset]) rfl (XS.iloadN X4.here hx rfl (hb hby at_6) rfl (XS.bipush X4.here hx rfl (hb hby at_7) (XS.iand X4.here hx rfl (hb hby at_9) rfl (XS.istore X4.here hx rfl (hb hby at_10) rfl (l' := #[.val (.int x0), .val (.int x1), .val (.ref a1), .val (.ref a4), .val (.int (x1 &&& (15 : Int32))), .unset, .unset, .unset, .unset]) rfl (XS.aloadN X4.here hx rfl (hb hby at_12) rfl rfl (XS.iload X4.here hx rfl (hb hby at_13) rfl k))))))) ?_
  obtain ⟨v11, T11, L11, X11, hQ11, st11⟩ := own_callVi (y := (⟨"java/lang/String", "charAt", "(I)C"⟩ : MethodName)) (z := (⟨"java/lang/String", "charAt", "(I)C"⟩ : MethodName)) (a := a1) (C := "java/lang/String") (argsL := [(.int (x1 &&& (15 : Int32)))]) (rest := []) X4 hx hZ hown (hw _ (List.mem_of_getElem? (i := 9) rfl)) (hw _ (List.mem_of_getElem? (i := 10) rfl)) (notFace_of_selects (args := #[]) (mvT hZ (hw _ (List.mem_of_getElem? (i := 12) rfl)))) (hw _ (List.mem_of_getElem? (i := 12) rfl)) (hw _ (List.mem_of_getElem? (i := 11) rfl)) (hw _ (List.mem_of_getElem? (i := 1) rfl)) (hw _ (List.mem_of_getElem? (i := 13) rfl)) (by decide) Ex1_at7 (own_mt1 l Z a0 hw a1 (x1 &&& (15 : Int32)) bb1 ([48, 49, 50, 51, 52, 53, 54, 55, 56, 57, 65, 66, 67, 68, 69, 70] : List Int32) cz fm h4 Ex1_at7 Fc1_at8 Fv1_at9 V1_at10 (S_cs.ext Ol6.2) (S_fm.ext Ol6.2) hcz hX_fm (by decide) (own_m15 _)) e4 (W := 0) (by decide) (by decide) (g := (mkF m 15 #[.val (.int x0), .val (.int x1), .val (.ref a1), .val (.ref a4), .val (.int (x1 &&& (15 : Int32))), .unset, .unset, .unset, .unset] [(.int (x1 &&& (15 : Int32))), (.ref a1)])) rfl (by rw [hml]; rfl) (lenOf own_pd4 rfl) rfl (by show 2 * 0 + _ ≤ _; exact Nat.le_of_eq rfl) (hb hby at_15) (by decide) (by decide)
  obtain ⟨rfl, e11, rfl⟩ := hQ11
  have N11 := Fr.app N0 (Fr.nil n0)
  obtain ⟨ch11, h_ch11⟩ : ∃ z, z = (own_ch (x1 &&& (15 : Int32)) ([48, 49, 50, 51, 52, 53, 54, 55, 56, 57, 65, 66, 67, 68, 69, 70] : List Int32) cz) := ⟨_, rfl⟩
  rw [← h_ch11] at st11
  refine own_via (T' := T11) (g' := (mkF m 18 #[.val (.int x0), .val (.int x1), .val (.ref a1), .val (.ref a4), .val (.int (x1 &&& (15 : Int32))), .unset, .unset, .unset, .unset] [(.int ch11)])) st11 ?_
  refine own_via (T' := T11) (g' := (mkF m 23 #[.val (.int x0), .val (.int x1), .val (.ref a1), .val (.ref a4), .val (.int (x1 &&& (15 : Int32))), .val (.int ch11), .unset, .unset, .unset] [(.int (x1 &&& (15 : Int32))), (.ref a4)])) (fun t k => XS.istore X11.here hx rfl (hb hby at_18) rfl (l' := #[.val (.int x0), .val (.int x1), .val (.ref a1), .val (.ref a4), .val (.int (x1 &&& (15 : Int32))), .val (.int ch11), .unset, .unset, .unset]) rfl (XS.aloadN X11.here hx rfl (hb hby at_20) rfl rfl (XS.iload X11.here hx rfl (hb hby at_21) rfl k))) ?_
  obtain ⟨v12, T12, L12, X12, hQ12, st12⟩ := own_callVi (y := (⟨"java/lang/String", "charAt", "(I)C"⟩ : MethodName)) (z := (⟨"java/lang/String", "charAt", "(I)C"⟩ : MethodName)) (a := a4) (C := "java/lang/String") (argsL := [(.int (x1 &&& (15 : Int32)))]) (rest := []) X11 hx hZ hown (hw _ (List.mem_of_getElem? (i := 9) rfl)) (hw _ (List.mem_of_getElem? (i := 10) rfl)) (notFace_of_selects (args := #[]) (mvT hZ (hw _ (List.mem_of_getElem? (i := 12) rfl)))) (hw _ (List.mem_of_getElem? (i := 12) rfl)) (hw _ (List.mem_of_getElem? (i := 11) rfl)) (hw _ (List.mem_of_getElem? (i := 1) rfl)) (hw _ (List.mem_of_getElem? (i := 13) rfl)) (by decide) Ex4 (own_mt1 l Z a0 hw a4 (x1 &&& (15 : Int32)) bb4 ([48, 49, 50, 51, 52, 53, 54, 55, 56, 57, 97, 98, 99, 100, 101, 102] : List Int32) cz fm h4 Ex4 Fc4 Fv4 V4 (S_cs.ext Ol6.2) (S_fm.ext Ol6.2) hcz hX_fm (by decide) (own_m15 _)) e11 (W := 0) (by decide) (by decide) (g := (mkF m 23 #[.val (.int x0), .val (.int x1), .val (.ref a1), .val (.ref a4), .val (.int (x1 &&& (15 : Int32))), .val (.int ch11), .unset, .unset, .unset] [(.int (x1 &&& (15 : Int32))), (.ref a4)])) rfl (by rw [hml]; rfl) (lenOf own_pd4 rfl) rfl (by show 2 * 0 + _ ≤ _; exact Nat.le_of_eq rfl) (hb hby at_23) (by decide) (by decide)
  obtain ⟨rfl, e12, rfl⟩ := hQ12
  have N12 := Fr.app N11 (Fr.nil n0)
  obtain ⟨ch12, h_ch12⟩ : ∃ z, z = (own_ch (x1 &&& (15 : Int32)) ([48, 49, 50, 51, 52, 53, 54, 55, 56, 57, 97, 98, 99, 100, 101, 102] : List Int32) cz) := ⟨_, rfl⟩
  rw [← h_ch12] at st12
  refine own_via (T' := T12) (g' := (mkF m 26 #[.val (.int x0), .val (.int x1), .val (.ref a1), .val (.ref a4), .val (.int (x1 &&& (15 : Int32))), .val (.int ch11), .unset, .unset, .unset] [(.int ch12)])) st12 ?_
  refine own_via (T' := T12) (g' := (mkF m 30 #[.val (.int x0), .val (.int x1), .val (.ref a1), .val (.ref a4), .val (.int (x1 &&& (15 : Int32))), .val (.int ch11), .val (.int ch12), .unset, .unset] [(.int ch11)])) (fun t k => XS.istore X12.here hx rfl (hb hby at_26) rfl (l' := #[.val (.int x0), .val (.int x1), .val (.ref a1), .val (.ref a4), .val (.int (x1 &&& (15 : Int32))), .val (.int ch11), .val (.int ch12), .unset, .unset]) rfl (XS.iload X12.here hx rfl (hb hby at_28) rfl k)) ?_
  obtain ⟨v13, T13, L13, X13, hQ13, st13⟩ := own_callSt (y := (⟨"com/example/countersign/countersign/PercentEncoding", "hexValue", "(C)I"⟩ : MethodName)) (argsL := [(.int ch11)]) (rest := []) X12 hx hZ hown (hw _ (List.mem_of_getElem? (i := 34) rfl)) (hw _ (List.mem_of_getElem? (i := 35) rfl)) (hw _ (List.mem_of_getElem? (i := 36) rfl)) (hw _ (List.mem_of_getElem? (i := 37) rfl)) (by decide) (own_mt6 l Z a0 hw ch11 h4) e12 (W := 0) (by decide) (by decide) (g := (mkF m 30 #[.val (.int x0), .val (.int x1), .val (.ref a1), .val (.ref a4), .val (.int (x1 &&& (15 : Int32))), .val (.int ch11), .val (.int ch12), .unset, .unset] [(.int ch11)])) rfl (by rw [hml]; rfl) (lenOf own_pd5 rfl) rfl (by show 2 * 0 + _ ≤ _; exact Nat.le_of_eq rfl) (hb hby at_30) (by decide) (by decide)
  obtain ⟨rfl, e13, rfl⟩ := hQ13
  have N13 := Fr.app N12 (Fr.nil n0)
  obtain ⟨hx13, h_hx13⟩ : ∃ z, z = (own_hex ch11) := ⟨_, rfl⟩
  rw [← h_hx13] at st13
  refine own_via (T' := T13) (g' := (mkF m 33 #[.val (.int x0), .val (.int x1), .val (.ref a1), .val (.ref a4), .val (.int (x1 &&& (15 : Int32))), .val (.int ch11), .val (.int ch12), .unset, .unset] [(.int hx13)])) st13 ?_
  refine own_via (T' := T13) (g' := (mkF m 35 #[.val (.int x0), .val (.int x1), .val (.ref a1), .val (.ref a4), .val (.int (x1 &&& (15 : Int32))), .val (.int ch11), .val (.int ch12), .unset, .unset] [(.int (x1 &&& (15 : Int32))), (.int hx13)])) (fun t k => XS.iload X13.here hx rfl (hb hby at_33) rfl k) ?_
  by_cases hc14 : hx13 = (x1 &&& (15 : Int32))
  · refine own_via (T' := T13) (g' := (mkF m 42 #[.val (.int x0), .val (.int x1), .val (.ref a1), .val (.ref a4), .val (.int (x1 &&& (15 : Int32))), .val (.int ch11), .val (.int ch12), .unset, .unset] [(.int ch12)])) (fun t k => XS.icmpYes X13.here hx rfl (pc0 := 35) (pc' := 40) rfl (hb hby at_35) rfl (teq hc14).1 (by decide) (by decide) (XS.iload X13.here hx rfl (hb hby at_40) rfl k)) ?_
    obtain ⟨v15, T15, L15, X15, hQ15, st15⟩ := own_callSt (y := (⟨"com/example/countersign/countersign/PercentEncoding", "hexValue", "(C)I"⟩ : MethodName)) (argsL := [(.int ch12)]) (rest := []) X13 hx hZ hown (hw _ (List.mem_of_getElem? (i := 34) rfl)) (hw _ (List.mem_of_getElem? (i := 35) rfl)) (hw _ (List.mem_of_getElem? (i := 36) rfl)) (hw _ (List.mem_of_getElem? (i := 37) rfl)) (by decide) (own_mt6 l Z a0 hw ch12 h4) e13 (W := 0) (by decide) (by decide) (g := (mkF m 42 #[.val (.int x0), .val (.int x1), .val (.ref a1), .val (.ref a4), .val (.int (x1 &&& (15 : Int32))), .val (.int ch11), .val (.int ch12), .unset, .unset] [(.int ch12)])) rfl (by rw [hml]; rfl) (lenOf own_pd5 rfl) rfl (by show 2 * 0 + _ ≤ _; exact Nat.le_of_eq rfl) (hb hby at_42) (by decide) (by decide)
    obtain ⟨rfl, e15, rfl⟩ := hQ15
    have N15 := Fr.app N13 (Fr.nil n0)
    obtain ⟨hx15, h_hx15⟩ : ∃ z, z = (own_hex ch12) := ⟨_, rfl⟩
    rw [← h_hx15] at st15
    refine own_via (T' := T15) (g' := (mkF m 45 #[.val (.int x0), .val (.int x1), .val (.ref a1), .val (.ref a4), .val (.int (x1 &&& (15 : Int32))), .val (.int ch11), .val (.int ch12), .unset, .unset] [(.int hx15)])) st15 ?_
    refine own_via (T' := T15) (g' := (mkF m 47 #[.val (.int x0), .val (.int x1), .val (.ref a1), .val (.ref a4), .val (.int (x1 &&& (15 : Int32))), .val (.int ch11), .val (.int ch12), .unset, .unset] [(.int (x1 &&& (15 : Int32))), (.int hx15)])) (fun t k => XS.iload X15.here hx rfl (hb hby at_45) rfl k) ?_
    by_cases hc16 : hx15 = (x1 &&& (15 : Int32))
    · refine own_via (T' := T15) (g' := (mkF m 53 #[.val (.int x0), .val (.int x1), .val (.ref a1), .val (.ref a4), .val (.int (x1 &&& (15 : Int32))), .val (.int ch11), .val (.int ch12), .unset, .unset] [(.int x0)])) (fun t k => XS.icmpYes X15.here hx rfl (pc0 := 47) (pc' := 52) rfl (hb hby at_47) rfl (teq hc16).1 (by decide) (by decide) (XS.iloadN X15.here hx rfl (hb hby at_52) rfl k)) ?_
      refine own_via (T' := T15) (g' := (mkF m 55 #[.val (.int x0), .val (.int x1), .val (.ref a1), .val (.ref a4), .val (.int (x1 &&& (15 : Int32))), .val (.int ch11), .val (.int ch12), .unset, .unset] [(.int (65535 : Int32)), (.int x0)])) (X15.ldcInt hx hown (mvT hZ (hw _ (List.mem_of_getElem? (i := 38) rfl))) (g := (mkF m 53 #[.val (.int x0), .val (.int x1), .val (.ref a1), .val (.ref a4), .val (.int (x1 &&& (15 : Int32))), .val (.int ch11), .val (.int ch12), .unset, .unset] [(.int x0)])) rfl (hb hby at_53)) ?_
      refine own_via (T' := T15) (g' := (mkF m 61 #[.val (.int x0), .val (.int x1), .val (.ref a1), .val (.ref a4), .val (.int (x1 &&& (15 : Int32))), .val (.int ch11), .val (.int ch12), .val (.int ((x0 &&& (65535 : Int32)).toUInt32.toUInt16.toUInt32.toInt32)), .unset] [(.int ((x0 &&& (65535 : Int32)).toUInt32.toUInt16.toUInt32.toInt32))])) (fun t k => XS.iand X15.here hx rfl (hb hby at_55) rfl (XS.i2c X15.here hx rfl (hb hby at_56) rfl (XS.istore X15.here hx rfl (hb hby at_57) rfl (l' := #[.val (.int x0), .val (.int x1), .val (.ref a1), .val (.ref a4), .val (.int (x1 &&& (15 : Int32))), .val (.int ch11), .val (.int ch12), .val (.int ((x0 &&& (65535 : Int32)).toUInt32.toUInt16.toUInt32.toInt32)), .unset]) rfl (XS.iload X15.here hx rfl (hb hby at_59) rfl k)))) ?_
      obtain ⟨v17, T17, L17, X17, hQ17, st17⟩ := own_callSt (y := (⟨"com/example/countersign/countersign/PercentEncoding", "hexValue", "(C)I"⟩ : MethodName)) (argsL := [(.int ((x0 &&& (65535 : Int32)).toUInt32.toUInt16.toUInt32.toInt32))]) (rest := []) X15 hx hZ hown (hw _ (List.mem_of_getElem? (i := 34) rfl)) (hw _ (List.mem_of_getElem? (i := 35) rfl)) (hw _ (List.mem_of_getElem? (i := 36) rfl)) (hw _ (List.mem_of_getElem? (i := 37) rfl)) (by decide) (own_mt6 l Z a0 hw ((x0 &&& (65535 : Int32)).toUInt32.toUInt16.toUInt32.toInt32) h4) e15 (W := 0) (by decide) (by decide) (g := (mkF m 61 #[.val (.int x0), .val (.int x1), .val (.ref a1), .val (.ref a4), .val (.int (x1 &&& (15 : Int32))), .val (.int ch11), .val (.int ch12), .val (.int ((x0 &&& (65535 : Int32)).toUInt32.toUInt16.toUInt32.toInt32)), .unset] [(.int ((x0 &&& (65535 : Int32)).toUInt32.toUInt16.toUInt32.toInt32))])) rfl (by rw [hml]; rfl) (lenOf own_pd5 rfl) rfl (by show 2 * 0 + _ ≤ _; exact Nat.le_of_eq rfl) (hb hby at_61) (by decide) (by decide)
      obtain ⟨rfl, e17, rfl⟩ := hQ17
      have N17 := Fr.app N15 (Fr.nil n0)
      obtain ⟨hx17, h_hx17⟩ : ∃ z, z = (own_hex ((x0 &&& (65535 : Int32)).toUInt32.toUInt16.toUInt32.toInt32)) := ⟨_, rfl⟩
      rw [← h_hx17] at st17
      refine own_via (T' := T17) (g' := (mkF m 64 #[.val (.int x0), .val (.int x1), .val (.ref a1), .val (.ref a4), .val (.int (x1 &&& (15 : Int32))), .val (.int ch11), .val (.int ch12), .val (.int ((x0 &&& (65535 : Int32)).toUInt32.toUInt16.toUInt32.toInt32)), .unset] [(.int hx17)])) st17 ?_
      refine own_via (T' := T17) (g' := (mkF m 69 #[.val (.int x0), .val (.int x1), .val (.ref a1), .val (.ref a4), .val (.int (x1 &&& (15 : Int32))), .val (.int ch11), .val (.int ch12), .val (.int ((x0 &&& (65535 : Int32)).toUInt32.toUInt16.toUInt32.toInt32)), .val (.int hx17)] [(.int (-1 : Int32)), (.int hx17)])) (fun t k => XS.istore X17.here hx rfl (hb hby at_64) rfl (l' := #[.val (.int x0), .val (.int x1), .val (.ref a1), .val (.ref a4), .val (.int (x1 &&& (15 : Int32))), .val (.int ch11), .val (.int ch12), .val (.int ((x0 &&& (65535 : Int32)).toUInt32.toUInt16.toUInt32.toInt32)), .val (.int hx17)]) rfl (XS.iload X17.here hx rfl (hb hby at_66) rfl (XS.iconst X17.here hx rfl (hb hby at_68) k))) ?_
      by_cases hc18 : hx17 < (-1 : Int32)
      · refine own_via (T' := T17) (g' := (mkF m 80 #[.val (.int x0), .val (.int x1), .val (.ref a1), .val (.ref a4), .val (.int (x1 &&& (15 : Int32))), .val (.int ch11), .val (.int ch12), .val (.int ((x0 &&& (65535 : Int32)).toUInt32.toUInt16.toUInt32.toInt32)), .val (.int hx17)] [(.int (0 : Int32))])) (fun t k => XS.icmpYes X17.here hx rfl (pc0 := 69) (pc' := 79) rfl (hb hby at_69) rfl (tlt hc18).1 (by decide) (by decide) (XS.iconst X17.here hx rfl (hb hby at_79) k)) ?_
        refine own_retNW X17 hx hS4 e17 kz4 hlk (ty := .boolean) hret (by simp) (hb hby at_80) (by decide) (by decide) ?_
        exact ⟨by subst h_hx17 h_hx15 h_hx13 h_ch12 h_ch11; rw [own_f0, if_pos hc14, if_pos hc16, if_pos hc18] <;> rfl, N17⟩
      · refine own_via (T' := T17) (g' := (mkF m 76 #[.val (.int x0), .val (.int x1), .val (.ref a1), .val (.ref a4), .val (.int (x1 &&& (15 : Int32))), .val (.int ch11), .val (.int ch12), .val (.int ((x0 &&& (65535 : Int32)).toUInt32.toUInt16.toUInt32.toInt32)), .val (.int hx17)] [(.int (15 : Int32)), (.int hx17)])) (fun t k => XS.icmpNo X17.here hx rfl (hb hby at_69) rfl (flt hc18).1 (XS.iload X17.here hx rfl (hb hby at_72) rfl (XS.bipush X17.here hx rfl (hb hby at_74) k))) ?_
        by_cases hc19 : (15 : Int32) < hx17
        · refine own_via (T' := T17) (g' := (mkF m 80 #[.val (.int x0), .val (.int x1), .val (.ref a1), .val (.ref a4), .val (.int (x1 &&& (15 : Int32))), .val (.int ch11), .val (.int ch12), .val (.int ((x0 &&& (65535 : Int32)).toUInt32.toUInt16.toUInt32.toInt32)), .val (.int hx17)] [(.int (0 : Int32))])) (fun t k => XS.icmpNo X17.here hx rfl (hb hby at_76) rfl (tlt hc19).2.2.2 (XS.iconst X17.here hx rfl (hb hby at_79) k)) ?_
          refine own_retNW X17 hx hS4 e17 kz4 hlk (ty := .boolean) hret (by simp) (hb hby at_80) (by decide) (by decide) ?_
          exact ⟨by subst h_hx17 h_hx15 h_hx13 h_ch12 h_ch11; rw [own_f0, if_pos hc14, if_pos hc16, if_neg hc18, if_pos hc19] <;> rfl, N17⟩
        · refine own_via (T' := T17) (g' := (mkF m 84 #[.val (.int x0), .val (.int x1), .val (.ref a1), .val (.ref a4), .val (.int (x1 &&& (15 : Int32))), .val (.int ch11), .val (.int ch12), .val (.int ((x0 &&& (65535 : Int32)).toUInt32.toUInt16.toUInt32.toInt32)), .val (.int hx17)] [(.int (-1 : Int32)), (.int hx17)])) (fun t k => XS.icmpYes X17.here hx rfl (pc0 := 76) (pc' := 81) rfl (hb hby at_76) rfl (flt hc19).2.2.2 (by decide) (by decide) (XS.iload X17.here hx rfl (hb hby at_81) rfl (XS.iconst X17.here hx rfl (hb hby at_83) k))) ?_
          by_cases hc20 : hx17 = (-1 : Int32)
          · refine own_via (T' := T17) (g' := (mkF m 91 #[.val (.int x0), .val (.int x1), .val (.ref a1), .val (.ref a4), .val (.int (x1 &&& (15 : Int32))), .val (.int ch11), .val (.int ch12), .val (.int ((x0 &&& (65535 : Int32)).toUInt32.toUInt16.toUInt32.toInt32)), .val (.int hx17)] [(.int ch11), (.int ((x0 &&& (65535 : Int32)).toUInt32.toUInt16.toUInt32.toInt32))])) (fun t k => XS.icmpNo X17.here hx rfl (hb hby at_84) rfl (teq hc20).2 (XS.iload X17.here hx rfl (hb hby at_87) rfl (XS.iload X17.here hx rfl (hb hby at_89) rfl k))) ?_
            by_cases hc21 : ((x0 &&& (65535 : Int32)).toUInt32.toUInt16.toUInt32.toInt32) = ch11
            · refine own_via (T' := T17) (g' := (mkF m 106 #[.val (.int x0), .val (.int x1), .val (.ref a1), .val (.ref a4), .val (.int (x1 &&& (15 : Int32))), .val (.int ch11), .val (.int ch12), .val (.int ((x0 &&& (65535 : Int32)).toUInt32.toUInt16.toUInt32.toInt32)), .val (.int hx17)] [(.int (0 : Int32))])) (fun t k => XS.icmpYes X17.here hx rfl (pc0 := 91) (pc' := 105) rfl (hb hby at_91) rfl (teq hc21).1 (by decide) (by decide) (XS.iconst X17.here hx rfl (hb hby at_105) k)) ?_
              refine own_retNW X17 hx hS4 e17 kz4 hlk (ty := .boolean) hret (by simp) (hb hby at_106) (by decide) (by decide) ?_
              exact ⟨by subst h_hx17 h_hx15 h_hx13 h_ch12 h_ch11; rw [own_f0, if_pos hc14, if_pos hc16, if_neg hc18, if_neg hc19, if_pos hc20, if_pos hc21] <;> rfl, N17⟩
            · refine own_via (T' := T17) (g' := (mkF m 98 #[.val (.int x0), .val (.int x1), .val (.ref a1), .val (.ref a4), .val (.int (x1 &&& (15 : Int32))), .val (.int ch11), .val (.int ch12), .val (.int ((x0 &&& (65535 : Int32)).toUInt32.toUInt16.toUInt32.toInt32)), .val (.int hx17)] [(.int ch12), (.int ((x0 &&& (65535 : Int32)).toUInt32.toUInt16.toUInt32.toInt32))])) (fun t k => XS.icmpNo X17.here hx rfl (hb hby at_91) rfl (feq hc21).1 (XS.iload X17.here hx rfl (hb hby at_94) rfl (XS.iload X17.here hx rfl (hb hby at_96) rfl k))) ?_
              by_cases hc22 : ((x0 &&& (65535 : Int32)).toUInt32.toUInt16.toUInt32.toInt32) = ch12
              · refine own_via (T' := T17) (g' := (mkF m 106 #[.val (.int x0), .val (.int x1), .val (.ref a1), .val (.ref a4), .val (.int (x1 &&& (15 : Int32))), .val (.int ch11), .val (.int ch12), .val (.int ((x0 &&& (65535 : Int32)).toUInt32.toUInt16.toUInt32.toInt32)), .val (.int hx17)] [(.int (0 : Int32))])) (fun t k => XS.icmpYes X17.here hx rfl (pc0 := 98) (pc' := 105) rfl (hb hby at_98) rfl (teq hc22).1 (by decide) (by decide) (XS.iconst X17.here hx rfl (hb hby at_105) k)) ?_
                refine own_retNW X17 hx hS4 e17 kz4 hlk (ty := .boolean) hret (by simp) (hb hby at_106) (by decide) (by decide) ?_
                exact ⟨by subst h_hx17 h_hx15 h_hx13 h_ch12 h_ch11; rw [own_f0, if_pos hc14, if_pos hc16, if_neg hc18, if_neg hc19, if_pos hc20, if_neg hc21, if_pos hc22] <;> rfl, N17⟩
              · refine own_via (T' := T17) (g' := (mkF m 106 #[.val (.int x0), .val (.int x1), .val (.ref a1), .val (.ref a4), .val (.int (x1 &&& (15 : Int32))), .val (.int ch11), .val (.int ch12), .val (.int ((x0 &&& (65535 : Int32)).toUInt32.toUInt16.toUInt32.toInt32)), .val (.int hx17)] [(.int (1 : Int32))])) (fun t k => XS.icmpNo X17.here hx rfl (hb hby at_98) rfl (feq hc22).1 (XS.iconst X17.here hx rfl (hb hby at_101) (XS.goto X17.here hx rfl (pc0 := 102) (pc' := 106) rfl (hb hby at_102) (by decide) (by decide) k))) ?_
                refine own_retNW X17 hx hS4 e17 kz4 hlk (ty := .boolean) hret (by simp) (hb hby at_106) (by decide) (by decide) ?_
                exact ⟨by subst h_hx17 h_hx15 h_hx13 h_ch12 h_ch11; rw [own_f0, if_pos hc14, if_pos hc16, if_neg hc18, if_neg hc19, if_pos hc20, if_neg hc21, if_neg hc22] <;> rfl, N17⟩
          · refine own_via (T' := T17) (g' := (mkF m 112 #[.val (.int x0), .val (.int x1), .val (.ref a1), .val (.ref a4), .val (.int (x1 &&& (15 : Int32))), .val (.int ch11), .val (.int ch12), .val (.int ((x0 &&& (65535 : Int32)).toUInt32.toUInt16.toUInt32.toInt32)), .val (.int hx17)] [(.int hx17), (.ref a1), (.int ((x0 &&& (65535 : Int32)).toUInt32.toUInt16.toUInt32.toInt32))])) (fun t k => XS.icmpYes X17.here hx rfl (pc0 := 84) (pc' := 107) rfl (hb hby at_84) rfl (feq hc20).2 (by decide) (by decide) (XS.iload X17.here hx rfl (hb hby at_107) rfl (XS.aloadN X17.here hx rfl (hb hby at_109) rfl rfl (XS.iload X17.here hx rfl (hb hby at_110) rfl k)))) ?_
            obtain ⟨v23, T23, L23, X23, hQ23, st23⟩ := own_callVi (y := (⟨"java/lang/String", "charAt", "(I)C"⟩ : MethodName)) (z := (⟨"java/lang/String", "charAt", "(I)C"⟩ : MethodName)) (a := a1) (C := "java/lang/String") (argsL := [(.int hx17)]) (rest := [(.int ((x0 &&& (65535 : Int32)).toUInt32.toUInt16.toUInt32.toInt32))]) X17 hx hZ hown (hw _ (List.mem_of_getElem? (i := 9) rfl)) (hw _ (List.mem_of_getElem? (i := 10) rfl)) (notFace_of_selects (args := #[]) (mvT hZ (hw _ (List.mem_of_getElem? (i := 12) rfl)))) (hw _ (List.mem_of_getElem? (i := 12) rfl)) (hw _ (List.mem_of_getElem? (i := 11) rfl)) (hw _ (List.mem_of_getElem? (i := 1) rfl)) (hw _ (List.mem_of_getElem? (i := 13) rfl)) (by decide) Ex1_at7 (own_mt1 l Z a0 hw a1 hx17 bb1 ([48, 49, 50, 51, 52, 53, 54, 55, 56, 57, 65, 66, 67, 68, 69, 70] : List Int32) cz fm h4 Ex1_at7 Fc1_at8 Fv1_at9 V1_at10 (S_cs.ext Ol6.2) (S_fm.ext Ol6.2) hcz hX_fm (by decide) (own_r15 hc18 hc19 hc20)) e17 (W := 1) (by decide) (by decide) (g := (mkF m 112 #[.val (.int x0), .val (.int x1), .val (.ref a1), .val (.ref a4), .val (.int (x1 &&& (15 : Int32))), .val (.int ch11), .val (.int ch12), .val (.int ((x0 &&& (65535 : Int32)).toUInt32.toUInt16.toUInt32.toInt32)), .val (.int hx17)] [(.int hx17), (.ref a1), (.int ((x0 &&& (65535 : Int32)).toUInt32.toUInt16.toUInt32.toInt32))])) rfl (by rw [hml]; rfl) (lenOf own_pd4 rfl) rfl (by show 2 * 0 + _ ≤ _; exact Nat.le_of_eq rfl) (hb hby at_112) (by decide) (by decide)
            obtain ⟨rfl, e23, rfl⟩ := hQ23
            have N23 := Fr.app N17 (Fr.nil n0)
            obtain ⟨ch23, h_ch23⟩ : ∃ z, z = (own_ch hx17 ([48, 49, 50, 51, 52, 53, 54, 55, 56, 57, 65, 66, 67, 68, 69, 70] : List Int32) cz) := ⟨_, rfl⟩
            rw [← h_ch23] at st23
            refine own_via (T' := T23) (g' := (mkF m 115 #[.val (.int x0), .val (.int x1), .val (.ref a1), .val (.ref a4), .val (.int (x1 &&& (15 : Int32))), .val (.int ch11), .val (.int ch12), .val (.int ((x0 &&& (65535 : Int32)).toUInt32.toUInt16.toUInt32.toInt32)), .val (.int hx17)] [(.int ch23), (.int ((x0 &&& (65535 : Int32)).toUInt32.toUInt16.toUInt32.toInt32))])) st23 ?_
            by_cases hc24 : ((x0 &&& (65535 : Int32)).toUInt32.toUInt16.toUInt32.toInt32) = ch23
            · refine own_via (T' := T23) (g' := (mkF m 134 #[.val (.int x0), .val (.int x1), .val (.ref a1), .val (.ref a4), .val (.int (x1 &&& (15 : Int32))), .val (.int ch11), .val (.int ch12), .val (.int ((x0 &&& (65535 : Int32)).toUInt32.toUInt16.toUInt32.toInt32)), .val (.int hx17)] [(.int (1 : Int32))])) (fun t k => XS.icmpYes X23.here hx rfl (pc0 := 115) (pc' := 129) rfl (hb hby at_115) rfl (teq hc24).1 (by decide) (by decide) (XS.iconst X23.here hx rfl (hb hby at_129) (XS.goto X23.here hx rfl (pc0 := 130) (pc' := 134) rfl (hb hby at_130) (by decide) (by decide) k))) ?_
              refine own_retNW X23 hx hS4 e23 kz4 hlk (ty := .boolean) hret (by simp) (hb hby at_134) (by decide) (by decide) ?_
              exact ⟨by subst h_ch23 h_hx17 h_hx15 h_hx13 h_ch12 h_ch11; rw [own_f0, if_pos hc14, if_pos hc16, if_neg hc18, if_neg hc19, if_neg hc20, if_pos hc24] <;> rfl, N23⟩
            · refine own_via (T' := T23) (g' := (mkF m 123 #[.val (.int x0), .val (.int x1), .val (.ref a1), .val (.ref a4), .val (.int (x1 &&& (15 : Int32))), .val (.int ch11), .val (.int ch12), .val (.int ((x0 &&& (65535 : Int32)).toUInt32.toUInt16.toUInt32.toInt32)), .val (.int hx17)] [(.int hx17), (.ref a4), (.int ((x0 &&& (65535 : Int32)).toUInt32.toUInt16.toUInt32.toInt32))])) (fun t k => XS.icmpNo X23.here hx rfl (hb hby at_115) rfl (feq hc24).1 (XS.iload X23.here hx rfl (hb hby at_118) rfl (XS.aloadN X23.here hx rfl (hb hby at_120) rfl rfl (XS.iload X23.here hx rfl (hb hby at_121) rfl k)))) ?_
              obtain ⟨v25, T25, L25, X25, hQ25, st25⟩ := own_callVi (y := (⟨"java/lang/String", "charAt", "(I)C"⟩ : MethodName)) (z := (⟨"java/lang/String", "charAt", "(I)C"⟩ : MethodName)) (a := a4) (C := "java/lang/String") (argsL := [(.int hx17)]) (rest := [(.int ((x0 &&& (65535 : Int32)).toUInt32.toUInt16.toUInt32.toInt32))]) X23 hx hZ hown (hw _ (List.mem_of_getElem? (i := 9) rfl)) (hw _ (List.mem_of_getElem? (i := 10) rfl)) (notFace_of_selects (args := #[]) (mvT hZ (hw _ (List.mem_of_getElem? (i := 12) rfl)))) (hw _ (List.mem_of_getElem? (i := 12) rfl)) (hw _ (List.mem_of_getElem? (i := 11) rfl)) (hw _ (List.mem_of_getElem? (i := 1) rfl)) (hw _ (List.mem_of_getElem? (i := 13) rfl)) (by decide) Ex4 (own_mt1 l Z a0 hw a4 hx17 bb4 ([48, 49, 50, 51, 52, 53, 54, 55, 56, 57, 97, 98, 99, 100, 101, 102] : List Int32) cz fm h4 Ex4 Fc4 Fv4 V4 (S_cs.ext Ol6.2) (S_fm.ext Ol6.2) hcz hX_fm (by decide) (own_r15 hc18 hc19 hc20)) e23 (W := 1) (by decide) (by decide) (g := (mkF m 123 #[.val (.int x0), .val (.int x1), .val (.ref a1), .val (.ref a4), .val (.int (x1 &&& (15 : Int32))), .val (.int ch11), .val (.int ch12), .val (.int ((x0 &&& (65535 : Int32)).toUInt32.toUInt16.toUInt32.toInt32)), .val (.int hx17)] [(.int hx17), (.ref a4), (.int ((x0 &&& (65535 : Int32)).toUInt32.toUInt16.toUInt32.toInt32))])) rfl (by rw [hml]; rfl) (lenOf own_pd4 rfl) rfl (by show 2 * 0 + _ ≤ _; exact Nat.le_of_eq rfl) (hb hby at_123) (by decide) (by decide)
              obtain ⟨rfl, e25, rfl⟩ := hQ25
              have N25 := Fr.app N23 (Fr.nil n0)
              obtain ⟨ch25, h_ch25⟩ : ∃ z, z = (own_ch hx17 ([48, 49, 50, 51, 52, 53, 54, 55, 56, 57, 97, 98, 99, 100, 101, 102] : List Int32) cz) := ⟨_, rfl⟩
              rw [← h_ch25] at st25
              refine own_via (T' := T25) (g' := (mkF m 126 #[.val (.int x0), .val (.int x1), .val (.ref a1), .val (.ref a4), .val (.int (x1 &&& (15 : Int32))), .val (.int ch11), .val (.int ch12), .val (.int ((x0 &&& (65535 : Int32)).toUInt32.toUInt16.toUInt32.toInt32)), .val (.int hx17)] [(.int ch25), (.int ((x0 &&& (65535 : Int32)).toUInt32.toUInt16.toUInt32.toInt32))])) st25 ?_
              by_cases hc26 : ((x0 &&& (65535 : Int32)).toUInt32.toUInt16.toUInt32.toInt32) = ch25
              · refine own_via (T' := T25) (g' := (mkF m 134 #[.val (.int x0), .val (.int x1), .val (.ref a1), .val (.ref a4), .val (.int (x1 &&& (15 : Int32))), .val (.int ch11), .val (.int ch12), .val (.int ((x0 &&& (65535 : Int32)).toUInt32.toUInt16.toUInt32.toInt32)), .val (.int hx17)] [(.int (1 : Int32))])) (fun t k => XS.icmpNo X25.here hx rfl (hb hby at_126) rfl (teq hc26).2 (XS.iconst X25.here hx rfl (hb hby at_129) (XS.goto X25.here hx rfl (pc0 := 130) (pc' := 134) rfl (hb hby at_130) (by decide) (by decide) k))) ?_
                refine own_retNW X25 hx hS4 e25 kz4 hlk (ty := .boolean) hret (by simp) (hb hby at_134) (by decide) (by decide) ?_
                exact ⟨by subst h_ch25 h_ch23 h_hx17 h_hx15 h_hx13 h_ch12 h_ch11; rw [own_f0, if_pos hc14, if_pos hc16, if_neg hc18, if_neg hc19, if_neg hc20, if_neg hc24, if_pos hc26] <;> rfl, N25⟩
              · refine own_via (T' := T25) (g' := (mkF m 134 #[.val (.int x0), .val (.int x1), .val (.ref a1), .val (.ref a4), .val (.int (x1 &&& (15 : Int32))), .val (.int ch11), .val (.int ch12), .val (.int ((x0 &&& (65535 : Int32)).toUInt32.toUInt16.toUInt32.toInt32)), .val (.int hx17)] [(.int (0 : Int32))])) (fun t k => XS.icmpYes X25.here hx rfl (pc0 := 126) (pc' := 133) rfl (hb hby at_126) rfl (feq hc26).2 (by decide) (by decide) (XS.iconst X25.here hx rfl (hb hby at_133) k)) ?_
                refine own_retNW X25 hx hS4 e25 kz4 hlk (ty := .boolean) hret (by simp) (hb hby at_134) (by decide) (by decide) ?_
                exact ⟨by subst h_ch25 h_ch23 h_hx17 h_hx15 h_hx13 h_ch12 h_ch11; rw [own_f0, if_pos hc14, if_pos hc16, if_neg hc18, if_neg hc19, if_neg hc20, if_neg hc24, if_neg hc26] <;> rfl, N25⟩
    · refine own_via (T' := T15) (g' := (mkF m 51 #[.val (.int x0), .val (.int x1), .val (.ref a1), .val (.ref a4), .val (.int (x1 &&& (15 : Int32))), .val (.int ch11), .val (.int ch12), .unset, .unset] [(.int (0 : Int32))])) (fun t k => XS.icmpNo X15.here hx rfl (hb hby at_47) rfl (feq hc16).1 (XS.iconst X15.here hx rfl (hb hby at_50) k)) ?_
      refine own_retNW X15 hx hS4 e15 kz4 hlk (ty := .boolean) hret (by simp) (hb hby at_51) (by decide) (by decide) ?_
      exact ⟨by subst h_hx15 h_hx13 h_ch12 h_ch11; rw [own_f0, if_pos hc14, if_neg hc16] <;> rfl, N15⟩
  · refine own_via (T' := T13) (g' := (mkF m 39 #[.val (.int x0), .val (.int x1), .val (.ref a1), .val (.ref a4), .val (.int (x1 &&& (15 : Int32))), .val (.int ch11), .val (.int ch12), .unset, .unset] [(.int (0 : Int32))])) (fun t k => XS.icmpNo X13.here hx rfl (hb hby at_35) rfl (feq hc14).1 (XS.iconst X13.here hx rfl (hb hby at_38) k)) ?_
    refine own_retNW X13 hx hS4 e13 kz4 hlk (ty := .boolean) hret (by simp) (hb hby at_39) (by decide) (by decide) ?_
    exact ⟨by subst h_hx13 h_ch12 h_ch11; rw [own_f0, if_neg hc14] <;> rfl, N13⟩
def own_body (cc vv cz : Int32) : Int32 := (if (own_hex (own_ch vv ([48, 49, 50, 51, 52, 53, 54, 55, 56, 57, 65, 66, 67, 68, 69, 70] : List Int32) cz)) = vv then (if (own_hex (own_ch vv ([48, 49, 50, 51, 52, 53, 54, 55, 56, 57, 97, 98, 99, 100, 101, 102] : List Int32) cz)) = vv then (if (own_hex cc) < (-1 : Int32) then (0 : Int32) else (if (15 : Int32) < (own_hex cc) then (0 : Int32) else (if (own_hex cc) = (-1 : Int32) then (if cc = (own_ch vv ([48, 49, 50, 51, 52, 53, 54, 55, 56, 57, 65, 66, 67, 68, 69, 70] : List Int32) cz) then (0 : Int32) else (if cc = (own_ch vv ([48, 49, 50, 51, 52, 53, 54, 55, 56, 57, 97, 98, 99, 100, 101, 102] : List Int32) cz) then (0 : Int32) else (1 : Int32))) else (if cc = (own_ch (own_hex cc) ([48, 49, 50, 51, 52, 53, 54, 55, 56, 57, 65, 66, 67, 68, 69, 70] : List Int32) cz) then (1 : Int32) else (if cc = (own_ch (own_hex cc) ([48, 49, 50, 51, 52, 53, 54, 55, 56, 57, 97, 98, 99, 100, 101, 102] : List Int32) cz) then (1 : Int32) else (0 : Int32)))))) else (0 : Int32)) else (0 : Int32))
theorem own_fin : ∀ n : Fin 128, ∀ v : Fin 16, own_body (Int32.ofNat n.val) (Int32.ofNat v.val) 0 = 1 := by decide +kernel
theorem own_fin2 : ∀ v : Fin 16, own_hex (own_ch (Int32.ofNat v.val) ([48, 49, 50, 51, 52, 53, 54, 55, 56, 57, 65, 66, 67, 68, 69, 70] : List Int32) 0) = Int32.ofNat v.val ∧ own_hex (own_ch (Int32.ofNat v.val) ([48, 49, 50, 51, 52, 53, 54, 55, 56, 57, 97, 98, 99, 100, 101, 102] : List Int32) 0) = Int32.ofNat v.val ∧ own_ch (Int32.ofNat v.val) ([48, 49, 50, 51, 52, 53, 54, 55, 56, 57, 65, 66, 67, 68, 69, 70] : List Int32) 0 < 128 ∧ own_ch (Int32.ofNat v.val) ([48, 49, 50, 51, 52, 53, 54, 55, 56, 57, 97, 98, 99, 100, 101, 102] : List Int32) 0 < 128 := by decide +kernel
theorem own_small {k : Nat} (hk : k ≤ 2147483647) {y : Int32} (h1 : 0 ≤ y.toInt) (h2 : y.toInt < k) : ∃ n : Fin k, y = Int32.ofNat n.val := by
  refine ⟨⟨y.toInt.toNat, by omega⟩, ?_⟩
  apply Int32.toInt_inj.mp
  show y.toInt = (Int32.ofNat y.toInt.toNat).toInt
  rw [Int32.toInt_ofNat_of_lt (by omega)]; omega
theorem own_law (x0 x1 cz : Int32) : own_f0 x0 x1 cz = 1 := by
  have e : own_f0 x0 x1 cz = own_body ((x0 &&& (65535 : Int32)).toUInt32.toUInt16.toUInt32.toInt32) (x1 &&& (15 : Int32)) 0 := rfl
  rw [e]
  have hc := (c_i2c (x0 &&& (65535 : Int32))).2
  have hv := own_m15 x1
  generalize (x0 &&& (65535 : Int32)).toUInt32.toUInt16.toUInt32.toInt32 = c at *
  generalize x1 &&& (15 : Int32) = v at *
  obtain ⟨v, rfl⟩ := own_small (k := 16) (by decide) hv.1 hv.2
  by_cases h : c < 128
  · have k1 : (128 : Int32).toInt = 128 := by decide
    rw [Int32.lt_iff_toInt_lt] at h
    obtain ⟨n, rfl⟩ := own_small (k := 128) (by decide) hc.1 (by omega)
    exact own_fin n v
  · have g : ∀ k : Int32, k < 128 → ¬ c < k ∧ k < c ∧ ¬ c = k := fun k q => by
      rw [← Int32.toInt_inj]
      rw [Int32.lt_iff_toInt_lt] at h q
      simp only [Int32.lt_iff_toInt_lt]
      omega
    obtain ⟨f1, f2, f3, f4⟩ := own_fin2 v
    have hh : own_hex c = -1 := by
      unfold own_hex
      simp only [g 48 (by decide), g 57 (by decide), g 65 (by decide), g 70 (by decide), g 97 (by decide), g 102 (by decide), if_true, if_false]
    have t1 : ¬ (-1 : Int32) < -1 := by decide
    have t2 : ¬ (15 : Int32) < -1 := by decide
    unfold own_body
    simp only [f1, f2, hh, t1, t2, (g _ f3).2.2, (g _ f4).2.2, if_true, if_false]
set_option maxRecDepth 65536 in
set_option maxHeartbeats 40000000 in
theorem own_comes {Post : Tables → Env → Array Value → State → Outcome → State → Prop} (hpost : ∀ tb e args s v u, (limb_1_1.after args s (.returned v) u = true ∧ limb_1_2.after args s (.returned v) u = true ∧ True) → FramedW s (.returned v) u (Jvm.fieldLocs frame_1_writes args s ++ Jvm.arrayLocs frame_1_arrays args s ++ Jvm.staticLocs frame_1_statics s) 8 2112 → Post tb e args s (.returned v) u) :
    ArmFor flags0 classFile x code maxLocals ret World_1 tables_1 room_1 Calls_1 rest_1 Pre_1 Post := by
  intro l hfl _ _ p e ha hc hk s m args below hf hA hF happ hP
  obtain ⟨hcalls, hrest, hpre⟩ := hP
  obtain ⟨-, -, -, hnamed, -, -, -, hat⟩ := (Spec.applies_iff hf).mp happ
  obtain ⟨hg, hn⟩ := and_e (Cond.before_iff.mp (show (Jvm.Cond.and given_1 narrow_1).before args s = true from hpre))
  obtain ⟨g1, g2⟩ := and_e hg
  obtain ⟨g3, g4⟩ := and_e g2
  obtain ⟨w0, w1, rfl⟩ : ∃ w0 w1 : Value, args = #[w0, w1] := by
    have hs : args.size = 2 := by simpa [Cond.value, given_1] using g1
    obtain ⟨L⟩ := args
    match L, hs with
    | [w0, w1], _ => exact ⟨w0, w1, rfl⟩
  have hw := fun d (hd : d ∈ tables_1) => atoms_spec (ws := Jvm.Cond.code x code maxLocals ret :: tables_1) hat d (List.mem_cons_of_mem _ hd)
  have hfit : Fit s := fun {y c} hc i hi => by
    obtain ⟨ha, rfl⟩ := Array.getElem?_eq_some_iff.mp hc
    have q := List.all_eq_true.mp ((Array.all_eq_true_iff_forall_mem.mp hF) _ (Array.getElem_mem ha)) i (List.mem_range.mpr hi)
    simpa [Array.getElem?_eq_getElem hi] using q
  obtain ⟨i0, ei0⟩ := is_v g3
  obtain rfl : w0 = (.int i0) := Option.some.inj ei0
  obtain ⟨i1, ei1⟩ := is_v g4
  obtain rfl : w1 = (.int i1) := Option.some.inj ei1
  obtain ⟨hsets, hown0⟩ := atoms_of _ (rest_1_c_eq ▸ (show rest_1_c.before _ s = true from hrest))
  obtain ⟨cz, ecz⟩ := is_v (Cond.before_iff.mp (hsets _ (List.mem_of_getElem? (i := 1) rfl)))
  have hcz : ¬ cz = 0 := by
    have q := not_v (Cond.before_iff.mp (hsets _ (List.mem_of_getElem? (i := 2) rfl)))
    rw [Cond.eq_ints ecz rfl] at q
    intro z; simp [z] at q
  have S_cs := Sta.start ecz (Or.inl (hsets _ (List.mem_of_getElem? (i := 0) rfl)))
  obtain ⟨fm, efm, hX_fm⟩ := isR_v (Cond.before_iff.mp (hsets _ (List.mem_of_getElem? (i := 8) rfl)))
  have S_fm := Sta.start efm (Or.inl (hsets _ (List.mem_of_getElem? (i := 7) rfl)))
  have hcw : Jvm.Lit.compactW.before _ s = true := hsets _ (List.mem_of_getElem? (i := 2) rfl)
  have hch : ∀ p ∈ consts_1, Jvm.Lit.constHeld s p.1 p.2 := fun p hp => hcalls.1 p hp
  obtain ⟨n, o, h1, h2, h3, _, L, rfl, ⟨hval, N⟩, hq⟩ := own_mt0 l s _ hw i0 i1 cz fm s.heap s.heap.size rfl rfl S_cs S_fm (Old.start s) hcz hX_fm hch hcw tables_1 p e ha hc hk s m _ below hf ((Spec.applies_iff_loose hf).mp happ).1 ⟨rfl, rfl⟩ trivial
  rw [own_law i0 i1 cz] at hval
  subst hval
  refine ⟨n, _, h1, h2, h3, hpost _ _ _ _ _ _ ⟨Cond.after_iff.mpr rfl, Cond.after_iff.mpr (eq_i res_at (Term.int_eval (1)) rfl), trivial⟩ ⟨hq.1, hq.2.1, hq.2.2.1, (hq.2.2.2.sift fun y hy => Or.inr (N y hy)).mono (by decide) (by decide)⟩⟩
theorem main_1_1 : Claimed_1_1 := own_comes fun _ _ _ _ _ _ h hF => ⟨h.1, hF⟩
theorem main_1_2 : Claimed_1_2 := own_comes fun _ _ _ _ _ _ h hF => ⟨h.2.1, hF⟩
end Jvm.Pilot.@@N@@
namespace Jvm.Pilot.@@N@@
open Jvm Jvm.ClassFile Sem Op Lib Jvm.Free Jvm.Stand Jvm.Pilot.@@N@@.Jvm.D
/-! MADE BY PROGRAM (witnessworld.py) out of the Statement's table words and the real class files: 17 classes; the members and pool entries that the words name. The judged class is class 1, her method 1. -/
namespace start1
open Jvm.ClassFile
def u (s : String) : CpInfo := .utf8 (stringToUtf16 s)
/-- a pool by its gaps: so many unusable entries, then the entry; so many at the end -/
def gap : Nat → List CpInfo → List CpInfo
  | 0, r => r
  | n + 1, r => .unusable :: gap n r
def poolList (es : List (Nat × CpInfo)) (last : Nat) : List CpInfo := es.foldr (fun e r => gap e.1 (e.2 :: r)) (gap last [])
def pool (es : List (Nat × CpInfo)) (last : Nat) : Array CpInfo := ⟨poolList es last⟩
def fileOf (pool : Array CpInfo) (this : Nat) (attrs : Array Attribute := #[]) (ms : Array MethodInfo := #[]) (fl : Nat := 33) (sup : Nat := 0) (ifs : Array Nat := #[]) (fds : Array FieldInfo := #[]) : ClassFile where
  minorVersion := 0
  majorVersion := 65
  constantPool := pool
  accessFlags := fl
  thisClass := this
  superClass := sup
  interfaces := ifs
  fields := fds
  methods := ms
  attributes := attrs
def plain (name : String) (sup : Option ClassId) : Class where
  name := name
  kind := .ordinary
  loader := none
  accessFlags := 33
  super := sup
  interfaces := #[]
  cf := none
  fields := #[]
  methods := #[]
  instanceTypes := #[]
  staticTypes := #[]
  resolved := #[]
  callSites := []
  init := .initialized
  statics := none
  mirror := none

def pool0 : Array CpInfo := pool [(5, u "<init>"), (0, u "()V"), (1, .class_ 10), (1, u "java/lang/Object")] 113

def k0m0 : Method := { name := "<init>", desc := "()V", sig := { parameters := [], returnType := none }, accessFlags := 1, code := none }
/-- java/lang/Object -/
def k0 : Class := { plain "java/lang/Object" none with
  accessFlags := 33
  interfaces := #[]
  cf := some (fileOf pool0 8 #[] #[{ accessFlags := 1, nameIndex := 5, descriptorIndex := 6, attributes := #[] }] 33 0 #[] #[])
  fields := #[]
  methods := #[k0m0]
  instanceTypes := #[]
  staticTypes := #[]
  resolved := Array.replicate 124 none
  statics := none }

def pool1 : Array CpInfo := pool [(2, .class_ 4), (1, u "java/lang/Object"), (0, u "<init>"), (0, u "()V"), (0, .string 8), (0, u "0123456789ABCDEF"), (0, .string 10), (0, u "0123456789abcdef"), (0, .methodref 12 13), (0, .class_ 14), (0, .nameAndType 15 16), (0, u "java/lang/String"), (0, u "charAt"), (0, u "(I)C"), (0, .methodref 18 19), (0, .class_ 20), (0, .nameAndType 21 22), (0, u "com/example/countersign/countersign/PercentEncoding"), (0, u "hexValue"), (0, u "(C)I"), (0, .integer 65535), (0, .class_ 25), (0, u "com/example/countersign/countersign/PercentEncodingHexValuePinLaw"), (2, u "law"), (0, u "(II)Z")] 3

def k1m0 : Method := { name := "<init>", desc := "()V", sig := { parameters := [], returnType := none }, accessFlags := 2, code := none }
def k1c1 : Code := { maxStack := 3, maxLocals := 9, code := code, exceptionTable := #[], attributes := #[] }
def k1m1 : Method := { name := "law", desc := "(II)Z", sig := { parameters := [.int, .int], returnType := some .boolean }, accessFlags := 9, code := some k1c1 }
/-- com/example/countersign/countersign/PercentEncodingHexValuePinLaw -/
def k1 : Class := { plain "com/example/countersign/countersign/PercentEncodingHexValuePinLaw" (some 0) with
  accessFlags := 49
  interfaces := #[]
  cf := some (fileOf pool1 24 #[] #[{ accessFlags := 2, nameIndex := 5, descriptorIndex := 6, attributes := #[] }, { accessFlags := 9, nameIndex := 28, descriptorIndex := 29, attributes := #[] }] 49 2 #[] #[])
  fields := #[]
  methods := #[k1m0, k1m1]
  instanceTypes := #[]
  staticTypes := #[]
  resolved := Array.replicate 33 none
  statics := none }

def pool2 : Array CpInfo := pool [(1, .class_ 2), (0, u "java/io/Serializable"), (0, .class_ 4), (0, u "java/lang/Object")] 2

/-- java/io/Serializable -/
def k2 : Class := { plain "java/io/Serializable" (some 0) with
  accessFlags := 1537
  interfaces := #[]
  cf := some (fileOf pool2 1 #[] #[] 1537 3 #[] #[])
  fields := #[]
  methods := #[]
  instanceTypes := #[]
  staticTypes := #[]
  resolved := Array.replicate 7 none
  statics := none }

def pool3 : Array CpInfo := pool [(1, .class_ 2), (0, u "java/lang/Comparable"), (0, .class_ 4), (0, u "java/lang/Object")] 7

/-- java/lang/Comparable -/
def k3 : Class := { plain "java/lang/Comparable" (some 0) with
  accessFlags := 1537
  interfaces := #[]
  cf := some (fileOf pool3 1 #[] #[] 1537 3 #[] #[])
  fields := #[]
  methods := #[]
  instanceTypes := #[]
  staticTypes := #[]
  resolved := Array.replicate 12 none
  statics := none }

def pool4 : Array CpInfo := pool [(2, .class_ 4), (1, u "java/lang/CharSequence"), (42, .class_ 48), (0, u "java/lang/CharSequence$1CodePointIterator"), (10, .class_ 60), (0, u "java/lang/CharSequence$1CharIterator"), (5, .class_ 67), (0, u "java/lang/Object")] 63

/-- java/lang/CharSequence -/
def k4 : Class := { plain "java/lang/CharSequence" (some 0) with
  accessFlags := 1537
  interfaces := #[]
  cf := some (fileOf pool4 2 #[.nestMembers #[47, 59]] #[] 1537 66 #[] #[])
  fields := #[]
  methods := #[]
  instanceTypes := #[]
  staticTypes := #[]
  resolved := Array.replicate 131 none
  statics := none }

def pool5 : Array CpInfo := pool [(1, .class_ 2), (0, u "java/lang/constant/Constable"), (0, .class_ 4), (0, u "java/lang/Object")] 6

/-- java/lang/constant/Constable -/
def k5 : Class := { plain "java/lang/constant/Constable" (some 0) with
  accessFlags := 1537
  interfaces := #[]
  cf := some (fileOf pool5 1 #[] #[] 1537 3 #[] #[])
  fields := #[]
  methods := #[]
  instanceTypes := #[]
  staticTypes := #[]
  resolved := Array.replicate 11 none
  statics := none }

def pool6 : Array CpInfo := pool [(1, .class_ 2), (0, u "java/lang/constant/ConstantDesc"), (0, .class_ 4), (0, u "java/lang/Object")] 32

/-- java/lang/constant/ConstantDesc -/
def k6 : Class := { plain "java/lang/constant/ConstantDesc" (some 0) with
  accessFlags := 1537
  interfaces := #[]
  cf := some (fileOf pool6 1 #[] #[] 1537 3 #[] #[])
  fields := #[]
  methods := #[]
  instanceTypes := #[]
  staticTypes := #[]
  resolved := Array.replicate 37 none
  statics := none }

def pool7 : Array CpInfo := pool [(2, .class_ 4), (1, u "java/lang/Object"), (0, u "<init>"), (0, u "()V"), (2, .fieldref 10 11), (0, .class_ 12), (0, .nameAndType 13 14), (0, u "java/lang/String"), (0, u "value"), (0, u "[B"), (0, .fieldref 10 16), (0, .nameAndType 17 18), (0, u "coder"), (0, u "B"), (2, u "hash"), (0, u "I"), (2, u "hashIsZero"), (0, u "Z"), (11, .fieldref 10 39), (0, .nameAndType 40 26), (0, u "COMPACT_STRINGS"), (66, .class_ 109), (1, u "java/lang/StringLatin1"), (32, u "()Z"), (220, u "([BI)C"), (27, u "(II)V"), (35, u "(I)C"), (64, .methodref 10 493), (0, .nameAndType 494 142), (0, u "isLatin1"), (0, .methodref 107 496), (0, .nameAndType 497 363), (0, u "charAt"), (3, u "checkIndex"), (73, .class_ 576), (0, u "java/lang/CharSequence"), (22, u "CASE_INSENSITIVE_ORDER"), (0, u "Ljava/util/Comparator;"), (452, .fieldref 1054 1055), (0, .class_ 1056), (0, .nameAndType 1057 1058), (0, u "jdk/internal/util/Preconditions"), (0, u "SIOOBE_FORMATTER"), (0, u "Ljava/util/function/BiFunction;"), (0, .methodref 1054 1060), (0, .nameAndType 501 1061), (0, u "(IILjava/util/function/BiFunction;)I"), (39, u "serialPersistentFields"), (0, u "[Ljava/io/ObjectStreamField;"), (0, .class_ 1104), (0, u "java/lang/String$CaseInsensitiveComparator"), (1, .class_ 1107), (0, u "java/io/Serializable"), (0, .class_ 1109), (0, u "java/lang/Comparable"), (0, .class_ 1111), (0, u "java/lang/constant/Constable"), (0, .class_ 1113), (0, u "java/lang/constant/ConstantDesc"), (2, u "serialVersionUID"), (0, u "J"), (3, u "REPL"), (0, u "C"), (2, u "LATIN1"), (1, u "UTF16")] 323

def k7m0 : Method := { name := "<init>", desc := "()V", sig := { parameters := [], returnType := none }, accessFlags := 1, code := none }
def k7c1 : Code := { maxStack := 2, maxLocals := 2, code := jdk_42_method_56_code, exceptionTable := #[], attributes := #[] }
def k7m1 : Method := { name := "charAt", desc := "(I)C", sig := { parameters := [.int], returnType := some .char }, accessFlags := 1, code := some k7c1 }
def k7c2 : Code := { maxStack := 1, maxLocals := 1, code := jdk_42_method_154_code, exceptionTable := #[], attributes := #[] }
def k7m2 : Method := { name := "isLatin1", desc := "()Z", sig := { parameters := [], returnType := some .boolean }, accessFlags := 0, code := some k7c2 }
def k7c3 : Code := { maxStack := 3, maxLocals := 2, code := jdk_42_method_155_code, exceptionTable := #[], attributes := #[] }
def k7m3 : Method := { name := "checkIndex", desc := "(II)V", sig := { parameters := [.int, .int], returnType := none }, accessFlags := 8, code := some k7c3 }
/-- java/lang/String -/
def k7 : Class := { plain "java/lang/String" (some 0) with
  accessFlags := 49
  interfaces := #[2, 3, 4, 5, 6]
  cf := some (fileOf pool7 10 #[.nestMembers #[1103]] #[{ accessFlags := 1, nameIndex := 5, descriptorIndex := 6, attributes := #[] }, { accessFlags := 1, nameIndex := 497, descriptorIndex := 427, attributes := #[] }, { accessFlags := 0, nameIndex := 494, descriptorIndex := 142, attributes := #[] }, { accessFlags := 8, nameIndex := 501, descriptorIndex := 391, attributes := #[] }] 49 2 #[1106, 1108, 575, 1110, 1112] #[{ accessFlags := 18, nameIndex := 13, descriptorIndex := 14, attributes := #[] }, { accessFlags := 18, nameIndex := 17, descriptorIndex := 18, attributes := #[] }, { accessFlags := 2, nameIndex := 21, descriptorIndex := 22, attributes := #[] }, { accessFlags := 2, nameIndex := 25, descriptorIndex := 26, attributes := #[] }, { accessFlags := 26, nameIndex := 1116, descriptorIndex := 1117, attributes := #[] }, { accessFlags := 24, nameIndex := 40, descriptorIndex := 26, attributes := #[] }, { accessFlags := 26, nameIndex := 1101, descriptorIndex := 1102, attributes := #[] }, { accessFlags := 26, nameIndex := 1121, descriptorIndex := 1122, attributes := #[] }, { accessFlags := 25, nameIndex := 599, descriptorIndex := 600, attributes := #[] }, { accessFlags := 24, nameIndex := 1125, descriptorIndex := 18, attributes := #[] }, { accessFlags := 24, nameIndex := 1127, descriptorIndex := 18, attributes := #[] }])
  fields := #[{ name := "value", type := (.array .byte), accessFlags := 18, slot := 0, constantValue := 0 }, { name := "coder", type := .byte, accessFlags := 18, slot := 1, constantValue := 0 }, { name := "hash", type := .int, accessFlags := 2, slot := 2, constantValue := 0 }, { name := "hashIsZero", type := .boolean, accessFlags := 2, slot := 3, constantValue := 0 }, { name := "serialVersionUID", type := .long, accessFlags := 26, slot := 0, constantValue := 0 }, { name := "COMPACT_STRINGS", type := .boolean, accessFlags := 24, slot := 1, constantValue := 0 }, { name := "serialPersistentFields", type := (.array (.object "java/io/ObjectStreamField")), accessFlags := 26, slot := 2, constantValue := 0 }, { name := "REPL", type := .char, accessFlags := 26, slot := 3, constantValue := 0 }, { name := "CASE_INSENSITIVE_ORDER", type := (.object "java/util/Comparator"), accessFlags := 25, slot := 4, constantValue := 0 }, { name := "LATIN1", type := .byte, accessFlags := 24, slot := 5, constantValue := 0 }, { name := "UTF16", type := .byte, accessFlags := 24, slot := 6, constantValue := 0 }]
  methods := #[k7m0, k7m1, k7m2, k7m3]
  instanceTypes := #[(.array .byte), .byte, .int, .boolean]
  staticTypes := #[.long, .boolean, (.array (.object "java/io/ObjectStreamField")), .char, (.object "java/util/Comparator"), .byte, .byte]
  resolved := Array.replicate 1451 none
  statics := some 0 }

def pool8 : Array CpInfo := pool [(1, .class_ 2), (0, u "java/lang/String"), (1, .class_ 6), (1, u "java/lang/Object"), (0, u "<init>"), (0, u "()V"), (0, .methodref 1 10), (0, .nameAndType 11 12), (0, u "checkIndex"), (0, u "(II)V"), (1, .class_ 16), (1, u "java/lang/StringLatin1"), (36, u "([BI)C"), (67, u "$assertionsDisabled"), (0, u "Z"), (98, .class_ 223), (1, u "java/lang/StringLatin1$LinesSpliterator"), (28, u "charAt"), (137, .class_ 391), (0, u "java/lang/StringLatin1$CharsSpliterator")] 3

def k8m0 : Method := { name := "<init>", desc := "()V", sig := { parameters := [], returnType := none }, accessFlags := 0, code := none }
def k8c1 : Code := { maxStack := 2, maxLocals := 2, code := jdk_43_method_2_code, exceptionTable := #[], attributes := #[] }
def k8m1 : Method := { name := "charAt", desc := "([BI)C", sig := { parameters := [(.array .byte), .int], returnType := some .char }, accessFlags := 9, code := some k8c1 }
/-- java/lang/StringLatin1 -/
def k8 : Class := { plain "java/lang/StringLatin1" (some 0) with
  accessFlags := 48
  interfaces := #[]
  cf := some (fileOf pool8 14 #[.nestMembers #[390, 221]] #[{ accessFlags := 0, nameIndex := 7, descriptorIndex := 8, attributes := #[] }, { accessFlags := 9, nameIndex := 252, descriptorIndex := 53, attributes := #[] }] 48 4 #[] #[{ accessFlags := 4120, nameIndex := 121, descriptorIndex := 122, attributes := #[] }])
  fields := #[{ name := "$assertionsDisabled", type := .boolean, accessFlags := 4120, slot := 0, constantValue := 0 }]
  methods := #[k8m0, k8m1]
  instanceTypes := #[]
  staticTypes := #[.boolean]
  resolved := Array.replicate 395 none
  statics := none }

def pool9 : Array CpInfo := pool [(2, .class_ 4), (1, u "java/lang/Object"), (0, u "<init>"), (0, u "()V"), (17, .class_ 26), (1, u "jdk/internal/util/Preconditions"), (6, u "checkIndex"), (21, .class_ 56), (0, u "jdk/internal/util/Preconditions$4"), (57, .class_ 115), (0, u "jdk/internal/util/Preconditions$1"), (7, u "SIOOBE_FORMATTER"), (0, u "Ljava/util/function/BiFunction;"), (0, .class_ 126), (0, u "jdk/internal/util/Preconditions$2"), (3, u "AIOOBE_FORMATTER"), (0, .class_ 132), (0, u "jdk/internal/util/Preconditions$3"), (3, u "IOOBE_FORMATTER"), (41, u "(IILjava/util/function/BiFunction;)I")] 15

def k9m0 : Method := { name := "<init>", desc := "()V", sig := { parameters := [], returnType := none }, accessFlags := 1, code := none }
def k9c1 : Code := { maxStack := 3, maxLocals := 3, code := jdk_41_method_11_code, exceptionTable := #[], attributes := #[] }
def k9m1 : Method := { name := "checkIndex", desc := "(IILjava/util/function/BiFunction;)I", sig := { parameters := [.int, .int, (.object "java/util/function/BiFunction")], returnType := some .int }, accessFlags := 9, code := some k9c1 }
/-- jdk/internal/util/Preconditions -/
def k9 : Class := { plain "jdk/internal/util/Preconditions" (some 0) with
  accessFlags := 33
  interfaces := #[]
  cf := some (fileOf pool9 24 #[.nestMembers #[55, 131, 125, 114]] #[{ accessFlags := 1, nameIndex := 5, descriptorIndex := 6, attributes := #[] }, { accessFlags := 9, nameIndex := 33, descriptorIndex := 178, attributes := #[] }] 33 2 #[] #[{ accessFlags := 25, nameIndex := 123, descriptorIndex := 124, attributes := #[] }, { accessFlags := 25, nameIndex := 130, descriptorIndex := 124, attributes := #[] }, { accessFlags := 25, nameIndex := 136, descriptorIndex := 124, attributes := #[] }])
  fields := #[{ name := "SIOOBE_FORMATTER", type := (.object "java/util/function/BiFunction"), accessFlags := 25, slot := 0, constantValue := 0 }, { name := "AIOOBE_FORMATTER", type := (.object "java/util/function/BiFunction"), accessFlags := 25, slot := 1, constantValue := 0 }, { name := "IOOBE_FORMATTER", type := (.object "java/util/function/BiFunction"), accessFlags := 25, slot := 2, constantValue := 0 }]
  methods := #[k9m0, k9m1]
  instanceTypes := #[]
  staticTypes := #[(.object "java/util/function/BiFunction"), (.object "java/util/function/BiFunction"), (.object "java/util/function/BiFunction")]
  resolved := Array.replicate 194 none
  statics := some 1 }

def pool10 : Array CpInfo := pool [(2, .class_ 4), (1, u "java/lang/Object"), (0, u "<init>"), (0, u "()V"), (11, .class_ 20), (1, u "com/example/countersign/countersign/PercentEncoding"), (51, u "hexValue"), (0, u "(C)I"), (50, u "UNRESERVED"), (0, u "[Z"), (5, u "HEX_DIGITS"), (0, u "[C")] 35

def k10m0 : Method := { name := "<init>", desc := "()V", sig := { parameters := [], returnType := none }, accessFlags := 2, code := none }
def k10c1 : Code := { maxStack := 2, maxLocals := 1, code := prog_29_method_9_code, exceptionTable := #[], attributes := #[] }
def k10m1 : Method := { name := "hexValue", desc := "(C)I", sig := { parameters := [.char], returnType := some .int }, accessFlags := 8, code := some k10c1 }
/-- com/example/countersign/countersign/PercentEncoding -/
def k10 : Class := { plain "com/example/countersign/countersign/PercentEncoding" (some 0) with
  accessFlags := 48
  interfaces := #[]
  cf := some (fileOf pool10 18 #[] #[{ accessFlags := 2, nameIndex := 5, descriptorIndex := 6, attributes := #[] }, { accessFlags := 8, nameIndex := 72, descriptorIndex := 73, attributes := #[] }] 48 2 #[] #[{ accessFlags := 26, nameIndex := 131, descriptorIndex := 132, attributes := #[] }, { accessFlags := 26, nameIndex := 124, descriptorIndex := 125, attributes := #[] }])
  fields := #[{ name := "HEX_DIGITS", type := (.array .char), accessFlags := 26, slot := 0, constantValue := 0 }, { name := "UNRESERVED", type := (.array .boolean), accessFlags := 26, slot := 1, constantValue := 0 }]
  methods := #[k10m0, k10m1]
  instanceTypes := #[]
  staticTypes := #[(.array .char), (.array .boolean)]
  resolved := Array.replicate 168 none
  statics := none }

def pool11 : Array CpInfo := pool [(9, u "<init>"), (6, .class_ 18), (1, u "java/lang/Object"), (0, u "()V"), (1, .class_ 23), (1, u "jdk/internal/util/ArraysSupport"), (0, u "LOG2_ARRAY_LONG_INDEX_SCALE"), (0, u "I"), (2, u "U"), (0, u "Ljdk/internal/misc/Unsafe;"), (8, u "BIG_ENDIAN"), (0, u "Z"), (8, u "LOG2_BYTE_BIT_SIZE"), (4, u "LOG2_ARRAY_INT_INDEX_SCALE"), (54, u "JLA"), (0, u "Ljdk/internal/access/JavaLangAccess;"), (11, u "LOG2_ARRAY_BOOLEAN_INDEX_SCALE"), (9, u "LOG2_ARRAY_BYTE_INDEX_SCALE"), (5, u "LOG2_ARRAY_CHAR_INDEX_SCALE"), (5, u "LOG2_ARRAY_SHORT_INDEX_SCALE"), (18, u "LOG2_ARRAY_FLOAT_INDEX_SCALE"), (24, u "LOG2_ARRAY_DOUBLE_INDEX_SCALE"), (89, u "T_BOOLEAN"), (2, u "T_CHAR"), (1, u "T_FLOAT"), (1, u "T_DOUBLE"), (1, u "T_BYTE"), (1, u "T_SHORT"), (1, u "T_INT"), (1, u "T_LONG"), (1, u "SOFT_MAX_ARRAY_LENGTH")] 83

def k11m0 : Method := { name := "<init>", desc := "()V", sig := { parameters := [], returnType := none }, accessFlags := 2, code := none }
/-- jdk/internal/util/ArraysSupport -/
def k11 : Class := { plain "jdk/internal/util/ArraysSupport" (some 0) with
  accessFlags := 33
  interfaces := #[]
  cf := some (fileOf pool11 21 #[] #[{ accessFlags := 2, nameIndex := 9, descriptorIndex := 19, attributes := #[] }] 33 16 #[] #[{ accessFlags := 24, nameIndex := 28, descriptorIndex := 29, attributes := #[] }, { accessFlags := 26, nameIndex := 38, descriptorIndex := 39, attributes := #[] }, { accessFlags := 25, nameIndex := 121, descriptorIndex := 25, attributes := #[] }, { accessFlags := 25, nameIndex := 131, descriptorIndex := 25, attributes := #[] }, { accessFlags := 25, nameIndex := 137, descriptorIndex := 25, attributes := #[] }, { accessFlags := 25, nameIndex := 143, descriptorIndex := 25, attributes := #[] }, { accessFlags := 25, nameIndex := 53, descriptorIndex := 25, attributes := #[] }, { accessFlags := 25, nameIndex := 24, descriptorIndex := 25, attributes := #[] }, { accessFlags := 25, nameIndex := 162, descriptorIndex := 25, attributes := #[] }, { accessFlags := 25, nameIndex := 187, descriptorIndex := 25, attributes := #[] }, { accessFlags := 26, nameIndex := 48, descriptorIndex := 25, attributes := #[] }, { accessFlags := 25, nameIndex := 277, descriptorIndex := 25, attributes := #[] }, { accessFlags := 25, nameIndex := 280, descriptorIndex := 25, attributes := #[] }, { accessFlags := 25, nameIndex := 282, descriptorIndex := 25, attributes := #[] }, { accessFlags := 25, nameIndex := 284, descriptorIndex := 25, attributes := #[] }, { accessFlags := 25, nameIndex := 286, descriptorIndex := 25, attributes := #[] }, { accessFlags := 25, nameIndex := 288, descriptorIndex := 25, attributes := #[] }, { accessFlags := 25, nameIndex := 290, descriptorIndex := 25, attributes := #[] }, { accessFlags := 25, nameIndex := 292, descriptorIndex := 25, attributes := #[] }, { accessFlags := 26, nameIndex := 108, descriptorIndex := 109, attributes := #[] }, { accessFlags := 25, nameIndex := 294, descriptorIndex := 25, attributes := #[] }])
  fields := #[{ name := "U", type := (.object "jdk/internal/misc/Unsafe"), accessFlags := 24, slot := 0, constantValue := 0 }, { name := "BIG_ENDIAN", type := .boolean, accessFlags := 26, slot := 1, constantValue := 0 }, { name := "LOG2_ARRAY_BOOLEAN_INDEX_SCALE", type := .int, accessFlags := 25, slot := 2, constantValue := 0 }, { name := "LOG2_ARRAY_BYTE_INDEX_SCALE", type := .int, accessFlags := 25, slot := 3, constantValue := 0 }, { name := "LOG2_ARRAY_CHAR_INDEX_SCALE", type := .int, accessFlags := 25, slot := 4, constantValue := 0 }, { name := "LOG2_ARRAY_SHORT_INDEX_SCALE", type := .int, accessFlags := 25, slot := 5, constantValue := 0 }, { name := "LOG2_ARRAY_INT_INDEX_SCALE", type := .int, accessFlags := 25, slot := 6, constantValue := 0 }, { name := "LOG2_ARRAY_LONG_INDEX_SCALE", type := .int, accessFlags := 25, slot := 7, constantValue := 0 }, { name := "LOG2_ARRAY_FLOAT_INDEX_SCALE", type := .int, accessFlags := 25, slot := 8, constantValue := 0 }, { name := "LOG2_ARRAY_DOUBLE_INDEX_SCALE", type := .int, accessFlags := 25, slot := 9, constantValue := 0 }, { name := "LOG2_BYTE_BIT_SIZE", type := .int, accessFlags := 26, slot := 10, constantValue := 0 }, { name := "T_BOOLEAN", type := .int, accessFlags := 25, slot := 11, constantValue := 0 }, { name := "T_CHAR", type := .int, accessFlags := 25, slot := 12, constantValue := 0 }, { name := "T_FLOAT", type := .int, accessFlags := 25, slot := 13, constantValue := 0 }, { name := "T_DOUBLE", type := .int, accessFlags := 25, slot := 14, constantValue := 0 }, { name := "T_BYTE", type := .int, accessFlags := 25, slot := 15, constantValue := 0 }, { name := "T_SHORT", type := .int, accessFlags := 25, slot := 16, constantValue := 0 }, { name := "T_INT", type := .int, accessFlags := 25, slot := 17, constantValue := 0 }, { name := "T_LONG", type := .int, accessFlags := 25, slot := 18, constantValue := 0 }, { name := "JLA", type := (.object "jdk/internal/access/JavaLangAccess"), accessFlags := 26, slot := 19, constantValue := 0 }, { name := "SOFT_MAX_ARRAY_LENGTH", type := .int, accessFlags := 25, slot := 20, constantValue := 0 }]
  methods := #[k11m0]
  instanceTypes := #[]
  staticTypes := #[(.object "jdk/internal/misc/Unsafe"), .boolean, .int, .int, .int, .int, .int, .int, .int, .int, .int, .int, .int, .int, .int, .int, .int, .int, .int, (.object "jdk/internal/access/JavaLangAccess"), .int]
  resolved := Array.replicate 378 none
  statics := none }

def pool12 : Array CpInfo := pool [(1, u "java/lang/Cloneable"), (0, .class_ 1), (0, u "java/lang/Object"), (0, .class_ 3)] 3

/-- java/lang/Cloneable -/
def k12 : Class := { plain "java/lang/Cloneable" (some 0) with
  accessFlags := 1537
  interfaces := #[]
  cf := some (fileOf pool12 2 #[] #[] 1537 4 #[] #[])
  fields := #[]
  methods := #[]
  instanceTypes := #[]
  staticTypes := #[]
  resolved := Array.replicate 8 none
  statics := none }

/-- the primitive byte -/
def k13 : Class := { plain "byte" none with kind := .primitive 'B', accessFlags := 0x411 }
/-- [B -/
def k14 : Class := { plain "[B" (some 0) with kind := .array 13 .byte, interfaces := #[12, 2], accessFlags := 1041 }

/-- the primitive int -/
def k15 : Class := { plain "int" none with kind := .primitive 'I', accessFlags := 0x411 }
/-- [I -/
def k16 : Class := { plain "[I" (some 0) with kind := .array 15 .int, interfaces := #[12, 2], accessFlags := 1041 }

def heap : Heap := #[{ cls := 7, slots := #[.long 0, .int 1, .null, .int 0, .null, .int 0, .int 0], vm := .statics 7 },
  { cls := 9, slots := #[.null, .null, .null], vm := .statics 9 }]
def classes : Array Class := #[k0, k1, k2, k3, k4, k5, k6, k7, k8, k9, k10, k11, k12, k13, k14, k15, k16]
def interned : List (Array UInt16 × Addr) := []
def slotsUsed : Nat := 10
def theMethod : MethodId := ⟨1, 1⟩
def args0 : Array Value := #[.int 5, .int 3]
def aboutOver (below : List Frame) : State where
  vm := { classes := classes, interned := interned.toArray }
  heap := heap
  slotsUsed := slotsUsed
  threads := #[{ frames := .invoking theMethod args0 :: below }]
def below0 : List Frame := [.native { method := ⟨0, 0⟩, args := #[] }]
def about1 : State := aboutOver below0
def p0 : Program := .bare "" "" ""
def e0 : Env := launch0.env 0 0 0
theorem w_frames : about1.frames = Frame.invoking theMethod args0 :: below0 := rfl
set_option maxRecDepth 65536 in
theorem w_args : argsFit about1.vm theMethod args0 = true := by decide +kernel
set_option maxRecDepth 65536 in
theorem w_heap : heapFits about1 = true := by decide +kernel
set_option maxRecDepth 65536 in
theorem w_runnable : about1.curStatus? = some .runnable := by decide +kernel
set_option maxRecDepth 65536 in
theorem w_alone : about1.alone = true := by decide +kernel
set_option maxRecDepth 65536 in
theorem w_named : about1.methodNamed? x = some theMethod := by decide +kernel
set_option maxRecDepth 65536 in
theorem w_hears : about1.hears theMethod below0 = true := by decide +kernel
set_option maxRecDepth 65536 in
theorem w_ripe : about1.ripe theMethod args0 below0 = true := by decide +kernel
theorem w_running : about1.status = .running := rfl
set_option maxRecDepth 65536 in
theorem w_room : about1.hasRoom e0.platform room_1 = true :=
  launch0.hasRoom_least _ room_1 (by decide +kernel) (by decide +kernel) (by decide +kernel) (by decide +kernel) (by decide +kernel) (by decide +kernel)
theorem allAtoms_all (ts : List Jvm.Cond) (a : Array Jvm.Value) (st : Jvm.State) : (allAtoms ts).before a st = ts.all (fun c => c.before a st) := by
  induction ts with
  | nil => rfl
  | cons c t ih =>
    show (Jvm.Cond.and c (allAtoms t)).before a st = _
    rw [Jvm.Cond.before_and, ih, List.all_cons]
def words1 : List Jvm.Cond := Jvm.Cond.code x code maxLocals ret :: tables_1
/-- a 'code' word, met by the world's own term for the bytes: nothing is compared byte by byte -/
theorem code_word {y : MethodName} {bytes : ByteArray} {mx : Nat} {rt : Option FieldType} {a : Array Value} {s : State} {m : MethodId} {meth : Method} {c : Code} (h1 : s.methodNamed? y = some m) (h2 : s.vm.method? m = some meth) (h3 : meth.code = some c) (h4 : c.code = bytes)
    (h5 : (c.maxLocals == mx && c.exceptionTable.isEmpty && decide (c.maxStack ≤ mostOperands) && decide (meth.sig.returnType = rt) && !meth.locks && decide (parseMethodDescriptor y.desc = some meth.sig)) = true) : (Jvm.Cond.code y bytes mx rt).before a s = true := by
  simp only [Bool.and_eq_true, beq_iff_eq, Bool.not_eq_true', decide_eq_true_eq] at h5
  obtain ⟨⟨⟨⟨⟨g1, g2⟩, g3⟩, g4⟩, g5⟩, g6⟩ := h5
  simp [Cond.before, Cond.holds, Cond.value, h1, h2, h3, h4, g1, g2, g3, g4, g5, g6]
def isCode : Jvm.Cond → Bool
  | .code _ _ _ _ => true
  | _ => false
theorem all_split {L : List Jvm.Cond} {P : Jvm.Cond → Bool} (h1 : L.all (fun c => isCode c || P c) = true) (h2 : ∀ c ∈ L.filter isCode, P c = true) : L.all P = true := by
  refine List.all_eq_true.mpr fun c hc => ?_
  have h := List.all_eq_true.mp h1 c hc
  rcases Bool.eq_false_or_eq_true (isCode c) with hi | hi
  · exact h2 c (List.mem_filter.mpr ⟨hc, hi⟩)
  · simpa [hi] using h
set_option maxRecDepth 65536 in
theorem w_c0 : (Jvm.Cond.code x code maxLocals ret).before args0 about1 = true := code_word (m := ⟨1, 1⟩) (meth := k1m1) (c := k1c1) (by decide +kernel) rfl rfl rfl (by decide +kernel)
set_option maxRecDepth 65536 in
theorem w_c1 : (Jvm.Cond.code ({ cls := "java/lang/String", name := "charAt", desc := "(I)C" } : Jvm.MethodName) jdk_42_method_56_code (2 : Nat) (Option.some Jvm.ClassFile.FieldType.char)).before args0 about1 = true := code_word (m := ⟨7, 1⟩) (meth := k7m1) (c := k7c1) (by decide +kernel) rfl rfl rfl (by decide +kernel)
set_option maxRecDepth 65536 in
theorem w_c2 : (Jvm.Cond.code ({ cls := "java/lang/String", name := "isLatin1", desc := "()Z" } : Jvm.MethodName) jdk_42_method_154_code (1 : Nat) (Option.some Jvm.ClassFile.FieldType.boolean)).before args0 about1 = true := code_word (m := ⟨7, 2⟩) (meth := k7m2) (c := k7c2) (by decide +kernel) rfl rfl rfl (by decide +kernel)
set_option maxRecDepth 65536 in
theorem w_c3 : (Jvm.Cond.code ({ cls := "java/lang/StringLatin1", name := "charAt", desc := "([BI)C" } : Jvm.MethodName) jdk_43_method_2_code (2 : Nat) (Option.some Jvm.ClassFile.FieldType.char)).before args0 about1 = true := code_word (m := ⟨8, 1⟩) (meth := k8m1) (c := k8c1) (by decide +kernel) rfl rfl rfl (by decide +kernel)
set_option maxRecDepth 65536 in
theorem w_c4 : (Jvm.Cond.code ({ cls := "java/lang/String", name := "checkIndex", desc := "(II)V" } : Jvm.MethodName) jdk_42_method_155_code (2 : Nat) (Option.none : Option Jvm.ClassFile.FieldType)).before args0 about1 = true := code_word (m := ⟨7, 3⟩) (meth := k7m3) (c := k7c3) (by decide +kernel) rfl rfl rfl (by decide +kernel)
set_option maxRecDepth 65536 in
theorem w_c5 : (Jvm.Cond.code ({ cls := "jdk/internal/util/Preconditions", name := "checkIndex", desc := "(IILjava/util/function/BiFunction;)I" } : Jvm.MethodName) jdk_41_method_11_code (3 : Nat) (Option.some Jvm.ClassFile.FieldType.int)).before args0 about1 = true := code_word (m := ⟨9, 1⟩) (meth := k9m1) (c := k9c1) (by decide +kernel) rfl rfl rfl (by decide +kernel)
set_option maxRecDepth 65536 in
theorem w_c6 : (Jvm.Cond.code ({ cls := "com/example/countersign/countersign/PercentEncoding", name := "hexValue", desc := "(C)I" } : Jvm.MethodName) prog_29_method_9_code (1 : Nat) (Option.some Jvm.ClassFile.FieldType.int)).before args0 about1 = true := code_word (m := ⟨10, 1⟩) (meth := k10m1) (c := k10c1) (by decide +kernel) rfl rfl rfl (by decide +kernel)
def codes1 : List Jvm.Cond := [Jvm.Cond.code x code maxLocals ret, Jvm.Cond.code ({ cls := "java/lang/String", name := "charAt", desc := "(I)C" } : Jvm.MethodName) jdk_42_method_56_code (2 : Nat) (Option.some Jvm.ClassFile.FieldType.char), Jvm.Cond.code ({ cls := "java/lang/String", name := "isLatin1", desc := "()Z" } : Jvm.MethodName) jdk_42_method_154_code (1 : Nat) (Option.some Jvm.ClassFile.FieldType.boolean), Jvm.Cond.code ({ cls := "java/lang/StringLatin1", name := "charAt", desc := "([BI)C" } : Jvm.MethodName) jdk_43_method_2_code (2 : Nat) (Option.some Jvm.ClassFile.FieldType.char), Jvm.Cond.code ({ cls := "java/lang/String", name := "checkIndex", desc := "(II)V" } : Jvm.MethodName) jdk_42_method_155_code (2 : Nat) (Option.none : Option Jvm.ClassFile.FieldType), Jvm.Cond.code ({ cls := "jdk/internal/util/Preconditions", name := "checkIndex", desc := "(IILjava/util/function/BiFunction;)I" } : Jvm.MethodName) jdk_41_method_11_code (3 : Nat) (Option.some Jvm.ClassFile.FieldType.int), Jvm.Cond.code ({ cls := "com/example/countersign/countersign/PercentEncoding", name := "hexValue", desc := "(C)I" } : Jvm.MethodName) prog_29_method_9_code (1 : Nat) (Option.some Jvm.ClassFile.FieldType.int)]
set_option maxRecDepth 65536 in
theorem codes_eq : words1.filter isCode = codes1 := rfl
theorem w_codes : ∀ c ∈ words1.filter isCode, c.before args0 about1 = true := by
  rw [codes_eq]
  intro c hc
  simp only [codes1, List.mem_cons, List.not_mem_nil, or_false] at hc
  rcases hc with rfl | rfl | rfl | rfl | rfl | rfl | rfl
  · exact w_c0
  · exact w_c1
  · exact w_c2
  · exact w_c3
  · exact w_c4
  · exact w_c5
  · exact w_c6
set_option maxRecDepth 65536 in
theorem w_t1 : (words1.take 24).all (fun c => isCode c || c.before args0 about1) = true := by decide +kernel
set_option maxRecDepth 65536 in
theorem w_t2 : (words1.drop 24).all (fun c => isCode c || c.before args0 about1) = true := by decide +kernel
theorem w_tables : (allAtoms (Jvm.Cond.code x code maxLocals ret :: tables_1)).before args0 about1 = true := by
  rw [allAtoms_all]
  show words1.all (fun c => c.before args0 about1) = true
  refine all_split ?_ w_codes
  rw [← List.take_append_drop 24 words1, List.all_append, w_t1, w_t2]
  rfl
set_option maxRecDepth 65536 in
theorem w_rest : rest_1_c.before args0 about1 = true := by decide +kernel
set_option maxRecDepth 65536 in
theorem w_case : (Jvm.Cond.and given_1 narrow_1).before args0 about1 = true := by decide +kernel
set_option maxRecDepth 65536 in
theorem w_consts : constsHeld consts_1 about1 := Jvm.Lit.constsHeldB_iff.mp (by decide +kernel)
theorem w_applies : (headSpec (Jvm.Cond.code x code maxLocals ret :: tables_1) room_1).applies x e0.platform about1 = true :=
  (Spec.applies_iff w_frames).mpr ⟨w_running, w_runnable, w_alone, w_named, w_hears, w_ripe, w_room, w_tables⟩
theorem atStart : AtStart classFile x code maxLocals ret World_1 tables_1 room_1 Calls_1 rest_1 Pre_1 launch0 p0 e0 about1 theMethod args0 below0 :=
  ⟨lists_1, trivial, launch0.admits_env _ _ _, launch0.least_env, fairChoices_fair.cas, fairChoices_fair.clock, w_frames, w_args, w_heap, w_applies, ⟨w_consts, trivial⟩, w_rest, w_case⟩
end start1
theorem witness_1 : WitnessClaimed_1 := ⟨start1.p0, start1.e0, start1.about1, start1.theMethod, start1.args0, start1.below0, start1.atStart⟩
end Jvm.Pilot.@@N@@
