import JvmDerived
import JvmDerived.Pilot.@@N@@Statement
import JvmDerived.Pilot.@@N@@Code
set_option linter.unusedVariables false
set_option linter.unusedSimpArgs false
namespace Jvm.Pilot.@@N@@
open Jvm Jvm.ClassFile Sem Op Lib Jvm.Free Jvm.Stand Jvm.LawKit Jvm.RoadKit Bundle Jvm.Pilot.@@N@@.Jvm.D
/-! my own small kit: a walk by continuation -/
section Own
variable {p : Program} {l : Launch} {e : Env} {R : Room} {s : State} {m : MethodId} {args : Array Value} {below : List Frame} {meth : Method} {c : Code} {T T' : State} {locs : List Loc} {cells slots : Nat} {Z : State} {a0 : Array Value} {h h' h0 : Heap} {g g' : JFrame} {a b : Addr} {ty : FieldType} {vs : List Value} {v w : Value} {sl : Nat} {ws : List Addr}
/-- from the frame g over T the run comes to an end with G -/
def own_Go (p : Program) (e : Env) (below : List Frame) (G : Outcome → State → Prop) (T : State) (g : JFrame) : Prop := ∃ s₂ o, Steps p.tables e below (T.setTop g) s₂ ∧ s₂.status = .running ∧ Ended s₂ below o ∧ G o s₂
def own_End (s : State) (kc ks : Nat) (Q : Option Value → Heap → List Loc → Prop) (o : Outcome) (U' : State) : Prop := ∃ v L, o = .returned v ∧ Q v U'.heap L ∧ FrameEnd s o U' L kc ks
def own_Met (l : Launch) (Z : State) (y : MethodName) (bytes : ByteArray) (maxL : Nat) (ret : Option FieldType) (rm : Room) (as' : Array Value) (h0 : Heap) (Q : Option Value → Heap → List Loc → Prop) : Prop :=
  ∀ ws : List Jvm.Cond, MetFree l y (head1 (Jvm.Cond.code y bytes maxL ret :: ws) rm) (fun a U => a = as' ∧ Z.Warmed39 U.vm ∧ U.heap = h0) (fun _ _ _ _ _ => True) (fun _ U o U' => ∃ v L, o = .returned v ∧ Q v U'.heap L ∧ FrameEnd U o U' L rm.cells rm.slots)
theorem own_via {G : Outcome → State → Prop} (q : ∀ t, Steps p.tables e below (T'.setTop g') t → Steps p.tables e below (T.setTop g) t) (k : own_Go p e below G T' g') : own_Go p e below G T g := by
  obtain ⟨t, o, h1, r⟩ := k; exact ⟨t, o, q t h1, r⟩
theorem own_cast {G : Outcome → State → Prop} (q : g = g') (k : own_Go p e below G T g') : own_Go p e below G T g := q ▸ k
theorem own_intro {y : MethodName} {bytes : ByteArray} {maxL : Nat} {ret : Option FieldType} {rm : Room} {as' : Array Value} {Q : Option Value → Heap → List Loc → Prop} (hp : plainFor y = true)
    (body : ∀ (p : Program) (e : Env) (s : State) (m : MethodId) (below : List Frame) (meth : Method) (c : Code) (s₁ : State), p.tables.exec = Jvm.exec → c.code = bytes → c.maxLocals = maxL → s.vm.findClass y.cls = some m.cls → meth.name = y.name → Z.Warmed39 s.vm → meth.sig.returnType = ret → meth.locks = false → Stand p l e rm s m as' below meth c s₁ [] 0 0 → s₁.heap = h0 → own_Go p e below (own_End s rm.cells rm.slots Q) s₁ (entryFrame m as' maxL)) : own_Met l Z y bytes maxL ret rm as' h0 Q := by
  intro ws
  refine MetFree.of_bodySF hp hisR ?_
  intro p e s m args below meth c s₁ Bd hml hP hK
  obtain ⟨rfl, hZ, hh⟩ := hP
  exact body p e s m below meth c s₁ Bd.exec Bd.bytes hml (findClass_of_methodNamed Bd.named) (name_of_methodNamed Bd.named Bd.method).1 hZ Bd.returns Bd.notSynchronized (Stand.of_body Bd) (by rw [← hh, Bd.state]; rfl)
theorem own_fin {kc ks : Nat} {Q : Option Value → Heap → List Loc → Prop} (X : Stand p l e R s m args below meth c T locs cells slots) (hlk : meth.locks = false) {u : Option Value} (hv : meth.sig.returnType = none → u = none) (hq : Q u T.heap locs) (hc : cells ≤ kc) (hs : slots ≤ ks)
    (st : ∀ fs, (∀ (f : JFrame) (acts : List Action), f.method = m → f.locked = none → f.entered = [] → (doReturn e (T.setTop f) acts u).1 = T.setFrames fs) → Steps p.tables e below (T.setTop g) (T.setFrames fs)) : own_Go p e below (own_End s kc ks Q) T g := by
  obtain ⟨fs, hr, hrun, hended, hW, hsame⟩ := X.leave (v := u) hv hlk
  exact ⟨_, _, st fs hr, hrun, hended, _, _, rfl, hq, ⟨_, rfl⟩, hW, hsame.mono hc hs⟩
theorem own_retI {kc ks : Nat} {Q : Option Value → Heap → List Loc → Prop} (X : Stand p l e R s m args below meth c T locs cells slots) (hx : p.tables.exec = Jvm.exec) (hlk : meth.locks = false) {pc : Nat} {Ls : Array Slot} {z : Int32} {rest : List Value} (hret : meth.sig.returnType = some .int) (hd : decode c.code pc = .ok (.ireturn, 1)) (hc : cells ≤ kc) (hs : slots ≤ ks) (hq : Q (some (.int z)) T.heap locs) : own_Go p e below (own_End s kc ks Q) T (mkF m pc Ls (.int z :: rest)) :=
  own_fin X hlk (fun q => by rw [hret] at q; cases q) hq hc hs fun fs hr => retOut X hx hret rfl (Or.inl ⟨rfl, Or.inl rfl, _, rfl⟩) hd hr
theorem own_retJ {kc ks : Nat} {Q : Option Value → Heap → List Loc → Prop} (X : Stand p l e R s m args below meth c T locs cells slots) (hx : p.tables.exec = Jvm.exec) (hlk : meth.locks = false) {pc : Nat} {Ls : Array Slot} {z : Int64} {rest : List Value} (hret : meth.sig.returnType = some .long) (hd : decode c.code pc = .ok (.lreturn, 1)) (hc : cells ≤ kc) (hs : slots ≤ ks) (hq : Q (some (.long z)) T.heap locs) : own_Go p e below (own_End s kc ks Q) T (mkF m pc Ls (.long z :: rest)) :=
  own_fin X hlk (fun q => by rw [hret] at q; cases q) hq hc hs fun fs hr => retOut X hx hret rfl (Or.inr (Or.inl ⟨rfl, rfl, _, rfl⟩)) hd hr
theorem own_retA {kc ks : Nat} {Q : Option Value → Heap → List Loc → Prop} (X : Stand p l e R s m args below meth c T locs cells slots) (hx : p.tables.exec = Jvm.exec) (hlk : meth.locks = false) {pc : Nat} {Ls : Array Slot} {z : Value} {rest : List Value} (hret : meth.sig.returnType = some ty) (ht : ty.isReference = true) (hz : z.isRef = true) (hd : decode c.code pc = .ok (.areturn, 1)) (hc : cells ≤ kc) (hs : slots ≤ ks) (hq : Q (some z) T.heap locs) : own_Go p e below (own_End s kc ks Q) T (mkF m pc Ls (z :: rest)) :=
  own_fin X hlk (fun q => by rw [hret] at q; cases q) hq hc hs fun fs hr => retOut X hx hret (by cases ty <;> first | rfl | cases ht) (Or.inr (Or.inr (Or.inr (Or.inr ⟨rfl, ht, hz⟩)))) hd hr
theorem own_retN {kc ks : Nat} {Q : Option Value → Heap → List Loc → Prop} (X : Stand p l e R s m args below meth c T locs cells slots) (hx : p.tables.exec = Jvm.exec) (hlk : meth.locks = false) {pc : Nat} {Ls : Array Slot} {z : Int32} {rest : List Value} (hret : meth.sig.returnType = some ty) (ht : ty = .boolean ∨ ty = .byte ∨ ty = .char ∨ ty = .short) (hd : decode c.code pc = .ok (.ireturn, 1)) (hc : cells ≤ kc) (hs : slots ≤ ks) (hq : Q (some (.int (nar ty z))) T.heap locs) : own_Go p e below (own_End s kc ks Q) T (mkF m pc Ls (.int z :: rest)) :=
  own_fin X hlk (fun q => by rw [hret] at q; cases q) hq hc hs fun fs hr => retN X hx hret ht hd hr
theorem own_retV {kc ks : Nat} {Q : Option Value → Heap → List Loc → Prop} (X : Stand p l e R s m args below meth c T locs cells slots) (hx : p.tables.exec = Jvm.exec) (hlk : meth.locks = false) {pc : Nat} {Ls : Array Slot} (hret : meth.sig.returnType = none) (hd : decode c.code pc = .ok (.return_, 1)) (hc : cells ≤ kc) (hs : slots ≤ ks) (hq : Q none T.heap locs) : own_Go p e below (own_End s kc ks Q) T (mkF m pc Ls []) :=
  own_fin X hlk (fun _ => rfl) hq hc hs fun fs hr => X.returnOut hx hret hd hr
theorem own_callSt {y : MethodName} {bytes : ByteArray} {maxL : Nat} {ret : Option FieldType} {rm : Room} {Q : Option Value → Heap → List Loc → Prop} (X : Stand p l e R s m args below meth c T locs cells slots) (hx : p.tables.exec = Jvm.exec) (hZ : Z.Warmed39 s.vm) {own : String} {index : Nat} (hown : s.vm.findClass own = some m.cls)
    (w1 : (Jvm.Cond.methodLink own index y).before a0 Z = true) (w2 : (Jvm.Cond.static y).before a0 Z = true) (w3 : (Jvm.Cond.initialized y.cls).before a0 Z = true) (w4 : (Jvm.Cond.code y bytes maxL ret).before a0 Z = true) (hy : y.cls ≠ "java/lang/invoke/MethodHandle" ∧ y.cls ≠ "java/lang/invoke/VarHandle") {argsL rest : List Value}
    (M : own_Met l Z y bytes maxL ret rm argsL.toArray h Q) (eT : T.heap = h) {W : Nat} (hf : rm.frames + 1 ≤ R.frames) (hl : W + (maxL + 11) + rm.locals ≤ R.locals) {g : JFrame} (hg : g.method = m) (hsize : g.locals.size = c.maxLocals) (hlen : ∀ sig, parseMethodDescriptor y.desc = some sig → argsL.length = sig.parameters.length) (hs : g.stack = argsL.reverse ++ rest) (hW : 2 * g.monitorRoom + (rest.map fun v => v.category).sum ≤ W) (hd : decode c.code g.pc = .ok (.invokestatic index, 3)) (hc : cells + rm.cells ≤ R.cells) (hsl : slots + rm.slots ≤ R.slots) :
    ∃ v T' L, Stand p l e R s m args below meth c T' (locs ++ L) (cells + rm.cells) (slots + rm.slots) ∧ Q v T'.heap L ∧ ∀ target, Steps p.tables e below (T'.setTop { g with pc := g.pc + 3, stack := v.toList ++ rest }) target → Steps p.tables e below (T.setTop g) target := by
  obtain ⟨v, _, ⟨T', L', k', n'⟩, -, X', ⟨L, hQ, l1, l2, l3⟩, st⟩ := Jvm.LawKit.callS X hx (y := y) hown (mvT hZ w1) (mvT hZ w2) (mvT hZ w3) (mvT hZ w4) hy (backOf (W := W) (M []) hZ w4 w3 hf hl) hg hsize (argsL := argsL) (rest := rest) hlen hs hW hd (fun _ _ => ⟨rfl, eT, hc, hsl⟩)
  dsimp only [Pt.U, Pt.locs, Pt.cells, Pt.slots] at X' l1 l2 l3 st hQ
  subst l1 l2 l3
  exact ⟨v, T', L, X', hQ, st⟩
theorem own_callSp {y : MethodName} {bytes : ByteArray} {maxL : Nat} {rm : Room} {Q : Option Value → Heap → List Loc → Prop} (X : Stand p l e R s m args below meth c T locs cells slots) (hx : p.tables.exec = Jvm.exec) (hZ : Z.Warmed39 s.vm) {own : String} {index : Nat} (hown : s.vm.findClass own = some m.cls) (hy1 : y.name = "<init>")
    (w1 : (Jvm.Cond.methodLink own index y).before a0 Z = true) (w2 : (Jvm.Cond.instanceMethod y).before a0 Z = true) (w3 : (Jvm.Cond.initialized y.cls).before a0 Z = true) (w4 : (Jvm.Cond.code y bytes maxL none).before a0 Z = true) (hy : y.cls ≠ "java/lang/invoke/MethodHandle" ∧ y.cls ≠ "java/lang/invoke/VarHandle") {argsL rest : List Value}
    (M : own_Met l Z y bytes maxL none rm (.ref a :: argsL).toArray h Q) (eT : T.heap = h) {W : Nat} (hf : rm.frames + 1 ≤ R.frames) (hl : W + (maxL + 11) + rm.locals ≤ R.locals) {g : JFrame} (hg : g.method = m) (hsize : g.locals.size = c.maxLocals) (hlen : ∀ sig, parseMethodDescriptor y.desc = some sig → argsL.length = sig.parameters.length) (hs : g.stack = argsL.reverse ++ .ref a :: rest) (hW : 2 * g.monitorRoom + (rest.map fun v => v.category).sum ≤ W) (hd : decode c.code g.pc = .ok (.invokespecial index, 3)) (hc : cells + rm.cells ≤ R.cells) (hsl : slots + rm.slots ≤ R.slots) :
    ∃ v T' L, Stand p l e R s m args below meth c T' (locs ++ L) (cells + rm.cells) (slots + rm.slots) ∧ Q v T'.heap L ∧ ∀ target, Steps p.tables e below (T'.setTop { g with pc := g.pc + 3, stack := v.toList ++ rest }) target → Steps p.tables e below (T.setTop g) target := by
  obtain ⟨v, _, ⟨T', L', k', n'⟩, -, X', ⟨L, hQ, l1, l2, l3⟩, st⟩ := X.specialBack hx (y := y) hy1 hown (mvT hZ w1) (mvT hZ w2) (mvT hZ w4) hy (backOf (W := W) (M []) hZ w4 w3 hf hl) hg hsize (Steps.refl _) (a := a) (argsL := argsL) (rest := rest) hlen hs hW hd (fun _ _ => ⟨rfl, eT, hc, hsl⟩)
  dsimp only [Pt.U, Pt.locs, Pt.cells, Pt.slots] at X' l1 l2 l3 st hQ
  subst l1 l2 l3
  exact ⟨v, T', L, X', hQ, fun _ k => st.trans k⟩
theorem own_callVi {y z : MethodName} {bytes : ByteArray} {maxL : Nat} {ret : Option FieldType} {rm : Room} {Q : Option Value → Heap → List Loc → Prop} {C : String} (X : Stand p l e R s m args below meth c T locs cells slots) (hx : p.tables.exec = Jvm.exec) (hZ : Z.Warmed39 s.vm) {own : String} {index : Nat} (hown : s.vm.findClass own = some m.cls)
    (w1 : (Jvm.Cond.methodLink own index y).before a0 Z = true) (w2 : (Jvm.Cond.declares y).before a0 Z = true) (nf : NotFace s y) (w5 : (Jvm.Cond.selects C y z).before a0 Z = true) (w6 : (Jvm.Cond.instanceMethod z).before a0 Z = true) (w3 : (Jvm.Cond.initialized z.cls).before a0 Z = true) (w4 : (Jvm.Cond.code z bytes maxL ret).before a0 Z = true) (hy : y.cls ≠ "java/lang/invoke/MethodHandle" ∧ y.cls ≠ "java/lang/invoke/VarHandle") (E : Exa Z h a C) {argsL rest : List Value}
    (M : own_Met l Z z bytes maxL ret rm (.ref a :: argsL).toArray h Q) (eT : T.heap = h) {W : Nat} (hf : rm.frames + 1 ≤ R.frames) (hl : W + (maxL + 11) + rm.locals ≤ R.locals) {g : JFrame} (hg : g.method = m) (hsize : g.locals.size = c.maxLocals) (hlen : ∀ sig, parseMethodDescriptor y.desc = some sig → argsL.length = sig.parameters.length) (hs : g.stack = argsL.reverse ++ .ref a :: rest) (hW : 2 * g.monitorRoom + (rest.map fun v => v.category).sum ≤ W) (hd : decode c.code g.pc = .ok (.invokevirtual index, 3)) (hc : cells + rm.cells ≤ R.cells) (hsl : slots + rm.slots ≤ R.slots) :
    ∃ v T' L, Stand p l e R s m args below meth c T' (locs ++ L) (cells + rm.cells) (slots + rm.slots) ∧ Q v T'.heap L ∧ ∀ target, Steps p.tables e below (T'.setTop { g with pc := g.pc + 3, stack := v.toList ++ rest }) target → Steps p.tables e below (T.setTop g) target := by
  obtain ⟨cq, kq, qa, qb, qc⟩ := isOf hZ eT E
  obtain ⟨v, _, ⟨T', L', k', n'⟩, -, X', ⟨L, hQ, l1, l2, l3⟩, st⟩ := X.virtualBack hx (y := y) (z := z) hown (mvT hZ w1) (mvT hZ w2) nf (mvT hZ w5) (mvT hZ w6) hy (backOf (W := W) (M []) hZ w4 w3 hf hl) qa qc hg hsize (Steps.refl _) (argsL := argsL) (rest := rest) hlen hs hW hd (fun _ _ => ⟨rfl, eT, hc, hsl⟩)
  dsimp only [Pt.U, Pt.locs, Pt.cells, Pt.slots] at X' l1 l2 l3 st hQ
  subst l1 l2 l3
  exact ⟨v, T', L, X', hQ, fun _ k => st.trans k⟩
/-- the whole contents of an array -/
def own_Av (Z : State) (h : Heap) (a : Addr) (ty : FieldType) (vs : List Value) : Prop := ∃ c : Cell, Arr Z h a c ty ∧ c.slots = vs.toArray ∧ vs.length < 2 ^ 31
theorem own_Av.lt (F : own_Av Z h a ty vs) : a < h.size := by obtain ⟨c, A, -⟩ := F; exact A.lt
theorem own_Av.ext (F : own_Av Z h a ty vs) (E : Ext h h') : own_Av Z h' a ty vs := by obtain ⟨c, A, r⟩ := F; exact ⟨c, A.ext E, r⟩
theorem own_Av.other (F : own_Av Z h b ty vs) (W : Wr h h' a sl v) (q : b ≠ a) : own_Av Z h' b ty vs := by obtain ⟨c, A, r⟩ := F; exact ⟨c, A.other W q, r⟩
theorem own_Av.keep (F : own_Av Z h a ty vs) (K : Keep h h' ws) (q : a ∉ ws) : own_Av Z h' a ty vs := by obtain ⟨c, A, r⟩ := F; exact ⟨c, ⟨K.2.1 a c A.1 q, A.2⟩, r⟩
theorem own_Av.len (F : own_Av Z h a ty vs) : vs.length < 2 ^ 31 := by obtain ⟨c, A, r, q⟩ := F; exact q
theorem own_Av.new {k : ClassId} {z : Int32} (A : Arr Z h a (newA k ty z) ty) : own_Av Z h a ty (List.replicate z.toNatClampNeg (defaultValue ty)) := ⟨_, A, by simp [newA], by rw [List.length_replicate]; have := z.toInt_lt; simp only [Int32.toNatClampNeg]; omega⟩
theorem own_Av.set (F : own_Av Z h a ty vs) {j : Nat} (W : Wr h h' a j v) : own_Av Z h' a ty (vs.set j v) := by
  obtain ⟨c, A, r, q⟩ := F
  refine ⟨_, A.same W, ?_, by rw [List.length_set]; exact q⟩
  simp [Cell.setSlot, r]
theorem own_in {c : Cell} {j : Int32} (r : c.slots = vs.toArray) (hj : ¬ j < 0) (hl : j.toNatClampNeg < vs.length) : ¬ (j < 0 ∨ c.slots.size ≤ j.toNatClampNeg) := by
  rw [r]; simp; exact ⟨Int32.not_lt.mp hj, hl⟩
theorem own_lt_of {α : Type} {vs : List α} {j : Nat} {v : α} (q : vs[j]? = some v) : j < vs.length := (List.getElem?_eq_some_iff.mp q).1
theorem own_ldI (X : Stand p l e R s m args below meth c T locs cells slots) (hx : p.tables.exec = Jvm.exec) (hZ : Z.Warmed39 s.vm) (eT : T.heap = h) (F : own_Av Z h a .int vs) {j : Int32} (hj : ¬ j < 0) (hv : vs[j.toNatClampNeg]? = some v) {g : JFrame} (hg : g.method = m) {rest : List Value} (hs : g.stack = .int j :: .ref a :: rest) (hd : decode c.code g.pc = .ok (.iaload, 1)) :
    ∀ target, Steps p.tables e below (T.setTop { g with pc := g.pc + 1, stack := v :: rest }) target → Steps p.tables e below (T.setTop g) target := by
  obtain ⟨cl, A, r, -⟩ := F
  exact X.iaload hx (j := j) (v := v) (by rw [eT]; exact A.1) (State.isArrayOf_alike hZ.alike A.2.1) A.2.2 (own_in r hj (own_lt_of hv)) (by rw [r]; simpa using hv) hg hs hd
theorem own_ldJ (X : Stand p l e R s m args below meth c T locs cells slots) (hx : p.tables.exec = Jvm.exec) (hZ : Z.Warmed39 s.vm) (eT : T.heap = h) (F : own_Av Z h a .long vs) {j : Int32} (hj : ¬ j < 0) (hv : vs[j.toNatClampNeg]? = some v) {g : JFrame} (hg : g.method = m) {rest : List Value} (hs : g.stack = .int j :: .ref a :: rest) (hd : decode c.code g.pc = .ok (.laload, 1)) :
    ∀ target, Steps p.tables e below (T.setTop { g with pc := g.pc + 1, stack := v :: rest }) target → Steps p.tables e below (T.setTop g) target := by
  obtain ⟨cl, A, r, -⟩ := F
  exact X.laload hx (j := j) (v := v) (by rw [eT]; exact A.1) (State.isArrayOf_alike hZ.alike A.2.1) A.2.2 (own_in r hj (own_lt_of hv)) (by rw [r]; simpa using hv) hg hs hd
theorem own_ldB (X : Stand p l e R s m args below meth c T locs cells slots) (hx : p.tables.exec = Jvm.exec) (hZ : Z.Warmed39 s.vm) (eT : T.heap = h) (F : own_Av Z h a .byte vs) {j : Int32} (hj : ¬ j < 0) (hv : vs[j.toNatClampNeg]? = some v) {g : JFrame} (hg : g.method = m) {rest : List Value} (hs : g.stack = .int j :: .ref a :: rest) (hd : decode c.code g.pc = .ok (.baload, 1)) :
    ∀ target, Steps p.tables e below (T.setTop { g with pc := g.pc + 1, stack := v :: rest }) target → Steps p.tables e below (T.setTop g) target := by
  obtain ⟨cl, A, r, -⟩ := F
  exact X.baloadBytes hx (j := j) (v := v) (by rw [eT]; exact A.1) (State.isArrayOf_alike hZ.alike A.2.1) A.2.2 (own_in r hj (own_lt_of hv)) (by rw [r]; simpa using hv) hg hs hd
theorem own_ldZ (X : Stand p l e R s m args below meth c T locs cells slots) (hx : p.tables.exec = Jvm.exec) (hZ : Z.Warmed39 s.vm) (eT : T.heap = h) (F : own_Av Z h a .boolean vs) {j : Int32} (hj : ¬ j < 0) (hv : vs[j.toNatClampNeg]? = some v) {g : JFrame} (hg : g.method = m) {rest : List Value} (hs : g.stack = .int j :: .ref a :: rest) (hd : decode c.code g.pc = .ok (.baload, 1)) :
    ∀ target, Steps p.tables e below (T.setTop { g with pc := g.pc + 1, stack := v :: rest }) target → Steps p.tables e below (T.setTop g) target := by
  obtain ⟨cl, A, r, -⟩ := F
  exact X.baloadBooleans hx (j := j) (v := v) (by rw [eT]; exact A.1) (State.isArrayOf_alike hZ.alike A.2.1) A.2.2 (own_in r hj (own_lt_of hv)) (by rw [r]; simpa using hv) hg hs hd
theorem own_alen (X : Stand p l e R s m args below meth c T locs cells slots) (hx : p.tables.exec = Jvm.exec) (hZ : Z.Warmed39 s.vm) (eT : T.heap = h) (F : own_Av Z h a ty vs) {n : Int32} (hn : vs.length.toInt32 = n) {g : JFrame} (hg : g.method = m) {rest : List Value} (hs : g.stack = .ref a :: rest) (hd : decode c.code g.pc = .ok (.arraylength, 1)) :
    ∀ target, Steps p.tables e below (T.setTop { g with pc := g.pc + 1, stack := .int n :: rest }) target → Steps p.tables e below (T.setTop g) target := by
  obtain ⟨cl, A, r, -⟩ := F
  have q := X.arraylength hx (by rw [eT]; exact A.1) (State.isArrayOf_alike hZ.alike A.2.1) hg hs hd
  have e1 : cl.slots.size.toInt32 = n := by rw [r]; simpa using hn
  rw [e1] at q; exact q
theorem own_stI (X : Stand p l e R s m args below meth c T locs cells slots) (hx : p.tables.exec = Jvm.exec) (hZ : Z.Warmed39 s.vm) (eT : T.heap = h) (F : own_Av Z h a .int vs) {j x : Int32} (hj : ¬ j < 0) (hl : j.toNatClampNeg < vs.length) {g : JFrame} (hg : g.method = m) {rest : List Value} (hs : g.stack = .int x :: .int j :: .ref a :: rest) (hd : decode c.code g.pc = .ok (.iastore, 1)) :
    ∃ T' h', Stand p l e R s m args below meth c T' (locs ++ [⟨a, j.toNatClampNeg⟩]) cells slots ∧ T'.heap = h' ∧ Wr h h' a j.toNatClampNeg (.int x) ∧ own_Av Z h' a .int (vs.set j.toNatClampNeg (.int x)) ∧ ∀ target, Steps p.tables e below (T'.setTop { g with pc := g.pc + 1, stack := rest }) target → Steps p.tables e below (T.setTop g) target := by
  obtain ⟨cl, A, r, q⟩ := F
  obtain ⟨T', h', X', e', W, st⟩ := stI X hx hZ eT A (own_in r hj hl) hg hs hd
  exact ⟨T', h', X', e', W, own_Av.set ⟨cl, A, r, q⟩ W, st⟩
theorem own_stJ (X : Stand p l e R s m args below meth c T locs cells slots) (hx : p.tables.exec = Jvm.exec) (hZ : Z.Warmed39 s.vm) (eT : T.heap = h) (F : own_Av Z h a .long vs) {j : Int32} {x : Int64} (hj : ¬ j < 0) (hl : j.toNatClampNeg < vs.length) {g : JFrame} (hg : g.method = m) {rest : List Value} (hs : g.stack = .long x :: .int j :: .ref a :: rest) (hd : decode c.code g.pc = .ok (.lastore, 1)) :
    ∃ T' h', Stand p l e R s m args below meth c T' (locs ++ [⟨a, j.toNatClampNeg⟩]) cells slots ∧ T'.heap = h' ∧ Wr h h' a j.toNatClampNeg (.long x) ∧ own_Av Z h' a .long (vs.set j.toNatClampNeg (.long x)) ∧ ∀ target, Steps p.tables e below (T'.setTop { g with pc := g.pc + 1, stack := rest }) target → Steps p.tables e below (T.setTop g) target := by
  obtain ⟨cl, A, r, q⟩ := F
  obtain ⟨T', h', X', e', W, st⟩ := stJ X hx hZ eT A (own_in r hj hl) hg hs hd
  exact ⟨T', h', X', e', W, own_Av.set ⟨cl, A, r, q⟩ W, st⟩
theorem own_stB (X : Stand p l e R s m args below meth c T locs cells slots) (hx : p.tables.exec = Jvm.exec) (hZ : Z.Warmed39 s.vm) (eT : T.heap = h) (F : own_Av Z h a .byte vs) {j x : Int32} (hj : ¬ j < 0) (hl : j.toNatClampNeg < vs.length) {g : JFrame} (hg : g.method = m) {rest : List Value} (hs : g.stack = .int x :: .int j :: .ref a :: rest) (hd : decode c.code g.pc = .ok (.bastore, 1)) :
    ∃ T' h', Stand p l e R s m args below meth c T' (locs ++ [⟨a, j.toNatClampNeg⟩]) cells slots ∧ T'.heap = h' ∧ Wr h h' a j.toNatClampNeg (.int x.toInt8.toInt32) ∧ own_Av Z h' a .byte (vs.set j.toNatClampNeg (.int x.toInt8.toInt32)) ∧ ∀ target, Steps p.tables e below (T'.setTop { g with pc := g.pc + 1, stack := rest }) target → Steps p.tables e below (T.setTop g) target := by
  obtain ⟨cl, A, r, q⟩ := F
  obtain ⟨T', h', X', e', W, st⟩ := stB X hx hZ eT A (own_in r hj hl) hg hs hd
  exact ⟨T', h', X', e', W, own_Av.set ⟨cl, A, r, q⟩ W, st⟩
theorem own_stZ (X : Stand p l e R s m args below meth c T locs cells slots) (hx : p.tables.exec = Jvm.exec) (hZ : Z.Warmed39 s.vm) (eT : T.heap = h) (F : own_Av Z h a .boolean vs) {j x : Int32} (hj : ¬ j < 0) (hl : j.toNatClampNeg < vs.length) {g : JFrame} (hg : g.method = m) {rest : List Value} (hs : g.stack = .int x :: .int j :: .ref a :: rest) (hd : decode c.code g.pc = .ok (.bastore, 1)) :
    ∃ T' h', Stand p l e R s m args below meth c T' (locs ++ [⟨a, j.toNatClampNeg⟩]) cells slots ∧ T'.heap = h' ∧ Wr h h' a j.toNatClampNeg (.int (x &&& 1)) ∧ own_Av Z h' a .boolean (vs.set j.toNatClampNeg (.int (x &&& 1))) ∧ ∀ target, Steps p.tables e below (T'.setTop { g with pc := g.pc + 1, stack := rest }) target → Steps p.tables e below (T.setTop g) target := by
  obtain ⟨cl, A, r, q⟩ := F
  obtain ⟨T', h', X', e', W, st⟩ := stZ X hx hZ eT A (own_in r hj hl) hg hs hd
  exact ⟨T', h', X', e', W, own_Av.set ⟨cl, A, r, q⟩ W, st⟩
theorem own_len {t : Term} {n : Int32} {cl : Cell} (q : (Jvm.Cond.eq (.length t) (.int n)).value args s none s [] = some true) (ht : t.eval args s none [] s = some (.ref a)) (A : Arr s s.heap a cl ty) (hn : ¬ n < 0) : cl.slots.size = n.toNatClampNeg := by
  have ha := Arr.fin (State.Warmed39.refl s).alike A
  by_cases hl : cl.slots.size < 2 ^ 31
  · have e1 := len_f (t := t) ht ha hl
    have e2 : cl.slots.size.toInt32 = n := by
      simp only [Cond.value, e1] at q
      simpa [Term.eval] using q
    rw [← e2]
    simp only [Int32.toNatClampNeg, len_toInt hl]; rfl
  · exfalso
    have e1 : (Term.length t).eval args s none [] s = none := by
      have hl' : ¬ cl.slots.size < 2147483648 := hl
      simp [Term.eval, ht, ha, hl']
    simp [Cond.value, e1] at q
theorem own_elemJ {t : Term} {j : Int32} {v : Int64} {cl : Cell} (q : (Jvm.Cond.eq (.elem t (.int j)) (.long v)).value args s none s [] = some true) (ht : t.eval args s none [] s = some (.ref a)) (A : Arr s s.heap a cl ty) : cl.slots[j.toNatClampNeg]? = some (.long v) := by
  cases e1 : (Term.elem t (.int j)).eval args s none [] s with
  | none => simp [Cond.value, e1] at q
  | some x =>
    have e2 := (elem_in e1 ht rfl A.1).2
    rw [e2]
    simp only [Cond.value, e1] at q
    cases x <;> simp [Term.eval] at q
    rw [q]
theorem own_elemI {t : Term} {j : Int32} {v : Int32} {cl : Cell} (q : (Jvm.Cond.eq (.elem t (.int j)) (.int v)).value args s none s [] = some true) (ht : t.eval args s none [] s = some (.ref a)) (A : Arr s s.heap a cl ty) : cl.slots[j.toNatClampNeg]? = some (.int v) := by
  cases e1 : (Term.elem t (.int j)).eval args s none [] s with
  | none => simp [Cond.value, e1] at q
  | some x =>
    have e2 := (elem_in e1 ht rfl A.1).2
    rw [e2]
    simp only [Cond.value, e1] at q
    cases x <;> simp [Term.eval] at q
    rw [q]
theorem own_Av.of {cl : Cell} (A : Arr Z h a cl ty) (hs : cl.slots.size = vs.length) (hv : ∀ i, i < vs.length → cl.slots[i]? = vs[i]?) (hl : vs.length < 2 ^ 31) : own_Av Z h a ty vs := by
  refine ⟨cl, A, ?_, hl⟩
  apply Array.ext
  · simpa using hs
  · intro i h1 h2
    have h3 : i < vs.length := by rw [← hs]; exact h1
    have := hv i h3
    rw [Array.getElem?_eq_getElem h1, List.getElem?_eq_getElem h3] at this
    simpa using this
theorem own_Sta.keep0 {C n d : String} (F : Sta Z h C n d v) (K : Keep h h' []) : Sta Z h' C n d v := by
  obtain ⟨cf, i, k, f, st, cell, h1, h2, h3, h4, h5, r⟩ := F; exact ⟨cf, i, k, f, st, cell, h1, h2, h3, h4, K.2.1 _ _ h5 nin0, r⟩
theorem own_fldJ {t : Term} {C n d : String} {z : Int64} (q : (Jvm.Cond.eq (.field t C n d) (.long z)).value args s none s [] = some true) (ht : t.eval args s none [] s = some (.ref a)) : Fld s s.heap a C n d (.long z) := by
  have e0 := fld_at (C := C) (n := n) (dd := d) ht
  refine Fld.start ?_
  cases e1 : s.fieldOf? a C n d with
  | none => rw [e1] at e0; simp [Cond.value, e0] at q
  | some x =>
    rw [e1] at e0
    simp only [Cond.value, e0] at q
    cases x <;> simp [Term.eval] at q
    rw [q]
theorem own_cloneI (X : Stand p l e R s m args below meth c T locs cells slots) (hx : p.tables.exec = Jvm.exec) (hZ : Z.Warmed39 s.vm) {own : String} {index : Nat} (hown : s.vm.findClass own = some m.cls)
    (w1 : (Jvm.Cond.methodLink own index ⟨"[I", "clone", "()Ljava/lang/Object;"⟩).before a0 Z = true) (w2 : (Jvm.Cond.sameMethod "[I" "java/lang/Object" "clone" "()Ljava/lang/Object;").before a0 Z = true) (w3 : (Jvm.Cond.native ⟨"java/lang/Object", "clone", "()Ljava/lang/Object;"⟩).before a0 Z = true)
    (w4 : (Jvm.Cond.instanceMethod ⟨"java/lang/Object", "clone", "()Ljava/lang/Object;"⟩).before a0 Z = true) (w5 : (Jvm.Cond.selects "[I" ⟨"[I", "clone", "()Ljava/lang/Object;"⟩ ⟨"java/lang/Object", "clone", "()Ljava/lang/Object;"⟩).before a0 Z = true) (w6 : (Jvm.Cond.castable "[I" "java/lang/Cloneable").before a0 Z = true)
    (eT : T.heap = h) {I : List Int32} (F : own_Av Z h a .int (I.map Value.int)) (E : Exa Z h a "[I") {g : JFrame} (hg : g.method = m) (hsize : g.locals.size = c.maxLocals) {rest : List Value} (hs : g.stack = .ref a :: rest) (hd : decode c.code g.pc = .ok (.invokevirtual index, 3))
    (hf : 1 ≤ R.frames) {W cap : Nat} (hW : 2 * g.monitorRoom + (rest.map fun v => v.category).sum ≤ W) (hl : W + 14 ≤ R.locals) (hcap : I.length ≤ cap) (hc : cells + 1 ≤ R.cells) (hsl : slots + cap ≤ R.slots) :
    ∃ T' h', Stand p l e R s m args below meth c T' locs (cells + 1) (slots + cap) ∧ T'.heap = h' ∧ Ext h h' ∧ own_Av Z h' h.size .int (I.map Value.int) ∧ Exa Z h' h.size "[I" ∧
      ∀ target, Steps p.tables e below (T'.setTop { g with pc := g.pc + 3, stack := .ref h.size :: rest }) target → Steps p.tables e below (T.setTop g) target := by
  obtain ⟨cl, A, r, q⟩ := F
  have FC : FitC Z cl := fitC_of A fun i hi v hv => by
    rw [r] at hv
    simp only [List.getElem?_toArray, List.getElem?_map, Option.map_eq_some_iff] at hv
    obtain ⟨z, -, rfl⟩ := hv
    rfl
  obtain ⟨T', h', X', e', ex, A', E', st⟩ := cloneA X hx hZ hown w1 w2 w3 w4 w5 w6 eT A E FC hg hsize hs hd hf hW hl (by rw [r]; simpa using hcap) hc hsl
  exact ⟨T', h', X', e', ex, ⟨cloneOf cl, A', r, q⟩, E', st⟩
theorem own_callPr {y y' : MethodName} {bytes : ByteArray} {maxL : Nat} {ret : Option FieldType} {rm : Room} {Q : Option Value → Heap → List Loc → Prop} (X : Stand p l e R s m args below meth c T locs cells slots) (hx : p.tables.exec = Jvm.exec) (hZ : Z.Warmed39 s.vm) {own : String} {index : Nat} (hown : s.vm.findClass own = some m.cls)
    (w1 : (Jvm.Cond.methodLink own index y).before a0 Z = true) (w2 : (Jvm.Cond.privateMethod y).before a0 Z = true) (w6 : (Jvm.Cond.instanceMethod y).before a0 Z = true) (w3 : (Jvm.Cond.initialized y.cls).before a0 Z = true) (w4 : (Jvm.Cond.code y bytes maxL ret).before a0 Z = true) (w7 : (Jvm.Cond.selects y.cls y' y').before a0 Z = true) (w8 : (Jvm.Cond.instanceMethod y').before a0 Z = true) (hcl : y'.cls = y.cls) (hy : y.cls ≠ "java/lang/invoke/MethodHandle" ∧ y.cls ≠ "java/lang/invoke/VarHandle") {C : String} (E : Exa Z h a C) {argsL rest : List Value}
    (M : own_Met l Z y bytes maxL ret rm (.ref a :: argsL).toArray h Q) (eT : T.heap = h) {W : Nat} (hf : rm.frames + 1 ≤ R.frames) (hl : W + (maxL + 11) + rm.locals ≤ R.locals) {g : JFrame} (hg : g.method = m) (hsize : g.locals.size = c.maxLocals) (hlen : ∀ sig, parseMethodDescriptor y.desc = some sig → argsL.length = sig.parameters.length) (hs : g.stack = argsL.reverse ++ .ref a :: rest) (hW : 2 * g.monitorRoom + (rest.map fun v => v.category).sum ≤ W) (hd : decode c.code g.pc = .ok (.invokevirtual index, 3)) (hc : cells + rm.cells ≤ R.cells) (hsl : slots + rm.slots ≤ R.slots) :
    ∃ v T' L, Stand p l e R s m args below meth c T' (locs ++ L) (cells + rm.cells) (slots + rm.slots) ∧ Q v T'.heap L ∧ ∀ target, Steps p.tables e below (T'.setTop { g with pc := g.pc + 3, stack := v.toList ++ rest }) target → Steps p.tables e below (T.setTop g) target := by
  obtain ⟨cq, qa, qb⟩ := E.cell
  have nf := notFace_of_selects (args := #[]) (mvT hZ w7)
  obtain ⟨mk', meth', hn', -⟩ := Cond.instanceMethod_spec (mvT (args := #[]) hZ w8)
  obtain ⟨k', hk', hni⟩ := nf mk' hn'
  have hc' := findClass_of_methodNamed hn'
  rw [hcl] at hc'
  have hpriv := Cond.privateMethod_at (mvP hZ w2 (args := #[]))
  have hsel := selects_self_of_private (args := args) hc' hk' hni hpriv (mvT hZ w6) hy
  obtain ⟨v, _, ⟨T', L', k', n'⟩, -, X', ⟨L, hQ, l1, l2, l3⟩, st⟩ := X.privateBack hx (y := y) hown (mvT hZ w1) (mvT hZ w6) hsel hpriv (mvT hZ w4) hy (backOf (W := W) (M []) hZ w4 w3 hf hl) hg hsize (Steps.refl _) (a := a) (by rw [eT]; exact qa) qb (argsL := argsL) (rest := rest) hlen hs hW hd (fun _ _ => ⟨rfl, eT, hc, hsl⟩)
  dsimp only [Pt.U, Pt.locs, Pt.cells, Pt.slots] at X' l1 l2 l3 st hQ
  subst l1 l2 l3
  exact ⟨v, T', L, X', hQ, fun _ k => st.trans k⟩
theorem own_clone {ad : String} (X : Stand p l e R s m args below meth c T locs cells slots) (hx : p.tables.exec = Jvm.exec) (hZ : Z.Warmed39 s.vm) {own : String} {index : Nat} (hown : s.vm.findClass own = some m.cls)
    (w1 : (Jvm.Cond.methodLink own index ⟨ad, "clone", "()Ljava/lang/Object;"⟩).before a0 Z = true) (w2 : (Jvm.Cond.sameMethod ad "java/lang/Object" "clone" "()Ljava/lang/Object;").before a0 Z = true) (w3 : (Jvm.Cond.native ⟨"java/lang/Object", "clone", "()Ljava/lang/Object;"⟩).before a0 Z = true)
    (w4 : (Jvm.Cond.instanceMethod ⟨"java/lang/Object", "clone", "()Ljava/lang/Object;"⟩).before a0 Z = true) (w5 : (Jvm.Cond.selects ad ⟨ad, "clone", "()Ljava/lang/Object;"⟩ ⟨"java/lang/Object", "clone", "()Ljava/lang/Object;"⟩).before a0 Z = true) (w6 : (Jvm.Cond.castable ad "java/lang/Cloneable").before a0 Z = true)
    (eT : T.heap = h) (F : own_Av Z h a ty vs) (hfit : ∀ v ∈ vs, fits ty v = true) (E : Exa Z h a ad) {g : JFrame} (hg : g.method = m) (hsize : g.locals.size = c.maxLocals) {rest : List Value} (hs : g.stack = .ref a :: rest) (hd : decode c.code g.pc = .ok (.invokevirtual index, 3))
    (hf : 1 ≤ R.frames) {W cap : Nat} (hW : 2 * g.monitorRoom + (rest.map fun v => v.category).sum ≤ W) (hl : W + 14 ≤ R.locals) (hcap : vs.length ≤ cap) (hc : cells + 1 ≤ R.cells) (hsl : slots + cap ≤ R.slots) :
    ∃ T' h', Stand p l e R s m args below meth c T' locs (cells + 1) (slots + cap) ∧ T'.heap = h' ∧ Ext h h' ∧ own_Av Z h' h.size ty vs ∧ Exa Z h' h.size ad ∧
      ∀ target, Steps p.tables e below (T'.setTop { g with pc := g.pc + 3, stack := .ref h.size :: rest }) target → Steps p.tables e below (T.setTop g) target := by
  obtain ⟨cl, A, r, q⟩ := F
  have FC : FitC Z cl := fitC_of A fun i hi v hv => by
    rw [r] at hv
    simp only [List.getElem?_toArray] at hv
    exact hfit v (List.mem_of_getElem? hv)
  obtain ⟨T', h', X', e', ex, A', E', st⟩ := cloneA X hx hZ hown w1 w2 w3 w4 w5 w6 eT A E FC hg hsize hs hd hf hW hl (by rw [r]; simpa using hcap) hc hsl
  exact ⟨T', h', X', e', ex, ⟨cloneOf cl, A', r, q⟩, E', st⟩
theorem own_Av.arv (F : own_Av Z h a ty vs) {dv : Value} (hfit : ∀ v ∈ vs, fits ty v = true) : ∃ k, Arv Z h a k ty vs.length.toInt32 vs dv := by
  obtain ⟨cl, A, r, q⟩ := F
  have e1 : vs.length.toInt32.toNatClampNeg = vs.length := by simp only [Int32.toNatClampNeg, len_toInt q]; rfl
  have hs : cl.slots.size = vs.length := by rw [r]; simp
  refine ⟨cl.cls, cl, A, rfl, by rw [e1, hs], ?_, fun k hk => ?_, fun i hi => ?_⟩
  · rw [Int32.lt_iff_toInt_lt, len_toInt q]; have : (0 : Int32).toInt = 0 := by decide
    omega
  · rw [hs] at hk; rw [r]; simp [List.getD_eq_getElem?_getD, List.getElem?_eq_getElem hk]
  · rw [hs] at hi
    have : vs.getD i dv = vs[i] := by simp [List.getD_eq_getElem?_getD, List.getElem?_eq_getElem hi]
    rw [this]; exact hfit _ (List.getElem_mem hi)
theorem own_stC (X : Stand p l e R s m args below meth c T locs cells slots) (hx : p.tables.exec = Jvm.exec) (hZ : Z.Warmed39 s.vm) (eT : T.heap = h) (F : own_Av Z h a .char vs) {j x : Int32} (hj : ¬ j < 0) (hl : j.toNatClampNeg < vs.length) {g : JFrame} (hg : g.method = m) {rest : List Value} (hs : g.stack = .int x :: .int j :: .ref a :: rest) (hd : decode c.code g.pc = .ok (.castore, 1)) :
    ∃ T' h', Stand p l e R s m args below meth c T' (locs ++ [⟨a, j.toNatClampNeg⟩]) cells slots ∧ T'.heap = h' ∧ Wr h h' a j.toNatClampNeg (.int x.toUInt32.toUInt16.toUInt32.toInt32) ∧ own_Av Z h' a .char (vs.set j.toNatClampNeg (.int x.toUInt32.toUInt16.toUInt32.toInt32)) ∧ ∀ target, Steps p.tables e below (T'.setTop { g with pc := g.pc + 1, stack := rest }) target → Steps p.tables e below (T.setTop g) target := by
  obtain ⟨cl, A, r, q⟩ := F
  obtain ⟨T', h', X', e', W, st⟩ := stC X hx hZ eT A (own_in r hj hl) hg hs hd
  exact ⟨T', h', X', e', W, own_Av.set ⟨cl, A, r, q⟩ W, st⟩
theorem own_ne_of (q : a < h.size) (r : h.size ≤ b) : a ≠ b := Nat.ne_of_lt (Nat.lt_of_lt_of_le q r)
end Own
theorem own_d1_0 : decode prog_43_method_1_code 0 = .ok (.aload_n 0, 1) := by decide +kernel
theorem own_d1_1 : decode prog_43_method_1_code 1 = .ok (.invokespecial 1, 3) := by decide +kernel
theorem own_d1_4 : decode prog_43_method_1_code 4 = .ok (.aload_n 0, 1) := by decide +kernel
theorem own_d1_5 : decode prog_43_method_1_code 5 = .ok (.lload_n 1, 1) := by decide +kernel
theorem own_d1_6 : decode prog_43_method_1_code 6 = .ok (.putfield 7, 3) := by decide +kernel
theorem own_d1_9 : decode prog_43_method_1_code 9 = .ok (.aload_n 0, 1) := by decide +kernel
theorem own_d1_10 : decode prog_43_method_1_code 10 = .ok (.lload_n 3, 1) := by decide +kernel
theorem own_d1_11 : decode prog_43_method_1_code 11 = .ok (.putfield 13, 3) := by decide +kernel
theorem own_d1_14 : decode prog_43_method_1_code 14 = .ok (.aload_n 0, 1) := by decide +kernel
theorem own_d1_15 : decode prog_43_method_1_code 15 = .ok (.iload 5, 2) := by decide +kernel
theorem own_d1_17 : decode prog_43_method_1_code 17 = .ok (.putfield 16, 3) := by decide +kernel
theorem own_d1_20 : decode prog_43_method_1_code 20 = .ok (.return_, 1) := by decide +kernel
theorem own_pn0 : plainName "com/example/surrogate/surrogate/SequenceDefinition" = true := by first | (simp [plainName, overriddenIn]; done) | decide +kernel
theorem own_mt1_ef (m : MethodId) (x0 : Addr) (x1 : Int64) (x2 : Int64) (x3 : Int32) : entryFrame m #[(.ref x0), (.long x1), (.long x2), (.int x3)] 6 = mkF m 0 #[.val (.ref x0), .val (.long x1), .second, .val (.long x2), .second, .val (.int x3)] [] := by first | rfl | (simp [entryFrame, mkF, argsToLocals, Value.category]; done)
set_option maxRecDepth 65536 in
set_option maxHeartbeats 40000000 in
theorem own_mt1 (l : Launch) (Z : State) (a0 : Array Value) (hw : ∀ d ∈ tables_1, d.before a0 Z = true) (x0 : Addr) (x1 : Int64) (x2 : Int64) (x3 : Int32) (h0 : Heap) (n0 : Nat) (Z0 : n0 ≤ h0.size) (ge_x0 : n0 ≤ x0) (E_x0 : Exa Z h0 x0 "com/example/surrogate/surrogate/SequenceDefinition") (F_increment : Fld Z h0 x0 "com/example/surrogate/surrogate/SequenceDefinition" "increment" "J" (.long (0 : Int64))) (F_maximum : Fld Z h0 x0 "com/example/surrogate/surrogate/SequenceDefinition" "maximum" "J" (.long (0 : Int64))) (F_cycles : Fld Z h0 x0 "com/example/surrogate/surrogate/SequenceDefinition" "cycles" "Z" (.int (0 : Int32))) :
    own_Met l Z (⟨"com/example/surrogate/surrogate/SequenceDefinition", "<init>", "(JJZ)V"⟩ : MethodName) prog_43_method_1_code 6 none ({ frames := 1, cells := 0, slots := 0, locals := 12 } : Room) #[(.ref x0), (.long x1), (.long x2), (.int x3)] h0 (fun v h L => v = none ∧ Fr n0 L ∧ Keep h0 h [x0] ∧ Exa Z h x0 "com/example/surrogate/surrogate/SequenceDefinition" ∧ Fld Z h x0 "com/example/surrogate/surrogate/SequenceDefinition" "increment" "J" (.long x1) ∧ Fld Z h x0 "com/example/surrogate/surrogate/SequenceDefinition" "maximum" "J" (.long x2)) := by
  refine own_intro (plainFor_of_name own_pn0) ?_
  intro p e s m below meth c s₁ hx hby hml hown hnm hZ hret hlk X0 e0
  refine own_cast (own_mt1_ef m x0 x1 x2 x3) ?_
  have N0 := Fr.nil n0
  have K0 : Keep h0 h0 [x0] := Keep.refl _ _
  refine own_via (T' := s₁) (g' := (mkF m 1 #[.val (.ref x0), .val (.long x1), .second, .val (.long x2), .second, .val (.int x3)] [(.ref x0)])) (fun t k => XS.aloadN X0.here hx rfl (hb hby own_d1_0) rfl rfl k) ?_
  obtain ⟨T1, X1, e1, st1⟩ := initO X0 hx hZ hown (hw _ (List.mem_of_getElem? (i := 7) rfl)) (hw _ (List.mem_of_getElem? (i := 8) rfl)) (hw _ (List.mem_of_getElem? (i := 9) rfl)) e0 (g := (mkF m 1 #[.val (.ref x0), .val (.long x1), .second, .val (.long x2), .second, .val (.int x3)] [(.ref x0)])) rfl (by rw [hml]; rfl) rfl (hb hby own_d1_1) (by decide) (W := 0) (by show 2 * 0 + _ ≤ _; exact Nat.le_of_eq rfl) (by decide)
  refine own_via (T' := T1) (g' := (mkF m 4 #[.val (.ref x0), .val (.long x1), .second, .val (.long x2), .second, .val (.int x3)] [])) st1 ?_
  refine own_via (T' := T1) (g' := (mkF m 6 #[.val (.ref x0), .val (.long x1), .second, .val (.long x2), .second, .val (.int x3)] [(.long x1), (.ref x0)])) (fun t k => XS.aloadN X1.here hx rfl (hb hby own_d1_4) rfl rfl (XS.lloadN X1.here hx rfl (hb hby own_d1_5) rfl k)) ?_
  obtain ⟨T2, h2, X2, e2, W2, st2⟩ := putF X1 hx hZ hown (host := "") (Or.inl (hw _ (List.mem_of_getElem? (i := 10) rfl))) Via.refl e1 F_increment E_x0 (Or.inr ⟨(hw _ (List.mem_of_getElem? (i := 11) rfl)), rfl, hnm⟩) (hw _ (List.mem_of_getElem? (i := 2) rfl)) (ty := .long) (by decide) rfl rfl (g := (mkF m 6 #[.val (.ref x0), .val (.long x1), .second, .val (.long x2), .second, .val (.int x3)] [(.long x1), (.ref x0)])) rfl rfl (hb hby own_d1_6)
  have Fw2 := F_increment.same W2
  have E_x0_at3 := E_x0.wr W2
  have F_maximum_at4 := F_maximum.other W2 (Or.inr (slot_ne (Or.inr (hw _ (List.mem_of_getElem? (i := 13) rfl))) (Or.inr (hw _ (List.mem_of_getElem? (i := 11) rfl))) (by decide) (t := .long) (t' := .long) (by decide) (by decide)))
  have F_cycles_at5 := F_cycles.other W2 (Or.inr (slot_ne (Or.inr (hw _ (List.mem_of_getElem? (i := 15) rfl))) (Or.inr (hw _ (List.mem_of_getElem? (i := 11) rfl))) (by decide) (t := .boolean) (t' := .long) (by decide) (by decide)))
  have N2 := Fr.snoc X2 N0 ge_x0
  have K2 : Keep h0 h2 [x0] := K0.wr W2 (Or.inl (List.mem_of_getElem? (i := 0) rfl))
  refine own_via (T' := T2) (g' := (mkF m 9 #[.val (.ref x0), .val (.long x1), .second, .val (.long x2), .second, .val (.int x3)] [])) st2 ?_
  refine own_via (T' := T2) (g' := (mkF m 11 #[.val (.ref x0), .val (.long x1), .second, .val (.long x2), .second, .val (.int x3)] [(.long x2), (.ref x0)])) (fun t k => XS.aloadN X2.here hx rfl (hb hby own_d1_9) rfl rfl (XS.lloadN X2.here hx rfl (hb hby own_d1_10) rfl k)) ?_
  obtain ⟨T6, h6, X6, e6, W6, st6⟩ := putF X2 hx hZ hown (host := "") (Or.inl (hw _ (List.mem_of_getElem? (i := 12) rfl))) Via.refl e2 F_maximum_at4 E_x0_at3 (Or.inr ⟨(hw _ (List.mem_of_getElem? (i := 13) rfl)), rfl, hnm⟩) (hw _ (List.mem_of_getElem? (i := 2) rfl)) (ty := .long) (by decide) rfl rfl (g := (mkF m 11 #[.val (.ref x0), .val (.long x1), .second, .val (.long x2), .second, .val (.int x3)] [(.long x2), (.ref x0)])) rfl rfl (hb hby own_d1_11)
  have Fw6 := F_maximum_at4.same W6
  have E_x0_at7 := E_x0_at3.wr W6
  have Fw2_at8 := Fw2.other W6 (Or.inr (slot_ne (Or.inr (hw _ (List.mem_of_getElem? (i := 11) rfl))) (Or.inr (hw _ (List.mem_of_getElem? (i := 13) rfl))) (by decide) (t := .long) (t' := .long) (by decide) (by decide)))
  have F_cycles_at9 := F_cycles_at5.other W6 (Or.inr (slot_ne (Or.inr (hw _ (List.mem_of_getElem? (i := 15) rfl))) (Or.inr (hw _ (List.mem_of_getElem? (i := 13) rfl))) (by decide) (t := .boolean) (t' := .long) (by decide) (by decide)))
  have N6 := Fr.snoc X6 N2 ge_x0
  have K6 : Keep h0 h6 [x0] := K2.wr W6 (Or.inl (List.mem_of_getElem? (i := 0) rfl))
  refine own_via (T' := T6) (g' := (mkF m 14 #[.val (.ref x0), .val (.long x1), .second, .val (.long x2), .second, .val (.int x3)] [])) st6 ?_
  refine own_via (T' := T6) (g' := (mkF m 17 #[.val (.ref x0), .val (.long x1), .second, .val (.long x2), .second, .val (.int x3)] [(.int x3), (.ref x0)])) (fun t k => XS.aloadN X6.here hx rfl (hb hby own_d1_14) rfl rfl (XS.iload X6.here hx rfl (hb hby own_d1_15) rfl k)) ?_
  obtain ⟨T10, h10, X10, e10, W10, st10⟩ := putFN X6 hx hZ hown (hw _ (List.mem_of_getElem? (i := 14) rfl)) Via.refl e6 F_cycles_at9 E_x0_at7 (Or.inr ⟨(hw _ (List.mem_of_getElem? (i := 15) rfl)), rfl, hnm⟩) (hw _ (List.mem_of_getElem? (i := 2) rfl)) (ty := .boolean) (v' := (.int (x3 &&& 1))) (by decide) rfl (fits_nar_bool _) (g := (mkF m 17 #[.val (.ref x0), .val (.long x1), .second, .val (.long x2), .second, .val (.int x3)] [(.int x3), (.ref x0)])) rfl rfl (hb hby own_d1_17)
  have Fw10 := F_cycles_at9.same W10
  have E_x0_at11 := E_x0_at7.wr W10
  have Fw2_at12 := Fw2_at8.other W10 (Or.inr (slot_ne (Or.inr (hw _ (List.mem_of_getElem? (i := 11) rfl))) (Or.inr (hw _ (List.mem_of_getElem? (i := 15) rfl))) (by decide) (t := .long) (t' := .boolean) (by decide) (by decide)))
  have Fw6_at13 := Fw6.other W10 (Or.inr (slot_ne (Or.inr (hw _ (List.mem_of_getElem? (i := 13) rfl))) (Or.inr (hw _ (List.mem_of_getElem? (i := 15) rfl))) (by decide) (t := .long) (t' := .boolean) (by decide) (by decide)))
  have N10 := Fr.snoc X10 N6 ge_x0
  have K10 : Keep h0 h10 [x0] := K6.wr W10 (Or.inl (List.mem_of_getElem? (i := 0) rfl))
  refine own_via (T' := T10) (g' := (mkF m 20 #[.val (.ref x0), .val (.long x1), .second, .val (.long x2), .second, .val (.int x3)] [])) st10 ?_
  refine own_retV X10 hx hlk hret (hb hby own_d1_20) (by decide) (by decide) ?_
  rw [e10]; exact ⟨rfl, N10, K10, E_x0_at11, Fw2_at12, Fw6_at13⟩
theorem own_d3_0 : decode prog_43_method_7_code 0 = .ok (.aload_n 0, 1) := by decide +kernel
theorem own_d3_1 : decode prog_43_method_7_code 1 = .ok (.getfield 13, 3) := by decide +kernel
theorem own_d3_4 : decode prog_43_method_7_code 4 = .ok (.ldc2_w 77, 3) := by decide +kernel
theorem own_d3_7 : decode prog_43_method_7_code 7 = .ok (.aload_n 0, 1) := by decide +kernel
theorem own_d3_8 : decode prog_43_method_7_code 8 = .ok (.getfield 7, 3) := by decide +kernel
theorem own_d3_11 : decode prog_43_method_7_code 11 = .ok (.lsub, 1) := by decide +kernel
theorem own_d3_12 : decode prog_43_method_7_code 12 = .ok (.lcmp, 1) := by decide +kernel
theorem own_d3_13 : decode prog_43_method_7_code 13 = .ok (.ifCond .le 9, 3) := by decide +kernel
theorem own_d3_16 : decode prog_43_method_7_code 16 = .ok (.ldc2_w 77, 3) := by decide +kernel
theorem own_d3_19 : decode prog_43_method_7_code 19 = .ok (.goto 12, 3) := by decide +kernel
theorem own_d3_22 : decode prog_43_method_7_code 22 = .ok (.aload_n 0, 1) := by decide +kernel
theorem own_d3_23 : decode prog_43_method_7_code 23 = .ok (.getfield 13, 3) := by decide +kernel
theorem own_d3_26 : decode prog_43_method_7_code 26 = .ok (.aload_n 0, 1) := by decide +kernel
theorem own_d3_27 : decode prog_43_method_7_code 27 = .ok (.getfield 7, 3) := by decide +kernel
theorem own_d3_30 : decode prog_43_method_7_code 30 = .ok (.ladd, 1) := by decide +kernel
theorem own_d3_31 : decode prog_43_method_7_code 31 = .ok (.lreturn, 1) := by decide +kernel
def own_past (inc : Int64) (mx : Int64) : Int64 := (if ((9223372036854775807 : Int64) - inc) < mx then (9223372036854775807 : Int64) else (mx + inc))
theorem own_mt3_ef (m : MethodId) (x0 : Addr) : entryFrame m #[(.ref x0)] 1 = mkF m 0 #[.val (.ref x0)] [] := by first | rfl | (simp [entryFrame, mkF, argsToLocals, Value.category]; done)
set_option maxRecDepth 65536 in
set_option maxHeartbeats 40000000 in
theorem own_mt3 (l : Launch) (Z : State) (a0 : Array Value) (hw : ∀ d ∈ tables_1, d.before a0 Z = true) (x0 : Addr) (inc : Int64) (mx : Int64) (h0 : Heap) (F_increment : Fld Z h0 x0 "com/example/surrogate/surrogate/SequenceDefinition" "increment" "J" (.long inc)) (F_maximum : Fld Z h0 x0 "com/example/surrogate/surrogate/SequenceDefinition" "maximum" "J" (.long mx)) :
    own_Met l Z (⟨"com/example/surrogate/surrogate/SequenceDefinition", "pastTheEnd", "()J"⟩ : MethodName) prog_43_method_7_code 1 (some .long) ({ frames := 0, cells := 0, slots := 0, locals := 0 } : Room) #[(.ref x0)] h0 (fun v h L => v = some (.long (own_past inc mx)) ∧ h = h0 ∧ L = []) := by
  refine own_intro (plainFor_of_name own_pn0) ?_
  intro p e s m below meth c s₁ hx hby hml hown hnm hZ hret hlk X0 e0
  refine own_cast (own_mt3_ef m x0) ?_
  refine own_via (T' := s₁) (g' := (mkF m 1 #[.val (.ref x0)] [(.ref x0)])) (fun t k => XS.aloadN X0.here hx rfl (hb hby own_d3_0) rfl rfl k) ?_
  obtain ⟨T1, X1, e1, st1⟩ := getF X0 hx hZ hown (host := "") (Or.inl (hw _ (List.mem_of_getElem? (i := 12) rfl))) Via.refl e0 F_maximum (g := (mkF m 1 #[.val (.ref x0)] [(.ref x0)])) rfl rfl (hb hby own_d3_1)
  refine own_via (T' := T1) (g' := (mkF m 4 #[.val (.ref x0)] [(.long mx)])) st1 ?_
  refine own_via (T' := T1) (g' := (mkF m 7 #[.val (.ref x0)] [(.long (9223372036854775807 : Int64)), (.long mx)])) (X1.ldc2Long hx hown (mvT hZ (hw _ (List.mem_of_getElem? (i := 21) rfl))) (g := (mkF m 4 #[.val (.ref x0)] [(.long mx)])) rfl (hb hby own_d3_4)) ?_
  refine own_via (T' := T1) (g' := (mkF m 8 #[.val (.ref x0)] [(.ref x0), (.long (9223372036854775807 : Int64)), (.long mx)])) (fun t k => XS.aloadN X1.here hx rfl (hb hby own_d3_7) rfl rfl k) ?_
  obtain ⟨T2, X2, e2, st2⟩ := getF X1 hx hZ hown (host := "") (Or.inl (hw _ (List.mem_of_getElem? (i := 10) rfl))) Via.refl e1 F_increment (g := (mkF m 8 #[.val (.ref x0)] [(.ref x0), (.long (9223372036854775807 : Int64)), (.long mx)])) rfl rfl (hb hby own_d3_8)
  refine own_via (T' := T2) (g' := (mkF m 11 #[.val (.ref x0)] [(.long inc), (.long (9223372036854775807 : Int64)), (.long mx)])) st2 ?_
  refine own_via (T' := T2) (g' := (mkF m 13 #[.val (.ref x0)] [(.int (lcmpW mx ((9223372036854775807 : Int64) - inc)))])) (fun t k => XS.lsub X2.here hx rfl (hb hby own_d3_11) rfl (XS.lcmp X2.here hx rfl (hb hby own_d3_12) rfl k)) ?_
  by_cases hc3 : ((9223372036854775807 : Int64) - inc) < mx
  · refine own_via (T' := T2) (g' := (mkF m 16 #[.val (.ref x0)] [])) (fun t k => XS.ifNo X2.here hx rfl (hb hby own_d3_13) rfl ((if0 _ _).trans (tlt ((lw_gt mx ((9223372036854775807 : Int64) - inc)).mpr hc3)).2.2.2) k) ?_
    refine own_via (T' := T2) (g' := (mkF m 19 #[.val (.ref x0)] [(.long (9223372036854775807 : Int64))])) (X2.ldc2Long hx hown (mvT hZ (hw _ (List.mem_of_getElem? (i := 21) rfl))) (g := (mkF m 16 #[.val (.ref x0)] [])) rfl (hb hby own_d3_16)) ?_
    refine own_via (T' := T2) (g' := (mkF m 31 #[.val (.ref x0)] [(.long (9223372036854775807 : Int64))])) (fun t k => XS.goto X2.here hx rfl (pc0 := 19) (pc' := 31) rfl (hb hby own_d3_19) (by decide) (by decide) k) ?_
    refine own_retJ X2 hx hlk hret (hb hby own_d3_31) (by decide) (by decide) ?_
    exact ⟨by rw [own_past, if_pos hc3] <;> rfl, e2, rfl⟩
  · refine own_via (T' := T2) (g' := (mkF m 23 #[.val (.ref x0)] [(.ref x0)])) (fun t k => XS.ifYes X2.here hx rfl (pc0 := 13) (pc' := 22) rfl (hb hby own_d3_13) rfl ((if0 _ _).trans (flt (fun q => hc3 ((lw_gt mx ((9223372036854775807 : Int64) - inc)).mp q))).2.2.2) (by decide) (by decide) (XS.aloadN X2.here hx rfl (hb hby own_d3_22) rfl rfl k)) ?_
    obtain ⟨T4, X4, e4, st4⟩ := getF X2 hx hZ hown (host := "") (Or.inl (hw _ (List.mem_of_getElem? (i := 12) rfl))) Via.refl e2 F_maximum (g := (mkF m 23 #[.val (.ref x0)] [(.ref x0)])) rfl rfl (hb hby own_d3_23)
    refine own_via (T' := T4) (g' := (mkF m 26 #[.val (.ref x0)] [(.long mx)])) st4 ?_
    refine own_via (T' := T4) (g' := (mkF m 27 #[.val (.ref x0)] [(.ref x0), (.long mx)])) (fun t k => XS.aloadN X4.here hx rfl (hb hby own_d3_26) rfl rfl k) ?_
    obtain ⟨T5, X5, e5, st5⟩ := getF X4 hx hZ hown (host := "") (Or.inl (hw _ (List.mem_of_getElem? (i := 10) rfl))) Via.refl e4 F_increment (g := (mkF m 27 #[.val (.ref x0)] [(.ref x0), (.long mx)])) rfl rfl (hb hby own_d3_27)
    refine own_via (T' := T5) (g' := (mkF m 30 #[.val (.ref x0)] [(.long inc), (.long mx)])) st5 ?_
    refine own_via (T' := T5) (g' := (mkF m 31 #[.val (.ref x0)] [(.long (mx + inc))])) (fun t k => XS.ladd X5.here hx rfl (hb hby own_d3_30) rfl k) ?_
    refine own_retJ X5 hx hlk hret (hb hby own_d3_31) (by decide) (by decide) ?_
    exact ⟨by rw [own_past, if_neg hc3] <;> rfl, e5, rfl⟩
theorem own_pn1 : plainName "com/example/surrogate/surrogate/SequenceDefinitionPastTheEndPinLaw" = true := by first | (simp [plainName, overriddenIn]; done) | decide +kernel
theorem own_pd0 : parseMethodDescriptor "(JJZ)V" = some ⟨[.long, .long, .boolean], none⟩ := by decide +kernel
theorem own_pd1 : parseMethodDescriptor "()J" = some ⟨[], some .long⟩ := by decide +kernel
def own_f0 (x0 : Int64) (x1 : Int64) (x2 : Int32) : Int32 := (if (x0 &&& (9223372036854775807 : Int64)) = (0 : Int64) then (1 : Int32) else (if (x2 &&& (1 : Int32)) = (0 : Int32) then (if (x1 + (x0 &&& (9223372036854775807 : Int64))) < x1 then (if (own_past (x0 &&& (9223372036854775807 : Int64)) x1) = (9223372036854775807 : Int64) then (1 : Int32) else (0 : Int32)) else (if (own_past (x0 &&& (9223372036854775807 : Int64)) x1) = (x1 + (x0 &&& (9223372036854775807 : Int64))) then (1 : Int32) else (0 : Int32))) else (if (x1 + (x0 &&& (9223372036854775807 : Int64))) < x1 then (if (own_past (x0 &&& (9223372036854775807 : Int64)) x1) = (9223372036854775807 : Int64) then (1 : Int32) else (0 : Int32)) else (if (own_past (x0 &&& (9223372036854775807 : Int64)) x1) = (x1 + (x0 &&& (9223372036854775807 : Int64))) then (1 : Int32) else (0 : Int32)))))
theorem own_mt0_ef (m : MethodId) (x0 : Int64) (x1 : Int64) (x2 : Int32) : entryFrame m #[(.long x0), (.long x1), (.int x2)] maxLocals = mkF m 0 #[.val (.long x0), .second, .val (.long x1), .second, .val (.int x2), .unset, .unset, .unset, .unset, .unset, .unset, .unset, .unset, .unset] [] := by first | rfl | (simp [entryFrame, mkF, argsToLocals, Value.category]; done)
set_option maxRecDepth 65536 in
set_option maxHeartbeats 40000000 in
theorem own_mt0 (l : Launch) (Z : State) (a0 : Array Value) (hw : ∀ d ∈ tables_1, d.before a0 Z = true) (x0 : Int64) (x1 : Int64) (x2 : Int32) (h0 : Heap) (n0 : Nat) (Z0 : n0 ≤ h0.size) :
    own_Met l Z x code maxLocals ret room_1 #[(.long x0), (.long x1), (.int x2)] h0 (fun v h L => v = some (.int (own_f0 x0 x1 x2)) ∧ Fr n0 L) := by
  refine own_intro (plainFor_of_name own_pn1) ?_
  intro p e s m below meth c s₁ hx hby hml hown hnm hZ hret hlk X0 e0
  refine own_cast (own_mt0_ef m x0 x1 x2) ?_
  have N0 := Fr.nil n0
  refine own_via (T' := s₁) (g' := (mkF m 1 #[.val (.long x0), .second, .val (.long x1), .second, .val (.int x2), .unset, .unset, .unset, .unset, .unset, .unset, .unset, .unset, .unset] [(.long x0)])) (fun t k => XS.lloadN X0.here hx rfl (hb hby at_0) rfl k) ?_
  refine own_via (T' := s₁) (g' := (mkF m 4 #[.val (.long x0), .second, .val (.long x1), .second, .val (.int x2), .unset, .unset, .unset, .unset, .unset, .unset, .unset, .unset, .unset] [(.long (9223372036854775807 : Int64)), (.long x0)])) (X0.ldc2Long hx hown (mvT hZ (hw _ (List.mem_of_getElem? (i := 0) rfl))) (g := (mkF m 1 #[.val (.long x0), .second, .val (.long x1), .second, .val (.int x2), .unset, .unset, .unset, .unset, .unset, .unset, .unset, .unset, .unset] [(.long x0)])) rfl (hb hby at_1)) ?_
  refine own_via (T' := s₁) (g' := (mkF m 11 #[.val (.long x0), .second, .val (.long x1), .second, .val (.int x2), .val (.long (x0 &&& (9223372036854775807 : Int64))), .second, .unset, .unset, .unset, .unset, .unset, .unset, .unset] [(.int (lcmpW (x0 &&& (9223372036854775807 : Int64)) (0 : Int64)))])) (fun t k => XS.land X0.here hx rfl (hb hby at_4) rfl (XS.lstore X0.here hx rfl (hb hby at_5) rfl (l' := #[.val (.long x0), .second, .val (.long x1), .second, .val (.int x2), .val (.long (x0 &&& (9223372036854775807 : Int64))), .second, .unset, .unset, .unset, .unset, .unset, .unset, .unset]) rfl (XS.lload X0.here hx rfl (hb hby at_7) rfl (XS.lconst X0.here hx rfl (hb hby at_9) (XS.lcmp X0.here hx rfl (hb hby at_10) rfl k))))) ?_
  by_cases hc1 : (x0 &&& (9223372036854775807 : Int64)) = (0 : Int64)
  · refine own_via (T' := s₁) (g' := (mkF m 15 #[.val (.long x0), .second, .val (.long x1), .second, .val (.int x2), .val (.long (x0 &&& (9223372036854775807 : Int64))), .second, .unset, .unset, .unset, .unset, .unset, .unset, .unset] [(.int (1 : Int32))])) (fun t k => XS.ifNo X0.here hx rfl (hb hby at_11) rfl ((if0 _ _).trans (teq ((lw_eq (x0 &&& (9223372036854775807 : Int64)) (0 : Int64)).mpr hc1)).2) (XS.iconst X0.here hx rfl (hb hby at_14) k)) ?_
    refine own_retN X0 hx hlk (ty := .boolean) hret (by simp) (hb hby at_15) (by decide) (by decide) ?_
    exact ⟨by rw [own_f0, if_pos hc1] <;> rfl, N0⟩
  · refine own_via (T' := s₁) (g' := (mkF m 16 #[.val (.long x0), .second, .val (.long x1), .second, .val (.int x2), .val (.long (x0 &&& (9223372036854775807 : Int64))), .second, .unset, .unset, .unset, .unset, .unset, .unset, .unset] [])) (fun t k => XS.ifYes X0.here hx rfl (pc0 := 11) (pc' := 16) rfl (hb hby at_11) rfl ((if0 _ _).trans (feq (fun q => hc1 ((lw_eq (x0 &&& (9223372036854775807 : Int64)) (0 : Int64)).mp q))).2) (by decide) (by decide) k) ?_
    obtain ⟨T2, h2, X2, e2, E2, A2, D2, -, st2⟩ := newO X0 hx hZ hown (hw _ (List.mem_of_getElem? (i := 1) rfl)) (hw _ (List.mem_of_getElem? (i := 2) rfl)) (hw _ (List.mem_of_getElem? (i := 3) rfl)) e0 (g := (mkF m 16 #[.val (.long x0), .second, .val (.long x1), .second, .val (.int x2), .val (.long (x0 &&& (9223372036854775807 : Int64))), .second, .unset, .unset, .unset, .unset, .unset, .unset, .unset] [])) rfl (hb hby at_16) (by decide) (by decide)
    obtain ⟨b2, g2⟩ : ∃ z, z = h0.size := ⟨_, rfl⟩
    rw [← g2] at A2 D2 st2
    have bd_b2 : h0.size ≤ b2 := Nat.le_of_eq g2.symm
    have ge_b2 : n0 ≤ b2 := Nat.le_trans Z0 bd_b2
    have Z2 : n0 ≤ h2.size := Nat.le_trans Z0 E2.1
    have Fincrement_2 : Fld Z h2 b2 "com/example/surrogate/surrogate/SequenceDefinition" "increment" "J" (.long (0 : Int64)) := D2 (Or.inr (hw _ (List.mem_of_getElem? (i := 11) rfl))) (ty := .long) (by decide)
    have Fmaximum_2 : Fld Z h2 b2 "com/example/surrogate/surrogate/SequenceDefinition" "maximum" "J" (.long (0 : Int64)) := D2 (Or.inr (hw _ (List.mem_of_getElem? (i := 13) rfl))) (ty := .long) (by decide)
    have Fcycles_2 : Fld Z h2 b2 "com/example/surrogate/surrogate/SequenceDefinition" "cycles" "Z" (.int (0 : Int32)) := D2 (Or.inr (hw _ (List.mem_of_getElem? (i := 15) rfl))) (ty := .boolean) (by decide)
    refine own_via (T' := T2) (g' := (mkF m 19 #[.val (.long x0), .second, .val (.long x1), .second, .val (.int x2), .val (.long (x0 &&& (9223372036854775807 : Int64))), .second, .unset, .unset, .unset, .unset, .unset, .unset, .unset] [(.ref b2)])) st2 ?_
    refine own_via (T' := T2) (g' := (mkF m 27 #[.val (.long x0), .second, .val (.long x1), .second, .val (.int x2), .val (.long (x0 &&& (9223372036854775807 : Int64))), .second, .unset, .unset, .unset, .unset, .unset, .unset, .unset] [(.int (x2 &&& (1 : Int32))), (.long x1), (.long (x0 &&& (9223372036854775807 : Int64))), (.ref b2), (.ref b2)])) (fun t k => XS.dup X2.here hx rfl (hb hby at_19) rfl rfl (XS.lload X2.here hx rfl (hb hby at_20) rfl (XS.lloadN X2.here hx rfl (hb hby at_22) rfl (XS.iload X2.here hx rfl (hb hby at_23) rfl (XS.iconst X2.here hx rfl (hb hby at_25) (XS.iand X2.here hx rfl (hb hby at_26) rfl k)))))) ?_
    by_cases hc3 : (x2 &&& (1 : Int32)) = (0 : Int32)
    · refine own_via (T' := T2) (g' := (mkF m 35 #[.val (.long x0), .second, .val (.long x1), .second, .val (.int x2), .val (.long (x0 &&& (9223372036854775807 : Int64))), .second, .unset, .unset, .unset, .unset, .unset, .unset, .unset] [(.int (0 : Int32)), (.long x1), (.long (x0 &&& (9223372036854775807 : Int64))), (.ref b2), (.ref b2)])) (fun t k => XS.ifYes X2.here hx rfl (pc0 := 27) (pc' := 34) rfl (hb hby at_27) rfl ((if0 _ _).trans (teq hc3).1) (by decide) (by decide) (XS.iconst X2.here hx rfl (hb hby at_34) k)) ?_
      obtain ⟨v4, T4, L4, X4, hQ4, st4⟩ := own_callSp (y := (⟨"com/example/surrogate/surrogate/SequenceDefinition", "<init>", "(JJZ)V"⟩ : MethodName)) (a := b2) (argsL := [(.long (x0 &&& (9223372036854775807 : Int64))), (.long x1), (.int (0 : Int32))]) (rest := [(.ref b2)]) X2 hx hZ hown rfl (hw _ (List.mem_of_getElem? (i := 4) rfl)) (hw _ (List.mem_of_getElem? (i := 5) rfl)) (hw _ (List.mem_of_getElem? (i := 3) rfl)) (hw _ (List.mem_of_getElem? (i := 6) rfl)) (by decide) (own_mt1 l Z a0 hw b2 (x0 &&& (9223372036854775807 : Int64)) x1 (0 : Int32) h2 n0 Z2 ge_b2 A2 Fincrement_2 Fmaximum_2 Fcycles_2) e2 (W := 1) (by decide) (by decide) (g := (mkF m 35 #[.val (.long x0), .second, .val (.long x1), .second, .val (.int x2), .val (.long (x0 &&& (9223372036854775807 : Int64))), .second, .unset, .unset, .unset, .unset, .unset, .unset, .unset] [(.int (0 : Int32)), (.long x1), (.long (x0 &&& (9223372036854775807 : Int64))), (.ref b2), (.ref b2)])) rfl (by rw [hml]; rfl) (lenOf own_pd0 rfl) rfl (by show 2 * 0 + _ ≤ _; exact Nat.le_of_eq rfl) (hb hby at_35) (by decide) (by decide)
      obtain ⟨rfl, Nq4, K4q, G4_0, G4_1, G4_2⟩ := hQ4
      have N4 := Fr.app N0 Nq4
      have Z4 : n0 ≤ T4.heap.size := Nat.le_trans Z2 K4q.1
      have A2_at5 := A2.keep K4q
      refine own_via (T' := T4) (g' := (mkF m 38 #[.val (.long x0), .second, .val (.long x1), .second, .val (.int x2), .val (.long (x0 &&& (9223372036854775807 : Int64))), .second, .unset, .unset, .unset, .unset, .unset, .unset, .unset] [(.ref b2)])) st4 ?_
      refine own_via (T' := T4) (g' := (mkF m 42 #[.val (.long x0), .second, .val (.long x1), .second, .val (.int x2), .val (.long (x0 &&& (9223372036854775807 : Int64))), .second, .val (.ref b2), .unset, .unset, .unset, .unset, .unset, .unset] [(.ref b2)])) (fun t k => XS.astore X4.here hx rfl (hb hby at_38) rfl rfl (l' := #[.val (.long x0), .second, .val (.long x1), .second, .val (.int x2), .val (.long (x0 &&& (9223372036854775807 : Int64))), .second, .val (.ref b2), .unset, .unset, .unset, .unset, .unset, .unset]) rfl (XS.aload X4.here hx rfl (hb hby at_40) rfl rfl k)) ?_
      obtain ⟨v6, T6, L6, X6, hQ6, st6⟩ := own_callVi (y := (⟨"com/example/surrogate/surrogate/SequenceDefinition", "pastTheEnd", "()J"⟩ : MethodName)) (z := (⟨"com/example/surrogate/surrogate/SequenceDefinition", "pastTheEnd", "()J"⟩ : MethodName)) (a := b2) (C := "com/example/surrogate/surrogate/SequenceDefinition") (argsL := []) (rest := []) X4 hx hZ hown (hw _ (List.mem_of_getElem? (i := 16) rfl)) (hw _ (List.mem_of_getElem? (i := 17) rfl)) (notFace_of_selects (args := #[]) (mvT hZ (hw _ (List.mem_of_getElem? (i := 19) rfl)))) (hw _ (List.mem_of_getElem? (i := 19) rfl)) (hw _ (List.mem_of_getElem? (i := 18) rfl)) (hw _ (List.mem_of_getElem? (i := 3) rfl)) (hw _ (List.mem_of_getElem? (i := 20) rfl)) (by decide) G4_0 (own_mt3 l Z a0 hw b2 (x0 &&& (9223372036854775807 : Int64)) x1 T4.heap G4_1 G4_2) rfl (W := 0) (by decide) (by decide) (g := (mkF m 42 #[.val (.long x0), .second, .val (.long x1), .second, .val (.int x2), .val (.long (x0 &&& (9223372036854775807 : Int64))), .second, .val (.ref b2), .unset, .unset, .unset, .unset, .unset, .unset] [(.ref b2)])) rfl (by rw [hml]; rfl) (lenOf own_pd1 rfl) rfl (by show 2 * 0 + _ ≤ _; exact Nat.le_of_eq rfl) (hb hby at_42) (by decide) (by decide)
      obtain ⟨rfl, e6, rfl⟩ := hQ6
      have N6 := Fr.app N4 (Fr.nil n0)
      refine own_via (T' := T6) (g' := (mkF m 45 #[.val (.long x0), .second, .val (.long x1), .second, .val (.int x2), .val (.long (x0 &&& (9223372036854775807 : Int64))), .second, .val (.ref b2), .unset, .unset, .unset, .unset, .unset, .unset] [(.long (own_past (x0 &&& (9223372036854775807 : Int64)) x1))])) st6 ?_
      refine own_via (T' := T6) (g' := (mkF m 57 #[.val (.long x0), .second, .val (.long x1), .second, .val (.int x2), .val (.long (x0 &&& (9223372036854775807 : Int64))), .second, .val (.ref b2), .val (.long (own_past (x0 &&& (9223372036854775807 : Int64)) x1)), .second, .val (.long (x1 + (x0 &&& (9223372036854775807 : Int64)))), .second, .unset, .unset] [(.int (lcmpW (x1 + (x0 &&& (9223372036854775807 : Int64))) x1))])) (fun t k => XS.lstore X6.here hx rfl (hb hby at_45) rfl (l' := #[.val (.long x0), .second, .val (.long x1), .second, .val (.int x2), .val (.long (x0 &&& (9223372036854775807 : Int64))), .second, .val (.ref b2), .val (.long (own_past (x0 &&& (9223372036854775807 : Int64)) x1)), .second, .unset, .unset, .unset, .unset]) rfl (XS.lloadN X6.here hx rfl (hb hby at_47) rfl (XS.lload X6.here hx rfl (hb hby at_48) rfl (XS.ladd X6.here hx rfl (hb hby at_50) rfl (XS.lstore X6.here hx rfl (hb hby at_51) rfl (l' := #[.val (.long x0), .second, .val (.long x1), .second, .val (.int x2), .val (.long (x0 &&& (9223372036854775807 : Int64))), .second, .val (.ref b2), .val (.long (own_past (x0 &&& (9223372036854775807 : Int64)) x1)), .second, .val (.long (x1 + (x0 &&& (9223372036854775807 : Int64)))), .second, .unset, .unset]) rfl (XS.lload X6.here hx rfl (hb hby at_53) rfl (XS.lloadN X6.here hx rfl (hb hby at_55) rfl (XS.lcmp X6.here hx rfl (hb hby at_56) rfl k)))))))) ?_
      by_cases hc7 : (x1 + (x0 &&& (9223372036854775807 : Int64))) < x1
      · refine own_via (T' := T6) (g' := (mkF m 60 #[.val (.long x0), .second, .val (.long x1), .second, .val (.int x2), .val (.long (x0 &&& (9223372036854775807 : Int64))), .second, .val (.ref b2), .val (.long (own_past (x0 &&& (9223372036854775807 : Int64)) x1)), .second, .val (.long (x1 + (x0 &&& (9223372036854775807 : Int64)))), .second, .unset, .unset] [])) (fun t k => XS.ifNo X6.here hx rfl (hb hby at_57) rfl ((if0 _ _).trans (tlt ((lw_lt (x1 + (x0 &&& (9223372036854775807 : Int64))) x1).mpr hc7)).2.1) k) ?_
        refine own_via (T' := T6) (g' := (mkF m 63 #[.val (.long x0), .second, .val (.long x1), .second, .val (.int x2), .val (.long (x0 &&& (9223372036854775807 : Int64))), .second, .val (.ref b2), .val (.long (own_past (x0 &&& (9223372036854775807 : Int64)) x1)), .second, .val (.long (x1 + (x0 &&& (9223372036854775807 : Int64)))), .second, .unset, .unset] [(.long (9223372036854775807 : Int64))])) (X6.ldc2Long hx hown (mvT hZ (hw _ (List.mem_of_getElem? (i := 0) rfl))) (g := (mkF m 60 #[.val (.long x0), .second, .val (.long x1), .second, .val (.int x2), .val (.long (x0 &&& (9223372036854775807 : Int64))), .second, .val (.ref b2), .val (.long (own_past (x0 &&& (9223372036854775807 : Int64)) x1)), .second, .val (.long (x1 + (x0 &&& (9223372036854775807 : Int64)))), .second, .unset, .unset] [])) rfl (hb hby at_60)) ?_
        refine own_via (T' := T6) (g' := (mkF m 75 #[.val (.long x0), .second, .val (.long x1), .second, .val (.int x2), .val (.long (x0 &&& (9223372036854775807 : Int64))), .second, .val (.ref b2), .val (.long (own_past (x0 &&& (9223372036854775807 : Int64)) x1)), .second, .val (.long (x1 + (x0 &&& (9223372036854775807 : Int64)))), .second, .val (.long (9223372036854775807 : Int64)), .second] [(.int (lcmpW (own_past (x0 &&& (9223372036854775807 : Int64)) x1) (9223372036854775807 : Int64)))])) (fun t k => XS.goto X6.here hx rfl (pc0 := 63) (pc' := 68) rfl (hb hby at_63) (by decide) (by decide) (XS.lstore X6.here hx rfl (hb hby at_68) rfl (l' := #[.val (.long x0), .second, .val (.long x1), .second, .val (.int x2), .val (.long (x0 &&& (9223372036854775807 : Int64))), .second, .val (.ref b2), .val (.long (own_past (x0 &&& (9223372036854775807 : Int64)) x1)), .second, .val (.long (x1 + (x0 &&& (9223372036854775807 : Int64)))), .second, .val (.long (9223372036854775807 : Int64)), .second]) rfl (XS.lload X6.here hx rfl (hb hby at_70) rfl (XS.lload X6.here hx rfl (hb hby at_72) rfl (XS.lcmp X6.here hx rfl (hb hby at_74) rfl k))))) ?_
        by_cases hc8 : (own_past (x0 &&& (9223372036854775807 : Int64)) x1) = (9223372036854775807 : Int64)
        · refine own_via (T' := T6) (g' := (mkF m 83 #[.val (.long x0), .second, .val (.long x1), .second, .val (.int x2), .val (.long (x0 &&& (9223372036854775807 : Int64))), .second, .val (.ref b2), .val (.long (own_past (x0 &&& (9223372036854775807 : Int64)) x1)), .second, .val (.long (x1 + (x0 &&& (9223372036854775807 : Int64)))), .second, .val (.long (9223372036854775807 : Int64)), .second] [(.int (1 : Int32))])) (fun t k => XS.ifNo X6.here hx rfl (hb hby at_75) rfl ((if0 _ _).trans (teq ((lw_eq (own_past (x0 &&& (9223372036854775807 : Int64)) x1) (9223372036854775807 : Int64)).mpr hc8)).2) (XS.iconst X6.here hx rfl (hb hby at_78) (XS.goto X6.here hx rfl (pc0 := 79) (pc' := 83) rfl (hb hby at_79) (by decide) (by decide) k))) ?_
          refine own_retN X6 hx hlk (ty := .boolean) hret (by simp) (hb hby at_83) (by decide) (by decide) ?_
          exact ⟨by rw [own_f0, if_neg hc1, if_pos hc3, if_pos hc7, if_pos hc8] <;> rfl, N6⟩
        · refine own_via (T' := T6) (g' := (mkF m 83 #[.val (.long x0), .second, .val (.long x1), .second, .val (.int x2), .val (.long (x0 &&& (9223372036854775807 : Int64))), .second, .val (.ref b2), .val (.long (own_past (x0 &&& (9223372036854775807 : Int64)) x1)), .second, .val (.long (x1 + (x0 &&& (9223372036854775807 : Int64)))), .second, .val (.long (9223372036854775807 : Int64)), .second] [(.int (0 : Int32))])) (fun t k => XS.ifYes X6.here hx rfl (pc0 := 75) (pc' := 82) rfl (hb hby at_75) rfl ((if0 _ _).trans (feq (fun q => hc8 ((lw_eq (own_past (x0 &&& (9223372036854775807 : Int64)) x1) (9223372036854775807 : Int64)).mp q))).2) (by decide) (by decide) (XS.iconst X6.here hx rfl (hb hby at_82) k)) ?_
          refine own_retN X6 hx hlk (ty := .boolean) hret (by simp) (hb hby at_83) (by decide) (by decide) ?_
          exact ⟨by rw [own_f0, if_neg hc1, if_pos hc3, if_pos hc7, if_neg hc8] <;> rfl, N6⟩
      · refine own_via (T' := T6) (g' := (mkF m 75 #[.val (.long x0), .second, .val (.long x1), .second, .val (.int x2), .val (.long (x0 &&& (9223372036854775807 : Int64))), .second, .val (.ref b2), .val (.long (own_past (x0 &&& (9223372036854775807 : Int64)) x1)), .second, .val (.long (x1 + (x0 &&& (9223372036854775807 : Int64)))), .second, .val (.long (x1 + (x0 &&& (9223372036854775807 : Int64)))), .second] [(.int (lcmpW (own_past (x0 &&& (9223372036854775807 : Int64)) x1) (x1 + (x0 &&& (9223372036854775807 : Int64)))))])) (fun t k => XS.ifYes X6.here hx rfl (pc0 := 57) (pc' := 66) rfl (hb hby at_57) rfl ((if0 _ _).trans (flt (fun q => hc7 ((lw_lt (x1 + (x0 &&& (9223372036854775807 : Int64))) x1).mp q))).2.1) (by decide) (by decide) (XS.lload X6.here hx rfl (hb hby at_66) rfl (XS.lstore X6.here hx rfl (hb hby at_68) rfl (l' := #[.val (.long x0), .second, .val (.long x1), .second, .val (.int x2), .val (.long (x0 &&& (9223372036854775807 : Int64))), .second, .val (.ref b2), .val (.long (own_past (x0 &&& (9223372036854775807 : Int64)) x1)), .second, .val (.long (x1 + (x0 &&& (9223372036854775807 : Int64)))), .second, .val (.long (x1 + (x0 &&& (9223372036854775807 : Int64)))), .second]) rfl (XS.lload X6.here hx rfl (hb hby at_70) rfl (XS.lload X6.here hx rfl (hb hby at_72) rfl (XS.lcmp X6.here hx rfl (hb hby at_74) rfl k)))))) ?_
        by_cases hc9 : (own_past (x0 &&& (9223372036854775807 : Int64)) x1) = (x1 + (x0 &&& (9223372036854775807 : Int64)))
        · refine own_via (T' := T6) (g' := (mkF m 83 #[.val (.long x0), .second, .val (.long x1), .second, .val (.int x2), .val (.long (x0 &&& (9223372036854775807 : Int64))), .second, .val (.ref b2), .val (.long (own_past (x0 &&& (9223372036854775807 : Int64)) x1)), .second, .val (.long (x1 + (x0 &&& (9223372036854775807 : Int64)))), .second, .val (.long (x1 + (x0 &&& (9223372036854775807 : Int64)))), .second] [(.int (1 : Int32))])) (fun t k => XS.ifNo X6.here hx rfl (hb hby at_75) rfl ((if0 _ _).trans (teq ((lw_eq (own_past (x0 &&& (9223372036854775807 : Int64)) x1) (x1 + (x0 &&& (9223372036854775807 : Int64)))).mpr hc9)).2) (XS.iconst X6.here hx rfl (hb hby at_78) (XS.goto X6.here hx rfl (pc0 := 79) (pc' := 83) rfl (hb hby at_79) (by decide) (by decide) k))) ?_
          refine own_retN X6 hx hlk (ty := .boolean) hret (by simp) (hb hby at_83) (by decide) (by decide) ?_
          exact ⟨by rw [own_f0, if_neg hc1, if_pos hc3, if_neg hc7, if_pos hc9] <;> rfl, N6⟩
        · refine own_via (T' := T6) (g' := (mkF m 83 #[.val (.long x0), .second, .val (.long x1), .second, .val (.int x2), .val (.long (x0 &&& (9223372036854775807 : Int64))), .second, .val (.ref b2), .val (.long (own_past (x0 &&& (9223372036854775807 : Int64)) x1)), .second, .val (.long (x1 + (x0 &&& (9223372036854775807 : Int64)))), .second, .val (.long (x1 + (x0 &&& (9223372036854775807 : Int64)))), .second] [(.int (0 : Int32))])) (fun t k => XS.ifYes X6.here hx rfl (pc0 := 75) (pc' := 82) rfl (hb hby at_75) rfl ((if0 _ _).trans (feq (fun q => hc9 ((lw_eq (own_past (x0 &&& (9223372036854775807 : Int64)) x1) (x1 + (x0 &&& (9223372036854775807 : Int64)))).mp q))).2) (by decide) (by decide) (XS.iconst X6.here hx rfl (hb hby at_82) k)) ?_
          refine own_retN X6 hx hlk (ty := .boolean) hret (by simp) (hb hby at_83) (by decide) (by decide) ?_
          exact ⟨by rw [own_f0, if_neg hc1, if_pos hc3, if_neg hc7, if_neg hc9] <;> rfl, N6⟩
    · refine own_via (T' := T2) (g' := (mkF m 35 #[.val (.long x0), .second, .val (.long x1), .second, .val (.int x2), .val (.long (x0 &&& (9223372036854775807 : Int64))), .second, .unset, .unset, .unset, .unset, .unset, .unset, .unset] [(.int (1 : Int32)), (.long x1), (.long (x0 &&& (9223372036854775807 : Int64))), (.ref b2), (.ref b2)])) (fun t k => XS.ifNo X2.here hx rfl (hb hby at_27) rfl ((if0 _ _).trans (feq hc3).1) (XS.iconst X2.here hx rfl (hb hby at_30) (XS.goto X2.here hx rfl (pc0 := 31) (pc' := 35) rfl (hb hby at_31) (by decide) (by decide) k))) ?_
      obtain ⟨v10, T10, L10, X10, hQ10, st10⟩ := own_callSp (y := (⟨"com/example/surrogate/surrogate/SequenceDefinition", "<init>", "(JJZ)V"⟩ : MethodName)) (a := b2) (argsL := [(.long (x0 &&& (9223372036854775807 : Int64))), (.long x1), (.int (1 : Int32))]) (rest := [(.ref b2)]) X2 hx hZ hown rfl (hw _ (List.mem_of_getElem? (i := 4) rfl)) (hw _ (List.mem_of_getElem? (i := 5) rfl)) (hw _ (List.mem_of_getElem? (i := 3) rfl)) (hw _ (List.mem_of_getElem? (i := 6) rfl)) (by decide) (own_mt1 l Z a0 hw b2 (x0 &&& (9223372036854775807 : Int64)) x1 (1 : Int32) h2 n0 Z2 ge_b2 A2 Fincrement_2 Fmaximum_2 Fcycles_2) e2 (W := 1) (by decide) (by decide) (g := (mkF m 35 #[.val (.long x0), .second, .val (.long x1), .second, .val (.int x2), .val (.long (x0 &&& (9223372036854775807 : Int64))), .second, .unset, .unset, .unset, .unset, .unset, .unset, .unset] [(.int (1 : Int32)), (.long x1), (.long (x0 &&& (9223372036854775807 : Int64))), (.ref b2), (.ref b2)])) rfl (by rw [hml]; rfl) (lenOf own_pd0 rfl) rfl (by show 2 * 0 + _ ≤ _; exact Nat.le_of_eq rfl) (hb hby at_35) (by decide) (by decide)
      obtain ⟨rfl, Nq10, K10q, G10_0, G10_1, G10_2⟩ := hQ10
      have N10 := Fr.app N0 Nq10
      have Z10 : n0 ≤ T10.heap.size := Nat.le_trans Z2 K10q.1
      have A2_at11 := A2.keep K10q
      refine own_via (T' := T10) (g' := (mkF m 38 #[.val (.long x0), .second, .val (.long x1), .second, .val (.int x2), .val (.long (x0 &&& (9223372036854775807 : Int64))), .second, .unset, .unset, .unset, .unset, .unset, .unset, .unset] [(.ref b2)])) st10 ?_
      refine own_via (T' := T10) (g' := (mkF m 42 #[.val (.long x0), .second, .val (.long x1), .second, .val (.int x2), .val (.long (x0 &&& (9223372036854775807 : Int64))), .second, .val (.ref b2), .unset, .unset, .unset, .unset, .unset, .unset] [(.ref b2)])) (fun t k => XS.astore X10.here hx rfl (hb hby at_38) rfl rfl (l' := #[.val (.long x0), .second, .val (.long x1), .second, .val (.int x2), .val (.long (x0 &&& (9223372036854775807 : Int64))), .second, .val (.ref b2), .unset, .unset, .unset, .unset, .unset, .unset]) rfl (XS.aload X10.here hx rfl (hb hby at_40) rfl rfl k)) ?_
      obtain ⟨v12, T12, L12, X12, hQ12, st12⟩ := own_callVi (y := (⟨"com/example/surrogate/surrogate/SequenceDefinition", "pastTheEnd", "()J"⟩ : MethodName)) (z := (⟨"com/example/surrogate/surrogate/SequenceDefinition", "pastTheEnd", "()J"⟩ : MethodName)) (a := b2) (C := "com/example/surrogate/surrogate/SequenceDefinition") (argsL := []) (rest := []) X10 hx hZ hown (hw _ (List.mem_of_getElem? (i := 16) rfl)) (hw _ (List.mem_of_getElem? (i := 17) rfl)) (notFace_of_selects (args := #[]) (mvT hZ (hw _ (List.mem_of_getElem? (i := 19) rfl)))) (hw _ (List.mem_of_getElem? (i := 19) rfl)) (hw _ (List.mem_of_getElem? (i := 18) rfl)) (hw _ (List.mem_of_getElem? (i := 3) rfl)) (hw _ (List.mem_of_getElem? (i := 20) rfl)) (by decide) G10_0 (own_mt3 l Z a0 hw b2 (x0 &&& (9223372036854775807 : Int64)) x1 T10.heap G10_1 G10_2) rfl (W := 0) (by decide) (by decide) (g := (mkF m 42 #[.val (.long x0), .second, .val (.long x1), .second, .val (.int x2), .val (.long (x0 &&& (9223372036854775807 : Int64))), .second, .val (.ref b2), .unset, .unset, .unset, .unset, .unset, .unset] [(.ref b2)])) rfl (by rw [hml]; rfl) (lenOf own_pd1 rfl) rfl (by show 2 * 0 + _ ≤ _; exact Nat.le_of_eq rfl) (hb hby at_42) (by decide) (by decide)
      obtain ⟨rfl, e12, rfl⟩ := hQ12
      have N12 := Fr.app N10 (Fr.nil n0)
      refine own_via (T' := T12) (g' := (mkF m 45 #[.val (.long x0), .second, .val (.long x1), .second, .val (.int x2), .val (.long (x0 &&& (9223372036854775807 : Int64))), .second, .val (.ref b2), .unset, .unset, .unset, .unset, .unset, .unset] [(.long (own_past (x0 &&& (9223372036854775807 : Int64)) x1))])) st12 ?_
      refine own_via (T' := T12) (g' := (mkF m 57 #[.val (.long x0), .second, .val (.long x1), .second, .val (.int x2), .val (.long (x0 &&& (9223372036854775807 : Int64))), .second, .val (.ref b2), .val (.long (own_past (x0 &&& (9223372036854775807 : Int64)) x1)), .second, .val (.long (x1 + (x0 &&& (9223372036854775807 : Int64)))), .second, .unset, .unset] [(.int (lcmpW (x1 + (x0 &&& (9223372036854775807 : Int64))) x1))])) (fun t k => XS.lstore X12.here hx rfl (hb hby at_45) rfl (l' := #[.val (.long x0), .second, .val (.long x1), .second, .val (.int x2), .val (.long (x0 &&& (9223372036854775807 : Int64))), .second, .val (.ref b2), .val (.long (own_past (x0 &&& (9223372036854775807 : Int64)) x1)), .second, .unset, .unset, .unset, .unset]) rfl (XS.lloadN X12.here hx rfl (hb hby at_47) rfl (XS.lload X12.here hx rfl (hb hby at_48) rfl (XS.ladd X12.here hx rfl (hb hby at_50) rfl (XS.lstore X12.here hx rfl (hb hby at_51) rfl (l' := #[.val (.long x0), .second, .val (.long x1), .second, .val (.int x2), .val (.long (x0 &&& (9223372036854775807 : Int64))), .second, .val (.ref b2), .val (.long (own_past (x0 &&& (9223372036854775807 : Int64)) x1)), .second, .val (.long (x1 + (x0 &&& (9223372036854775807 : Int64)))), .second, .unset, .unset]) rfl (XS.lload X12.here hx rfl (hb hby at_53) rfl (XS.lloadN X12.here hx rfl (hb hby at_55) rfl (XS.lcmp X12.here hx rfl (hb hby at_56) rfl k)))))))) ?_
      by_cases hc13 : (x1 + (x0 &&& (9223372036854775807 : Int64))) < x1
      · refine own_via (T' := T12) (g' := (mkF m 60 #[.val (.long x0), .second, .val (.long x1), .second, .val (.int x2), .val (.long (x0 &&& (9223372036854775807 : Int64))), .second, .val (.ref b2), .val (.long (own_past (x0 &&& (9223372036854775807 : Int64)) x1)), .second, .val (.long (x1 + (x0 &&& (9223372036854775807 : Int64)))), .second, .unset, .unset] [])) (fun t k => XS.ifNo X12.here hx rfl (hb hby at_57) rfl ((if0 _ _).trans (tlt ((lw_lt (x1 + (x0 &&& (9223372036854775807 : Int64))) x1).mpr hc13)).2.1) k) ?_
        refine own_via (T' := T12) (g' := (mkF m 63 #[.val (.long x0), .second, .val (.long x1), .second, .val (.int x2), .val (.long (x0 &&& (9223372036854775807 : Int64))), .second, .val (.ref b2), .val (.long (own_past (x0 &&& (9223372036854775807 : Int64)) x1)), .second, .val (.long (x1 + (x0 &&& (9223372036854775807 : Int64)))), .second, .unset, .unset] [(.long (9223372036854775807 : Int64))])) (X12.ldc2Long hx hown (mvT hZ (hw _ (List.mem_of_getElem? (i := 0) rfl))) (g := (mkF m 60 #[.val (.long x0), .second, .val (.long x1), .second, .val (.int x2), .val (.long (x0 &&& (9223372036854775807 : Int64))), .second, .val (.ref b2), .val (.long (own_past (x0 &&& (9223372036854775807 : Int64)) x1)), .second, .val (.long (x1 + (x0 &&& (9223372036854775807 : Int64)))), .second, .unset, .unset] [])) rfl (hb hby at_60)) ?_
        refine own_via (T' := T12) (g' := (mkF m 75 #[.val (.long x0), .second, .val (.long x1), .second, .val (.int x2), .val (.long (x0 &&& (9223372036854775807 : Int64))), .second, .val (.ref b2), .val (.long (own_past (x0 &&& (9223372036854775807 : Int64)) x1)), .second, .val (.long (x1 + (x0 &&& (9223372036854775807 : Int64)))), .second, .val (.long (9223372036854775807 : Int64)), .second] [(.int (lcmpW (own_past (x0 &&& (9223372036854775807 : Int64)) x1) (9223372036854775807 : Int64)))])) (fun t k => XS.goto X12.here hx rfl (pc0 := 63) (pc' := 68) rfl (hb hby at_63) (by decide) (by decide) (XS.lstore X12.here hx rfl (hb hby at_68) rfl (l' := #[.val (.long x0), .second, .val (.long x1), .second, .val (.int x2), .val (.long (x0 &&& (9223372036854775807 : Int64))), .second, .val (.ref b2), .val (.long (own_past (x0 &&& (9223372036854775807 : Int64)) x1)), .second, .val (.long (x1 + (x0 &&& (9223372036854775807 : Int64)))), .second, .val (.long (9223372036854775807 : Int64)), .second]) rfl (XS.lload X12.here hx rfl (hb hby at_70) rfl (XS.lload X12.here hx rfl (hb hby at_72) rfl (XS.lcmp X12.here hx rfl (hb hby at_74) rfl k))))) ?_
        by_cases hc14 : (own_past (x0 &&& (9223372036854775807 : Int64)) x1) = (9223372036854775807 : Int64)
        · refine own_via (T' := T12) (g' := (mkF m 83 #[.val (.long x0), .second, .val (.long x1), .second, .val (.int x2), .val (.long (x0 &&& (9223372036854775807 : Int64))), .second, .val (.ref b2), .val (.long (own_past (x0 &&& (9223372036854775807 : Int64)) x1)), .second, .val (.long (x1 + (x0 &&& (9223372036854775807 : Int64)))), .second, .val (.long (9223372036854775807 : Int64)), .second] [(.int (1 : Int32))])) (fun t k => XS.ifNo X12.here hx rfl (hb hby at_75) rfl ((if0 _ _).trans (teq ((lw_eq (own_past (x0 &&& (9223372036854775807 : Int64)) x1) (9223372036854775807 : Int64)).mpr hc14)).2) (XS.iconst X12.here hx rfl (hb hby at_78) (XS.goto X12.here hx rfl (pc0 := 79) (pc' := 83) rfl (hb hby at_79) (by decide) (by decide) k))) ?_
          refine own_retN X12 hx hlk (ty := .boolean) hret (by simp) (hb hby at_83) (by decide) (by decide) ?_
          exact ⟨by rw [own_f0, if_neg hc1, if_neg hc3, if_pos hc13, if_pos hc14] <;> rfl, N12⟩
        · refine own_via (T' := T12) (g' := (mkF m 83 #[.val (.long x0), .second, .val (.long x1), .second, .val (.int x2), .val (.long (x0 &&& (9223372036854775807 : Int64))), .second, .val (.ref b2), .val (.long (own_past (x0 &&& (9223372036854775807 : Int64)) x1)), .second, .val (.long (x1 + (x0 &&& (9223372036854775807 : Int64)))), .second, .val (.long (9223372036854775807 : Int64)), .second] [(.int (0 : Int32))])) (fun t k => XS.ifYes X12.here hx rfl (pc0 := 75) (pc' := 82) rfl (hb hby at_75) rfl ((if0 _ _).trans (feq (fun q => hc14 ((lw_eq (own_past (x0 &&& (9223372036854775807 : Int64)) x1) (9223372036854775807 : Int64)).mp q))).2) (by decide) (by decide) (XS.iconst X12.here hx rfl (hb hby at_82) k)) ?_
          refine own_retN X12 hx hlk (ty := .boolean) hret (by simp) (hb hby at_83) (by decide) (by decide) ?_
          exact ⟨by rw [own_f0, if_neg hc1, if_neg hc3, if_pos hc13, if_neg hc14] <;> rfl, N12⟩
      · refine own_via (T' := T12) (g' := (mkF m 75 #[.val (.long x0), .second, .val (.long x1), .second, .val (.int x2), .val (.long (x0 &&& (9223372036854775807 : Int64))), .second, .val (.ref b2), .val (.long (own_past (x0 &&& (9223372036854775807 : Int64)) x1)), .second, .val (.long (x1 + (x0 &&& (9223372036854775807 : Int64)))), .second, .val (.long (x1 + (x0 &&& (9223372036854775807 : Int64)))), .second] [(.int (lcmpW (own_past (x0 &&& (9223372036854775807 : Int64)) x1) (x1 + (x0 &&& (9223372036854775807 : Int64)))))])) (fun t k => XS.ifYes X12.here hx rfl (pc0 := 57) (pc' := 66) rfl (hb hby at_57) rfl ((if0 _ _).trans (flt (fun q => hc13 ((lw_lt (x1 + (x0 &&& (9223372036854775807 : Int64))) x1).mp q))).2.1) (by decide) (by decide) (XS.lload X12.here hx rfl (hb hby at_66) rfl (XS.lstore X12.here hx rfl (hb hby at_68) rfl (l' := #[.val (.long x0), .second, .val (.long x1), .second, .val (.int x2), .val (.long (x0 &&& (9223372036854775807 : Int64))), .second, .val (.ref b2), .val (.long (own_past (x0 &&& (9223372036854775807 : Int64)) x1)), .second, .val (.long (x1 + (x0 &&& (9223372036854775807 : Int64)))), .second, .val (.long (x1 + (x0 &&& (9223372036854775807 : Int64)))), .second]) rfl (XS.lload X12.here hx rfl (hb hby at_70) rfl (XS.lload X12.here hx rfl (hb hby at_72) rfl (XS.lcmp X12.here hx rfl (hb hby at_74) rfl k)))))) ?_
        by_cases hc15 : (own_past (x0 &&& (9223372036854775807 : Int64)) x1) = (x1 + (x0 &&& (9223372036854775807 : Int64)))
        · refine own_via (T' := T12) (g' := (mkF m 83 #[.val (.long x0), .second, .val (.long x1), .second, .val (.int x2), .val (.long (x0 &&& (9223372036854775807 : Int64))), .second, .val (.ref b2), .val (.long (own_past (x0 &&& (9223372036854775807 : Int64)) x1)), .second, .val (.long (x1 + (x0 &&& (9223372036854775807 : Int64)))), .second, .val (.long (x1 + (x0 &&& (9223372036854775807 : Int64)))), .second] [(.int (1 : Int32))])) (fun t k => XS.ifNo X12.here hx rfl (hb hby at_75) rfl ((if0 _ _).trans (teq ((lw_eq (own_past (x0 &&& (9223372036854775807 : Int64)) x1) (x1 + (x0 &&& (9223372036854775807 : Int64)))).mpr hc15)).2) (XS.iconst X12.here hx rfl (hb hby at_78) (XS.goto X12.here hx rfl (pc0 := 79) (pc' := 83) rfl (hb hby at_79) (by decide) (by decide) k))) ?_
          refine own_retN X12 hx hlk (ty := .boolean) hret (by simp) (hb hby at_83) (by decide) (by decide) ?_
          exact ⟨by rw [own_f0, if_neg hc1, if_neg hc3, if_neg hc13, if_pos hc15] <;> rfl, N12⟩
        · refine own_via (T' := T12) (g' := (mkF m 83 #[.val (.long x0), .second, .val (.long x1), .second, .val (.int x2), .val (.long (x0 &&& (9223372036854775807 : Int64))), .second, .val (.ref b2), .val (.long (own_past (x0 &&& (9223372036854775807 : Int64)) x1)), .second, .val (.long (x1 + (x0 &&& (9223372036854775807 : Int64)))), .second, .val (.long (x1 + (x0 &&& (9223372036854775807 : Int64)))), .second] [(.int (0 : Int32))])) (fun t k => XS.ifYes X12.here hx rfl (pc0 := 75) (pc' := 82) rfl (hb hby at_75) rfl ((if0 _ _).trans (feq (fun q => hc15 ((lw_eq (own_past (x0 &&& (9223372036854775807 : Int64)) x1) (x1 + (x0 &&& (9223372036854775807 : Int64)))).mp q))).2) (by decide) (by decide) (XS.iconst X12.here hx rfl (hb hby at_82) k)) ?_
          refine own_retN X12 hx hlk (ty := .boolean) hret (by simp) (hb hby at_83) (by decide) (by decide) ?_
          exact ⟨by rw [own_f0, if_neg hc1, if_neg hc3, if_neg hc13, if_neg hc15] <;> rfl, N12⟩
theorem own_law (x0 x1 : Int64) (x2 : Int32) : own_f0 x0 x1 x2 = 1 := by
  have e1 : (x0 &&& (9223372036854775807 : Int64)).toInt = x0.toInt % (2 ^ 63 : Nat) := c_maskL x0 9223372036854775807 63 (by decide) (by decide)
  have k1 : (9223372036854775807 : Int64).toInt = 9223372036854775807 := by decide
  unfold own_f0 own_past
  generalize (x0 &&& (9223372036854775807 : Int64)) = i at *
  have a1 := c_ladd x1 i
  have a2 := rng64 (x1 + i)
  have a3 := c_lsub 9223372036854775807 i
  have a4 := rng64 (9223372036854775807 - i)
  have a5 := rng64 x1
  have a6 := rng64 i
  have a7 : 0 ≤ i.toInt := by omega
  clear e1
  by_cases h0 : i = 0
  · rw [if_pos h0]
  rw [if_neg h0]
  have h1 : i.toInt ≠ 0 := fun q => h0 (Int64.toInt_inj.mp q)
  by_cases h2 : ((9223372036854775807 : Int64) - i) < x1
  · have h3 : (x1 + i) < x1 := by rw [Int64.lt_iff_toInt_lt] at *; omega
    simp [h2, h3]
  · have h3 : ¬ (x1 + i) < x1 := by rw [Int64.lt_iff_toInt_lt] at *; omega
    simp [h2, h3]
set_option maxRecDepth 65536 in
set_option maxHeartbeats 40000000 in
theorem own_comes {Post : Tables → Env → Array Value → State → Outcome → State → Prop} (hpost : ∀ tb e args s v u, (limb_1_1.after args s (.returned v) u = true ∧ limb_1_2.after args s (.returned v) u = true ∧ True) → FrameEnd s (.returned v) u (Jvm.fieldLocs frame_1_writes args s ++ Jvm.arrayLocs frame_1_arrays args s ++ Jvm.staticLocs frame_1_statics s) 16 128 → Post tb e args s (.returned v) u) :
    ArmFor flags0 classFile x code maxLocals ret World_1 tables_1 room_1 Calls_1 rest_1 Pre_1 Post := by
  intro l hfl _ _ p e ha hc hk s m args below hf hA hF happ hP
  obtain ⟨hcalls, hrest, hpre⟩ := hP
  obtain ⟨-, -, -, hnamed, -, -, -, hat⟩ := (Spec.applies_iff hf).mp happ
  obtain ⟨hg, hn⟩ := and_e (Cond.before_iff.mp (show (Jvm.Cond.and given_1 narrow_1).before args s = true from hpre))
  obtain ⟨g1, g2⟩ := and_e hg
  obtain ⟨g3, g4⟩ := and_e g2
  obtain ⟨g5, g6⟩ := and_e g4
  obtain ⟨w0, w1, w2, rfl⟩ : ∃ w0 w1 w2 : Value, args = #[w0, w1, w2] := by
    have hs : args.size = 3 := by simpa [Cond.value, given_1] using g1
    obtain ⟨L⟩ := args
    match L, hs with
    | [w0, w1, w2], _ => exact ⟨w0, w1, w2, rfl⟩
  have hw := fun d (hd : d ∈ tables_1) => atoms_spec (ws := Jvm.Cond.code x code maxLocals ret :: tables_1) hat d (List.mem_cons_of_mem _ hd)
  have hfit : Fit s := fun {y c} hc i hi => by
    obtain ⟨ha, rfl⟩ := Array.getElem?_eq_some_iff.mp hc
    have q := List.all_eq_true.mp ((Array.all_eq_true_iff_forall_mem.mp hF) _ (Array.getElem_mem ha)) i (List.mem_range.mpr hi)
    simpa [Array.getElem?_eq_getElem hi] using q
  obtain ⟨i0, ei0⟩ := isL_v g3
  obtain rfl : w0 = (.long i0) := Option.some.inj ei0
  obtain ⟨i1, ei1⟩ := isL_v g5
  obtain rfl : w1 = (.long i1) := Option.some.inj ei1
  obtain ⟨i2, ei2⟩ := is_v g6
  obtain rfl : w2 = (.int i2) := Option.some.inj ei2
  obtain ⟨n, o, h1, h2, h3, _, L, rfl, ⟨hval, N⟩, hq⟩ := own_mt0 l s _ hw i0 i1 i2 s.heap s.heap.size (Nat.le_refl _) tables_1 p e ha hc hk s m _ below hf ((Spec.applies_iff_loose hf).mp happ).1 ⟨rfl, State.Warmed39.refl s, rfl⟩ trivial
  rw [own_law i0 i1 i2] at hval
  subst hval
  refine ⟨n, _, h1, h2, h3, hpost _ _ _ _ _ _ ⟨Cond.after_iff.mpr rfl, Cond.after_iff.mpr (eq_i res_at (Term.int_eval (1)) rfl), trivial⟩ ⟨hq.1, hq.2.1, (hq.2.2.sift fun y hy => Or.inr (N y hy)).mono (by decide) (by decide)⟩⟩
theorem main_1_1 : Claimed_1_1 := own_comes fun _ _ _ _ _ _ h hF => ⟨h.1, hF⟩
theorem main_1_2 : Claimed_1_2 := own_comes fun _ _ _ _ _ _ h hF => ⟨h.2.1, hF⟩
end Jvm.Pilot.@@N@@
namespace Jvm.Pilot.@@N@@
open Jvm Jvm.ClassFile Sem Op Lib Jvm.Free Jvm.Stand Jvm.Pilot.@@N@@.Jvm.D
/-! MADE BY PROGRAM (witnessworld.py) out of the Statement's table words and the real class files: 9 classes; the members and pool entries that the words name. The judged class is class 1, her method 1. -/
namespace start1
open Jvm.ClassFile
def u (s : String) : CpInfo := .utf8 (stringToUtf16 s)
/-- a pool by its gaps: so many unusable entries, then the entry; so many at the end -/
def gap : Nat → List CpInfo → List CpInfo
  | 0, r => r
  | n + 1, r => .unusable :: gap n r
def poolList (es : List (Nat × CpInfo)) (last : Nat) : List CpInfo := es.foldr (fun e r => gap e.1 (e.2 :: r)) (gap last [])
def pool (es : List (Nat × CpInfo)) (last : Nat) : Array CpInfo := ⟨poolList es last⟩
def fileOf (pool : Array CpInfo) (this : Nat) (attrs : Array Attribute := #[]) (ms : Array MethodInfo := #[]) (fl : Nat := 33) (sup : Nat := 0) (ifs : Array Nat := #[]) (fds : Array FieldInfo := #[]) : ClassFile where
  minorVersion := 0
  majorVersion := 65
  constantPool := pool
  accessFlags := fl
  thisClass := this
  superClass := sup
  interfaces := ifs
  fields := fds
  methods := ms
  attributes := attrs
def plain (name : String) (sup : Option ClassId) : Class where
  name := name
  kind := .ordinary
  loader := none
  accessFlags := 33
  super := sup
  interfaces := #[]
  cf := none
  fields := #[]
  methods := #[]
  instanceTypes := #[]
  staticTypes := #[]
  resolved := #[]
  callSites := []
  init := .initialized
  statics := none
  mirror := none

def pool0 : Array CpInfo := pool [(5, u "<init>"), (0, u "()V"), (1, .class_ 10), (1, u "java/lang/Object")] 113

def k0c0 : Code := { maxStack := 0, maxLocals := 1, code := object_method_1_code, exceptionTable := #[], attributes := #[] }
def k0m0 : Method := { name := "<init>", desc := "()V", sig := { parameters := [], returnType := none }, accessFlags := 1, code := some k0c0 }
/-- java/lang/Object -/
def k0 : Class := { plain "java/lang/Object" none with
  accessFlags := 33
  interfaces := #[]
  cf := some (fileOf pool0 8 #[] #[{ accessFlags := 1, nameIndex := 5, descriptorIndex := 6, attributes := #[] }] 33 0 #[] #[])
  fields := #[]
  methods := #[k0m0]
  instanceTypes := #[]
  staticTypes := #[]
  resolved := Array.replicate 124 none
  statics := none }

def pool1 : Array CpInfo := pool [(2, .class_ 4), (1, u "java/lang/Object"), (0, u "<init>"), (0, u "()V"), (2, .long 9223372036854775807), (1, .class_ 12), (0, u "com/example/surrogate/surrogate/SequenceDefinition"), (0, .methodref 11 14), (0, .nameAndType 5 15), (0, u "(JJZ)V"), (0, .methodref 11 17), (0, .nameAndType 18 19), (0, u "pastTheEnd"), (0, u "()J"), (0, .class_ 21), (0, u "com/example/surrogate/surrogate/SequenceDefinitionPastTheEndPinLaw"), (2, u "law"), (0, u "(JJI)Z")] 3

def k1m0 : Method := { name := "<init>", desc := "()V", sig := { parameters := [], returnType := none }, accessFlags := 1, code := none }
def k1c1 : Code := { maxStack := 8, maxLocals := 14, code := code, exceptionTable := #[], attributes := #[] }
def k1m1 : Method := { name := "law", desc := "(JJI)Z", sig := { parameters := [.long, .long, .int], returnType := some .boolean }, accessFlags := 9, code := some k1c1 }
/-- com/example/surrogate/surrogate/SequenceDefinitionPastTheEndPinLaw -/
def k1 : Class := { plain "com/example/surrogate/surrogate/SequenceDefinitionPastTheEndPinLaw" (some 0) with
  accessFlags := 49
  interfaces := #[]
  cf := some (fileOf pool1 20 #[] #[{ accessFlags := 1, nameIndex := 5, descriptorIndex := 6, attributes := #[] }, { accessFlags := 9, nameIndex := 24, descriptorIndex := 25, attributes := #[] }] 49 2 #[] #[])
  fields := #[]
  methods := #[k1m0, k1m1]
  instanceTypes := #[]
  staticTypes := #[]
  resolved := Array.replicate 29 none
  statics := none }

def pool2 : Array CpInfo := pool [(1, .methodref 2 3), (0, .class_ 4), (0, .nameAndType 5 6), (0, u "java/lang/Object"), (0, u "<init>"), (0, u "()V"), (0, .fieldref 8 9), (0, .class_ 10), (0, .nameAndType 11 12), (0, u "com/example/surrogate/surrogate/SequenceDefinition"), (0, u "increment"), (0, u "J"), (0, .fieldref 8 14), (0, .nameAndType 15 12), (0, u "maximum"), (0, .fieldref 8 17), (0, .nameAndType 18 19), (0, u "cycles"), (0, u "Z"), (12, u "(JJZ)V"), (44, .long 9223372036854775807), (1, u "CYCLING"), (0, u "Ljava/lang/String;"), (10, u "()J"), (8, u "pastTheEnd")] 17

def k2c0 : Code := { maxStack := 3, maxLocals := 6, code := prog_43_method_1_code, exceptionTable := #[], attributes := #[] }
def k2m0 : Method := { name := "<init>", desc := "(JJZ)V", sig := { parameters := [.long, .long, .boolean], returnType := none }, accessFlags := 0, code := some k2c0 }
def k2c1 : Code := { maxStack := 6, maxLocals := 1, code := prog_43_method_7_code, exceptionTable := #[], attributes := #[] }
def k2m1 : Method := { name := "pastTheEnd", desc := "()J", sig := { parameters := [], returnType := some .long }, accessFlags := 0, code := some k2c1 }
/-- com/example/surrogate/surrogate/SequenceDefinition -/
def k2 : Class := { plain "com/example/surrogate/surrogate/SequenceDefinition" (some 0) with
  accessFlags := 32
  interfaces := #[]
  cf := some (fileOf pool2 8 #[] #[{ accessFlags := 0, nameIndex := 5, descriptorIndex := 32, attributes := #[] }, { accessFlags := 0, nameIndex := 100, descriptorIndex := 91, attributes := #[] }] 32 2 #[] #[{ accessFlags := 26, nameIndex := 79, descriptorIndex := 80, attributes := #[] }, { accessFlags := 18, nameIndex := 11, descriptorIndex := 12, attributes := #[] }, { accessFlags := 18, nameIndex := 15, descriptorIndex := 12, attributes := #[] }, { accessFlags := 18, nameIndex := 18, descriptorIndex := 19, attributes := #[] }])
  fields := #[{ name := "CYCLING", type := (.object "java/lang/String"), accessFlags := 26, slot := 0, constantValue := 0 }, { name := "increment", type := .long, accessFlags := 18, slot := 0, constantValue := 0 }, { name := "maximum", type := .long, accessFlags := 18, slot := 1, constantValue := 0 }, { name := "cycles", type := .boolean, accessFlags := 18, slot := 2, constantValue := 0 }]
  methods := #[k2m0, k2m1]
  instanceTypes := #[.long, .long, .boolean]
  staticTypes := #[(.object "java/lang/String")]
  resolved := Array.replicate 118 none
  statics := none }

def pool3 : Array CpInfo := pool [(1, u "java/lang/Cloneable"), (0, .class_ 1), (0, u "java/lang/Object"), (0, .class_ 3)] 3

/-- java/lang/Cloneable -/
def k3 : Class := { plain "java/lang/Cloneable" (some 0) with
  accessFlags := 1537
  interfaces := #[]
  cf := some (fileOf pool3 2 #[] #[] 1537 4 #[] #[])
  fields := #[]
  methods := #[]
  instanceTypes := #[]
  staticTypes := #[]
  resolved := Array.replicate 8 none
  statics := none }

def pool4 : Array CpInfo := pool [(1, u "java/io/Serializable"), (0, .class_ 1), (0, u "java/lang/Object"), (0, .class_ 3)] 3

/-- java/io/Serializable -/
def k4 : Class := { plain "java/io/Serializable" (some 0) with
  accessFlags := 1537
  interfaces := #[]
  cf := some (fileOf pool4 2 #[] #[] 1537 4 #[] #[])
  fields := #[]
  methods := #[]
  instanceTypes := #[]
  staticTypes := #[]
  resolved := Array.replicate 8 none
  statics := none }

/-- the primitive byte -/
def k5 : Class := { plain "byte" none with kind := .primitive 'B', accessFlags := 0x411 }
/-- [B -/
def k6 : Class := { plain "[B" (some 0) with kind := .array 5 .byte, interfaces := #[3, 4], accessFlags := 1041 }

/-- the primitive int -/
def k7 : Class := { plain "int" none with kind := .primitive 'I', accessFlags := 0x411 }
/-- [I -/
def k8 : Class := { plain "[I" (some 0) with kind := .array 7 .int, interfaces := #[3, 4], accessFlags := 1041 }

def heap : Heap := #[]
def classes : Array Class := #[k0, k1, k2, k3, k4, k5, k6, k7, k8]
def interned : List (Array UInt16 × Addr) := []
def slotsUsed : Nat := 0
def theMethod : MethodId := ⟨1, 1⟩
def args0 : Array Value := #[.long 5, .long 3, .int 1]
def aboutOver (below : List Frame) : State where
  vm := { classes := classes, interned := interned.toArray }
  heap := heap
  slotsUsed := slotsUsed
  threads := #[{ frames := .invoking theMethod args0 :: below }]
def below0 : List Frame := [.native { method := ⟨0, 0⟩, args := #[] }]
def about1 : State := aboutOver below0
def p0 : Program := .bare "" "" ""
def e0 : Env := launch0.env 0 0 0
theorem w_frames : about1.frames = Frame.invoking theMethod args0 :: below0 := rfl
set_option maxRecDepth 65536 in
theorem w_args : argsFit about1.vm theMethod args0 = true := by decide +kernel
set_option maxRecDepth 65536 in
theorem w_heap : heapFits about1 = true := by decide +kernel
set_option maxRecDepth 65536 in
theorem w_runnable : about1.curStatus? = some .runnable := by decide +kernel
set_option maxRecDepth 65536 in
theorem w_alone : about1.alone = true := by decide +kernel
set_option maxRecDepth 65536 in
theorem w_named : about1.methodNamed? x = some theMethod := by decide +kernel
set_option maxRecDepth 65536 in
theorem w_hears : about1.hears theMethod below0 = true := by decide +kernel
set_option maxRecDepth 65536 in
theorem w_ripe : about1.ripe theMethod args0 below0 = true := by decide +kernel
theorem w_running : about1.status = .running := rfl
set_option maxRecDepth 65536 in
theorem w_room : about1.hasRoom e0.platform room_1 = true :=
  launch0.hasRoom_least _ room_1 (by decide +kernel) (by decide +kernel) (by decide +kernel) (by decide +kernel) (by decide +kernel) (by decide +kernel)
theorem allAtoms_all (ts : List Jvm.Cond) (a : Array Jvm.Value) (st : Jvm.State) : (allAtoms ts).before a st = ts.all (fun c => c.before a st) := by
  induction ts with
  | nil => rfl
  | cons c t ih =>
    show (Jvm.Cond.and c (allAtoms t)).before a st = _
    rw [Jvm.Cond.before_and, ih, List.all_cons]
def words1 : List Jvm.Cond := Jvm.Cond.code x code maxLocals ret :: tables_1
/-- a 'code' word, met by the world's own term for the bytes: nothing is compared byte by byte -/
theorem code_word {y : MethodName} {bytes : ByteArray} {mx : Nat} {rt : Option FieldType} {a : Array Value} {s : State} {m : MethodId} {meth : Method} {c : Code} (h1 : s.methodNamed? y = some m) (h2 : s.vm.method? m = some meth) (h3 : meth.code = some c) (h4 : c.code = bytes)
    (h5 : (c.maxLocals == mx && c.exceptionTable.isEmpty && decide (c.maxStack ≤ mostOperands) && decide (meth.sig.returnType = rt) && !meth.locks && decide (parseMethodDescriptor y.desc = some meth.sig)) = true) : (Jvm.Cond.code y bytes mx rt).before a s = true := by
  simp only [Bool.and_eq_true, beq_iff_eq, Bool.not_eq_true', decide_eq_true_eq] at h5
  obtain ⟨⟨⟨⟨⟨g1, g2⟩, g3⟩, g4⟩, g5⟩, g6⟩ := h5
  simp [Cond.before, Cond.holds, Cond.value, h1, h2, h3, h4, g1, g2, g3, g4, g5, g6]
def isCode : Jvm.Cond → Bool
  | .code _ _ _ _ => true
  | _ => false
theorem all_split {L : List Jvm.Cond} {P : Jvm.Cond → Bool} (h1 : L.all (fun c => isCode c || P c) = true) (h2 : ∀ c ∈ L.filter isCode, P c = true) : L.all P = true := by
  refine List.all_eq_true.mpr fun c hc => ?_
  have h := List.all_eq_true.mp h1 c hc
  rcases Bool.eq_false_or_eq_true (isCode c) with hi | hi
  · exact h2 c (List.mem_filter.mpr ⟨hc, hi⟩)
  · simpa [hi] using h
set_option maxRecDepth 65536 in
theorem w_c0 : (Jvm.Cond.code x code maxLocals ret).before args0 about1 = true := code_word (m := ⟨1, 1⟩) (meth := k1m1) (c := k1c1) (by decide +kernel) rfl rfl rfl (by decide +kernel)
set_option maxRecDepth 65536 in
theorem w_c1 : (Jvm.Cond.code ({ cls := "com/example/surrogate/surrogate/SequenceDefinition", name := "<init>", desc := "(JJZ)V" } : Jvm.MethodName) prog_43_method_1_code (6 : Nat) (Option.none : Option Jvm.ClassFile.FieldType)).before args0 about1 = true := code_word (m := ⟨2, 0⟩) (meth := k2m0) (c := k2c0) (by decide +kernel) rfl rfl rfl (by decide +kernel)
set_option maxRecDepth 65536 in
theorem w_c2 : (Jvm.Cond.code ({ cls := "java/lang/Object", name := "<init>", desc := "()V" } : Jvm.MethodName) object_method_1_code (1 : Nat) (Option.none : Option Jvm.ClassFile.FieldType)).before args0 about1 = true := code_word (m := ⟨0, 0⟩) (meth := k0m0) (c := k0c0) (by decide +kernel) rfl rfl rfl (by decide +kernel)
set_option maxRecDepth 65536 in
theorem w_c3 : (Jvm.Cond.code ({ cls := "com/example/surrogate/surrogate/SequenceDefinition", name := "pastTheEnd", desc := "()J" } : Jvm.MethodName) prog_43_method_7_code (1 : Nat) (Option.some Jvm.ClassFile.FieldType.long)).before args0 about1 = true := code_word (m := ⟨2, 1⟩) (meth := k2m1) (c := k2c1) (by decide +kernel) rfl rfl rfl (by decide +kernel)
def codes1 : List Jvm.Cond := [Jvm.Cond.code x code maxLocals ret, Jvm.Cond.code ({ cls := "com/example/surrogate/surrogate/SequenceDefinition", name := "<init>", desc := "(JJZ)V" } : Jvm.MethodName) prog_43_method_1_code (6 : Nat) (Option.none : Option Jvm.ClassFile.FieldType), Jvm.Cond.code ({ cls := "java/lang/Object", name := "<init>", desc := "()V" } : Jvm.MethodName) object_method_1_code (1 : Nat) (Option.none : Option Jvm.ClassFile.FieldType), Jvm.Cond.code ({ cls := "com/example/surrogate/surrogate/SequenceDefinition", name := "pastTheEnd", desc := "()J" } : Jvm.MethodName) prog_43_method_7_code (1 : Nat) (Option.some Jvm.ClassFile.FieldType.long)]
set_option maxRecDepth 65536 in
theorem codes_eq : words1.filter isCode = codes1 := rfl
theorem w_codes : ∀ c ∈ words1.filter isCode, c.before args0 about1 = true := by
  rw [codes_eq]
  intro c hc
  simp only [codes1, List.mem_cons, List.not_mem_nil, or_false] at hc
  rcases hc with rfl | rfl | rfl | rfl
  · exact w_c0
  · exact w_c1
  · exact w_c2
  · exact w_c3
set_option maxRecDepth 65536 in
theorem w_t1 : words1.all (fun c => isCode c || c.before args0 about1) = true := by decide +kernel
theorem w_tables : (allAtoms (Jvm.Cond.code x code maxLocals ret :: tables_1)).before args0 about1 = true := by
  rw [allAtoms_all]
  show words1.all (fun c => c.before args0 about1) = true
  refine all_split ?_ w_codes
  rw [w_t1]
set_option maxRecDepth 65536 in
theorem w_case : (Jvm.Cond.and given_1 narrow_1).before args0 about1 = true := by decide +kernel
theorem w_applies : (headSpec (Jvm.Cond.code x code maxLocals ret :: tables_1) room_1).applies x e0.platform about1 = true :=
  (Spec.applies_iff w_frames).mpr ⟨w_running, w_runnable, w_alone, w_named, w_hears, w_ripe, w_room, w_tables⟩
theorem atStart : AtStart classFile x code maxLocals ret World_1 tables_1 room_1 Calls_1 rest_1 Pre_1 launch0 p0 e0 about1 theMethod args0 below0 :=
  ⟨lists_1, trivial, launch0.admits_env _ _ _, launch0.least_env, fairChoices_fair.cas, fairChoices_fair.clock, w_frames, w_args, w_heap, w_applies, trivial, trivial, w_case⟩
end start1
theorem witness_1 : WitnessClaimed_1 := ⟨start1.p0, start1.e0, start1.about1, start1.theMethod, start1.args0, start1.below0, start1.atStart⟩
end Jvm.Pilot.@@N@@
