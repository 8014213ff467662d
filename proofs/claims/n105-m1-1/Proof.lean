import JvmDerived
import JvmDerived.Pilot.@@N@@Statement
import JvmDerived.Pilot.@@N@@Code
set_option linter.unusedVariables false
set_option linter.unusedSimpArgs false
namespace Jvm.Pilot.@@N@@
open Jvm Jvm.ClassFile Sem Op Lib Jvm.Free Jvm.Stand Jvm.LawKit Jvm.RoadKit Bundle Jvm.Pilot.@@N@@.Jvm.D
/-! my own small kit: a walk by continuation -/
section Own
variable {p : Program} {l : Launch} {e : Env} {R : Room} {s : State} {m : MethodId} {args : Array Value} {below : List Frame} {meth : Method} {c : Code} {T T' : State} {locs : List Loc} {cells slots : Nat} {Z : State} {a0 : Array Value} {h h' h0 : Heap} {g g' : JFrame} {a b : Addr} {ty : FieldType} {vs : List Value} {v w : Value} {sl : Nat} {ws : List Addr}
/-- from the frame g over T the run comes to an end with G -/
def own_Go (p : Program) (e : Env) (below : List Frame) (G : Outcome → State → Prop) (T : State) (g : JFrame) : Prop := ∃ s₂ o, Steps p.tables e below (T.setTop g) s₂ ∧ s₂.status = .running ∧ Ended s₂ below o ∧ G o s₂
def own_End (s : State) (kc ks : Nat) (Q : Option Value → Heap → List Loc → Prop) (o : Outcome) (U' : State) : Prop := ∃ v L, o = .returned v ∧ Q v U'.heap L ∧ FrameEnd s o U' L kc ks
def own_Met (l : Launch) (Z : State) (y : MethodName) (bytes : ByteArray) (maxL : Nat) (ret : Option FieldType) (rm : Room) (as' : Array Value) (h0 : Heap) (Q : Option Value → Heap → List Loc → Prop) : Prop :=
  ∀ ws : List Jvm.Cond, MetFree l y (head1 (Jvm.Cond.code y bytes maxL ret :: ws) rm) (fun a U => a = as' ∧ Z.Warmed39 U.vm ∧ U.heap = h0) (fun _ _ _ _ _ => True) (fun _ U o U' => ∃ v L, o = .returned v ∧ Q v U'.heap L ∧ FrameEnd U o U' L rm.cells rm.slots)
theorem own_via {G : Outcome → State → Prop} (q : ∀ t, Steps p.tables e below (T'.setTop g') t → Steps p.tables e below (T.setTop g) t) (k : own_Go p e below G T' g') : own_Go p e below G T g := by
  obtain ⟨t, o, h1, r⟩ := k; exact ⟨t, o, q t h1, r⟩
theorem own_cast {G : Outcome → State → Prop} (q : g = g') (k : own_Go p e below G T g') : own_Go p e below G T g := q ▸ k
theorem own_intro {y : MethodName} {bytes : ByteArray} {maxL : Nat} {ret : Option FieldType} {rm : Room} {as' : Array Value} {Q : Option Value → Heap → List Loc → Prop} (hp : plainFor y = true)
    (body : ∀ (p : Program) (e : Env) (s : State) (m : MethodId) (below : List Frame) (meth : Method) (c : Code) (s₁ : State), p.tables.exec = Jvm.exec → c.code = bytes → c.maxLocals = maxL → s.vm.findClass y.cls = some m.cls → meth.name = y.name → Z.Warmed39 s.vm → meth.sig.returnType = ret → meth.locks = false → Stand p l e rm s m as' below meth c s₁ [] 0 0 → s₁.heap = h0 → own_Go p e below (own_End s rm.cells rm.slots Q) s₁ (entryFrame m as' maxL)) : own_Met l Z y bytes maxL ret rm as' h0 Q := by
  intro ws
  refine MetFree.of_bodySF hp hisR ?_
  intro p e s m args below meth c s₁ Bd hml hP hK
  obtain ⟨rfl, hZ, hh⟩ := hP
  exact body p e s m below meth c s₁ Bd.exec Bd.bytes hml (findClass_of_methodNamed Bd.named) (name_of_methodNamed Bd.named Bd.method).1 hZ Bd.returns Bd.notSynchronized (Stand.of_body Bd) (by rw [← hh, Bd.state]; rfl)
theorem own_fin {kc ks : Nat} {Q : Option Value → Heap → List Loc → Prop} (X : Stand p l e R s m args below meth c T locs cells slots) (hlk : meth.locks = false) {u : Option Value} (hv : meth.sig.returnType = none → u = none) (hq : Q u T.heap locs) (hc : cells ≤ kc) (hs : slots ≤ ks)
    (st : ∀ fs, (∀ (f : JFrame) (acts : List Action), f.method = m → f.locked = none → f.entered = [] → (doReturn e (T.setTop f) acts u).1 = T.setFrames fs) → Steps p.tables e below (T.setTop g) (T.setFrames fs)) : own_Go p e below (own_End s kc ks Q) T g := by
  obtain ⟨fs, hr, hrun, hended, hW, hsame⟩ := X.leave (v := u) hv hlk
  exact ⟨_, _, st fs hr, hrun, hended, _, _, rfl, hq, ⟨_, rfl⟩, hW, hsame.mono hc hs⟩
theorem own_retI {kc ks : Nat} {Q : Option Value → Heap → List Loc → Prop} (X : Stand p l e R s m args below meth c T locs cells slots) (hx : p.tables.exec = Jvm.exec) (hlk : meth.locks = false) {pc : Nat} {Ls : Array Slot} {z : Int32} {rest : List Value} (hret : meth.sig.returnType = some .int) (hd : decode c.code pc = .ok (.ireturn, 1)) (hc : cells ≤ kc) (hs : slots ≤ ks) (hq : Q (some (.int z)) T.heap locs) : own_Go p e below (own_End s kc ks Q) T (mkF m pc Ls (.int z :: rest)) :=
  own_fin X hlk (fun q => by rw [hret] at q; cases q) hq hc hs fun fs hr => retOut X hx hret rfl (Or.inl ⟨rfl, Or.inl rfl, _, rfl⟩) hd hr
theorem own_retJ {kc ks : Nat} {Q : Option Value → Heap → List Loc → Prop} (X : Stand p l e R s m args below meth c T locs cells slots) (hx : p.tables.exec = Jvm.exec) (hlk : meth.locks = false) {pc : Nat} {Ls : Array Slot} {z : Int64} {rest : List Value} (hret : meth.sig.returnType = some .long) (hd : decode c.code pc = .ok (.lreturn, 1)) (hc : cells ≤ kc) (hs : slots ≤ ks) (hq : Q (some (.long z)) T.heap locs) : own_Go p e below (own_End s kc ks Q) T (mkF m pc Ls (.long z :: rest)) :=
  own_fin X hlk (fun q => by rw [hret] at q; cases q) hq hc hs fun fs hr => retOut X hx hret rfl (Or.inr (Or.inl ⟨rfl, rfl, _, rfl⟩)) hd hr
theorem own_retA {kc ks : Nat} {Q : Option Value → Heap → List Loc → Prop} (X : Stand p l e R s m args below meth c T locs cells slots) (hx : p.tables.exec = Jvm.exec) (hlk : meth.locks = false) {pc : Nat} {Ls : Array Slot} {z : Value} {rest : List Value} (hret : meth.sig.returnType = some ty) (ht : ty.isReference = true) (hz : z.isRef = true) (hd : decode c.code pc = .ok (.areturn, 1)) (hc : cells ≤ kc) (hs : slots ≤ ks) (hq : Q (some z) T.heap locs) : own_Go p e below (own_End s kc ks Q) T (mkF m pc Ls (z :: rest)) :=
  own_fin X hlk (fun q => by rw [hret] at q; cases q) hq hc hs fun fs hr => retOut X hx hret (by cases ty <;> first | rfl | cases ht) (Or.inr (Or.inr (Or.inr (Or.inr ⟨rfl, ht, hz⟩)))) hd hr
theorem own_retN {kc ks : Nat} {Q : Option Value → Heap → List Loc → Prop} (X : Stand p l e R s m args below meth c T locs cells slots) (hx : p.tables.exec = Jvm.exec) (hlk : meth.locks = false) {pc : Nat} {Ls : Array Slot} {z : Int32} {rest : List Value} (hret : meth.sig.returnType = some ty) (ht : ty = .boolean ∨ ty = .byte ∨ ty = .char ∨ ty = .short) (hd : decode c.code pc = .ok (.ireturn, 1)) (hc : cells ≤ kc) (hs : slots ≤ ks) (hq : Q (some (.int (nar ty z))) T.heap locs) : own_Go p e below (own_End s kc ks Q) T (mkF m pc Ls (.int z :: rest)) :=
  own_fin X hlk (fun q => by rw [hret] at q; cases q) hq hc hs fun fs hr => retN X hx hret ht hd hr
theorem own_retV {kc ks : Nat} {Q : Option Value → Heap → List Loc → Prop} (X : Stand p l e R s m args below meth c T locs cells slots) (hx : p.tables.exec = Jvm.exec) (hlk : meth.locks = false) {pc : Nat} {Ls : Array Slot} (hret : meth.sig.returnType = none) (hd : decode c.code pc = .ok (.return_, 1)) (hc : cells ≤ kc) (hs : slots ≤ ks) (hq : Q none T.heap locs) : own_Go p e below (own_End s kc ks Q) T (mkF m pc Ls []) :=
  own_fin X hlk (fun _ => rfl) hq hc hs fun fs hr => X.returnOut hx hret hd hr
theorem own_callSt {y : MethodName} {bytes : ByteArray} {maxL : Nat} {ret : Option FieldType} {rm : Room} {Q : Option Value → Heap → List Loc → Prop} (X : Stand p l e R s m args below meth c T locs cells slots) (hx : p.tables.exec = Jvm.exec) (hZ : Z.Warmed39 s.vm) {own : String} {index : Nat} (hown : s.vm.findClass own = some m.cls)
    (w1 : (Jvm.Cond.methodLink own index y).before a0 Z = true) (w2 : (Jvm.Cond.static y).before a0 Z = true) (w3 : (Jvm.Cond.initialized y.cls).before a0 Z = true) (w4 : (Jvm.Cond.code y bytes maxL ret).before a0 Z = true) (hy : y.cls ≠ "java/lang/invoke/MethodHandle" ∧ y.cls ≠ "java/lang/invoke/VarHandle") {argsL rest : List Value}
    (M : own_Met l Z y bytes maxL ret rm argsL.toArray h Q) (eT : T.heap = h) {W : Nat} (hf : rm.frames + 1 ≤ R.frames) (hl : W + (maxL + 11) + rm.locals ≤ R.locals) {g : JFrame} (hg : g.method = m) (hsize : g.locals.size = c.maxLocals) (hlen : ∀ sig, parseMethodDescriptor y.desc = some sig → argsL.length = sig.parameters.length) (hs : g.stack = argsL.reverse ++ rest) (hW : 2 * g.monitorRoom + (rest.map fun v => v.category).sum ≤ W) (hd : decode c.code g.pc = .ok (.invokestatic index, 3)) (hc : cells + rm.cells ≤ R.cells) (hsl : slots + rm.slots ≤ R.slots) :
    ∃ v T' L, Stand p l e R s m args below meth c T' (locs ++ L) (cells + rm.cells) (slots + rm.slots) ∧ Q v T'.heap L ∧ ∀ target, Steps p.tables e below (T'.setTop { g with pc := g.pc + 3, stack := v.toList ++ rest }) target → Steps p.tables e below (T.setTop g) target := by
  obtain ⟨v, _, ⟨T', L', k', n'⟩, -, X', ⟨L, hQ, l1, l2, l3⟩, st⟩ := Jvm.LawKit.callS X hx (y := y) hown (mvT hZ w1) (mvT hZ w2) (mvT hZ w3) (mvT hZ w4) hy (backOf (W := W) (M []) hZ w4 w3 hf hl) hg hsize (argsL := argsL) (rest := rest) hlen hs hW hd (fun _ _ => ⟨rfl, eT, hc, hsl⟩)
  dsimp only [Pt.U, Pt.locs, Pt.cells, Pt.slots] at X' l1 l2 l3 st hQ
  subst l1 l2 l3
  exact ⟨v, T', L, X', hQ, st⟩
theorem own_callSp {y : MethodName} {bytes : ByteArray} {maxL : Nat} {rm : Room} {Q : Option Value → Heap → List Loc → Prop} (X : Stand p l e R s m args below meth c T locs cells slots) (hx : p.tables.exec = Jvm.exec) (hZ : Z.Warmed39 s.vm) {own : String} {index : Nat} (hown : s.vm.findClass own = some m.cls) (hy1 : y.name = "<init>")
    (w1 : (Jvm.Cond.methodLink own index y).before a0 Z = true) (w2 : (Jvm.Cond.instanceMethod y).before a0 Z = true) (w3 : (Jvm.Cond.initialized y.cls).before a0 Z = true) (w4 : (Jvm.Cond.code y bytes maxL none).before a0 Z = true) (hy : y.cls ≠ "java/lang/invoke/MethodHandle" ∧ y.cls ≠ "java/lang/invoke/VarHandle") {argsL rest : List Value}
    (M : own_Met l Z y bytes maxL none rm (.ref a :: argsL).toArray h Q) (eT : T.heap = h) {W : Nat} (hf : rm.frames + 1 ≤ R.frames) (hl : W + (maxL + 11) + rm.locals ≤ R.locals) {g : JFrame} (hg : g.method = m) (hsize : g.locals.size = c.maxLocals) (hlen : ∀ sig, parseMethodDescriptor y.desc = some sig → argsL.length = sig.parameters.length) (hs : g.stack = argsL.reverse ++ .ref a :: rest) (hW : 2 * g.monitorRoom + (rest.map fun v => v.category).sum ≤ W) (hd : decode c.code g.pc = .ok (.invokespecial index, 3)) (hc : cells + rm.cells ≤ R.cells) (hsl : slots + rm.slots ≤ R.slots) :
    ∃ v T' L, Stand p l e R s m args below meth c T' (locs ++ L) (cells + rm.cells) (slots + rm.slots) ∧ Q v T'.heap L ∧ ∀ target, Steps p.tables e below (T'.setTop { g with pc := g.pc + 3, stack := v.toList ++ rest }) target → Steps p.tables e below (T.setTop g) target := by
  obtain ⟨v, _, ⟨T', L', k', n'⟩, -, X', ⟨L, hQ, l1, l2, l3⟩, st⟩ := X.specialBack hx (y := y) hy1 hown (mvT hZ w1) (mvT hZ w2) (mvT hZ w4) hy (backOf (W := W) (M []) hZ w4 w3 hf hl) hg hsize (Steps.refl _) (a := a) (argsL := argsL) (rest := rest) hlen hs hW hd (fun _ _ => ⟨rfl, eT, hc, hsl⟩)
  dsimp only [Pt.U, Pt.locs, Pt.cells, Pt.slots] at X' l1 l2 l3 st hQ
  subst l1 l2 l3
  exact ⟨v, T', L, X', hQ, fun _ k => st.trans k⟩
theorem own_callVi {y z : MethodName} {bytes : ByteArray} {maxL : Nat} {ret : Option FieldType} {rm : Room} {Q : Option Value → Heap → List Loc → Prop} {C : String} (X : Stand p l e R s m args below meth c T locs cells slots) (hx : p.tables.exec = Jvm.exec) (hZ : Z.Warmed39 s.vm) {own : String} {index : Nat} (hown : s.vm.findClass own = some m.cls)
    (w1 : (Jvm.Cond.methodLink own index y).before a0 Z = true) (w2 : (Jvm.Cond.declares y).before a0 Z = true) (nf : NotFace s y) (w5 : (Jvm.Cond.selects C y z).before a0 Z = true) (w6 : (Jvm.Cond.instanceMethod z).before a0 Z = true) (w3 : (Jvm.Cond.initialized z.cls).before a0 Z = true) (w4 : (Jvm.Cond.code z bytes maxL ret).before a0 Z = true) (hy : y.cls ≠ "java/lang/invoke/MethodHandle" ∧ y.cls ≠ "java/lang/invoke/VarHandle") (E : Exa Z h a C) {argsL rest : List Value}
    (M : own_Met l Z z bytes maxL ret rm (.ref a :: argsL).toArray h Q) (eT : T.heap = h) {W : Nat} (hf : rm.frames + 1 ≤ R.frames) (hl : W + (maxL + 11) + rm.locals ≤ R.locals) {g : JFrame} (hg : g.method = m) (hsize : g.locals.size = c.maxLocals) (hlen : ∀ sig, parseMethodDescriptor y.desc = some sig → argsL.length = sig.parameters.length) (hs : g.stack = argsL.reverse ++ .ref a :: rest) (hW : 2 * g.monitorRoom + (rest.map fun v => v.category).sum ≤ W) (hd : decode c.code g.pc = .ok (.invokevirtual index, 3)) (hc : cells + rm.cells ≤ R.cells) (hsl : slots + rm.slots ≤ R.slots) :
    ∃ v T' L, Stand p l e R s m args below meth c T' (locs ++ L) (cells + rm.cells) (slots + rm.slots) ∧ Q v T'.heap L ∧ ∀ target, Steps p.tables e below (T'.setTop { g with pc := g.pc + 3, stack := v.toList ++ rest }) target → Steps p.tables e below (T.setTop g) target := by
  obtain ⟨cq, kq, qa, qb, qc⟩ := isOf hZ eT E
  obtain ⟨v, _, ⟨T', L', k', n'⟩, -, X', ⟨L, hQ, l1, l2, l3⟩, st⟩ := X.virtualBack hx (y := y) (z := z) hown (mvT hZ w1) (mvT hZ w2) nf (mvT hZ w5) (mvT hZ w6) hy (backOf (W := W) (M []) hZ w4 w3 hf hl) qa qc hg hsize (Steps.refl _) (argsL := argsL) (rest := rest) hlen hs hW hd (fun _ _ => ⟨rfl, eT, hc, hsl⟩)
  dsimp only [Pt.U, Pt.locs, Pt.cells, Pt.slots] at X' l1 l2 l3 st hQ
  subst l1 l2 l3
  exact ⟨v, T', L, X', hQ, fun _ k => st.trans k⟩
/-- the whole contents of an array -/
def own_Av (Z : State) (h : Heap) (a : Addr) (ty : FieldType) (vs : List Value) : Prop := ∃ c : Cell, Arr Z h a c ty ∧ c.slots = vs.toArray ∧ vs.length < 2 ^ 31
theorem own_Av.lt (F : own_Av Z h a ty vs) : a < h.size := by obtain ⟨c, A, -⟩ := F; exact A.lt
theorem own_Av.ext (F : own_Av Z h a ty vs) (E : Ext h h') : own_Av Z h' a ty vs := by obtain ⟨c, A, r⟩ := F; exact ⟨c, A.ext E, r⟩
theorem own_Av.other (F : own_Av Z h b ty vs) (W : Wr h h' a sl v) (q : b ≠ a) : own_Av Z h' b ty vs := by obtain ⟨c, A, r⟩ := F; exact ⟨c, A.other W q, r⟩
theorem own_Av.keep (F : own_Av Z h a ty vs) (K : Keep h h' ws) (q : a ∉ ws) : own_Av Z h' a ty vs := by obtain ⟨c, A, r⟩ := F; exact ⟨c, ⟨K.2.1 a c A.1 q, A.2⟩, r⟩
theorem own_Av.len (F : own_Av Z h a ty vs) : vs.length < 2 ^ 31 := by obtain ⟨c, A, r, q⟩ := F; exact q
theorem own_Av.new {k : ClassId} {z : Int32} (A : Arr Z h a (newA k ty z) ty) : own_Av Z h a ty (List.replicate z.toNatClampNeg (defaultValue ty)) := ⟨_, A, by simp [newA], by rw [List.length_replicate]; have := z.toInt_lt; simp only [Int32.toNatClampNeg]; omega⟩
theorem own_Av.set (F : own_Av Z h a ty vs) {j : Nat} (W : Wr h h' a j v) : own_Av Z h' a ty (vs.set j v) := by
  obtain ⟨c, A, r, q⟩ := F
  refine ⟨_, A.same W, ?_, by rw [List.length_set]; exact q⟩
  simp [Cell.setSlot, r]
theorem own_in {c : Cell} {j : Int32} (r : c.slots = vs.toArray) (hj : ¬ j < 0) (hl : j.toNatClampNeg < vs.length) : ¬ (j < 0 ∨ c.slots.size ≤ j.toNatClampNeg) := by
  rw [r]; simp; exact ⟨Int32.not_lt.mp hj, hl⟩
theorem own_lt_of {α : Type} {vs : List α} {j : Nat} {v : α} (q : vs[j]? = some v) : j < vs.length := (List.getElem?_eq_some_iff.mp q).1
theorem own_ldI (X : Stand p l e R s m args below meth c T locs cells slots) (hx : p.tables.exec = Jvm.exec) (hZ : Z.Warmed39 s.vm) (eT : T.heap = h) (F : own_Av Z h a .int vs) {j : Int32} (hj : ¬ j < 0) (hv : vs[j.toNatClampNeg]? = some v) {g : JFrame} (hg : g.method = m) {rest : List Value} (hs : g.stack = .int j :: .ref a :: rest) (hd : decode c.code g.pc = .ok (.iaload, 1)) :
    ∀ target, Steps p.tables e below (T.setTop { g with pc := g.pc + 1, stack := v :: rest }) target → Steps p.tables e below (T.setTop g) target := by
  obtain ⟨cl, A, r, -⟩ := F
  exact X.iaload hx (j := j) (v := v) (by rw [eT]; exact A.1) (State.isArrayOf_alike hZ.alike A.2.1) A.2.2 (own_in r hj (own_lt_of hv)) (by rw [r]; simpa using hv) hg hs hd
theorem own_ldJ (X : Stand p l e R s m args below meth c T locs cells slots) (hx : p.tables.exec = Jvm.exec) (hZ : Z.Warmed39 s.vm) (eT : T.heap = h) (F : own_Av Z h a .long vs) {j : Int32} (hj : ¬ j < 0) (hv : vs[j.toNatClampNeg]? = some v) {g : JFrame} (hg : g.method = m) {rest : List Value} (hs : g.stack = .int j :: .ref a :: rest) (hd : decode c.code g.pc = .ok (.laload, 1)) :
    ∀ target, Steps p.tables e below (T.setTop { g with pc := g.pc + 1, stack := v :: rest }) target → Steps p.tables e below (T.setTop g) target := by
  obtain ⟨cl, A, r, -⟩ := F
  exact X.laload hx (j := j) (v := v) (by rw [eT]; exact A.1) (State.isArrayOf_alike hZ.alike A.2.1) A.2.2 (own_in r hj (own_lt_of hv)) (by rw [r]; simpa using hv) hg hs hd
theorem own_ldB (X : Stand p l e R s m args below meth c T locs cells slots) (hx : p.tables.exec = Jvm.exec) (hZ : Z.Warmed39 s.vm) (eT : T.heap = h) (F : own_Av Z h a .byte vs) {j : Int32} (hj : ¬ j < 0) (hv : vs[j.toNatClampNeg]? = some v) {g : JFrame} (hg : g.method = m) {rest : List Value} (hs : g.stack = .int j :: .ref a :: rest) (hd : decode c.code g.pc = .ok (.baload, 1)) :
    ∀ target, Steps p.tables e below (T.setTop { g with pc := g.pc + 1, stack := v :: rest }) target → Steps p.tables e below (T.setTop g) target := by
  obtain ⟨cl, A, r, -⟩ := F
  exact X.baloadBytes hx (j := j) (v := v) (by rw [eT]; exact A.1) (State.isArrayOf_alike hZ.alike A.2.1) A.2.2 (own_in r hj (own_lt_of hv)) (by rw [r]; simpa using hv) hg hs hd
theorem own_ldZ (X : Stand p l e R s m args below meth c T locs cells slots) (hx : p.tables.exec = Jvm.exec) (hZ : Z.Warmed39 s.vm) (eT : T.heap = h) (F : own_Av Z h a .boolean vs) {j : Int32} (hj : ¬ j < 0) (hv : vs[j.toNatClampNeg]? = some v) {g : JFrame} (hg : g.method = m) {rest : List Value} (hs : g.stack = .int j :: .ref a :: rest) (hd : decode c.code g.pc = .ok (.baload, 1)) :
    ∀ target, Steps p.tables e below (T.setTop { g with pc := g.pc + 1, stack := v :: rest }) target → Steps p.tables e below (T.setTop g) target := by
  obtain ⟨cl, A, r, -⟩ := F
  exact X.baloadBooleans hx (j := j) (v := v) (by rw [eT]; exact A.1) (State.isArrayOf_alike hZ.alike A.2.1) A.2.2 (own_in r hj (own_lt_of hv)) (by rw [r]; simpa using hv) hg hs hd
theorem own_alen (X : Stand p l e R s m args below meth c T locs cells slots) (hx : p.tables.exec = Jvm.exec) (hZ : Z.Warmed39 s.vm) (eT : T.heap = h) (F : own_Av Z h a ty vs) {n : Int32} (hn : vs.length.toInt32 = n) {g : JFrame} (hg : g.method = m) {rest : List Value} (hs : g.stack = .ref a :: rest) (hd : decode c.code g.pc = .ok (.arraylength, 1)) :
    ∀ target, Steps p.tables e below (T.setTop { g with pc := g.pc + 1, stack := .int n :: rest }) target → Steps p.tables e below (T.setTop g) target := by
  obtain ⟨cl, A, r, -⟩ := F
  have q := X.arraylength hx (by rw [eT]; exact A.1) (State.isArrayOf_alike hZ.alike A.2.1) hg hs hd
  have e1 : cl.slots.size.toInt32 = n := by rw [r]; simpa using hn
  rw [e1] at q; exact q
theorem own_stI (X : Stand p l e R s m args below meth c T locs cells slots) (hx : p.tables.exec = Jvm.exec) (hZ : Z.Warmed39 s.vm) (eT : T.heap = h) (F : own_Av Z h a .int vs) {j x : Int32} (hj : ¬ j < 0) (hl : j.toNatClampNeg < vs.length) {g : JFrame} (hg : g.method = m) {rest : List Value} (hs : g.stack = .int x :: .int j :: .ref a :: rest) (hd : decode c.code g.pc = .ok (.iastore, 1)) :
    ∃ T' h', Stand p l e R s m args below meth c T' (locs ++ [⟨a, j.toNatClampNeg⟩]) cells slots ∧ T'.heap = h' ∧ Wr h h' a j.toNatClampNeg (.int x) ∧ own_Av Z h' a .int (vs.set j.toNatClampNeg (.int x)) ∧ ∀ target, Steps p.tables e below (T'.setTop { g with pc := g.pc + 1, stack := rest }) target → Steps p.tables e below (T.setTop g) target := by
  obtain ⟨cl, A, r, q⟩ := F
  obtain ⟨T', h', X', e', W, st⟩ := stI X hx hZ eT A (own_in r hj hl) hg hs hd
  exact ⟨T', h', X', e', W, own_Av.set ⟨cl, A, r, q⟩ W, st⟩
theorem own_stJ (X : Stand p l e R s m args below meth c T locs cells slots) (hx : p.tables.exec = Jvm.exec) (hZ : Z.Warmed39 s.vm) (eT : T.heap = h) (F : own_Av Z h a .long vs) {j : Int32} {x : Int64} (hj : ¬ j < 0) (hl : j.toNatClampNeg < vs.length) {g : JFrame} (hg : g.method = m) {rest : List Value} (hs : g.stack = .long x :: .int j :: .ref a :: rest) (hd : decode c.code g.pc = .ok (.lastore, 1)) :
    ∃ T' h', Stand p l e R s m args below meth c T' (locs ++ [⟨a, j.toNatClampNeg⟩]) cells slots ∧ T'.heap = h' ∧ Wr h h' a j.toNatClampNeg (.long x) ∧ own_Av Z h' a .long (vs.set j.toNatClampNeg (.long x)) ∧ ∀ target, Steps p.tables e below (T'.setTop { g with pc := g.pc + 1, stack := rest }) target → Steps p.tables e below (T.setTop g) target := by
  obtain ⟨cl, A, r, q⟩ := F
  obtain ⟨T', h', X', e', W, st⟩ := stJ X hx hZ eT A (own_in r hj hl) hg hs hd
  exact ⟨T', h', X', e', W, own_Av.set ⟨cl, A, r, q⟩ W, st⟩
theorem own_stB (X : Stand p l e R s m args below meth c T locs cells slots) (hx : p.tables.exec = Jvm.exec) (hZ : Z.Warmed39 s.vm) (eT : T.heap = h) (F : own_Av Z h a .byte vs) {j x : Int32} (hj : ¬ j < 0) (hl : j.toNatClampNeg < vs.length) {g : JFrame} (hg : g.method = m) {rest : List Value} (hs : g.stack = .int x :: .int j :: .ref a :: rest) (hd : decode c.code g.pc = .ok (.bastore, 1)) :
    ∃ T' h', Stand p l e R s m args below meth c T' (locs ++ [⟨a, j.toNatClampNeg⟩]) cells slots ∧ T'.heap = h' ∧ Wr h h' a j.toNatClampNeg (.int x.toInt8.toInt32) ∧ own_Av Z h' a .byte (vs.set j.toNatClampNeg (.int x.toInt8.toInt32)) ∧ ∀ target, Steps p.tables e below (T'.setTop { g with pc := g.pc + 1, stack := rest }) target → Steps p.tables e below (T.setTop g) target := by
  obtain ⟨cl, A, r, q⟩ := F
  obtain ⟨T', h', X', e', W, st⟩ := stB X hx hZ eT A (own_in r hj hl) hg hs hd
  exact ⟨T', h', X', e', W, own_Av.set ⟨cl, A, r, q⟩ W, st⟩
theorem own_stZ (X : Stand p l e R s m args below meth c T locs cells slots) (hx : p.tables.exec = Jvm.exec) (hZ : Z.Warmed39 s.vm) (eT : T.heap = h) (F : own_Av Z h a .boolean vs) {j x : Int32} (hj : ¬ j < 0) (hl : j.toNatClampNeg < vs.length) {g : JFrame} (hg : g.method = m) {rest : List Value} (hs : g.stack = .int x :: .int j :: .ref a :: rest) (hd : decode c.code g.pc = .ok (.bastore, 1)) :
    ∃ T' h', Stand p l e R s m args below meth c T' (locs ++ [⟨a, j.toNatClampNeg⟩]) cells slots ∧ T'.heap = h' ∧ Wr h h' a j.toNatClampNeg (.int (x &&& 1)) ∧ own_Av Z h' a .boolean (vs.set j.toNatClampNeg (.int (x &&& 1))) ∧ ∀ target, Steps p.tables e below (T'.setTop { g with pc := g.pc + 1, stack := rest }) target → Steps p.tables e below (T.setTop g) target := by
  obtain ⟨cl, A, r, q⟩ := F
  obtain ⟨T', h', X', e', W, st⟩ := stZ X hx hZ eT A (own_in r hj hl) hg hs hd
  exact ⟨T', h', X', e', W, own_Av.set ⟨cl, A, r, q⟩ W, st⟩
theorem own_len {t : Term} {n : Int32} {cl : Cell} (q : (Jvm.Cond.eq (.length t) (.int n)).value args s none s [] = some true) (ht : t.eval args s none [] s = some (.ref a)) (A : Arr s s.heap a cl ty) (hn : ¬ n < 0) : cl.slots.size = n.toNatClampNeg := by
  have ha := Arr.fin (State.Warmed39.refl s).alike A
  by_cases hl : cl.slots.size < 2 ^ 31
  · have e1 := len_f (t := t) ht ha hl
    have e2 : cl.slots.size.toInt32 = n := by
      simp only [Cond.value, e1] at q
      simpa [Term.eval] using q
    rw [← e2]
    simp only [Int32.toNatClampNeg, len_toInt hl]; rfl
  · exfalso
    have e1 : (Term.length t).eval args s none [] s = none := by
      have hl' : ¬ cl.slots.size < 2147483648 := hl
      simp [Term.eval, ht, ha, hl']
    simp [Cond.value, e1] at q
theorem own_elemJ {t : Term} {j : Int32} {v : Int64} {cl : Cell} (q : (Jvm.Cond.eq (.elem t (.int j)) (.long v)).value args s none s [] = some true) (ht : t.eval args s none [] s = some (.ref a)) (A : Arr s s.heap a cl ty) : cl.slots[j.toNatClampNeg]? = some (.long v) := by
  cases e1 : (Term.elem t (.int j)).eval args s none [] s with
  | none => simp [Cond.value, e1] at q
  | some x =>
    have e2 := (elem_in e1 ht rfl A.1).2
    rw [e2]
    simp only [Cond.value, e1] at q
    cases x <;> simp [Term.eval] at q
    rw [q]
theorem own_elemI {t : Term} {j : Int32} {v : Int32} {cl : Cell} (q : (Jvm.Cond.eq (.elem t (.int j)) (.int v)).value args s none s [] = some true) (ht : t.eval args s none [] s = some (.ref a)) (A : Arr s s.heap a cl ty) : cl.slots[j.toNatClampNeg]? = some (.int v) := by
  cases e1 : (Term.elem t (.int j)).eval args s none [] s with
  | none => simp [Cond.value, e1] at q
  | some x =>
    have e2 := (elem_in e1 ht rfl A.1).2
    rw [e2]
    simp only [Cond.value, e1] at q
    cases x <;> simp [Term.eval] at q
    rw [q]
theorem own_Av.of {cl : Cell} (A : Arr Z h a cl ty) (hs : cl.slots.size = vs.length) (hv : ∀ i, i < vs.length → cl.slots[i]? = vs[i]?) (hl : vs.length < 2 ^ 31) : own_Av Z h a ty vs := by
  refine ⟨cl, A, ?_, hl⟩
  apply Array.ext
  · simpa using hs
  · intro i h1 h2
    have h3 : i < vs.length := by rw [← hs]; exact h1
    have := hv i h3
    rw [Array.getElem?_eq_getElem h1, List.getElem?_eq_getElem h3] at this
    simpa using this
theorem own_Sta.keep0 {C n d : String} (F : Sta Z h C n d v) (K : Keep h h' []) : Sta Z h' C n d v := by
  obtain ⟨cf, i, k, f, st, cell, h1, h2, h3, h4, h5, r⟩ := F; exact ⟨cf, i, k, f, st, cell, h1, h2, h3, h4, K.2.1 _ _ h5 nin0, r⟩
theorem own_fldJ {t : Term} {C n d : String} {z : Int64} (q : (Jvm.Cond.eq (.field t C n d) (.long z)).value args s none s [] = some true) (ht : t.eval args s none [] s = some (.ref a)) : Fld s s.heap a C n d (.long z) := by
  have e0 := fld_at (C := C) (n := n) (dd := d) ht
  refine Fld.start ?_
  cases e1 : s.fieldOf? a C n d with
  | none => rw [e1] at e0; simp [Cond.value, e0] at q
  | some x =>
    rw [e1] at e0
    simp only [Cond.value, e0] at q
    cases x <;> simp [Term.eval] at q
    rw [q]
theorem own_cloneI (X : Stand p l e R s m args below meth c T locs cells slots) (hx : p.tables.exec = Jvm.exec) (hZ : Z.Warmed39 s.vm) {own : String} {index : Nat} (hown : s.vm.findClass own = some m.cls)
    (w1 : (Jvm.Cond.methodLink own index ⟨"[I", "clone", "()Ljava/lang/Object;"⟩).before a0 Z = true) (w2 : (Jvm.Cond.sameMethod "[I" "java/lang/Object" "clone" "()Ljava/lang/Object;").before a0 Z = true) (w3 : (Jvm.Cond.native ⟨"java/lang/Object", "clone", "()Ljava/lang/Object;"⟩).before a0 Z = true)
    (w4 : (Jvm.Cond.instanceMethod ⟨"java/lang/Object", "clone", "()Ljava/lang/Object;"⟩).before a0 Z = true) (w5 : (Jvm.Cond.selects "[I" ⟨"[I", "clone", "()Ljava/lang/Object;"⟩ ⟨"java/lang/Object", "clone", "()Ljava/lang/Object;"⟩).before a0 Z = true) (w6 : (Jvm.Cond.castable "[I" "java/lang/Cloneable").before a0 Z = true)
    (eT : T.heap = h) {I : List Int32} (F : own_Av Z h a .int (I.map Value.int)) (E : Exa Z h a "[I") {g : JFrame} (hg : g.method = m) (hsize : g.locals.size = c.maxLocals) {rest : List Value} (hs : g.stack = .ref a :: rest) (hd : decode c.code g.pc = .ok (.invokevirtual index, 3))
    (hf : 1 ≤ R.frames) {W cap : Nat} (hW : 2 * g.monitorRoom + (rest.map fun v => v.category).sum ≤ W) (hl : W + 14 ≤ R.locals) (hcap : I.length ≤ cap) (hc : cells + 1 ≤ R.cells) (hsl : slots + cap ≤ R.slots) :
    ∃ T' h', Stand p l e R s m args below meth c T' locs (cells + 1) (slots + cap) ∧ T'.heap = h' ∧ Ext h h' ∧ own_Av Z h' h.size .int (I.map Value.int) ∧ Exa Z h' h.size "[I" ∧
      ∀ target, Steps p.tables e below (T'.setTop { g with pc := g.pc + 3, stack := .ref h.size :: rest }) target → Steps p.tables e below (T.setTop g) target := by
  obtain ⟨cl, A, r, q⟩ := F
  have FC : FitC Z cl := fitC_of A fun i hi v hv => by
    rw [r] at hv
    simp only [List.getElem?_toArray, List.getElem?_map, Option.map_eq_some_iff] at hv
    obtain ⟨z, -, rfl⟩ := hv
    rfl
  obtain ⟨T', h', X', e', ex, A', E', st⟩ := cloneA X hx hZ hown w1 w2 w3 w4 w5 w6 eT A E FC hg hsize hs hd hf hW hl (by rw [r]; simpa using hcap) hc hsl
  exact ⟨T', h', X', e', ex, ⟨cloneOf cl, A', r, q⟩, E', st⟩
theorem own_callPr {y y' : MethodName} {bytes : ByteArray} {maxL : Nat} {ret : Option FieldType} {rm : Room} {Q : Option Value → Heap → List Loc → Prop} (X : Stand p l e R s m args below meth c T locs cells slots) (hx : p.tables.exec = Jvm.exec) (hZ : Z.Warmed39 s.vm) {own : String} {index : Nat} (hown : s.vm.findClass own = some m.cls)
    (w1 : (Jvm.Cond.methodLink own index y).before a0 Z = true) (w2 : (Jvm.Cond.privateMethod y).before a0 Z = true) (w6 : (Jvm.Cond.instanceMethod y).before a0 Z = true) (w3 : (Jvm.Cond.initialized y.cls).before a0 Z = true) (w4 : (Jvm.Cond.code y bytes maxL ret).before a0 Z = true) (w7 : (Jvm.Cond.selects y.cls y' y').before a0 Z = true) (w8 : (Jvm.Cond.instanceMethod y').before a0 Z = true) (hcl : y'.cls = y.cls) (hy : y.cls ≠ "java/lang/invoke/MethodHandle" ∧ y.cls ≠ "java/lang/invoke/VarHandle") {C : String} (E : Exa Z h a C) {argsL rest : List Value}
    (M : own_Met l Z y bytes maxL ret rm (.ref a :: argsL).toArray h Q) (eT : T.heap = h) {W : Nat} (hf : rm.frames + 1 ≤ R.frames) (hl : W + (maxL + 11) + rm.locals ≤ R.locals) {g : JFrame} (hg : g.method = m) (hsize : g.locals.size = c.maxLocals) (hlen : ∀ sig, parseMethodDescriptor y.desc = some sig → argsL.length = sig.parameters.length) (hs : g.stack = argsL.reverse ++ .ref a :: rest) (hW : 2 * g.monitorRoom + (rest.map fun v => v.category).sum ≤ W) (hd : decode c.code g.pc = .ok (.invokevirtual index, 3)) (hc : cells + rm.cells ≤ R.cells) (hsl : slots + rm.slots ≤ R.slots) :
    ∃ v T' L, Stand p l e R s m args below meth c T' (locs ++ L) (cells + rm.cells) (slots + rm.slots) ∧ Q v T'.heap L ∧ ∀ target, Steps p.tables e below (T'.setTop { g with pc := g.pc + 3, stack := v.toList ++ rest }) target → Steps p.tables e below (T.setTop g) target := by
  obtain ⟨cq, qa, qb⟩ := E.cell
  have nf := notFace_of_selects (args := #[]) (mvT hZ w7)
  obtain ⟨mk', meth', hn', -⟩ := Cond.instanceMethod_spec (mvT (args := #[]) hZ w8)
  obtain ⟨k', hk', hni⟩ := nf mk' hn'
  have hc' := findClass_of_methodNamed hn'
  rw [hcl] at hc'
  have hpriv := Cond.privateMethod_at (mvP hZ w2 (args := #[]))
  have hsel := selects_self_of_private (args := args) hc' hk' hni hpriv (mvT hZ w6) hy
  obtain ⟨v, _, ⟨T', L', k', n'⟩, -, X', ⟨L, hQ, l1, l2, l3⟩, st⟩ := X.privateBack hx (y := y) hown (mvT hZ w1) (mvT hZ w6) hsel hpriv (mvT hZ w4) hy (backOf (W := W) (M []) hZ w4 w3 hf hl) hg hsize (Steps.refl _) (a := a) (by rw [eT]; exact qa) qb (argsL := argsL) (rest := rest) hlen hs hW hd (fun _ _ => ⟨rfl, eT, hc, hsl⟩)
  dsimp only [Pt.U, Pt.locs, Pt.cells, Pt.slots] at X' l1 l2 l3 st hQ
  subst l1 l2 l3
  exact ⟨v, T', L, X', hQ, fun _ k => st.trans k⟩
theorem own_clone {ad : String} (X : Stand p l e R s m args below meth c T locs cells slots) (hx : p.tables.exec = Jvm.exec) (hZ : Z.Warmed39 s.vm) {own : String} {index : Nat} (hown : s.vm.findClass own = some m.cls)
    (w1 : (Jvm.Cond.methodLink own index ⟨ad, "clone", "()Ljava/lang/Object;"⟩).before a0 Z = true) (w2 : (Jvm.Cond.sameMethod ad "java/lang/Object" "clone" "()Ljava/lang/Object;").before a0 Z = true) (w3 : (Jvm.Cond.native ⟨"java/lang/Object", "clone", "()Ljava/lang/Object;"⟩).before a0 Z = true)
    (w4 : (Jvm.Cond.instanceMethod ⟨"java/lang/Object", "clone", "()Ljava/lang/Object;"⟩).before a0 Z = true) (w5 : (Jvm.Cond.selects ad ⟨ad, "clone", "()Ljava/lang/Object;"⟩ ⟨"java/lang/Object", "clone", "()Ljava/lang/Object;"⟩).before a0 Z = true) (w6 : (Jvm.Cond.castable ad "java/lang/Cloneable").before a0 Z = true)
    (eT : T.heap = h) (F : own_Av Z h a ty vs) (hfit : ∀ v ∈ vs, fits ty v = true) (E : Exa Z h a ad) {g : JFrame} (hg : g.method = m) (hsize : g.locals.size = c.maxLocals) {rest : List Value} (hs : g.stack = .ref a :: rest) (hd : decode c.code g.pc = .ok (.invokevirtual index, 3))
    (hf : 1 ≤ R.frames) {W cap : Nat} (hW : 2 * g.monitorRoom + (rest.map fun v => v.category).sum ≤ W) (hl : W + 14 ≤ R.locals) (hcap : vs.length ≤ cap) (hc : cells + 1 ≤ R.cells) (hsl : slots + cap ≤ R.slots) :
    ∃ T' h', Stand p l e R s m args below meth c T' locs (cells + 1) (slots + cap) ∧ T'.heap = h' ∧ Ext h h' ∧ own_Av Z h' h.size ty vs ∧ Exa Z h' h.size ad ∧
      ∀ target, Steps p.tables e below (T'.setTop { g with pc := g.pc + 3, stack := .ref h.size :: rest }) target → Steps p.tables e below (T.setTop g) target := by
  obtain ⟨cl, A, r, q⟩ := F
  have FC : FitC Z cl := fitC_of A fun i hi v hv => by
    rw [r] at hv
    simp only [List.getElem?_toArray] at hv
    exact hfit v (List.mem_of_getElem? hv)
  obtain ⟨T', h', X', e', ex, A', E', st⟩ := cloneA X hx hZ hown w1 w2 w3 w4 w5 w6 eT A E FC hg hsize hs hd hf hW hl (by rw [r]; simpa using hcap) hc hsl
  exact ⟨T', h', X', e', ex, ⟨cloneOf cl, A', r, q⟩, E', st⟩
theorem own_Av.arv (F : own_Av Z h a ty vs) {dv : Value} (hfit : ∀ v ∈ vs, fits ty v = true) : ∃ k, Arv Z h a k ty vs.length.toInt32 vs dv := by
  obtain ⟨cl, A, r, q⟩ := F
  have e1 : vs.length.toInt32.toNatClampNeg = vs.length := by simp only [Int32.toNatClampNeg, len_toInt q]; rfl
  have hs : cl.slots.size = vs.length := by rw [r]; simp
  refine ⟨cl.cls, cl, A, rfl, by rw [e1, hs], ?_, fun k hk => ?_, fun i hi => ?_⟩
  · rw [Int32.lt_iff_toInt_lt, len_toInt q]; have : (0 : Int32).toInt = 0 := by decide
    omega
  · rw [hs] at hk; rw [r]; simp [List.getD_eq_getElem?_getD, List.getElem?_eq_getElem hk]
  · rw [hs] at hi
    have : vs.getD i dv = vs[i] := by simp [List.getD_eq_getElem?_getD, List.getElem?_eq_getElem hi]
    rw [this]; exact hfit _ (List.getElem_mem hi)
theorem own_stC (X : Stand p l e R s m args below meth c T locs cells slots) (hx : p.tables.exec = Jvm.exec) (hZ : Z.Warmed39 s.vm) (eT : T.heap = h) (F : own_Av Z h a .char vs) {j x : Int32} (hj : ¬ j < 0) (hl : j.toNatClampNeg < vs.length) {g : JFrame} (hg : g.method = m) {rest : List Value} (hs : g.stack = .int x :: .int j :: .ref a :: rest) (hd : decode c.code g.pc = .ok (.castore, 1)) :
    ∃ T' h', Stand p l e R s m args below meth c T' (locs ++ [⟨a, j.toNatClampNeg⟩]) cells slots ∧ T'.heap = h' ∧ Wr h h' a j.toNatClampNeg (.int x.toUInt32.toUInt16.toUInt32.toInt32) ∧ own_Av Z h' a .char (vs.set j.toNatClampNeg (.int x.toUInt32.toUInt16.toUInt32.toInt32)) ∧ ∀ target, Steps p.tables e below (T'.setTop { g with pc := g.pc + 1, stack := rest }) target → Steps p.tables e below (T.setTop g) target := by
  obtain ⟨cl, A, r, q⟩ := F
  obtain ⟨T', h', X', e', W, st⟩ := stC X hx hZ eT A (own_in r hj hl) hg hs hd
  exact ⟨T', h', X', e', W, own_Av.set ⟨cl, A, r, q⟩ W, st⟩
theorem own_ne_of (q : a < h.size) (r : h.size ≤ b) : a ≠ b := Nat.ne_of_lt (Nat.lt_of_lt_of_le q r)
end Own
theorem own_d1_0 : decode prog_21_method_3_code 0 = .ok (.iload_n 0, 1) := by decide +kernel
theorem own_d1_1 : decode prog_21_method_3_code 1 = .ok (.sipush 200, 3) := by decide +kernel
theorem own_d1_4 : decode prog_21_method_3_code 4 = .ok (.if_icmp .lt 17, 3) := by decide +kernel
theorem own_d1_7 : decode prog_21_method_3_code 7 = .ok (.iload_n 0, 1) := by decide +kernel
theorem own_d1_8 : decode prog_21_method_3_code 8 = .ok (.sipush 204, 3) := by decide +kernel
theorem own_d1_11 : decode prog_21_method_3_code 11 = .ok (.if_icmp .eq 10, 3) := by decide +kernel
theorem own_d1_14 : decode prog_21_method_3_code 14 = .ok (.iload_n 0, 1) := by decide +kernel
theorem own_d1_15 : decode prog_21_method_3_code 15 = .ok (.sipush 304, 3) := by decide +kernel
theorem own_d1_18 : decode prog_21_method_3_code 18 = .ok (.if_icmp .ne 7, 3) := by decide +kernel
theorem own_d1_21 : decode prog_21_method_3_code 21 = .ok (.iconst 1, 1) := by decide +kernel
theorem own_d1_22 : decode prog_21_method_3_code 22 = .ok (.goto 4, 3) := by decide +kernel
theorem own_d1_25 : decode prog_21_method_3_code 25 = .ok (.iconst 0, 1) := by decide +kernel
theorem own_d1_26 : decode prog_21_method_3_code 26 = .ok (.ireturn, 1) := by decide +kernel
theorem own_pn0 : plainName "com/example/recurve/recurve/http/HttpStatus" = true := by first | (simp [plainName, overriddenIn]; done) | decide +kernel
def own_forb (x0 : Int32) : Int32 := (if x0 < (200 : Int32) then (1 : Int32) else (if x0 = (204 : Int32) then (1 : Int32) else (if x0 = (304 : Int32) then (1 : Int32) else (0 : Int32))))
theorem own_ef1 (m : MethodId) (x0 : Int32) : entryFrame m #[(.int x0)] 1 = mkF m 0 #[.val (.int x0)] [] := by first | rfl | (simp [entryFrame, mkF, argsToLocals, Value.category]; done)
set_option maxRecDepth 65536 in
set_option maxHeartbeats 40000000 in
theorem own_mt1 (l : Launch) (Z : State) (a0 : Array Value) (hw : ∀ d ∈ tables_1, d.before a0 Z = true) (x0 : Int32) (h0 : Heap) :
    own_Met l Z (⟨"com/example/recurve/recurve/http/HttpStatus", "forbidsContent", "(I)Z"⟩ : MethodName) prog_21_method_3_code 1 (some .boolean) ({ frames := 0, cells := 0, slots := 0, locals := 0 } : Room) #[(.int x0)] h0 (fun v h L => v = some (.int (own_forb x0)) ∧ h = h0 ∧ L = []) := by
  refine own_intro (plainFor_of_name own_pn0) ?_
  intro p e s m below meth c s₁ hx hby hml hown hnm hZ hret hlk X0 e0
  refine own_cast (own_ef1 m x0) ?_
  refine own_via (T' := s₁) (g' := (mkF m 4 #[.val (.int x0)] [(.int (200 : Int32)), (.int x0)])) (fun t k => XS.iloadN X0.here hx rfl (hb hby own_d1_0) rfl (XS.sipush X0.here hx rfl (hb hby own_d1_1) k)) ?_
  by_cases hc1 : x0 < (200 : Int32)
  · refine own_via (T' := s₁) (g' := (mkF m 26 #[.val (.int x0)] [(.int (1 : Int32))])) (fun t k => XS.icmpYes X0.here hx rfl (pc0 := 4) (pc' := 21) rfl (hb hby own_d1_4) rfl (tlt hc1).1 (by decide) (by decide) (XS.iconst X0.here hx rfl (hb hby own_d1_21) (XS.goto X0.here hx rfl (pc0 := 22) (pc' := 26) rfl (hb hby own_d1_22) (by decide) (by decide) k))) ?_
    refine own_retN X0 hx hlk (ty := .boolean) hret (by simp) (hb hby own_d1_26) (by decide) (by decide) ?_
    exact ⟨by rw [own_forb, if_pos hc1] <;> rfl, e0, rfl⟩
  · refine own_via (T' := s₁) (g' := (mkF m 11 #[.val (.int x0)] [(.int (204 : Int32)), (.int x0)])) (fun t k => XS.icmpNo X0.here hx rfl (hb hby own_d1_4) rfl (flt hc1).1 (XS.iloadN X0.here hx rfl (hb hby own_d1_7) rfl (XS.sipush X0.here hx rfl (hb hby own_d1_8) k))) ?_
    by_cases hc2 : x0 = (204 : Int32)
    · refine own_via (T' := s₁) (g' := (mkF m 26 #[.val (.int x0)] [(.int (1 : Int32))])) (fun t k => XS.icmpYes X0.here hx rfl (pc0 := 11) (pc' := 21) rfl (hb hby own_d1_11) rfl (teq hc2).1 (by decide) (by decide) (XS.iconst X0.here hx rfl (hb hby own_d1_21) (XS.goto X0.here hx rfl (pc0 := 22) (pc' := 26) rfl (hb hby own_d1_22) (by decide) (by decide) k))) ?_
      refine own_retN X0 hx hlk (ty := .boolean) hret (by simp) (hb hby own_d1_26) (by decide) (by decide) ?_
      exact ⟨by rw [own_forb, if_neg hc1, if_pos hc2] <;> rfl, e0, rfl⟩
    · refine own_via (T' := s₁) (g' := (mkF m 18 #[.val (.int x0)] [(.int (304 : Int32)), (.int x0)])) (fun t k => XS.icmpNo X0.here hx rfl (hb hby own_d1_11) rfl (feq hc2).1 (XS.iloadN X0.here hx rfl (hb hby own_d1_14) rfl (XS.sipush X0.here hx rfl (hb hby own_d1_15) k))) ?_
      by_cases hc3 : x0 = (304 : Int32)
      · refine own_via (T' := s₁) (g' := (mkF m 26 #[.val (.int x0)] [(.int (1 : Int32))])) (fun t k => XS.icmpNo X0.here hx rfl (hb hby own_d1_18) rfl (teq hc3).2 (XS.iconst X0.here hx rfl (hb hby own_d1_21) (XS.goto X0.here hx rfl (pc0 := 22) (pc' := 26) rfl (hb hby own_d1_22) (by decide) (by decide) k))) ?_
        refine own_retN X0 hx hlk (ty := .boolean) hret (by simp) (hb hby own_d1_26) (by decide) (by decide) ?_
        exact ⟨by rw [own_forb, if_neg hc1, if_neg hc2, if_pos hc3] <;> rfl, e0, rfl⟩
      · refine own_via (T' := s₁) (g' := (mkF m 26 #[.val (.int x0)] [(.int (0 : Int32))])) (fun t k => XS.icmpYes X0.here hx rfl (pc0 := 18) (pc' := 25) rfl (hb hby own_d1_18) rfl (feq hc3).2 (by decide) (by decide) (XS.iconst X0.here hx rfl (hb hby own_d1_25) k)) ?_
        refine own_retN X0 hx hlk (ty := .boolean) hret (by simp) (hb hby own_d1_26) (by decide) (by decide) ?_
        exact ⟨by rw [own_forb, if_neg hc1, if_neg hc2, if_neg hc3] <;> rfl, e0, rfl⟩
theorem own_pn1 : plainName "com/example/recurve/recurve/http/HttpStatusForbidsContentPinLaw" = true := by first | (simp [plainName, overriddenIn]; done) | decide +kernel
theorem own_pd0 : parseMethodDescriptor "(I)Z" = some ⟨[.int], some .boolean⟩ := by decide +kernel
def own_f0 (x0 : Int32) (x1 : Int32) : Int32 := (if ((1 : Int32) + ((x0 &&& (2147483647 : Int32)) % (9 : Int32))) = (1 : Int32) then (if (own_forb ((((1 : Int32) + ((x0 &&& (2147483647 : Int32)) % (9 : Int32))) * (100 : Int32)) + ((x1 &&& (2147483647 : Int32)) % (100 : Int32)))) = (1 : Int32) then (1 : Int32) else (0 : Int32)) else (if ((x1 &&& (2147483647 : Int32)) % (100 : Int32)) = (4 : Int32) then (if ((1 : Int32) + ((x0 &&& (2147483647 : Int32)) % (9 : Int32))) = (2 : Int32) then (if (own_forb ((((1 : Int32) + ((x0 &&& (2147483647 : Int32)) % (9 : Int32))) * (100 : Int32)) + ((x1 &&& (2147483647 : Int32)) % (100 : Int32)))) = (1 : Int32) then (1 : Int32) else (0 : Int32)) else (if ((1 : Int32) + ((x0 &&& (2147483647 : Int32)) % (9 : Int32))) = (3 : Int32) then (if (own_forb ((((1 : Int32) + ((x0 &&& (2147483647 : Int32)) % (9 : Int32))) * (100 : Int32)) + ((x1 &&& (2147483647 : Int32)) % (100 : Int32)))) = (1 : Int32) then (1 : Int32) else (0 : Int32)) else (if (own_forb ((((1 : Int32) + ((x0 &&& (2147483647 : Int32)) % (9 : Int32))) * (100 : Int32)) + ((x1 &&& (2147483647 : Int32)) % (100 : Int32)))) = (0 : Int32) then (1 : Int32) else (0 : Int32)))) else (if (own_forb ((((1 : Int32) + ((x0 &&& (2147483647 : Int32)) % (9 : Int32))) * (100 : Int32)) + ((x1 &&& (2147483647 : Int32)) % (100 : Int32)))) = (0 : Int32) then (1 : Int32) else (0 : Int32))))
theorem own_ef0 (m : MethodId) (x0 : Int32) (x1 : Int32) : entryFrame m #[(.int x0), (.int x1)] maxLocals = mkF m 0 #[.val (.int x0), .val (.int x1), .unset, .unset, .unset, .unset] [] := by first | rfl | (simp [entryFrame, mkF, argsToLocals, Value.category]; done)
set_option maxRecDepth 65536 in
set_option maxHeartbeats 40000000 in
theorem own_mt0 (l : Launch) (Z : State) (a0 : Array Value) (hw : ∀ d ∈ tables_1, d.before a0 Z = true) (x0 : Int32) (x1 : Int32) (h0 : Heap) :
    own_Met l Z x code maxLocals ret room_1 #[(.int x0), (.int x1)] h0 (fun v h L => v = some (.int (own_f0 x0 x1)) ∧ h = h0 ∧ L = []) := by
  refine own_intro (plainFor_of_name own_pn1) ?_
  intro p e s m below meth c s₁ hx hby hml hown hnm hZ hret hlk X0 e0
  refine own_cast (own_ef0 m x0 x1) ?_
  refine own_via (T' := s₁) (g' := (mkF m 2 #[.val (.int x0), .val (.int x1), .unset, .unset, .unset, .unset] [(.int x0), (.int (1 : Int32))])) (fun t k => XS.iconst X0.here hx rfl (hb hby at_0) (XS.iloadN X0.here hx rfl (hb hby at_1) rfl k)) ?_
  refine own_via (T' := s₁) (g' := (mkF m 4 #[.val (.int x0), .val (.int x1), .unset, .unset, .unset, .unset] [(.int (2147483647 : Int32)), (.int x0), (.int (1 : Int32))])) (X0.ldcInt hx hown (mvT hZ (hw _ (List.mem_of_getElem? (i := 0) rfl))) (g := (mkF m 2 #[.val (.int x0), .val (.int x1), .unset, .unset, .unset, .unset] [(.int x0), (.int (1 : Int32))])) rfl (hb hby at_2)) ?_
  refine own_via (T' := s₁) (g' := (mkF m 11 #[.val (.int x0), .val (.int x1), .val (.int ((1 : Int32) + ((x0 &&& (2147483647 : Int32)) % (9 : Int32)))), .unset, .unset, .unset] [(.int x1)])) (fun t k => XS.iand X0.here hx rfl (hb hby at_4) rfl (XS.bipush X0.here hx rfl (hb hby at_5) (iremM X0 hx rfl (hb hby at_7) rfl (by decide) (XS.iadd X0.here hx rfl (hb hby at_8) rfl (XS.istoreN X0.here hx rfl (hb hby at_9) rfl (l' := #[.val (.int x0), .val (.int x1), .val (.int ((1 : Int32) + ((x0 &&& (2147483647 : Int32)) % (9 : Int32)))), .unset, .unset, .unset]) rfl (XS.iloadN X0.here hx rfl (hb hby at_10) rfl k)))))) ?_
  refine own_via (T' := s₁) (g' := (mkF m 13 #[.val (.int x0), .val (.int x1), .val (.int ((1 : Int32) + ((x0 &&& (2147483647 : Int32)) % (9 : Int32)))), .unset, .unset, .unset] [(.int (2147483647 : Int32)), (.int x1)])) (X0.ldcInt hx hown (mvT hZ (hw _ (List.mem_of_getElem? (i := 0) rfl))) (g := (mkF m 11 #[.val (.int x0), .val (.int x1), .val (.int ((1 : Int32) + ((x0 &&& (2147483647 : Int32)) % (9 : Int32)))), .unset, .unset, .unset] [(.int x1)])) rfl (hb hby at_11)) ?_
  refine own_via (T' := s₁) (g' := (mkF m 26 #[.val (.int x0), .val (.int x1), .val (.int ((1 : Int32) + ((x0 &&& (2147483647 : Int32)) % (9 : Int32)))), .val (.int ((x1 &&& (2147483647 : Int32)) % (100 : Int32))), .val (.int ((((1 : Int32) + ((x0 &&& (2147483647 : Int32)) % (9 : Int32))) * (100 : Int32)) + ((x1 &&& (2147483647 : Int32)) % (100 : Int32)))), .unset] [])) (fun t k => XS.iand X0.here hx rfl (hb hby at_13) rfl (XS.bipush X0.here hx rfl (hb hby at_14) (iremM X0 hx rfl (hb hby at_16) rfl (by decide) (XS.istoreN X0.here hx rfl (hb hby at_17) rfl (l' := #[.val (.int x0), .val (.int x1), .val (.int ((1 : Int32) + ((x0 &&& (2147483647 : Int32)) % (9 : Int32)))), .val (.int ((x1 &&& (2147483647 : Int32)) % (100 : Int32))), .unset, .unset]) rfl (XS.iloadN X0.here hx rfl (hb hby at_18) rfl (XS.bipush X0.here hx rfl (hb hby at_19) (XS.imul X0.here hx rfl (hb hby at_21) rfl (XS.iloadN X0.here hx rfl (hb hby at_22) rfl (XS.iadd X0.here hx rfl (hb hby at_23) rfl (XS.istore X0.here hx rfl (hb hby at_24) rfl (l' := #[.val (.int x0), .val (.int x1), .val (.int ((1 : Int32) + ((x0 &&& (2147483647 : Int32)) % (9 : Int32)))), .val (.int ((x1 &&& (2147483647 : Int32)) % (100 : Int32))), .val (.int ((((1 : Int32) + ((x0 &&& (2147483647 : Int32)) % (9 : Int32))) * (100 : Int32)) + ((x1 &&& (2147483647 : Int32)) % (100 : Int32)))), .unset]) rfl k)))))))))) ?_
  refine own_via (T' := s₁) (g' := (mkF m 28 #[.val (.int x0), .val (.int x1), .val (.int ((1 : Int32) + ((x0 &&& (2147483647 : Int32)) % (9 : Int32)))), .val (.int ((x1 &&& (2147483647 : Int32)) % (100 : Int32))), .val (.int ((((1 : Int32) + ((x0 &&& (2147483647 : Int32)) % (9 : Int32))) * (100 : Int32)) + ((x1 &&& (2147483647 : Int32)) % (100 : Int32)))), .unset] [(.int (1 : Int32)), (.int ((1 : Int32) + ((x0 &&& (2147483647 : Int32)) % (9 : Int32))))])) (fun t k => XS.iloadN X0.here hx rfl (hb hby at_26) rfl (XS.iconst X0.here hx rfl (hb hby at_27) k)) ?_
  by_cases hc1 : ((1 : Int32) + ((x0 &&& (2147483647 : Int32)) % (9 : Int32))) = (1 : Int32)
  · refine own_via (T' := s₁) (g' := (mkF m 63 #[.val (.int x0), .val (.int x1), .val (.int ((1 : Int32) + ((x0 &&& (2147483647 : Int32)) % (9 : Int32)))), .val (.int ((x1 &&& (2147483647 : Int32)) % (100 : Int32))), .val (.int ((((1 : Int32) + ((x0 &&& (2147483647 : Int32)) % (9 : Int32))) * (100 : Int32)) + ((x1 &&& (2147483647 : Int32)) % (100 : Int32)))), .val (.int (1 : Int32))] [(.int ((((1 : Int32) + ((x0 &&& (2147483647 : Int32)) % (9 : Int32))) * (100 : Int32)) + ((x1 &&& (2147483647 : Int32)) % (100 : Int32))))])) (fun t k => XS.icmpNo X0.here hx rfl (hb hby at_28) rfl (teq hc1).2 (XS.iconst X0.here hx rfl (hb hby at_31) (XS.istore X0.here hx rfl (hb hby at_32) rfl (l' := #[.val (.int x0), .val (.int x1), .val (.int ((1 : Int32) + ((x0 &&& (2147483647 : Int32)) % (9 : Int32)))), .val (.int ((x1 &&& (2147483647 : Int32)) % (100 : Int32))), .val (.int ((((1 : Int32) + ((x0 &&& (2147483647 : Int32)) % (9 : Int32))) * (100 : Int32)) + ((x1 &&& (2147483647 : Int32)) % (100 : Int32)))), .val (.int (1 : Int32))]) rfl (XS.goto X0.here hx rfl (pc0 := 34) (pc' := 61) rfl (hb hby at_34) (by decide) (by decide) (XS.iload X0.here hx rfl (hb hby at_61) rfl k))))) ?_
    obtain ⟨v2, T2, L2, X2, hQ2, st2⟩ := own_callSt (y := (⟨"com/example/recurve/recurve/http/HttpStatus", "forbidsContent", "(I)Z"⟩ : MethodName)) (argsL := [(.int ((((1 : Int32) + ((x0 &&& (2147483647 : Int32)) % (9 : Int32))) * (100 : Int32)) + ((x1 &&& (2147483647 : Int32)) % (100 : Int32))))]) (rest := []) X0 hx hZ hown (hw _ (List.mem_of_getElem? (i := 1) rfl)) (hw _ (List.mem_of_getElem? (i := 2) rfl)) (hw _ (List.mem_of_getElem? (i := 3) rfl)) (hw _ (List.mem_of_getElem? (i := 4) rfl)) (by decide) (own_mt1 l Z a0 hw ((((1 : Int32) + ((x0 &&& (2147483647 : Int32)) % (9 : Int32))) * (100 : Int32)) + ((x1 &&& (2147483647 : Int32)) % (100 : Int32))) h0) e0 (W := 0) (by decide) (by decide) (g := (mkF m 63 #[.val (.int x0), .val (.int x1), .val (.int ((1 : Int32) + ((x0 &&& (2147483647 : Int32)) % (9 : Int32)))), .val (.int ((x1 &&& (2147483647 : Int32)) % (100 : Int32))), .val (.int ((((1 : Int32) + ((x0 &&& (2147483647 : Int32)) % (9 : Int32))) * (100 : Int32)) + ((x1 &&& (2147483647 : Int32)) % (100 : Int32)))), .val (.int (1 : Int32))] [(.int ((((1 : Int32) + ((x0 &&& (2147483647 : Int32)) % (9 : Int32))) * (100 : Int32)) + ((x1 &&& (2147483647 : Int32)) % (100 : Int32))))])) rfl (by rw [hml]; rfl) (lenOf own_pd0 rfl) rfl (by show 2 * 0 + _ ≤ _; exact Nat.le_of_eq rfl) (hb hby at_63) (by decide) (by decide)
    obtain ⟨rfl, e2, rfl⟩ := hQ2
    refine own_via (T' := T2) (g' := (mkF m 66 #[.val (.int x0), .val (.int x1), .val (.int ((1 : Int32) + ((x0 &&& (2147483647 : Int32)) % (9 : Int32)))), .val (.int ((x1 &&& (2147483647 : Int32)) % (100 : Int32))), .val (.int ((((1 : Int32) + ((x0 &&& (2147483647 : Int32)) % (9 : Int32))) * (100 : Int32)) + ((x1 &&& (2147483647 : Int32)) % (100 : Int32)))), .val (.int (1 : Int32))] [(.int (own_forb ((((1 : Int32) + ((x0 &&& (2147483647 : Int32)) % (9 : Int32))) * (100 : Int32)) + ((x1 &&& (2147483647 : Int32)) % (100 : Int32)))))])) st2 ?_
    refine own_via (T' := T2) (g' := (mkF m 68 #[.val (.int x0), .val (.int x1), .val (.int ((1 : Int32) + ((x0 &&& (2147483647 : Int32)) % (9 : Int32)))), .val (.int ((x1 &&& (2147483647 : Int32)) % (100 : Int32))), .val (.int ((((1 : Int32) + ((x0 &&& (2147483647 : Int32)) % (9 : Int32))) * (100 : Int32)) + ((x1 &&& (2147483647 : Int32)) % (100 : Int32)))), .val (.int (1 : Int32))] [(.int (1 : Int32)), (.int (own_forb ((((1 : Int32) + ((x0 &&& (2147483647 : Int32)) % (9 : Int32))) * (100 : Int32)) + ((x1 &&& (2147483647 : Int32)) % (100 : Int32)))))])) (fun t k => XS.iload X2.here hx rfl (hb hby at_66) rfl k) ?_
    by_cases hc3 : (own_forb ((((1 : Int32) + ((x0 &&& (2147483647 : Int32)) % (9 : Int32))) * (100 : Int32)) + ((x1 &&& (2147483647 : Int32)) % (100 : Int32)))) = (1 : Int32)
    · refine own_via (T' := T2) (g' := (mkF m 76 #[.val (.int x0), .val (.int x1), .val (.int ((1 : Int32) + ((x0 &&& (2147483647 : Int32)) % (9 : Int32)))), .val (.int ((x1 &&& (2147483647 : Int32)) % (100 : Int32))), .val (.int ((((1 : Int32) + ((x0 &&& (2147483647 : Int32)) % (9 : Int32))) * (100 : Int32)) + ((x1 &&& (2147483647 : Int32)) % (100 : Int32)))), .val (.int (1 : Int32))] [(.int (1 : Int32))])) (fun t k => XS.icmpNo X2.here hx rfl (hb hby at_68) rfl (teq hc3).2 (XS.iconst X2.here hx rfl (hb hby at_71) (XS.goto X2.here hx rfl (pc0 := 72) (pc' := 76) rfl (hb hby at_72) (by decide) (by decide) k))) ?_
      refine own_retN X2 hx hlk (ty := .boolean) hret (by simp) (hb hby at_76) (by decide) (by decide) ?_
      exact ⟨by rw [own_f0, if_pos hc1, if_pos hc3] <;> rfl, e2, rfl⟩
    · refine own_via (T' := T2) (g' := (mkF m 76 #[.val (.int x0), .val (.int x1), .val (.int ((1 : Int32) + ((x0 &&& (2147483647 : Int32)) % (9 : Int32)))), .val (.int ((x1 &&& (2147483647 : Int32)) % (100 : Int32))), .val (.int ((((1 : Int32) + ((x0 &&& (2147483647 : Int32)) % (9 : Int32))) * (100 : Int32)) + ((x1 &&& (2147483647 : Int32)) % (100 : Int32)))), .val (.int (1 : Int32))] [(.int (0 : Int32))])) (fun t k => XS.icmpYes X2.here hx rfl (pc0 := 68) (pc' := 75) rfl (hb hby at_68) rfl (feq hc3).2 (by decide) (by decide) (XS.iconst X2.here hx rfl (hb hby at_75) k)) ?_
      refine own_retN X2 hx hlk (ty := .boolean) hret (by simp) (hb hby at_76) (by decide) (by decide) ?_
      exact ⟨by rw [own_f0, if_pos hc1, if_neg hc3] <;> rfl, e2, rfl⟩
  · refine own_via (T' := s₁) (g' := (mkF m 39 #[.val (.int x0), .val (.int x1), .val (.int ((1 : Int32) + ((x0 &&& (2147483647 : Int32)) % (9 : Int32)))), .val (.int ((x1 &&& (2147483647 : Int32)) % (100 : Int32))), .val (.int ((((1 : Int32) + ((x0 &&& (2147483647 : Int32)) % (9 : Int32))) * (100 : Int32)) + ((x1 &&& (2147483647 : Int32)) % (100 : Int32)))), .unset] [(.int (4 : Int32)), (.int ((x1 &&& (2147483647 : Int32)) % (100 : Int32)))])) (fun t k => XS.icmpYes X0.here hx rfl (pc0 := 28) (pc' := 37) rfl (hb hby at_28) rfl (feq hc1).2 (by decide) (by decide) (XS.iloadN X0.here hx rfl (hb hby at_37) rfl (XS.iconst X0.here hx rfl (hb hby at_38) k))) ?_
    by_cases hc4 : ((x1 &&& (2147483647 : Int32)) % (100 : Int32)) = (4 : Int32)
    · refine own_via (T' := s₁) (g' := (mkF m 44 #[.val (.int x0), .val (.int x1), .val (.int ((1 : Int32) + ((x0 &&& (2147483647 : Int32)) % (9 : Int32)))), .val (.int ((x1 &&& (2147483647 : Int32)) % (100 : Int32))), .val (.int ((((1 : Int32) + ((x0 &&& (2147483647 : Int32)) % (9 : Int32))) * (100 : Int32)) + ((x1 &&& (2147483647 : Int32)) % (100 : Int32)))), .unset] [(.int (2 : Int32)), (.int ((1 : Int32) + ((x0 &&& (2147483647 : Int32)) % (9 : Int32))))])) (fun t k => XS.icmpNo X0.here hx rfl (hb hby at_39) rfl (teq hc4).2 (XS.iloadN X0.here hx rfl (hb hby at_42) rfl (XS.iconst X0.here hx rfl (hb hby at_43) k))) ?_
      by_cases hc5 : ((1 : Int32) + ((x0 &&& (2147483647 : Int32)) % (9 : Int32))) = (2 : Int32)
      · refine own_via (T' := s₁) (g' := (mkF m 63 #[.val (.int x0), .val (.int x1), .val (.int ((1 : Int32) + ((x0 &&& (2147483647 : Int32)) % (9 : Int32)))), .val (.int ((x1 &&& (2147483647 : Int32)) % (100 : Int32))), .val (.int ((((1 : Int32) + ((x0 &&& (2147483647 : Int32)) % (9 : Int32))) * (100 : Int32)) + ((x1 &&& (2147483647 : Int32)) % (100 : Int32)))), .val (.int (1 : Int32))] [(.int ((((1 : Int32) + ((x0 &&& (2147483647 : Int32)) % (9 : Int32))) * (100 : Int32)) + ((x1 &&& (2147483647 : Int32)) % (100 : Int32))))])) (fun t k => XS.icmpYes X0.here hx rfl (pc0 := 44) (pc' := 52) rfl (hb hby at_44) rfl (teq hc5).1 (by decide) (by decide) (XS.iconst X0.here hx rfl (hb hby at_52) (XS.istore X0.here hx rfl (hb hby at_53) rfl (l' := #[.val (.int x0), .val (.int x1), .val (.int ((1 : Int32) + ((x0 &&& (2147483647 : Int32)) % (9 : Int32)))), .val (.int ((x1 &&& (2147483647 : Int32)) % (100 : Int32))), .val (.int ((((1 : Int32) + ((x0 &&& (2147483647 : Int32)) % (9 : Int32))) * (100 : Int32)) + ((x1 &&& (2147483647 : Int32)) % (100 : Int32)))), .val (.int (1 : Int32))]) rfl (XS.goto X0.here hx rfl (pc0 := 55) (pc' := 61) rfl (hb hby at_55) (by decide) (by decide) (XS.iload X0.here hx rfl (hb hby at_61) rfl k))))) ?_
        obtain ⟨v6, T6, L6, X6, hQ6, st6⟩ := own_callSt (y := (⟨"com/example/recurve/recurve/http/HttpStatus", "forbidsContent", "(I)Z"⟩ : MethodName)) (argsL := [(.int ((((1 : Int32) + ((x0 &&& (2147483647 : Int32)) % (9 : Int32))) * (100 : Int32)) + ((x1 &&& (2147483647 : Int32)) % (100 : Int32))))]) (rest := []) X0 hx hZ hown (hw _ (List.mem_of_getElem? (i := 1) rfl)) (hw _ (List.mem_of_getElem? (i := 2) rfl)) (hw _ (List.mem_of_getElem? (i := 3) rfl)) (hw _ (List.mem_of_getElem? (i := 4) rfl)) (by decide) (own_mt1 l Z a0 hw ((((1 : Int32) + ((x0 &&& (2147483647 : Int32)) % (9 : Int32))) * (100 : Int32)) + ((x1 &&& (2147483647 : Int32)) % (100 : Int32))) h0) e0 (W := 0) (by decide) (by decide) (g := (mkF m 63 #[.val (.int x0), .val (.int x1), .val (.int ((1 : Int32) + ((x0 &&& (2147483647 : Int32)) % (9 : Int32)))), .val (.int ((x1 &&& (2147483647 : Int32)) % (100 : Int32))), .val (.int ((((1 : Int32) + ((x0 &&& (2147483647 : Int32)) % (9 : Int32))) * (100 : Int32)) + ((x1 &&& (2147483647 : Int32)) % (100 : Int32)))), .val (.int (1 : Int32))] [(.int ((((1 : Int32) + ((x0 &&& (2147483647 : Int32)) % (9 : Int32))) * (100 : Int32)) + ((x1 &&& (2147483647 : Int32)) % (100 : Int32))))])) rfl (by rw [hml]; rfl) (lenOf own_pd0 rfl) rfl (by show 2 * 0 + _ ≤ _; exact Nat.le_of_eq rfl) (hb hby at_63) (by decide) (by decide)
        obtain ⟨rfl, e6, rfl⟩ := hQ6
        refine own_via (T' := T6) (g' := (mkF m 66 #[.val (.int x0), .val (.int x1), .val (.int ((1 : Int32) + ((x0 &&& (2147483647 : Int32)) % (9 : Int32)))), .val (.int ((x1 &&& (2147483647 : Int32)) % (100 : Int32))), .val (.int ((((1 : Int32) + ((x0 &&& (2147483647 : Int32)) % (9 : Int32))) * (100 : Int32)) + ((x1 &&& (2147483647 : Int32)) % (100 : Int32)))), .val (.int (1 : Int32))] [(.int (own_forb ((((1 : Int32) + ((x0 &&& (2147483647 : Int32)) % (9 : Int32))) * (100 : Int32)) + ((x1 &&& (2147483647 : Int32)) % (100 : Int32)))))])) st6 ?_
        refine own_via (T' := T6) (g' := (mkF m 68 #[.val (.int x0), .val (.int x1), .val (.int ((1 : Int32) + ((x0 &&& (2147483647 : Int32)) % (9 : Int32)))), .val (.int ((x1 &&& (2147483647 : Int32)) % (100 : Int32))), .val (.int ((((1 : Int32) + ((x0 &&& (2147483647 : Int32)) % (9 : Int32))) * (100 : Int32)) + ((x1 &&& (2147483647 : Int32)) % (100 : Int32)))), .val (.int (1 : Int32))] [(.int (1 : Int32)), (.int (own_forb ((((1 : Int32) + ((x0 &&& (2147483647 : Int32)) % (9 : Int32))) * (100 : Int32)) + ((x1 &&& (2147483647 : Int32)) % (100 : Int32)))))])) (fun t k => XS.iload X6.here hx rfl (hb hby at_66) rfl k) ?_
        by_cases hc7 : (own_forb ((((1 : Int32) + ((x0 &&& (2147483647 : Int32)) % (9 : Int32))) * (100 : Int32)) + ((x1 &&& (2147483647 : Int32)) % (100 : Int32)))) = (1 : Int32)
        · refine own_via (T' := T6) (g' := (mkF m 76 #[.val (.int x0), .val (.int x1), .val (.int ((1 : Int32) + ((x0 &&& (2147483647 : Int32)) % (9 : Int32)))), .val (.int ((x1 &&& (2147483647 : Int32)) % (100 : Int32))), .val (.int ((((1 : Int32) + ((x0 &&& (2147483647 : Int32)) % (9 : Int32))) * (100 : Int32)) + ((x1 &&& (2147483647 : Int32)) % (100 : Int32)))), .val (.int (1 : Int32))] [(.int (1 : Int32))])) (fun t k => XS.icmpNo X6.here hx rfl (hb hby at_68) rfl (teq hc7).2 (XS.iconst X6.here hx rfl (hb hby at_71) (XS.goto X6.here hx rfl (pc0 := 72) (pc' := 76) rfl (hb hby at_72) (by decide) (by decide) k))) ?_
          refine own_retN X6 hx hlk (ty := .boolean) hret (by simp) (hb hby at_76) (by decide) (by decide) ?_
          exact ⟨by rw [own_f0, if_neg hc1, if_pos hc4, if_pos hc5, if_pos hc7] <;> rfl, e6, rfl⟩
        · refine own_via (T' := T6) (g' := (mkF m 76 #[.val (.int x0), .val (.int x1), .val (.int ((1 : Int32) + ((x0 &&& (2147483647 : Int32)) % (9 : Int32)))), .val (.int ((x1 &&& (2147483647 : Int32)) % (100 : Int32))), .val (.int ((((1 : Int32) + ((x0 &&& (2147483647 : Int32)) % (9 : Int32))) * (100 : Int32)) + ((x1 &&& (2147483647 : Int32)) % (100 : Int32)))), .val (.int (1 : Int32))] [(.int (0 : Int32))])) (fun t k => XS.icmpYes X6.here hx rfl (pc0 := 68) (pc' := 75) rfl (hb hby at_68) rfl (feq hc7).2 (by decide) (by decide) (XS.iconst X6.here hx rfl (hb hby at_75) k)) ?_
          refine own_retN X6 hx hlk (ty := .boolean) hret (by simp) (hb hby at_76) (by decide) (by decide) ?_
          exact ⟨by rw [own_f0, if_neg hc1, if_pos hc4, if_pos hc5, if_neg hc7] <;> rfl, e6, rfl⟩
      · refine own_via (T' := s₁) (g' := (mkF m 49 #[.val (.int x0), .val (.int x1), .val (.int ((1 : Int32) + ((x0 &&& (2147483647 : Int32)) % (9 : Int32)))), .val (.int ((x1 &&& (2147483647 : Int32)) % (100 : Int32))), .val (.int ((((1 : Int32) + ((x0 &&& (2147483647 : Int32)) % (9 : Int32))) * (100 : Int32)) + ((x1 &&& (2147483647 : Int32)) % (100 : Int32)))), .unset] [(.int (3 : Int32)), (.int ((1 : Int32) + ((x0 &&& (2147483647 : Int32)) % (9 : Int32))))])) (fun t k => XS.icmpNo X0.here hx rfl (hb hby at_44) rfl (feq hc5).1 (XS.iloadN X0.here hx rfl (hb hby at_47) rfl (XS.iconst X0.here hx rfl (hb hby at_48) k))) ?_
        by_cases hc8 : ((1 : Int32) + ((x0 &&& (2147483647 : Int32)) % (9 : Int32))) = (3 : Int32)
        · refine own_via (T' := s₁) (g' := (mkF m 63 #[.val (.int x0), .val (.int x1), .val (.int ((1 : Int32) + ((x0 &&& (2147483647 : Int32)) % (9 : Int32)))), .val (.int ((x1 &&& (2147483647 : Int32)) % (100 : Int32))), .val (.int ((((1 : Int32) + ((x0 &&& (2147483647 : Int32)) % (9 : Int32))) * (100 : Int32)) + ((x1 &&& (2147483647 : Int32)) % (100 : Int32)))), .val (.int (1 : Int32))] [(.int ((((1 : Int32) + ((x0 &&& (2147483647 : Int32)) % (9 : Int32))) * (100 : Int32)) + ((x1 &&& (2147483647 : Int32)) % (100 : Int32))))])) (fun t k => XS.icmpNo X0.here hx rfl (hb hby at_49) rfl (teq hc8).2 (XS.iconst X0.here hx rfl (hb hby at_52) (XS.istore X0.here hx rfl (hb hby at_53) rfl (l' := #[.val (.int x0), .val (.int x1), .val (.int ((1 : Int32) + ((x0 &&& (2147483647 : Int32)) % (9 : Int32)))), .val (.int ((x1 &&& (2147483647 : Int32)) % (100 : Int32))), .val (.int ((((1 : Int32) + ((x0 &&& (2147483647 : Int32)) % (9 : Int32))) * (100 : Int32)) + ((x1 &&& (2147483647 : Int32)) % (100 : Int32)))), .val (.int (1 : Int32))]) rfl (XS.goto X0.here hx rfl (pc0 := 55) (pc' := 61) rfl (hb hby at_55) (by decide) (by decide) (XS.iload X0.here hx rfl (hb hby at_61) rfl k))))) ?_
          obtain ⟨v9, T9, L9, X9, hQ9, st9⟩ := own_callSt (y := (⟨"com/example/recurve/recurve/http/HttpStatus", "forbidsContent", "(I)Z"⟩ : MethodName)) (argsL := [(.int ((((1 : Int32) + ((x0 &&& (2147483647 : Int32)) % (9 : Int32))) * (100 : Int32)) + ((x1 &&& (2147483647 : Int32)) % (100 : Int32))))]) (rest := []) X0 hx hZ hown (hw _ (List.mem_of_getElem? (i := 1) rfl)) (hw _ (List.mem_of_getElem? (i := 2) rfl)) (hw _ (List.mem_of_getElem? (i := 3) rfl)) (hw _ (List.mem_of_getElem? (i := 4) rfl)) (by decide) (own_mt1 l Z a0 hw ((((1 : Int32) + ((x0 &&& (2147483647 : Int32)) % (9 : Int32))) * (100 : Int32)) + ((x1 &&& (2147483647 : Int32)) % (100 : Int32))) h0) e0 (W := 0) (by decide) (by decide) (g := (mkF m 63 #[.val (.int x0), .val (.int x1), .val (.int ((1 : Int32) + ((x0 &&& (2147483647 : Int32)) % (9 : Int32)))), .val (.int ((x1 &&& (2147483647 : Int32)) % (100 : Int32))), .val (.int ((((1 : Int32) + ((x0 &&& (2147483647 : Int32)) % (9 : Int32))) * (100 : Int32)) + ((x1 &&& (2147483647 : Int32)) % (100 : Int32)))), .val (.int (1 : Int32))] [(.int ((((1 : Int32) + ((x0 &&& (2147483647 : Int32)) % (9 : Int32))) * (100 : Int32)) + ((x1 &&& (2147483647 : Int32)) % (100 : Int32))))])) rfl (by rw [hml]; rfl) (lenOf own_pd0 rfl) rfl (by show 2 * 0 + _ ≤ _; exact Nat.le_of_eq rfl) (hb hby at_63) (by decide) (by decide)
          obtain ⟨rfl, e9, rfl⟩ := hQ9
          refine own_via (T' := T9) (g' := (mkF m 66 #[.val (.int x0), .val (.int x1), .val (.int ((1 : Int32) + ((x0 &&& (2147483647 : Int32)) % (9 : Int32)))), .val (.int ((x1 &&& (2147483647 : Int32)) % (100 : Int32))), .val (.int ((((1 : Int32) + ((x0 &&& (2147483647 : Int32)) % (9 : Int32))) * (100 : Int32)) + ((x1 &&& (2147483647 : Int32)) % (100 : Int32)))), .val (.int (1 : Int32))] [(.int (own_forb ((((1 : Int32) + ((x0 &&& (2147483647 : Int32)) % (9 : Int32))) * (100 : Int32)) + ((x1 &&& (2147483647 : Int32)) % (100 : Int32)))))])) st9 ?_
          refine own_via (T' := T9) (g' := (mkF m 68 #[.val (.int x0), .val (.int x1), .val (.int ((1 : Int32) + ((x0 &&& (2147483647 : Int32)) % (9 : Int32)))), .val (.int ((x1 &&& (2147483647 : Int32)) % (100 : Int32))), .val (.int ((((1 : Int32) + ((x0 &&& (2147483647 : Int32)) % (9 : Int32))) * (100 : Int32)) + ((x1 &&& (2147483647 : Int32)) % (100 : Int32)))), .val (.int (1 : Int32))] [(.int (1 : Int32)), (.int (own_forb ((((1 : Int32) + ((x0 &&& (2147483647 : Int32)) % (9 : Int32))) * (100 : Int32)) + ((x1 &&& (2147483647 : Int32)) % (100 : Int32)))))])) (fun t k => XS.iload X9.here hx rfl (hb hby at_66) rfl k) ?_
          by_cases hc10 : (own_forb ((((1 : Int32) + ((x0 &&& (2147483647 : Int32)) % (9 : Int32))) * (100 : Int32)) + ((x1 &&& (2147483647 : Int32)) % (100 : Int32)))) = (1 : Int32)
          · refine own_via (T' := T9) (g' := (mkF m 76 #[.val (.int x0), .val (.int x1), .val (.int ((1 : Int32) + ((x0 &&& (2147483647 : Int32)) % (9 : Int32)))), .val (.int ((x1 &&& (2147483647 : Int32)) % (100 : Int32))), .val (.int ((((1 : Int32) + ((x0 &&& (2147483647 : Int32)) % (9 : Int32))) * (100 : Int32)) + ((x1 &&& (2147483647 : Int32)) % (100 : Int32)))), .val (.int (1 : Int32))] [(.int (1 : Int32))])) (fun t k => XS.icmpNo X9.here hx rfl (hb hby at_68) rfl (teq hc10).2 (XS.iconst X9.here hx rfl (hb hby at_71) (XS.goto X9.here hx rfl (pc0 := 72) (pc' := 76) rfl (hb hby at_72) (by decide) (by decide) k))) ?_
            refine own_retN X9 hx hlk (ty := .boolean) hret (by simp) (hb hby at_76) (by decide) (by decide) ?_
            exact ⟨by rw [own_f0, if_neg hc1, if_pos hc4, if_neg hc5, if_pos hc8, if_pos hc10] <;> rfl, e9, rfl⟩
          · refine own_via (T' := T9) (g' := (mkF m 76 #[.val (.int x0), .val (.int x1), .val (.int ((1 : Int32) + ((x0 &&& (2147483647 : Int32)) % (9 : Int32)))), .val (.int ((x1 &&& (2147483647 : Int32)) % (100 : Int32))), .val (.int ((((1 : Int32) + ((x0 &&& (2147483647 : Int32)) % (9 : Int32))) * (100 : Int32)) + ((x1 &&& (2147483647 : Int32)) % (100 : Int32)))), .val (.int (1 : Int32))] [(.int (0 : Int32))])) (fun t k => XS.icmpYes X9.here hx rfl (pc0 := 68) (pc' := 75) rfl (hb hby at_68) rfl (feq hc10).2 (by decide) (by decide) (XS.iconst X9.here hx rfl (hb hby at_75) k)) ?_
            refine own_retN X9 hx hlk (ty := .boolean) hret (by simp) (hb hby at_76) (by decide) (by decide) ?_
            exact ⟨by rw [own_f0, if_neg hc1, if_pos hc4, if_neg hc5, if_pos hc8, if_neg hc10] <;> rfl, e9, rfl⟩
        · refine own_via (T' := s₁) (g' := (mkF m 63 #[.val (.int x0), .val (.int x1), .val (.int ((1 : Int32) + ((x0 &&& (2147483647 : Int32)) % (9 : Int32)))), .val (.int ((x1 &&& (2147483647 : Int32)) % (100 : Int32))), .val (.int ((((1 : Int32) + ((x0 &&& (2147483647 : Int32)) % (9 : Int32))) * (100 : Int32)) + ((x1 &&& (2147483647 : Int32)) % (100 : Int32)))), .val (.int (0 : Int32))] [(.int ((((1 : Int32) + ((x0 &&& (2147483647 : Int32)) % (9 : Int32))) * (100 : Int32)) + ((x1 &&& (2147483647 : Int32)) % (100 : Int32))))])) (fun t k => XS.icmpYes X0.here hx rfl (pc0 := 49) (pc' := 58) rfl (hb hby at_49) rfl (feq hc8).2 (by decide) (by decide) (XS.iconst X0.here hx rfl (hb hby at_58) (XS.istore X0.here hx rfl (hb hby at_59) rfl (l' := #[.val (.int x0), .val (.int x1), .val (.int ((1 : Int32) + ((x0 &&& (2147483647 : Int32)) % (9 : Int32)))), .val (.int ((x1 &&& (2147483647 : Int32)) % (100 : Int32))), .val (.int ((((1 : Int32) + ((x0 &&& (2147483647 : Int32)) % (9 : Int32))) * (100 : Int32)) + ((x1 &&& (2147483647 : Int32)) % (100 : Int32)))), .val (.int (0 : Int32))]) rfl (XS.iload X0.here hx rfl (hb hby at_61) rfl k)))) ?_
          obtain ⟨v11, T11, L11, X11, hQ11, st11⟩ := own_callSt (y := (⟨"com/example/recurve/recurve/http/HttpStatus", "forbidsContent", "(I)Z"⟩ : MethodName)) (argsL := [(.int ((((1 : Int32) + ((x0 &&& (2147483647 : Int32)) % (9 : Int32))) * (100 : Int32)) + ((x1 &&& (2147483647 : Int32)) % (100 : Int32))))]) (rest := []) X0 hx hZ hown (hw _ (List.mem_of_getElem? (i := 1) rfl)) (hw _ (List.mem_of_getElem? (i := 2) rfl)) (hw _ (List.mem_of_getElem? (i := 3) rfl)) (hw _ (List.mem_of_getElem? (i := 4) rfl)) (by decide) (own_mt1 l Z a0 hw ((((1 : Int32) + ((x0 &&& (2147483647 : Int32)) % (9 : Int32))) * (100 : Int32)) + ((x1 &&& (2147483647 : Int32)) % (100 : Int32))) h0) e0 (W := 0) (by decide) (by decide) (g := (mkF m 63 #[.val (.int x0), .val (.int x1), .val (.int ((1 : Int32) + ((x0 &&& (2147483647 : Int32)) % (9 : Int32)))), .val (.int ((x1 &&& (2147483647 : Int32)) % (100 : Int32))), .val (.int ((((1 : Int32) + ((x0 &&& (2147483647 : Int32)) % (9 : Int32))) * (100 : Int32)) + ((x1 &&& (2147483647 : Int32)) % (100 : Int32)))), .val (.int (0 : Int32))] [(.int ((((1 : Int32) + ((x0 &&& (2147483647 : Int32)) % (9 : Int32))) * (100 : Int32)) + ((x1 &&& (2147483647 : Int32)) % (100 : Int32))))])) rfl (by rw [hml]; rfl) (lenOf own_pd0 rfl) rfl (by show 2 * 0 + _ ≤ _; exact Nat.le_of_eq rfl) (hb hby at_63) (by decide) (by decide)
          obtain ⟨rfl, e11, rfl⟩ := hQ11
          refine own_via (T' := T11) (g' := (mkF m 66 #[.val (.int x0), .val (.int x1), .val (.int ((1 : Int32) + ((x0 &&& (2147483647 : Int32)) % (9 : Int32)))), .val (.int ((x1 &&& (2147483647 : Int32)) % (100 : Int32))), .val (.int ((((1 : Int32) + ((x0 &&& (2147483647 : Int32)) % (9 : Int32))) * (100 : Int32)) + ((x1 &&& (2147483647 : Int32)) % (100 : Int32)))), .val (.int (0 : Int32))] [(.int (own_forb ((((1 : Int32) + ((x0 &&& (2147483647 : Int32)) % (9 : Int32))) * (100 : Int32)) + ((x1 &&& (2147483647 : Int32)) % (100 : Int32)))))])) st11 ?_
          refine own_via (T' := T11) (g' := (mkF m 68 #[.val (.int x0), .val (.int x1), .val (.int ((1 : Int32) + ((x0 &&& (2147483647 : Int32)) % (9 : Int32)))), .val (.int ((x1 &&& (2147483647 : Int32)) % (100 : Int32))), .val (.int ((((1 : Int32) + ((x0 &&& (2147483647 : Int32)) % (9 : Int32))) * (100 : Int32)) + ((x1 &&& (2147483647 : Int32)) % (100 : Int32)))), .val (.int (0 : Int32))] [(.int (0 : Int32)), (.int (own_forb ((((1 : Int32) + ((x0 &&& (2147483647 : Int32)) % (9 : Int32))) * (100 : Int32)) + ((x1 &&& (2147483647 : Int32)) % (100 : Int32)))))])) (fun t k => XS.iload X11.here hx rfl (hb hby at_66) rfl k) ?_
          by_cases hc12 : (own_forb ((((1 : Int32) + ((x0 &&& (2147483647 : Int32)) % (9 : Int32))) * (100 : Int32)) + ((x1 &&& (2147483647 : Int32)) % (100 : Int32)))) = (0 : Int32)
          · refine own_via (T' := T11) (g' := (mkF m 76 #[.val (.int x0), .val (.int x1), .val (.int ((1 : Int32) + ((x0 &&& (2147483647 : Int32)) % (9 : Int32)))), .val (.int ((x1 &&& (2147483647 : Int32)) % (100 : Int32))), .val (.int ((((1 : Int32) + ((x0 &&& (2147483647 : Int32)) % (9 : Int32))) * (100 : Int32)) + ((x1 &&& (2147483647 : Int32)) % (100 : Int32)))), .val (.int (0 : Int32))] [(.int (1 : Int32))])) (fun t k => XS.icmpNo X11.here hx rfl (hb hby at_68) rfl (teq hc12).2 (XS.iconst X11.here hx rfl (hb hby at_71) (XS.goto X11.here hx rfl (pc0 := 72) (pc' := 76) rfl (hb hby at_72) (by decide) (by decide) k))) ?_
            refine own_retN X11 hx hlk (ty := .boolean) hret (by simp) (hb hby at_76) (by decide) (by decide) ?_
            exact ⟨by rw [own_f0, if_neg hc1, if_pos hc4, if_neg hc5, if_neg hc8, if_pos hc12] <;> rfl, e11, rfl⟩
          · refine own_via (T' := T11) (g' := (mkF m 76 #[.val (.int x0), .val (.int x1), .val (.int ((1 : Int32) + ((x0 &&& (2147483647 : Int32)) % (9 : Int32)))), .val (.int ((x1 &&& (2147483647 : Int32)) % (100 : Int32))), .val (.int ((((1 : Int32) + ((x0 &&& (2147483647 : Int32)) % (9 : Int32))) * (100 : Int32)) + ((x1 &&& (2147483647 : Int32)) % (100 : Int32)))), .val (.int (0 : Int32))] [(.int (0 : Int32))])) (fun t k => XS.icmpYes X11.here hx rfl (pc0 := 68) (pc' := 75) rfl (hb hby at_68) rfl (feq hc12).2 (by decide) (by decide) (XS.iconst X11.here hx rfl (hb hby at_75) k)) ?_
            refine own_retN X11 hx hlk (ty := .boolean) hret (by simp) (hb hby at_76) (by decide) (by decide) ?_
            exact ⟨by rw [own_f0, if_neg hc1, if_pos hc4, if_neg hc5, if_neg hc8, if_neg hc12] <;> rfl, e11, rfl⟩
    · refine own_via (T' := s₁) (g' := (mkF m 63 #[.val (.int x0), .val (.int x1), .val (.int ((1 : Int32) + ((x0 &&& (2147483647 : Int32)) % (9 : Int32)))), .val (.int ((x1 &&& (2147483647 : Int32)) % (100 : Int32))), .val (.int ((((1 : Int32) + ((x0 &&& (2147483647 : Int32)) % (9 : Int32))) * (100 : Int32)) + ((x1 &&& (2147483647 : Int32)) % (100 : Int32)))), .val (.int (0 : Int32))] [(.int ((((1 : Int32) + ((x0 &&& (2147483647 : Int32)) % (9 : Int32))) * (100 : Int32)) + ((x1 &&& (2147483647 : Int32)) % (100 : Int32))))])) (fun t k => XS.icmpYes X0.here hx rfl (pc0 := 39) (pc' := 58) rfl (hb hby at_39) rfl (feq hc4).2 (by decide) (by decide) (XS.iconst X0.here hx rfl (hb hby at_58) (XS.istore X0.here hx rfl (hb hby at_59) rfl (l' := #[.val (.int x0), .val (.int x1), .val (.int ((1 : Int32) + ((x0 &&& (2147483647 : Int32)) % (9 : Int32)))), .val (.int ((x1 &&& (2147483647 : Int32)) % (100 : Int32))), .val (.int ((((1 : Int32) + ((x0 &&& (2147483647 : Int32)) % (9 : Int32))) * (100 : Int32)) + ((x1 &&& (2147483647 : Int32)) % (100 : Int32)))), .val (.int (0 : Int32))]) rfl (XS.iload X0.here hx rfl (hb hby at_61) rfl k)))) ?_
      obtain ⟨v13, T13, L13, X13, hQ13, st13⟩ := own_callSt (y := (⟨"com/example/recurve/recurve/http/HttpStatus", "forbidsContent", "(I)Z"⟩ : MethodName)) (argsL := [(.int ((((1 : Int32) + ((x0 &&& (2147483647 : Int32)) % (9 : Int32))) * (100 : Int32)) + ((x1 &&& (2147483647 : Int32)) % (100 : Int32))))]) (rest := []) X0 hx hZ hown (hw _ (List.mem_of_getElem? (i := 1) rfl)) (hw _ (List.mem_of_getElem? (i := 2) rfl)) (hw _ (List.mem_of_getElem? (i := 3) rfl)) (hw _ (List.mem_of_getElem? (i := 4) rfl)) (by decide) (own_mt1 l Z a0 hw ((((1 : Int32) + ((x0 &&& (2147483647 : Int32)) % (9 : Int32))) * (100 : Int32)) + ((x1 &&& (2147483647 : Int32)) % (100 : Int32))) h0) e0 (W := 0) (by decide) (by decide) (g := (mkF m 63 #[.val (.int x0), .val (.int x1), .val (.int ((1 : Int32) + ((x0 &&& (2147483647 : Int32)) % (9 : Int32)))), .val (.int ((x1 &&& (2147483647 : Int32)) % (100 : Int32))), .val (.int ((((1 : Int32) + ((x0 &&& (2147483647 : Int32)) % (9 : Int32))) * (100 : Int32)) + ((x1 &&& (2147483647 : Int32)) % (100 : Int32)))), .val (.int (0 : Int32))] [(.int ((((1 : Int32) + ((x0 &&& (2147483647 : Int32)) % (9 : Int32))) * (100 : Int32)) + ((x1 &&& (2147483647 : Int32)) % (100 : Int32))))])) rfl (by rw [hml]; rfl) (lenOf own_pd0 rfl) rfl (by show 2 * 0 + _ ≤ _; exact Nat.le_of_eq rfl) (hb hby at_63) (by decide) (by decide)
      obtain ⟨rfl, e13, rfl⟩ := hQ13
      refine own_via (T' := T13) (g' := (mkF m 66 #[.val (.int x0), .val (.int x1), .val (.int ((1 : Int32) + ((x0 &&& (2147483647 : Int32)) % (9 : Int32)))), .val (.int ((x1 &&& (2147483647 : Int32)) % (100 : Int32))), .val (.int ((((1 : Int32) + ((x0 &&& (2147483647 : Int32)) % (9 : Int32))) * (100 : Int32)) + ((x1 &&& (2147483647 : Int32)) % (100 : Int32)))), .val (.int (0 : Int32))] [(.int (own_forb ((((1 : Int32) + ((x0 &&& (2147483647 : Int32)) % (9 : Int32))) * (100 : Int32)) + ((x1 &&& (2147483647 : Int32)) % (100 : Int32)))))])) st13 ?_
      refine own_via (T' := T13) (g' := (mkF m 68 #[.val (.int x0), .val (.int x1), .val (.int ((1 : Int32) + ((x0 &&& (2147483647 : Int32)) % (9 : Int32)))), .val (.int ((x1 &&& (2147483647 : Int32)) % (100 : Int32))), .val (.int ((((1 : Int32) + ((x0 &&& (2147483647 : Int32)) % (9 : Int32))) * (100 : Int32)) + ((x1 &&& (2147483647 : Int32)) % (100 : Int32)))), .val (.int (0 : Int32))] [(.int (0 : Int32)), (.int (own_forb ((((1 : Int32) + ((x0 &&& (2147483647 : Int32)) % (9 : Int32))) * (100 : Int32)) + ((x1 &&& (2147483647 : Int32)) % (100 : Int32)))))])) (fun t k => XS.iload X13.here hx rfl (hb hby at_66) rfl k) ?_
      by_cases hc14 : (own_forb ((((1 : Int32) + ((x0 &&& (2147483647 : Int32)) % (9 : Int32))) * (100 : Int32)) + ((x1 &&& (2147483647 : Int32)) % (100 : Int32)))) = (0 : Int32)
      · refine own_via (T' := T13) (g' := (mkF m 76 #[.val (.int x0), .val (.int x1), .val (.int ((1 : Int32) + ((x0 &&& (2147483647 : Int32)) % (9 : Int32)))), .val (.int ((x1 &&& (2147483647 : Int32)) % (100 : Int32))), .val (.int ((((1 : Int32) + ((x0 &&& (2147483647 : Int32)) % (9 : Int32))) * (100 : Int32)) + ((x1 &&& (2147483647 : Int32)) % (100 : Int32)))), .val (.int (0 : Int32))] [(.int (1 : Int32))])) (fun t k => XS.icmpNo X13.here hx rfl (hb hby at_68) rfl (teq hc14).2 (XS.iconst X13.here hx rfl (hb hby at_71) (XS.goto X13.here hx rfl (pc0 := 72) (pc' := 76) rfl (hb hby at_72) (by decide) (by decide) k))) ?_
        refine own_retN X13 hx hlk (ty := .boolean) hret (by simp) (hb hby at_76) (by decide) (by decide) ?_
        exact ⟨by rw [own_f0, if_neg hc1, if_neg hc4, if_pos hc14] <;> rfl, e13, rfl⟩
      · refine own_via (T' := T13) (g' := (mkF m 76 #[.val (.int x0), .val (.int x1), .val (.int ((1 : Int32) + ((x0 &&& (2147483647 : Int32)) % (9 : Int32)))), .val (.int ((x1 &&& (2147483647 : Int32)) % (100 : Int32))), .val (.int ((((1 : Int32) + ((x0 &&& (2147483647 : Int32)) % (9 : Int32))) * (100 : Int32)) + ((x1 &&& (2147483647 : Int32)) % (100 : Int32)))), .val (.int (0 : Int32))] [(.int (0 : Int32))])) (fun t k => XS.icmpYes X13.here hx rfl (pc0 := 68) (pc' := 75) rfl (hb hby at_68) rfl (feq hc14).2 (by decide) (by decide) (XS.iconst X13.here hx rfl (hb hby at_75) k)) ?_
        refine own_retN X13 hx hlk (ty := .boolean) hret (by simp) (hb hby at_76) (by decide) (by decide) ?_
        exact ⟨by rw [own_f0, if_neg hc1, if_neg hc4, if_neg hc14] <;> rfl, e13, rfl⟩
theorem own_char (x0 : Int32) : own_forb x0 = if (x0.toInt < 200 ∨ x0.toInt = 204 ∨ x0.toInt = 304) then 1 else 0 := by
  unfold own_forb
  simp only [Int32.lt_iff_toInt_lt, ← Int32.toInt_inj]
  repeat' split
  all_goals first | rfl | (exfalso; simp at *; done) | (exfalso; simp at *; omega)
theorem own_law (x0 x1 : Int32) : own_f0 x0 x1 = 1 := by
  have e1 : (x0 &&& (2147483647 : Int32)).toInt = x0.toInt % (2 ^ 31 : Nat) := c_mask x0 2147483647 31 (by decide) (by decide)
  have e2 : ((x0 &&& (2147483647 : Int32)) % (9 : Int32)).toInt = (x0 &&& (2147483647 : Int32)).toInt % 9 := (c_irem _ 9 9 (by decide)).1 (by omega)
  have e3 : (x1 &&& (2147483647 : Int32)).toInt = x1.toInt % (2 ^ 31 : Nat) := c_mask x1 2147483647 31 (by decide) (by decide)
  have e4 : ((x1 &&& (2147483647 : Int32)) % (100 : Int32)).toInt = (x1 &&& (2147483647 : Int32)).toInt % 100 := (c_irem _ 100 100 (by decide)).1 (by omega)
  unfold own_f0
  generalize ((x0 &&& (2147483647 : Int32)) % (9 : Int32)) = a at *
  generalize ((x1 &&& (2147483647 : Int32)) % (100 : Int32)) = b at *
  have q1 := c_iadd 1 a
  have q2 := rng32 ((1 : Int32) + a)
  have k1 : (1 : Int32).toInt = 1 := by decide
  have k2 : (100 : Int32).toInt = 100 := by decide
  have r1 : ((1 : Int32) + a).toInt = 1 + a.toInt := by omega
  generalize ((1 : Int32) + a) = d at *
  have q3 := c_imul d 100
  have q4 := rng32 (d * 100)
  have r2 : (d * 100).toInt = 100 * d.toInt := by rw [k2] at q3; omega
  have q5 := c_iadd (d * 100) b
  have q6 := rng32 (d * 100 + b)
  have r3 : (d * 100 + b).toInt = 100 * d.toInt + b.toInt := by omega
  generalize (d * 100 + b) = s at *
  rw [own_char]
  simp only [Int32.lt_iff_toInt_lt, ← Int32.toInt_inj]
  clear q1 q2 q3 q4 q5 q6
  repeat' split
  all_goals first | rfl | (exfalso; simp at *; done) | (exfalso; simp at *; omega)
set_option maxRecDepth 65536 in
set_option maxHeartbeats 40000000 in
theorem own_comes {Post : Tables → Env → Array Value → State → Outcome → State → Prop} (hpost : ∀ tb e args s v u, (limb_1_1.after args s (.returned v) u = true ∧ limb_1_2.after args s (.returned v) u = true ∧ True) → FrameEnd s (.returned v) u (Jvm.fieldLocs frame_1_writes args s ++ Jvm.arrayLocs frame_1_arrays args s ++ Jvm.staticLocs frame_1_statics s) 0 0 → Post tb e args s (.returned v) u) :
    ArmFor flags0 classFile x code maxLocals ret World_1 tables_1 room_1 Calls_1 rest_1 Pre_1 Post := by
  intro l hfl _ _ p e ha hc hk s m args below hf hA hF happ hP
  obtain ⟨hcalls, hrest, hpre⟩ := hP
  obtain ⟨-, -, -, hnamed, -, -, -, hat⟩ := (Spec.applies_iff hf).mp happ
  obtain ⟨hg, hn⟩ := and_e (Cond.before_iff.mp (show (Jvm.Cond.and given_1 narrow_1).before args s = true from hpre))
  obtain ⟨g1, g2⟩ := and_e hg
  obtain ⟨g3, g4⟩ := and_e g2
  obtain ⟨w0, w1, rfl⟩ : ∃ w0 w1 : Value, args = #[w0, w1] := by
    have hs : args.size = 2 := by simpa [Cond.value, given_1] using g1
    obtain ⟨L⟩ := args
    match L, hs with
    | [w0, w1], _ => exact ⟨w0, w1, rfl⟩
  have hw := fun d (hd : d ∈ tables_1) => atoms_spec (ws := Jvm.Cond.code x code maxLocals ret :: tables_1) hat d (List.mem_cons_of_mem _ hd)
  have hfit : Fit s := fun {y c} hc i hi => by
    obtain ⟨ha, rfl⟩ := Array.getElem?_eq_some_iff.mp hc
    have q := List.all_eq_true.mp ((Array.all_eq_true_iff_forall_mem.mp hF) _ (Array.getElem_mem ha)) i (List.mem_range.mpr hi)
    simpa [Array.getElem?_eq_getElem hi] using q
  obtain ⟨i0, ei0⟩ := is_v g3
  obtain rfl : w0 = (.int i0) := Option.some.inj ei0
  obtain ⟨i1, ei1⟩ := is_v g4
  obtain rfl : w1 = (.int i1) := Option.some.inj ei1
  obtain ⟨n, o, h1, h2, h3, _, L, rfl, ⟨hval, N⟩, hq⟩ := own_mt0 l s _ hw i0 i1 s.heap tables_1 p e ha hc hk s m _ below hf ((Spec.applies_iff_loose hf).mp happ).1 ⟨rfl, State.Warmed39.refl s, rfl⟩ trivial
  rw [own_law i0 i1] at hval
  subst hval
  refine ⟨n, _, h1, h2, h3, hpost _ _ _ _ _ _ ⟨Cond.after_iff.mpr rfl, Cond.after_iff.mpr (eq_i res_at (Term.int_eval (1)) rfl), trivial⟩ ⟨hq.1, hq.2.1, (hq.2.2.sift fun y hy => Or.inr (by rw [N.2] at hy; cases hy)).mono (by decide) (by decide)⟩⟩
theorem main_1_1 : Claimed_1_1 := own_comes fun _ _ _ _ _ _ h hF => ⟨h.1, hF⟩
theorem main_1_2 : Claimed_1_2 := own_comes fun _ _ _ _ _ _ h hF => ⟨h.2.1, hF⟩
end Jvm.Pilot.@@N@@
namespace Jvm.Pilot.@@N@@
open Jvm Jvm.ClassFile Sem Op Lib Jvm.Free Jvm.Stand Jvm.Pilot.@@N@@.Jvm.D
/-! MADE BY PROGRAM (witnessworld.py) out of the Statement's table words and the real class files: 9 classes; the members and pool entries that the words name. The judged class is class 1, her method 1. -/
namespace start1
open Jvm.ClassFile
def u (s : String) : CpInfo := .utf8 (stringToUtf16 s)
/-- a pool by its gaps: so many unusable entries, then the entry; so many at the end -/
def gap : Nat → List CpInfo → List CpInfo
  | 0, r => r
  | n + 1, r => .unusable :: gap n r
def poolList (es : List (Nat × CpInfo)) (last : Nat) : List CpInfo := es.foldr (fun e r => gap e.1 (e.2 :: r)) (gap last [])
def pool (es : List (Nat × CpInfo)) (last : Nat) : Array CpInfo := ⟨poolList es last⟩
def fileOf (pool : Array CpInfo) (this : Nat) (attrs : Array Attribute := #[]) (ms : Array MethodInfo := #[]) (fl : Nat := 33) (sup : Nat := 0) (ifs : Array Nat := #[]) (fds : Array FieldInfo := #[]) : ClassFile where
  minorVersion := 0
  majorVersion := 65
  constantPool := pool
  accessFlags := fl
  thisClass := this
  superClass := sup
  interfaces := ifs
  fields := fds
  methods := ms
  attributes := attrs
def plain (name : String) (sup : Option ClassId) : Class where
  name := name
  kind := .ordinary
  loader := none
  accessFlags := 33
  super := sup
  interfaces := #[]
  cf := none
  fields := #[]
  methods := #[]
  instanceTypes := #[]
  staticTypes := #[]
  resolved := #[]
  callSites := []
  init := .initialized
  statics := none
  mirror := none

def pool0 : Array CpInfo := pool [(5, u "<init>"), (0, u "()V"), (1, .class_ 10), (1, u "java/lang/Object")] 113

def k0m0 : Method := { name := "<init>", desc := "()V", sig := { parameters := [], returnType := none }, accessFlags := 1, code := none }
/-- java/lang/Object -/
def k0 : Class := { plain "java/lang/Object" none with
  accessFlags := 33
  interfaces := #[]
  cf := some (fileOf pool0 8 #[] #[{ accessFlags := 1, nameIndex := 5, descriptorIndex := 6, attributes := #[] }] 33 0 #[] #[])
  fields := #[]
  methods := #[k0m0]
  instanceTypes := #[]
  staticTypes := #[]
  resolved := Array.replicate 124 none
  statics := none }

def pool1 : Array CpInfo := pool [(2, .class_ 4), (1, u "java/lang/Object"), (0, u "<init>"), (0, u "()V"), (0, .integer 2147483647), (0, .methodref 9 10), (0, .class_ 11), (0, .nameAndType 12 13), (0, u "com/example/recurve/recurve/http/HttpStatus"), (0, u "forbidsContent"), (0, u "(I)Z"), (0, .class_ 15), (0, u "com/example/recurve/recurve/http/HttpStatusForbidsContentPinLaw"), (2, u "law"), (0, u "(II)Z")] 3

def k1m0 : Method := { name := "<init>", desc := "()V", sig := { parameters := [], returnType := none }, accessFlags := 2, code := none }
def k1c1 : Code := { maxStack := 3, maxLocals := 6, code := code, exceptionTable := #[], attributes := #[] }
def k1m1 : Method := { name := "law", desc := "(II)Z", sig := { parameters := [.int, .int], returnType := some .boolean }, accessFlags := 9, code := some k1c1 }
/-- com/example/recurve/recurve/http/HttpStatusForbidsContentPinLaw -/
def k1 : Class := { plain "com/example/recurve/recurve/http/HttpStatusForbidsContentPinLaw" (some 0) with
  accessFlags := 49
  interfaces := #[]
  cf := some (fileOf pool1 14 #[] #[{ accessFlags := 2, nameIndex := 5, descriptorIndex := 6, attributes := #[] }, { accessFlags := 9, nameIndex := 18, descriptorIndex := 19, attributes := #[] }] 49 2 #[] #[])
  fields := #[]
  methods := #[k1m0, k1m1]
  instanceTypes := #[]
  staticTypes := #[]
  resolved := Array.replicate 23 none
  statics := none }

def pool2 : Array CpInfo := pool [(2, .class_ 4), (1, u "java/lang/Object"), (0, u "<init>"), (0, u "()V"), (1, .class_ 10), (1, u "com/example/recurve/recurve/http/HttpStatus"), (0, u "REASONS"), (0, u "Ljava/util/Map;"), (122, u "forbidsContent"), (0, u "(I)Z")] 6

def k2m0 : Method := { name := "<init>", desc := "()V", sig := { parameters := [], returnType := none }, accessFlags := 2, code := none }
def k2c1 : Code := { maxStack := 2, maxLocals := 1, code := prog_21_method_3_code, exceptionTable := #[], attributes := #[] }
def k2m1 : Method := { name := "forbidsContent", desc := "(I)Z", sig := { parameters := [.int], returnType := some .boolean }, accessFlags := 8, code := some k2c1 }
/-- com/example/recurve/recurve/http/HttpStatus -/
def k2 : Class := { plain "com/example/recurve/recurve/http/HttpStatus" (some 0) with
  accessFlags := 49
  interfaces := #[]
  cf := some (fileOf pool2 8 #[] #[{ accessFlags := 2, nameIndex := 5, descriptorIndex := 6, attributes := #[] }, { accessFlags := 8, nameIndex := 135, descriptorIndex := 136, attributes := #[] }] 49 2 #[] #[{ accessFlags := 26, nameIndex := 11, descriptorIndex := 12, attributes := #[] }])
  fields := #[{ name := "REASONS", type := (.object "java/util/Map"), accessFlags := 26, slot := 0, constantValue := 0 }]
  methods := #[k2m0, k2m1]
  instanceTypes := #[]
  staticTypes := #[(.object "java/util/Map")]
  resolved := Array.replicate 143 none
  statics := none }

def pool3 : Array CpInfo := pool [(1, u "java/lang/Cloneable"), (0, .class_ 1), (0, u "java/lang/Object"), (0, .class_ 3)] 3

/-- java/lang/Cloneable -/
def k3 : Class := { plain "java/lang/Cloneable" (some 0) with
  accessFlags := 1537
  interfaces := #[]
  cf := some (fileOf pool3 2 #[] #[] 1537 4 #[] #[])
  fields := #[]
  methods := #[]
  instanceTypes := #[]
  staticTypes := #[]
  resolved := Array.replicate 8 none
  statics := none }

def pool4 : Array CpInfo := pool [(1, u "java/io/Serializable"), (0, .class_ 1), (0, u "java/lang/Object"), (0, .class_ 3)] 3

/-- java/io/Serializable -/
def k4 : Class := { plain "java/io/Serializable" (some 0) with
  accessFlags := 1537
  interfaces := #[]
  cf := some (fileOf pool4 2 #[] #[] 1537 4 #[] #[])
  fields := #[]
  methods := #[]
  instanceTypes := #[]
  staticTypes := #[]
  resolved := Array.replicate 8 none
  statics := none }

/-- the primitive byte -/
def k5 : Class := { plain "byte" none with kind := .primitive 'B', accessFlags := 0x411 }
/-- [B -/
def k6 : Class := { plain "[B" (some 0) with kind := .array 5 .byte, interfaces := #[3, 4], accessFlags := 1041 }

/-- the primitive int -/
def k7 : Class := { plain "int" none with kind := .primitive 'I', accessFlags := 0x411 }
/-- [I -/
def k8 : Class := { plain "[I" (some 0) with kind := .array 7 .int, interfaces := #[3, 4], accessFlags := 1041 }

def heap : Heap := #[]
def classes : Array Class := #[k0, k1, k2, k3, k4, k5, k6, k7, k8]
def interned : List (Array UInt16 × Addr) := []
def slotsUsed : Nat := 0
def theMethod : MethodId := ⟨1, 1⟩
def args0 : Array Value := #[.int 5, .int 3]
def aboutOver (below : List Frame) : State where
  vm := { classes := classes, interned := interned.toArray }
  heap := heap
  slotsUsed := slotsUsed
  threads := #[{ frames := .invoking theMethod args0 :: below }]
def below0 : List Frame := [.native { method := ⟨0, 0⟩, args := #[] }]
def about1 : State := aboutOver below0
def p0 : Program := .bare "" "" ""
def e0 : Env := launch0.env 0 0 0
theorem w_frames : about1.frames = Frame.invoking theMethod args0 :: below0 := rfl
set_option maxRecDepth 65536 in
theorem w_args : argsFit about1.vm theMethod args0 = true := by decide +kernel
set_option maxRecDepth 65536 in
theorem w_heap : heapFits about1 = true := by decide +kernel
set_option maxRecDepth 65536 in
theorem w_runnable : about1.curStatus? = some .runnable := by decide +kernel
set_option maxRecDepth 65536 in
theorem w_alone : about1.alone = true := by decide +kernel
set_option maxRecDepth 65536 in
theorem w_named : about1.methodNamed? x = some theMethod := by decide +kernel
set_option maxRecDepth 65536 in
theorem w_hears : about1.hears theMethod below0 = true := by decide +kernel
set_option maxRecDepth 65536 in
theorem w_ripe : about1.ripe theMethod args0 below0 = true := by decide +kernel
theorem w_running : about1.status = .running := rfl
set_option maxRecDepth 65536 in
theorem w_room : about1.hasRoom e0.platform room_1 = true :=
  launch0.hasRoom_least _ room_1 (by decide +kernel) (by decide +kernel) (by decide +kernel) (by decide +kernel) (by decide +kernel) (by decide +kernel)
theorem allAtoms_all (ts : List Jvm.Cond) (a : Array Jvm.Value) (st : Jvm.State) : (allAtoms ts).before a st = ts.all (fun c => c.before a st) := by
  induction ts with
  | nil => rfl
  | cons c t ih =>
    show (Jvm.Cond.and c (allAtoms t)).before a st = _
    rw [Jvm.Cond.before_and, ih, List.all_cons]
def words1 : List Jvm.Cond := Jvm.Cond.code x code maxLocals ret :: tables_1
/-- a 'code' word, met by the world's own term for the bytes: nothing is compared byte by byte -/
theorem code_word {y : MethodName} {bytes : ByteArray} {mx : Nat} {rt : Option FieldType} {a : Array Value} {s : State} {m : MethodId} {meth : Method} {c : Code} (h1 : s.methodNamed? y = some m) (h2 : s.vm.method? m = some meth) (h3 : meth.code = some c) (h4 : c.code = bytes)
    (h5 : (c.maxLocals == mx && c.exceptionTable.isEmpty && decide (c.maxStack ≤ mostOperands) && decide (meth.sig.returnType = rt) && !meth.locks && decide (parseMethodDescriptor y.desc = some meth.sig)) = true) : (Jvm.Cond.code y bytes mx rt).before a s = true := by
  simp only [Bool.and_eq_true, beq_iff_eq, Bool.not_eq_true', decide_eq_true_eq] at h5
  obtain ⟨⟨⟨⟨⟨g1, g2⟩, g3⟩, g4⟩, g5⟩, g6⟩ := h5
  simp [Cond.before, Cond.holds, Cond.value, h1, h2, h3, h4, g1, g2, g3, g4, g5, g6]
def isCode : Jvm.Cond → Bool
  | .code _ _ _ _ => true
  | _ => false
theorem all_split {L : List Jvm.Cond} {P : Jvm.Cond → Bool} (h1 : L.all (fun c => isCode c || P c) = true) (h2 : ∀ c ∈ L.filter isCode, P c = true) : L.all P = true := by
  refine List.all_eq_true.mpr fun c hc => ?_
  have h := List.all_eq_true.mp h1 c hc
  rcases Bool.eq_false_or_eq_true (isCode c) with hi | hi
  · exact h2 c (List.mem_filter.mpr ⟨hc, hi⟩)
  · simpa [hi] using h
set_option maxRecDepth 65536 in
theorem w_c0 : (Jvm.Cond.code x code maxLocals ret).before args0 about1 = true := code_word (m := ⟨1, 1⟩) (meth := k1m1) (c := k1c1) (by decide +kernel) rfl rfl rfl (by decide +kernel)
set_option maxRecDepth 65536 in
theorem w_c1 : (Jvm.Cond.code ({ cls := "com/example/recurve/recurve/http/HttpStatus", name := "forbidsContent", desc := "(I)Z" } : Jvm.MethodName) prog_21_method_3_code (1 : Nat) (Option.some Jvm.ClassFile.FieldType.boolean)).before args0 about1 = true := code_word (m := ⟨2, 1⟩) (meth := k2m1) (c := k2c1) (by decide +kernel) rfl rfl rfl (by decide +kernel)
def codes1 : List Jvm.Cond := [Jvm.Cond.code x code maxLocals ret, Jvm.Cond.code ({ cls := "com/example/recurve/recurve/http/HttpStatus", name := "forbidsContent", desc := "(I)Z" } : Jvm.MethodName) prog_21_method_3_code (1 : Nat) (Option.some Jvm.ClassFile.FieldType.boolean)]
set_option maxRecDepth 65536 in
theorem codes_eq : words1.filter isCode = codes1 := rfl
theorem w_codes : ∀ c ∈ words1.filter isCode, c.before args0 about1 = true := by
  rw [codes_eq]
  intro c hc
  simp only [codes1, List.mem_cons, List.not_mem_nil, or_false] at hc
  rcases hc with rfl | rfl
  · exact w_c0
  · exact w_c1
set_option maxRecDepth 65536 in
theorem w_t1 : words1.all (fun c => isCode c || c.before args0 about1) = true := by decide +kernel
theorem w_tables : (allAtoms (Jvm.Cond.code x code maxLocals ret :: tables_1)).before args0 about1 = true := by
  rw [allAtoms_all]
  show words1.all (fun c => c.before args0 about1) = true
  refine all_split ?_ w_codes
  rw [w_t1]
set_option maxRecDepth 65536 in
theorem w_case : (Jvm.Cond.and given_1 narrow_1).before args0 about1 = true := by decide +kernel
theorem w_applies : (headSpec (Jvm.Cond.code x code maxLocals ret :: tables_1) room_1).applies x e0.platform about1 = true :=
  (Spec.applies_iff w_frames).mpr ⟨w_running, w_runnable, w_alone, w_named, w_hears, w_ripe, w_room, w_tables⟩
theorem atStart : AtStart classFile x code maxLocals ret World_1 tables_1 room_1 Calls_1 rest_1 Pre_1 launch0 p0 e0 about1 theMethod args0 below0 :=
  ⟨lists_1, trivial, launch0.admits_env _ _ _, launch0.least_env, fairChoices_fair.cas, fairChoices_fair.clock, w_frames, w_args, w_heap, w_applies, trivial, trivial, w_case⟩
end start1
theorem witness_1 : WitnessClaimed_1 := ⟨start1.p0, start1.e0, start1.about1, start1.theMethod, start1.args0, start1.below0, start1.atStart⟩
end Jvm.Pilot.@@N@@
