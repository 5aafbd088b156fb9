import JvmDerived
import JvmDerived.Pilot.@@N@@Statement
import JvmDerived.Pilot.@@N@@Code
set_option linter.unusedVariables false
set_option linter.unusedSimpArgs false
namespace Jvm.Pilot.@@N@@
open Jvm Jvm.ClassFile Sem Op Lib Jvm.Free Jvm.Stand Jvm.LawKit Jvm.RoadKit Bundle Jvm.Pilot.@@N@@.Jvm.D

/-! ## own kit: a walk as a tree -/
section OwnKit
variable {p : Program} {l : Launch} {e : Env} {R : Room} {s : State} {m : MethodId} {args : Array Value} {below : List Frame} {meth : Method} {c : Code} {T T' : State} {locs : List Loc} {cells slots : Nat} {Q : Option Value → Heap → List Loc → Prop} {f f' : JFrame} {Z : State} {a0 : Array Value} {h h' : Heap}
/-- from here the body comes to its return, and Q holds there -/
def Go (p : Program) (e : Env) (s : State) (below : List Frame) (R : Room) (Q : Option Value → Heap → List Loc → Prop) (T : State) (f : JFrame) : Prop :=
  ∃ s₂ o, Steps p.tables e below (T.setTop f) s₂ ∧ s₂.status = .running ∧ Ended s₂ below o ∧ ∃ v L, o = .returned v ∧ Q v s₂.heap L ∧ FrameEnd s o s₂ L R.cells R.slots
theorem Go.of (k : ∀ t, Steps p.tables e below (T'.setTop f') t → Steps p.tables e below (T.setTop f) t) (G : Go p e s below R Q T' f') : Go p e s below R Q T f := by
  obtain ⟨s2, o, h1, h2⟩ := G
  exact ⟨s2, o, k _ h1, h2⟩
theorem Go.cast (q : f = f') (G : Go p e s below R Q T f') : Go p e s below R Q T f := q ▸ G
theorem Go.retO (X : Stand p l e R s m args below meth c T locs cells slots) (hx : p.tables.exec = Jvm.exec) (hlk : meth.locks = false) {pc : Nat} {Ls : Array Slot} {w : Value} {t : FieldType} {i : Instr} {rest : List Value} (hret : meth.sig.returnType = some t) (hn : narrow t w = w)
    (hi : (i = .ireturn ∧ (t = .int ∨ t = .boolean ∨ t = .byte ∨ t = .char ∨ t = .short) ∧ ∃ z, w = .int z) ∨ (i = .lreturn ∧ t = .long ∧ ∃ z, w = .long z) ∨ (i = .dreturn ∧ t = .double ∧ ∃ z, w = .double z) ∨ (i = .freturn ∧ t = .float ∧ ∃ z, w = .float z) ∨ (i = .areturn ∧ t.isReference = true ∧ w.isRef = true))
    (hd : decode c.code pc = .ok (i, 1)) (hc : cells ≤ R.cells) (hs : slots ≤ R.slots) (hq : Q (some w) T.heap locs) : Go p e s below R Q T (mkF m pc Ls (w :: rest)) := by
  obtain ⟨fs, hr, hrun, hended, hW, hsame⟩ := X.leave (v := some w) (fun h => by rw [hret] at h; cases h) hlk
  exact ⟨_, _, retOut X hx hret hn hi hd hr, hrun, hended, _, _, rfl, hq, ⟨_, rfl⟩, hW, hsame.mono hc hs⟩
theorem Go.retI (X : Stand p l e R s m args below meth c T locs cells slots) (hx : p.tables.exec = Jvm.exec) (hlk : meth.locks = false) (hret : meth.sig.returnType = some .int) {pc : Nat} {Ls : Array Slot} {z : Int32} {rest : List Value}
    (hd : decode c.code pc = .ok (.ireturn, 1)) (hc : cells ≤ R.cells) (hs : slots ≤ R.slots) (hq : Q (some (.int z)) T.heap locs) : Go p e s below R Q T (mkF m pc Ls (.int z :: rest)) :=
  Go.retO X hx hlk hret rfl (Or.inl ⟨rfl, Or.inl rfl, _, rfl⟩) hd hc hs hq
theorem Go.retJ (X : Stand p l e R s m args below meth c T locs cells slots) (hx : p.tables.exec = Jvm.exec) (hlk : meth.locks = false) (hret : meth.sig.returnType = some .long) {pc : Nat} {Ls : Array Slot} {z : Int64} {rest : List Value}
    (hd : decode c.code pc = .ok (.lreturn, 1)) (hc : cells ≤ R.cells) (hs : slots ≤ R.slots) (hq : Q (some (.long z)) T.heap locs) : Go p e s below R Q T (mkF m pc Ls (.long z :: rest)) :=
  Go.retO X hx hlk hret rfl (Or.inr (Or.inl ⟨rfl, rfl, _, rfl⟩)) hd hc hs hq
theorem Go.retD (X : Stand p l e R s m args below meth c T locs cells slots) (hx : p.tables.exec = Jvm.exec) (hlk : meth.locks = false) (hret : meth.sig.returnType = some .double) {pc : Nat} {Ls : Array Slot} {z : UInt64} {rest : List Value}
    (hd : decode c.code pc = .ok (.dreturn, 1)) (hc : cells ≤ R.cells) (hs : slots ≤ R.slots) (hq : Q (some (.double z)) T.heap locs) : Go p e s below R Q T (mkF m pc Ls (.double z :: rest)) :=
  Go.retO X hx hlk hret rfl (Or.inr (Or.inr (Or.inl ⟨rfl, rfl, _, rfl⟩))) hd hc hs hq
theorem Go.retA (X : Stand p l e R s m args below meth c T locs cells slots) (hx : p.tables.exec = Jvm.exec) (hlk : meth.locks = false) {t : FieldType} (hret : meth.sig.returnType = some t) (ht : t.isReference = true) {pc : Nat} {Ls : Array Slot} {w : Value} {rest : List Value}
    (hw : w.isRef = true) (hd : decode c.code pc = .ok (.areturn, 1)) (hc : cells ≤ R.cells) (hs : slots ≤ R.slots) (hq : Q (some w) T.heap locs) : Go p e s below R Q T (mkF m pc Ls (w :: rest)) :=
  Go.retO X hx hlk hret (by cases t <;> first | (cases ht; done) | rfl) (Or.inr (Or.inr (Or.inr (Or.inr ⟨rfl, ht, hw⟩)))) hd hc hs hq
theorem Go.retB (X : Stand p l e R s m args below meth c T locs cells slots) (hx : p.tables.exec = Jvm.exec) (hlk : meth.locks = false) {t : FieldType} (hret : meth.sig.returnType = some t) (ht : t = .boolean ∨ t = .byte ∨ t = .char ∨ t = .short) {pc : Nat} {Ls : Array Slot} {z : Int32} {rest : List Value}
    (hd : decode c.code pc = .ok (.ireturn, 1)) (hc : cells ≤ R.cells) (hs : slots ≤ R.slots) {z' : Int32} (hz : nar t z = z') (hq : Q (some (.int z')) T.heap locs) : Go p e s below R Q T (mkF m pc Ls (.int z :: rest)) := by
  subst hz
  obtain ⟨fs, hr, hrun, hended, hW, hsame⟩ := X.leave (v := some (.int (nar t z))) (fun h => by rw [hret] at h; cases h) hlk
  exact ⟨_, _, retN X hx hret ht hd hr, hrun, hended, _, _, rfl, hq, ⟨_, rfl⟩, hW, hsame.mono hc hs⟩
theorem Go.retV (X : Stand p l e R s m args below meth c T locs cells slots) (hx : p.tables.exec = Jvm.exec) (hlk : meth.locks = false) (hret : meth.sig.returnType = none) {pc : Nat} {Ls : Array Slot}
    (hd : decode c.code pc = .ok (.return_, 1)) (hc : cells ≤ R.cells) (hs : slots ≤ R.slots) (hq : Q none T.heap locs) : Go p e s below R Q T (mkF m pc Ls []) := by
  obtain ⟨fs, hr, hrun, hended, hW, hsame⟩ := X.leave (v := none) (fun _ => rfl) hlk
  exact ⟨_, _, X.returnOut hx hret hd hr, hrun, hended, _, _, rfl, hq, ⟨_, rfl⟩, hW, hsame.mono hc hs⟩
/-- a body's contract: handed as', over the heap h, it returns and Q holds -/
def Ok (l : Launch) (Z : State) (y : MethodName) (bytes : ByteArray) (maxL : Nat) (ret : Option FieldType) (rm : Room) (as' : Array Value) (h : Heap) (Q : Option Value → Heap → List Loc → Prop) : Prop :=
  ∀ ws : List Jvm.Cond, MetFree l y (head1 (Jvm.Cond.code y bytes maxL ret :: ws) rm) (fun a U => a = as' ∧ Z.Warmed39 U.vm ∧ U.heap = h) (fun _ _ _ _ _ => True) (fun _ U o U' => ∃ v L, o = .returned v ∧ Q v U'.heap L ∧ FrameEnd U o U' L rm.cells rm.slots)
theorem Ok.mk {y : MethodName} {bytes : ByteArray} {maxL : Nat} {ret : Option FieldType} {rm : Room} {as' : Array Value} (hn : plainFor y = true)
    (k : ∀ p e s m below meth c s₁, p.tables.exec = Jvm.exec → c.code = bytes → c.maxLocals = maxL → s.vm.findClass y.cls = some m.cls → meth.name = y.name → meth.sig.returnType = ret → meth.locks = false → Z.Warmed39 s.vm → s₁.heap = h → Stand p l e rm s m as' below meth c s₁ [] 0 0 → Go p e s below rm Q s₁ (entryFrame m as' maxL)) :
    Ok l Z y bytes maxL ret rm as' h Q := by
  intro ws
  refine MetFree.of_bodySF hn hisR ?_
  intro p e s m args below meth c s₁ Bd hml0 hP hK
  obtain ⟨rfl, hZ, hh⟩ := hP
  exact k p e s m below meth c s₁ Bd.exec Bd.bytes hml0 (findClass_of_methodNamed Bd.named) (name_of_methodNamed Bd.named Bd.method).1 Bd.returns Bd.notSynchronized hZ (by rw [← hh, Bd.state]; rfl) (Stand.of_body Bd)
theorem callSt (X : Stand p l e R s m args below meth c T locs cells slots) (hx : p.tables.exec = Jvm.exec) (hZ : Z.Warmed39 s.vm) {own : String} {index : Nat} {y : MethodName} {bytes : ByteArray} {maxL : Nat} {ret : Option FieldType} {rm : Room} {as' : Array Value}
    (hown : s.vm.findClass own = some m.cls) (w1 : (Jvm.Cond.methodLink own index y).before a0 Z = true) (w2 : (Jvm.Cond.static y).before a0 Z = true) (w3 : (Jvm.Cond.initialized y.cls).before a0 Z = true) (w4 : (Jvm.Cond.code y bytes maxL ret).before a0 Z = true)
    (hy : y.cls ≠ "java/lang/invoke/MethodHandle" ∧ y.cls ≠ "java/lang/invoke/VarHandle") (hM : Ok l Z y bytes maxL ret rm as' h Q) (eT : T.heap = h) {W : Nat} (hf : rm.frames + 1 ≤ R.frames) (hl : W + (maxL + 11) + rm.locals ≤ R.locals) (hc : cells + rm.cells ≤ R.cells) (hs : slots + rm.slots ≤ R.slots)
    {g : JFrame} (hg : g.method = m) (hsize : g.locals.size = c.maxLocals) {argsL rest : List Value} (hlen : ∀ sig, parseMethodDescriptor y.desc = some sig → argsL.length = sig.parameters.length) (has : argsL.toArray = as')
    (hstack : g.stack = argsL.reverse ++ rest) (hW : 2 * g.monitorRoom + (rest.map fun v => v.category).sum ≤ W) (hd : decode c.code g.pc = .ok (.invokestatic index, 3)) :
    ∃ T' v L, Stand p l e R s m args below meth c T' (locs ++ L) (cells + rm.cells) (slots + rm.slots) ∧ Q v T'.heap L ∧ ∀ t, Steps p.tables e below (T'.setTop { g with pc := g.pc + 3, stack := v.toList ++ rest }) t → Steps p.tables e below (T.setTop g) t := by
  subst has
  obtain ⟨v, _, ⟨T1, L1, k1, n1⟩, -, X1, ⟨Lc, hQ, l1, y1, z1⟩, st⟩ := Jvm.LawKit.callS X hx (y := y) hown (mvT hZ w1) (mvT hZ w2) (mvT hZ w3) (mvT hZ w4) hy (backOf (W := W) (hM []) hZ w4 w3 hf hl) hg hsize hlen hstack hW hd (fun _ _ => ⟨rfl, eT, hc, hs⟩)
  dsimp only [Pt.U, Pt.locs, Pt.cells, Pt.slots] at X1 l1 y1 z1 st hQ
  subst l1 y1 z1
  exact ⟨T1, v, Lc, X1, hQ, st⟩
theorem callNew (X : Stand p l e R s m args below meth c T locs cells slots) (hx : p.tables.exec = Jvm.exec) (hZ : Z.Warmed39 s.vm) {own : String} {index : Nat} {y : MethodName} {bytes : ByteArray} {maxL : Nat} {rm : Room} {as' : Array Value} (hy1 : y.name = "<init>")
    (hown : s.vm.findClass own = some m.cls) (w1 : (Jvm.Cond.methodLink own index y).before a0 Z = true) (w2 : (Jvm.Cond.instanceMethod y).before a0 Z = true) (w3 : (Jvm.Cond.initialized y.cls).before a0 Z = true) (w4 : (Jvm.Cond.code y bytes maxL none).before a0 Z = true)
    (hy : y.cls ≠ "java/lang/invoke/MethodHandle" ∧ y.cls ≠ "java/lang/invoke/VarHandle") (hM : Ok l Z y bytes maxL none rm as' h Q) (eT : T.heap = h) {W : Nat} (hf : rm.frames + 1 ≤ R.frames) (hl : W + (maxL + 11) + rm.locals ≤ R.locals) (hc : cells + rm.cells ≤ R.cells) (hs : slots + rm.slots ≤ R.slots)
    {g : JFrame} (hg : g.method = m) (hsize : g.locals.size = c.maxLocals) {a : Addr} {argsL rest : List Value} (hlen : ∀ sig, parseMethodDescriptor y.desc = some sig → argsL.length = sig.parameters.length) (has : (.ref a :: argsL).toArray = as')
    (hstack : g.stack = argsL.reverse ++ .ref a :: rest) (hW : 2 * g.monitorRoom + (rest.map fun v => v.category).sum ≤ W) (hd : decode c.code g.pc = .ok (.invokespecial index, 3)) :
    ∃ T' v L, Stand p l e R s m args below meth c T' (locs ++ L) (cells + rm.cells) (slots + rm.slots) ∧ Q v T'.heap L ∧ ∀ t, Steps p.tables e below (T'.setTop { g with pc := g.pc + 3, stack := v.toList ++ rest }) t → Steps p.tables e below (T.setTop g) t := by
  subst has
  obtain ⟨v, _, ⟨T1, L1, k1, n1⟩, -, X1, ⟨Lc, hQ, l1, y1, z1⟩, st⟩ := X.specialBack hx (y := y) hy1 hown (mvT hZ w1) (mvT hZ w2) (mvT hZ w4) hy (backOf (W := W) (hM []) hZ w4 w3 hf hl) hg hsize (Steps.refl _) (a := a) hlen hstack hW hd (fun _ _ => ⟨rfl, eT, hc, hs⟩)
  dsimp only [Pt.U, Pt.locs, Pt.cells, Pt.slots] at X1 l1 y1 z1 st hQ
  subst l1 y1 z1
  exact ⟨T1, v, Lc, X1, hQ, fun t k => st.trans k⟩
theorem callVi (X : Stand p l e R s m args below meth c T locs cells slots) (hx : p.tables.exec = Jvm.exec) (hZ : Z.Warmed39 s.vm) {own C : String} {index : Nat} {y z : MethodName} {bytes : ByteArray} {maxL : Nat} {ret : Option FieldType} {rm : Room} {as' : Array Value}
    (hown : s.vm.findClass own = some m.cls) (w1 : (Jvm.Cond.methodLink own index y).before a0 Z = true) (w2 : (Jvm.Cond.declares y).before a0 Z = true) (nf : NotFace s y) (w3 : (Jvm.Cond.selects C y z).before a0 Z = true) (w4 : (Jvm.Cond.instanceMethod z).before a0 Z = true) (w5 : (Jvm.Cond.code z bytes maxL ret).before a0 Z = true) (w6 : (Jvm.Cond.initialized z.cls).before a0 Z = true)
    (hy : y.cls ≠ "java/lang/invoke/MethodHandle" ∧ y.cls ≠ "java/lang/invoke/VarHandle") (hM : Ok l Z z bytes maxL ret rm as' h Q) (eT : T.heap = h) {W : Nat} (hf : rm.frames + 1 ≤ R.frames) (hl : W + (maxL + 11) + rm.locals ≤ R.locals) (hc : cells + rm.cells ≤ R.cells) (hs : slots + rm.slots ≤ R.slots)
    {a : Addr} (E : Exa Z h a C) {g : JFrame} (hg : g.method = m) (hsize : g.locals.size = c.maxLocals) {argsL rest : List Value} (hlen : ∀ sig, parseMethodDescriptor y.desc = some sig → argsL.length = sig.parameters.length) (has : (.ref a :: argsL).toArray = as')
    (hstack : g.stack = argsL.reverse ++ .ref a :: rest) (hW : 2 * g.monitorRoom + (rest.map fun v => v.category).sum ≤ W) (hd : decode c.code g.pc = .ok (.invokevirtual index, 3)) :
    ∃ T' v L, Stand p l e R s m args below meth c T' (locs ++ L) (cells + rm.cells) (slots + rm.slots) ∧ Q v T'.heap L ∧ ∀ t, Steps p.tables e below (T'.setTop { g with pc := g.pc + 3, stack := v.toList ++ rest }) t → Steps p.tables e below (T.setTop g) t := by
  subst has
  obtain ⟨cq, kq, qa, qb, qc⟩ := isOf hZ eT E
  obtain ⟨v, _, ⟨T1, L1, k1, n1⟩, -, X1, ⟨Lc, hQ, l1, y1, z1⟩, st⟩ := X.virtualBack hx (y := y) (z := z) hown (mvT hZ w1) (mvT hZ w2) nf (mvT hZ w3) (mvT hZ w4) hy (backOf (W := W) (hM []) hZ w5 w6 hf hl) qa qc hg hsize (Steps.refl _) hlen hstack hW hd (fun _ _ => ⟨rfl, eT, hc, hs⟩)
  dsimp only [Pt.U, Pt.locs, Pt.cells, Pt.slots] at X1 l1 y1 z1 st hQ
  subst l1 y1 z1
  exact ⟨T1, v, Lc, X1, hQ, fun t k => st.trans k⟩
/-- a new object at the address a: a fresh name for the heap's end -/
theorem newOb (X : Stand p l e R s m args below meth c T locs cells slots) (hx : p.tables.exec = Jvm.exec) (hZ : Z.Warmed39 s.vm) {own C : String} {index n : Nat} (hown : s.vm.findClass own = some m.cls) (w : (Jvm.Cond.classLink own index C).before a0 Z = true) (wi : (Jvm.Cond.instantiable C n).before a0 Z = true) (wz : (Jvm.Cond.initialized C).before a0 Z = true) (eT : T.heap = h)
    {g : JFrame} (hg : g.method = m) (hd : decode c.code g.pc = .ok (.new index, 3)) (hc : cells + 1 ≤ R.cells) (hl : slots + n ≤ R.slots) :
    ∃ T' h' a, a = h.size ∧ Stand p l e R s m args below meth c T' locs (cells + 1) (slots + n) ∧ T'.heap = h' ∧ Ext h h' ∧ Exa Z h' a C ∧ (∀ {O nm d : String} {ty : FieldType}, Laid Z a0 C O nm d → parseFieldDescriptor d = some ty → Fld Z h' a O nm d (defaultValue ty)) ∧
      ∀ t, Steps p.tables e below (T'.setTop { g with pc := g.pc + 3, stack := .ref a :: g.stack }) t → Steps p.tables e below (T.setTop g) t := by
  obtain ⟨T2, h2, X2, e2, E2, A2, D2, -, st2⟩ := newO X hx hZ hown w wi wz eT hg hd hc hl
  exact ⟨T2, h2, h.size, rfl, X2, e2, E2, A2, D2, st2⟩
theorem Old0.keep {ws : List Addr} (X : Ext Z.heap h) (K : Keep h h' ws) (q : ∀ x ∈ ws, Z.heap.size ≤ x) : Ext Z.heap h' := (Old.keep (n0 := Z.heap.size) ⟨rfl, X⟩ K q).2
theorem Old0.wr {a : Addr} {sl : Nat} {v : Value} (X : Ext Z.heap h) (W : Wr h h' a sl v) (q : Z.heap.size ≤ a) : Ext Z.heap h' := (Old.wr (n0 := Z.heap.size) ⟨rfl, X⟩ W q).2
theorem Old0.ext (X : Ext Z.heap h) (E : Ext h h') : Ext Z.heap h' := (Old.ext (n0 := Z.heap.size) ⟨rfl, X⟩ E).2
theorem ext_rfl : Ext h h := ⟨Nat.le_refl _, fun _ _ q => q⟩
theorem eqI_v {first : State} {o : Option Outcome} {idx : List Nat} {a : Term} {k : Int32} (q : (Jvm.Cond.eq a (.int k)).value args first o s idx = some true) : a.eval args first o idx s = some (.int k) := by
  cases ha : a.eval args first o idx s with
  | none => simp [Jvm.Cond.value, ha] at q
  | some x => cases x <;> simp [Jvm.Cond.value, ha, Term.eval] at q ⊢; exact q
theorem eqJ_v {first : State} {o : Option Outcome} {idx : List Nat} {a : Term} {k : Int64} (q : (Jvm.Cond.eq a (.long k)).value args first o s idx = some true) : a.eval args first o idx s = some (.long k) := by
  cases ha : a.eval args first o idx s with
  | none => simp [Jvm.Cond.value, ha] at q
  | some x => cases x <;> simp [Jvm.Cond.value, ha, Term.eval] at q ⊢; exact q
theorem neI_v {first : State} {o : Option Outcome} {idx : List Nat} {a : Term} {x k : Int32} (ha : a.eval args first o idx s = some (.int x)) (q : (Jvm.Cond.not (.eq a (.int k))).value args first o s idx = some true) : ¬ x = k := by
  have q' := not_v q
  intro e
  subst e
  simp [Jvm.Cond.value, ha, Term.eval] at q'
theorem neR_v {first : State} {o : Option Outcome} {idx : List Nat} {a b : Term} {x y : Addr} (ha : a.eval args first o idx s = some (.ref x)) (hb : b.eval args first o idx s = some (.ref y)) (q : (Jvm.Cond.not (.eq a b)).value args first o s idx = some true) : ¬ x = y := by
  have q' := not_v q
  intro e
  subst e
  simp [Jvm.Cond.value, ha, hb] at q'
theorem eqR_v {first : State} {o : Option Outcome} {idx : List Nat} {a b : Term} {x : Addr} (hb : b.eval args first o idx s = some (.ref x)) (q : (Jvm.Cond.eq a b).value args first o s idx = some true) : a.eval args first o idx s = some (.ref x) := by
  cases ha : a.eval args first o idx s with
  | none => simp [Jvm.Cond.value, ha] at q
  | some x => cases x <;> simp [Jvm.Cond.value, ha, hb] at q ⊢; exact q
theorem callPr (X : Stand p l e R s m args below meth c T locs cells slots) (hx : p.tables.exec = Jvm.exec) (hZ : Z.Warmed39 s.vm) {own : String} {index : Nat} {y : MethodName} {bytes : ByteArray} {maxL : Nat} {ret : Option FieldType} {rm : Room} {as' : Array Value}
    (hown : s.vm.findClass own = some m.cls) (w1 : (Jvm.Cond.methodLink own index y).before a0 Z = true) (w2 : (Jvm.Cond.instanceMethod y).before a0 Z = true) (w3 : (Jvm.Cond.selects y.cls y y).before a0 Z = true) (w4 : (Jvm.Cond.privateMethod y).before a0 Z = true) (w5 : (Jvm.Cond.initialized y.cls).before a0 Z = true) (w6 : (Jvm.Cond.code y bytes maxL ret).before a0 Z = true)
    (hy : y.cls ≠ "java/lang/invoke/MethodHandle" ∧ y.cls ≠ "java/lang/invoke/VarHandle") (hM : Ok l Z y bytes maxL ret rm as' h Q) (eT : T.heap = h) {W : Nat} (hf : rm.frames + 1 ≤ R.frames) (hl : W + (maxL + 11) + rm.locals ≤ R.locals) (hc : cells + rm.cells ≤ R.cells) (hs : slots + rm.slots ≤ R.slots)
    {C : String} {a : Addr} (E : Exa Z h a C) {g : JFrame} (hg : g.method = m) (hsize : g.locals.size = c.maxLocals) {argsL rest : List Value} (hlen : ∀ sig, parseMethodDescriptor y.desc = some sig → argsL.length = sig.parameters.length) (has : (.ref a :: argsL).toArray = as')
    (hstack : g.stack = argsL.reverse ++ .ref a :: rest) (hW : 2 * g.monitorRoom + (rest.map fun v => v.category).sum ≤ W) (hd : decode c.code g.pc = .ok (.invokevirtual index, 3)) :
    ∃ T' v L, Stand p l e R s m args below meth c T' (locs ++ L) (cells + rm.cells) (slots + rm.slots) ∧ Q v T'.heap L ∧ ∀ t, Steps p.tables e below (T'.setTop { g with pc := g.pc + 3, stack := v.toList ++ rest }) t → Steps p.tables e below (T.setTop g) t := by
  subst has
  obtain ⟨cq, q1, q2⟩ := E.cell
  obtain ⟨v, _, ⟨T1, L1, k1, n1⟩, -, X1, ⟨Lc, hQ, l1, y1, z1⟩, st⟩ := X.privateBack hx (y := y) hown (mvT hZ w1) (mvT hZ w2) (mvT hZ w3) (Cond.privateMethod_at (mvP hZ w4 (args := #[]))) (mvT hZ w6) hy (backOf (W := W) (hM []) hZ w6 w5 hf hl) hg hsize (Steps.refl _) (a := a) (by rw [eT]; exact q1) q2 hlen hstack hW hd (fun _ _ => ⟨rfl, eT, hc, hs⟩)
  dsimp only [Pt.U, Pt.locs, Pt.cells, Pt.slots] at X1 l1 y1 z1 st hQ
  subst l1 y1 z1
  exact ⟨T1, v, Lc, X1, hQ, fun t k => st.trans k⟩
theorem callIf (X : Stand p l e R s m args below meth c T locs cells slots) (hx : p.tables.exec = Jvm.exec) (hZ : Z.Warmed39 s.vm) {own C : String} {index count : Nat} {xi y : MethodName} {bytes : ByteArray} {maxL : Nat} {ret : Option FieldType} {rm : Room} {as' : Array Value}
    (hown : s.vm.findClass own = some m.cls) (w1 : (Jvm.Cond.methodLink own index xi).before a0 Z = true) (w2 : (Jvm.Cond.declares xi).before a0 Z = true) (w3 : (Jvm.Cond.interfaceMethod xi.cls xi.cls xi.name xi.desc).before args s = true) (w4 : (Jvm.Cond.selects C xi y).before a0 Z = true) (w5 : (Jvm.Cond.instanceMethod y).before a0 Z = true) (w6 : (Jvm.Cond.publicMethod y).before a0 Z = true) (w7 : (Jvm.Cond.unhidden C xi.name xi.desc).before a0 Z = true) (w8 : (Jvm.Cond.castable C xi.cls).before a0 Z = true) (w9 : (Jvm.Cond.code y bytes maxL ret).before a0 Z = true) (w10 : (Jvm.Cond.initialized y.cls).before a0 Z = true)
    (hy : xi.cls ≠ "java/lang/invoke/MethodHandle" ∧ xi.cls ≠ "java/lang/invoke/VarHandle") (hM : Ok l Z y bytes maxL ret rm as' h Q) (eT : T.heap = h) {W : Nat} (hf : rm.frames + 1 ≤ R.frames) (hl : W + (maxL + 11) + rm.locals ≤ R.locals) (hc : cells + rm.cells ≤ R.cells) (hs : slots + rm.slots ≤ R.slots)
    {a : Addr} (E : Exa Z h a C) {g : JFrame} (hg : g.method = m) (hsize : g.locals.size = c.maxLocals) {argsL rest : List Value} (hlen : ∀ sig, parseMethodDescriptor xi.desc = some sig → argsL.length = sig.parameters.length) (has : (.ref a :: argsL).toArray = as')
    (hstack : g.stack = argsL.reverse ++ .ref a :: rest) (hW : 2 * g.monitorRoom + (rest.map fun v => v.category).sum ≤ W) (hd : decode c.code g.pc = .ok (.invokeinterface index count, 5)) :
    ∃ T' v L, Stand p l e R s m args below meth c T' (locs ++ L) (cells + rm.cells) (slots + rm.slots) ∧ Q v T'.heap L ∧ ∀ t, Steps p.tables e below (T'.setTop { g with pc := g.pc + 5, stack := v.toList ++ rest }) t → Steps p.tables e below (T.setTop g) t := by
  subst has
  obtain ⟨cq, kq, qa, qb, qc⟩ := isOf hZ eT E
  obtain ⟨v, _, ⟨T1, L1, k1, n1⟩, -, X1, ⟨Lc, hQ, l1, y1, z1⟩, st⟩ := X.interfaceBack hx (xi := xi) (y := y) hown (mvT hZ w1) (mvT hZ w2) w3 (mvT hZ w4) (mvT hZ w5) (mvT hZ w6) (mvT hZ w7) (mvT hZ w8) hy (backOf (W := W) (hM []) hZ w9 w10 hf hl) qa qb qc hg hsize (Steps.refl _) hlen hstack hW hd (fun _ _ => ⟨rfl, eT, hc, hs⟩)
  dsimp only [Pt.U, Pt.locs, Pt.cells, Pt.slots] at X1 l1 y1 z1 st hQ
  subst l1 y1 z1
  exact ⟨T1, v, Lc, X1, hQ, fun t k => st.trans k⟩
theorem newAr (X : Stand p l e R s m args below meth c T locs cells slots) (hx : p.tables.exec = Jvm.exec) (hZ : Z.Warmed39 s.vm) {aty : ArrayType} (w : (Jvm.Cond.arrayClass (newarray.typeOf aty)).before a0 Z = true) (eT : T.heap = h) {g : JFrame} (hg : g.method = m) (hd : decode c.code g.pc = .ok (.newarray aty, 2)) {n : Int32} {rest : List Value} (hs : g.stack = .int n :: rest)
    (hn : ¬ n < 0) {cap : Nat} (hcap : n.toNatClampNeg ≤ cap) (hb : cap * 8 ≤ 536870912) (hc : cells + 1 ≤ R.cells) (hl : slots + cap ≤ R.slots) {ad : String} (had : "[" ++ (newarray.typeOf aty).toString = ad) :
    ∃ T' h' k a, a = h.size ∧ Stand p l e R s m args below meth c T' locs (cells + 1) (slots + cap) ∧ T'.heap = h' ∧ Ext h h' ∧ Arv Z h' a k (newarray.typeOf aty) n [] (defaultValue (newarray.typeOf aty)) ∧ Exa Z h' a ad ∧
      ∀ t, Steps p.tables e below (T'.setTop { g with pc := g.pc + 2, stack := .ref a :: rest }) t → Steps p.tables e below (T.setTop g) t := by
  obtain ⟨T2, h2, k, X2, e2, E2, A2, B2, st2⟩ := newPE X hx hZ w eT hg hd hs hn hcap hb hc hl had
  exact ⟨T2, h2, k, h.size, rfl, X2, e2, E2, Arv.new A2 hn, B2, st2⟩
theorem newRr (X : Stand p l e R s m args below meth c T locs cells slots) (hx : p.tables.exec = Jvm.exec) (hZ : Z.Warmed39 s.vm) {own C : String} {index : Nat} (hown : s.vm.findClass own = some m.cls) (w1 : (Jvm.Cond.classLink own index C).before a0 Z = true) (w2 : (Jvm.Cond.arrayOver (.object C)).before a0 Z = true)
    (eT : T.heap = h) {g : JFrame} (hg : g.method = m) (hd : decode c.code g.pc = .ok (.anewarray index, 3)) {n : Int32} {rest : List Value} (hs : g.stack = .int n :: rest) (hn : ¬ n < 0) {cap : Nat} (hcap : n.toNatClampNeg ≤ cap) (hb : cap * 8 ≤ 536870912) (hc : cells + 1 ≤ R.cells) (hl : slots + cap ≤ R.slots) {ad : String} (had : "[" ++ (FieldType.object C).toString = ad) :
    ∃ T' h' k a, a = h.size ∧ Stand p l e R s m args below meth c T' locs (cells + 1) (slots + cap) ∧ T'.heap = h' ∧ Ext h h' ∧ Arv Z h' a k (.object C) n [] .null ∧ Exa Z h' a ad ∧ Ovr Z k C ∧
      ∀ t, Steps p.tables e below (T'.setTop { g with pc := g.pc + 3, stack := .ref a :: rest }) t → Steps p.tables e below (T.setTop g) t := by
  obtain ⟨T2, h2, k, X2, e2, E2, A2, B2, O2, st2⟩ := newRE X hx hZ hown w1 w2 eT hg hd hs hn hcap hb hc hl had
  exact ⟨T2, h2, k, h.size, rfl, X2, e2, E2, Arv.new A2 hn, B2, O2, st2⟩
theorem own_len {t : Term} {a : Addr} {cl : Cell} {ty : FieldType} {k : Int32} (ev : t.eval args s none [] s = some (.ref a)) (A : Arr s s.heap a cl ty) (q : (Term.length t).eval args s none [] s = some (.int k)) : cl.slots.size < 2 ^ 31 ∧ cl.slots.size.toInt32 = k := by
  have ha := Arr.fin (U := s) (Vm.Alike.refl _) A
  simp only [Term.eval, ev] at q
  simp at q
  rw [ha] at q
  simp only [Option.bind_some] at q
  split at q
  · rename_i hlt
    simp only [Option.some.injEq, Value.int.injEq] at q
    exact ⟨hlt, q⟩
  · cases q
theorem own_el {t : Term} {a : Addr} {cl : Cell} {ty : FieldType} {j : Int32} {v : Value} (ev : t.eval args s none [] s = some (.ref a)) (A : Arr s s.heap a cl ty) (q : (Term.elem t (.int j)).eval args s none [] s = some v) : cl.slots[j.toNatClampNeg]? = some v :=
  (elem_in q ev rfl A.1).2
theorem cloneV (X : Stand p l e R s m args below meth c T locs cells slots) (hx : p.tables.exec = Jvm.exec) (hZ : Z.Warmed39 s.vm) {own ad : String} {index : Nat} (hown : s.vm.findClass own = some m.cls)
    (w1 : (Jvm.Cond.methodLink own index ⟨ad, "clone", "()Ljava/lang/Object;"⟩).before a0 Z = true) (w2 : (Jvm.Cond.sameMethod ad "java/lang/Object" "clone" "()Ljava/lang/Object;").before a0 Z = true) (w3 : (Jvm.Cond.native ⟨"java/lang/Object", "clone", "()Ljava/lang/Object;"⟩).before a0 Z = true)
    (w4 : (Jvm.Cond.instanceMethod ⟨"java/lang/Object", "clone", "()Ljava/lang/Object;"⟩).before a0 Z = true) (w5 : (Jvm.Cond.selects ad ⟨ad, "clone", "()Ljava/lang/Object;"⟩ ⟨"java/lang/Object", "clone", "()Ljava/lang/Object;"⟩).before a0 Z = true) (w6 : (Jvm.Cond.castable ad "java/lang/Cloneable").before a0 Z = true)
    (eT : T.heap = h) {b : Addr} {k : ClassId} {ty : FieldType} {z : Int32} {vs : List Value} {dv : Value} (F : Arv Z h b k ty z vs dv) (E : Exa Z h b ad) {g : JFrame} (hg : g.method = m) (hsize : g.locals.size = c.maxLocals) {rest : List Value} (hst : g.stack = .ref b :: rest) (hd : decode c.code g.pc = .ok (.invokevirtual index, 3))
    (hf : 1 ≤ R.frames) {W cap : Nat} (hW : 2 * g.monitorRoom + (rest.map fun v => v.category).sum ≤ W) (hl : W + 14 ≤ R.locals) (hcap : z.toNatClampNeg ≤ cap) (hc : cells + 1 ≤ R.cells) (hsl : slots + cap ≤ R.slots) :
    ∃ T' h' a, a = h.size ∧ Stand p l e R s m args below meth c T' locs (cells + 1) (slots + cap) ∧ T'.heap = h' ∧ Ext h h' ∧ Arv Z h' a k ty z vs dv ∧ Exa Z h' a ad ∧
      ∀ t, Steps p.tables e below (T'.setTop { g with pc := g.pc + 3, stack := .ref a :: rest }) t → Steps p.tables e below (T.setTop g) t := by
  obtain ⟨T2, h2, X2, e2, E2, A2, B2, st2⟩ := cloneH X hx hZ hown w1 w2 w3 w4 w5 w6 eT F.arh E hg hsize hst hd hf hW hl hcap hc hsl
  exact ⟨T2, h2, h.size, rfl, X2, e2, E2, A2, B2, st2⟩
end OwnKit
/-! ## own kit, string constants: the tables may have been warmed by an interned text -/
section OwnKitS
variable {p : Program} {l : Launch} {e : Env} {R : Room} {s : State} {m : MethodId} {args : Array Value} {below : List Frame} {meth : Method} {c : Code} {T T' : State} {locs : List Loc} {cells slots : Nat} {Q : Option Value → Heap → List Loc → Prop} {f f' : JFrame} {Z : State} {a0 : Array Value} {h h' : Heap} {EL : List (String × Nat)} {vm0 : Vm} {k0 : Nat}
def GoS (p : Program) (e : Env) (s : State) (below : List Frame) (R : Room) (Z : State) (EL : List (String × Nat)) (Q : Option Value → Heap → List Loc → Prop) (T : State) (f : JFrame) : Prop :=
  ∃ s₂ o, Steps p.tables e below (T.setTop f) s₂ ∧ s₂.status = .running ∧ Ended s₂ below o ∧ ∃ v L, o = .returned v ∧ Q v s₂.heap L ∧ CHr Z EL s.vm s.heap s₂.vm s₂.heap ∧ ReturnedEndW s o s₂ L R.cells R.slots
theorem GoS.of (k : ∀ t, Steps p.tables e below (T'.setTop f') t → Steps p.tables e below (T.setTop f) t) (G : GoS p e s below R Z EL Q T' f') : GoS p e s below R Z EL Q T f := by
  obtain ⟨s2, o, h1, h2⟩ := G
  exact ⟨s2, o, k _ h1, h2⟩
theorem GoS.cast (q : f = f') (G : GoS p e s below R Z EL Q T f') : GoS p e s below R Z EL Q T f := q ▸ G
theorem GoS.fin (X : Stand p l e R (s.setVm vm0) m args below meth c T locs cells slots) (hlk : meth.locks = false) (hS : s.Since vm0 k0) (hk : k0 ≤ h.size) (hZ : Z.Warmed39 vm0) (hEL : EW Z a0 EL) (C : CHr Z EL s.vm s.heap vm0 h) (eT : T.heap = h) {v : Option Value} (hv : meth.sig.returnType = none → v = none) (hc : cells ≤ R.cells) (hs : slots ≤ R.slots) (hq : Q v T.heap locs)
    (step : ∀ fs, (∀ (f : JFrame) (acts : List Action), f.method = m → f.locked = none → f.entered = [] → (doReturn e (T.setTop f) acts v).1 = T.setFrames fs) → Steps p.tables e below (T.setTop f) (T.setFrames fs)) : GoS p e s below R Z EL Q T f := by
  subst eT
  obtain ⟨fs, hr, hrun, hended, hW⟩ := X.leaveW hS hk hv hlk
  have A := CHv.at X hZ hEL C.1
  exact ⟨_, _, step fs hr, hrun, hended, v, locs, rfl, hq, C.trans A, hW.1, hW.2.1, hW.2.2.1, hW.2.2.2.mono hc hs⟩
theorem GoS.retO (X : Stand p l e R (s.setVm vm0) m args below meth c T locs cells slots) (hx : p.tables.exec = Jvm.exec) (hlk : meth.locks = false) (hS : s.Since vm0 k0) (hk : k0 ≤ h.size) (hZ : Z.Warmed39 vm0) (hEL : EW Z a0 EL) (C : CHr Z EL s.vm s.heap vm0 h) (eT : T.heap = h) {pc : Nat} {Ls : Array Slot} {w : Value} {t : FieldType} {i : Instr} {rest : List Value} (hret : meth.sig.returnType = some t) (hn : narrow t w = w)
    (hi : (i = .ireturn ∧ (t = .int ∨ t = .boolean ∨ t = .byte ∨ t = .char ∨ t = .short) ∧ ∃ z, w = .int z) ∨ (i = .lreturn ∧ t = .long ∧ ∃ z, w = .long z) ∨ (i = .dreturn ∧ t = .double ∧ ∃ z, w = .double z) ∨ (i = .freturn ∧ t = .float ∧ ∃ z, w = .float z) ∨ (i = .areturn ∧ t.isReference = true ∧ w.isRef = true))
    (hd : decode c.code pc = .ok (i, 1)) (hc : cells ≤ R.cells) (hs : slots ≤ R.slots) (hq : Q (some w) T.heap locs) : GoS p e s below R Z EL Q T (mkF m pc Ls (w :: rest)) :=
  GoS.fin X hlk hS hk hZ hEL C eT (fun h => by rw [hret] at h; cases h) hc hs hq (fun fs hr => retOut X hx hret hn hi hd hr)
theorem GoS.retI (X : Stand p l e R (s.setVm vm0) m args below meth c T locs cells slots) (hx : p.tables.exec = Jvm.exec) (hlk : meth.locks = false) (hS : s.Since vm0 k0) (hk : k0 ≤ h.size) (hZ : Z.Warmed39 vm0) (hEL : EW Z a0 EL) (C : CHr Z EL s.vm s.heap vm0 h) (eT : T.heap = h) (hret : meth.sig.returnType = some .int) {pc : Nat} {Ls : Array Slot} {z : Int32} {rest : List Value}
    (hd : decode c.code pc = .ok (.ireturn, 1)) (hc : cells ≤ R.cells) (hs : slots ≤ R.slots) (hq : Q (some (.int z)) T.heap locs) : GoS p e s below R Z EL Q T (mkF m pc Ls (.int z :: rest)) :=
  GoS.retO X hx hlk hS hk hZ hEL C eT hret rfl (Or.inl ⟨rfl, Or.inl rfl, _, rfl⟩) hd hc hs hq
theorem GoS.retA (X : Stand p l e R (s.setVm vm0) m args below meth c T locs cells slots) (hx : p.tables.exec = Jvm.exec) (hlk : meth.locks = false) (hS : s.Since vm0 k0) (hk : k0 ≤ h.size) (hZ : Z.Warmed39 vm0) (hEL : EW Z a0 EL) (C : CHr Z EL s.vm s.heap vm0 h) (eT : T.heap = h) {t : FieldType} (hret : meth.sig.returnType = some t) (ht : t.isReference = true) {pc : Nat} {Ls : Array Slot} {w : Value} {rest : List Value}
    (hw : w.isRef = true) (hd : decode c.code pc = .ok (.areturn, 1)) (hc : cells ≤ R.cells) (hs : slots ≤ R.slots) (hq : Q (some w) T.heap locs) : GoS p e s below R Z EL Q T (mkF m pc Ls (w :: rest)) :=
  GoS.retO X hx hlk hS hk hZ hEL C eT hret (by cases t <;> first | (cases ht; done) | rfl) (Or.inr (Or.inr (Or.inr (Or.inr ⟨rfl, ht, hw⟩)))) hd hc hs hq
theorem GoS.retB (X : Stand p l e R (s.setVm vm0) m args below meth c T locs cells slots) (hx : p.tables.exec = Jvm.exec) (hlk : meth.locks = false) (hS : s.Since vm0 k0) (hk : k0 ≤ h.size) (hZ : Z.Warmed39 vm0) (hEL : EW Z a0 EL) (C : CHr Z EL s.vm s.heap vm0 h) (eT : T.heap = h) {t : FieldType} (hret : meth.sig.returnType = some t) (ht : t = .boolean ∨ t = .byte ∨ t = .char ∨ t = .short) {pc : Nat} {Ls : Array Slot} {z : Int32} {rest : List Value}
    (hd : decode c.code pc = .ok (.ireturn, 1)) (hc : cells ≤ R.cells) (hs : slots ≤ R.slots) {z' : Int32} (hz : nar t z = z') (hq : Q (some (.int z')) T.heap locs) : GoS p e s below R Z EL Q T (mkF m pc Ls (.int z :: rest)) := by
  subst hz
  exact GoS.fin X hlk hS hk hZ hEL C eT (fun h => by rw [hret] at h; cases h) hc hs hq (fun fs hr => retN X hx hret ht hd hr)
theorem GoS.retV (X : Stand p l e R (s.setVm vm0) m args below meth c T locs cells slots) (hx : p.tables.exec = Jvm.exec) (hlk : meth.locks = false) (hS : s.Since vm0 k0) (hk : k0 ≤ h.size) (hZ : Z.Warmed39 vm0) (hEL : EW Z a0 EL) (C : CHr Z EL s.vm s.heap vm0 h) (eT : T.heap = h) (hret : meth.sig.returnType = none) {pc : Nat} {Ls : Array Slot}
    (hd : decode c.code pc = .ok (.return_, 1)) (hc : cells ≤ R.cells) (hs : slots ≤ R.slots) (hq : Q none T.heap locs) : GoS p e s below R Z EL Q T (mkF m pc Ls []) :=
  GoS.fin X hlk hS hk hZ hEL C eT (fun _ => rfl) hc hs hq (fun fs hr => X.returnOut hx hret hd hr)
def OkS (l : Launch) (Z : State) (EL : List (String × Nat)) (y : MethodName) (bytes : ByteArray) (maxL : Nat) (ret : Option FieldType) (rm : Room) (as' : Array Value) (h : Heap) (Q : Option Value → Heap → List Loc → Prop) : Prop :=
  ∀ ws : List Jvm.Cond, MetFree l y (head1 (Jvm.Cond.code y bytes maxL ret :: ws) rm) (fun a U => a = as' ∧ Z.Warmed39 U.vm ∧ U.heap = h ∧ CHv Z EL U.vm h) (fun _ _ _ _ _ => True) (fun _ U o U' => ∃ v L, o = .returned v ∧ Q v U'.heap L ∧ CHr Z EL U.vm U.heap U'.vm U'.heap ∧ ReturnedEndW U o U' L rm.cells rm.slots)
theorem OkS.mk {y : MethodName} {bytes : ByteArray} {maxL : Nat} {ret : Option FieldType} {rm : Room} {as' : Array Value} (hn : plainFor y = true)
    (k : ∀ p e s m below meth c s₁, p.tables.exec = Jvm.exec → c.code = bytes → c.maxLocals = maxL → s.vm.findClass y.cls = some m.cls → meth.name = y.name → meth.sig.returnType = ret → meth.locks = false → Z.Warmed39 s.vm → s₁.heap = h → CHr Z EL s.vm s.heap s.vm h → s.Since s.vm 0 → Stand p l e rm (s.setVm s.vm) m as' below meth c s₁ [] 0 0 → GoS p e s below rm Z EL Q s₁ (entryFrame m as' maxL)) :
    OkS l Z EL y bytes maxL ret rm as' h Q := by
  intro ws
  refine MetFree.of_bodySF hn hisR ?_
  intro p e s m args below meth c s₁ Bd hml0 hP hK
  obtain ⟨rfl, hZ, hh, hC⟩ := hP
  exact k p e s m below meth c s₁ Bd.exec Bd.bytes hml0 (findClass_of_methodNamed Bd.named) (name_of_methodNamed Bd.named Bd.method).1 Bd.returns Bd.notSynchronized hZ (by rw [← hh, Bd.state]; rfl) (by rw [hh]; exact CHr.refl hC) ((State.WarmedH.refl s).since 0) (Stand.of_body Bd)
theorem callStS (X : Stand p l e R (s.setVm vm0) m args below meth c T locs cells slots) (hx : p.tables.exec = Jvm.exec) (hZ : Z.Warmed39 vm0) {own : String} {index : Nat} {y : MethodName} {bytes : ByteArray} {maxL : Nat} {ret : Option FieldType} {rm : Room} {as' : Array Value}
    (hS : s.Since vm0 k0) (hk : k0 ≤ h.size) (hEL : EW Z a0 EL) (H : CHv Z EL vm0 h)
    (hown : vm0.findClass own = some m.cls) (w1 : (Jvm.Cond.methodLink own index y).before a0 Z = true) (w2 : (Jvm.Cond.static y).before a0 Z = true) (w3 : (Jvm.Cond.initialized y.cls).before a0 Z = true) (w4 : (Jvm.Cond.code y bytes maxL ret).before a0 Z = true)
    (hy : y.cls ≠ "java/lang/invoke/MethodHandle" ∧ y.cls ≠ "java/lang/invoke/VarHandle") (hM : OkS l Z EL y bytes maxL ret rm as' h Q) (eT : T.heap = h) {W : Nat} (hf : rm.frames + 1 ≤ R.frames) (hl : W + (maxL + 11) + rm.locals ≤ R.locals) (hc : cells + rm.cells ≤ R.cells) (hs : slots + rm.slots ≤ R.slots)
    {g : JFrame} (hg : g.method = m) (hsize : g.locals.size = c.maxLocals) {argsL rest : List Value} (hlen : ∀ sig, parseMethodDescriptor y.desc = some sig → argsL.length = sig.parameters.length) (has : argsL.toArray = as')
    (hstack : g.stack = argsL.reverse ++ rest) (hW : 2 * g.monitorRoom + (rest.map fun v => v.category).sum ≤ W) (hd : decode c.code g.pc = .ok (.invokestatic index, 3)) :
    ∃ T' v L, Stand p l e R (s.setVm T'.vm) m args below meth c T' (locs ++ L) (cells + rm.cells) (slots + rm.slots) ∧ Q v T'.heap L ∧ s.Since T'.vm T'.heap.size ∧ h.size ≤ T'.heap.size ∧ Z.Warmed39 T'.vm ∧ T'.vm.findClass own = some m.cls ∧ CHr Z EL vm0 h T'.vm T'.heap ∧ ∀ t, Steps p.tables e below (T'.setTop { g with pc := g.pc + 3, stack := v.toList ++ rest }) t → Steps p.tables e below (T.setTop g) t := by
  subst has
  subst eT
  obtain ⟨v, _, ⟨T1, L1, k1, n1⟩, -, X1, S1, g1, ⟨Lc, hQ, l1, y1, z1, c1⟩, st⟩ := callSS X hx (y := y) hown (mvT (s := s.setVm vm0) hZ w1) (mvT (s := s.setVm vm0) hZ w2) (mvT (s := s.setVm vm0) hZ w3) (mvT (s := s.setVm vm0) hZ w4) hy (backOfSH (W := W) (hM []) hZ w4 w3 hf hl hEL H) hg hsize hlen hstack hW hd (fun _ _ => ⟨rfl, rfl, hc, hs⟩)
  dsimp only [Pt.U, Pt.locs, Pt.cells, Pt.slots] at X1 l1 y1 z1 st hQ S1 g1 c1
  subst l1 y1 z1
  exact ⟨T1, v, Lc, X1, hQ, foldS hS hk S1 g1, g1, State.Warmed39.trans (t := s.setVm vm0) hZ S1.1, by rw [S1.1.alike.findClass]; exact hown, c1, fun t k => st.trans k⟩
theorem callNewS (X : Stand p l e R (s.setVm vm0) m args below meth c T locs cells slots) (hx : p.tables.exec = Jvm.exec) (hZ : Z.Warmed39 vm0) {own : String} {index : Nat} {y : MethodName} {bytes : ByteArray} {maxL : Nat} {rm : Room} {as' : Array Value} (hy1 : y.name = "<init>")
    (hS : s.Since vm0 k0) (hk : k0 ≤ h.size) (hEL : EW Z a0 EL) (H : CHv Z EL vm0 h)
    (hown : vm0.findClass own = some m.cls) (w1 : (Jvm.Cond.methodLink own index y).before a0 Z = true) (w2 : (Jvm.Cond.instanceMethod y).before a0 Z = true) (w3 : (Jvm.Cond.initialized y.cls).before a0 Z = true) (w4 : (Jvm.Cond.code y bytes maxL none).before a0 Z = true)
    (hy : y.cls ≠ "java/lang/invoke/MethodHandle" ∧ y.cls ≠ "java/lang/invoke/VarHandle") (hM : OkS l Z EL y bytes maxL none rm as' h Q) (eT : T.heap = h) {W : Nat} (hf : rm.frames + 1 ≤ R.frames) (hl : W + (maxL + 11) + rm.locals ≤ R.locals) (hc : cells + rm.cells ≤ R.cells) (hs : slots + rm.slots ≤ R.slots)
    {g : JFrame} (hg : g.method = m) (hsize : g.locals.size = c.maxLocals) {a : Addr} {argsL rest : List Value} (hlen : ∀ sig, parseMethodDescriptor y.desc = some sig → argsL.length = sig.parameters.length) (has : (.ref a :: argsL).toArray = as')
    (hstack : g.stack = argsL.reverse ++ .ref a :: rest) (hW : 2 * g.monitorRoom + (rest.map fun v => v.category).sum ≤ W) (hd : decode c.code g.pc = .ok (.invokespecial index, 3)) :
    ∃ T' v L, Stand p l e R (s.setVm T'.vm) m args below meth c T' (locs ++ L) (cells + rm.cells) (slots + rm.slots) ∧ Q v T'.heap L ∧ s.Since T'.vm T'.heap.size ∧ h.size ≤ T'.heap.size ∧ Z.Warmed39 T'.vm ∧ T'.vm.findClass own = some m.cls ∧ CHr Z EL vm0 h T'.vm T'.heap ∧ ∀ t, Steps p.tables e below (T'.setTop { g with pc := g.pc + 3, stack := v.toList ++ rest }) t → Steps p.tables e below (T.setTop g) t := by
  subst has
  subst eT
  obtain ⟨v, _, ⟨T1, L1, k1, n1⟩, -, X1, S1, g1, ⟨Lc, hQ, l1, y1, z1, c1⟩, st⟩ := X.specialBackS hx (y := y) hy1 hown (mvT (s := s.setVm vm0) hZ w1) (mvT (s := s.setVm vm0) hZ w2) (mvT (s := s.setVm vm0) hZ w4) hy (backOfSH (W := W) (hM []) hZ w4 w3 hf hl hEL H) hg hsize (Steps.refl _) (a := a) hlen hstack hW hd (fun _ _ => ⟨rfl, rfl, hc, hs⟩)
  dsimp only [Pt.U, Pt.locs, Pt.cells, Pt.slots] at X1 l1 y1 z1 st hQ S1 g1 c1
  subst l1 y1 z1
  exact ⟨T1, v, Lc, X1, hQ, foldS hS hk S1 g1, g1, State.Warmed39.trans (t := s.setVm vm0) hZ S1.1, by rw [S1.1.alike.findClass]; exact hown, c1, fun t k => st.trans k⟩
theorem callViS (X : Stand p l e R (s.setVm vm0) m args below meth c T locs cells slots) (hx : p.tables.exec = Jvm.exec) (hZ : Z.Warmed39 vm0) {own C : String} {index : Nat} {y z : MethodName} {bytes : ByteArray} {maxL : Nat} {ret : Option FieldType} {rm : Room} {as' : Array Value}
    (hS : s.Since vm0 k0) (hk : k0 ≤ h.size) (hEL : EW Z a0 EL) (H : CHv Z EL vm0 h)
    (hown : vm0.findClass own = some m.cls) (w1 : (Jvm.Cond.methodLink own index y).before a0 Z = true) (w2 : (Jvm.Cond.declares y).before a0 Z = true) (nf : NotFace (s.setVm vm0) y) (w3 : (Jvm.Cond.selects C y z).before a0 Z = true) (w4 : (Jvm.Cond.instanceMethod z).before a0 Z = true) (w5 : (Jvm.Cond.code z bytes maxL ret).before a0 Z = true) (w6 : (Jvm.Cond.initialized z.cls).before a0 Z = true)
    (hy : y.cls ≠ "java/lang/invoke/MethodHandle" ∧ y.cls ≠ "java/lang/invoke/VarHandle") (hM : OkS l Z EL z bytes maxL ret rm as' h Q) (eT : T.heap = h) {W : Nat} (hf : rm.frames + 1 ≤ R.frames) (hl : W + (maxL + 11) + rm.locals ≤ R.locals) (hc : cells + rm.cells ≤ R.cells) (hs : slots + rm.slots ≤ R.slots)
    {a : Addr} (E : Exa Z h a C) {g : JFrame} (hg : g.method = m) (hsize : g.locals.size = c.maxLocals) {argsL rest : List Value} (hlen : ∀ sig, parseMethodDescriptor y.desc = some sig → argsL.length = sig.parameters.length) (has : (.ref a :: argsL).toArray = as')
    (hstack : g.stack = argsL.reverse ++ .ref a :: rest) (hW : 2 * g.monitorRoom + (rest.map fun v => v.category).sum ≤ W) (hd : decode c.code g.pc = .ok (.invokevirtual index, 3)) :
    ∃ T' v L, Stand p l e R (s.setVm T'.vm) m args below meth c T' (locs ++ L) (cells + rm.cells) (slots + rm.slots) ∧ Q v T'.heap L ∧ s.Since T'.vm T'.heap.size ∧ h.size ≤ T'.heap.size ∧ Z.Warmed39 T'.vm ∧ T'.vm.findClass own = some m.cls ∧ CHr Z EL vm0 h T'.vm T'.heap ∧ ∀ t, Steps p.tables e below (T'.setTop { g with pc := g.pc + 3, stack := v.toList ++ rest }) t → Steps p.tables e below (T.setTop g) t := by
  subst has
  subst eT
  obtain ⟨cq, kq, qa, qb, qc⟩ := isOf (s := s.setVm vm0) hZ rfl E
  obtain ⟨v, _, ⟨T1, L1, k1, n1⟩, -, X1, S1, g1, ⟨Lc, hQ, l1, y1, z1, c1⟩, st⟩ := X.virtualBackS hx (y := y) (z := z) hown (mvT (s := s.setVm vm0) hZ w1) (mvT (s := s.setVm vm0) hZ w2) nf (mvT (s := s.setVm vm0) hZ w3) (mvT (s := s.setVm vm0) hZ w4) hy (backOfSH (W := W) (hM []) hZ w5 w6 hf hl hEL H) qa qc hg hsize (Steps.refl _) hlen hstack hW hd (fun _ _ => ⟨rfl, rfl, hc, hs⟩)
  dsimp only [Pt.U, Pt.locs, Pt.cells, Pt.slots] at X1 l1 y1 z1 st hQ S1 g1 c1
  subst l1 y1 z1
  exact ⟨T1, v, Lc, X1, hQ, foldS hS hk S1 g1, g1, State.Warmed39.trans (t := s.setVm vm0) hZ S1.1, by rw [S1.1.alike.findClass]; exact hown, c1, fun t k => st.trans k⟩
open Jvm.Free.SB Jvm.Free.SBG in
theorem own_safeNull {x : Addr} {vm : Vm} (hal : Z.vm.Alike vm) (E : Exa Z h x "java/lang/String") (F : Fld Z h x "java/lang/String" "value" "[B" .null) : Safe Z EL vm h x := fun B => by
  obtain ⟨cell, k, e1, e2, e3, -, -⟩ := E
  obtain ⟨p, -, u, a, -, q, -, G, rfl | rfl⟩ := B
  · have hh := (show h[q.sa]? = some q.sC from G.ha)
    obtain ⟨cell', cf, k', i, f, f1, f2, f3, f4, f5, f6, f7⟩ := F
    cases hh.symm.trans f1
    obtain ⟨cS, ⟨⟨s1, s2, s3, ⟨cv, kv, iv, s4, s4'⟩, s5, s6, s7, s8, r⟩, -⟩, -⟩ := G
    obtain ⟨kv', z4⟩ := ff_back (U := Wst Z vm h) hal s4
    cases f2.symm.trans z4
    rw [s8] at f7; cases f7
  · cases (show h[q.sd]? = some q.SA from G.hd).symm.trans e1
    obtain ⟨cS, -, -, fB, -⟩ := G
    have fB : vm.findClass "[B" = some q.SA.cls := fB
    rw [hal.findClass] at fB
    obtain ⟨k1, q1, q2⟩ := Vm.findClass_spec fB
    obtain ⟨k2, q3, q4⟩ := Vm.findClass_spec e2
    cases q1.symm.trans q3
    exact absurd (q2.symm.trans q4) (by decide)
end OwnKitS
theorem own_c255 (x : Int32) : nar .char (x &&& 255).toUInt32.toUInt16.toUInt32.toInt32 = x &&& 255 := by
  rw [i2c_mask]
  exact i2c_mask x
theorem own_f255 (x : Int32) : fits .char (.int (x &&& 255)) = true := by
  rw [← own_c255]
  exact fits_nar_char _
theorem own_b8 (x : Int32) : nar .byte x.toInt8.toInt32 = x.toInt8.toInt32 := by
  show x.toInt8.toInt32.toInt8.toInt32 = _
  rw [Int8.toInt8_toInt32]
theorem own_le255 (x : Int32) : ¬ ((255 : Int32) < (x &&& (255 : Int32))) := by
  have h1 := c_mask x 255 8 (by decide) (by decide)
  rw [Int32.lt_iff_toInt_lt, h1]
  show ¬ (255 : Int) < _
  omega
def own_Ctx (Z : State) (A : Nat → Addr) (KC : Nat → Cell) (IC : Nat → Int32) (VC : Nat → Value) : Prop :=
  (Sta Z Z.heap "com/example/cascade_mapper/cascademapper/model/CollectionForm" "$VALUES" "[Lcom/example/cascade_mapper/cascademapper/model/CollectionForm;" (.ref (A 0))) ∧
  (Exa Z Z.heap (A 0) "[Lcom/example/cascade_mapper/cascademapper/model/CollectionForm;") ∧
  (Sta Z Z.heap "com/example/cascade_mapper/cascademapper/model/CollectionForm" "SET" "Lcom/example/cascade_mapper/cascademapper/model/CollectionForm;" (.ref (A 1))) ∧
  (Exa Z Z.heap (A 1) "com/example/cascade_mapper/cascademapper/model/CollectionForm") ∧
  (Sta Z Z.heap "com/example/cascade_mapper/cascademapper/model/CollectionForm" "LIST" "Lcom/example/cascade_mapper/cascademapper/model/CollectionForm;" (.ref (A 2))) ∧
  (Exa Z Z.heap (A 2) "com/example/cascade_mapper/cascademapper/model/CollectionForm") ∧
  (Sta Z Z.heap "com/example/cascade_mapper/cascademapper/model/CollectionForm" "BAG" "Lcom/example/cascade_mapper/cascademapper/model/CollectionForm;" (.ref (A 3))) ∧
  (Exa Z Z.heap (A 3) "com/example/cascade_mapper/cascademapper/model/CollectionForm") ∧
  (Sta Z Z.heap "com/example/cascade_mapper/cascademapper/model/CollectionForm" "IDBAG" "Lcom/example/cascade_mapper/cascademapper/model/CollectionForm;" (.ref (A 4))) ∧
  (Exa Z Z.heap (A 4) "com/example/cascade_mapper/cascademapper/model/CollectionForm") ∧
  (Sta Z Z.heap "com/example/cascade_mapper/cascademapper/model/CollectionForm" "MAP" "Lcom/example/cascade_mapper/cascademapper/model/CollectionForm;" (.ref (A 5))) ∧
  (Exa Z Z.heap (A 5) "com/example/cascade_mapper/cascademapper/model/CollectionForm") ∧
  (Fld Z Z.heap (A 1) "com/example/cascade_mapper/cascademapper/model/CollectionForm" "elementName" "Ljava/lang/String;" (.ref (A 6))) ∧
  (Exa Z Z.heap (A 6) "java/lang/String") ∧
  (Fld Z Z.heap (A 6) "java/lang/String" "coder" "B" (.int (0 : Int32))) ∧
  (Fld Z Z.heap (A 6) "java/lang/String" "value" "[B" (.ref (A 7))) ∧
  (Fld Z Z.heap (A 2) "com/example/cascade_mapper/cascademapper/model/CollectionForm" "elementName" "Ljava/lang/String;" (.ref (A 8))) ∧
  (Exa Z Z.heap (A 8) "java/lang/String") ∧
  (Fld Z Z.heap (A 8) "java/lang/String" "coder" "B" (.int (0 : Int32))) ∧
  (Fld Z Z.heap (A 8) "java/lang/String" "value" "[B" (.ref (A 9))) ∧
  (Fld Z Z.heap (A 3) "com/example/cascade_mapper/cascademapper/model/CollectionForm" "elementName" "Ljava/lang/String;" (.ref (A 10))) ∧
  (Exa Z Z.heap (A 10) "java/lang/String") ∧
  (Fld Z Z.heap (A 10) "java/lang/String" "coder" "B" (.int (0 : Int32))) ∧
  (Fld Z Z.heap (A 10) "java/lang/String" "value" "[B" (.ref (A 11))) ∧
  (Fld Z Z.heap (A 4) "com/example/cascade_mapper/cascademapper/model/CollectionForm" "elementName" "Ljava/lang/String;" (.ref (A 12))) ∧
  (Exa Z Z.heap (A 12) "java/lang/String") ∧
  (Fld Z Z.heap (A 12) "java/lang/String" "coder" "B" (.int (0 : Int32))) ∧
  (Fld Z Z.heap (A 12) "java/lang/String" "value" "[B" (.ref (A 13))) ∧
  (Fld Z Z.heap (A 5) "com/example/cascade_mapper/cascademapper/model/CollectionForm" "elementName" "Ljava/lang/String;" (.ref (A 14))) ∧
  (Exa Z Z.heap (A 14) "java/lang/String") ∧
  (Fld Z Z.heap (A 14) "java/lang/String" "coder" "B" (.int (0 : Int32))) ∧
  (Fld Z Z.heap (A 14) "java/lang/String" "value" "[B" (.ref (A 15))) ∧
  (Sta Z Z.heap "java/lang/String" "COMPACT_STRINGS" "Z" (.int (IC 0))) ∧
  (¬ ((IC 0) = (0 : Int32))) ∧
  (Arv Z Z.heap (A 0) (KC 0).cls (.object "com/example/cascade_mapper/cascademapper/model/CollectionForm") (5 : Int32) [(.ref (A 1)), (.ref (A 2)), (.ref (A 3)), (.ref (A 4)), (.ref (A 5))] .null) ∧
  (Arv Z Z.heap (A 7) (KC 1).cls .byte (3 : Int32) [(.int (115 : Int32)), (.int (101 : Int32)), (.int (116 : Int32))] (.int (0 : Int32))) ∧
  (Arv Z Z.heap (A 9) (KC 2).cls .byte (4 : Int32) [(.int (108 : Int32)), (.int (105 : Int32)), (.int (115 : Int32)), (.int (116 : Int32))] (.int (0 : Int32))) ∧
  (Arv Z Z.heap (A 11) (KC 3).cls .byte (3 : Int32) [(.int (98 : Int32)), (.int (97 : Int32)), (.int (103 : Int32))] (.int (0 : Int32))) ∧
  (Arv Z Z.heap (A 13) (KC 4).cls .byte (5 : Int32) [(.int (105 : Int32)), (.int (100 : Int32)), (.int (98 : Int32)), (.int (97 : Int32)), (.int (103 : Int32))] (.int (0 : Int32))) ∧
  (Arv Z Z.heap (A 15) (KC 5).cls .byte (3 : Int32) [(.int (109 : Int32)), (.int (97 : Int32)), (.int (112 : Int32))] (.int (0 : Int32))) ∧
  (Sta Z Z.heap "jdk/internal/util/Preconditions" "SIOOBE_FORMATTER" "Ljava/util/function/BiFunction;" (VC 0)) ∧
  ((VC 0) = .null ∨ ∃ fa, (VC 0) = .ref fa)
theorem own_w {Z : State} {a0 : Array Value} (hw : ∀ d ∈ tables_1, d.before a0 Z = true) {i : Nat} {d : Jvm.Cond} (h : tables_1[i]? = some d) : d.before a0 Z = true := hw d (List.mem_of_getElem? h)
def own_EL : List (String × Nat) := [("com/example/cascade_mapper/cascademapper/model/CollectionFormNamedPinLaw", 7), ("com/example/cascade_mapper/cascademapper/model/CollectionFormNamedPinLaw", 9), ("com/example/cascade_mapper/cascademapper/model/CollectionFormNamedPinLaw", 11), ("com/example/cascade_mapper/cascademapper/model/CollectionFormNamedPinLaw", 13), ("com/example/cascade_mapper/cascademapper/model/CollectionFormNamedPinLaw", 15), ("java/lang/String", 7)]
theorem own_EW {Z : State} {a0 : Array Value} (hw : ∀ d ∈ tables_1, d.before a0 Z = true) : EW Z a0 own_EL := (EW.cons (own_w hw (i := 1) rfl) (by decide +kernel) (EW.cons (own_w hw (i := 107) rfl) (by decide +kernel) (EW.cons (own_w hw (i := 108) rfl) (by decide +kernel) (EW.cons (own_w hw (i := 109) rfl) (by decide +kernel) (EW.cons (own_w hw (i := 106) rfl) (by decide +kernel) (EW.cons (own_w hw (i := 114) rfl) (by decide +kernel) EW.nil))))))
theorem own_wS {Z : State} {a0 : Array Value} (hw : ∀ d ∈ tables_1, d.before a0 Z = true) : ∀ a ∈ Bundle.stringAtoms, a.before a0 Z = true := by
  intro a ha
  simp only [Bundle.stringAtoms, List.mem_cons, List.not_mem_nil, or_false] at ha
  rcases ha with rfl | rfl | rfl | rfl | rfl | rfl | rfl
  · exact (own_w hw (i := 2) rfl)
  · exact (own_w hw (i := 3) rfl)
  · exact (own_w hw (i := 4) rfl)
  · exact (own_w hw (i := 5) rfl)
  · exact (own_w hw (i := 6) rfl)
  · exact (own_w hw (i := 7) rfl)
  · exact (own_w hw (i := 8) rfl)
theorem d12_0 : decode jdk_52_method_21_code 0 = .ok (.iconst 0, 1) := by decide +kernel
theorem d12_1 : decode jdk_52_method_21_code 1 = .ok (.istore 5, 2) := by decide +kernel
theorem d12_3 : decode jdk_52_method_21_code 3 = .ok (.iload 5, 2) := by decide +kernel
theorem d12_5 : decode jdk_52_method_21_code 5 = .ok (.iload 4, 2) := by decide +kernel
theorem d12_7 : decode jdk_52_method_21_code 7 = .ok (.if_icmp .ge 37, 3) := by decide +kernel
theorem d12_10 : decode jdk_52_method_21_code 10 = .ok (.aload_n 0, 1) := by decide +kernel
theorem d12_11 : decode jdk_52_method_21_code 11 = .ok (.iload_n 1, 1) := by decide +kernel
theorem d12_12 : decode jdk_52_method_21_code 12 = .ok (.caload, 1) := by decide +kernel
theorem d12_13 : decode jdk_52_method_21_code 13 = .ok (.istore 6, 2) := by decide +kernel
theorem d12_15 : decode jdk_52_method_21_code 15 = .ok (.iload 6, 2) := by decide +kernel
theorem d12_17 : decode jdk_52_method_21_code 17 = .ok (.sipush 255, 3) := by decide +kernel
theorem d12_20 : decode jdk_52_method_21_code 20 = .ok (.if_icmp .le 6, 3) := by decide +kernel
theorem d12_26 : decode jdk_52_method_21_code 26 = .ok (.aload_n 2, 1) := by decide +kernel
theorem d12_27 : decode jdk_52_method_21_code 27 = .ok (.iload_n 3, 1) := by decide +kernel
theorem d12_28 : decode jdk_52_method_21_code 28 = .ok (.iload 6, 2) := by decide +kernel
theorem d12_30 : decode jdk_52_method_21_code 30 = .ok (.i2b, 1) := by decide +kernel
theorem d12_31 : decode jdk_52_method_21_code 31 = .ok (.bastore, 1) := by decide +kernel
theorem d12_32 : decode jdk_52_method_21_code 32 = .ok (.iinc 1 1, 3) := by decide +kernel
theorem d12_35 : decode jdk_52_method_21_code 35 = .ok (.iinc 3 1, 3) := by decide +kernel
theorem d12_38 : decode jdk_52_method_21_code 38 = .ok (.iinc 5 1, 3) := by decide +kernel
theorem d12_41 : decode jdk_52_method_21_code 41 = .ok (.goto (-38), 3) := by decide +kernel
theorem d12_44 : decode jdk_52_method_21_code 44 = .ok (.iload 4, 2) := by decide +kernel
theorem d12_46 : decode jdk_52_method_21_code 46 = .ok (.ireturn, 1) := by decide +kernel
def own_bv (x : Int32) : Value := .int x.toInt8.toInt32
def own_le : List Int32 → Prop
  | [] => True
  | x :: t => ¬ ((255 : Int32) < x) ∧ own_le t
theorem own_leat {a : List Int32} {x : Int32} {t : List Int32} : own_le (a ++ x :: t) → ¬ ((255 : Int32) < x) := by
  induction a with
  | nil => exact fun h => h.1
  | cons y a ih => exact fun h => ih h.2
theorem own_push {Z : State} {h h' : Heap} {a : Addr} {k : ClassId} {n j : Int32} {vs : List Value} {v : Value} (B : Arv Z h a k .byte n vs (.int (0 : Int32))) (W : Wr h h' a j.toNatClampNeg v) (hf : fits .byte v = true) (hj : j.toNatClampNeg = vs.length) : Arv Z h' a k .byte n (vs ++ [v]) (.int (0 : Int32)) := by
  obtain ⟨c, q1, q2, q3, q4, q5, q6⟩ := Arv.pad B (pad_rep vs (.int (0 : Int32)) 1)
  have q := Arv.set q1 q2 q3 q4 q5 q6 hf W vs.length hj (by simp)
  simpa using q
theorem own_inc {i n : Int32} (h : i < n) : (i + 1).toInt = i.toInt + 1 := by
  have r := rng32 i
  have r2 := rng32 n
  have h2 := Int32.lt_iff_toInt_lt.mp h
  rw [Int32.toInt_add, show (1 : Int32).toInt = 1 from rfl, Int.bmod_eq_of_le (by omega) (by omega)]
theorem own_nat {i : Int32} {k : Nat} (h : i.toInt = k) : i.toNatClampNeg = k := by
  show i.toInt.toNat = k
  omega
theorem own_nn {i : Int32} {k : Nat} (h : i.toInt = k) : ¬ i < 0 := fun q => by
  have := Int32.lt_iff_toInt_lt.mp q
  rw [show (0 : Int32).toInt = 0 from rfl] at this
  omega
set_option maxRecDepth 65536 in
set_option maxHeartbeats 4000000 in
theorem rm_comp5L {l : Launch} {Z : State} {p : Program} {e : Env} {s : State} {m : MethodId} {below : List Frame} {meth : Method} {c : Code} {h0 : Heap} {ar : Array Value} {sa da : Addr} {n : Int32} {ks kd : ClassId} {cs : List Int32} (hn : n.toInt = cs.length) (hle : own_le cs) (hx : p.tables.exec = Jvm.exec) (hby : c.code = jdk_52_method_21_code) (hret : meth.sig.returnType = some .int) (hlk : meth.locks = false) (hZ : Z.Warmed39 s.vm) (gd : Z.heap.size ≤ da) (ne : sa ≠ da) :
    ∀ (suf pre : List Int32) (i : Int32) (T0 : State) (h1 : Heap) (locs : List Loc) (s6 : Slot), cs = pre ++ suf → i.toInt = pre.length → (s6 = Slot.unset ∨ ∃ w, s6 = Slot.val w ∧ w.category = 1) → T0.heap = h1 → Stand p l e ({ frames := 0, cells := 0, slots := 0, locals := 0 } : Room) s m ar below meth c T0 locs 0 0 → Fr Z.heap.size locs → Keep h0 h1 [da] → Arv Z h1 sa ks .char n (cs.map Value.int) (.int (0 : Int32)) → Arv Z h1 da kd .byte n (pre.map own_bv) (.int (0 : Int32)) →
      Go p e s below ({ frames := 0, cells := 0, slots := 0, locals := 0 } : Room) (fun v h L => v = some (.int n) ∧ (Fr Z.heap.size L) ∧ (Keep h0 h [da]) ∧ (Arv Z h da kd .byte n (cs.map own_bv) (.int (0 : Int32)))) T0 (mkF m 3 #[rv sa, iv i, rv da, iv i, iv n, iv i, s6] []) := by
  have D := @hb _ _ hby
  intro suf
  induction suf with
  | nil =>
    intro pre i T0 h1 locs s6 hc hi h6 e0 X0 N0 K0 src dst
    rw [List.append_nil] at hc
    subst hc
    have hin : i = n := by rw [← Int32.toInt_inj]; omega
    subst hin
    refine Go.of (fun _ k => XS.iload X0.here hx rfl (D d12_3) rfl (XS.iload X0.here hx rfl (D d12_5) rfl (XS.icmpYes X0.here hx rfl (pc0 := 7) (pc' := 44) rfl (D d12_7) rfl (flt Int32.lt_irrefl).2.1 (by decide) (by decide) (XS.iload X0.here hx rfl (D d12_44) rfl k)))) ?_
    exact Go.retI X0 hx hlk hret (D d12_46) (by decide) (by decide) (by rw [e0]; exact ⟨rfl, N0, K0, dst⟩)
  | cons x t ih =>
    intro pre i T0 h1 locs s6 hc hi h6 e0 X0 N0 K0 src dst
    have hlen : cs.length = pre.length + (t.length + 1) := by rw [hc, List.length_append, List.length_cons]
    have hlt : i < n := Int32.lt_iff_toInt_lt.mpr (by omega)
    have hat : (cs.map Value.int).getD i.toNatClampNeg (.int (0 : Int32)) = .int x := by
      rw [own_nat hi, hc]
      simp
    obtain ⟨cl1, Ar1, qk1, S1, Ng1, H1, G1⟩ := id src
    have hin1 := inb_of (j := i) S1 ⟨own_nn hi, hlt⟩
    have hc2 : ¬ ((255 : Int32) < x) := own_leat (hc ▸ hle)
    obtain ⟨cl2, Ar2, qk2, S2, Ng2, H2, G2⟩ := id dst
    obtain ⟨T2, h2, X2, e2, W2, st2⟩ := stB X0 hx hZ e0 Ar2 (j := i) (inb_of S2 ⟨own_nn hi, hlt⟩) (g := (mkF m 31 #[rv sa, iv i, rv da, iv i, iv n, iv i, iv x] [(.int (x.toInt8.toInt32)), (.int i), (.ref da)])) rfl rfl (D d12_31)
    have W2 : Wr h1 h2 da i.toNatClampNeg (own_bv x) := Eq.mp (congrArg (fun z => Wr h1 h2 da i.toNatClampNeg (Value.int z)) (own_b8 x)) W2
    have K2 := Keep.wr K0 W2 (Or.inl (List.mem_of_getElem? (i := 0) rfl))
    have f2 := own_push dst W2 (fits_nar_byte _) ((own_nat hi).trans (List.length_map _).symm)
    have f2 : Arv Z h2 da kd .byte n ((pre ++ [x]).map own_bv) (.int (0 : Int32)) := by rw [List.map_append]; exact f2
    have N2 := Fr.snoc X2 N0 gd
    refine Go.of (T' := T2) (f' := (mkF m 3 #[rv sa, iv (i + 1), rv da, iv (i + 1), iv n, iv (i + 1), iv x] [])) (fun _ k => XS.iload X0.here hx rfl (D d12_3) rfl (XS.iload X0.here hx rfl (D d12_5) rfl (XS.icmpNo X0.here hx rfl (D d12_7) rfl (tlt hlt).2.1 (XS.aloadN X0.here hx rfl (D d12_10) rfl rfl (XS.iloadN X0.here hx rfl (D d12_11) rfl (X0.caload hx (j := i) (v := (.int x)) (by rw [e0]; exact Ar1.1) (State.isArrayOf_alike hZ.alike Ar1.2.1) Ar1.2.2 hin1 (H1.at hin1 hat) (g := (mkF m 12 #[rv sa, iv i, rv da, iv i, iv n, iv i, s6] [(.int i), (.ref sa)])) rfl rfl (D d12_12) _ (XS.istore X0.here hx rfl (D d12_13) rfl (l' := #[rv sa, iv i, rv da, iv i, iv n, iv i, iv x]) (XS.store1 (o := s6) rfl h6 rfl) (XS.iload X0.here hx rfl (D d12_15) rfl (XS.sipush X0.here hx rfl (D d12_17) (XS.icmpYes X0.here hx rfl (pc0 := 20) (pc' := 26) rfl (D d12_20) rfl (flt hc2).2.2.2 (by decide) (by decide) (XS.aloadN X0.here hx rfl (D d12_26) rfl rfl (XS.iloadN X0.here hx rfl (D d12_27) rfl (XS.iload X0.here hx rfl (D d12_28) rfl (XS.i2b X0.here hx rfl (D d12_30) rfl (st2 _ (XS.iinc X2.here hx rfl (D d12_32) rfl (l' := #[rv sa, iv (i + 1), rv da, iv i, iv n, iv i, iv x]) rfl (XS.iinc X2.here hx rfl (D d12_35) rfl (l' := #[rv sa, iv (i + 1), rv da, iv (i + 1), iv n, iv i, iv x]) rfl (XS.iinc X2.here hx rfl (D d12_38) rfl (l' := #[rv sa, iv (i + 1), rv da, iv (i + 1), iv n, iv (i + 1), iv x]) rfl (XS.goto X2.here hx rfl (pc0 := 41) (pc' := 3) rfl (D d12_41) (by decide) (by decide) k))))))))))))))))))) ?_
    exact ih (pre ++ [x]) (i + 1) T2 h2 _ (iv x) (by rw [hc, List.append_assoc]; rfl) (by rw [own_inc hlt, hi, List.length_append]; rfl) (Or.inr ⟨_, rfl, rfl⟩) e2 X2 N2 K2 (Arv.other src W2 ne) f2
abbrev own_m0 : MethodName := (⟨"java/lang/StringUTF16", "compress", "([CI[BII)I"⟩ : MethodName)
theorem ef_rm_comp5 (m : MethodId) (sa : Addr) (da : Addr) (n : Int32) : entryFrame m #[(.ref sa), (.int (0 : Int32)), (.ref da), (.int (0 : Int32)), (.int n)] 7 = mkF m 0 #[rv sa, iv (0 : Int32), rv da, iv (0 : Int32), iv n, .unset, .unset] [] := by first | (simp [entryFrame, mkF, argsToLocals, Value.category]; done) | rfl
theorem pn1 : plainFor (⟨"java/lang/StringUTF16", "compress", "([CI[BII)I"⟩ : MethodName) = true := by first | exact plainFor_of_name (by first | (simp [plainName, overriddenIn]; done) | decide +kernel) | decide +kernel
set_option maxRecDepth 65536 in
set_option maxHeartbeats 40000000 in
theorem rm_comp5 {l : Launch} {Z : State} {a0 : Array Value} {A : Nat → Addr} {KC : Nat → Cell} {IC : Nat → Int32} {VC : Nat → Value} (hw : ∀ d ∈ tables_1, d.before a0 Z = true) (G : own_Ctx Z A KC IC VC) (sa : Addr) (da : Addr) (n : Int32) (ks : ClassId) (cs : List Int32) (kd : ClassId) (h0 : Heap) (O0 : Ext Z.heap h0) (prem0 : n.toInt = cs.length) (prem1 : own_le cs) (prem2 : Arv Z h0 sa ks .char n (cs.map Value.int) (.int (0 : Int32))) (prem3 : Arv Z h0 da kd .byte n [] (.int (0 : Int32))) (prem4 : Z.heap.size ≤ da) (prem5 : sa ≠ da) :
    Ok l Z own_m0 jdk_52_method_21_code 7 (some .int) ({ frames := 0, cells := 0, slots := 0, locals := 0 } : Room) #[(.ref sa), (.int (0 : Int32)), (.ref da), (.int (0 : Int32)), (.int n)] h0
      (fun v h L => v = some (.int n) ∧ (Fr Z.heap.size L) ∧ (Keep h0 h [da]) ∧ (Arv Z h da kd .byte n (cs.map own_bv) (.int (0 : Int32)))) := by
  refine Ok.mk pn1 ?_
  intro p e s m below meth c T0 hx hby hml hown hnm hret hlk hZ e0 X0
  refine Go.cast (ef_rm_comp5 m sa da n) ?_
  have D := @hb _ _ hby
  have N0 := Fr.nil Z.heap.size
  have K0 : Keep h0 h0 [da] := Keep.refl _ _
  refine Go.of (T' := T0) (f' := (mkF m 3 #[rv sa, iv 0, rv da, iv 0, iv n, iv 0, .unset] [])) (fun _ k => XS.iconst X0.here hx rfl (D d12_0) (XS.istore X0.here hx rfl (D d12_1) rfl (l' := #[rv sa, iv 0, rv da, iv 0, iv n, iv 0, .unset]) rfl k)) ?_
  exact rm_comp5L prem0 prem1 hx hby hret hlk hZ prem4 prem5 cs [] 0 T0 h0 _ .unset rfl rfl (Or.inl rfl) e0 X0 N0 K0 prem2 prem3
theorem d11_0 : decode jdk_52_method_16_code 0 = .ok (.iload_n 2, 1) := by decide +kernel
theorem d11_1 : decode jdk_52_method_16_code 1 = .ok (.newarray .byte, 2) := by decide +kernel
theorem d11_3 : decode jdk_52_method_16_code 3 = .ok (.astore_n 3, 1) := by decide +kernel
theorem d11_4 : decode jdk_52_method_16_code 4 = .ok (.aload_n 0, 1) := by decide +kernel
theorem d11_5 : decode jdk_52_method_16_code 5 = .ok (.iload_n 1, 1) := by decide +kernel
theorem d11_6 : decode jdk_52_method_16_code 6 = .ok (.aload_n 3, 1) := by decide +kernel
theorem d11_7 : decode jdk_52_method_16_code 7 = .ok (.iconst 0, 1) := by decide +kernel
theorem d11_8 : decode jdk_52_method_16_code 8 = .ok (.iload_n 2, 1) := by decide +kernel
theorem d11_9 : decode jdk_52_method_16_code 9 = .ok (.invokestatic 115, 3) := by decide +kernel
theorem pd2 : parseMethodDescriptor "([CI[BII)I" = some ⟨[(.array .char), .int, (.array .byte), .int, .int], some .int⟩ := by decide +kernel
theorem d11_12 : decode jdk_52_method_16_code 12 = .ok (.istore 4, 2) := by decide +kernel
theorem d11_14 : decode jdk_52_method_16_code 14 = .ok (.iload 4, 2) := by decide +kernel
theorem d11_16 : decode jdk_52_method_16_code 16 = .ok (.iload_n 2, 1) := by decide +kernel
theorem d11_17 : decode jdk_52_method_16_code 17 = .ok (.if_icmp .eq 40, 3) := by decide +kernel
theorem d11_57 : decode jdk_52_method_16_code 57 = .ok (.aload_n 3, 1) := by decide +kernel
theorem d11_58 : decode jdk_52_method_16_code 58 = .ok (.areturn, 1) := by decide +kernel
abbrev own_m3 : MethodName := (⟨"java/lang/StringUTF16", "compress", "([CII)[B"⟩ : MethodName)
theorem ef_rm_comp3 (m : MethodId) (sa : Addr) (n : Int32) : entryFrame m #[(.ref sa), (.int (0 : Int32)), (.int n)] 6 = mkF m 0 #[rv sa, iv (0 : Int32), iv n, .unset, .unset, .unset] [] := by first | (simp [entryFrame, mkF, argsToLocals, Value.category]; done) | rfl
theorem pn4 : plainFor (⟨"java/lang/StringUTF16", "compress", "([CII)[B"⟩ : MethodName) = true := by first | exact plainFor_of_name (by first | (simp [plainName, overriddenIn]; done) | decide +kernel) | decide +kernel
set_option maxRecDepth 65536 in
set_option maxHeartbeats 40000000 in
theorem rm_comp3 {l : Launch} {Z : State} {a0 : Array Value} {A : Nat → Addr} {KC : Nat → Cell} {IC : Nat → Int32} {VC : Nat → Value} (hw : ∀ d ∈ tables_1, d.before a0 Z = true) (G : own_Ctx Z A KC IC VC) (sa : Addr) (n : Int32) (ks : ClassId) (cs : List Int32) (h0 : Heap) (O0 : Ext Z.heap h0) (prem0 : n.toInt = cs.length) (prem1 : own_le cs) (prem2 : cs.length ≤ 6) (prem3 : 0 < cs.length) (prem4 : Arv Z h0 sa ks .char n (cs.map Value.int) (.int (0 : Int32))) :
    Ok l Z own_m3 jdk_52_method_16_code 6 (some (.array .byte)) ({ frames := 1, cells := 1, slots := 6, locals := 18 } : Room) #[(.ref sa), (.int (0 : Int32)), (.int n)] h0
      (fun v h L => ∃ da : Addr, ∃ kd : ClassId, v = some (.ref da) ∧ (Fr Z.heap.size L) ∧ (Keep h0 h []) ∧ (h0.size ≤ da) ∧ (Arv Z h da kd .byte n (cs.map own_bv) (.int (0 : Int32))) ∧ (Exa Z h da "[B")) := by
  refine Ok.mk pn4 ?_
  intro p e s m below meth c T0 hx hby hml hown hnm hret hlk hZ e0 X0
  refine Go.cast (ef_rm_comp3 m sa n) ?_
  have D := @hb _ _ hby
  have N0 := Fr.nil Z.heap.size
  have K0 : Keep h0 h0 [] := Keep.refl _ _
  obtain ⟨T1, h1, k1, b1, q1, X1, e1, E1, V1, A1, st1⟩ := newAr X0 hx hZ (own_w hw (i := 4) rfl) e0 (g := (mkF m 1 #[rv sa, iv 0, iv n, .unset, .unset, .unset] [(.int n)])) rfl (D d11_1) rfl (own_nn prem0) (cap := 6) ((own_nat prem0) ▸ prem2) (by decide) (by decide) (by decide) (ad := "[B") (by decide)
  have O2 := Old0.ext O0 E1
  have K2 := Keep.ext K0 E1
  have g_b1 : Z.heap.size ≤ b1 := q1 ▸ O0.1
  have z_b1 : h0.size ≤ b1 := q1 ▸ K0.1
  have ne_sa_b1 : sa ≠ b1 := q1 ▸ Nat.ne_of_lt prem4.lt
  have f4 : Arv Z h1 sa ks .char n (cs.map Value.int) (.int 0) := (Arv.ext prem4 E1)
  obtain ⟨T3, v3, L3, X3, q3, st3⟩ := callSt X1 hx hZ (y := own_m0) hown (own_w hw (i := 63) rfl) (own_w hw (i := 64) rfl) (own_w hw (i := 61) rfl) (own_w hw (i := 65) rfl) (by decide) (rm_comp5 hw G sa b1 n ks cs k1 h1 O2 (prem0) (prem1) f4 V1 g_b1 ne_sa_b1) e1 (W := 0) (by decide) (by decide) (by decide) (by decide) (g := (mkF m 9 #[rv sa, iv 0, iv n, rv b1, .unset, .unset] [(.int n), (.int 0), (.ref b1), (.int 0), (.ref sa)])) rfl (by rw [hml]; rfl) (argsL := [(.ref sa), (.int 0), (.ref b1), (.int 0), (.int n)]) (rest := []) (lenOf pd2 rfl) rfl rfl (Nat.le_of_eq rfl) (D d11_9)
  obtain ⟨rfl, N3q, K3q, p3_0⟩ := q3
  have N3 := Fr.app N0 N3q
  have O5 := Old0.keep O2 K3q (allS g_b1 all0)
  have K5 := Keep.trans K2 K3q (allS (Or.inr z_b1) all0)
  have hc6 : n = n := rfl
  have f7 : Exa Z T3.heap b1 "[B" := (Exa.keep A1 K3q)
  refine Go.of (T' := T3) (f' := (mkF m 58 #[rv sa, iv 0, iv n, rv b1, iv n, .unset] [(.ref b1)])) (fun _ k => XS.iloadN X0.here hx rfl (D d11_0) rfl (st1 _ (XS.astoreN X1.here hx rfl (D d11_3) rfl rfl (l' := #[rv sa, iv 0, iv n, rv b1, .unset, .unset]) rfl (XS.aloadN X1.here hx rfl (D d11_4) rfl rfl (XS.iloadN X1.here hx rfl (D d11_5) rfl (XS.aloadN X1.here hx rfl (D d11_6) rfl rfl (XS.iconst X1.here hx rfl (D d11_7) (XS.iloadN X1.here hx rfl (D d11_8) rfl (st3 _ (XS.istore X3.here hx rfl (D d11_12) rfl (l' := #[rv sa, iv 0, iv n, rv b1, iv n, .unset]) rfl (XS.iload X3.here hx rfl (D d11_14) rfl (XS.iloadN X3.here hx rfl (D d11_16) rfl (XS.icmpYes X3.here hx rfl (pc0 := 17) (pc' := 57) rfl (D d11_17) rfl (teq hc6).1 (by decide) (by decide) (XS.aloadN X3.here hx rfl (D d11_57) rfl rfl k)))))))))))))) ?_
  exact Go.retA X3 hx hlk hret rfl rfl (D d11_58) (by decide) (by decide) ⟨b1, k1, rfl, N3, K5, z_b1, p3_0, f7⟩
theorem d13_0 : decode jdk_52_method_15_code 0 = .ok (.iload_n 1, 1) := by decide +kernel
theorem d13_1 : decode jdk_52_method_15_code 1 = .ok (.aload_n 0, 1) := by decide +kernel
theorem d13_2 : decode jdk_52_method_15_code 2 = .ok (.arraylength, 1) := by decide +kernel
theorem d13_3 : decode jdk_52_method_15_code 3 = .ok (.isub, 1) := by decide +kernel
theorem d13_4 : decode jdk_52_method_15_code 4 = .ok (.bipush 31, 2) := by decide +kernel
theorem d13_6 : decode jdk_52_method_15_code 6 = .ok (.iushr, 1) := by decide +kernel
theorem d13_7 : decode jdk_52_method_15_code 7 = .ok (.i2b, 1) := by decide +kernel
theorem d13_8 : decode jdk_52_method_15_code 8 = .ok (.ireturn, 1) := by decide +kernel
abbrev own_m5 : MethodName := (⟨"java/lang/StringUTF16", "coderFromArrayLen", "([BI)B"⟩ : MethodName)
theorem ef_rm_cfal (m : MethodId) (da : Addr) (n : Int32) : entryFrame m #[(.ref da), (.int n)] 2 = mkF m 0 #[rv da, iv n] [] := by first | (simp [entryFrame, mkF, argsToLocals, Value.category]; done) | rfl
theorem pn6 : plainFor (⟨"java/lang/StringUTF16", "coderFromArrayLen", "([BI)B"⟩ : MethodName) = true := by first | exact plainFor_of_name (by first | (simp [plainName, overriddenIn]; done) | decide +kernel) | decide +kernel
set_option maxRecDepth 65536 in
set_option maxHeartbeats 40000000 in
theorem rm_cfal {l : Launch} {Z : State} {a0 : Array Value} {A : Nat → Addr} {KC : Nat → Cell} {IC : Nat → Int32} {VC : Nat → Value} (hw : ∀ d ∈ tables_1, d.before a0 Z = true) (G : own_Ctx Z A KC IC VC) (da : Addr) (n : Int32) (kd : ClassId) (vs : List Value) (h0 : Heap) (O0 : Ext Z.heap h0) (prem0 : Arv Z h0 da kd .byte n vs (.int (0 : Int32))) :
    Ok l Z own_m5 jdk_52_method_15_code 2 (some .byte) ({ frames := 0, cells := 0, slots := 0, locals := 0 } : Room) #[(.ref da), (.int n)] h0
      (fun v h L => v = some (.int (0 : Int32)) ∧ (h = h0) ∧ (L = [])) := by
  refine Ok.mk pn6 ?_
  intro p e s m below meth c T0 hx hby hml hown hnm hret hlk hZ e0 X0
  refine Go.cast (ef_rm_cfal m da n) ?_
  have D := @hb _ _ hby
  have N0 := Fr.nil Z.heap.size
  have K0 : Keep h0 h0 [] := Keep.refl _ _
  obtain ⟨cl8, Ar8, qk8, S8, Ng8, H8, G8⟩ := id prem0
  refine Go.of (T' := T0) (f' := (mkF m 8 #[rv da, iv n] [(.int ((((n - n).toUInt32 >>> ((31 : Int32) &&& 31).toUInt32).toInt32).toInt8.toInt32))])) (fun _ k => XS.iloadN X0.here hx rfl (D d13_0) rfl (XS.aloadN X0.here hx rfl (D d13_1) rfl rfl (X0.arraylength hx (by rw [e0]; exact Ar8.1) (State.isArrayOf_alike hZ.alike Ar8.2.1) (g := (mkF m 2 #[rv da, iv n] [(.ref da), (.int n)])) rfl rfl (D d13_2) _ (by rw [len_of S8 Ng8]; exact (XS.isub X0.here hx rfl (D d13_3) rfl (XS.bipush X0.here hx rfl (D d13_4) (XS.iushr X0.here hx rfl (D d13_6) rfl (XS.i2b X0.here hx rfl (D d13_7) rfl k)))))))) ?_
  exact Go.retB X0 hx hlk hret (by simp) (D d13_8) (by decide) (by decide) (z' := (0 : Int32)) (by rw [Int32.sub_self]; decide) (by rw [e0]; exact ⟨rfl, rfl, by simp⟩)
theorem own_n0 {n : Int32} {cs : List Int32} (h : n.toInt = cs.length) (q : 0 < cs.length) : ¬ n = 0 := fun e => by
  subst e
  rw [show (0 : Int32).toInt = 0 from rfl] at h
  omega
theorem d9_0 : decode jdk_42_method_149_code 0 = .ok (.aload_n 0, 1) := by decide +kernel
theorem d9_1 : decode jdk_42_method_149_code 1 = .ok (.invokespecial 1, 3) := by decide +kernel
theorem d9_4 : decode jdk_42_method_149_code 4 = .ok (.iload_n 3, 1) := by decide +kernel
theorem d9_5 : decode jdk_42_method_149_code 5 = .ok (.ifCond .ne 22, 3) := by decide +kernel
theorem d9_27 : decode jdk_42_method_149_code 27 = .ok (.getstatic 38, 3) := by decide +kernel
theorem d9_30 : decode jdk_42_method_149_code 30 = .ok (.ifCond .eq 28, 3) := by decide +kernel
theorem d9_33 : decode jdk_42_method_149_code 33 = .ok (.aload_n 1, 1) := by decide +kernel
theorem d9_34 : decode jdk_42_method_149_code 34 = .ok (.iload_n 2, 1) := by decide +kernel
theorem d9_35 : decode jdk_42_method_149_code 35 = .ok (.iload_n 3, 1) := by decide +kernel
theorem d9_36 : decode jdk_42_method_149_code 36 = .ok (.invokestatic 177, 3) := by decide +kernel
theorem pd7 : parseMethodDescriptor "([CII)[B" = some ⟨[(.array .char), .int, .int], some (.array .byte)⟩ := by decide +kernel
theorem d9_39 : decode jdk_42_method_149_code 39 = .ok (.astore 5, 2) := by decide +kernel
theorem d9_41 : decode jdk_42_method_149_code 41 = .ok (.aload_n 0, 1) := by decide +kernel
theorem d9_42 : decode jdk_42_method_149_code 42 = .ok (.aload 5, 2) := by decide +kernel
theorem d9_44 : decode jdk_42_method_149_code 44 = .ok (.iload_n 3, 1) := by decide +kernel
theorem d9_45 : decode jdk_42_method_149_code 45 = .ok (.invokestatic 47, 3) := by decide +kernel
theorem pd8 : parseMethodDescriptor "([BI)B" = some ⟨[(.array .byte), .int], some .byte⟩ := by decide +kernel
theorem d9_48 : decode jdk_42_method_149_code 48 = .ok (.putfield 15, 3) := by decide +kernel
theorem d9_51 : decode jdk_42_method_149_code 51 = .ok (.aload_n 0, 1) := by decide +kernel
theorem d9_52 : decode jdk_42_method_149_code 52 = .ok (.aload 5, 2) := by decide +kernel
theorem d9_54 : decode jdk_42_method_149_code 54 = .ok (.putfield 9, 3) := by decide +kernel
theorem d9_57 : decode jdk_42_method_149_code 57 = .ok (.return_, 1) := by decide +kernel
abbrev own_m9 : MethodName := (⟨"java/lang/String", "<init>", "([CIILjava/lang/Void;)V"⟩ : MethodName)
theorem ef_rm_str4 (m : MethodId) (so : Addr) (sa : Addr) (n : Int32) : entryFrame m #[(.ref so), (.ref sa), (.int (0 : Int32)), (.int n), .null] 6 = mkF m 0 #[rv so, rv sa, iv (0 : Int32), iv n, .val .null, .unset] [] := by first | (simp [entryFrame, mkF, argsToLocals, Value.category]; done) | rfl
theorem pn10 : plainFor (⟨"java/lang/String", "<init>", "([CIILjava/lang/Void;)V"⟩ : MethodName) = true := by first | exact plainFor_of_name (by first | (simp [plainName, overriddenIn]; done) | decide +kernel) | decide +kernel
set_option maxRecDepth 65536 in
set_option maxHeartbeats 40000000 in
theorem rm_str4 {l : Launch} {Z : State} {a0 : Array Value} {A : Nat → Addr} {KC : Nat → Cell} {IC : Nat → Int32} {VC : Nat → Value} (hw : ∀ d ∈ tables_1, d.before a0 Z = true) (G : own_Ctx Z A KC IC VC) (so : Addr) (sa : Addr) (n : Int32) (ks : ClassId) (cs : List Int32) (h0 : Heap) (O0 : Ext Z.heap h0) (prem0 : n.toInt = cs.length) (prem1 : own_le cs) (prem2 : cs.length ≤ 6) (prem3 : 0 < cs.length) (prem4 : Exa Z h0 so "java/lang/String") (prem5 : Fld Z h0 so "java/lang/String" "value" "[B" .null) (prem6 : Fld Z h0 so "java/lang/String" "coder" "B" (.int (0 : Int32))) (prem7 : Z.heap.size ≤ so) (prem8 : Arv Z h0 sa ks .char n (cs.map Value.int) (.int (0 : Int32))) (prem9 : so ≠ sa) :
    Ok l Z own_m9 jdk_42_method_149_code 6 none ({ frames := 2, cells := 1, slots := 6, locals := 35 } : Room) #[(.ref so), (.ref sa), (.int (0 : Int32)), (.int n), .null] h0
      (fun v h L => ∃ da : Addr, ∃ kd : ClassId, v = none ∧ (Fr Z.heap.size L) ∧ (Keep h0 h [so]) ∧ (h0.size ≤ da) ∧ (Fld Z h so "java/lang/String" "value" "[B" (.ref da)) ∧ (Fld Z h so "java/lang/String" "coder" "B" (.int (0 : Int32))) ∧ (Arv Z h da kd .byte n (cs.map own_bv) (.int (0 : Int32))) ∧ (Exa Z h da "[B")) := by
  refine Ok.mk pn10 ?_
  intro p e s m below meth c T0 hx hby hml hown hnm hret hlk hZ e0 X0
  refine Go.cast (ef_rm_str4 m so sa n) ?_
  obtain ⟨-, -, -, -, -, -, -, -, -, -, -, -, -, -, -, -, -, -, -, -, -, -, -, -, -, -, -, -, -, -, -, -, S_COMPACT_STRINGS, hne_s_COMPACT_STRINGS_0, -⟩ := id G
  have D := @hb _ _ hby
  have N0 := Fr.nil Z.heap.size
  have K0 : Keep h0 h0 [so] := Keep.refl _ _
  obtain ⟨T9, X9, e9, st9⟩ := initO X0 hx hZ hown (own_w hw (i := 56) rfl) (own_w hw (i := 57) rfl) (own_w hw (i := 58) rfl) e0 (g := (mkF m 1 #[rv so, rv sa, iv 0, iv n, .val .null, .unset] [(.ref so)])) rfl (by rw [hml]; rfl) rfl (D d9_1) (by decide) (W := 0) (Nat.le_of_eq rfl) (by decide)
  have hc10 : ¬ (n = (0 : Int32)) := own_n0 prem0 prem3
  obtain ⟨T11, X11, e11, st11⟩ := getS2 X9 hx hZ hown (host := "") (Or.inl (own_w hw (i := 20) rfl)) Via.refl e9 (Sta.ext O0 S_COMPACT_STRINGS) (g := (mkF m 27 #[rv so, rv sa, iv 0, iv n, .val .null, .unset] [])) rfl (D d9_27)
  have hc12 : ¬ ((IC 0) = (0 : Int32)) := hne_s_COMPACT_STRINGS_0
  obtain ⟨T13, v13, L13, X13, q13, st13⟩ := callSt X11 hx hZ (y := own_m3) hown (own_w hw (i := 59) rfl) (own_w hw (i := 60) rfl) (own_w hw (i := 61) rfl) (own_w hw (i := 62) rfl) (by decide) (rm_comp3 hw G sa n ks cs h0 O0 (prem0) (prem1) (prem2) (prem3) prem8) e11 (W := 0) (by decide) (by decide) (by decide) (by decide) (g := (mkF m 36 #[rv so, rv sa, iv 0, iv n, .val .null, .unset] [(.int n), (.int 0), (.ref sa)])) rfl (by rw [hml]; rfl) (argsL := [(.ref sa), (.int 0), (.int n)]) (rest := []) (lenOf pd7 rfl) rfl rfl (Nat.le_of_eq rfl) (D d9_36)
  obtain ⟨da_13, kd_13, rfl, N13q, K13q, p13_0, p13_1, p13_2⟩ := q13
  have N13 := Fr.app N0 N13q
  have O14 := Old0.keep O0 K13q all0
  have K14 := Keep.trans K0 K13q all0
  have z_da_13 : h0.size ≤ da_13 := Nat.le_trans K0.1 p13_0
  have g_da_13 : Z.heap.size ≤ da_13 := Nat.le_trans O0.1 p13_0
  have ne_so_da_13 : so ≠ da_13 := Nat.ne_of_lt (Nat.lt_of_lt_of_le prem4.lt p13_0)
  have ne_sa_da_13 : sa ≠ da_13 := Nat.ne_of_lt (Nat.lt_of_lt_of_le prem8.lt p13_0)
  obtain ⟨T15, v15, L15, X15, q15, st15⟩ := callSt X13 hx hZ (y := own_m5) hown (own_w hw (i := 66) rfl) (own_w hw (i := 67) rfl) (own_w hw (i := 61) rfl) (own_w hw (i := 68) rfl) (by decide) (rm_cfal hw G da_13 n kd_13 ((cs.map own_bv)) T13.heap O14 p13_1) rfl (W := 1) (by decide) (by decide) (by decide) (by decide) (g := (mkF m 45 #[rv so, rv sa, iv 0, iv n, .val .null, rv da_13] [(.int n), (.ref da_13), (.ref so)])) rfl (by rw [hml]; rfl) (argsL := [(.ref da_13), (.int n)]) (rest := [(.ref so)]) (lenOf pd8 rfl) rfl rfl (Nat.le_of_eq rfl) (D d9_45)
  obtain ⟨rfl, e15, rfl⟩ := q15
  have N15 := Fr.app N13 (Fr.nil _)
  have f17 : Exa Z T13.heap so "java/lang/String" := (Exa.keep prem4 K13q)
  have f18 : Fld Z T13.heap so "java/lang/String" "coder" "B" (.int 0) := (Fld.keep prem6 K13q nin0)
  obtain ⟨T16, h16, X16, e16, W16, st16⟩ := putFN X15 hx hZ hown (own_w hw (i := 21) rfl) Via.refl e15 f18 f17 (Or.inr ⟨(own_w hw (i := 6) rfl), rfl, hnm⟩) (own_w hw (i := 3) rfl) (ty := .byte) (v' := (.int 0)) (by decide) rfl rfl (g := (mkF m 48 #[rv so, rv sa, iv 0, iv n, .val .null, rv da_13] [(.int 0), (.ref so)])) rfl rfl (D d9_48)
  have O19 := Old0.wr O14 W16 prem7
  have K19 := Keep.wr K14 W16 (Or.inl (List.mem_of_getElem? (i := 0) rfl))
  have N16 := Fr.snoc X16 N15 prem7
  have f16 : Fld Z h16 so "java/lang/String" "coder" "B" (.int 0) := Fld.same W16 f18
  have f21 : Exa Z h16 so "java/lang/String" := (Exa.wr W16 f17)
  have f22 : Fld Z h16 so "java/lang/String" "value" "[B" .null := (Fld.other W16 (Fld.keep prem5 K13q nin0) (Or.inr (slot_ne (Or.inr (own_w hw (i := 5) rfl)) (Or.inr (own_w hw (i := 6) rfl)) (by decide) (t := (.array .byte)) (t' := .byte) (by decide) (by decide))))
  obtain ⟨T20, h20, X20, e20, W20, st20⟩ := putF X16 hx hZ hown (host := "") (Or.inl (own_w hw (i := 14) rfl)) Via.refl e16 f22 f21 (Or.inr ⟨(own_w hw (i := 5) rfl), rfl, hnm⟩) (own_w hw (i := 3) rfl) (ty := (.array .byte)) (by decide) rfl rfl (g := (mkF m 54 #[rv so, rv sa, iv 0, iv n, .val .null, rv da_13] [(.ref da_13), (.ref so)])) rfl rfl (D d9_54)
  have O23 := Old0.wr O19 W20 prem7
  have K23 := Keep.wr K19 W20 (Or.inl (List.mem_of_getElem? (i := 0) rfl))
  have N20 := Fr.snoc X20 N16 prem7
  have f20 : Fld Z h20 so "java/lang/String" "value" "[B" (.ref da_13) := Fld.same W20 f22
  have f24 : Fld Z h20 so "java/lang/String" "coder" "B" (.int 0) := (Fld.other W20 f16 (Or.inr (slot_ne (Or.inr (own_w hw (i := 6) rfl)) (Or.inr (own_w hw (i := 5) rfl)) (by decide) (t := .byte) (t' := (.array .byte)) (by decide) (by decide))))
  have f25 : Arv Z h20 da_13 kd_13 .byte n (cs.map own_bv) (.int 0) := (Arv.other (Arv.other p13_1 W16 (Ne.symm ne_so_da_13)) W20 (Ne.symm ne_so_da_13))
  have f26 : Exa Z h20 da_13 "[B" := (Exa.wr W20 (Exa.wr W16 p13_2))
  refine Go.of (T' := T20) (f' := (mkF m 57 #[rv so, rv sa, iv 0, iv n, .val .null, rv da_13] [])) (fun _ k => XS.aloadN X0.here hx rfl (D d9_0) rfl rfl (st9 _ (XS.iloadN X9.here hx rfl (D d9_4) rfl (XS.ifYes X9.here hx rfl (pc0 := 5) (pc' := 27) rfl (D d9_5) rfl ((if0 _ _).trans (feq hc10).2) (by decide) (by decide) (st11 _ (XS.ifNo X11.here hx rfl (D d9_30) rfl ((if0 _ _).trans (feq hc12).1) (XS.aloadN X11.here hx rfl (D d9_33) rfl rfl (XS.iloadN X11.here hx rfl (D d9_34) rfl (XS.iloadN X11.here hx rfl (D d9_35) rfl (st13 _ (XS.astore X13.here hx rfl (D d9_39) rfl rfl (l' := #[rv so, rv sa, iv 0, iv n, .val .null, rv da_13]) rfl (XS.aloadN X13.here hx rfl (D d9_41) rfl rfl (XS.aload X13.here hx rfl (D d9_42) rfl rfl (XS.iloadN X13.here hx rfl (D d9_44) rfl (st15 _ (st16 _ (XS.aloadN X16.here hx rfl (D d9_51) rfl rfl (XS.aload X16.here hx rfl (D d9_52) rfl rfl (st20 _ k))))))))))))))))))) ?_
  exact Go.retV X20 hx hlk hret (D d9_57) (by decide) (by decide) (by rw [e20]; exact ⟨da_13, kd_13, rfl, N20, K23, z_da_13, f20, f24, f25, f26⟩)
theorem d8_0 : decode jdk_42_method_3_code 0 = .ok (.aload_n 0, 1) := by decide +kernel
theorem d8_1 : decode jdk_42_method_3_code 1 = .ok (.aload_n 1, 1) := by decide +kernel
theorem d8_2 : decode jdk_42_method_3_code 2 = .ok (.iconst 0, 1) := by decide +kernel
theorem d8_3 : decode jdk_42_method_3_code 3 = .ok (.aload_n 1, 1) := by decide +kernel
theorem d8_4 : decode jdk_42_method_3_code 4 = .ok (.arraylength, 1) := by decide +kernel
theorem d8_5 : decode jdk_42_method_3_code 5 = .ok (.aconst_null, 1) := by decide +kernel
theorem d8_6 : decode jdk_42_method_3_code 6 = .ok (.invokespecial 27, 3) := by decide +kernel
theorem pd11 : parseMethodDescriptor "([CIILjava/lang/Void;)V" = some ⟨[(.array .char), .int, .int, (.object "java/lang/Void")], none⟩ := by decide +kernel
theorem d8_9 : decode jdk_42_method_3_code 9 = .ok (.return_, 1) := by decide +kernel
abbrev own_m12 : MethodName := (⟨"java/lang/String", "<init>", "([C)V"⟩ : MethodName)
theorem ef_rm_str (m : MethodId) (so : Addr) (sa : Addr) : entryFrame m #[(.ref so), (.ref sa)] 2 = mkF m 0 #[rv so, rv sa] [] := by first | (simp [entryFrame, mkF, argsToLocals, Value.category]; done) | rfl
theorem pn13 : plainFor (⟨"java/lang/String", "<init>", "([C)V"⟩ : MethodName) = true := by first | exact plainFor_of_name (by first | (simp [plainName, overriddenIn]; done) | decide +kernel) | decide +kernel
set_option maxRecDepth 65536 in
set_option maxHeartbeats 40000000 in
theorem rm_str {l : Launch} {Z : State} {a0 : Array Value} {A : Nat → Addr} {KC : Nat → Cell} {IC : Nat → Int32} {VC : Nat → Value} (hw : ∀ d ∈ tables_1, d.before a0 Z = true) (G : own_Ctx Z A KC IC VC) (so : Addr) (sa : Addr) (n : Int32) (ks : ClassId) (cs : List Int32) (h0 : Heap) (O0 : Ext Z.heap h0) (prem0 : n.toInt = cs.length) (prem1 : own_le cs) (prem2 : cs.length ≤ 6) (prem3 : 0 < cs.length) (prem4 : Exa Z h0 so "java/lang/String") (prem5 : Fld Z h0 so "java/lang/String" "value" "[B" .null) (prem6 : Fld Z h0 so "java/lang/String" "coder" "B" (.int (0 : Int32))) (prem7 : Z.heap.size ≤ so) (prem8 : Arv Z h0 sa ks .char n (cs.map Value.int) (.int (0 : Int32))) (prem9 : so ≠ sa) :
    Ok l Z own_m12 jdk_42_method_3_code 2 none ({ frames := 3, cells := 1, slots := 6, locals := 52 } : Room) #[(.ref so), (.ref sa)] h0
      (fun v h L => ∃ da : Addr, ∃ kd : ClassId, v = none ∧ (Fr Z.heap.size L) ∧ (Keep h0 h [so]) ∧ (h0.size ≤ da) ∧ (Fld Z h so "java/lang/String" "value" "[B" (.ref da)) ∧ (Fld Z h so "java/lang/String" "coder" "B" (.int (0 : Int32))) ∧ (Arv Z h da kd .byte n (cs.map own_bv) (.int (0 : Int32))) ∧ (Exa Z h da "[B")) := by
  refine Ok.mk pn13 ?_
  intro p e s m below meth c T0 hx hby hml hown hnm hret hlk hZ e0 X0
  refine Go.cast (ef_rm_str m so sa) ?_
  have D := @hb _ _ hby
  have N0 := Fr.nil Z.heap.size
  have K0 : Keep h0 h0 [so] := Keep.refl _ _
  obtain ⟨cl27, Ar27, qk27, S27, Ng27, H27, G27⟩ := id prem8
  obtain ⟨T28, v28, L28, X28, q28, st28⟩ := callNew X0 hx hZ (y := own_m9) rfl hown (own_w hw (i := 52) rfl) (own_w hw (i := 53) rfl) (own_w hw (i := 2) rfl) (own_w hw (i := 55) rfl) (by decide) (rm_str4 hw G so sa n ks cs h0 O0 (prem0) (prem1) (prem2) (prem3) prem4 prem5 prem6 prem7 prem8 prem9) e0 (W := 0) (by decide) (by decide) (by decide) (by decide) (g := (mkF m 6 #[rv so, rv sa] [.null, (.int n), (.int 0), (.ref sa), (.ref so)])) rfl (by rw [hml]; rfl) (a := so) (argsL := [(.ref sa), (.int 0), (.int n), .null]) (rest := []) (lenOf pd11 rfl) rfl rfl (Nat.le_of_eq rfl) (D d8_6)
  obtain ⟨da_28, kd_28, rfl, N28q, K28q, p28_0, p28_1, p28_2, p28_3, p28_4⟩ := q28
  have N28 := Fr.app N0 N28q
  have O29 := Old0.keep O0 K28q (allS prem7 all0)
  have K29 := Keep.trans K0 K28q (allS (Or.inl (List.mem_of_getElem? (i := 0) rfl)) all0)
  have z_da_28 : h0.size ≤ da_28 := Nat.le_trans K0.1 p28_0
  have g_da_28 : Z.heap.size ≤ da_28 := Nat.le_trans O0.1 p28_0
  have ne_so_da_28 : so ≠ da_28 := Nat.ne_of_lt (Nat.lt_of_lt_of_le prem4.lt p28_0)
  have ne_sa_da_28 : sa ≠ da_28 := Nat.ne_of_lt (Nat.lt_of_lt_of_le prem8.lt p28_0)
  refine Go.of (T' := T28) (f' := (mkF m 9 #[rv so, rv sa] [])) (fun _ k => XS.aloadN X0.here hx rfl (D d8_0) rfl rfl (XS.aloadN X0.here hx rfl (D d8_1) rfl rfl (XS.iconst X0.here hx rfl (D d8_2) (XS.aloadN X0.here hx rfl (D d8_3) rfl rfl (X0.arraylength hx (by rw [e0]; exact Ar27.1) (State.isArrayOf_alike hZ.alike Ar27.2.1) (g := (mkF m 4 #[rv so, rv sa] [(.ref sa), (.int 0), (.ref sa), (.ref so)])) rfl rfl (D d8_4) _ (by rw [len_of S27 Ng27]; exact (XS.aconstNull X0.here hx rfl (D d8_5) (st28 _ k)))))))) ?_
  exact Go.retV X28 hx hlk hret (D d8_9) (by decide) (by decide) ⟨da_28, kd_28, rfl, N28, K29, z_da_28, p28_1, p28_2, p28_3, p28_4⟩
theorem d9_8 : decode jdk_42_method_149_code 8 = .ok (.aload_n 0, 1) := by decide +kernel
theorem d9_9 : decode jdk_42_method_149_code 9 = .ok (.ldc 7, 2) := by decide +kernel
theorem d9_11 : decode jdk_42_method_149_code 11 = .ok (.getfield 9, 3) := by decide +kernel
theorem d9_14 : decode jdk_42_method_149_code 14 = .ok (.putfield 9, 3) := by decide +kernel
theorem d9_17 : decode jdk_42_method_149_code 17 = .ok (.aload_n 0, 1) := by decide +kernel
theorem d9_18 : decode jdk_42_method_149_code 18 = .ok (.ldc 7, 2) := by decide +kernel
theorem d9_20 : decode jdk_42_method_149_code 20 = .ok (.getfield 15, 3) := by decide +kernel
theorem d9_23 : decode jdk_42_method_149_code 23 = .ok (.putfield 15, 3) := by decide +kernel
theorem d9_26 : decode jdk_42_method_149_code 26 = .ok (.return_, 1) := by decide +kernel
theorem ef_rm_str4_0 (m : MethodId) (so : Addr) (sa : Addr) : entryFrame m #[(.ref so), (.ref sa), (.int (0 : Int32)), (.int (0 : Int32)), .null] 6 = mkF m 0 #[rv so, rv sa, iv (0 : Int32), iv (0 : Int32), .val .null, .unset] [] := by first | (simp [entryFrame, mkF, argsToLocals, Value.category]; done) | rfl
set_option maxRecDepth 65536 in
set_option maxHeartbeats 40000000 in
theorem rm_str4_0 {l : Launch} {Z : State} {a0 : Array Value} {A : Nat → Addr} {KC : Nat → Cell} {IC : Nat → Int32} {VC : Nat → Value} (hw : ∀ d ∈ tables_1, d.before a0 Z = true) (G : own_Ctx Z A KC IC VC) (so : Addr) (sa : Addr)  (h0 : Heap) (O0 : Ext Z.heap h0) (prem0 : Exa Z h0 so "java/lang/String") (prem1 : Fld Z h0 so "java/lang/String" "value" "[B" .null) (prem2 : Fld Z h0 so "java/lang/String" "coder" "B" (.int (0 : Int32))) (prem3 : Z.heap.size ≤ so) :
    OkS l Z own_EL own_m9 jdk_42_method_149_code 6 none ({ frames := 1, cells := 4, slots := 8, locals := 12 } : Room) #[(.ref so), (.ref sa), (.int (0 : Int32)), (.int (0 : Int32)), .null] h0
      (fun v h L => ∃ da : Addr, ∃ kd : ClassId, v = none ∧ (Fr Z.heap.size L) ∧ (Keep h0 h [so]) ∧ (Fld Z h so "java/lang/String" "value" "[B" (.ref da)) ∧ (Fld Z h so "java/lang/String" "coder" "B" (.int (0 : Int32))) ∧ (Arv Z h da kd .byte (0 : Int32) [] (.int (0 : Int32)))) := by
  refine OkS.mk pn10 ?_
  intro p e s m below meth c T0 hx hby hml hown hnm hret hlk hZ e0 C0 hS X0
  have hk := Nat.zero_le h0.size
  have hEL := own_EW hw
  refine GoS.cast (ef_rm_str4_0 m so sa) ?_
  have D := @hb _ _ hby
  have N0 := Fr.nil Z.heap.size
  have K0 : Keep h0 h0 [so] := Keep.refl _ _
  obtain ⟨T30, X30, e30, st30⟩ := initO X0 hx hZ hown (own_w hw (i := 56) rfl) (own_w hw (i := 57) rfl) (own_w hw (i := 58) rfl) e0 (g := (mkF m 1 #[rv so, rv sa, iv 0, iv 0, .val .null, .unset] [(.ref so)])) rfl (by rw [hml]; rfl) rfl (D d9_1) (by decide) (W := 0) (Nat.le_of_eq rfl) (by decide)
  refine GoS.of (T' := T30) (f' := (mkF m 9 #[rv so, rv sa, iv 0, iv 0, .val .null, .unset] [(.ref so)])) (fun _ k => XS.aloadN X0.here hx rfl (D d9_0) rfl rfl (st30 _ (XS.iloadN X30.here hx rfl (D d9_4) rfl (XS.ifNo X30.here hx rfl (D d9_5) rfl ((if0 _ _).trans (teq (by decide : (0 : Int32) = (0 : Int32))).2) (XS.aloadN X30.here hx rfl (D d9_8) rfl rfl k))))) ?_
  have sf33 : Safe Z own_EL s.vm h0 so := own_safeNull hZ.alike prem0 prem1
  have sp32_so : Safe Z own_EL s.vm h0 so := sf33
  obtain ⟨c32, T32, h32, k132, v32, kc32, X32, e32, E32, hS, hk32, hZ, hown, A32, Fc32, Fv32, V32, -, -, Cq32, -, sn32, st32⟩ := ldcCH X30 hx hZ hown (own_w hw (i := 114) rfl) (own_wS hw) e30 hS hk hEL (by decide) C0.1 (vs := []) (z := (0 : Int32)) ⟨by decide +kernel, by decide +kernel⟩ (by decide) rfl (g := (mkF m 9 #[rv so, rv sa, iv 0, iv 0, .val .null, .unset] [(.ref so)])) rfl (D d9_9) (n := 0) (by decide +kernel) (by decide) (by decide) (by decide)
  have O32 := Old0.ext O0 E32
  have K32 := Keep.ext K0 E32
  have C32 := CHr.trans C0 Cq32
  have hk := hk32
  have sf32_so : Safe Z own_EL T32.vm h32 so := CHr.safe Cq32 prem0.lt sp32_so
  have ne_so_c32 : so ≠ c32 := (sn32 so sf32_so).1
  have ne_so_v32 : so ≠ v32 := (sn32 so sf32_so).2
  obtain ⟨T34, X34, e34, st34⟩ := getF X32 hx hZ hown (host := "") (Or.inl (own_w hw (i := 14) rfl)) Via.refl e32 Fv32 (g := (mkF m 11 #[rv so, rv sa, iv 0, iv 0, .val .null, .unset] [(.ref c32), (.ref so)])) rfl rfl (D d9_11)
  have f36 : Exa Z h32 so "java/lang/String" := (Exa.ext E32 prem0)
  have f37 : Fld Z h32 so "java/lang/String" "value" "[B" .null := (Fld.ext E32 prem1)
  obtain ⟨T35, h35, X35, e35, W35, st35⟩ := putF X34 hx hZ hown (host := "") (Or.inl (own_w hw (i := 14) rfl)) Via.refl e34 f37 f36 (Or.inr ⟨(own_w hw (i := 5) rfl), rfl, hnm⟩) (own_w hw (i := 3) rfl) (ty := (.array .byte)) (by decide) rfl rfl (g := (mkF m 14 #[rv so, rv sa, iv 0, iv 0, .val .null, .unset] [(.ref v32), (.ref so)])) rfl rfl (D d9_14)
  have O39 := Old0.wr O32 W35 prem3
  have K39 := Keep.wr K32 W35 (Or.inl (List.mem_of_getElem? (i := 0) rfl))
  have C38 := CHr.trans C32 (CHr.wr W35 sf32_so C32.1)
  have hk := Nat.le_trans hk (Keep.of_wr W35).1
  have N35 := Fr.snoc X35 N0 prem3
  have f35 : Fld Z h35 so "java/lang/String" "value" "[B" (.ref v32) := Fld.same W35 f37
  refine GoS.of (T' := T35) (f' := (mkF m 18 #[rv so, rv sa, iv 0, iv 0, .val .null, .unset] [(.ref so)])) (fun _ k => st32 _ (st34 _ (st35 _ (XS.aloadN X35.here hx rfl (D d9_17) rfl rfl k)))) ?_
  have sf41 : Safe Z own_EL T32.vm h35 so := (Safe.wr W35 sf32_so C32.1 sf32_so)
  have f42 : Exa Z h35 so "java/lang/String" := (Exa.wr W35 f36)
  have sp40_so : Safe Z own_EL T32.vm h35 so := sf41
  obtain ⟨c40, T40, h40, k140, v40, kc40, X40, e40, E40, hS, hk40, hZ, hown, A40, Fc40, Fv40, V40, -, -, Cq40, -, sn40, st40⟩ := ldcCH X35 hx hZ hown (own_w hw (i := 114) rfl) (own_wS hw) e35 hS hk hEL (by decide) C38.1 (vs := []) (z := (0 : Int32)) ⟨by decide +kernel, by decide +kernel⟩ (by decide) rfl (g := (mkF m 18 #[rv so, rv sa, iv 0, iv 0, .val .null, .unset] [(.ref so)])) rfl (D d9_18) (n := 0) (by decide +kernel) (by decide) (by decide) (by decide)
  have O40 := Old0.ext O39 E40
  have K40 := Keep.ext K39 E40
  have C40 := CHr.trans C38 Cq40
  have hk := hk40
  have sf40_so : Safe Z own_EL T40.vm h40 so := CHr.safe Cq40 f42.lt sp40_so
  have ne_so_c40 : so ≠ c40 := (sn40 so sf40_so).1
  have ne_so_v40 : so ≠ v40 := (sn40 so sf40_so).2
  obtain ⟨T43, X43, e43, st43⟩ := getF X40 hx hZ hown (host := "") (Or.inl (own_w hw (i := 21) rfl)) Via.refl e40 Fc40 (g := (mkF m 20 #[rv so, rv sa, iv 0, iv 0, .val .null, .unset] [(.ref c40), (.ref so)])) rfl rfl (D d9_20)
  have f45 : Exa Z h40 so "java/lang/String" := (Exa.ext E40 f42)
  have f46 : Fld Z h40 so "java/lang/String" "coder" "B" (.int 0) := (Fld.ext E40 (Fld.other W35 (Fld.ext E32 prem2) (Or.inr (slot_ne (Or.inr (own_w hw (i := 6) rfl)) (Or.inr (own_w hw (i := 5) rfl)) (by decide) (t := .byte) (t' := (.array .byte)) (by decide) (by decide)))))
  obtain ⟨T44, h44, X44, e44, W44, st44⟩ := putFN X43 hx hZ hown (own_w hw (i := 21) rfl) Via.refl e43 f46 f45 (Or.inr ⟨(own_w hw (i := 6) rfl), rfl, hnm⟩) (own_w hw (i := 3) rfl) (ty := .byte) (v' := (.int 0)) (by decide) rfl rfl (g := (mkF m 23 #[rv so, rv sa, iv 0, iv 0, .val .null, .unset] [(.int 0), (.ref so)])) rfl rfl (D d9_23)
  have O48 := Old0.wr O40 W44 prem3
  have K48 := Keep.wr K40 W44 (Or.inl (List.mem_of_getElem? (i := 0) rfl))
  have C47 := CHr.trans C40 (CHr.wr W44 sf40_so C40.1)
  have hk := Nat.le_trans hk (Keep.of_wr W44).1
  have N44 := Fr.snoc X44 N35 prem3
  have f44 : Fld Z h44 so "java/lang/String" "coder" "B" (.int 0) := Fld.same W44 f46
  have f49 : Fld Z h44 so "java/lang/String" "value" "[B" (.ref v32) := (Fld.other W44 (Fld.ext E40 f35) (Or.inr (slot_ne (Or.inr (own_w hw (i := 5) rfl)) (Or.inr (own_w hw (i := 6) rfl)) (by decide) (t := (.array .byte)) (t' := .byte) (by decide) (by decide))))
  have f50 : Arv Z h44 v32 kc32 .byte (0 : Int32) [] (.int 0) := (Arv.other (Arv.ext (Arv.other V32 W35 (Ne.symm ne_so_v32)) E40) W44 (Ne.symm ne_so_v32))
  refine GoS.of (T' := T44) (f' := (mkF m 26 #[rv so, rv sa, iv 0, iv 0, .val .null, .unset] [])) (fun _ k => st40 _ (st43 _ (st44 _ k))) ?_
  exact GoS.retV X44 hx hlk hS hk hZ hEL C47 e44 hret (D d9_26) (by decide) (by decide) (by rw [e44]; exact ⟨v32, kc32, rfl, N44, K48, f49, f44, f50⟩)
theorem ef_rm_str_0 (m : MethodId) (so : Addr) (sa : Addr) : entryFrame m #[(.ref so), (.ref sa)] 2 = mkF m 0 #[rv so, rv sa] [] := by first | (simp [entryFrame, mkF, argsToLocals, Value.category]; done) | rfl
set_option maxRecDepth 65536 in
set_option maxHeartbeats 40000000 in
theorem rm_str_0 {l : Launch} {Z : State} {a0 : Array Value} {A : Nat → Addr} {KC : Nat → Cell} {IC : Nat → Int32} {VC : Nat → Value} (hw : ∀ d ∈ tables_1, d.before a0 Z = true) (G : own_Ctx Z A KC IC VC) (so : Addr) (sa : Addr) (ks : ClassId) (h0 : Heap) (O0 : Ext Z.heap h0) (prem0 : Exa Z h0 so "java/lang/String") (prem1 : Fld Z h0 so "java/lang/String" "value" "[B" .null) (prem2 : Fld Z h0 so "java/lang/String" "coder" "B" (.int (0 : Int32))) (prem3 : Z.heap.size ≤ so) (prem4 : Arv Z h0 sa ks .char (0 : Int32) [] (.int (0 : Int32))) :
    OkS l Z own_EL own_m12 jdk_42_method_3_code 2 none ({ frames := 2, cells := 4, slots := 8, locals := 29 } : Room) #[(.ref so), (.ref sa)] h0
      (fun v h L => ∃ da : Addr, ∃ kd : ClassId, v = none ∧ (Fr Z.heap.size L) ∧ (Keep h0 h [so]) ∧ (Fld Z h so "java/lang/String" "value" "[B" (.ref da)) ∧ (Fld Z h so "java/lang/String" "coder" "B" (.int (0 : Int32))) ∧ (Arv Z h da kd .byte (0 : Int32) [] (.int (0 : Int32)))) := by
  refine OkS.mk pn13 ?_
  intro p e s m below meth c T0 hx hby hml hown hnm hret hlk hZ e0 C0 hS X0
  have hk := Nat.zero_le h0.size
  have hEL := own_EW hw
  refine GoS.cast (ef_rm_str_0 m so sa) ?_
  have D := @hb _ _ hby
  have N0 := Fr.nil Z.heap.size
  have K0 : Keep h0 h0 [so] := Keep.refl _ _
  obtain ⟨cl51, Ar51, qk51, S51, Ng51, H51, G51⟩ := id prem4
  refine GoS.of (T' := T0) (f' := (mkF m 6 #[rv so, rv sa] [.null, (.int 0), (.int 0), (.ref sa), (.ref so)])) (fun _ k => XS.aloadN X0.here hx rfl (D d8_0) rfl rfl (XS.aloadN X0.here hx rfl (D d8_1) rfl rfl (XS.iconst X0.here hx rfl (D d8_2) (XS.aloadN X0.here hx rfl (D d8_3) rfl rfl (X0.arraylength hx (by rw [e0]; exact Ar51.1) (State.isArrayOf_alike hZ.alike Ar51.2.1) (g := (mkF m 4 #[rv so, rv sa] [(.ref sa), (.int 0), (.ref sa), (.ref so)])) rfl rfl (D d8_4) _ (by rw [len_of S51 Ng51]; exact (XS.aconstNull X0.here hx rfl (D d8_5) k))))))) ?_
  obtain ⟨T52, v52, L52, X52, q52, hS, hg52, hZ, hown, Cq52, st52⟩ := callNewS X0 hx hZ (y := own_m9) rfl hS hk hEL C0.1 hown (own_w hw (i := 52) rfl) (own_w hw (i := 53) rfl) (own_w hw (i := 2) rfl) (own_w hw (i := 55) rfl) (by decide) (rm_str4_0 hw G so sa  h0 O0 prem0 prem1 prem2 prem3) e0 (W := 0) (by decide) (by decide) (by decide) (by decide) (g := (mkF m 6 #[rv so, rv sa] [.null, (.int 0), (.int 0), (.ref sa), (.ref so)])) rfl (by rw [hml]; rfl) (a := so) (argsL := [(.ref sa), (.int 0), (.int 0), .null]) (rest := []) (lenOf pd11 rfl) rfl rfl (Nat.le_of_eq rfl) (D d8_6)
  obtain ⟨da_52, kd_52, rfl, N52q, K52q, p52_0, p52_1, p52_2⟩ := q52
  have N52 := Fr.app N0 N52q
  have O53 := Old0.keep O0 K52q (allS prem3 all0)
  have K53 := Keep.trans K0 K52q (allS (Or.inl (List.mem_of_getElem? (i := 0) rfl)) all0)
  have C52 := CHr.trans C0 Cq52
  have hk := Nat.le_refl T52.heap.size
  refine GoS.of (T' := T52) (f' := (mkF m 9 #[rv so, rv sa] [])) (fun _ k => st52 _ k) ?_
  exact GoS.retV X52 hx hlk hS hk hZ hEL C52 rfl hret (D d8_9) (by decide) (by decide) ⟨da_52, kd_52, rfl, N52, K53, p52_0, p52_1, p52_2⟩
theorem own_mg (bs : List Int32) (i : Nat) : (bs.map Value.int).getD i (.int 0) = .int (bs.getD i 0) := by
  simp only [List.getD_eq_getElem?_getD, List.getElem?_map]
  cases bs[i]? <;> rfl
theorem own_fldu {Z : State} {h : Heap} {a : Addr} {C n d : String} {v w : Value} (F : Fld Z h a C n d v) (G : Fld Z h a C n d w) : v = w := Classical.byContradiction fun q => Fld.ne F G q rfl
theorem own_arvu {Z : State} {h : Heap} {a : Addr} {k k' : ClassId} {ty ty' : FieldType} {z z' : Int32} {vs vs' : List Value} {d d' : Value} (A : Arv Z h a k ty z vs d) (B : Arv Z h a k' ty' z' vs' d') : z = z' ∧ ∀ i, i < z.toNatClampNeg → vs.getD i d = vs'.getD i d' := by
  obtain ⟨c, A1, -, A2, A3, A4, -⟩ := A
  obtain ⟨c', B1, -, B2, B3, B4, -⟩ := B
  cases A1.1.symm.trans B1.1
  have e : z.toNatClampNeg = z'.toNatClampNeg := A2.symm.trans B2
  refine ⟨by rw [← (back32 A3).1, ← (back32 B3).1, e], fun i hi => ?_⟩
  have h1 := A4 i (by omega)
  have h2 := B4 i (by omega)
  exact Option.some.inj (h1.symm.trans h2)
theorem own_strid {Z : State} {h : Heap} {a b va vb : Addr} {k k' : ClassId} {n m : Int32} {bs ts : List Int32} (e : a = b) (F : Fld Z h a "java/lang/String" "value" "[B" (.ref va)) (G : Fld Z h b "java/lang/String" "value" "[B" (.ref vb)) (A : Arv Z h va k .byte n (bs.map Value.int) (.int 0)) (B : Arv Z h vb k' .byte m (ts.map Value.int) (.int 0)) : n = m ∧ ∀ i, i < m.toNatClampNeg → bs.getD i 0 = ts.getD i 0 := by
  subst e
  cases Value.ref.inj (own_fldu F G)
  obtain ⟨e1, e2⟩ := own_arvu A B
  subst e1
  refine ⟨rfl, fun i hi => ?_⟩
  have q := e2 i hi
  rw [own_mg, own_mg] at q
  exact Value.int.inj q
def own_eq_set (n : Int32) (bs : List Int32) : Int32 := if n = 3 then (if bs.getD 0 0 = 115 then (if bs.getD 1 0 = 101 then (if bs.getD 2 0 = 116 then 1 else 0) else 0) else 0) else 0
theorem own_is_set {n : Int32} {bs : List Int32} (hn : n = 3) (h0 : bs.getD 0 0 = 115) (h1 : bs.getD 1 0 = 101) (h2 : bs.getD 2 0 = 116) : own_eq_set n bs = 1 := by rw [own_eq_set, if_pos hn, if_pos h0, if_pos h1, if_pos h2]
theorem own_inv_set {n : Int32} {bs : List Int32} (h : own_eq_set n bs = 1) : n = 3 ∧ bs.getD 0 0 = 115 ∧ bs.getD 1 0 = 101 ∧ bs.getD 2 0 = 116 := by
  unfold own_eq_set at h
  repeat' split at h
  all_goals first | (exact absurd h (by decide)) | (refine ⟨?_, ?_, ?_, ?_⟩ <;> assumption)
theorem own_01_set {n : Int32} {bs : List Int32} (h : ¬ own_eq_set n bs = 1) : own_eq_set n bs = 0 := by
  unfold own_eq_set at h ⊢
  repeat' split
  all_goals first | rfl | (exfalso; simp_all)
theorem own_idt_set {Z : State} {h : Heap} {a b va vb : Addr} {k k' : ClassId} {n : Int32} {bs : List Int32} (e : a = b) (F : Fld Z h a "java/lang/String" "value" "[B" (.ref va)) (G : Fld Z h b "java/lang/String" "value" "[B" (.ref vb)) (A : Arv Z h va k .byte n (bs.map Value.int) (.int 0)) (B : Arv Z h vb k' .byte (3 : Int32) (([115, 101, 116] : List Int32).map Value.int) (.int 0)) : own_eq_set n bs = 1 := by
  obtain ⟨e1, e2⟩ := own_strid e F G A B
  exact own_is_set e1 (e2 0 (by decide)) (e2 1 (by decide)) (e2 2 (by decide))
def own_eq_list (n : Int32) (bs : List Int32) : Int32 := if n = 4 then (if bs.getD 0 0 = 108 then (if bs.getD 1 0 = 105 then (if bs.getD 2 0 = 115 then (if bs.getD 3 0 = 116 then 1 else 0) else 0) else 0) else 0) else 0
theorem own_is_list {n : Int32} {bs : List Int32} (hn : n = 4) (h0 : bs.getD 0 0 = 108) (h1 : bs.getD 1 0 = 105) (h2 : bs.getD 2 0 = 115) (h3 : bs.getD 3 0 = 116) : own_eq_list n bs = 1 := by rw [own_eq_list, if_pos hn, if_pos h0, if_pos h1, if_pos h2, if_pos h3]
theorem own_inv_list {n : Int32} {bs : List Int32} (h : own_eq_list n bs = 1) : n = 4 ∧ bs.getD 0 0 = 108 ∧ bs.getD 1 0 = 105 ∧ bs.getD 2 0 = 115 ∧ bs.getD 3 0 = 116 := by
  unfold own_eq_list at h
  repeat' split at h
  all_goals first | (exact absurd h (by decide)) | (refine ⟨?_, ?_, ?_, ?_, ?_⟩ <;> assumption)
theorem own_01_list {n : Int32} {bs : List Int32} (h : ¬ own_eq_list n bs = 1) : own_eq_list n bs = 0 := by
  unfold own_eq_list at h ⊢
  repeat' split
  all_goals first | rfl | (exfalso; simp_all)
theorem own_idt_list {Z : State} {h : Heap} {a b va vb : Addr} {k k' : ClassId} {n : Int32} {bs : List Int32} (e : a = b) (F : Fld Z h a "java/lang/String" "value" "[B" (.ref va)) (G : Fld Z h b "java/lang/String" "value" "[B" (.ref vb)) (A : Arv Z h va k .byte n (bs.map Value.int) (.int 0)) (B : Arv Z h vb k' .byte (4 : Int32) (([108, 105, 115, 116] : List Int32).map Value.int) (.int 0)) : own_eq_list n bs = 1 := by
  obtain ⟨e1, e2⟩ := own_strid e F G A B
  exact own_is_list e1 (e2 0 (by decide)) (e2 1 (by decide)) (e2 2 (by decide)) (e2 3 (by decide))
def own_eq_bag (n : Int32) (bs : List Int32) : Int32 := if n = 3 then (if bs.getD 0 0 = 98 then (if bs.getD 1 0 = 97 then (if bs.getD 2 0 = 103 then 1 else 0) else 0) else 0) else 0
theorem own_is_bag {n : Int32} {bs : List Int32} (hn : n = 3) (h0 : bs.getD 0 0 = 98) (h1 : bs.getD 1 0 = 97) (h2 : bs.getD 2 0 = 103) : own_eq_bag n bs = 1 := by rw [own_eq_bag, if_pos hn, if_pos h0, if_pos h1, if_pos h2]
theorem own_inv_bag {n : Int32} {bs : List Int32} (h : own_eq_bag n bs = 1) : n = 3 ∧ bs.getD 0 0 = 98 ∧ bs.getD 1 0 = 97 ∧ bs.getD 2 0 = 103 := by
  unfold own_eq_bag at h
  repeat' split at h
  all_goals first | (exact absurd h (by decide)) | (refine ⟨?_, ?_, ?_, ?_⟩ <;> assumption)
theorem own_01_bag {n : Int32} {bs : List Int32} (h : ¬ own_eq_bag n bs = 1) : own_eq_bag n bs = 0 := by
  unfold own_eq_bag at h ⊢
  repeat' split
  all_goals first | rfl | (exfalso; simp_all)
theorem own_idt_bag {Z : State} {h : Heap} {a b va vb : Addr} {k k' : ClassId} {n : Int32} {bs : List Int32} (e : a = b) (F : Fld Z h a "java/lang/String" "value" "[B" (.ref va)) (G : Fld Z h b "java/lang/String" "value" "[B" (.ref vb)) (A : Arv Z h va k .byte n (bs.map Value.int) (.int 0)) (B : Arv Z h vb k' .byte (3 : Int32) (([98, 97, 103] : List Int32).map Value.int) (.int 0)) : own_eq_bag n bs = 1 := by
  obtain ⟨e1, e2⟩ := own_strid e F G A B
  exact own_is_bag e1 (e2 0 (by decide)) (e2 1 (by decide)) (e2 2 (by decide))
def own_eq_idbag (n : Int32) (bs : List Int32) : Int32 := if n = 5 then (if bs.getD 0 0 = 105 then (if bs.getD 1 0 = 100 then (if bs.getD 2 0 = 98 then (if bs.getD 3 0 = 97 then (if bs.getD 4 0 = 103 then 1 else 0) else 0) else 0) else 0) else 0) else 0
theorem own_is_idbag {n : Int32} {bs : List Int32} (hn : n = 5) (h0 : bs.getD 0 0 = 105) (h1 : bs.getD 1 0 = 100) (h2 : bs.getD 2 0 = 98) (h3 : bs.getD 3 0 = 97) (h4 : bs.getD 4 0 = 103) : own_eq_idbag n bs = 1 := by rw [own_eq_idbag, if_pos hn, if_pos h0, if_pos h1, if_pos h2, if_pos h3, if_pos h4]
theorem own_inv_idbag {n : Int32} {bs : List Int32} (h : own_eq_idbag n bs = 1) : n = 5 ∧ bs.getD 0 0 = 105 ∧ bs.getD 1 0 = 100 ∧ bs.getD 2 0 = 98 ∧ bs.getD 3 0 = 97 ∧ bs.getD 4 0 = 103 := by
  unfold own_eq_idbag at h
  repeat' split at h
  all_goals first | (exact absurd h (by decide)) | (refine ⟨?_, ?_, ?_, ?_, ?_, ?_⟩ <;> assumption)
theorem own_01_idbag {n : Int32} {bs : List Int32} (h : ¬ own_eq_idbag n bs = 1) : own_eq_idbag n bs = 0 := by
  unfold own_eq_idbag at h ⊢
  repeat' split
  all_goals first | rfl | (exfalso; simp_all)
theorem own_idt_idbag {Z : State} {h : Heap} {a b va vb : Addr} {k k' : ClassId} {n : Int32} {bs : List Int32} (e : a = b) (F : Fld Z h a "java/lang/String" "value" "[B" (.ref va)) (G : Fld Z h b "java/lang/String" "value" "[B" (.ref vb)) (A : Arv Z h va k .byte n (bs.map Value.int) (.int 0)) (B : Arv Z h vb k' .byte (5 : Int32) (([105, 100, 98, 97, 103] : List Int32).map Value.int) (.int 0)) : own_eq_idbag n bs = 1 := by
  obtain ⟨e1, e2⟩ := own_strid e F G A B
  exact own_is_idbag e1 (e2 0 (by decide)) (e2 1 (by decide)) (e2 2 (by decide)) (e2 3 (by decide)) (e2 4 (by decide))
def own_eq_map (n : Int32) (bs : List Int32) : Int32 := if n = 3 then (if bs.getD 0 0 = 109 then (if bs.getD 1 0 = 97 then (if bs.getD 2 0 = 112 then 1 else 0) else 0) else 0) else 0
theorem own_is_map {n : Int32} {bs : List Int32} (hn : n = 3) (h0 : bs.getD 0 0 = 109) (h1 : bs.getD 1 0 = 97) (h2 : bs.getD 2 0 = 112) : own_eq_map n bs = 1 := by rw [own_eq_map, if_pos hn, if_pos h0, if_pos h1, if_pos h2]
theorem own_inv_map {n : Int32} {bs : List Int32} (h : own_eq_map n bs = 1) : n = 3 ∧ bs.getD 0 0 = 109 ∧ bs.getD 1 0 = 97 ∧ bs.getD 2 0 = 112 := by
  unfold own_eq_map at h
  repeat' split at h
  all_goals first | (exact absurd h (by decide)) | (refine ⟨?_, ?_, ?_, ?_⟩ <;> assumption)
theorem own_01_map {n : Int32} {bs : List Int32} (h : ¬ own_eq_map n bs = 1) : own_eq_map n bs = 0 := by
  unfold own_eq_map at h ⊢
  repeat' split
  all_goals first | rfl | (exfalso; simp_all)
theorem own_idt_map {Z : State} {h : Heap} {a b va vb : Addr} {k k' : ClassId} {n : Int32} {bs : List Int32} (e : a = b) (F : Fld Z h a "java/lang/String" "value" "[B" (.ref va)) (G : Fld Z h b "java/lang/String" "value" "[B" (.ref vb)) (A : Arv Z h va k .byte n (bs.map Value.int) (.int 0)) (B : Arv Z h vb k' .byte (3 : Int32) (([109, 97, 112] : List Int32).map Value.int) (.int 0)) : own_eq_map n bs = 1 := by
  obtain ⟨e1, e2⟩ := own_strid e F G A B
  exact own_is_map e1 (e2 0 (by decide)) (e2 1 (by decide)) (e2 2 (by decide))
theorem own_ex_set_list {n : Int32} {bs : List Int32} (h : own_eq_set n bs = 1) : own_eq_list n bs = 0 := by
  have q := own_inv_set h
  rw [own_eq_list, if_neg (by rw [q.1]; decide)]
theorem own_ex_set_bag {n : Int32} {bs : List Int32} (h : own_eq_set n bs = 1) : own_eq_bag n bs = 0 := by
  have q := own_inv_set h
  rw [own_eq_bag, if_pos q.1, if_neg (by rw [q.2.1]; decide)]
theorem own_ex_set_idbag {n : Int32} {bs : List Int32} (h : own_eq_set n bs = 1) : own_eq_idbag n bs = 0 := by
  have q := own_inv_set h
  rw [own_eq_idbag, if_neg (by rw [q.1]; decide)]
theorem own_ex_set_map {n : Int32} {bs : List Int32} (h : own_eq_set n bs = 1) : own_eq_map n bs = 0 := by
  have q := own_inv_set h
  rw [own_eq_map, if_pos q.1, if_neg (by rw [q.2.1]; decide)]
theorem own_ex_list_set {n : Int32} {bs : List Int32} (h : own_eq_list n bs = 1) : own_eq_set n bs = 0 := by
  have q := own_inv_list h
  rw [own_eq_set, if_neg (by rw [q.1]; decide)]
theorem own_ex_list_bag {n : Int32} {bs : List Int32} (h : own_eq_list n bs = 1) : own_eq_bag n bs = 0 := by
  have q := own_inv_list h
  rw [own_eq_bag, if_neg (by rw [q.1]; decide)]
theorem own_ex_list_idbag {n : Int32} {bs : List Int32} (h : own_eq_list n bs = 1) : own_eq_idbag n bs = 0 := by
  have q := own_inv_list h
  rw [own_eq_idbag, if_neg (by rw [q.1]; decide)]
theorem own_ex_list_map {n : Int32} {bs : List Int32} (h : own_eq_list n bs = 1) : own_eq_map n bs = 0 := by
  have q := own_inv_list h
  rw [own_eq_map, if_neg (by rw [q.1]; decide)]
theorem own_ex_bag_set {n : Int32} {bs : List Int32} (h : own_eq_bag n bs = 1) : own_eq_set n bs = 0 := by
  have q := own_inv_bag h
  rw [own_eq_set, if_pos q.1, if_neg (by rw [q.2.1]; decide)]
theorem own_ex_bag_list {n : Int32} {bs : List Int32} (h : own_eq_bag n bs = 1) : own_eq_list n bs = 0 := by
  have q := own_inv_bag h
  rw [own_eq_list, if_neg (by rw [q.1]; decide)]
theorem own_ex_bag_idbag {n : Int32} {bs : List Int32} (h : own_eq_bag n bs = 1) : own_eq_idbag n bs = 0 := by
  have q := own_inv_bag h
  rw [own_eq_idbag, if_neg (by rw [q.1]; decide)]
theorem own_ex_bag_map {n : Int32} {bs : List Int32} (h : own_eq_bag n bs = 1) : own_eq_map n bs = 0 := by
  have q := own_inv_bag h
  rw [own_eq_map, if_pos q.1, if_neg (by rw [q.2.1]; decide)]
theorem own_ex_idbag_set {n : Int32} {bs : List Int32} (h : own_eq_idbag n bs = 1) : own_eq_set n bs = 0 := by
  have q := own_inv_idbag h
  rw [own_eq_set, if_neg (by rw [q.1]; decide)]
theorem own_ex_idbag_list {n : Int32} {bs : List Int32} (h : own_eq_idbag n bs = 1) : own_eq_list n bs = 0 := by
  have q := own_inv_idbag h
  rw [own_eq_list, if_neg (by rw [q.1]; decide)]
theorem own_ex_idbag_bag {n : Int32} {bs : List Int32} (h : own_eq_idbag n bs = 1) : own_eq_bag n bs = 0 := by
  have q := own_inv_idbag h
  rw [own_eq_bag, if_neg (by rw [q.1]; decide)]
theorem own_ex_idbag_map {n : Int32} {bs : List Int32} (h : own_eq_idbag n bs = 1) : own_eq_map n bs = 0 := by
  have q := own_inv_idbag h
  rw [own_eq_map, if_neg (by rw [q.1]; decide)]
theorem own_ex_map_set {n : Int32} {bs : List Int32} (h : own_eq_map n bs = 1) : own_eq_set n bs = 0 := by
  have q := own_inv_map h
  rw [own_eq_set, if_pos q.1, if_neg (by rw [q.2.1]; decide)]
theorem own_ex_map_list {n : Int32} {bs : List Int32} (h : own_eq_map n bs = 1) : own_eq_list n bs = 0 := by
  have q := own_inv_map h
  rw [own_eq_list, if_neg (by rw [q.1]; decide)]
theorem own_ex_map_bag {n : Int32} {bs : List Int32} (h : own_eq_map n bs = 1) : own_eq_bag n bs = 0 := by
  have q := own_inv_map h
  rw [own_eq_bag, if_pos q.1, if_neg (by rw [q.2.1]; decide)]
theorem own_ex_map_idbag {n : Int32} {bs : List Int32} (h : own_eq_map n bs = 1) : own_eq_idbag n bs = 0 := by
  have q := own_inv_map h
  rw [own_eq_idbag, if_neg (by rw [q.1]; decide)]
theorem d17_0 : decode jdk_43_method_13_code 0 = .ok (.aload_n 0, 1) := by decide +kernel
theorem d17_1 : decode jdk_43_method_13_code 1 = .ok (.arraylength, 1) := by decide +kernel
theorem d17_2 : decode jdk_43_method_13_code 2 = .ok (.aload_n 1, 1) := by decide +kernel
theorem d17_3 : decode jdk_43_method_13_code 3 = .ok (.arraylength, 1) := by decide +kernel
theorem d17_4 : decode jdk_43_method_13_code 4 = .ok (.if_icmp .ne 30, 3) := by decide +kernel
theorem d17_7 : decode jdk_43_method_13_code 7 = .ok (.iconst 0, 1) := by decide +kernel
theorem d17_8 : decode jdk_43_method_13_code 8 = .ok (.istore_n 2, 1) := by decide +kernel
theorem d17_9 : decode jdk_43_method_13_code 9 = .ok (.iload_n 2, 1) := by decide +kernel
theorem d17_10 : decode jdk_43_method_13_code 10 = .ok (.aload_n 0, 1) := by decide +kernel
theorem d17_11 : decode jdk_43_method_13_code 11 = .ok (.arraylength, 1) := by decide +kernel
theorem d17_12 : decode jdk_43_method_13_code 12 = .ok (.if_icmp .ge 20, 3) := by decide +kernel
theorem d17_15 : decode jdk_43_method_13_code 15 = .ok (.aload_n 0, 1) := by decide +kernel
theorem d17_16 : decode jdk_43_method_13_code 16 = .ok (.iload_n 2, 1) := by decide +kernel
theorem d17_17 : decode jdk_43_method_13_code 17 = .ok (.baload, 1) := by decide +kernel
theorem d17_18 : decode jdk_43_method_13_code 18 = .ok (.aload_n 1, 1) := by decide +kernel
theorem d17_19 : decode jdk_43_method_13_code 19 = .ok (.iload_n 2, 1) := by decide +kernel
theorem d17_20 : decode jdk_43_method_13_code 20 = .ok (.baload, 1) := by decide +kernel
theorem d17_21 : decode jdk_43_method_13_code 21 = .ok (.if_icmp .eq 5, 3) := by decide +kernel
theorem d17_26 : decode jdk_43_method_13_code 26 = .ok (.iinc 2 1, 3) := by decide +kernel
theorem d17_29 : decode jdk_43_method_13_code 29 = .ok (.goto (-20), 3) := by decide +kernel
theorem d17_32 : decode jdk_43_method_13_code 32 = .ok (.iconst 1, 1) := by decide +kernel
theorem d17_33 : decode jdk_43_method_13_code 33 = .ok (.ireturn, 1) := by decide +kernel
theorem d17_24 : decode jdk_43_method_13_code 24 = .ok (.iconst 0, 1) := by decide +kernel
theorem d17_25 : decode jdk_43_method_13_code 25 = .ok (.ireturn, 1) := by decide +kernel
theorem d17_34 : decode jdk_43_method_13_code 34 = .ok (.iconst 0, 1) := by decide +kernel
theorem d17_35 : decode jdk_43_method_13_code 35 = .ok (.ireturn, 1) := by decide +kernel
abbrev own_m14 : MethodName := (⟨"java/lang/StringLatin1", "equals", "([B[B)Z"⟩ : MethodName)
theorem ef_rm_l1g_set (m : MethodId) (xg : Addr) (xc : Addr) : entryFrame m #[(.ref xg), (.ref xc)] 3 = mkF m 0 #[rv xg, rv xc, .unset] [] := by first | (simp [entryFrame, mkF, argsToLocals, Value.category]; done) | rfl
theorem pn15 : plainFor (⟨"java/lang/StringLatin1", "equals", "([B[B)Z"⟩ : MethodName) = true := by first | exact plainFor_of_name (by first | (simp [plainName, overriddenIn]; done) | decide +kernel) | decide +kernel
set_option maxRecDepth 65536 in
set_option maxHeartbeats 40000000 in
theorem rm_l1g_set {l : Launch} {Z : State} {a0 : Array Value} {A : Nat → Addr} {KC : Nat → Cell} {IC : Nat → Int32} {VC : Nat → Value} (hw : ∀ d ∈ tables_1, d.before a0 Z = true) (G : own_Ctx Z A KC IC VC) (xg : Addr) (xc : Addr) (kg : ClassId) (kc : ClassId) (n : Int32) (bs : List Int32) (h0 : Heap) (O0 : Ext Z.heap h0) (prem0 : Arv Z h0 xg kg .byte n (bs.map Value.int) (.int (0 : Int32))) (prem1 : Arv Z h0 xc kc .byte (3 : Int32) [(.int (115 : Int32)), (.int (101 : Int32)), (.int (116 : Int32))] (.int (0 : Int32))) :
    Ok l Z own_m14 jdk_43_method_13_code 3 (some .boolean) ({ frames := 0, cells := 0, slots := 0, locals := 0 } : Room) #[(.ref xg), (.ref xc)] h0
      (fun v h L => v = some (.int (own_eq_set n bs)) ∧ (h = h0) ∧ (L = [])) := by
  refine Ok.mk pn15 ?_
  intro p e s m below meth c T0 hx hby hml hown hnm hret hlk hZ e0 X0
  refine Go.cast (ef_rm_l1g_set m xg xc) ?_
  have D := @hb _ _ hby
  have N0 := Fr.nil Z.heap.size
  have K0 : Keep h0 h0 [] := Keep.refl _ _
  obtain ⟨cl54, Ar54, qk54, S54, Ng54, H54, G54⟩ := id prem0
  obtain ⟨cl55, Ar55, qk55, S55, Ng55, H55, G55⟩ := id prem1
  refine Go.of (T' := T0) (f' := (mkF m 4 #[rv xg, rv xc, .unset] [(.int 3), (.int n)])) (fun _ k => XS.aloadN X0.here hx rfl (D d17_0) rfl rfl (X0.arraylength hx (by rw [e0]; exact Ar54.1) (State.isArrayOf_alike hZ.alike Ar54.2.1) (g := (mkF m 1 #[rv xg, rv xc, .unset] [(.ref xg)])) rfl rfl (D d17_1) _ (by rw [len_of S54 Ng54]; exact (XS.aloadN X0.here hx rfl (D d17_2) rfl rfl (X0.arraylength hx (by rw [e0]; exact Ar55.1) (State.isArrayOf_alike hZ.alike Ar55.2.1) (g := (mkF m 3 #[rv xg, rv xc, .unset] [(.ref xc), (.int n)])) rfl rfl (D d17_3) _ (by rw [len_of S55 Ng55]; exact k)))))) ?_
  by_cases hc56 : n = (3 : Int32)
  · skip
    refine Go.of (T' := T0) (f' := (mkF m 7 #[rv xg, rv xc, .unset] [])) (fun _ k => XS.icmpNo X0.here hx rfl (D d17_4) rfl (teq hc56).2 k) ?_
    subst hc56
    obtain ⟨cl57, Ar57, qk57, S57, Ng57, H57, G57⟩ := id prem0
    obtain ⟨cl59, Ar59, qk59, S59, Ng59, H59, G59⟩ := id prem0
    have hin59 := inb_of (j := (0 : Int32)) S59 ⟨by decide, by decide⟩
    obtain ⟨cl60, Ar60, qk60, S60, Ng60, H60, G60⟩ := id prem1
    have hin60 := inb_of (j := (0 : Int32)) S60 ⟨by decide, by decide⟩
    refine Go.of (T' := T0) (f' := (mkF m 21 #[rv xg, rv xc, iv 0] [(.int 115), (.int (bs.getD 0 0))])) (fun _ k => XS.iconst X0.here hx rfl (D d17_7) (XS.istoreN X0.here hx rfl (D d17_8) rfl (l' := #[rv xg, rv xc, iv 0]) rfl (XS.iloadN X0.here hx rfl (D d17_9) rfl (XS.aloadN X0.here hx rfl (D d17_10) rfl rfl (X0.arraylength hx (by rw [e0]; exact Ar57.1) (State.isArrayOf_alike hZ.alike Ar57.2.1) (g := (mkF m 11 #[rv xg, rv xc, iv 0] [(.ref xg), (.int 0)])) rfl rfl (D d17_11) _ (by rw [len_of S57 Ng57]; exact (XS.icmpNo X0.here hx rfl (D d17_12) rfl (tlt (by decide : (0 : Int32) < (3 : Int32))).2.1 (XS.aloadN X0.here hx rfl (D d17_15) rfl rfl (XS.iloadN X0.here hx rfl (D d17_16) rfl (X0.baloadBytes hx (j := (0 : Int32)) (v := (.int (bs.getD 0 0))) (by rw [e0]; exact Ar59.1) (State.isArrayOf_alike hZ.alike Ar59.2.1) Ar59.2.2 hin59 (H59.at hin59 (own_mg bs 0)) (g := (mkF m 17 #[rv xg, rv xc, iv 0] [(.int 0), (.ref xg)])) rfl rfl (D d17_17) _ (XS.aloadN X0.here hx rfl (D d17_18) rfl rfl (XS.iloadN X0.here hx rfl (D d17_19) rfl (X0.baloadBytes hx (j := (0 : Int32)) (v := (.int 115)) (by rw [e0]; exact Ar60.1) (State.isArrayOf_alike hZ.alike Ar60.2.1) Ar60.2.2 hin60 (H60.at hin60 rfl) (g := (mkF m 20 #[rv xg, rv xc, iv 0] [(.int 0), (.ref xc), (.int (bs.getD 0 0))])) rfl rfl (D d17_20) _ k))))))))))))) ?_
    by_cases hc61 : (bs.getD 0 0) = (115 : Int32)
    · skip
      obtain ⟨cl62, Ar62, qk62, S62, Ng62, H62, G62⟩ := id prem0
      obtain ⟨cl64, Ar64, qk64, S64, Ng64, H64, G64⟩ := id prem0
      have hin64 := inb_of (j := (1 : Int32)) S64 ⟨by decide, by decide⟩
      obtain ⟨cl65, Ar65, qk65, S65, Ng65, H65, G65⟩ := id prem1
      have hin65 := inb_of (j := (1 : Int32)) S65 ⟨by decide, by decide⟩
      refine Go.of (T' := T0) (f' := (mkF m 21 #[rv xg, rv xc, iv 1] [(.int 101), (.int (bs.getD 1 0))])) (fun _ k => XS.icmpYes X0.here hx rfl (pc0 := 21) (pc' := 26) rfl (D d17_21) rfl (teq hc61).1 (by decide) (by decide) (XS.iinc X0.here hx rfl (D d17_26) rfl (l' := #[rv xg, rv xc, iv 1]) rfl (XS.goto X0.here hx rfl (pc0 := 29) (pc' := 9) rfl (D d17_29) (by decide) (by decide) (XS.iloadN X0.here hx rfl (D d17_9) rfl (XS.aloadN X0.here hx rfl (D d17_10) rfl rfl (X0.arraylength hx (by rw [e0]; exact Ar62.1) (State.isArrayOf_alike hZ.alike Ar62.2.1) (g := (mkF m 11 #[rv xg, rv xc, iv 1] [(.ref xg), (.int 1)])) rfl rfl (D d17_11) _ (by rw [len_of S62 Ng62]; exact (XS.icmpNo X0.here hx rfl (D d17_12) rfl (tlt (by decide : (1 : Int32) < (3 : Int32))).2.1 (XS.aloadN X0.here hx rfl (D d17_15) rfl rfl (XS.iloadN X0.here hx rfl (D d17_16) rfl (X0.baloadBytes hx (j := (1 : Int32)) (v := (.int (bs.getD 1 0))) (by rw [e0]; exact Ar64.1) (State.isArrayOf_alike hZ.alike Ar64.2.1) Ar64.2.2 hin64 (H64.at hin64 (own_mg bs 1)) (g := (mkF m 17 #[rv xg, rv xc, iv 1] [(.int 1), (.ref xg)])) rfl rfl (D d17_17) _ (XS.aloadN X0.here hx rfl (D d17_18) rfl rfl (XS.iloadN X0.here hx rfl (D d17_19) rfl (X0.baloadBytes hx (j := (1 : Int32)) (v := (.int 101)) (by rw [e0]; exact Ar65.1) (State.isArrayOf_alike hZ.alike Ar65.2.1) Ar65.2.2 hin65 (H65.at hin65 rfl) (g := (mkF m 20 #[rv xg, rv xc, iv 1] [(.int 1), (.ref xc), (.int (bs.getD 1 0))])) rfl rfl (D d17_20) _ k)))))))))))))) ?_
      by_cases hc66 : (bs.getD 1 0) = (101 : Int32)
      · skip
        obtain ⟨cl67, Ar67, qk67, S67, Ng67, H67, G67⟩ := id prem0
        obtain ⟨cl69, Ar69, qk69, S69, Ng69, H69, G69⟩ := id prem0
        have hin69 := inb_of (j := (2 : Int32)) S69 ⟨by decide, by decide⟩
        obtain ⟨cl70, Ar70, qk70, S70, Ng70, H70, G70⟩ := id prem1
        have hin70 := inb_of (j := (2 : Int32)) S70 ⟨by decide, by decide⟩
        refine Go.of (T' := T0) (f' := (mkF m 21 #[rv xg, rv xc, iv 2] [(.int 116), (.int (bs.getD 2 0))])) (fun _ k => XS.icmpYes X0.here hx rfl (pc0 := 21) (pc' := 26) rfl (D d17_21) rfl (teq hc66).1 (by decide) (by decide) (XS.iinc X0.here hx rfl (D d17_26) rfl (l' := #[rv xg, rv xc, iv 2]) rfl (XS.goto X0.here hx rfl (pc0 := 29) (pc' := 9) rfl (D d17_29) (by decide) (by decide) (XS.iloadN X0.here hx rfl (D d17_9) rfl (XS.aloadN X0.here hx rfl (D d17_10) rfl rfl (X0.arraylength hx (by rw [e0]; exact Ar67.1) (State.isArrayOf_alike hZ.alike Ar67.2.1) (g := (mkF m 11 #[rv xg, rv xc, iv 2] [(.ref xg), (.int 2)])) rfl rfl (D d17_11) _ (by rw [len_of S67 Ng67]; exact (XS.icmpNo X0.here hx rfl (D d17_12) rfl (tlt (by decide : (2 : Int32) < (3 : Int32))).2.1 (XS.aloadN X0.here hx rfl (D d17_15) rfl rfl (XS.iloadN X0.here hx rfl (D d17_16) rfl (X0.baloadBytes hx (j := (2 : Int32)) (v := (.int (bs.getD 2 0))) (by rw [e0]; exact Ar69.1) (State.isArrayOf_alike hZ.alike Ar69.2.1) Ar69.2.2 hin69 (H69.at hin69 (own_mg bs 2)) (g := (mkF m 17 #[rv xg, rv xc, iv 2] [(.int 2), (.ref xg)])) rfl rfl (D d17_17) _ (XS.aloadN X0.here hx rfl (D d17_18) rfl rfl (XS.iloadN X0.here hx rfl (D d17_19) rfl (X0.baloadBytes hx (j := (2 : Int32)) (v := (.int 116)) (by rw [e0]; exact Ar70.1) (State.isArrayOf_alike hZ.alike Ar70.2.1) Ar70.2.2 hin70 (H70.at hin70 rfl) (g := (mkF m 20 #[rv xg, rv xc, iv 2] [(.int 2), (.ref xc), (.int (bs.getD 2 0))])) rfl rfl (D d17_20) _ k)))))))))))))) ?_
        by_cases hc71 : (bs.getD 2 0) = (116 : Int32)
        · skip
          obtain ⟨cl72, Ar72, qk72, S72, Ng72, H72, G72⟩ := id prem0
          refine Go.of (T' := T0) (f' := (mkF m 33 #[rv xg, rv xc, iv 3] [(.int 1)])) (fun _ k => XS.icmpYes X0.here hx rfl (pc0 := 21) (pc' := 26) rfl (D d17_21) rfl (teq hc71).1 (by decide) (by decide) (XS.iinc X0.here hx rfl (D d17_26) rfl (l' := #[rv xg, rv xc, iv 3]) rfl (XS.goto X0.here hx rfl (pc0 := 29) (pc' := 9) rfl (D d17_29) (by decide) (by decide) (XS.iloadN X0.here hx rfl (D d17_9) rfl (XS.aloadN X0.here hx rfl (D d17_10) rfl rfl (X0.arraylength hx (by rw [e0]; exact Ar72.1) (State.isArrayOf_alike hZ.alike Ar72.2.1) (g := (mkF m 11 #[rv xg, rv xc, iv 3] [(.ref xg), (.int 3)])) rfl rfl (D d17_11) _ (by rw [len_of S72 Ng72]; exact (XS.icmpYes X0.here hx rfl (pc0 := 12) (pc' := 32) rfl (D d17_12) rfl (flt (by decide : ¬ ((3 : Int32) < (3 : Int32)))).2.1 (by decide) (by decide) (XS.iconst X0.here hx rfl (D d17_32) k))))))))) ?_
          exact Go.retB X0 hx hlk hret (by simp) (D d17_33) (by decide) (by decide) (z' := (1 : Int32)) rfl (by rw [e0]; exact ⟨by rw [own_eq_set, if_pos rfl, if_pos hc61, if_pos hc66, if_pos hc71], rfl, by simp⟩)
        · skip
          refine Go.of (T' := T0) (f' := (mkF m 25 #[rv xg, rv xc, iv 2] [(.int 0)])) (fun _ k => XS.icmpNo X0.here hx rfl (D d17_21) rfl (feq hc71).1 (XS.iconst X0.here hx rfl (D d17_24) k)) ?_
          exact Go.retB X0 hx hlk hret (by simp) (D d17_25) (by decide) (by decide) (z' := (0 : Int32)) rfl (by rw [e0]; exact ⟨by rw [own_eq_set, if_pos rfl, if_pos hc61, if_pos hc66, if_neg hc71], rfl, by simp⟩)
      · skip
        refine Go.of (T' := T0) (f' := (mkF m 25 #[rv xg, rv xc, iv 1] [(.int 0)])) (fun _ k => XS.icmpNo X0.here hx rfl (D d17_21) rfl (feq hc66).1 (XS.iconst X0.here hx rfl (D d17_24) k)) ?_
        exact Go.retB X0 hx hlk hret (by simp) (D d17_25) (by decide) (by decide) (z' := (0 : Int32)) rfl (by rw [e0]; exact ⟨by rw [own_eq_set, if_pos rfl, if_pos hc61, if_neg hc66], rfl, by simp⟩)
    · skip
      refine Go.of (T' := T0) (f' := (mkF m 25 #[rv xg, rv xc, iv 0] [(.int 0)])) (fun _ k => XS.icmpNo X0.here hx rfl (D d17_21) rfl (feq hc61).1 (XS.iconst X0.here hx rfl (D d17_24) k)) ?_
      exact Go.retB X0 hx hlk hret (by simp) (D d17_25) (by decide) (by decide) (z' := (0 : Int32)) rfl (by rw [e0]; exact ⟨by rw [own_eq_set, if_pos rfl, if_neg hc61], rfl, by simp⟩)
  · skip
    refine Go.of (T' := T0) (f' := (mkF m 35 #[rv xg, rv xc, .unset] [(.int 0)])) (fun _ k => XS.icmpYes X0.here hx rfl (pc0 := 4) (pc' := 34) rfl (D d17_4) rfl (feq hc56).2 (by decide) (by decide) (XS.iconst X0.here hx rfl (D d17_34) k)) ?_
    exact Go.retB X0 hx hlk hret (by simp) (D d17_35) (by decide) (by decide) (z' := (0 : Int32)) rfl (by rw [e0]; exact ⟨by rw [own_eq_set, if_neg hc56], rfl, by simp⟩)
theorem ef_rm_l1n_set (m : MethodId) (xc : Addr) (xg : Addr) : entryFrame m #[(.ref xc), (.ref xg)] 3 = mkF m 0 #[rv xc, rv xg, .unset] [] := by first | (simp [entryFrame, mkF, argsToLocals, Value.category]; done) | rfl
set_option maxRecDepth 65536 in
set_option maxHeartbeats 40000000 in
theorem rm_l1n_set {l : Launch} {Z : State} {a0 : Array Value} {A : Nat → Addr} {KC : Nat → Cell} {IC : Nat → Int32} {VC : Nat → Value} (hw : ∀ d ∈ tables_1, d.before a0 Z = true) (G : own_Ctx Z A KC IC VC) (xc : Addr) (xg : Addr) (kg : ClassId) (kc : ClassId) (n : Int32) (bs : List Int32) (h0 : Heap) (O0 : Ext Z.heap h0) (prem0 : Arv Z h0 xg kg .byte n (bs.map Value.int) (.int (0 : Int32))) (prem1 : Arv Z h0 xc kc .byte (3 : Int32) [(.int (115 : Int32)), (.int (101 : Int32)), (.int (116 : Int32))] (.int (0 : Int32))) :
    Ok l Z own_m14 jdk_43_method_13_code 3 (some .boolean) ({ frames := 0, cells := 0, slots := 0, locals := 0 } : Room) #[(.ref xc), (.ref xg)] h0
      (fun v h L => v = some (.int (own_eq_set n bs)) ∧ (h = h0) ∧ (L = [])) := by
  refine Ok.mk pn15 ?_
  intro p e s m below meth c T0 hx hby hml hown hnm hret hlk hZ e0 X0
  refine Go.cast (ef_rm_l1n_set m xc xg) ?_
  have D := @hb _ _ hby
  have N0 := Fr.nil Z.heap.size
  have K0 : Keep h0 h0 [] := Keep.refl _ _
  obtain ⟨cl74, Ar74, qk74, S74, Ng74, H74, G74⟩ := id prem1
  obtain ⟨cl75, Ar75, qk75, S75, Ng75, H75, G75⟩ := id prem0
  refine Go.of (T' := T0) (f' := (mkF m 4 #[rv xc, rv xg, .unset] [(.int n), (.int 3)])) (fun _ k => XS.aloadN X0.here hx rfl (D d17_0) rfl rfl (X0.arraylength hx (by rw [e0]; exact Ar74.1) (State.isArrayOf_alike hZ.alike Ar74.2.1) (g := (mkF m 1 #[rv xc, rv xg, .unset] [(.ref xc)])) rfl rfl (D d17_1) _ (by rw [len_of S74 Ng74]; exact (XS.aloadN X0.here hx rfl (D d17_2) rfl rfl (X0.arraylength hx (by rw [e0]; exact Ar75.1) (State.isArrayOf_alike hZ.alike Ar75.2.1) (g := (mkF m 3 #[rv xc, rv xg, .unset] [(.ref xg), (.int 3)])) rfl rfl (D d17_3) _ (by rw [len_of S75 Ng75]; exact k)))))) ?_
  by_cases hc76 : (3 : Int32) = n
  · skip
    refine Go.of (T' := T0) (f' := (mkF m 7 #[rv xc, rv xg, .unset] [])) (fun _ k => XS.icmpNo X0.here hx rfl (D d17_4) rfl (teq hc76).2 k) ?_
    subst hc76
    obtain ⟨cl77, Ar77, qk77, S77, Ng77, H77, G77⟩ := id prem1
    obtain ⟨cl79, Ar79, qk79, S79, Ng79, H79, G79⟩ := id prem1
    have hin79 := inb_of (j := (0 : Int32)) S79 ⟨by decide, by decide⟩
    obtain ⟨cl80, Ar80, qk80, S80, Ng80, H80, G80⟩ := id prem0
    have hin80 := inb_of (j := (0 : Int32)) S80 ⟨by decide, by decide⟩
    refine Go.of (T' := T0) (f' := (mkF m 21 #[rv xc, rv xg, iv 0] [(.int (bs.getD 0 0)), (.int 115)])) (fun _ k => XS.iconst X0.here hx rfl (D d17_7) (XS.istoreN X0.here hx rfl (D d17_8) rfl (l' := #[rv xc, rv xg, iv 0]) rfl (XS.iloadN X0.here hx rfl (D d17_9) rfl (XS.aloadN X0.here hx rfl (D d17_10) rfl rfl (X0.arraylength hx (by rw [e0]; exact Ar77.1) (State.isArrayOf_alike hZ.alike Ar77.2.1) (g := (mkF m 11 #[rv xc, rv xg, iv 0] [(.ref xc), (.int 0)])) rfl rfl (D d17_11) _ (by rw [len_of S77 Ng77]; exact (XS.icmpNo X0.here hx rfl (D d17_12) rfl (tlt (by decide : (0 : Int32) < (3 : Int32))).2.1 (XS.aloadN X0.here hx rfl (D d17_15) rfl rfl (XS.iloadN X0.here hx rfl (D d17_16) rfl (X0.baloadBytes hx (j := (0 : Int32)) (v := (.int 115)) (by rw [e0]; exact Ar79.1) (State.isArrayOf_alike hZ.alike Ar79.2.1) Ar79.2.2 hin79 (H79.at hin79 rfl) (g := (mkF m 17 #[rv xc, rv xg, iv 0] [(.int 0), (.ref xc)])) rfl rfl (D d17_17) _ (XS.aloadN X0.here hx rfl (D d17_18) rfl rfl (XS.iloadN X0.here hx rfl (D d17_19) rfl (X0.baloadBytes hx (j := (0 : Int32)) (v := (.int (bs.getD 0 0))) (by rw [e0]; exact Ar80.1) (State.isArrayOf_alike hZ.alike Ar80.2.1) Ar80.2.2 hin80 (H80.at hin80 (own_mg bs 0)) (g := (mkF m 20 #[rv xc, rv xg, iv 0] [(.int 0), (.ref xg), (.int 115)])) rfl rfl (D d17_20) _ k))))))))))))) ?_
    by_cases hc81 : (115 : Int32) = (bs.getD 0 0)
    · skip
      obtain ⟨cl82, Ar82, qk82, S82, Ng82, H82, G82⟩ := id prem1
      obtain ⟨cl84, Ar84, qk84, S84, Ng84, H84, G84⟩ := id prem1
      have hin84 := inb_of (j := (1 : Int32)) S84 ⟨by decide, by decide⟩
      obtain ⟨cl85, Ar85, qk85, S85, Ng85, H85, G85⟩ := id prem0
      have hin85 := inb_of (j := (1 : Int32)) S85 ⟨by decide, by decide⟩
      refine Go.of (T' := T0) (f' := (mkF m 21 #[rv xc, rv xg, iv 1] [(.int (bs.getD 1 0)), (.int 101)])) (fun _ k => XS.icmpYes X0.here hx rfl (pc0 := 21) (pc' := 26) rfl (D d17_21) rfl (teq hc81).1 (by decide) (by decide) (XS.iinc X0.here hx rfl (D d17_26) rfl (l' := #[rv xc, rv xg, iv 1]) rfl (XS.goto X0.here hx rfl (pc0 := 29) (pc' := 9) rfl (D d17_29) (by decide) (by decide) (XS.iloadN X0.here hx rfl (D d17_9) rfl (XS.aloadN X0.here hx rfl (D d17_10) rfl rfl (X0.arraylength hx (by rw [e0]; exact Ar82.1) (State.isArrayOf_alike hZ.alike Ar82.2.1) (g := (mkF m 11 #[rv xc, rv xg, iv 1] [(.ref xc), (.int 1)])) rfl rfl (D d17_11) _ (by rw [len_of S82 Ng82]; exact (XS.icmpNo X0.here hx rfl (D d17_12) rfl (tlt (by decide : (1 : Int32) < (3 : Int32))).2.1 (XS.aloadN X0.here hx rfl (D d17_15) rfl rfl (XS.iloadN X0.here hx rfl (D d17_16) rfl (X0.baloadBytes hx (j := (1 : Int32)) (v := (.int 101)) (by rw [e0]; exact Ar84.1) (State.isArrayOf_alike hZ.alike Ar84.2.1) Ar84.2.2 hin84 (H84.at hin84 rfl) (g := (mkF m 17 #[rv xc, rv xg, iv 1] [(.int 1), (.ref xc)])) rfl rfl (D d17_17) _ (XS.aloadN X0.here hx rfl (D d17_18) rfl rfl (XS.iloadN X0.here hx rfl (D d17_19) rfl (X0.baloadBytes hx (j := (1 : Int32)) (v := (.int (bs.getD 1 0))) (by rw [e0]; exact Ar85.1) (State.isArrayOf_alike hZ.alike Ar85.2.1) Ar85.2.2 hin85 (H85.at hin85 (own_mg bs 1)) (g := (mkF m 20 #[rv xc, rv xg, iv 1] [(.int 1), (.ref xg), (.int 101)])) rfl rfl (D d17_20) _ k)))))))))))))) ?_
      by_cases hc86 : (101 : Int32) = (bs.getD 1 0)
      · skip
        obtain ⟨cl87, Ar87, qk87, S87, Ng87, H87, G87⟩ := id prem1
        obtain ⟨cl89, Ar89, qk89, S89, Ng89, H89, G89⟩ := id prem1
        have hin89 := inb_of (j := (2 : Int32)) S89 ⟨by decide, by decide⟩
        obtain ⟨cl90, Ar90, qk90, S90, Ng90, H90, G90⟩ := id prem0
        have hin90 := inb_of (j := (2 : Int32)) S90 ⟨by decide, by decide⟩
        refine Go.of (T' := T0) (f' := (mkF m 21 #[rv xc, rv xg, iv 2] [(.int (bs.getD 2 0)), (.int 116)])) (fun _ k => XS.icmpYes X0.here hx rfl (pc0 := 21) (pc' := 26) rfl (D d17_21) rfl (teq hc86).1 (by decide) (by decide) (XS.iinc X0.here hx rfl (D d17_26) rfl (l' := #[rv xc, rv xg, iv 2]) rfl (XS.goto X0.here hx rfl (pc0 := 29) (pc' := 9) rfl (D d17_29) (by decide) (by decide) (XS.iloadN X0.here hx rfl (D d17_9) rfl (XS.aloadN X0.here hx rfl (D d17_10) rfl rfl (X0.arraylength hx (by rw [e0]; exact Ar87.1) (State.isArrayOf_alike hZ.alike Ar87.2.1) (g := (mkF m 11 #[rv xc, rv xg, iv 2] [(.ref xc), (.int 2)])) rfl rfl (D d17_11) _ (by rw [len_of S87 Ng87]; exact (XS.icmpNo X0.here hx rfl (D d17_12) rfl (tlt (by decide : (2 : Int32) < (3 : Int32))).2.1 (XS.aloadN X0.here hx rfl (D d17_15) rfl rfl (XS.iloadN X0.here hx rfl (D d17_16) rfl (X0.baloadBytes hx (j := (2 : Int32)) (v := (.int 116)) (by rw [e0]; exact Ar89.1) (State.isArrayOf_alike hZ.alike Ar89.2.1) Ar89.2.2 hin89 (H89.at hin89 rfl) (g := (mkF m 17 #[rv xc, rv xg, iv 2] [(.int 2), (.ref xc)])) rfl rfl (D d17_17) _ (XS.aloadN X0.here hx rfl (D d17_18) rfl rfl (XS.iloadN X0.here hx rfl (D d17_19) rfl (X0.baloadBytes hx (j := (2 : Int32)) (v := (.int (bs.getD 2 0))) (by rw [e0]; exact Ar90.1) (State.isArrayOf_alike hZ.alike Ar90.2.1) Ar90.2.2 hin90 (H90.at hin90 (own_mg bs 2)) (g := (mkF m 20 #[rv xc, rv xg, iv 2] [(.int 2), (.ref xg), (.int 116)])) rfl rfl (D d17_20) _ k)))))))))))))) ?_
        by_cases hc91 : (116 : Int32) = (bs.getD 2 0)
        · skip
          obtain ⟨cl92, Ar92, qk92, S92, Ng92, H92, G92⟩ := id prem1
          refine Go.of (T' := T0) (f' := (mkF m 33 #[rv xc, rv xg, iv 3] [(.int 1)])) (fun _ k => XS.icmpYes X0.here hx rfl (pc0 := 21) (pc' := 26) rfl (D d17_21) rfl (teq hc91).1 (by decide) (by decide) (XS.iinc X0.here hx rfl (D d17_26) rfl (l' := #[rv xc, rv xg, iv 3]) rfl (XS.goto X0.here hx rfl (pc0 := 29) (pc' := 9) rfl (D d17_29) (by decide) (by decide) (XS.iloadN X0.here hx rfl (D d17_9) rfl (XS.aloadN X0.here hx rfl (D d17_10) rfl rfl (X0.arraylength hx (by rw [e0]; exact Ar92.1) (State.isArrayOf_alike hZ.alike Ar92.2.1) (g := (mkF m 11 #[rv xc, rv xg, iv 3] [(.ref xc), (.int 3)])) rfl rfl (D d17_11) _ (by rw [len_of S92 Ng92]; exact (XS.icmpYes X0.here hx rfl (pc0 := 12) (pc' := 32) rfl (D d17_12) rfl (flt (by decide : ¬ ((3 : Int32) < (3 : Int32)))).2.1 (by decide) (by decide) (XS.iconst X0.here hx rfl (D d17_32) k))))))))) ?_
          exact Go.retB X0 hx hlk hret (by simp) (D d17_33) (by decide) (by decide) (z' := (1 : Int32)) rfl (by rw [e0]; exact ⟨by rw [own_eq_set, if_pos rfl, if_pos hc81.symm, if_pos hc86.symm, if_pos hc91.symm], rfl, by simp⟩)
        · skip
          refine Go.of (T' := T0) (f' := (mkF m 25 #[rv xc, rv xg, iv 2] [(.int 0)])) (fun _ k => XS.icmpNo X0.here hx rfl (D d17_21) rfl (feq hc91).1 (XS.iconst X0.here hx rfl (D d17_24) k)) ?_
          exact Go.retB X0 hx hlk hret (by simp) (D d17_25) (by decide) (by decide) (z' := (0 : Int32)) rfl (by rw [e0]; exact ⟨by rw [own_eq_set, if_pos rfl, if_pos hc81.symm, if_pos hc86.symm, if_neg (fun q => hc91 q.symm)], rfl, by simp⟩)
      · skip
        refine Go.of (T' := T0) (f' := (mkF m 25 #[rv xc, rv xg, iv 1] [(.int 0)])) (fun _ k => XS.icmpNo X0.here hx rfl (D d17_21) rfl (feq hc86).1 (XS.iconst X0.here hx rfl (D d17_24) k)) ?_
        exact Go.retB X0 hx hlk hret (by simp) (D d17_25) (by decide) (by decide) (z' := (0 : Int32)) rfl (by rw [e0]; exact ⟨by rw [own_eq_set, if_pos rfl, if_pos hc81.symm, if_neg (fun q => hc86 q.symm)], rfl, by simp⟩)
    · skip
      refine Go.of (T' := T0) (f' := (mkF m 25 #[rv xc, rv xg, iv 0] [(.int 0)])) (fun _ k => XS.icmpNo X0.here hx rfl (D d17_21) rfl (feq hc81).1 (XS.iconst X0.here hx rfl (D d17_24) k)) ?_
      exact Go.retB X0 hx hlk hret (by simp) (D d17_25) (by decide) (by decide) (z' := (0 : Int32)) rfl (by rw [e0]; exact ⟨by rw [own_eq_set, if_pos rfl, if_neg (fun q => hc81 q.symm)], rfl, by simp⟩)
  · skip
    refine Go.of (T' := T0) (f' := (mkF m 35 #[rv xc, rv xg, .unset] [(.int 0)])) (fun _ k => XS.icmpYes X0.here hx rfl (pc0 := 4) (pc' := 34) rfl (D d17_4) rfl (feq hc76).2 (by decide) (by decide) (XS.iconst X0.here hx rfl (D d17_34) k)) ?_
    exact Go.retB X0 hx hlk hret (by simp) (D d17_35) (by decide) (by decide) (z' := (0 : Int32)) rfl (by rw [e0]; exact ⟨by rw [own_eq_set, if_neg (fun q => hc76 q.symm)], rfl, by simp⟩)
theorem d16_0 : decode jdk_42_method_66_code 0 = .ok (.aload_n 0, 1) := by decide +kernel
theorem d16_1 : decode jdk_42_method_66_code 1 = .ok (.aload_n 1, 1) := by decide +kernel
theorem d16_2 : decode jdk_42_method_66_code 2 = .ok (.if_acmp .ne 5, 3) := by decide +kernel
theorem d16_5 : decode jdk_42_method_66_code 5 = .ok (.iconst 1, 1) := by decide +kernel
theorem d16_6 : decode jdk_42_method_66_code 6 = .ok (.ireturn, 1) := by decide +kernel
theorem d16_7 : decode jdk_42_method_66_code 7 = .ok (.aload_n 1, 1) := by decide +kernel
theorem d16_8 : decode jdk_42_method_66_code 8 = .ok (.instanceof 10, 3) := by decide +kernel
theorem d16_11 : decode jdk_42_method_66_code 11 = .ok (.ifCond .eq 43, 3) := by decide +kernel
theorem d16_14 : decode jdk_42_method_66_code 14 = .ok (.aload_n 1, 1) := by decide +kernel
theorem d16_15 : decode jdk_42_method_66_code 15 = .ok (.checkcast 10, 3) := by decide +kernel
theorem d16_18 : decode jdk_42_method_66_code 18 = .ok (.astore_n 2, 1) := by decide +kernel
theorem d16_19 : decode jdk_42_method_66_code 19 = .ok (.getstatic 38, 3) := by decide +kernel
theorem d16_22 : decode jdk_42_method_66_code 22 = .ok (.ifCond .eq 14, 3) := by decide +kernel
theorem d16_25 : decode jdk_42_method_66_code 25 = .ok (.aload_n 0, 1) := by decide +kernel
theorem d16_26 : decode jdk_42_method_66_code 26 = .ok (.getfield 15, 3) := by decide +kernel
theorem d16_29 : decode jdk_42_method_66_code 29 = .ok (.aload_n 2, 1) := by decide +kernel
theorem d16_30 : decode jdk_42_method_66_code 30 = .ok (.getfield 15, 3) := by decide +kernel
theorem d16_33 : decode jdk_42_method_66_code 33 = .ok (.if_icmp .ne 21, 3) := by decide +kernel
theorem d16_36 : decode jdk_42_method_66_code 36 = .ok (.aload_n 0, 1) := by decide +kernel
theorem d16_37 : decode jdk_42_method_66_code 37 = .ok (.getfield 9, 3) := by decide +kernel
theorem d16_40 : decode jdk_42_method_66_code 40 = .ok (.aload_n 2, 1) := by decide +kernel
theorem d16_41 : decode jdk_42_method_66_code 41 = .ok (.getfield 9, 3) := by decide +kernel
theorem d16_44 : decode jdk_42_method_66_code 44 = .ok (.invokestatic 541, 3) := by decide +kernel
theorem pd16 : parseMethodDescriptor "([B[B)Z" = some ⟨[(.array .byte), (.array .byte)], some .boolean⟩ := by decide +kernel
theorem d16_47 : decode jdk_42_method_66_code 47 = .ok (.ifCond .eq 7, 3) := by decide +kernel
theorem d16_54 : decode jdk_42_method_66_code 54 = .ok (.iconst 0, 1) := by decide +kernel
theorem d16_55 : decode jdk_42_method_66_code 55 = .ok (.ireturn, 1) := by decide +kernel
theorem d16_50 : decode jdk_42_method_66_code 50 = .ok (.iconst 1, 1) := by decide +kernel
theorem d16_51 : decode jdk_42_method_66_code 51 = .ok (.goto 4, 3) := by decide +kernel
abbrev own_m17 : MethodName := (⟨"java/lang/String", "equals", "(Ljava/lang/Object;)Z"⟩ : MethodName)
theorem ef_rm_eqg_set (m : MethodId) (so : Addr) (cb : Addr) : entryFrame m #[(.ref so), (.ref cb)] 3 = mkF m 0 #[rv so, rv cb, .unset] [] := by first | (simp [entryFrame, mkF, argsToLocals, Value.category]; done) | rfl
theorem pn18 : plainFor (⟨"java/lang/String", "equals", "(Ljava/lang/Object;)Z"⟩ : MethodName) = true := by first | exact plainFor_of_name (by first | (simp [plainName, overriddenIn]; done) | decide +kernel) | decide +kernel
set_option maxRecDepth 65536 in
set_option maxHeartbeats 40000000 in
theorem rm_eqg_set {l : Launch} {Z : State} {a0 : Array Value} {A : Nat → Addr} {KC : Nat → Cell} {IC : Nat → Int32} {VC : Nat → Value} (hw : ∀ d ∈ tables_1, d.before a0 Z = true) (G : own_Ctx Z A KC IC VC) (so : Addr) (cb : Addr) (sv : Addr) (kg : ClassId) (n : Int32) (bs : List Int32) (vb : Addr) (kc : ClassId) (vq : Int32) (h0 : Heap) (O0 : Ext Z.heap h0) (prem0 : Exa Z h0 so "java/lang/String") (prem1 : Fld Z h0 so "java/lang/String" "value" "[B" (.ref sv)) (prem2 : Fld Z h0 so "java/lang/String" "coder" "B" (.int (0 : Int32))) (prem3 : Arv Z h0 sv kg .byte n (bs.map Value.int) (.int (0 : Int32))) (prem4 : Exa Z h0 cb "java/lang/String") (prem5 : Fld Z h0 cb "java/lang/String" "coder" "B" (.int (0 : Int32))) (prem6 : Fld Z h0 cb "java/lang/String" "value" "[B" (.ref vb)) (prem7 : Arv Z h0 vb kc .byte (3 : Int32) [(.int (115 : Int32)), (.int (101 : Int32)), (.int (116 : Int32))] (.int (0 : Int32))) (prem8 : own_eq_set n bs = vq) :
    Ok l Z own_m17 jdk_42_method_66_code 3 (some .boolean) ({ frames := 1, cells := 0, slots := 0, locals := 14 } : Room) #[(.ref so), (.ref cb)] h0
      (fun v h L => v = some (.int vq) ∧ (h = h0) ∧ (L = [])) := by
  refine Ok.mk pn18 ?_
  intro p e s m below meth c T0 hx hby hml hown hnm hret hlk hZ e0 X0
  refine Go.cast (ef_rm_eqg_set m so cb) ?_
  obtain ⟨-, -, -, -, -, -, -, -, -, -, -, -, -, -, -, -, -, -, -, -, -, -, -, -, -, -, -, -, -, -, -, -, S_COMPACT_STRINGS, hne_s_COMPACT_STRINGS_0, -⟩ := id G
  have D := @hb _ _ hby
  have N0 := Fr.nil Z.heap.size
  have K0 : Keep h0 h0 [] := Keep.refl _ _
  refine Go.of (T' := T0) (f' := (mkF m 2 #[rv so, rv cb, .unset] [(.ref cb), (.ref so)])) (fun _ k => XS.aloadN X0.here hx rfl (D d16_0) rfl rfl (XS.aloadN X0.here hx rfl (D d16_1) rfl rfl k)) ?_
  by_cases hc94 : so = cb
  · skip
    refine Go.of (T' := T0) (f' := (mkF m 6 #[rv so, rv cb, .unset] [(.int 1)])) (fun _ k => Jvm.RoadKit.acmp (g := (mkF m 2 #[rv so, rv cb, .unset] [(.ref cb), (.ref so)])) X0 hx rfl rfl rfl (pc0 := 2) (pc' := 5) (same := true) rfl (D d16_2) rfl (decide_eq_true (congrArg Value.ref hc94)) (by decide) (by decide) (XS.iconst X0.here hx rfl (D d16_5) k)) ?_
    exact Go.retB X0 hx hlk hret (by simp) (D d16_6) (by decide) (by decide) (z' := (1 : Int32)) rfl (by rw [e0]; exact ⟨congrArg (fun z => some (Value.int z)) ((own_idt_set hc94 prem1 prem6 prem3 prem7 : own_eq_set n bs = 1).symm.trans prem8), rfl, by simp⟩)
  · skip
    obtain ⟨T95, X95, e95, st95⟩ := instY X0 hx hZ hown (own_w hw (i := 100) rfl) e0 (Ins.self prem4) (g := (mkF m 8 #[rv so, rv cb, .unset] [(.ref cb)])) rfl rfl (D d16_8)
    obtain ⟨T97, X97, e97, st97⟩ := castY X95 hx hZ hown (own_w hw (i := 100) rfl) e95 (Ins.self prem4) (g := (mkF m 15 #[rv so, rv cb, .unset] [(.ref cb)])) rfl rfl (D d16_15)
    obtain ⟨T98, X98, e98, st98⟩ := getS2 X97 hx hZ hown (host := "") (Or.inl (own_w hw (i := 20) rfl)) Via.refl e97 (Sta.ext O0 S_COMPACT_STRINGS) (g := (mkF m 19 #[rv so, rv cb, rv cb] [])) rfl (D d16_19)
    have hc99 : ¬ ((IC 0) = (0 : Int32)) := hne_s_COMPACT_STRINGS_0
    obtain ⟨T100, X100, e100, st100⟩ := getF X98 hx hZ hown (host := "") (Or.inl (own_w hw (i := 21) rfl)) Via.refl e98 prem2 (g := (mkF m 26 #[rv so, rv cb, rv cb] [(.ref so)])) rfl rfl (D d16_26)
    obtain ⟨T101, X101, e101, st101⟩ := getF X100 hx hZ hown (host := "") (Or.inl (own_w hw (i := 21) rfl)) Via.refl e100 prem5 (g := (mkF m 30 #[rv so, rv cb, rv cb] [(.ref cb), (.int 0)])) rfl rfl (D d16_30)
    obtain ⟨T103, X103, e103, st103⟩ := getF X101 hx hZ hown (host := "") (Or.inl (own_w hw (i := 14) rfl)) Via.refl e101 prem1 (g := (mkF m 37 #[rv so, rv cb, rv cb] [(.ref so)])) rfl rfl (D d16_37)
    obtain ⟨T104, X104, e104, st104⟩ := getF X103 hx hZ hown (host := "") (Or.inl (own_w hw (i := 14) rfl)) Via.refl e103 prem6 (g := (mkF m 41 #[rv so, rv cb, rv cb] [(.ref cb), (.ref sv)])) rfl rfl (D d16_41)
    obtain ⟨T105, v105, L105, X105, q105, st105⟩ := callSt X104 hx hZ (y := own_m14) hown (own_w hw (i := 101) rfl) (own_w hw (i := 102) rfl) (own_w hw (i := 34) rfl) (own_w hw (i := 103) rfl) (by decide) (rm_l1g_set hw G sv vb kg kc n bs h0 O0 prem3 prem7) e104 (W := 0) (by decide) (by decide) (by decide) (by decide) (g := (mkF m 44 #[rv so, rv cb, rv cb] [(.ref vb), (.ref sv)])) rfl (by rw [hml]; rfl) (argsL := [(.ref sv), (.ref vb)]) (rest := []) (lenOf pd16 rfl) rfl rfl (Nat.le_of_eq rfl) (D d16_44)
    obtain ⟨rfl, e105, rfl⟩ := q105
    have N105 := Fr.app N0 (Fr.nil _)
    refine Go.of (T' := T105) (f' := (mkF m 47 #[rv so, rv cb, rv cb] [(.int (own_eq_set n bs))])) (fun _ k => Jvm.RoadKit.acmp (g := (mkF m 2 #[rv so, rv cb, .unset] [(.ref cb), (.ref so)])) X0 hx rfl rfl rfl (pc0 := 2) (pc' := 7) (same := false) rfl (D d16_2) rfl (decide_eq_false fun q => hc94 (Value.ref.inj q)) (by decide) (by decide) (XS.aloadN X0.here hx rfl (D d16_7) rfl rfl (st95 _ (XS.ifNo X95.here hx rfl (D d16_11) rfl ((if0 _ _).trans (feq (by decide : ¬ ((1 : Int32) = (0 : Int32)))).1) (XS.aloadN X95.here hx rfl (D d16_14) rfl rfl (st97 _ (XS.astoreN X97.here hx rfl (D d16_18) rfl rfl (l' := #[rv so, rv cb, rv cb]) rfl (st98 _ (XS.ifNo X98.here hx rfl (D d16_22) rfl ((if0 _ _).trans (feq hc99).1) (XS.aloadN X98.here hx rfl (D d16_25) rfl rfl (st100 _ (XS.aloadN X100.here hx rfl (D d16_29) rfl rfl (st101 _ (XS.icmpNo X101.here hx rfl (D d16_33) rfl (teq (by decide : (0 : Int32) = (0 : Int32))).2 (XS.aloadN X101.here hx rfl (D d16_36) rfl rfl (st103 _ (XS.aloadN X103.here hx rfl (D d16_40) rfl rfl (st104 _ (st105 _ k))))))))))))))))))) ?_
    by_cases hc106 : (own_eq_set n bs) = (0 : Int32)
    · skip
      refine Go.of (T' := T105) (f' := (mkF m 55 #[rv so, rv cb, rv cb] [(.int 0)])) (fun _ k => XS.ifYes X105.here hx rfl (pc0 := 47) (pc' := 54) rfl (D d16_47) rfl ((if0 _ _).trans (teq hc106).1) (by decide) (by decide) (XS.iconst X105.here hx rfl (D d16_54) k)) ?_
      exact Go.retB X105 hx hlk hret (by simp) (D d16_55) (by decide) (by decide) (z' := (0 : Int32)) rfl (by rw [e105]; exact ⟨congrArg (fun z => some (Value.int z)) ((hc106 : own_eq_set n bs = 0).symm.trans prem8), rfl, by simp⟩)
    · skip
      refine Go.of (T' := T105) (f' := (mkF m 55 #[rv so, rv cb, rv cb] [(.int 1)])) (fun _ k => XS.ifNo X105.here hx rfl (D d16_47) rfl ((if0 _ _).trans (feq hc106).1) (XS.iconst X105.here hx rfl (D d16_50) (XS.goto X105.here hx rfl (pc0 := 51) (pc' := 55) rfl (D d16_51) (by decide) (by decide) k))) ?_
      exact Go.retB X105 hx hlk hret (by simp) (D d16_55) (by decide) (by decide) (z' := (1 : Int32)) rfl (by rw [e105]; exact ⟨congrArg (fun z => some (Value.int z)) (((Classical.byContradiction fun q => hc106 (own_01_set q)) : own_eq_set n bs = 1).symm.trans prem8), rfl, by simp⟩)
theorem ef_rm_eqn_set (m : MethodId) {A : Nat → Addr} (so : Addr) : entryFrame m #[(.ref (A 6)), (.ref so)] 3 = mkF m 0 #[rv (A 6), rv so, .unset] [] := by first | (simp [entryFrame, mkF, argsToLocals, Value.category]; done) | rfl
set_option maxRecDepth 65536 in
set_option maxHeartbeats 40000000 in
theorem rm_eqn_set {l : Launch} {Z : State} {a0 : Array Value} {A : Nat → Addr} {KC : Nat → Cell} {IC : Nat → Int32} {VC : Nat → Value} (hw : ∀ d ∈ tables_1, d.before a0 Z = true) (G : own_Ctx Z A KC IC VC) (so : Addr) (sv : Addr) (kg : ClassId) (n : Int32) (bs : List Int32) (vq : Int32) (h0 : Heap) (O0 : Ext Z.heap h0) (prem0 : Exa Z h0 so "java/lang/String") (prem1 : Fld Z h0 so "java/lang/String" "value" "[B" (.ref sv)) (prem2 : Fld Z h0 so "java/lang/String" "coder" "B" (.int (0 : Int32))) (prem3 : Arv Z h0 sv kg .byte n (bs.map Value.int) (.int (0 : Int32))) (prem4 : own_eq_set n bs = vq) :
    Ok l Z own_m17 jdk_42_method_66_code 3 (some .boolean) ({ frames := 1, cells := 0, slots := 0, locals := 14 } : Room) #[(.ref (A 6)), (.ref so)] h0
      (fun v h L => v = some (.int vq) ∧ (h = h0) ∧ (L = [])) := by
  refine Ok.mk pn18 ?_
  intro p e s m below meth c T0 hx hby hml hown hnm hret hlk hZ e0 X0
  refine Go.cast (ef_rm_eqn_set m so) ?_
  obtain ⟨-, -, -, -, -, -, -, -, -, -, -, -, -, -, F_s_SET_elementName_coder, F_s_SET_elementName_value, -, -, -, -, -, -, -, -, -, -, -, -, -, -, -, -, S_COMPACT_STRINGS, hne_s_COMPACT_STRINGS_0, -, V_s_SET_elementName_value, -⟩ := id G
  have D := @hb _ _ hby
  have N0 := Fr.nil Z.heap.size
  have K0 : Keep h0 h0 [] := Keep.refl _ _
  refine Go.of (T' := T0) (f' := (mkF m 2 #[rv (A 6), rv so, .unset] [(.ref so), (.ref (A 6))])) (fun _ k => XS.aloadN X0.here hx rfl (D d16_0) rfl rfl (XS.aloadN X0.here hx rfl (D d16_1) rfl rfl k)) ?_
  by_cases hc107 : (A 6) = so
  · skip
    refine Go.of (T' := T0) (f' := (mkF m 6 #[rv (A 6), rv so, .unset] [(.int 1)])) (fun _ k => Jvm.RoadKit.acmp (g := (mkF m 2 #[rv (A 6), rv so, .unset] [(.ref so), (.ref (A 6))])) X0 hx rfl rfl rfl (pc0 := 2) (pc' := 5) (same := true) rfl (D d16_2) rfl (decide_eq_true (congrArg Value.ref hc107)) (by decide) (by decide) (XS.iconst X0.here hx rfl (D d16_5) k)) ?_
    exact Go.retB X0 hx hlk hret (by simp) (D d16_6) (by decide) (by decide) (z' := (1 : Int32)) rfl (by rw [e0]; exact ⟨congrArg (fun z => some (Value.int z)) ((own_idt_set (Eq.symm hc107) prem1 (Fld.ext O0 F_s_SET_elementName_value) prem3 (Arv.ext V_s_SET_elementName_value O0) : own_eq_set n bs = 1).symm.trans prem4), rfl, by simp⟩)
  · skip
    obtain ⟨T108, X108, e108, st108⟩ := instY X0 hx hZ hown (own_w hw (i := 100) rfl) e0 (Ins.self prem0) (g := (mkF m 8 #[rv (A 6), rv so, .unset] [(.ref so)])) rfl rfl (D d16_8)
    obtain ⟨T110, X110, e110, st110⟩ := castY X108 hx hZ hown (own_w hw (i := 100) rfl) e108 (Ins.self prem0) (g := (mkF m 15 #[rv (A 6), rv so, .unset] [(.ref so)])) rfl rfl (D d16_15)
    obtain ⟨T111, X111, e111, st111⟩ := getS2 X110 hx hZ hown (host := "") (Or.inl (own_w hw (i := 20) rfl)) Via.refl e110 (Sta.ext O0 S_COMPACT_STRINGS) (g := (mkF m 19 #[rv (A 6), rv so, rv so] [])) rfl (D d16_19)
    have hc112 : ¬ ((IC 0) = (0 : Int32)) := hne_s_COMPACT_STRINGS_0
    obtain ⟨T113, X113, e113, st113⟩ := getF X111 hx hZ hown (host := "") (Or.inl (own_w hw (i := 21) rfl)) Via.refl e111 (Fld.ext O0 F_s_SET_elementName_coder) (g := (mkF m 26 #[rv (A 6), rv so, rv so] [(.ref (A 6))])) rfl rfl (D d16_26)
    obtain ⟨T114, X114, e114, st114⟩ := getF X113 hx hZ hown (host := "") (Or.inl (own_w hw (i := 21) rfl)) Via.refl e113 prem2 (g := (mkF m 30 #[rv (A 6), rv so, rv so] [(.ref so), (.int 0)])) rfl rfl (D d16_30)
    obtain ⟨T116, X116, e116, st116⟩ := getF X114 hx hZ hown (host := "") (Or.inl (own_w hw (i := 14) rfl)) Via.refl e114 (Fld.ext O0 F_s_SET_elementName_value) (g := (mkF m 37 #[rv (A 6), rv so, rv so] [(.ref (A 6))])) rfl rfl (D d16_37)
    obtain ⟨T117, X117, e117, st117⟩ := getF X116 hx hZ hown (host := "") (Or.inl (own_w hw (i := 14) rfl)) Via.refl e116 prem1 (g := (mkF m 41 #[rv (A 6), rv so, rv so] [(.ref so), (.ref (A 7))])) rfl rfl (D d16_41)
    obtain ⟨T118, v118, L118, X118, q118, st118⟩ := callSt X117 hx hZ (y := own_m14) hown (own_w hw (i := 101) rfl) (own_w hw (i := 102) rfl) (own_w hw (i := 34) rfl) (own_w hw (i := 103) rfl) (by decide) (rm_l1n_set hw G ((A 7)) sv kg ((KC 1).cls) n bs h0 O0 prem3 (Arv.ext V_s_SET_elementName_value O0)) e117 (W := 0) (by decide) (by decide) (by decide) (by decide) (g := (mkF m 44 #[rv (A 6), rv so, rv so] [(.ref sv), (.ref (A 7))])) rfl (by rw [hml]; rfl) (argsL := [(.ref (A 7)), (.ref sv)]) (rest := []) (lenOf pd16 rfl) rfl rfl (Nat.le_of_eq rfl) (D d16_44)
    obtain ⟨rfl, e118, rfl⟩ := q118
    have N118 := Fr.app N0 (Fr.nil _)
    refine Go.of (T' := T118) (f' := (mkF m 47 #[rv (A 6), rv so, rv so] [(.int (own_eq_set n bs))])) (fun _ k => Jvm.RoadKit.acmp (g := (mkF m 2 #[rv (A 6), rv so, .unset] [(.ref so), (.ref (A 6))])) X0 hx rfl rfl rfl (pc0 := 2) (pc' := 7) (same := false) rfl (D d16_2) rfl (decide_eq_false fun q => hc107 (Value.ref.inj q)) (by decide) (by decide) (XS.aloadN X0.here hx rfl (D d16_7) rfl rfl (st108 _ (XS.ifNo X108.here hx rfl (D d16_11) rfl ((if0 _ _).trans (feq (by decide : ¬ ((1 : Int32) = (0 : Int32)))).1) (XS.aloadN X108.here hx rfl (D d16_14) rfl rfl (st110 _ (XS.astoreN X110.here hx rfl (D d16_18) rfl rfl (l' := #[rv (A 6), rv so, rv so]) rfl (st111 _ (XS.ifNo X111.here hx rfl (D d16_22) rfl ((if0 _ _).trans (feq hc112).1) (XS.aloadN X111.here hx rfl (D d16_25) rfl rfl (st113 _ (XS.aloadN X113.here hx rfl (D d16_29) rfl rfl (st114 _ (XS.icmpNo X114.here hx rfl (D d16_33) rfl (teq (by decide : (0 : Int32) = (0 : Int32))).2 (XS.aloadN X114.here hx rfl (D d16_36) rfl rfl (st116 _ (XS.aloadN X116.here hx rfl (D d16_40) rfl rfl (st117 _ (st118 _ k))))))))))))))))))) ?_
    by_cases hc119 : (own_eq_set n bs) = (0 : Int32)
    · skip
      refine Go.of (T' := T118) (f' := (mkF m 55 #[rv (A 6), rv so, rv so] [(.int 0)])) (fun _ k => XS.ifYes X118.here hx rfl (pc0 := 47) (pc' := 54) rfl (D d16_47) rfl ((if0 _ _).trans (teq hc119).1) (by decide) (by decide) (XS.iconst X118.here hx rfl (D d16_54) k)) ?_
      exact Go.retB X118 hx hlk hret (by simp) (D d16_55) (by decide) (by decide) (z' := (0 : Int32)) rfl (by rw [e118]; exact ⟨congrArg (fun z => some (Value.int z)) ((hc119 : own_eq_set n bs = 0).symm.trans prem4), rfl, by simp⟩)
    · skip
      refine Go.of (T' := T118) (f' := (mkF m 55 #[rv (A 6), rv so, rv so] [(.int 1)])) (fun _ k => XS.ifNo X118.here hx rfl (D d16_47) rfl ((if0 _ _).trans (feq hc119).1) (XS.iconst X118.here hx rfl (D d16_50) (XS.goto X118.here hx rfl (pc0 := 51) (pc' := 55) rfl (D d16_51) (by decide) (by decide) k))) ?_
      exact Go.retB X118 hx hlk hret (by simp) (D d16_55) (by decide) (by decide) (z' := (1 : Int32)) rfl (by rw [e118]; exact ⟨congrArg (fun z => some (Value.int z)) (((Classical.byContradiction fun q => hc119 (own_01_set q)) : own_eq_set n bs = 1).symm.trans prem4), rfl, by simp⟩)
theorem ef_rm_l1g_list (m : MethodId) (xg : Addr) (xc : Addr) : entryFrame m #[(.ref xg), (.ref xc)] 3 = mkF m 0 #[rv xg, rv xc, .unset] [] := by first | (simp [entryFrame, mkF, argsToLocals, Value.category]; done) | rfl
set_option maxRecDepth 65536 in
set_option maxHeartbeats 40000000 in
theorem rm_l1g_list {l : Launch} {Z : State} {a0 : Array Value} {A : Nat → Addr} {KC : Nat → Cell} {IC : Nat → Int32} {VC : Nat → Value} (hw : ∀ d ∈ tables_1, d.before a0 Z = true) (G : own_Ctx Z A KC IC VC) (xg : Addr) (xc : Addr) (kg : ClassId) (kc : ClassId) (n : Int32) (bs : List Int32) (h0 : Heap) (O0 : Ext Z.heap h0) (prem0 : Arv Z h0 xg kg .byte n (bs.map Value.int) (.int (0 : Int32))) (prem1 : Arv Z h0 xc kc .byte (4 : Int32) [(.int (108 : Int32)), (.int (105 : Int32)), (.int (115 : Int32)), (.int (116 : Int32))] (.int (0 : Int32))) :
    Ok l Z own_m14 jdk_43_method_13_code 3 (some .boolean) ({ frames := 0, cells := 0, slots := 0, locals := 0 } : Room) #[(.ref xg), (.ref xc)] h0
      (fun v h L => v = some (.int (own_eq_list n bs)) ∧ (h = h0) ∧ (L = [])) := by
  refine Ok.mk pn15 ?_
  intro p e s m below meth c T0 hx hby hml hown hnm hret hlk hZ e0 X0
  refine Go.cast (ef_rm_l1g_list m xg xc) ?_
  have D := @hb _ _ hby
  have N0 := Fr.nil Z.heap.size
  have K0 : Keep h0 h0 [] := Keep.refl _ _
  obtain ⟨cl120, Ar120, qk120, S120, Ng120, H120, G120⟩ := id prem0
  obtain ⟨cl121, Ar121, qk121, S121, Ng121, H121, G121⟩ := id prem1
  refine Go.of (T' := T0) (f' := (mkF m 4 #[rv xg, rv xc, .unset] [(.int 4), (.int n)])) (fun _ k => XS.aloadN X0.here hx rfl (D d17_0) rfl rfl (X0.arraylength hx (by rw [e0]; exact Ar120.1) (State.isArrayOf_alike hZ.alike Ar120.2.1) (g := (mkF m 1 #[rv xg, rv xc, .unset] [(.ref xg)])) rfl rfl (D d17_1) _ (by rw [len_of S120 Ng120]; exact (XS.aloadN X0.here hx rfl (D d17_2) rfl rfl (X0.arraylength hx (by rw [e0]; exact Ar121.1) (State.isArrayOf_alike hZ.alike Ar121.2.1) (g := (mkF m 3 #[rv xg, rv xc, .unset] [(.ref xc), (.int n)])) rfl rfl (D d17_3) _ (by rw [len_of S121 Ng121]; exact k)))))) ?_
  by_cases hc122 : n = (4 : Int32)
  · skip
    refine Go.of (T' := T0) (f' := (mkF m 7 #[rv xg, rv xc, .unset] [])) (fun _ k => XS.icmpNo X0.here hx rfl (D d17_4) rfl (teq hc122).2 k) ?_
    subst hc122
    obtain ⟨cl123, Ar123, qk123, S123, Ng123, H123, G123⟩ := id prem0
    obtain ⟨cl125, Ar125, qk125, S125, Ng125, H125, G125⟩ := id prem0
    have hin125 := inb_of (j := (0 : Int32)) S125 ⟨by decide, by decide⟩
    obtain ⟨cl126, Ar126, qk126, S126, Ng126, H126, G126⟩ := id prem1
    have hin126 := inb_of (j := (0 : Int32)) S126 ⟨by decide, by decide⟩
    refine Go.of (T' := T0) (f' := (mkF m 21 #[rv xg, rv xc, iv 0] [(.int 108), (.int (bs.getD 0 0))])) (fun _ k => XS.iconst X0.here hx rfl (D d17_7) (XS.istoreN X0.here hx rfl (D d17_8) rfl (l' := #[rv xg, rv xc, iv 0]) rfl (XS.iloadN X0.here hx rfl (D d17_9) rfl (XS.aloadN X0.here hx rfl (D d17_10) rfl rfl (X0.arraylength hx (by rw [e0]; exact Ar123.1) (State.isArrayOf_alike hZ.alike Ar123.2.1) (g := (mkF m 11 #[rv xg, rv xc, iv 0] [(.ref xg), (.int 0)])) rfl rfl (D d17_11) _ (by rw [len_of S123 Ng123]; exact (XS.icmpNo X0.here hx rfl (D d17_12) rfl (tlt (by decide : (0 : Int32) < (4 : Int32))).2.1 (XS.aloadN X0.here hx rfl (D d17_15) rfl rfl (XS.iloadN X0.here hx rfl (D d17_16) rfl (X0.baloadBytes hx (j := (0 : Int32)) (v := (.int (bs.getD 0 0))) (by rw [e0]; exact Ar125.1) (State.isArrayOf_alike hZ.alike Ar125.2.1) Ar125.2.2 hin125 (H125.at hin125 (own_mg bs 0)) (g := (mkF m 17 #[rv xg, rv xc, iv 0] [(.int 0), (.ref xg)])) rfl rfl (D d17_17) _ (XS.aloadN X0.here hx rfl (D d17_18) rfl rfl (XS.iloadN X0.here hx rfl (D d17_19) rfl (X0.baloadBytes hx (j := (0 : Int32)) (v := (.int 108)) (by rw [e0]; exact Ar126.1) (State.isArrayOf_alike hZ.alike Ar126.2.1) Ar126.2.2 hin126 (H126.at hin126 rfl) (g := (mkF m 20 #[rv xg, rv xc, iv 0] [(.int 0), (.ref xc), (.int (bs.getD 0 0))])) rfl rfl (D d17_20) _ k))))))))))))) ?_
    by_cases hc127 : (bs.getD 0 0) = (108 : Int32)
    · skip
      obtain ⟨cl128, Ar128, qk128, S128, Ng128, H128, G128⟩ := id prem0
      obtain ⟨cl130, Ar130, qk130, S130, Ng130, H130, G130⟩ := id prem0
      have hin130 := inb_of (j := (1 : Int32)) S130 ⟨by decide, by decide⟩
      obtain ⟨cl131, Ar131, qk131, S131, Ng131, H131, G131⟩ := id prem1
      have hin131 := inb_of (j := (1 : Int32)) S131 ⟨by decide, by decide⟩
      refine Go.of (T' := T0) (f' := (mkF m 21 #[rv xg, rv xc, iv 1] [(.int 105), (.int (bs.getD 1 0))])) (fun _ k => XS.icmpYes X0.here hx rfl (pc0 := 21) (pc' := 26) rfl (D d17_21) rfl (teq hc127).1 (by decide) (by decide) (XS.iinc X0.here hx rfl (D d17_26) rfl (l' := #[rv xg, rv xc, iv 1]) rfl (XS.goto X0.here hx rfl (pc0 := 29) (pc' := 9) rfl (D d17_29) (by decide) (by decide) (XS.iloadN X0.here hx rfl (D d17_9) rfl (XS.aloadN X0.here hx rfl (D d17_10) rfl rfl (X0.arraylength hx (by rw [e0]; exact Ar128.1) (State.isArrayOf_alike hZ.alike Ar128.2.1) (g := (mkF m 11 #[rv xg, rv xc, iv 1] [(.ref xg), (.int 1)])) rfl rfl (D d17_11) _ (by rw [len_of S128 Ng128]; exact (XS.icmpNo X0.here hx rfl (D d17_12) rfl (tlt (by decide : (1 : Int32) < (4 : Int32))).2.1 (XS.aloadN X0.here hx rfl (D d17_15) rfl rfl (XS.iloadN X0.here hx rfl (D d17_16) rfl (X0.baloadBytes hx (j := (1 : Int32)) (v := (.int (bs.getD 1 0))) (by rw [e0]; exact Ar130.1) (State.isArrayOf_alike hZ.alike Ar130.2.1) Ar130.2.2 hin130 (H130.at hin130 (own_mg bs 1)) (g := (mkF m 17 #[rv xg, rv xc, iv 1] [(.int 1), (.ref xg)])) rfl rfl (D d17_17) _ (XS.aloadN X0.here hx rfl (D d17_18) rfl rfl (XS.iloadN X0.here hx rfl (D d17_19) rfl (X0.baloadBytes hx (j := (1 : Int32)) (v := (.int 105)) (by rw [e0]; exact Ar131.1) (State.isArrayOf_alike hZ.alike Ar131.2.1) Ar131.2.2 hin131 (H131.at hin131 rfl) (g := (mkF m 20 #[rv xg, rv xc, iv 1] [(.int 1), (.ref xc), (.int (bs.getD 1 0))])) rfl rfl (D d17_20) _ k)))))))))))))) ?_
      by_cases hc132 : (bs.getD 1 0) = (105 : Int32)
      · skip
        obtain ⟨cl133, Ar133, qk133, S133, Ng133, H133, G133⟩ := id prem0
        obtain ⟨cl135, Ar135, qk135, S135, Ng135, H135, G135⟩ := id prem0
        have hin135 := inb_of (j := (2 : Int32)) S135 ⟨by decide, by decide⟩
        obtain ⟨cl136, Ar136, qk136, S136, Ng136, H136, G136⟩ := id prem1
        have hin136 := inb_of (j := (2 : Int32)) S136 ⟨by decide, by decide⟩
        refine Go.of (T' := T0) (f' := (mkF m 21 #[rv xg, rv xc, iv 2] [(.int 115), (.int (bs.getD 2 0))])) (fun _ k => XS.icmpYes X0.here hx rfl (pc0 := 21) (pc' := 26) rfl (D d17_21) rfl (teq hc132).1 (by decide) (by decide) (XS.iinc X0.here hx rfl (D d17_26) rfl (l' := #[rv xg, rv xc, iv 2]) rfl (XS.goto X0.here hx rfl (pc0 := 29) (pc' := 9) rfl (D d17_29) (by decide) (by decide) (XS.iloadN X0.here hx rfl (D d17_9) rfl (XS.aloadN X0.here hx rfl (D d17_10) rfl rfl (X0.arraylength hx (by rw [e0]; exact Ar133.1) (State.isArrayOf_alike hZ.alike Ar133.2.1) (g := (mkF m 11 #[rv xg, rv xc, iv 2] [(.ref xg), (.int 2)])) rfl rfl (D d17_11) _ (by rw [len_of S133 Ng133]; exact (XS.icmpNo X0.here hx rfl (D d17_12) rfl (tlt (by decide : (2 : Int32) < (4 : Int32))).2.1 (XS.aloadN X0.here hx rfl (D d17_15) rfl rfl (XS.iloadN X0.here hx rfl (D d17_16) rfl (X0.baloadBytes hx (j := (2 : Int32)) (v := (.int (bs.getD 2 0))) (by rw [e0]; exact Ar135.1) (State.isArrayOf_alike hZ.alike Ar135.2.1) Ar135.2.2 hin135 (H135.at hin135 (own_mg bs 2)) (g := (mkF m 17 #[rv xg, rv xc, iv 2] [(.int 2), (.ref xg)])) rfl rfl (D d17_17) _ (XS.aloadN X0.here hx rfl (D d17_18) rfl rfl (XS.iloadN X0.here hx rfl (D d17_19) rfl (X0.baloadBytes hx (j := (2 : Int32)) (v := (.int 115)) (by rw [e0]; exact Ar136.1) (State.isArrayOf_alike hZ.alike Ar136.2.1) Ar136.2.2 hin136 (H136.at hin136 rfl) (g := (mkF m 20 #[rv xg, rv xc, iv 2] [(.int 2), (.ref xc), (.int (bs.getD 2 0))])) rfl rfl (D d17_20) _ k)))))))))))))) ?_
        by_cases hc137 : (bs.getD 2 0) = (115 : Int32)
        · skip
          obtain ⟨cl138, Ar138, qk138, S138, Ng138, H138, G138⟩ := id prem0
          obtain ⟨cl140, Ar140, qk140, S140, Ng140, H140, G140⟩ := id prem0
          have hin140 := inb_of (j := (3 : Int32)) S140 ⟨by decide, by decide⟩
          obtain ⟨cl141, Ar141, qk141, S141, Ng141, H141, G141⟩ := id prem1
          have hin141 := inb_of (j := (3 : Int32)) S141 ⟨by decide, by decide⟩
          refine Go.of (T' := T0) (f' := (mkF m 21 #[rv xg, rv xc, iv 3] [(.int 116), (.int (bs.getD 3 0))])) (fun _ k => XS.icmpYes X0.here hx rfl (pc0 := 21) (pc' := 26) rfl (D d17_21) rfl (teq hc137).1 (by decide) (by decide) (XS.iinc X0.here hx rfl (D d17_26) rfl (l' := #[rv xg, rv xc, iv 3]) rfl (XS.goto X0.here hx rfl (pc0 := 29) (pc' := 9) rfl (D d17_29) (by decide) (by decide) (XS.iloadN X0.here hx rfl (D d17_9) rfl (XS.aloadN X0.here hx rfl (D d17_10) rfl rfl (X0.arraylength hx (by rw [e0]; exact Ar138.1) (State.isArrayOf_alike hZ.alike Ar138.2.1) (g := (mkF m 11 #[rv xg, rv xc, iv 3] [(.ref xg), (.int 3)])) rfl rfl (D d17_11) _ (by rw [len_of S138 Ng138]; exact (XS.icmpNo X0.here hx rfl (D d17_12) rfl (tlt (by decide : (3 : Int32) < (4 : Int32))).2.1 (XS.aloadN X0.here hx rfl (D d17_15) rfl rfl (XS.iloadN X0.here hx rfl (D d17_16) rfl (X0.baloadBytes hx (j := (3 : Int32)) (v := (.int (bs.getD 3 0))) (by rw [e0]; exact Ar140.1) (State.isArrayOf_alike hZ.alike Ar140.2.1) Ar140.2.2 hin140 (H140.at hin140 (own_mg bs 3)) (g := (mkF m 17 #[rv xg, rv xc, iv 3] [(.int 3), (.ref xg)])) rfl rfl (D d17_17) _ (XS.aloadN X0.here hx rfl (D d17_18) rfl rfl (XS.iloadN X0.here hx rfl (D d17_19) rfl (X0.baloadBytes hx (j := (3 : Int32)) (v := (.int 116)) (by rw [e0]; exact Ar141.1) (State.isArrayOf_alike hZ.alike Ar141.2.1) Ar141.2.2 hin141 (H141.at hin141 rfl) (g := (mkF m 20 #[rv xg, rv xc, iv 3] [(.int 3), (.ref xc), (.int (bs.getD 3 0))])) rfl rfl (D d17_20) _ k)))))))))))))) ?_
          by_cases hc142 : (bs.getD 3 0) = (116 : Int32)
          · skip
            obtain ⟨cl143, Ar143, qk143, S143, Ng143, H143, G143⟩ := id prem0
            refine Go.of (T' := T0) (f' := (mkF m 33 #[rv xg, rv xc, iv 4] [(.int 1)])) (fun _ k => XS.icmpYes X0.here hx rfl (pc0 := 21) (pc' := 26) rfl (D d17_21) rfl (teq hc142).1 (by decide) (by decide) (XS.iinc X0.here hx rfl (D d17_26) rfl (l' := #[rv xg, rv xc, iv 4]) rfl (XS.goto X0.here hx rfl (pc0 := 29) (pc' := 9) rfl (D d17_29) (by decide) (by decide) (XS.iloadN X0.here hx rfl (D d17_9) rfl (XS.aloadN X0.here hx rfl (D d17_10) rfl rfl (X0.arraylength hx (by rw [e0]; exact Ar143.1) (State.isArrayOf_alike hZ.alike Ar143.2.1) (g := (mkF m 11 #[rv xg, rv xc, iv 4] [(.ref xg), (.int 4)])) rfl rfl (D d17_11) _ (by rw [len_of S143 Ng143]; exact (XS.icmpYes X0.here hx rfl (pc0 := 12) (pc' := 32) rfl (D d17_12) rfl (flt (by decide : ¬ ((4 : Int32) < (4 : Int32)))).2.1 (by decide) (by decide) (XS.iconst X0.here hx rfl (D d17_32) k))))))))) ?_
            exact Go.retB X0 hx hlk hret (by simp) (D d17_33) (by decide) (by decide) (z' := (1 : Int32)) rfl (by rw [e0]; exact ⟨by rw [own_eq_list, if_pos rfl, if_pos hc127, if_pos hc132, if_pos hc137, if_pos hc142], rfl, by simp⟩)
          · skip
            refine Go.of (T' := T0) (f' := (mkF m 25 #[rv xg, rv xc, iv 3] [(.int 0)])) (fun _ k => XS.icmpNo X0.here hx rfl (D d17_21) rfl (feq hc142).1 (XS.iconst X0.here hx rfl (D d17_24) k)) ?_
            exact Go.retB X0 hx hlk hret (by simp) (D d17_25) (by decide) (by decide) (z' := (0 : Int32)) rfl (by rw [e0]; exact ⟨by rw [own_eq_list, if_pos rfl, if_pos hc127, if_pos hc132, if_pos hc137, if_neg hc142], rfl, by simp⟩)
        · skip
          refine Go.of (T' := T0) (f' := (mkF m 25 #[rv xg, rv xc, iv 2] [(.int 0)])) (fun _ k => XS.icmpNo X0.here hx rfl (D d17_21) rfl (feq hc137).1 (XS.iconst X0.here hx rfl (D d17_24) k)) ?_
          exact Go.retB X0 hx hlk hret (by simp) (D d17_25) (by decide) (by decide) (z' := (0 : Int32)) rfl (by rw [e0]; exact ⟨by rw [own_eq_list, if_pos rfl, if_pos hc127, if_pos hc132, if_neg hc137], rfl, by simp⟩)
      · skip
        refine Go.of (T' := T0) (f' := (mkF m 25 #[rv xg, rv xc, iv 1] [(.int 0)])) (fun _ k => XS.icmpNo X0.here hx rfl (D d17_21) rfl (feq hc132).1 (XS.iconst X0.here hx rfl (D d17_24) k)) ?_
        exact Go.retB X0 hx hlk hret (by simp) (D d17_25) (by decide) (by decide) (z' := (0 : Int32)) rfl (by rw [e0]; exact ⟨by rw [own_eq_list, if_pos rfl, if_pos hc127, if_neg hc132], rfl, by simp⟩)
    · skip
      refine Go.of (T' := T0) (f' := (mkF m 25 #[rv xg, rv xc, iv 0] [(.int 0)])) (fun _ k => XS.icmpNo X0.here hx rfl (D d17_21) rfl (feq hc127).1 (XS.iconst X0.here hx rfl (D d17_24) k)) ?_
      exact Go.retB X0 hx hlk hret (by simp) (D d17_25) (by decide) (by decide) (z' := (0 : Int32)) rfl (by rw [e0]; exact ⟨by rw [own_eq_list, if_pos rfl, if_neg hc127], rfl, by simp⟩)
  · skip
    refine Go.of (T' := T0) (f' := (mkF m 35 #[rv xg, rv xc, .unset] [(.int 0)])) (fun _ k => XS.icmpYes X0.here hx rfl (pc0 := 4) (pc' := 34) rfl (D d17_4) rfl (feq hc122).2 (by decide) (by decide) (XS.iconst X0.here hx rfl (D d17_34) k)) ?_
    exact Go.retB X0 hx hlk hret (by simp) (D d17_35) (by decide) (by decide) (z' := (0 : Int32)) rfl (by rw [e0]; exact ⟨by rw [own_eq_list, if_neg hc122], rfl, by simp⟩)
theorem ef_rm_l1n_list (m : MethodId) (xc : Addr) (xg : Addr) : entryFrame m #[(.ref xc), (.ref xg)] 3 = mkF m 0 #[rv xc, rv xg, .unset] [] := by first | (simp [entryFrame, mkF, argsToLocals, Value.category]; done) | rfl
set_option maxRecDepth 65536 in
set_option maxHeartbeats 40000000 in
theorem rm_l1n_list {l : Launch} {Z : State} {a0 : Array Value} {A : Nat → Addr} {KC : Nat → Cell} {IC : Nat → Int32} {VC : Nat → Value} (hw : ∀ d ∈ tables_1, d.before a0 Z = true) (G : own_Ctx Z A KC IC VC) (xc : Addr) (xg : Addr) (kg : ClassId) (kc : ClassId) (n : Int32) (bs : List Int32) (h0 : Heap) (O0 : Ext Z.heap h0) (prem0 : Arv Z h0 xg kg .byte n (bs.map Value.int) (.int (0 : Int32))) (prem1 : Arv Z h0 xc kc .byte (4 : Int32) [(.int (108 : Int32)), (.int (105 : Int32)), (.int (115 : Int32)), (.int (116 : Int32))] (.int (0 : Int32))) :
    Ok l Z own_m14 jdk_43_method_13_code 3 (some .boolean) ({ frames := 0, cells := 0, slots := 0, locals := 0 } : Room) #[(.ref xc), (.ref xg)] h0
      (fun v h L => v = some (.int (own_eq_list n bs)) ∧ (h = h0) ∧ (L = [])) := by
  refine Ok.mk pn15 ?_
  intro p e s m below meth c T0 hx hby hml hown hnm hret hlk hZ e0 X0
  refine Go.cast (ef_rm_l1n_list m xc xg) ?_
  have D := @hb _ _ hby
  have N0 := Fr.nil Z.heap.size
  have K0 : Keep h0 h0 [] := Keep.refl _ _
  obtain ⟨cl145, Ar145, qk145, S145, Ng145, H145, G145⟩ := id prem1
  obtain ⟨cl146, Ar146, qk146, S146, Ng146, H146, G146⟩ := id prem0
  refine Go.of (T' := T0) (f' := (mkF m 4 #[rv xc, rv xg, .unset] [(.int n), (.int 4)])) (fun _ k => XS.aloadN X0.here hx rfl (D d17_0) rfl rfl (X0.arraylength hx (by rw [e0]; exact Ar145.1) (State.isArrayOf_alike hZ.alike Ar145.2.1) (g := (mkF m 1 #[rv xc, rv xg, .unset] [(.ref xc)])) rfl rfl (D d17_1) _ (by rw [len_of S145 Ng145]; exact (XS.aloadN X0.here hx rfl (D d17_2) rfl rfl (X0.arraylength hx (by rw [e0]; exact Ar146.1) (State.isArrayOf_alike hZ.alike Ar146.2.1) (g := (mkF m 3 #[rv xc, rv xg, .unset] [(.ref xg), (.int 4)])) rfl rfl (D d17_3) _ (by rw [len_of S146 Ng146]; exact k)))))) ?_
  by_cases hc147 : (4 : Int32) = n
  · skip
    refine Go.of (T' := T0) (f' := (mkF m 7 #[rv xc, rv xg, .unset] [])) (fun _ k => XS.icmpNo X0.here hx rfl (D d17_4) rfl (teq hc147).2 k) ?_
    subst hc147
    obtain ⟨cl148, Ar148, qk148, S148, Ng148, H148, G148⟩ := id prem1
    obtain ⟨cl150, Ar150, qk150, S150, Ng150, H150, G150⟩ := id prem1
    have hin150 := inb_of (j := (0 : Int32)) S150 ⟨by decide, by decide⟩
    obtain ⟨cl151, Ar151, qk151, S151, Ng151, H151, G151⟩ := id prem0
    have hin151 := inb_of (j := (0 : Int32)) S151 ⟨by decide, by decide⟩
    refine Go.of (T' := T0) (f' := (mkF m 21 #[rv xc, rv xg, iv 0] [(.int (bs.getD 0 0)), (.int 108)])) (fun _ k => XS.iconst X0.here hx rfl (D d17_7) (XS.istoreN X0.here hx rfl (D d17_8) rfl (l' := #[rv xc, rv xg, iv 0]) rfl (XS.iloadN X0.here hx rfl (D d17_9) rfl (XS.aloadN X0.here hx rfl (D d17_10) rfl rfl (X0.arraylength hx (by rw [e0]; exact Ar148.1) (State.isArrayOf_alike hZ.alike Ar148.2.1) (g := (mkF m 11 #[rv xc, rv xg, iv 0] [(.ref xc), (.int 0)])) rfl rfl (D d17_11) _ (by rw [len_of S148 Ng148]; exact (XS.icmpNo X0.here hx rfl (D d17_12) rfl (tlt (by decide : (0 : Int32) < (4 : Int32))).2.1 (XS.aloadN X0.here hx rfl (D d17_15) rfl rfl (XS.iloadN X0.here hx rfl (D d17_16) rfl (X0.baloadBytes hx (j := (0 : Int32)) (v := (.int 108)) (by rw [e0]; exact Ar150.1) (State.isArrayOf_alike hZ.alike Ar150.2.1) Ar150.2.2 hin150 (H150.at hin150 rfl) (g := (mkF m 17 #[rv xc, rv xg, iv 0] [(.int 0), (.ref xc)])) rfl rfl (D d17_17) _ (XS.aloadN X0.here hx rfl (D d17_18) rfl rfl (XS.iloadN X0.here hx rfl (D d17_19) rfl (X0.baloadBytes hx (j := (0 : Int32)) (v := (.int (bs.getD 0 0))) (by rw [e0]; exact Ar151.1) (State.isArrayOf_alike hZ.alike Ar151.2.1) Ar151.2.2 hin151 (H151.at hin151 (own_mg bs 0)) (g := (mkF m 20 #[rv xc, rv xg, iv 0] [(.int 0), (.ref xg), (.int 108)])) rfl rfl (D d17_20) _ k))))))))))))) ?_
    by_cases hc152 : (108 : Int32) = (bs.getD 0 0)
    · skip
      obtain ⟨cl153, Ar153, qk153, S153, Ng153, H153, G153⟩ := id prem1
      obtain ⟨cl155, Ar155, qk155, S155, Ng155, H155, G155⟩ := id prem1
      have hin155 := inb_of (j := (1 : Int32)) S155 ⟨by decide, by decide⟩
      obtain ⟨cl156, Ar156, qk156, S156, Ng156, H156, G156⟩ := id prem0
      have hin156 := inb_of (j := (1 : Int32)) S156 ⟨by decide, by decide⟩
      refine Go.of (T' := T0) (f' := (mkF m 21 #[rv xc, rv xg, iv 1] [(.int (bs.getD 1 0)), (.int 105)])) (fun _ k => XS.icmpYes X0.here hx rfl (pc0 := 21) (pc' := 26) rfl (D d17_21) rfl (teq hc152).1 (by decide) (by decide) (XS.iinc X0.here hx rfl (D d17_26) rfl (l' := #[rv xc, rv xg, iv 1]) rfl (XS.goto X0.here hx rfl (pc0 := 29) (pc' := 9) rfl (D d17_29) (by decide) (by decide) (XS.iloadN X0.here hx rfl (D d17_9) rfl (XS.aloadN X0.here hx rfl (D d17_10) rfl rfl (X0.arraylength hx (by rw [e0]; exact Ar153.1) (State.isArrayOf_alike hZ.alike Ar153.2.1) (g := (mkF m 11 #[rv xc, rv xg, iv 1] [(.ref xc), (.int 1)])) rfl rfl (D d17_11) _ (by rw [len_of S153 Ng153]; exact (XS.icmpNo X0.here hx rfl (D d17_12) rfl (tlt (by decide : (1 : Int32) < (4 : Int32))).2.1 (XS.aloadN X0.here hx rfl (D d17_15) rfl rfl (XS.iloadN X0.here hx rfl (D d17_16) rfl (X0.baloadBytes hx (j := (1 : Int32)) (v := (.int 105)) (by rw [e0]; exact Ar155.1) (State.isArrayOf_alike hZ.alike Ar155.2.1) Ar155.2.2 hin155 (H155.at hin155 rfl) (g := (mkF m 17 #[rv xc, rv xg, iv 1] [(.int 1), (.ref xc)])) rfl rfl (D d17_17) _ (XS.aloadN X0.here hx rfl (D d17_18) rfl rfl (XS.iloadN X0.here hx rfl (D d17_19) rfl (X0.baloadBytes hx (j := (1 : Int32)) (v := (.int (bs.getD 1 0))) (by rw [e0]; exact Ar156.1) (State.isArrayOf_alike hZ.alike Ar156.2.1) Ar156.2.2 hin156 (H156.at hin156 (own_mg bs 1)) (g := (mkF m 20 #[rv xc, rv xg, iv 1] [(.int 1), (.ref xg), (.int 105)])) rfl rfl (D d17_20) _ k)))))))))))))) ?_
      by_cases hc157 : (105 : Int32) = (bs.getD 1 0)
      · skip
        obtain ⟨cl158, Ar158, qk158, S158, Ng158, H158, G158⟩ := id prem1
        obtain ⟨cl160, Ar160, qk160, S160, Ng160, H160, G160⟩ := id prem1
        have hin160 := inb_of (j := (2 : Int32)) S160 ⟨by decide, by decide⟩
        obtain ⟨cl161, Ar161, qk161, S161, Ng161, H161, G161⟩ := id prem0
        have hin161 := inb_of (j := (2 : Int32)) S161 ⟨by decide, by decide⟩
        refine Go.of (T' := T0) (f' := (mkF m 21 #[rv xc, rv xg, iv 2] [(.int (bs.getD 2 0)), (.int 115)])) (fun _ k => XS.icmpYes X0.here hx rfl (pc0 := 21) (pc' := 26) rfl (D d17_21) rfl (teq hc157).1 (by decide) (by decide) (XS.iinc X0.here hx rfl (D d17_26) rfl (l' := #[rv xc, rv xg, iv 2]) rfl (XS.goto X0.here hx rfl (pc0 := 29) (pc' := 9) rfl (D d17_29) (by decide) (by decide) (XS.iloadN X0.here hx rfl (D d17_9) rfl (XS.aloadN X0.here hx rfl (D d17_10) rfl rfl (X0.arraylength hx (by rw [e0]; exact Ar158.1) (State.isArrayOf_alike hZ.alike Ar158.2.1) (g := (mkF m 11 #[rv xc, rv xg, iv 2] [(.ref xc), (.int 2)])) rfl rfl (D d17_11) _ (by rw [len_of S158 Ng158]; exact (XS.icmpNo X0.here hx rfl (D d17_12) rfl (tlt (by decide : (2 : Int32) < (4 : Int32))).2.1 (XS.aloadN X0.here hx rfl (D d17_15) rfl rfl (XS.iloadN X0.here hx rfl (D d17_16) rfl (X0.baloadBytes hx (j := (2 : Int32)) (v := (.int 115)) (by rw [e0]; exact Ar160.1) (State.isArrayOf_alike hZ.alike Ar160.2.1) Ar160.2.2 hin160 (H160.at hin160 rfl) (g := (mkF m 17 #[rv xc, rv xg, iv 2] [(.int 2), (.ref xc)])) rfl rfl (D d17_17) _ (XS.aloadN X0.here hx rfl (D d17_18) rfl rfl (XS.iloadN X0.here hx rfl (D d17_19) rfl (X0.baloadBytes hx (j := (2 : Int32)) (v := (.int (bs.getD 2 0))) (by rw [e0]; exact Ar161.1) (State.isArrayOf_alike hZ.alike Ar161.2.1) Ar161.2.2 hin161 (H161.at hin161 (own_mg bs 2)) (g := (mkF m 20 #[rv xc, rv xg, iv 2] [(.int 2), (.ref xg), (.int 115)])) rfl rfl (D d17_20) _ k)))))))))))))) ?_
        by_cases hc162 : (115 : Int32) = (bs.getD 2 0)
        · skip
          obtain ⟨cl163, Ar163, qk163, S163, Ng163, H163, G163⟩ := id prem1
          obtain ⟨cl165, Ar165, qk165, S165, Ng165, H165, G165⟩ := id prem1
          have hin165 := inb_of (j := (3 : Int32)) S165 ⟨by decide, by decide⟩
          obtain ⟨cl166, Ar166, qk166, S166, Ng166, H166, G166⟩ := id prem0
          have hin166 := inb_of (j := (3 : Int32)) S166 ⟨by decide, by decide⟩
          refine Go.of (T' := T0) (f' := (mkF m 21 #[rv xc, rv xg, iv 3] [(.int (bs.getD 3 0)), (.int 116)])) (fun _ k => XS.icmpYes X0.here hx rfl (pc0 := 21) (pc' := 26) rfl (D d17_21) rfl (teq hc162).1 (by decide) (by decide) (XS.iinc X0.here hx rfl (D d17_26) rfl (l' := #[rv xc, rv xg, iv 3]) rfl (XS.goto X0.here hx rfl (pc0 := 29) (pc' := 9) rfl (D d17_29) (by decide) (by decide) (XS.iloadN X0.here hx rfl (D d17_9) rfl (XS.aloadN X0.here hx rfl (D d17_10) rfl rfl (X0.arraylength hx (by rw [e0]; exact Ar163.1) (State.isArrayOf_alike hZ.alike Ar163.2.1) (g := (mkF m 11 #[rv xc, rv xg, iv 3] [(.ref xc), (.int 3)])) rfl rfl (D d17_11) _ (by rw [len_of S163 Ng163]; exact (XS.icmpNo X0.here hx rfl (D d17_12) rfl (tlt (by decide : (3 : Int32) < (4 : Int32))).2.1 (XS.aloadN X0.here hx rfl (D d17_15) rfl rfl (XS.iloadN X0.here hx rfl (D d17_16) rfl (X0.baloadBytes hx (j := (3 : Int32)) (v := (.int 116)) (by rw [e0]; exact Ar165.1) (State.isArrayOf_alike hZ.alike Ar165.2.1) Ar165.2.2 hin165 (H165.at hin165 rfl) (g := (mkF m 17 #[rv xc, rv xg, iv 3] [(.int 3), (.ref xc)])) rfl rfl (D d17_17) _ (XS.aloadN X0.here hx rfl (D d17_18) rfl rfl (XS.iloadN X0.here hx rfl (D d17_19) rfl (X0.baloadBytes hx (j := (3 : Int32)) (v := (.int (bs.getD 3 0))) (by rw [e0]; exact Ar166.1) (State.isArrayOf_alike hZ.alike Ar166.2.1) Ar166.2.2 hin166 (H166.at hin166 (own_mg bs 3)) (g := (mkF m 20 #[rv xc, rv xg, iv 3] [(.int 3), (.ref xg), (.int 116)])) rfl rfl (D d17_20) _ k)))))))))))))) ?_
          by_cases hc167 : (116 : Int32) = (bs.getD 3 0)
          · skip
            obtain ⟨cl168, Ar168, qk168, S168, Ng168, H168, G168⟩ := id prem1
            refine Go.of (T' := T0) (f' := (mkF m 33 #[rv xc, rv xg, iv 4] [(.int 1)])) (fun _ k => XS.icmpYes X0.here hx rfl (pc0 := 21) (pc' := 26) rfl (D d17_21) rfl (teq hc167).1 (by decide) (by decide) (XS.iinc X0.here hx rfl (D d17_26) rfl (l' := #[rv xc, rv xg, iv 4]) rfl (XS.goto X0.here hx rfl (pc0 := 29) (pc' := 9) rfl (D d17_29) (by decide) (by decide) (XS.iloadN X0.here hx rfl (D d17_9) rfl (XS.aloadN X0.here hx rfl (D d17_10) rfl rfl (X0.arraylength hx (by rw [e0]; exact Ar168.1) (State.isArrayOf_alike hZ.alike Ar168.2.1) (g := (mkF m 11 #[rv xc, rv xg, iv 4] [(.ref xc), (.int 4)])) rfl rfl (D d17_11) _ (by rw [len_of S168 Ng168]; exact (XS.icmpYes X0.here hx rfl (pc0 := 12) (pc' := 32) rfl (D d17_12) rfl (flt (by decide : ¬ ((4 : Int32) < (4 : Int32)))).2.1 (by decide) (by decide) (XS.iconst X0.here hx rfl (D d17_32) k))))))))) ?_
            exact Go.retB X0 hx hlk hret (by simp) (D d17_33) (by decide) (by decide) (z' := (1 : Int32)) rfl (by rw [e0]; exact ⟨by rw [own_eq_list, if_pos rfl, if_pos hc152.symm, if_pos hc157.symm, if_pos hc162.symm, if_pos hc167.symm], rfl, by simp⟩)
          · skip
            refine Go.of (T' := T0) (f' := (mkF m 25 #[rv xc, rv xg, iv 3] [(.int 0)])) (fun _ k => XS.icmpNo X0.here hx rfl (D d17_21) rfl (feq hc167).1 (XS.iconst X0.here hx rfl (D d17_24) k)) ?_
            exact Go.retB X0 hx hlk hret (by simp) (D d17_25) (by decide) (by decide) (z' := (0 : Int32)) rfl (by rw [e0]; exact ⟨by rw [own_eq_list, if_pos rfl, if_pos hc152.symm, if_pos hc157.symm, if_pos hc162.symm, if_neg (fun q => hc167 q.symm)], rfl, by simp⟩)
        · skip
          refine Go.of (T' := T0) (f' := (mkF m 25 #[rv xc, rv xg, iv 2] [(.int 0)])) (fun _ k => XS.icmpNo X0.here hx rfl (D d17_21) rfl (feq hc162).1 (XS.iconst X0.here hx rfl (D d17_24) k)) ?_
          exact Go.retB X0 hx hlk hret (by simp) (D d17_25) (by decide) (by decide) (z' := (0 : Int32)) rfl (by rw [e0]; exact ⟨by rw [own_eq_list, if_pos rfl, if_pos hc152.symm, if_pos hc157.symm, if_neg (fun q => hc162 q.symm)], rfl, by simp⟩)
      · skip
        refine Go.of (T' := T0) (f' := (mkF m 25 #[rv xc, rv xg, iv 1] [(.int 0)])) (fun _ k => XS.icmpNo X0.here hx rfl (D d17_21) rfl (feq hc157).1 (XS.iconst X0.here hx rfl (D d17_24) k)) ?_
        exact Go.retB X0 hx hlk hret (by simp) (D d17_25) (by decide) (by decide) (z' := (0 : Int32)) rfl (by rw [e0]; exact ⟨by rw [own_eq_list, if_pos rfl, if_pos hc152.symm, if_neg (fun q => hc157 q.symm)], rfl, by simp⟩)
    · skip
      refine Go.of (T' := T0) (f' := (mkF m 25 #[rv xc, rv xg, iv 0] [(.int 0)])) (fun _ k => XS.icmpNo X0.here hx rfl (D d17_21) rfl (feq hc152).1 (XS.iconst X0.here hx rfl (D d17_24) k)) ?_
      exact Go.retB X0 hx hlk hret (by simp) (D d17_25) (by decide) (by decide) (z' := (0 : Int32)) rfl (by rw [e0]; exact ⟨by rw [own_eq_list, if_pos rfl, if_neg (fun q => hc152 q.symm)], rfl, by simp⟩)
  · skip
    refine Go.of (T' := T0) (f' := (mkF m 35 #[rv xc, rv xg, .unset] [(.int 0)])) (fun _ k => XS.icmpYes X0.here hx rfl (pc0 := 4) (pc' := 34) rfl (D d17_4) rfl (feq hc147).2 (by decide) (by decide) (XS.iconst X0.here hx rfl (D d17_34) k)) ?_
    exact Go.retB X0 hx hlk hret (by simp) (D d17_35) (by decide) (by decide) (z' := (0 : Int32)) rfl (by rw [e0]; exact ⟨by rw [own_eq_list, if_neg (fun q => hc147 q.symm)], rfl, by simp⟩)
theorem ef_rm_eqg_list (m : MethodId) (so : Addr) (cb : Addr) : entryFrame m #[(.ref so), (.ref cb)] 3 = mkF m 0 #[rv so, rv cb, .unset] [] := by first | (simp [entryFrame, mkF, argsToLocals, Value.category]; done) | rfl
set_option maxRecDepth 65536 in
set_option maxHeartbeats 40000000 in
theorem rm_eqg_list {l : Launch} {Z : State} {a0 : Array Value} {A : Nat → Addr} {KC : Nat → Cell} {IC : Nat → Int32} {VC : Nat → Value} (hw : ∀ d ∈ tables_1, d.before a0 Z = true) (G : own_Ctx Z A KC IC VC) (so : Addr) (cb : Addr) (sv : Addr) (kg : ClassId) (n : Int32) (bs : List Int32) (vb : Addr) (kc : ClassId) (vq : Int32) (h0 : Heap) (O0 : Ext Z.heap h0) (prem0 : Exa Z h0 so "java/lang/String") (prem1 : Fld Z h0 so "java/lang/String" "value" "[B" (.ref sv)) (prem2 : Fld Z h0 so "java/lang/String" "coder" "B" (.int (0 : Int32))) (prem3 : Arv Z h0 sv kg .byte n (bs.map Value.int) (.int (0 : Int32))) (prem4 : Exa Z h0 cb "java/lang/String") (prem5 : Fld Z h0 cb "java/lang/String" "coder" "B" (.int (0 : Int32))) (prem6 : Fld Z h0 cb "java/lang/String" "value" "[B" (.ref vb)) (prem7 : Arv Z h0 vb kc .byte (4 : Int32) [(.int (108 : Int32)), (.int (105 : Int32)), (.int (115 : Int32)), (.int (116 : Int32))] (.int (0 : Int32))) (prem8 : own_eq_list n bs = vq) :
    Ok l Z own_m17 jdk_42_method_66_code 3 (some .boolean) ({ frames := 1, cells := 0, slots := 0, locals := 14 } : Room) #[(.ref so), (.ref cb)] h0
      (fun v h L => v = some (.int vq) ∧ (h = h0) ∧ (L = [])) := by
  refine Ok.mk pn18 ?_
  intro p e s m below meth c T0 hx hby hml hown hnm hret hlk hZ e0 X0
  refine Go.cast (ef_rm_eqg_list m so cb) ?_
  obtain ⟨-, -, -, -, -, -, -, -, -, -, -, -, -, -, -, -, -, -, -, -, -, -, -, -, -, -, -, -, -, -, -, -, S_COMPACT_STRINGS, hne_s_COMPACT_STRINGS_0, -⟩ := id G
  have D := @hb _ _ hby
  have N0 := Fr.nil Z.heap.size
  have K0 : Keep h0 h0 [] := Keep.refl _ _
  refine Go.of (T' := T0) (f' := (mkF m 2 #[rv so, rv cb, .unset] [(.ref cb), (.ref so)])) (fun _ k => XS.aloadN X0.here hx rfl (D d16_0) rfl rfl (XS.aloadN X0.here hx rfl (D d16_1) rfl rfl k)) ?_
  by_cases hc170 : so = cb
  · skip
    refine Go.of (T' := T0) (f' := (mkF m 6 #[rv so, rv cb, .unset] [(.int 1)])) (fun _ k => Jvm.RoadKit.acmp (g := (mkF m 2 #[rv so, rv cb, .unset] [(.ref cb), (.ref so)])) X0 hx rfl rfl rfl (pc0 := 2) (pc' := 5) (same := true) rfl (D d16_2) rfl (decide_eq_true (congrArg Value.ref hc170)) (by decide) (by decide) (XS.iconst X0.here hx rfl (D d16_5) k)) ?_
    exact Go.retB X0 hx hlk hret (by simp) (D d16_6) (by decide) (by decide) (z' := (1 : Int32)) rfl (by rw [e0]; exact ⟨congrArg (fun z => some (Value.int z)) ((own_idt_list hc170 prem1 prem6 prem3 prem7 : own_eq_list n bs = 1).symm.trans prem8), rfl, by simp⟩)
  · skip
    obtain ⟨T171, X171, e171, st171⟩ := instY X0 hx hZ hown (own_w hw (i := 100) rfl) e0 (Ins.self prem4) (g := (mkF m 8 #[rv so, rv cb, .unset] [(.ref cb)])) rfl rfl (D d16_8)
    obtain ⟨T173, X173, e173, st173⟩ := castY X171 hx hZ hown (own_w hw (i := 100) rfl) e171 (Ins.self prem4) (g := (mkF m 15 #[rv so, rv cb, .unset] [(.ref cb)])) rfl rfl (D d16_15)
    obtain ⟨T174, X174, e174, st174⟩ := getS2 X173 hx hZ hown (host := "") (Or.inl (own_w hw (i := 20) rfl)) Via.refl e173 (Sta.ext O0 S_COMPACT_STRINGS) (g := (mkF m 19 #[rv so, rv cb, rv cb] [])) rfl (D d16_19)
    have hc175 : ¬ ((IC 0) = (0 : Int32)) := hne_s_COMPACT_STRINGS_0
    obtain ⟨T176, X176, e176, st176⟩ := getF X174 hx hZ hown (host := "") (Or.inl (own_w hw (i := 21) rfl)) Via.refl e174 prem2 (g := (mkF m 26 #[rv so, rv cb, rv cb] [(.ref so)])) rfl rfl (D d16_26)
    obtain ⟨T177, X177, e177, st177⟩ := getF X176 hx hZ hown (host := "") (Or.inl (own_w hw (i := 21) rfl)) Via.refl e176 prem5 (g := (mkF m 30 #[rv so, rv cb, rv cb] [(.ref cb), (.int 0)])) rfl rfl (D d16_30)
    obtain ⟨T179, X179, e179, st179⟩ := getF X177 hx hZ hown (host := "") (Or.inl (own_w hw (i := 14) rfl)) Via.refl e177 prem1 (g := (mkF m 37 #[rv so, rv cb, rv cb] [(.ref so)])) rfl rfl (D d16_37)
    obtain ⟨T180, X180, e180, st180⟩ := getF X179 hx hZ hown (host := "") (Or.inl (own_w hw (i := 14) rfl)) Via.refl e179 prem6 (g := (mkF m 41 #[rv so, rv cb, rv cb] [(.ref cb), (.ref sv)])) rfl rfl (D d16_41)
    obtain ⟨T181, v181, L181, X181, q181, st181⟩ := callSt X180 hx hZ (y := own_m14) hown (own_w hw (i := 101) rfl) (own_w hw (i := 102) rfl) (own_w hw (i := 34) rfl) (own_w hw (i := 103) rfl) (by decide) (rm_l1g_list hw G sv vb kg kc n bs h0 O0 prem3 prem7) e180 (W := 0) (by decide) (by decide) (by decide) (by decide) (g := (mkF m 44 #[rv so, rv cb, rv cb] [(.ref vb), (.ref sv)])) rfl (by rw [hml]; rfl) (argsL := [(.ref sv), (.ref vb)]) (rest := []) (lenOf pd16 rfl) rfl rfl (Nat.le_of_eq rfl) (D d16_44)
    obtain ⟨rfl, e181, rfl⟩ := q181
    have N181 := Fr.app N0 (Fr.nil _)
    refine Go.of (T' := T181) (f' := (mkF m 47 #[rv so, rv cb, rv cb] [(.int (own_eq_list n bs))])) (fun _ k => Jvm.RoadKit.acmp (g := (mkF m 2 #[rv so, rv cb, .unset] [(.ref cb), (.ref so)])) X0 hx rfl rfl rfl (pc0 := 2) (pc' := 7) (same := false) rfl (D d16_2) rfl (decide_eq_false fun q => hc170 (Value.ref.inj q)) (by decide) (by decide) (XS.aloadN X0.here hx rfl (D d16_7) rfl rfl (st171 _ (XS.ifNo X171.here hx rfl (D d16_11) rfl ((if0 _ _).trans (feq (by decide : ¬ ((1 : Int32) = (0 : Int32)))).1) (XS.aloadN X171.here hx rfl (D d16_14) rfl rfl (st173 _ (XS.astoreN X173.here hx rfl (D d16_18) rfl rfl (l' := #[rv so, rv cb, rv cb]) rfl (st174 _ (XS.ifNo X174.here hx rfl (D d16_22) rfl ((if0 _ _).trans (feq hc175).1) (XS.aloadN X174.here hx rfl (D d16_25) rfl rfl (st176 _ (XS.aloadN X176.here hx rfl (D d16_29) rfl rfl (st177 _ (XS.icmpNo X177.here hx rfl (D d16_33) rfl (teq (by decide : (0 : Int32) = (0 : Int32))).2 (XS.aloadN X177.here hx rfl (D d16_36) rfl rfl (st179 _ (XS.aloadN X179.here hx rfl (D d16_40) rfl rfl (st180 _ (st181 _ k))))))))))))))))))) ?_
    by_cases hc182 : (own_eq_list n bs) = (0 : Int32)
    · skip
      refine Go.of (T' := T181) (f' := (mkF m 55 #[rv so, rv cb, rv cb] [(.int 0)])) (fun _ k => XS.ifYes X181.here hx rfl (pc0 := 47) (pc' := 54) rfl (D d16_47) rfl ((if0 _ _).trans (teq hc182).1) (by decide) (by decide) (XS.iconst X181.here hx rfl (D d16_54) k)) ?_
      exact Go.retB X181 hx hlk hret (by simp) (D d16_55) (by decide) (by decide) (z' := (0 : Int32)) rfl (by rw [e181]; exact ⟨congrArg (fun z => some (Value.int z)) ((hc182 : own_eq_list n bs = 0).symm.trans prem8), rfl, by simp⟩)
    · skip
      refine Go.of (T' := T181) (f' := (mkF m 55 #[rv so, rv cb, rv cb] [(.int 1)])) (fun _ k => XS.ifNo X181.here hx rfl (D d16_47) rfl ((if0 _ _).trans (feq hc182).1) (XS.iconst X181.here hx rfl (D d16_50) (XS.goto X181.here hx rfl (pc0 := 51) (pc' := 55) rfl (D d16_51) (by decide) (by decide) k))) ?_
      exact Go.retB X181 hx hlk hret (by simp) (D d16_55) (by decide) (by decide) (z' := (1 : Int32)) rfl (by rw [e181]; exact ⟨congrArg (fun z => some (Value.int z)) (((Classical.byContradiction fun q => hc182 (own_01_list q)) : own_eq_list n bs = 1).symm.trans prem8), rfl, by simp⟩)
theorem ef_rm_eqn_list (m : MethodId) {A : Nat → Addr} (so : Addr) : entryFrame m #[(.ref (A 8)), (.ref so)] 3 = mkF m 0 #[rv (A 8), rv so, .unset] [] := by first | (simp [entryFrame, mkF, argsToLocals, Value.category]; done) | rfl
set_option maxRecDepth 65536 in
set_option maxHeartbeats 40000000 in
theorem rm_eqn_list {l : Launch} {Z : State} {a0 : Array Value} {A : Nat → Addr} {KC : Nat → Cell} {IC : Nat → Int32} {VC : Nat → Value} (hw : ∀ d ∈ tables_1, d.before a0 Z = true) (G : own_Ctx Z A KC IC VC) (so : Addr) (sv : Addr) (kg : ClassId) (n : Int32) (bs : List Int32) (vq : Int32) (h0 : Heap) (O0 : Ext Z.heap h0) (prem0 : Exa Z h0 so "java/lang/String") (prem1 : Fld Z h0 so "java/lang/String" "value" "[B" (.ref sv)) (prem2 : Fld Z h0 so "java/lang/String" "coder" "B" (.int (0 : Int32))) (prem3 : Arv Z h0 sv kg .byte n (bs.map Value.int) (.int (0 : Int32))) (prem4 : own_eq_list n bs = vq) :
    Ok l Z own_m17 jdk_42_method_66_code 3 (some .boolean) ({ frames := 1, cells := 0, slots := 0, locals := 14 } : Room) #[(.ref (A 8)), (.ref so)] h0
      (fun v h L => v = some (.int vq) ∧ (h = h0) ∧ (L = [])) := by
  refine Ok.mk pn18 ?_
  intro p e s m below meth c T0 hx hby hml hown hnm hret hlk hZ e0 X0
  refine Go.cast (ef_rm_eqn_list m so) ?_
  obtain ⟨-, -, -, -, -, -, -, -, -, -, -, -, -, -, -, -, -, -, F_s_LIST_elementName_coder, F_s_LIST_elementName_value, -, -, -, -, -, -, -, -, -, -, -, -, S_COMPACT_STRINGS, hne_s_COMPACT_STRINGS_0, -, -, V_s_LIST_elementName_value, -⟩ := id G
  have D := @hb _ _ hby
  have N0 := Fr.nil Z.heap.size
  have K0 : Keep h0 h0 [] := Keep.refl _ _
  refine Go.of (T' := T0) (f' := (mkF m 2 #[rv (A 8), rv so, .unset] [(.ref so), (.ref (A 8))])) (fun _ k => XS.aloadN X0.here hx rfl (D d16_0) rfl rfl (XS.aloadN X0.here hx rfl (D d16_1) rfl rfl k)) ?_
  by_cases hc183 : (A 8) = so
  · skip
    refine Go.of (T' := T0) (f' := (mkF m 6 #[rv (A 8), rv so, .unset] [(.int 1)])) (fun _ k => Jvm.RoadKit.acmp (g := (mkF m 2 #[rv (A 8), rv so, .unset] [(.ref so), (.ref (A 8))])) X0 hx rfl rfl rfl (pc0 := 2) (pc' := 5) (same := true) rfl (D d16_2) rfl (decide_eq_true (congrArg Value.ref hc183)) (by decide) (by decide) (XS.iconst X0.here hx rfl (D d16_5) k)) ?_
    exact Go.retB X0 hx hlk hret (by simp) (D d16_6) (by decide) (by decide) (z' := (1 : Int32)) rfl (by rw [e0]; exact ⟨congrArg (fun z => some (Value.int z)) ((own_idt_list (Eq.symm hc183) prem1 (Fld.ext O0 F_s_LIST_elementName_value) prem3 (Arv.ext V_s_LIST_elementName_value O0) : own_eq_list n bs = 1).symm.trans prem4), rfl, by simp⟩)
  · skip
    obtain ⟨T184, X184, e184, st184⟩ := instY X0 hx hZ hown (own_w hw (i := 100) rfl) e0 (Ins.self prem0) (g := (mkF m 8 #[rv (A 8), rv so, .unset] [(.ref so)])) rfl rfl (D d16_8)
    obtain ⟨T186, X186, e186, st186⟩ := castY X184 hx hZ hown (own_w hw (i := 100) rfl) e184 (Ins.self prem0) (g := (mkF m 15 #[rv (A 8), rv so, .unset] [(.ref so)])) rfl rfl (D d16_15)
    obtain ⟨T187, X187, e187, st187⟩ := getS2 X186 hx hZ hown (host := "") (Or.inl (own_w hw (i := 20) rfl)) Via.refl e186 (Sta.ext O0 S_COMPACT_STRINGS) (g := (mkF m 19 #[rv (A 8), rv so, rv so] [])) rfl (D d16_19)
    have hc188 : ¬ ((IC 0) = (0 : Int32)) := hne_s_COMPACT_STRINGS_0
    obtain ⟨T189, X189, e189, st189⟩ := getF X187 hx hZ hown (host := "") (Or.inl (own_w hw (i := 21) rfl)) Via.refl e187 (Fld.ext O0 F_s_LIST_elementName_coder) (g := (mkF m 26 #[rv (A 8), rv so, rv so] [(.ref (A 8))])) rfl rfl (D d16_26)
    obtain ⟨T190, X190, e190, st190⟩ := getF X189 hx hZ hown (host := "") (Or.inl (own_w hw (i := 21) rfl)) Via.refl e189 prem2 (g := (mkF m 30 #[rv (A 8), rv so, rv so] [(.ref so), (.int 0)])) rfl rfl (D d16_30)
    obtain ⟨T192, X192, e192, st192⟩ := getF X190 hx hZ hown (host := "") (Or.inl (own_w hw (i := 14) rfl)) Via.refl e190 (Fld.ext O0 F_s_LIST_elementName_value) (g := (mkF m 37 #[rv (A 8), rv so, rv so] [(.ref (A 8))])) rfl rfl (D d16_37)
    obtain ⟨T193, X193, e193, st193⟩ := getF X192 hx hZ hown (host := "") (Or.inl (own_w hw (i := 14) rfl)) Via.refl e192 prem1 (g := (mkF m 41 #[rv (A 8), rv so, rv so] [(.ref so), (.ref (A 9))])) rfl rfl (D d16_41)
    obtain ⟨T194, v194, L194, X194, q194, st194⟩ := callSt X193 hx hZ (y := own_m14) hown (own_w hw (i := 101) rfl) (own_w hw (i := 102) rfl) (own_w hw (i := 34) rfl) (own_w hw (i := 103) rfl) (by decide) (rm_l1n_list hw G ((A 9)) sv kg ((KC 2).cls) n bs h0 O0 prem3 (Arv.ext V_s_LIST_elementName_value O0)) e193 (W := 0) (by decide) (by decide) (by decide) (by decide) (g := (mkF m 44 #[rv (A 8), rv so, rv so] [(.ref sv), (.ref (A 9))])) rfl (by rw [hml]; rfl) (argsL := [(.ref (A 9)), (.ref sv)]) (rest := []) (lenOf pd16 rfl) rfl rfl (Nat.le_of_eq rfl) (D d16_44)
    obtain ⟨rfl, e194, rfl⟩ := q194
    have N194 := Fr.app N0 (Fr.nil _)
    refine Go.of (T' := T194) (f' := (mkF m 47 #[rv (A 8), rv so, rv so] [(.int (own_eq_list n bs))])) (fun _ k => Jvm.RoadKit.acmp (g := (mkF m 2 #[rv (A 8), rv so, .unset] [(.ref so), (.ref (A 8))])) X0 hx rfl rfl rfl (pc0 := 2) (pc' := 7) (same := false) rfl (D d16_2) rfl (decide_eq_false fun q => hc183 (Value.ref.inj q)) (by decide) (by decide) (XS.aloadN X0.here hx rfl (D d16_7) rfl rfl (st184 _ (XS.ifNo X184.here hx rfl (D d16_11) rfl ((if0 _ _).trans (feq (by decide : ¬ ((1 : Int32) = (0 : Int32)))).1) (XS.aloadN X184.here hx rfl (D d16_14) rfl rfl (st186 _ (XS.astoreN X186.here hx rfl (D d16_18) rfl rfl (l' := #[rv (A 8), rv so, rv so]) rfl (st187 _ (XS.ifNo X187.here hx rfl (D d16_22) rfl ((if0 _ _).trans (feq hc188).1) (XS.aloadN X187.here hx rfl (D d16_25) rfl rfl (st189 _ (XS.aloadN X189.here hx rfl (D d16_29) rfl rfl (st190 _ (XS.icmpNo X190.here hx rfl (D d16_33) rfl (teq (by decide : (0 : Int32) = (0 : Int32))).2 (XS.aloadN X190.here hx rfl (D d16_36) rfl rfl (st192 _ (XS.aloadN X192.here hx rfl (D d16_40) rfl rfl (st193 _ (st194 _ k))))))))))))))))))) ?_
    by_cases hc195 : (own_eq_list n bs) = (0 : Int32)
    · skip
      refine Go.of (T' := T194) (f' := (mkF m 55 #[rv (A 8), rv so, rv so] [(.int 0)])) (fun _ k => XS.ifYes X194.here hx rfl (pc0 := 47) (pc' := 54) rfl (D d16_47) rfl ((if0 _ _).trans (teq hc195).1) (by decide) (by decide) (XS.iconst X194.here hx rfl (D d16_54) k)) ?_
      exact Go.retB X194 hx hlk hret (by simp) (D d16_55) (by decide) (by decide) (z' := (0 : Int32)) rfl (by rw [e194]; exact ⟨congrArg (fun z => some (Value.int z)) ((hc195 : own_eq_list n bs = 0).symm.trans prem4), rfl, by simp⟩)
    · skip
      refine Go.of (T' := T194) (f' := (mkF m 55 #[rv (A 8), rv so, rv so] [(.int 1)])) (fun _ k => XS.ifNo X194.here hx rfl (D d16_47) rfl ((if0 _ _).trans (feq hc195).1) (XS.iconst X194.here hx rfl (D d16_50) (XS.goto X194.here hx rfl (pc0 := 51) (pc' := 55) rfl (D d16_51) (by decide) (by decide) k))) ?_
      exact Go.retB X194 hx hlk hret (by simp) (D d16_55) (by decide) (by decide) (z' := (1 : Int32)) rfl (by rw [e194]; exact ⟨congrArg (fun z => some (Value.int z)) (((Classical.byContradiction fun q => hc195 (own_01_list q)) : own_eq_list n bs = 1).symm.trans prem4), rfl, by simp⟩)
theorem ef_rm_l1g_bag (m : MethodId) (xg : Addr) (xc : Addr) : entryFrame m #[(.ref xg), (.ref xc)] 3 = mkF m 0 #[rv xg, rv xc, .unset] [] := by first | (simp [entryFrame, mkF, argsToLocals, Value.category]; done) | rfl
set_option maxRecDepth 65536 in
set_option maxHeartbeats 40000000 in
theorem rm_l1g_bag {l : Launch} {Z : State} {a0 : Array Value} {A : Nat → Addr} {KC : Nat → Cell} {IC : Nat → Int32} {VC : Nat → Value} (hw : ∀ d ∈ tables_1, d.before a0 Z = true) (G : own_Ctx Z A KC IC VC) (xg : Addr) (xc : Addr) (kg : ClassId) (kc : ClassId) (n : Int32) (bs : List Int32) (h0 : Heap) (O0 : Ext Z.heap h0) (prem0 : Arv Z h0 xg kg .byte n (bs.map Value.int) (.int (0 : Int32))) (prem1 : Arv Z h0 xc kc .byte (3 : Int32) [(.int (98 : Int32)), (.int (97 : Int32)), (.int (103 : Int32))] (.int (0 : Int32))) :
    Ok l Z own_m14 jdk_43_method_13_code 3 (some .boolean) ({ frames := 0, cells := 0, slots := 0, locals := 0 } : Room) #[(.ref xg), (.ref xc)] h0
      (fun v h L => v = some (.int (own_eq_bag n bs)) ∧ (h = h0) ∧ (L = [])) := by
  refine Ok.mk pn15 ?_
  intro p e s m below meth c T0 hx hby hml hown hnm hret hlk hZ e0 X0
  refine Go.cast (ef_rm_l1g_bag m xg xc) ?_
  have D := @hb _ _ hby
  have N0 := Fr.nil Z.heap.size
  have K0 : Keep h0 h0 [] := Keep.refl _ _
  obtain ⟨cl196, Ar196, qk196, S196, Ng196, H196, G196⟩ := id prem0
  obtain ⟨cl197, Ar197, qk197, S197, Ng197, H197, G197⟩ := id prem1
  refine Go.of (T' := T0) (f' := (mkF m 4 #[rv xg, rv xc, .unset] [(.int 3), (.int n)])) (fun _ k => XS.aloadN X0.here hx rfl (D d17_0) rfl rfl (X0.arraylength hx (by rw [e0]; exact Ar196.1) (State.isArrayOf_alike hZ.alike Ar196.2.1) (g := (mkF m 1 #[rv xg, rv xc, .unset] [(.ref xg)])) rfl rfl (D d17_1) _ (by rw [len_of S196 Ng196]; exact (XS.aloadN X0.here hx rfl (D d17_2) rfl rfl (X0.arraylength hx (by rw [e0]; exact Ar197.1) (State.isArrayOf_alike hZ.alike Ar197.2.1) (g := (mkF m 3 #[rv xg, rv xc, .unset] [(.ref xc), (.int n)])) rfl rfl (D d17_3) _ (by rw [len_of S197 Ng197]; exact k)))))) ?_
  by_cases hc198 : n = (3 : Int32)
  · skip
    refine Go.of (T' := T0) (f' := (mkF m 7 #[rv xg, rv xc, .unset] [])) (fun _ k => XS.icmpNo X0.here hx rfl (D d17_4) rfl (teq hc198).2 k) ?_
    subst hc198
    obtain ⟨cl199, Ar199, qk199, S199, Ng199, H199, G199⟩ := id prem0
    obtain ⟨cl201, Ar201, qk201, S201, Ng201, H201, G201⟩ := id prem0
    have hin201 := inb_of (j := (0 : Int32)) S201 ⟨by decide, by decide⟩
    obtain ⟨cl202, Ar202, qk202, S202, Ng202, H202, G202⟩ := id prem1
    have hin202 := inb_of (j := (0 : Int32)) S202 ⟨by decide, by decide⟩
    refine Go.of (T' := T0) (f' := (mkF m 21 #[rv xg, rv xc, iv 0] [(.int 98), (.int (bs.getD 0 0))])) (fun _ k => XS.iconst X0.here hx rfl (D d17_7) (XS.istoreN X0.here hx rfl (D d17_8) rfl (l' := #[rv xg, rv xc, iv 0]) rfl (XS.iloadN X0.here hx rfl (D d17_9) rfl (XS.aloadN X0.here hx rfl (D d17_10) rfl rfl (X0.arraylength hx (by rw [e0]; exact Ar199.1) (State.isArrayOf_alike hZ.alike Ar199.2.1) (g := (mkF m 11 #[rv xg, rv xc, iv 0] [(.ref xg), (.int 0)])) rfl rfl (D d17_11) _ (by rw [len_of S199 Ng199]; exact (XS.icmpNo X0.here hx rfl (D d17_12) rfl (tlt (by decide : (0 : Int32) < (3 : Int32))).2.1 (XS.aloadN X0.here hx rfl (D d17_15) rfl rfl (XS.iloadN X0.here hx rfl (D d17_16) rfl (X0.baloadBytes hx (j := (0 : Int32)) (v := (.int (bs.getD 0 0))) (by rw [e0]; exact Ar201.1) (State.isArrayOf_alike hZ.alike Ar201.2.1) Ar201.2.2 hin201 (H201.at hin201 (own_mg bs 0)) (g := (mkF m 17 #[rv xg, rv xc, iv 0] [(.int 0), (.ref xg)])) rfl rfl (D d17_17) _ (XS.aloadN X0.here hx rfl (D d17_18) rfl rfl (XS.iloadN X0.here hx rfl (D d17_19) rfl (X0.baloadBytes hx (j := (0 : Int32)) (v := (.int 98)) (by rw [e0]; exact Ar202.1) (State.isArrayOf_alike hZ.alike Ar202.2.1) Ar202.2.2 hin202 (H202.at hin202 rfl) (g := (mkF m 20 #[rv xg, rv xc, iv 0] [(.int 0), (.ref xc), (.int (bs.getD 0 0))])) rfl rfl (D d17_20) _ k))))))))))))) ?_
    by_cases hc203 : (bs.getD 0 0) = (98 : Int32)
    · skip
      obtain ⟨cl204, Ar204, qk204, S204, Ng204, H204, G204⟩ := id prem0
      obtain ⟨cl206, Ar206, qk206, S206, Ng206, H206, G206⟩ := id prem0
      have hin206 := inb_of (j := (1 : Int32)) S206 ⟨by decide, by decide⟩
      obtain ⟨cl207, Ar207, qk207, S207, Ng207, H207, G207⟩ := id prem1
      have hin207 := inb_of (j := (1 : Int32)) S207 ⟨by decide, by decide⟩
      refine Go.of (T' := T0) (f' := (mkF m 21 #[rv xg, rv xc, iv 1] [(.int 97), (.int (bs.getD 1 0))])) (fun _ k => XS.icmpYes X0.here hx rfl (pc0 := 21) (pc' := 26) rfl (D d17_21) rfl (teq hc203).1 (by decide) (by decide) (XS.iinc X0.here hx rfl (D d17_26) rfl (l' := #[rv xg, rv xc, iv 1]) rfl (XS.goto X0.here hx rfl (pc0 := 29) (pc' := 9) rfl (D d17_29) (by decide) (by decide) (XS.iloadN X0.here hx rfl (D d17_9) rfl (XS.aloadN X0.here hx rfl (D d17_10) rfl rfl (X0.arraylength hx (by rw [e0]; exact Ar204.1) (State.isArrayOf_alike hZ.alike Ar204.2.1) (g := (mkF m 11 #[rv xg, rv xc, iv 1] [(.ref xg), (.int 1)])) rfl rfl (D d17_11) _ (by rw [len_of S204 Ng204]; exact (XS.icmpNo X0.here hx rfl (D d17_12) rfl (tlt (by decide : (1 : Int32) < (3 : Int32))).2.1 (XS.aloadN X0.here hx rfl (D d17_15) rfl rfl (XS.iloadN X0.here hx rfl (D d17_16) rfl (X0.baloadBytes hx (j := (1 : Int32)) (v := (.int (bs.getD 1 0))) (by rw [e0]; exact Ar206.1) (State.isArrayOf_alike hZ.alike Ar206.2.1) Ar206.2.2 hin206 (H206.at hin206 (own_mg bs 1)) (g := (mkF m 17 #[rv xg, rv xc, iv 1] [(.int 1), (.ref xg)])) rfl rfl (D d17_17) _ (XS.aloadN X0.here hx rfl (D d17_18) rfl rfl (XS.iloadN X0.here hx rfl (D d17_19) rfl (X0.baloadBytes hx (j := (1 : Int32)) (v := (.int 97)) (by rw [e0]; exact Ar207.1) (State.isArrayOf_alike hZ.alike Ar207.2.1) Ar207.2.2 hin207 (H207.at hin207 rfl) (g := (mkF m 20 #[rv xg, rv xc, iv 1] [(.int 1), (.ref xc), (.int (bs.getD 1 0))])) rfl rfl (D d17_20) _ k)))))))))))))) ?_
      by_cases hc208 : (bs.getD 1 0) = (97 : Int32)
      · skip
        obtain ⟨cl209, Ar209, qk209, S209, Ng209, H209, G209⟩ := id prem0
        obtain ⟨cl211, Ar211, qk211, S211, Ng211, H211, G211⟩ := id prem0
        have hin211 := inb_of (j := (2 : Int32)) S211 ⟨by decide, by decide⟩
        obtain ⟨cl212, Ar212, qk212, S212, Ng212, H212, G212⟩ := id prem1
        have hin212 := inb_of (j := (2 : Int32)) S212 ⟨by decide, by decide⟩
        refine Go.of (T' := T0) (f' := (mkF m 21 #[rv xg, rv xc, iv 2] [(.int 103), (.int (bs.getD 2 0))])) (fun _ k => XS.icmpYes X0.here hx rfl (pc0 := 21) (pc' := 26) rfl (D d17_21) rfl (teq hc208).1 (by decide) (by decide) (XS.iinc X0.here hx rfl (D d17_26) rfl (l' := #[rv xg, rv xc, iv 2]) rfl (XS.goto X0.here hx rfl (pc0 := 29) (pc' := 9) rfl (D d17_29) (by decide) (by decide) (XS.iloadN X0.here hx rfl (D d17_9) rfl (XS.aloadN X0.here hx rfl (D d17_10) rfl rfl (X0.arraylength hx (by rw [e0]; exact Ar209.1) (State.isArrayOf_alike hZ.alike Ar209.2.1) (g := (mkF m 11 #[rv xg, rv xc, iv 2] [(.ref xg), (.int 2)])) rfl rfl (D d17_11) _ (by rw [len_of S209 Ng209]; exact (XS.icmpNo X0.here hx rfl (D d17_12) rfl (tlt (by decide : (2 : Int32) < (3 : Int32))).2.1 (XS.aloadN X0.here hx rfl (D d17_15) rfl rfl (XS.iloadN X0.here hx rfl (D d17_16) rfl (X0.baloadBytes hx (j := (2 : Int32)) (v := (.int (bs.getD 2 0))) (by rw [e0]; exact Ar211.1) (State.isArrayOf_alike hZ.alike Ar211.2.1) Ar211.2.2 hin211 (H211.at hin211 (own_mg bs 2)) (g := (mkF m 17 #[rv xg, rv xc, iv 2] [(.int 2), (.ref xg)])) rfl rfl (D d17_17) _ (XS.aloadN X0.here hx rfl (D d17_18) rfl rfl (XS.iloadN X0.here hx rfl (D d17_19) rfl (X0.baloadBytes hx (j := (2 : Int32)) (v := (.int 103)) (by rw [e0]; exact Ar212.1) (State.isArrayOf_alike hZ.alike Ar212.2.1) Ar212.2.2 hin212 (H212.at hin212 rfl) (g := (mkF m 20 #[rv xg, rv xc, iv 2] [(.int 2), (.ref xc), (.int (bs.getD 2 0))])) rfl rfl (D d17_20) _ k)))))))))))))) ?_
        by_cases hc213 : (bs.getD 2 0) = (103 : Int32)
        · skip
          obtain ⟨cl214, Ar214, qk214, S214, Ng214, H214, G214⟩ := id prem0
          refine Go.of (T' := T0) (f' := (mkF m 33 #[rv xg, rv xc, iv 3] [(.int 1)])) (fun _ k => XS.icmpYes X0.here hx rfl (pc0 := 21) (pc' := 26) rfl (D d17_21) rfl (teq hc213).1 (by decide) (by decide) (XS.iinc X0.here hx rfl (D d17_26) rfl (l' := #[rv xg, rv xc, iv 3]) rfl (XS.goto X0.here hx rfl (pc0 := 29) (pc' := 9) rfl (D d17_29) (by decide) (by decide) (XS.iloadN X0.here hx rfl (D d17_9) rfl (XS.aloadN X0.here hx rfl (D d17_10) rfl rfl (X0.arraylength hx (by rw [e0]; exact Ar214.1) (State.isArrayOf_alike hZ.alike Ar214.2.1) (g := (mkF m 11 #[rv xg, rv xc, iv 3] [(.ref xg), (.int 3)])) rfl rfl (D d17_11) _ (by rw [len_of S214 Ng214]; exact (XS.icmpYes X0.here hx rfl (pc0 := 12) (pc' := 32) rfl (D d17_12) rfl (flt (by decide : ¬ ((3 : Int32) < (3 : Int32)))).2.1 (by decide) (by decide) (XS.iconst X0.here hx rfl (D d17_32) k))))))))) ?_
          exact Go.retB X0 hx hlk hret (by simp) (D d17_33) (by decide) (by decide) (z' := (1 : Int32)) rfl (by rw [e0]; exact ⟨by rw [own_eq_bag, if_pos rfl, if_pos hc203, if_pos hc208, if_pos hc213], rfl, by simp⟩)
        · skip
          refine Go.of (T' := T0) (f' := (mkF m 25 #[rv xg, rv xc, iv 2] [(.int 0)])) (fun _ k => XS.icmpNo X0.here hx rfl (D d17_21) rfl (feq hc213).1 (XS.iconst X0.here hx rfl (D d17_24) k)) ?_
          exact Go.retB X0 hx hlk hret (by simp) (D d17_25) (by decide) (by decide) (z' := (0 : Int32)) rfl (by rw [e0]; exact ⟨by rw [own_eq_bag, if_pos rfl, if_pos hc203, if_pos hc208, if_neg hc213], rfl, by simp⟩)
      · skip
        refine Go.of (T' := T0) (f' := (mkF m 25 #[rv xg, rv xc, iv 1] [(.int 0)])) (fun _ k => XS.icmpNo X0.here hx rfl (D d17_21) rfl (feq hc208).1 (XS.iconst X0.here hx rfl (D d17_24) k)) ?_
        exact Go.retB X0 hx hlk hret (by simp) (D d17_25) (by decide) (by decide) (z' := (0 : Int32)) rfl (by rw [e0]; exact ⟨by rw [own_eq_bag, if_pos rfl, if_pos hc203, if_neg hc208], rfl, by simp⟩)
    · skip
      refine Go.of (T' := T0) (f' := (mkF m 25 #[rv xg, rv xc, iv 0] [(.int 0)])) (fun _ k => XS.icmpNo X0.here hx rfl (D d17_21) rfl (feq hc203).1 (XS.iconst X0.here hx rfl (D d17_24) k)) ?_
      exact Go.retB X0 hx hlk hret (by simp) (D d17_25) (by decide) (by decide) (z' := (0 : Int32)) rfl (by rw [e0]; exact ⟨by rw [own_eq_bag, if_pos rfl, if_neg hc203], rfl, by simp⟩)
  · skip
    refine Go.of (T' := T0) (f' := (mkF m 35 #[rv xg, rv xc, .unset] [(.int 0)])) (fun _ k => XS.icmpYes X0.here hx rfl (pc0 := 4) (pc' := 34) rfl (D d17_4) rfl (feq hc198).2 (by decide) (by decide) (XS.iconst X0.here hx rfl (D d17_34) k)) ?_
    exact Go.retB X0 hx hlk hret (by simp) (D d17_35) (by decide) (by decide) (z' := (0 : Int32)) rfl (by rw [e0]; exact ⟨by rw [own_eq_bag, if_neg hc198], rfl, by simp⟩)
theorem ef_rm_l1n_bag (m : MethodId) (xc : Addr) (xg : Addr) : entryFrame m #[(.ref xc), (.ref xg)] 3 = mkF m 0 #[rv xc, rv xg, .unset] [] := by first | (simp [entryFrame, mkF, argsToLocals, Value.category]; done) | rfl
set_option maxRecDepth 65536 in
set_option maxHeartbeats 40000000 in
theorem rm_l1n_bag {l : Launch} {Z : State} {a0 : Array Value} {A : Nat → Addr} {KC : Nat → Cell} {IC : Nat → Int32} {VC : Nat → Value} (hw : ∀ d ∈ tables_1, d.before a0 Z = true) (G : own_Ctx Z A KC IC VC) (xc : Addr) (xg : Addr) (kg : ClassId) (kc : ClassId) (n : Int32) (bs : List Int32) (h0 : Heap) (O0 : Ext Z.heap h0) (prem0 : Arv Z h0 xg kg .byte n (bs.map Value.int) (.int (0 : Int32))) (prem1 : Arv Z h0 xc kc .byte (3 : Int32) [(.int (98 : Int32)), (.int (97 : Int32)), (.int (103 : Int32))] (.int (0 : Int32))) :
    Ok l Z own_m14 jdk_43_method_13_code 3 (some .boolean) ({ frames := 0, cells := 0, slots := 0, locals := 0 } : Room) #[(.ref xc), (.ref xg)] h0
      (fun v h L => v = some (.int (own_eq_bag n bs)) ∧ (h = h0) ∧ (L = [])) := by
  refine Ok.mk pn15 ?_
  intro p e s m below meth c T0 hx hby hml hown hnm hret hlk hZ e0 X0
  refine Go.cast (ef_rm_l1n_bag m xc xg) ?_
  have D := @hb _ _ hby
  have N0 := Fr.nil Z.heap.size
  have K0 : Keep h0 h0 [] := Keep.refl _ _
  obtain ⟨cl216, Ar216, qk216, S216, Ng216, H216, G216⟩ := id prem1
  obtain ⟨cl217, Ar217, qk217, S217, Ng217, H217, G217⟩ := id prem0
  refine Go.of (T' := T0) (f' := (mkF m 4 #[rv xc, rv xg, .unset] [(.int n), (.int 3)])) (fun _ k => XS.aloadN X0.here hx rfl (D d17_0) rfl rfl (X0.arraylength hx (by rw [e0]; exact Ar216.1) (State.isArrayOf_alike hZ.alike Ar216.2.1) (g := (mkF m 1 #[rv xc, rv xg, .unset] [(.ref xc)])) rfl rfl (D d17_1) _ (by rw [len_of S216 Ng216]; exact (XS.aloadN X0.here hx rfl (D d17_2) rfl rfl (X0.arraylength hx (by rw [e0]; exact Ar217.1) (State.isArrayOf_alike hZ.alike Ar217.2.1) (g := (mkF m 3 #[rv xc, rv xg, .unset] [(.ref xg), (.int 3)])) rfl rfl (D d17_3) _ (by rw [len_of S217 Ng217]; exact k)))))) ?_
  by_cases hc218 : (3 : Int32) = n
  · skip
    refine Go.of (T' := T0) (f' := (mkF m 7 #[rv xc, rv xg, .unset] [])) (fun _ k => XS.icmpNo X0.here hx rfl (D d17_4) rfl (teq hc218).2 k) ?_
    subst hc218
    obtain ⟨cl219, Ar219, qk219, S219, Ng219, H219, G219⟩ := id prem1
    obtain ⟨cl221, Ar221, qk221, S221, Ng221, H221, G221⟩ := id prem1
    have hin221 := inb_of (j := (0 : Int32)) S221 ⟨by decide, by decide⟩
    obtain ⟨cl222, Ar222, qk222, S222, Ng222, H222, G222⟩ := id prem0
    have hin222 := inb_of (j := (0 : Int32)) S222 ⟨by decide, by decide⟩
    refine Go.of (T' := T0) (f' := (mkF m 21 #[rv xc, rv xg, iv 0] [(.int (bs.getD 0 0)), (.int 98)])) (fun _ k => XS.iconst X0.here hx rfl (D d17_7) (XS.istoreN X0.here hx rfl (D d17_8) rfl (l' := #[rv xc, rv xg, iv 0]) rfl (XS.iloadN X0.here hx rfl (D d17_9) rfl (XS.aloadN X0.here hx rfl (D d17_10) rfl rfl (X0.arraylength hx (by rw [e0]; exact Ar219.1) (State.isArrayOf_alike hZ.alike Ar219.2.1) (g := (mkF m 11 #[rv xc, rv xg, iv 0] [(.ref xc), (.int 0)])) rfl rfl (D d17_11) _ (by rw [len_of S219 Ng219]; exact (XS.icmpNo X0.here hx rfl (D d17_12) rfl (tlt (by decide : (0 : Int32) < (3 : Int32))).2.1 (XS.aloadN X0.here hx rfl (D d17_15) rfl rfl (XS.iloadN X0.here hx rfl (D d17_16) rfl (X0.baloadBytes hx (j := (0 : Int32)) (v := (.int 98)) (by rw [e0]; exact Ar221.1) (State.isArrayOf_alike hZ.alike Ar221.2.1) Ar221.2.2 hin221 (H221.at hin221 rfl) (g := (mkF m 17 #[rv xc, rv xg, iv 0] [(.int 0), (.ref xc)])) rfl rfl (D d17_17) _ (XS.aloadN X0.here hx rfl (D d17_18) rfl rfl (XS.iloadN X0.here hx rfl (D d17_19) rfl (X0.baloadBytes hx (j := (0 : Int32)) (v := (.int (bs.getD 0 0))) (by rw [e0]; exact Ar222.1) (State.isArrayOf_alike hZ.alike Ar222.2.1) Ar222.2.2 hin222 (H222.at hin222 (own_mg bs 0)) (g := (mkF m 20 #[rv xc, rv xg, iv 0] [(.int 0), (.ref xg), (.int 98)])) rfl rfl (D d17_20) _ k))))))))))))) ?_
    by_cases hc223 : (98 : Int32) = (bs.getD 0 0)
    · skip
      obtain ⟨cl224, Ar224, qk224, S224, Ng224, H224, G224⟩ := id prem1
      obtain ⟨cl226, Ar226, qk226, S226, Ng226, H226, G226⟩ := id prem1
      have hin226 := inb_of (j := (1 : Int32)) S226 ⟨by decide, by decide⟩
      obtain ⟨cl227, Ar227, qk227, S227, Ng227, H227, G227⟩ := id prem0
      have hin227 := inb_of (j := (1 : Int32)) S227 ⟨by decide, by decide⟩
      refine Go.of (T' := T0) (f' := (mkF m 21 #[rv xc, rv xg, iv 1] [(.int (bs.getD 1 0)), (.int 97)])) (fun _ k => XS.icmpYes X0.here hx rfl (pc0 := 21) (pc' := 26) rfl (D d17_21) rfl (teq hc223).1 (by decide) (by decide) (XS.iinc X0.here hx rfl (D d17_26) rfl (l' := #[rv xc, rv xg, iv 1]) rfl (XS.goto X0.here hx rfl (pc0 := 29) (pc' := 9) rfl (D d17_29) (by decide) (by decide) (XS.iloadN X0.here hx rfl (D d17_9) rfl (XS.aloadN X0.here hx rfl (D d17_10) rfl rfl (X0.arraylength hx (by rw [e0]; exact Ar224.1) (State.isArrayOf_alike hZ.alike Ar224.2.1) (g := (mkF m 11 #[rv xc, rv xg, iv 1] [(.ref xc), (.int 1)])) rfl rfl (D d17_11) _ (by rw [len_of S224 Ng224]; exact (XS.icmpNo X0.here hx rfl (D d17_12) rfl (tlt (by decide : (1 : Int32) < (3 : Int32))).2.1 (XS.aloadN X0.here hx rfl (D d17_15) rfl rfl (XS.iloadN X0.here hx rfl (D d17_16) rfl (X0.baloadBytes hx (j := (1 : Int32)) (v := (.int 97)) (by rw [e0]; exact Ar226.1) (State.isArrayOf_alike hZ.alike Ar226.2.1) Ar226.2.2 hin226 (H226.at hin226 rfl) (g := (mkF m 17 #[rv xc, rv xg, iv 1] [(.int 1), (.ref xc)])) rfl rfl (D d17_17) _ (XS.aloadN X0.here hx rfl (D d17_18) rfl rfl (XS.iloadN X0.here hx rfl (D d17_19) rfl (X0.baloadBytes hx (j := (1 : Int32)) (v := (.int (bs.getD 1 0))) (by rw [e0]; exact Ar227.1) (State.isArrayOf_alike hZ.alike Ar227.2.1) Ar227.2.2 hin227 (H227.at hin227 (own_mg bs 1)) (g := (mkF m 20 #[rv xc, rv xg, iv 1] [(.int 1), (.ref xg), (.int 97)])) rfl rfl (D d17_20) _ k)))))))))))))) ?_
      by_cases hc228 : (97 : Int32) = (bs.getD 1 0)
      · skip
        obtain ⟨cl229, Ar229, qk229, S229, Ng229, H229, G229⟩ := id prem1
        obtain ⟨cl231, Ar231, qk231, S231, Ng231, H231, G231⟩ := id prem1
        have hin231 := inb_of (j := (2 : Int32)) S231 ⟨by decide, by decide⟩
        obtain ⟨cl232, Ar232, qk232, S232, Ng232, H232, G232⟩ := id prem0
        have hin232 := inb_of (j := (2 : Int32)) S232 ⟨by decide, by decide⟩
        refine Go.of (T' := T0) (f' := (mkF m 21 #[rv xc, rv xg, iv 2] [(.int (bs.getD 2 0)), (.int 103)])) (fun _ k => XS.icmpYes X0.here hx rfl (pc0 := 21) (pc' := 26) rfl (D d17_21) rfl (teq hc228).1 (by decide) (by decide) (XS.iinc X0.here hx rfl (D d17_26) rfl (l' := #[rv xc, rv xg, iv 2]) rfl (XS.goto X0.here hx rfl (pc0 := 29) (pc' := 9) rfl (D d17_29) (by decide) (by decide) (XS.iloadN X0.here hx rfl (D d17_9) rfl (XS.aloadN X0.here hx rfl (D d17_10) rfl rfl (X0.arraylength hx (by rw [e0]; exact Ar229.1) (State.isArrayOf_alike hZ.alike Ar229.2.1) (g := (mkF m 11 #[rv xc, rv xg, iv 2] [(.ref xc), (.int 2)])) rfl rfl (D d17_11) _ (by rw [len_of S229 Ng229]; exact (XS.icmpNo X0.here hx rfl (D d17_12) rfl (tlt (by decide : (2 : Int32) < (3 : Int32))).2.1 (XS.aloadN X0.here hx rfl (D d17_15) rfl rfl (XS.iloadN X0.here hx rfl (D d17_16) rfl (X0.baloadBytes hx (j := (2 : Int32)) (v := (.int 103)) (by rw [e0]; exact Ar231.1) (State.isArrayOf_alike hZ.alike Ar231.2.1) Ar231.2.2 hin231 (H231.at hin231 rfl) (g := (mkF m 17 #[rv xc, rv xg, iv 2] [(.int 2), (.ref xc)])) rfl rfl (D d17_17) _ (XS.aloadN X0.here hx rfl (D d17_18) rfl rfl (XS.iloadN X0.here hx rfl (D d17_19) rfl (X0.baloadBytes hx (j := (2 : Int32)) (v := (.int (bs.getD 2 0))) (by rw [e0]; exact Ar232.1) (State.isArrayOf_alike hZ.alike Ar232.2.1) Ar232.2.2 hin232 (H232.at hin232 (own_mg bs 2)) (g := (mkF m 20 #[rv xc, rv xg, iv 2] [(.int 2), (.ref xg), (.int 103)])) rfl rfl (D d17_20) _ k)))))))))))))) ?_
        by_cases hc233 : (103 : Int32) = (bs.getD 2 0)
        · skip
          obtain ⟨cl234, Ar234, qk234, S234, Ng234, H234, G234⟩ := id prem1
          refine Go.of (T' := T0) (f' := (mkF m 33 #[rv xc, rv xg, iv 3] [(.int 1)])) (fun _ k => XS.icmpYes X0.here hx rfl (pc0 := 21) (pc' := 26) rfl (D d17_21) rfl (teq hc233).1 (by decide) (by decide) (XS.iinc X0.here hx rfl (D d17_26) rfl (l' := #[rv xc, rv xg, iv 3]) rfl (XS.goto X0.here hx rfl (pc0 := 29) (pc' := 9) rfl (D d17_29) (by decide) (by decide) (XS.iloadN X0.here hx rfl (D d17_9) rfl (XS.aloadN X0.here hx rfl (D d17_10) rfl rfl (X0.arraylength hx (by rw [e0]; exact Ar234.1) (State.isArrayOf_alike hZ.alike Ar234.2.1) (g := (mkF m 11 #[rv xc, rv xg, iv 3] [(.ref xc), (.int 3)])) rfl rfl (D d17_11) _ (by rw [len_of S234 Ng234]; exact (XS.icmpYes X0.here hx rfl (pc0 := 12) (pc' := 32) rfl (D d17_12) rfl (flt (by decide : ¬ ((3 : Int32) < (3 : Int32)))).2.1 (by decide) (by decide) (XS.iconst X0.here hx rfl (D d17_32) k))))))))) ?_
          exact Go.retB X0 hx hlk hret (by simp) (D d17_33) (by decide) (by decide) (z' := (1 : Int32)) rfl (by rw [e0]; exact ⟨by rw [own_eq_bag, if_pos rfl, if_pos hc223.symm, if_pos hc228.symm, if_pos hc233.symm], rfl, by simp⟩)
        · skip
          refine Go.of (T' := T0) (f' := (mkF m 25 #[rv xc, rv xg, iv 2] [(.int 0)])) (fun _ k => XS.icmpNo X0.here hx rfl (D d17_21) rfl (feq hc233).1 (XS.iconst X0.here hx rfl (D d17_24) k)) ?_
          exact Go.retB X0 hx hlk hret (by simp) (D d17_25) (by decide) (by decide) (z' := (0 : Int32)) rfl (by rw [e0]; exact ⟨by rw [own_eq_bag, if_pos rfl, if_pos hc223.symm, if_pos hc228.symm, if_neg (fun q => hc233 q.symm)], rfl, by simp⟩)
      · skip
        refine Go.of (T' := T0) (f' := (mkF m 25 #[rv xc, rv xg, iv 1] [(.int 0)])) (fun _ k => XS.icmpNo X0.here hx rfl (D d17_21) rfl (feq hc228).1 (XS.iconst X0.here hx rfl (D d17_24) k)) ?_
        exact Go.retB X0 hx hlk hret (by simp) (D d17_25) (by decide) (by decide) (z' := (0 : Int32)) rfl (by rw [e0]; exact ⟨by rw [own_eq_bag, if_pos rfl, if_pos hc223.symm, if_neg (fun q => hc228 q.symm)], rfl, by simp⟩)
    · skip
      refine Go.of (T' := T0) (f' := (mkF m 25 #[rv xc, rv xg, iv 0] [(.int 0)])) (fun _ k => XS.icmpNo X0.here hx rfl (D d17_21) rfl (feq hc223).1 (XS.iconst X0.here hx rfl (D d17_24) k)) ?_
      exact Go.retB X0 hx hlk hret (by simp) (D d17_25) (by decide) (by decide) (z' := (0 : Int32)) rfl (by rw [e0]; exact ⟨by rw [own_eq_bag, if_pos rfl, if_neg (fun q => hc223 q.symm)], rfl, by simp⟩)
  · skip
    refine Go.of (T' := T0) (f' := (mkF m 35 #[rv xc, rv xg, .unset] [(.int 0)])) (fun _ k => XS.icmpYes X0.here hx rfl (pc0 := 4) (pc' := 34) rfl (D d17_4) rfl (feq hc218).2 (by decide) (by decide) (XS.iconst X0.here hx rfl (D d17_34) k)) ?_
    exact Go.retB X0 hx hlk hret (by simp) (D d17_35) (by decide) (by decide) (z' := (0 : Int32)) rfl (by rw [e0]; exact ⟨by rw [own_eq_bag, if_neg (fun q => hc218 q.symm)], rfl, by simp⟩)
theorem ef_rm_eqg_bag (m : MethodId) (so : Addr) (cb : Addr) : entryFrame m #[(.ref so), (.ref cb)] 3 = mkF m 0 #[rv so, rv cb, .unset] [] := by first | (simp [entryFrame, mkF, argsToLocals, Value.category]; done) | rfl
set_option maxRecDepth 65536 in
set_option maxHeartbeats 40000000 in
theorem rm_eqg_bag {l : Launch} {Z : State} {a0 : Array Value} {A : Nat → Addr} {KC : Nat → Cell} {IC : Nat → Int32} {VC : Nat → Value} (hw : ∀ d ∈ tables_1, d.before a0 Z = true) (G : own_Ctx Z A KC IC VC) (so : Addr) (cb : Addr) (sv : Addr) (kg : ClassId) (n : Int32) (bs : List Int32) (vb : Addr) (kc : ClassId) (vq : Int32) (h0 : Heap) (O0 : Ext Z.heap h0) (prem0 : Exa Z h0 so "java/lang/String") (prem1 : Fld Z h0 so "java/lang/String" "value" "[B" (.ref sv)) (prem2 : Fld Z h0 so "java/lang/String" "coder" "B" (.int (0 : Int32))) (prem3 : Arv Z h0 sv kg .byte n (bs.map Value.int) (.int (0 : Int32))) (prem4 : Exa Z h0 cb "java/lang/String") (prem5 : Fld Z h0 cb "java/lang/String" "coder" "B" (.int (0 : Int32))) (prem6 : Fld Z h0 cb "java/lang/String" "value" "[B" (.ref vb)) (prem7 : Arv Z h0 vb kc .byte (3 : Int32) [(.int (98 : Int32)), (.int (97 : Int32)), (.int (103 : Int32))] (.int (0 : Int32))) (prem8 : own_eq_bag n bs = vq) :
    Ok l Z own_m17 jdk_42_method_66_code 3 (some .boolean) ({ frames := 1, cells := 0, slots := 0, locals := 14 } : Room) #[(.ref so), (.ref cb)] h0
      (fun v h L => v = some (.int vq) ∧ (h = h0) ∧ (L = [])) := by
  refine Ok.mk pn18 ?_
  intro p e s m below meth c T0 hx hby hml hown hnm hret hlk hZ e0 X0
  refine Go.cast (ef_rm_eqg_bag m so cb) ?_
  obtain ⟨-, -, -, -, -, -, -, -, -, -, -, -, -, -, -, -, -, -, -, -, -, -, -, -, -, -, -, -, -, -, -, -, S_COMPACT_STRINGS, hne_s_COMPACT_STRINGS_0, -⟩ := id G
  have D := @hb _ _ hby
  have N0 := Fr.nil Z.heap.size
  have K0 : Keep h0 h0 [] := Keep.refl _ _
  refine Go.of (T' := T0) (f' := (mkF m 2 #[rv so, rv cb, .unset] [(.ref cb), (.ref so)])) (fun _ k => XS.aloadN X0.here hx rfl (D d16_0) rfl rfl (XS.aloadN X0.here hx rfl (D d16_1) rfl rfl k)) ?_
  by_cases hc236 : so = cb
  · skip
    refine Go.of (T' := T0) (f' := (mkF m 6 #[rv so, rv cb, .unset] [(.int 1)])) (fun _ k => Jvm.RoadKit.acmp (g := (mkF m 2 #[rv so, rv cb, .unset] [(.ref cb), (.ref so)])) X0 hx rfl rfl rfl (pc0 := 2) (pc' := 5) (same := true) rfl (D d16_2) rfl (decide_eq_true (congrArg Value.ref hc236)) (by decide) (by decide) (XS.iconst X0.here hx rfl (D d16_5) k)) ?_
    exact Go.retB X0 hx hlk hret (by simp) (D d16_6) (by decide) (by decide) (z' := (1 : Int32)) rfl (by rw [e0]; exact ⟨congrArg (fun z => some (Value.int z)) ((own_idt_bag hc236 prem1 prem6 prem3 prem7 : own_eq_bag n bs = 1).symm.trans prem8), rfl, by simp⟩)
  · skip
    obtain ⟨T237, X237, e237, st237⟩ := instY X0 hx hZ hown (own_w hw (i := 100) rfl) e0 (Ins.self prem4) (g := (mkF m 8 #[rv so, rv cb, .unset] [(.ref cb)])) rfl rfl (D d16_8)
    obtain ⟨T239, X239, e239, st239⟩ := castY X237 hx hZ hown (own_w hw (i := 100) rfl) e237 (Ins.self prem4) (g := (mkF m 15 #[rv so, rv cb, .unset] [(.ref cb)])) rfl rfl (D d16_15)
    obtain ⟨T240, X240, e240, st240⟩ := getS2 X239 hx hZ hown (host := "") (Or.inl (own_w hw (i := 20) rfl)) Via.refl e239 (Sta.ext O0 S_COMPACT_STRINGS) (g := (mkF m 19 #[rv so, rv cb, rv cb] [])) rfl (D d16_19)
    have hc241 : ¬ ((IC 0) = (0 : Int32)) := hne_s_COMPACT_STRINGS_0
    obtain ⟨T242, X242, e242, st242⟩ := getF X240 hx hZ hown (host := "") (Or.inl (own_w hw (i := 21) rfl)) Via.refl e240 prem2 (g := (mkF m 26 #[rv so, rv cb, rv cb] [(.ref so)])) rfl rfl (D d16_26)
    obtain ⟨T243, X243, e243, st243⟩ := getF X242 hx hZ hown (host := "") (Or.inl (own_w hw (i := 21) rfl)) Via.refl e242 prem5 (g := (mkF m 30 #[rv so, rv cb, rv cb] [(.ref cb), (.int 0)])) rfl rfl (D d16_30)
    obtain ⟨T245, X245, e245, st245⟩ := getF X243 hx hZ hown (host := "") (Or.inl (own_w hw (i := 14) rfl)) Via.refl e243 prem1 (g := (mkF m 37 #[rv so, rv cb, rv cb] [(.ref so)])) rfl rfl (D d16_37)
    obtain ⟨T246, X246, e246, st246⟩ := getF X245 hx hZ hown (host := "") (Or.inl (own_w hw (i := 14) rfl)) Via.refl e245 prem6 (g := (mkF m 41 #[rv so, rv cb, rv cb] [(.ref cb), (.ref sv)])) rfl rfl (D d16_41)
    obtain ⟨T247, v247, L247, X247, q247, st247⟩ := callSt X246 hx hZ (y := own_m14) hown (own_w hw (i := 101) rfl) (own_w hw (i := 102) rfl) (own_w hw (i := 34) rfl) (own_w hw (i := 103) rfl) (by decide) (rm_l1g_bag hw G sv vb kg kc n bs h0 O0 prem3 prem7) e246 (W := 0) (by decide) (by decide) (by decide) (by decide) (g := (mkF m 44 #[rv so, rv cb, rv cb] [(.ref vb), (.ref sv)])) rfl (by rw [hml]; rfl) (argsL := [(.ref sv), (.ref vb)]) (rest := []) (lenOf pd16 rfl) rfl rfl (Nat.le_of_eq rfl) (D d16_44)
    obtain ⟨rfl, e247, rfl⟩ := q247
    have N247 := Fr.app N0 (Fr.nil _)
    refine Go.of (T' := T247) (f' := (mkF m 47 #[rv so, rv cb, rv cb] [(.int (own_eq_bag n bs))])) (fun _ k => Jvm.RoadKit.acmp (g := (mkF m 2 #[rv so, rv cb, .unset] [(.ref cb), (.ref so)])) X0 hx rfl rfl rfl (pc0 := 2) (pc' := 7) (same := false) rfl (D d16_2) rfl (decide_eq_false fun q => hc236 (Value.ref.inj q)) (by decide) (by decide) (XS.aloadN X0.here hx rfl (D d16_7) rfl rfl (st237 _ (XS.ifNo X237.here hx rfl (D d16_11) rfl ((if0 _ _).trans (feq (by decide : ¬ ((1 : Int32) = (0 : Int32)))).1) (XS.aloadN X237.here hx rfl (D d16_14) rfl rfl (st239 _ (XS.astoreN X239.here hx rfl (D d16_18) rfl rfl (l' := #[rv so, rv cb, rv cb]) rfl (st240 _ (XS.ifNo X240.here hx rfl (D d16_22) rfl ((if0 _ _).trans (feq hc241).1) (XS.aloadN X240.here hx rfl (D d16_25) rfl rfl (st242 _ (XS.aloadN X242.here hx rfl (D d16_29) rfl rfl (st243 _ (XS.icmpNo X243.here hx rfl (D d16_33) rfl (teq (by decide : (0 : Int32) = (0 : Int32))).2 (XS.aloadN X243.here hx rfl (D d16_36) rfl rfl (st245 _ (XS.aloadN X245.here hx rfl (D d16_40) rfl rfl (st246 _ (st247 _ k))))))))))))))))))) ?_
    by_cases hc248 : (own_eq_bag n bs) = (0 : Int32)
    · skip
      refine Go.of (T' := T247) (f' := (mkF m 55 #[rv so, rv cb, rv cb] [(.int 0)])) (fun _ k => XS.ifYes X247.here hx rfl (pc0 := 47) (pc' := 54) rfl (D d16_47) rfl ((if0 _ _).trans (teq hc248).1) (by decide) (by decide) (XS.iconst X247.here hx rfl (D d16_54) k)) ?_
      exact Go.retB X247 hx hlk hret (by simp) (D d16_55) (by decide) (by decide) (z' := (0 : Int32)) rfl (by rw [e247]; exact ⟨congrArg (fun z => some (Value.int z)) ((hc248 : own_eq_bag n bs = 0).symm.trans prem8), rfl, by simp⟩)
    · skip
      refine Go.of (T' := T247) (f' := (mkF m 55 #[rv so, rv cb, rv cb] [(.int 1)])) (fun _ k => XS.ifNo X247.here hx rfl (D d16_47) rfl ((if0 _ _).trans (feq hc248).1) (XS.iconst X247.here hx rfl (D d16_50) (XS.goto X247.here hx rfl (pc0 := 51) (pc' := 55) rfl (D d16_51) (by decide) (by decide) k))) ?_
      exact Go.retB X247 hx hlk hret (by simp) (D d16_55) (by decide) (by decide) (z' := (1 : Int32)) rfl (by rw [e247]; exact ⟨congrArg (fun z => some (Value.int z)) (((Classical.byContradiction fun q => hc248 (own_01_bag q)) : own_eq_bag n bs = 1).symm.trans prem8), rfl, by simp⟩)
theorem ef_rm_eqn_bag (m : MethodId) {A : Nat → Addr} (so : Addr) : entryFrame m #[(.ref (A 10)), (.ref so)] 3 = mkF m 0 #[rv (A 10), rv so, .unset] [] := by first | (simp [entryFrame, mkF, argsToLocals, Value.category]; done) | rfl
set_option maxRecDepth 65536 in
set_option maxHeartbeats 40000000 in
theorem rm_eqn_bag {l : Launch} {Z : State} {a0 : Array Value} {A : Nat → Addr} {KC : Nat → Cell} {IC : Nat → Int32} {VC : Nat → Value} (hw : ∀ d ∈ tables_1, d.before a0 Z = true) (G : own_Ctx Z A KC IC VC) (so : Addr) (sv : Addr) (kg : ClassId) (n : Int32) (bs : List Int32) (vq : Int32) (h0 : Heap) (O0 : Ext Z.heap h0) (prem0 : Exa Z h0 so "java/lang/String") (prem1 : Fld Z h0 so "java/lang/String" "value" "[B" (.ref sv)) (prem2 : Fld Z h0 so "java/lang/String" "coder" "B" (.int (0 : Int32))) (prem3 : Arv Z h0 sv kg .byte n (bs.map Value.int) (.int (0 : Int32))) (prem4 : own_eq_bag n bs = vq) :
    Ok l Z own_m17 jdk_42_method_66_code 3 (some .boolean) ({ frames := 1, cells := 0, slots := 0, locals := 14 } : Room) #[(.ref (A 10)), (.ref so)] h0
      (fun v h L => v = some (.int vq) ∧ (h = h0) ∧ (L = [])) := by
  refine Ok.mk pn18 ?_
  intro p e s m below meth c T0 hx hby hml hown hnm hret hlk hZ e0 X0
  refine Go.cast (ef_rm_eqn_bag m so) ?_
  obtain ⟨-, -, -, -, -, -, -, -, -, -, -, -, -, -, -, -, -, -, -, -, -, -, F_s_BAG_elementName_coder, F_s_BAG_elementName_value, -, -, -, -, -, -, -, -, S_COMPACT_STRINGS, hne_s_COMPACT_STRINGS_0, -, -, -, V_s_BAG_elementName_value, -⟩ := id G
  have D := @hb _ _ hby
  have N0 := Fr.nil Z.heap.size
  have K0 : Keep h0 h0 [] := Keep.refl _ _
  refine Go.of (T' := T0) (f' := (mkF m 2 #[rv (A 10), rv so, .unset] [(.ref so), (.ref (A 10))])) (fun _ k => XS.aloadN X0.here hx rfl (D d16_0) rfl rfl (XS.aloadN X0.here hx rfl (D d16_1) rfl rfl k)) ?_
  by_cases hc249 : (A 10) = so
  · skip
    refine Go.of (T' := T0) (f' := (mkF m 6 #[rv (A 10), rv so, .unset] [(.int 1)])) (fun _ k => Jvm.RoadKit.acmp (g := (mkF m 2 #[rv (A 10), rv so, .unset] [(.ref so), (.ref (A 10))])) X0 hx rfl rfl rfl (pc0 := 2) (pc' := 5) (same := true) rfl (D d16_2) rfl (decide_eq_true (congrArg Value.ref hc249)) (by decide) (by decide) (XS.iconst X0.here hx rfl (D d16_5) k)) ?_
    exact Go.retB X0 hx hlk hret (by simp) (D d16_6) (by decide) (by decide) (z' := (1 : Int32)) rfl (by rw [e0]; exact ⟨congrArg (fun z => some (Value.int z)) ((own_idt_bag (Eq.symm hc249) prem1 (Fld.ext O0 F_s_BAG_elementName_value) prem3 (Arv.ext V_s_BAG_elementName_value O0) : own_eq_bag n bs = 1).symm.trans prem4), rfl, by simp⟩)
  · skip
    obtain ⟨T250, X250, e250, st250⟩ := instY X0 hx hZ hown (own_w hw (i := 100) rfl) e0 (Ins.self prem0) (g := (mkF m 8 #[rv (A 10), rv so, .unset] [(.ref so)])) rfl rfl (D d16_8)
    obtain ⟨T252, X252, e252, st252⟩ := castY X250 hx hZ hown (own_w hw (i := 100) rfl) e250 (Ins.self prem0) (g := (mkF m 15 #[rv (A 10), rv so, .unset] [(.ref so)])) rfl rfl (D d16_15)
    obtain ⟨T253, X253, e253, st253⟩ := getS2 X252 hx hZ hown (host := "") (Or.inl (own_w hw (i := 20) rfl)) Via.refl e252 (Sta.ext O0 S_COMPACT_STRINGS) (g := (mkF m 19 #[rv (A 10), rv so, rv so] [])) rfl (D d16_19)
    have hc254 : ¬ ((IC 0) = (0 : Int32)) := hne_s_COMPACT_STRINGS_0
    obtain ⟨T255, X255, e255, st255⟩ := getF X253 hx hZ hown (host := "") (Or.inl (own_w hw (i := 21) rfl)) Via.refl e253 (Fld.ext O0 F_s_BAG_elementName_coder) (g := (mkF m 26 #[rv (A 10), rv so, rv so] [(.ref (A 10))])) rfl rfl (D d16_26)
    obtain ⟨T256, X256, e256, st256⟩ := getF X255 hx hZ hown (host := "") (Or.inl (own_w hw (i := 21) rfl)) Via.refl e255 prem2 (g := (mkF m 30 #[rv (A 10), rv so, rv so] [(.ref so), (.int 0)])) rfl rfl (D d16_30)
    obtain ⟨T258, X258, e258, st258⟩ := getF X256 hx hZ hown (host := "") (Or.inl (own_w hw (i := 14) rfl)) Via.refl e256 (Fld.ext O0 F_s_BAG_elementName_value) (g := (mkF m 37 #[rv (A 10), rv so, rv so] [(.ref (A 10))])) rfl rfl (D d16_37)
    obtain ⟨T259, X259, e259, st259⟩ := getF X258 hx hZ hown (host := "") (Or.inl (own_w hw (i := 14) rfl)) Via.refl e258 prem1 (g := (mkF m 41 #[rv (A 10), rv so, rv so] [(.ref so), (.ref (A 11))])) rfl rfl (D d16_41)
    obtain ⟨T260, v260, L260, X260, q260, st260⟩ := callSt X259 hx hZ (y := own_m14) hown (own_w hw (i := 101) rfl) (own_w hw (i := 102) rfl) (own_w hw (i := 34) rfl) (own_w hw (i := 103) rfl) (by decide) (rm_l1n_bag hw G ((A 11)) sv kg ((KC 3).cls) n bs h0 O0 prem3 (Arv.ext V_s_BAG_elementName_value O0)) e259 (W := 0) (by decide) (by decide) (by decide) (by decide) (g := (mkF m 44 #[rv (A 10), rv so, rv so] [(.ref sv), (.ref (A 11))])) rfl (by rw [hml]; rfl) (argsL := [(.ref (A 11)), (.ref sv)]) (rest := []) (lenOf pd16 rfl) rfl rfl (Nat.le_of_eq rfl) (D d16_44)
    obtain ⟨rfl, e260, rfl⟩ := q260
    have N260 := Fr.app N0 (Fr.nil _)
    refine Go.of (T' := T260) (f' := (mkF m 47 #[rv (A 10), rv so, rv so] [(.int (own_eq_bag n bs))])) (fun _ k => Jvm.RoadKit.acmp (g := (mkF m 2 #[rv (A 10), rv so, .unset] [(.ref so), (.ref (A 10))])) X0 hx rfl rfl rfl (pc0 := 2) (pc' := 7) (same := false) rfl (D d16_2) rfl (decide_eq_false fun q => hc249 (Value.ref.inj q)) (by decide) (by decide) (XS.aloadN X0.here hx rfl (D d16_7) rfl rfl (st250 _ (XS.ifNo X250.here hx rfl (D d16_11) rfl ((if0 _ _).trans (feq (by decide : ¬ ((1 : Int32) = (0 : Int32)))).1) (XS.aloadN X250.here hx rfl (D d16_14) rfl rfl (st252 _ (XS.astoreN X252.here hx rfl (D d16_18) rfl rfl (l' := #[rv (A 10), rv so, rv so]) rfl (st253 _ (XS.ifNo X253.here hx rfl (D d16_22) rfl ((if0 _ _).trans (feq hc254).1) (XS.aloadN X253.here hx rfl (D d16_25) rfl rfl (st255 _ (XS.aloadN X255.here hx rfl (D d16_29) rfl rfl (st256 _ (XS.icmpNo X256.here hx rfl (D d16_33) rfl (teq (by decide : (0 : Int32) = (0 : Int32))).2 (XS.aloadN X256.here hx rfl (D d16_36) rfl rfl (st258 _ (XS.aloadN X258.here hx rfl (D d16_40) rfl rfl (st259 _ (st260 _ k))))))))))))))))))) ?_
    by_cases hc261 : (own_eq_bag n bs) = (0 : Int32)
    · skip
      refine Go.of (T' := T260) (f' := (mkF m 55 #[rv (A 10), rv so, rv so] [(.int 0)])) (fun _ k => XS.ifYes X260.here hx rfl (pc0 := 47) (pc' := 54) rfl (D d16_47) rfl ((if0 _ _).trans (teq hc261).1) (by decide) (by decide) (XS.iconst X260.here hx rfl (D d16_54) k)) ?_
      exact Go.retB X260 hx hlk hret (by simp) (D d16_55) (by decide) (by decide) (z' := (0 : Int32)) rfl (by rw [e260]; exact ⟨congrArg (fun z => some (Value.int z)) ((hc261 : own_eq_bag n bs = 0).symm.trans prem4), rfl, by simp⟩)
    · skip
      refine Go.of (T' := T260) (f' := (mkF m 55 #[rv (A 10), rv so, rv so] [(.int 1)])) (fun _ k => XS.ifNo X260.here hx rfl (D d16_47) rfl ((if0 _ _).trans (feq hc261).1) (XS.iconst X260.here hx rfl (D d16_50) (XS.goto X260.here hx rfl (pc0 := 51) (pc' := 55) rfl (D d16_51) (by decide) (by decide) k))) ?_
      exact Go.retB X260 hx hlk hret (by simp) (D d16_55) (by decide) (by decide) (z' := (1 : Int32)) rfl (by rw [e260]; exact ⟨congrArg (fun z => some (Value.int z)) (((Classical.byContradiction fun q => hc261 (own_01_bag q)) : own_eq_bag n bs = 1).symm.trans prem4), rfl, by simp⟩)
theorem ef_rm_l1g_idbag (m : MethodId) (xg : Addr) (xc : Addr) : entryFrame m #[(.ref xg), (.ref xc)] 3 = mkF m 0 #[rv xg, rv xc, .unset] [] := by first | (simp [entryFrame, mkF, argsToLocals, Value.category]; done) | rfl
set_option maxRecDepth 65536 in
set_option maxHeartbeats 40000000 in
theorem rm_l1g_idbag {l : Launch} {Z : State} {a0 : Array Value} {A : Nat → Addr} {KC : Nat → Cell} {IC : Nat → Int32} {VC : Nat → Value} (hw : ∀ d ∈ tables_1, d.before a0 Z = true) (G : own_Ctx Z A KC IC VC) (xg : Addr) (xc : Addr) (kg : ClassId) (kc : ClassId) (n : Int32) (bs : List Int32) (h0 : Heap) (O0 : Ext Z.heap h0) (prem0 : Arv Z h0 xg kg .byte n (bs.map Value.int) (.int (0 : Int32))) (prem1 : Arv Z h0 xc kc .byte (5 : Int32) [(.int (105 : Int32)), (.int (100 : Int32)), (.int (98 : Int32)), (.int (97 : Int32)), (.int (103 : Int32))] (.int (0 : Int32))) :
    Ok l Z own_m14 jdk_43_method_13_code 3 (some .boolean) ({ frames := 0, cells := 0, slots := 0, locals := 0 } : Room) #[(.ref xg), (.ref xc)] h0
      (fun v h L => v = some (.int (own_eq_idbag n bs)) ∧ (h = h0) ∧ (L = [])) := by
  refine Ok.mk pn15 ?_
  intro p e s m below meth c T0 hx hby hml hown hnm hret hlk hZ e0 X0
  refine Go.cast (ef_rm_l1g_idbag m xg xc) ?_
  have D := @hb _ _ hby
  have N0 := Fr.nil Z.heap.size
  have K0 : Keep h0 h0 [] := Keep.refl _ _
  obtain ⟨cl262, Ar262, qk262, S262, Ng262, H262, G262⟩ := id prem0
  obtain ⟨cl263, Ar263, qk263, S263, Ng263, H263, G263⟩ := id prem1
  refine Go.of (T' := T0) (f' := (mkF m 4 #[rv xg, rv xc, .unset] [(.int 5), (.int n)])) (fun _ k => XS.aloadN X0.here hx rfl (D d17_0) rfl rfl (X0.arraylength hx (by rw [e0]; exact Ar262.1) (State.isArrayOf_alike hZ.alike Ar262.2.1) (g := (mkF m 1 #[rv xg, rv xc, .unset] [(.ref xg)])) rfl rfl (D d17_1) _ (by rw [len_of S262 Ng262]; exact (XS.aloadN X0.here hx rfl (D d17_2) rfl rfl (X0.arraylength hx (by rw [e0]; exact Ar263.1) (State.isArrayOf_alike hZ.alike Ar263.2.1) (g := (mkF m 3 #[rv xg, rv xc, .unset] [(.ref xc), (.int n)])) rfl rfl (D d17_3) _ (by rw [len_of S263 Ng263]; exact k)))))) ?_
  by_cases hc264 : n = (5 : Int32)
  · skip
    refine Go.of (T' := T0) (f' := (mkF m 7 #[rv xg, rv xc, .unset] [])) (fun _ k => XS.icmpNo X0.here hx rfl (D d17_4) rfl (teq hc264).2 k) ?_
    subst hc264
    obtain ⟨cl265, Ar265, qk265, S265, Ng265, H265, G265⟩ := id prem0
    obtain ⟨cl267, Ar267, qk267, S267, Ng267, H267, G267⟩ := id prem0
    have hin267 := inb_of (j := (0 : Int32)) S267 ⟨by decide, by decide⟩
    obtain ⟨cl268, Ar268, qk268, S268, Ng268, H268, G268⟩ := id prem1
    have hin268 := inb_of (j := (0 : Int32)) S268 ⟨by decide, by decide⟩
    refine Go.of (T' := T0) (f' := (mkF m 21 #[rv xg, rv xc, iv 0] [(.int 105), (.int (bs.getD 0 0))])) (fun _ k => XS.iconst X0.here hx rfl (D d17_7) (XS.istoreN X0.here hx rfl (D d17_8) rfl (l' := #[rv xg, rv xc, iv 0]) rfl (XS.iloadN X0.here hx rfl (D d17_9) rfl (XS.aloadN X0.here hx rfl (D d17_10) rfl rfl (X0.arraylength hx (by rw [e0]; exact Ar265.1) (State.isArrayOf_alike hZ.alike Ar265.2.1) (g := (mkF m 11 #[rv xg, rv xc, iv 0] [(.ref xg), (.int 0)])) rfl rfl (D d17_11) _ (by rw [len_of S265 Ng265]; exact (XS.icmpNo X0.here hx rfl (D d17_12) rfl (tlt (by decide : (0 : Int32) < (5 : Int32))).2.1 (XS.aloadN X0.here hx rfl (D d17_15) rfl rfl (XS.iloadN X0.here hx rfl (D d17_16) rfl (X0.baloadBytes hx (j := (0 : Int32)) (v := (.int (bs.getD 0 0))) (by rw [e0]; exact Ar267.1) (State.isArrayOf_alike hZ.alike Ar267.2.1) Ar267.2.2 hin267 (H267.at hin267 (own_mg bs 0)) (g := (mkF m 17 #[rv xg, rv xc, iv 0] [(.int 0), (.ref xg)])) rfl rfl (D d17_17) _ (XS.aloadN X0.here hx rfl (D d17_18) rfl rfl (XS.iloadN X0.here hx rfl (D d17_19) rfl (X0.baloadBytes hx (j := (0 : Int32)) (v := (.int 105)) (by rw [e0]; exact Ar268.1) (State.isArrayOf_alike hZ.alike Ar268.2.1) Ar268.2.2 hin268 (H268.at hin268 rfl) (g := (mkF m 20 #[rv xg, rv xc, iv 0] [(.int 0), (.ref xc), (.int (bs.getD 0 0))])) rfl rfl (D d17_20) _ k))))))))))))) ?_
    by_cases hc269 : (bs.getD 0 0) = (105 : Int32)
    · skip
      obtain ⟨cl270, Ar270, qk270, S270, Ng270, H270, G270⟩ := id prem0
      obtain ⟨cl272, Ar272, qk272, S272, Ng272, H272, G272⟩ := id prem0
      have hin272 := inb_of (j := (1 : Int32)) S272 ⟨by decide, by decide⟩
      obtain ⟨cl273, Ar273, qk273, S273, Ng273, H273, G273⟩ := id prem1
      have hin273 := inb_of (j := (1 : Int32)) S273 ⟨by decide, by decide⟩
      refine Go.of (T' := T0) (f' := (mkF m 21 #[rv xg, rv xc, iv 1] [(.int 100), (.int (bs.getD 1 0))])) (fun _ k => XS.icmpYes X0.here hx rfl (pc0 := 21) (pc' := 26) rfl (D d17_21) rfl (teq hc269).1 (by decide) (by decide) (XS.iinc X0.here hx rfl (D d17_26) rfl (l' := #[rv xg, rv xc, iv 1]) rfl (XS.goto X0.here hx rfl (pc0 := 29) (pc' := 9) rfl (D d17_29) (by decide) (by decide) (XS.iloadN X0.here hx rfl (D d17_9) rfl (XS.aloadN X0.here hx rfl (D d17_10) rfl rfl (X0.arraylength hx (by rw [e0]; exact Ar270.1) (State.isArrayOf_alike hZ.alike Ar270.2.1) (g := (mkF m 11 #[rv xg, rv xc, iv 1] [(.ref xg), (.int 1)])) rfl rfl (D d17_11) _ (by rw [len_of S270 Ng270]; exact (XS.icmpNo X0.here hx rfl (D d17_12) rfl (tlt (by decide : (1 : Int32) < (5 : Int32))).2.1 (XS.aloadN X0.here hx rfl (D d17_15) rfl rfl (XS.iloadN X0.here hx rfl (D d17_16) rfl (X0.baloadBytes hx (j := (1 : Int32)) (v := (.int (bs.getD 1 0))) (by rw [e0]; exact Ar272.1) (State.isArrayOf_alike hZ.alike Ar272.2.1) Ar272.2.2 hin272 (H272.at hin272 (own_mg bs 1)) (g := (mkF m 17 #[rv xg, rv xc, iv 1] [(.int 1), (.ref xg)])) rfl rfl (D d17_17) _ (XS.aloadN X0.here hx rfl (D d17_18) rfl rfl (XS.iloadN X0.here hx rfl (D d17_19) rfl (X0.baloadBytes hx (j := (1 : Int32)) (v := (.int 100)) (by rw [e0]; exact Ar273.1) (State.isArrayOf_alike hZ.alike Ar273.2.1) Ar273.2.2 hin273 (H273.at hin273 rfl) (g := (mkF m 20 #[rv xg, rv xc, iv 1] [(.int 1), (.ref xc), (.int (bs.getD 1 0))])) rfl rfl (D d17_20) _ k)))))))))))))) ?_
      by_cases hc274 : (bs.getD 1 0) = (100 : Int32)
      · skip
        obtain ⟨cl275, Ar275, qk275, S275, Ng275, H275, G275⟩ := id prem0
        obtain ⟨cl277, Ar277, qk277, S277, Ng277, H277, G277⟩ := id prem0
        have hin277 := inb_of (j := (2 : Int32)) S277 ⟨by decide, by decide⟩
        obtain ⟨cl278, Ar278, qk278, S278, Ng278, H278, G278⟩ := id prem1
        have hin278 := inb_of (j := (2 : Int32)) S278 ⟨by decide, by decide⟩
        refine Go.of (T' := T0) (f' := (mkF m 21 #[rv xg, rv xc, iv 2] [(.int 98), (.int (bs.getD 2 0))])) (fun _ k => XS.icmpYes X0.here hx rfl (pc0 := 21) (pc' := 26) rfl (D d17_21) rfl (teq hc274).1 (by decide) (by decide) (XS.iinc X0.here hx rfl (D d17_26) rfl (l' := #[rv xg, rv xc, iv 2]) rfl (XS.goto X0.here hx rfl (pc0 := 29) (pc' := 9) rfl (D d17_29) (by decide) (by decide) (XS.iloadN X0.here hx rfl (D d17_9) rfl (XS.aloadN X0.here hx rfl (D d17_10) rfl rfl (X0.arraylength hx (by rw [e0]; exact Ar275.1) (State.isArrayOf_alike hZ.alike Ar275.2.1) (g := (mkF m 11 #[rv xg, rv xc, iv 2] [(.ref xg), (.int 2)])) rfl rfl (D d17_11) _ (by rw [len_of S275 Ng275]; exact (XS.icmpNo X0.here hx rfl (D d17_12) rfl (tlt (by decide : (2 : Int32) < (5 : Int32))).2.1 (XS.aloadN X0.here hx rfl (D d17_15) rfl rfl (XS.iloadN X0.here hx rfl (D d17_16) rfl (X0.baloadBytes hx (j := (2 : Int32)) (v := (.int (bs.getD 2 0))) (by rw [e0]; exact Ar277.1) (State.isArrayOf_alike hZ.alike Ar277.2.1) Ar277.2.2 hin277 (H277.at hin277 (own_mg bs 2)) (g := (mkF m 17 #[rv xg, rv xc, iv 2] [(.int 2), (.ref xg)])) rfl rfl (D d17_17) _ (XS.aloadN X0.here hx rfl (D d17_18) rfl rfl (XS.iloadN X0.here hx rfl (D d17_19) rfl (X0.baloadBytes hx (j := (2 : Int32)) (v := (.int 98)) (by rw [e0]; exact Ar278.1) (State.isArrayOf_alike hZ.alike Ar278.2.1) Ar278.2.2 hin278 (H278.at hin278 rfl) (g := (mkF m 20 #[rv xg, rv xc, iv 2] [(.int 2), (.ref xc), (.int (bs.getD 2 0))])) rfl rfl (D d17_20) _ k)))))))))))))) ?_
        by_cases hc279 : (bs.getD 2 0) = (98 : Int32)
        · skip
          obtain ⟨cl280, Ar280, qk280, S280, Ng280, H280, G280⟩ := id prem0
          obtain ⟨cl282, Ar282, qk282, S282, Ng282, H282, G282⟩ := id prem0
          have hin282 := inb_of (j := (3 : Int32)) S282 ⟨by decide, by decide⟩
          obtain ⟨cl283, Ar283, qk283, S283, Ng283, H283, G283⟩ := id prem1
          have hin283 := inb_of (j := (3 : Int32)) S283 ⟨by decide, by decide⟩
          refine Go.of (T' := T0) (f' := (mkF m 21 #[rv xg, rv xc, iv 3] [(.int 97), (.int (bs.getD 3 0))])) (fun _ k => XS.icmpYes X0.here hx rfl (pc0 := 21) (pc' := 26) rfl (D d17_21) rfl (teq hc279).1 (by decide) (by decide) (XS.iinc X0.here hx rfl (D d17_26) rfl (l' := #[rv xg, rv xc, iv 3]) rfl (XS.goto X0.here hx rfl (pc0 := 29) (pc' := 9) rfl (D d17_29) (by decide) (by decide) (XS.iloadN X0.here hx rfl (D d17_9) rfl (XS.aloadN X0.here hx rfl (D d17_10) rfl rfl (X0.arraylength hx (by rw [e0]; exact Ar280.1) (State.isArrayOf_alike hZ.alike Ar280.2.1) (g := (mkF m 11 #[rv xg, rv xc, iv 3] [(.ref xg), (.int 3)])) rfl rfl (D d17_11) _ (by rw [len_of S280 Ng280]; exact (XS.icmpNo X0.here hx rfl (D d17_12) rfl (tlt (by decide : (3 : Int32) < (5 : Int32))).2.1 (XS.aloadN X0.here hx rfl (D d17_15) rfl rfl (XS.iloadN X0.here hx rfl (D d17_16) rfl (X0.baloadBytes hx (j := (3 : Int32)) (v := (.int (bs.getD 3 0))) (by rw [e0]; exact Ar282.1) (State.isArrayOf_alike hZ.alike Ar282.2.1) Ar282.2.2 hin282 (H282.at hin282 (own_mg bs 3)) (g := (mkF m 17 #[rv xg, rv xc, iv 3] [(.int 3), (.ref xg)])) rfl rfl (D d17_17) _ (XS.aloadN X0.here hx rfl (D d17_18) rfl rfl (XS.iloadN X0.here hx rfl (D d17_19) rfl (X0.baloadBytes hx (j := (3 : Int32)) (v := (.int 97)) (by rw [e0]; exact Ar283.1) (State.isArrayOf_alike hZ.alike Ar283.2.1) Ar283.2.2 hin283 (H283.at hin283 rfl) (g := (mkF m 20 #[rv xg, rv xc, iv 3] [(.int 3), (.ref xc), (.int (bs.getD 3 0))])) rfl rfl (D d17_20) _ k)))))))))))))) ?_
          by_cases hc284 : (bs.getD 3 0) = (97 : Int32)
          · skip
            obtain ⟨cl285, Ar285, qk285, S285, Ng285, H285, G285⟩ := id prem0
            obtain ⟨cl287, Ar287, qk287, S287, Ng287, H287, G287⟩ := id prem0
            have hin287 := inb_of (j := (4 : Int32)) S287 ⟨by decide, by decide⟩
            obtain ⟨cl288, Ar288, qk288, S288, Ng288, H288, G288⟩ := id prem1
            have hin288 := inb_of (j := (4 : Int32)) S288 ⟨by decide, by decide⟩
            refine Go.of (T' := T0) (f' := (mkF m 21 #[rv xg, rv xc, iv 4] [(.int 103), (.int (bs.getD 4 0))])) (fun _ k => XS.icmpYes X0.here hx rfl (pc0 := 21) (pc' := 26) rfl (D d17_21) rfl (teq hc284).1 (by decide) (by decide) (XS.iinc X0.here hx rfl (D d17_26) rfl (l' := #[rv xg, rv xc, iv 4]) rfl (XS.goto X0.here hx rfl (pc0 := 29) (pc' := 9) rfl (D d17_29) (by decide) (by decide) (XS.iloadN X0.here hx rfl (D d17_9) rfl (XS.aloadN X0.here hx rfl (D d17_10) rfl rfl (X0.arraylength hx (by rw [e0]; exact Ar285.1) (State.isArrayOf_alike hZ.alike Ar285.2.1) (g := (mkF m 11 #[rv xg, rv xc, iv 4] [(.ref xg), (.int 4)])) rfl rfl (D d17_11) _ (by rw [len_of S285 Ng285]; exact (XS.icmpNo X0.here hx rfl (D d17_12) rfl (tlt (by decide : (4 : Int32) < (5 : Int32))).2.1 (XS.aloadN X0.here hx rfl (D d17_15) rfl rfl (XS.iloadN X0.here hx rfl (D d17_16) rfl (X0.baloadBytes hx (j := (4 : Int32)) (v := (.int (bs.getD 4 0))) (by rw [e0]; exact Ar287.1) (State.isArrayOf_alike hZ.alike Ar287.2.1) Ar287.2.2 hin287 (H287.at hin287 (own_mg bs 4)) (g := (mkF m 17 #[rv xg, rv xc, iv 4] [(.int 4), (.ref xg)])) rfl rfl (D d17_17) _ (XS.aloadN X0.here hx rfl (D d17_18) rfl rfl (XS.iloadN X0.here hx rfl (D d17_19) rfl (X0.baloadBytes hx (j := (4 : Int32)) (v := (.int 103)) (by rw [e0]; exact Ar288.1) (State.isArrayOf_alike hZ.alike Ar288.2.1) Ar288.2.2 hin288 (H288.at hin288 rfl) (g := (mkF m 20 #[rv xg, rv xc, iv 4] [(.int 4), (.ref xc), (.int (bs.getD 4 0))])) rfl rfl (D d17_20) _ k)))))))))))))) ?_
            by_cases hc289 : (bs.getD 4 0) = (103 : Int32)
            · skip
              obtain ⟨cl290, Ar290, qk290, S290, Ng290, H290, G290⟩ := id prem0
              refine Go.of (T' := T0) (f' := (mkF m 33 #[rv xg, rv xc, iv 5] [(.int 1)])) (fun _ k => XS.icmpYes X0.here hx rfl (pc0 := 21) (pc' := 26) rfl (D d17_21) rfl (teq hc289).1 (by decide) (by decide) (XS.iinc X0.here hx rfl (D d17_26) rfl (l' := #[rv xg, rv xc, iv 5]) rfl (XS.goto X0.here hx rfl (pc0 := 29) (pc' := 9) rfl (D d17_29) (by decide) (by decide) (XS.iloadN X0.here hx rfl (D d17_9) rfl (XS.aloadN X0.here hx rfl (D d17_10) rfl rfl (X0.arraylength hx (by rw [e0]; exact Ar290.1) (State.isArrayOf_alike hZ.alike Ar290.2.1) (g := (mkF m 11 #[rv xg, rv xc, iv 5] [(.ref xg), (.int 5)])) rfl rfl (D d17_11) _ (by rw [len_of S290 Ng290]; exact (XS.icmpYes X0.here hx rfl (pc0 := 12) (pc' := 32) rfl (D d17_12) rfl (flt (by decide : ¬ ((5 : Int32) < (5 : Int32)))).2.1 (by decide) (by decide) (XS.iconst X0.here hx rfl (D d17_32) k))))))))) ?_
              exact Go.retB X0 hx hlk hret (by simp) (D d17_33) (by decide) (by decide) (z' := (1 : Int32)) rfl (by rw [e0]; exact ⟨by rw [own_eq_idbag, if_pos rfl, if_pos hc269, if_pos hc274, if_pos hc279, if_pos hc284, if_pos hc289], rfl, by simp⟩)
            · skip
              refine Go.of (T' := T0) (f' := (mkF m 25 #[rv xg, rv xc, iv 4] [(.int 0)])) (fun _ k => XS.icmpNo X0.here hx rfl (D d17_21) rfl (feq hc289).1 (XS.iconst X0.here hx rfl (D d17_24) k)) ?_
              exact Go.retB X0 hx hlk hret (by simp) (D d17_25) (by decide) (by decide) (z' := (0 : Int32)) rfl (by rw [e0]; exact ⟨by rw [own_eq_idbag, if_pos rfl, if_pos hc269, if_pos hc274, if_pos hc279, if_pos hc284, if_neg hc289], rfl, by simp⟩)
          · skip
            refine Go.of (T' := T0) (f' := (mkF m 25 #[rv xg, rv xc, iv 3] [(.int 0)])) (fun _ k => XS.icmpNo X0.here hx rfl (D d17_21) rfl (feq hc284).1 (XS.iconst X0.here hx rfl (D d17_24) k)) ?_
            exact Go.retB X0 hx hlk hret (by simp) (D d17_25) (by decide) (by decide) (z' := (0 : Int32)) rfl (by rw [e0]; exact ⟨by rw [own_eq_idbag, if_pos rfl, if_pos hc269, if_pos hc274, if_pos hc279, if_neg hc284], rfl, by simp⟩)
        · skip
          refine Go.of (T' := T0) (f' := (mkF m 25 #[rv xg, rv xc, iv 2] [(.int 0)])) (fun _ k => XS.icmpNo X0.here hx rfl (D d17_21) rfl (feq hc279).1 (XS.iconst X0.here hx rfl (D d17_24) k)) ?_
          exact Go.retB X0 hx hlk hret (by simp) (D d17_25) (by decide) (by decide) (z' := (0 : Int32)) rfl (by rw [e0]; exact ⟨by rw [own_eq_idbag, if_pos rfl, if_pos hc269, if_pos hc274, if_neg hc279], rfl, by simp⟩)
      · skip
        refine Go.of (T' := T0) (f' := (mkF m 25 #[rv xg, rv xc, iv 1] [(.int 0)])) (fun _ k => XS.icmpNo X0.here hx rfl (D d17_21) rfl (feq hc274).1 (XS.iconst X0.here hx rfl (D d17_24) k)) ?_
        exact Go.retB X0 hx hlk hret (by simp) (D d17_25) (by decide) (by decide) (z' := (0 : Int32)) rfl (by rw [e0]; exact ⟨by rw [own_eq_idbag, if_pos rfl, if_pos hc269, if_neg hc274], rfl, by simp⟩)
    · skip
      refine Go.of (T' := T0) (f' := (mkF m 25 #[rv xg, rv xc, iv 0] [(.int 0)])) (fun _ k => XS.icmpNo X0.here hx rfl (D d17_21) rfl (feq hc269).1 (XS.iconst X0.here hx rfl (D d17_24) k)) ?_
      exact Go.retB X0 hx hlk hret (by simp) (D d17_25) (by decide) (by decide) (z' := (0 : Int32)) rfl (by rw [e0]; exact ⟨by rw [own_eq_idbag, if_pos rfl, if_neg hc269], rfl, by simp⟩)
  · skip
    refine Go.of (T' := T0) (f' := (mkF m 35 #[rv xg, rv xc, .unset] [(.int 0)])) (fun _ k => XS.icmpYes X0.here hx rfl (pc0 := 4) (pc' := 34) rfl (D d17_4) rfl (feq hc264).2 (by decide) (by decide) (XS.iconst X0.here hx rfl (D d17_34) k)) ?_
    exact Go.retB X0 hx hlk hret (by simp) (D d17_35) (by decide) (by decide) (z' := (0 : Int32)) rfl (by rw [e0]; exact ⟨by rw [own_eq_idbag, if_neg hc264], rfl, by simp⟩)
theorem ef_rm_l1n_idbag (m : MethodId) (xc : Addr) (xg : Addr) : entryFrame m #[(.ref xc), (.ref xg)] 3 = mkF m 0 #[rv xc, rv xg, .unset] [] := by first | (simp [entryFrame, mkF, argsToLocals, Value.category]; done) | rfl
set_option maxRecDepth 65536 in
set_option maxHeartbeats 40000000 in
theorem rm_l1n_idbag {l : Launch} {Z : State} {a0 : Array Value} {A : Nat → Addr} {KC : Nat → Cell} {IC : Nat → Int32} {VC : Nat → Value} (hw : ∀ d ∈ tables_1, d.before a0 Z = true) (G : own_Ctx Z A KC IC VC) (xc : Addr) (xg : Addr) (kg : ClassId) (kc : ClassId) (n : Int32) (bs : List Int32) (h0 : Heap) (O0 : Ext Z.heap h0) (prem0 : Arv Z h0 xg kg .byte n (bs.map Value.int) (.int (0 : Int32))) (prem1 : Arv Z h0 xc kc .byte (5 : Int32) [(.int (105 : Int32)), (.int (100 : Int32)), (.int (98 : Int32)), (.int (97 : Int32)), (.int (103 : Int32))] (.int (0 : Int32))) :
    Ok l Z own_m14 jdk_43_method_13_code 3 (some .boolean) ({ frames := 0, cells := 0, slots := 0, locals := 0 } : Room) #[(.ref xc), (.ref xg)] h0
      (fun v h L => v = some (.int (own_eq_idbag n bs)) ∧ (h = h0) ∧ (L = [])) := by
  refine Ok.mk pn15 ?_
  intro p e s m below meth c T0 hx hby hml hown hnm hret hlk hZ e0 X0
  refine Go.cast (ef_rm_l1n_idbag m xc xg) ?_
  have D := @hb _ _ hby
  have N0 := Fr.nil Z.heap.size
  have K0 : Keep h0 h0 [] := Keep.refl _ _
  obtain ⟨cl292, Ar292, qk292, S292, Ng292, H292, G292⟩ := id prem1
  obtain ⟨cl293, Ar293, qk293, S293, Ng293, H293, G293⟩ := id prem0
  refine Go.of (T' := T0) (f' := (mkF m 4 #[rv xc, rv xg, .unset] [(.int n), (.int 5)])) (fun _ k => XS.aloadN X0.here hx rfl (D d17_0) rfl rfl (X0.arraylength hx (by rw [e0]; exact Ar292.1) (State.isArrayOf_alike hZ.alike Ar292.2.1) (g := (mkF m 1 #[rv xc, rv xg, .unset] [(.ref xc)])) rfl rfl (D d17_1) _ (by rw [len_of S292 Ng292]; exact (XS.aloadN X0.here hx rfl (D d17_2) rfl rfl (X0.arraylength hx (by rw [e0]; exact Ar293.1) (State.isArrayOf_alike hZ.alike Ar293.2.1) (g := (mkF m 3 #[rv xc, rv xg, .unset] [(.ref xg), (.int 5)])) rfl rfl (D d17_3) _ (by rw [len_of S293 Ng293]; exact k)))))) ?_
  by_cases hc294 : (5 : Int32) = n
  · skip
    refine Go.of (T' := T0) (f' := (mkF m 7 #[rv xc, rv xg, .unset] [])) (fun _ k => XS.icmpNo X0.here hx rfl (D d17_4) rfl (teq hc294).2 k) ?_
    subst hc294
    obtain ⟨cl295, Ar295, qk295, S295, Ng295, H295, G295⟩ := id prem1
    obtain ⟨cl297, Ar297, qk297, S297, Ng297, H297, G297⟩ := id prem1
    have hin297 := inb_of (j := (0 : Int32)) S297 ⟨by decide, by decide⟩
    obtain ⟨cl298, Ar298, qk298, S298, Ng298, H298, G298⟩ := id prem0
    have hin298 := inb_of (j := (0 : Int32)) S298 ⟨by decide, by decide⟩
    refine Go.of (T' := T0) (f' := (mkF m 21 #[rv xc, rv xg, iv 0] [(.int (bs.getD 0 0)), (.int 105)])) (fun _ k => XS.iconst X0.here hx rfl (D d17_7) (XS.istoreN X0.here hx rfl (D d17_8) rfl (l' := #[rv xc, rv xg, iv 0]) rfl (XS.iloadN X0.here hx rfl (D d17_9) rfl (XS.aloadN X0.here hx rfl (D d17_10) rfl rfl (X0.arraylength hx (by rw [e0]; exact Ar295.1) (State.isArrayOf_alike hZ.alike Ar295.2.1) (g := (mkF m 11 #[rv xc, rv xg, iv 0] [(.ref xc), (.int 0)])) rfl rfl (D d17_11) _ (by rw [len_of S295 Ng295]; exact (XS.icmpNo X0.here hx rfl (D d17_12) rfl (tlt (by decide : (0 : Int32) < (5 : Int32))).2.1 (XS.aloadN X0.here hx rfl (D d17_15) rfl rfl (XS.iloadN X0.here hx rfl (D d17_16) rfl (X0.baloadBytes hx (j := (0 : Int32)) (v := (.int 105)) (by rw [e0]; exact Ar297.1) (State.isArrayOf_alike hZ.alike Ar297.2.1) Ar297.2.2 hin297 (H297.at hin297 rfl) (g := (mkF m 17 #[rv xc, rv xg, iv 0] [(.int 0), (.ref xc)])) rfl rfl (D d17_17) _ (XS.aloadN X0.here hx rfl (D d17_18) rfl rfl (XS.iloadN X0.here hx rfl (D d17_19) rfl (X0.baloadBytes hx (j := (0 : Int32)) (v := (.int (bs.getD 0 0))) (by rw [e0]; exact Ar298.1) (State.isArrayOf_alike hZ.alike Ar298.2.1) Ar298.2.2 hin298 (H298.at hin298 (own_mg bs 0)) (g := (mkF m 20 #[rv xc, rv xg, iv 0] [(.int 0), (.ref xg), (.int 105)])) rfl rfl (D d17_20) _ k))))))))))))) ?_
    by_cases hc299 : (105 : Int32) = (bs.getD 0 0)
    · skip
      obtain ⟨cl300, Ar300, qk300, S300, Ng300, H300, G300⟩ := id prem1
      obtain ⟨cl302, Ar302, qk302, S302, Ng302, H302, G302⟩ := id prem1
      have hin302 := inb_of (j := (1 : Int32)) S302 ⟨by decide, by decide⟩
      obtain ⟨cl303, Ar303, qk303, S303, Ng303, H303, G303⟩ := id prem0
      have hin303 := inb_of (j := (1 : Int32)) S303 ⟨by decide, by decide⟩
      refine Go.of (T' := T0) (f' := (mkF m 21 #[rv xc, rv xg, iv 1] [(.int (bs.getD 1 0)), (.int 100)])) (fun _ k => XS.icmpYes X0.here hx rfl (pc0 := 21) (pc' := 26) rfl (D d17_21) rfl (teq hc299).1 (by decide) (by decide) (XS.iinc X0.here hx rfl (D d17_26) rfl (l' := #[rv xc, rv xg, iv 1]) rfl (XS.goto X0.here hx rfl (pc0 := 29) (pc' := 9) rfl (D d17_29) (by decide) (by decide) (XS.iloadN X0.here hx rfl (D d17_9) rfl (XS.aloadN X0.here hx rfl (D d17_10) rfl rfl (X0.arraylength hx (by rw [e0]; exact Ar300.1) (State.isArrayOf_alike hZ.alike Ar300.2.1) (g := (mkF m 11 #[rv xc, rv xg, iv 1] [(.ref xc), (.int 1)])) rfl rfl (D d17_11) _ (by rw [len_of S300 Ng300]; exact (XS.icmpNo X0.here hx rfl (D d17_12) rfl (tlt (by decide : (1 : Int32) < (5 : Int32))).2.1 (XS.aloadN X0.here hx rfl (D d17_15) rfl rfl (XS.iloadN X0.here hx rfl (D d17_16) rfl (X0.baloadBytes hx (j := (1 : Int32)) (v := (.int 100)) (by rw [e0]; exact Ar302.1) (State.isArrayOf_alike hZ.alike Ar302.2.1) Ar302.2.2 hin302 (H302.at hin302 rfl) (g := (mkF m 17 #[rv xc, rv xg, iv 1] [(.int 1), (.ref xc)])) rfl rfl (D d17_17) _ (XS.aloadN X0.here hx rfl (D d17_18) rfl rfl (XS.iloadN X0.here hx rfl (D d17_19) rfl (X0.baloadBytes hx (j := (1 : Int32)) (v := (.int (bs.getD 1 0))) (by rw [e0]; exact Ar303.1) (State.isArrayOf_alike hZ.alike Ar303.2.1) Ar303.2.2 hin303 (H303.at hin303 (own_mg bs 1)) (g := (mkF m 20 #[rv xc, rv xg, iv 1] [(.int 1), (.ref xg), (.int 100)])) rfl rfl (D d17_20) _ k)))))))))))))) ?_
      by_cases hc304 : (100 : Int32) = (bs.getD 1 0)
      · skip
        obtain ⟨cl305, Ar305, qk305, S305, Ng305, H305, G305⟩ := id prem1
        obtain ⟨cl307, Ar307, qk307, S307, Ng307, H307, G307⟩ := id prem1
        have hin307 := inb_of (j := (2 : Int32)) S307 ⟨by decide, by decide⟩
        obtain ⟨cl308, Ar308, qk308, S308, Ng308, H308, G308⟩ := id prem0
        have hin308 := inb_of (j := (2 : Int32)) S308 ⟨by decide, by decide⟩
        refine Go.of (T' := T0) (f' := (mkF m 21 #[rv xc, rv xg, iv 2] [(.int (bs.getD 2 0)), (.int 98)])) (fun _ k => XS.icmpYes X0.here hx rfl (pc0 := 21) (pc' := 26) rfl (D d17_21) rfl (teq hc304).1 (by decide) (by decide) (XS.iinc X0.here hx rfl (D d17_26) rfl (l' := #[rv xc, rv xg, iv 2]) rfl (XS.goto X0.here hx rfl (pc0 := 29) (pc' := 9) rfl (D d17_29) (by decide) (by decide) (XS.iloadN X0.here hx rfl (D d17_9) rfl (XS.aloadN X0.here hx rfl (D d17_10) rfl rfl (X0.arraylength hx (by rw [e0]; exact Ar305.1) (State.isArrayOf_alike hZ.alike Ar305.2.1) (g := (mkF m 11 #[rv xc, rv xg, iv 2] [(.ref xc), (.int 2)])) rfl rfl (D d17_11) _ (by rw [len_of S305 Ng305]; exact (XS.icmpNo X0.here hx rfl (D d17_12) rfl (tlt (by decide : (2 : Int32) < (5 : Int32))).2.1 (XS.aloadN X0.here hx rfl (D d17_15) rfl rfl (XS.iloadN X0.here hx rfl (D d17_16) rfl (X0.baloadBytes hx (j := (2 : Int32)) (v := (.int 98)) (by rw [e0]; exact Ar307.1) (State.isArrayOf_alike hZ.alike Ar307.2.1) Ar307.2.2 hin307 (H307.at hin307 rfl) (g := (mkF m 17 #[rv xc, rv xg, iv 2] [(.int 2), (.ref xc)])) rfl rfl (D d17_17) _ (XS.aloadN X0.here hx rfl (D d17_18) rfl rfl (XS.iloadN X0.here hx rfl (D d17_19) rfl (X0.baloadBytes hx (j := (2 : Int32)) (v := (.int (bs.getD 2 0))) (by rw [e0]; exact Ar308.1) (State.isArrayOf_alike hZ.alike Ar308.2.1) Ar308.2.2 hin308 (H308.at hin308 (own_mg bs 2)) (g := (mkF m 20 #[rv xc, rv xg, iv 2] [(.int 2), (.ref xg), (.int 98)])) rfl rfl (D d17_20) _ k)))))))))))))) ?_
        by_cases hc309 : (98 : Int32) = (bs.getD 2 0)
        · skip
          obtain ⟨cl310, Ar310, qk310, S310, Ng310, H310, G310⟩ := id prem1
          obtain ⟨cl312, Ar312, qk312, S312, Ng312, H312, G312⟩ := id prem1
          have hin312 := inb_of (j := (3 : Int32)) S312 ⟨by decide, by decide⟩
          obtain ⟨cl313, Ar313, qk313, S313, Ng313, H313, G313⟩ := id prem0
          have hin313 := inb_of (j := (3 : Int32)) S313 ⟨by decide, by decide⟩
          refine Go.of (T' := T0) (f' := (mkF m 21 #[rv xc, rv xg, iv 3] [(.int (bs.getD 3 0)), (.int 97)])) (fun _ k => XS.icmpYes X0.here hx rfl (pc0 := 21) (pc' := 26) rfl (D d17_21) rfl (teq hc309).1 (by decide) (by decide) (XS.iinc X0.here hx rfl (D d17_26) rfl (l' := #[rv xc, rv xg, iv 3]) rfl (XS.goto X0.here hx rfl (pc0 := 29) (pc' := 9) rfl (D d17_29) (by decide) (by decide) (XS.iloadN X0.here hx rfl (D d17_9) rfl (XS.aloadN X0.here hx rfl (D d17_10) rfl rfl (X0.arraylength hx (by rw [e0]; exact Ar310.1) (State.isArrayOf_alike hZ.alike Ar310.2.1) (g := (mkF m 11 #[rv xc, rv xg, iv 3] [(.ref xc), (.int 3)])) rfl rfl (D d17_11) _ (by rw [len_of S310 Ng310]; exact (XS.icmpNo X0.here hx rfl (D d17_12) rfl (tlt (by decide : (3 : Int32) < (5 : Int32))).2.1 (XS.aloadN X0.here hx rfl (D d17_15) rfl rfl (XS.iloadN X0.here hx rfl (D d17_16) rfl (X0.baloadBytes hx (j := (3 : Int32)) (v := (.int 97)) (by rw [e0]; exact Ar312.1) (State.isArrayOf_alike hZ.alike Ar312.2.1) Ar312.2.2 hin312 (H312.at hin312 rfl) (g := (mkF m 17 #[rv xc, rv xg, iv 3] [(.int 3), (.ref xc)])) rfl rfl (D d17_17) _ (XS.aloadN X0.here hx rfl (D d17_18) rfl rfl (XS.iloadN X0.here hx rfl (D d17_19) rfl (X0.baloadBytes hx (j := (3 : Int32)) (v := (.int (bs.getD 3 0))) (by rw [e0]; exact Ar313.1) (State.isArrayOf_alike hZ.alike Ar313.2.1) Ar313.2.2 hin313 (H313.at hin313 (own_mg bs 3)) (g := (mkF m 20 #[rv xc, rv xg, iv 3] [(.int 3), (.ref xg), (.int 97)])) rfl rfl (D d17_20) _ k)))))))))))))) ?_
          by_cases hc314 : (97 : Int32) = (bs.getD 3 0)
          · skip
            obtain ⟨cl315, Ar315, qk315, S315, Ng315, H315, G315⟩ := id prem1
            obtain ⟨cl317, Ar317, qk317, S317, Ng317, H317, G317⟩ := id prem1
            have hin317 := inb_of (j := (4 : Int32)) S317 ⟨by decide, by decide⟩
            obtain ⟨cl318, Ar318, qk318, S318, Ng318, H318, G318⟩ := id prem0
            have hin318 := inb_of (j := (4 : Int32)) S318 ⟨by decide, by decide⟩
            refine Go.of (T' := T0) (f' := (mkF m 21 #[rv xc, rv xg, iv 4] [(.int (bs.getD 4 0)), (.int 103)])) (fun _ k => XS.icmpYes X0.here hx rfl (pc0 := 21) (pc' := 26) rfl (D d17_21) rfl (teq hc314).1 (by decide) (by decide) (XS.iinc X0.here hx rfl (D d17_26) rfl (l' := #[rv xc, rv xg, iv 4]) rfl (XS.goto X0.here hx rfl (pc0 := 29) (pc' := 9) rfl (D d17_29) (by decide) (by decide) (XS.iloadN X0.here hx rfl (D d17_9) rfl (XS.aloadN X0.here hx rfl (D d17_10) rfl rfl (X0.arraylength hx (by rw [e0]; exact Ar315.1) (State.isArrayOf_alike hZ.alike Ar315.2.1) (g := (mkF m 11 #[rv xc, rv xg, iv 4] [(.ref xc), (.int 4)])) rfl rfl (D d17_11) _ (by rw [len_of S315 Ng315]; exact (XS.icmpNo X0.here hx rfl (D d17_12) rfl (tlt (by decide : (4 : Int32) < (5 : Int32))).2.1 (XS.aloadN X0.here hx rfl (D d17_15) rfl rfl (XS.iloadN X0.here hx rfl (D d17_16) rfl (X0.baloadBytes hx (j := (4 : Int32)) (v := (.int 103)) (by rw [e0]; exact Ar317.1) (State.isArrayOf_alike hZ.alike Ar317.2.1) Ar317.2.2 hin317 (H317.at hin317 rfl) (g := (mkF m 17 #[rv xc, rv xg, iv 4] [(.int 4), (.ref xc)])) rfl rfl (D d17_17) _ (XS.aloadN X0.here hx rfl (D d17_18) rfl rfl (XS.iloadN X0.here hx rfl (D d17_19) rfl (X0.baloadBytes hx (j := (4 : Int32)) (v := (.int (bs.getD 4 0))) (by rw [e0]; exact Ar318.1) (State.isArrayOf_alike hZ.alike Ar318.2.1) Ar318.2.2 hin318 (H318.at hin318 (own_mg bs 4)) (g := (mkF m 20 #[rv xc, rv xg, iv 4] [(.int 4), (.ref xg), (.int 103)])) rfl rfl (D d17_20) _ k)))))))))))))) ?_
            by_cases hc319 : (103 : Int32) = (bs.getD 4 0)
            · skip
              obtain ⟨cl320, Ar320, qk320, S320, Ng320, H320, G320⟩ := id prem1
              refine Go.of (T' := T0) (f' := (mkF m 33 #[rv xc, rv xg, iv 5] [(.int 1)])) (fun _ k => XS.icmpYes X0.here hx rfl (pc0 := 21) (pc' := 26) rfl (D d17_21) rfl (teq hc319).1 (by decide) (by decide) (XS.iinc X0.here hx rfl (D d17_26) rfl (l' := #[rv xc, rv xg, iv 5]) rfl (XS.goto X0.here hx rfl (pc0 := 29) (pc' := 9) rfl (D d17_29) (by decide) (by decide) (XS.iloadN X0.here hx rfl (D d17_9) rfl (XS.aloadN X0.here hx rfl (D d17_10) rfl rfl (X0.arraylength hx (by rw [e0]; exact Ar320.1) (State.isArrayOf_alike hZ.alike Ar320.2.1) (g := (mkF m 11 #[rv xc, rv xg, iv 5] [(.ref xc), (.int 5)])) rfl rfl (D d17_11) _ (by rw [len_of S320 Ng320]; exact (XS.icmpYes X0.here hx rfl (pc0 := 12) (pc' := 32) rfl (D d17_12) rfl (flt (by decide : ¬ ((5 : Int32) < (5 : Int32)))).2.1 (by decide) (by decide) (XS.iconst X0.here hx rfl (D d17_32) k))))))))) ?_
              exact Go.retB X0 hx hlk hret (by simp) (D d17_33) (by decide) (by decide) (z' := (1 : Int32)) rfl (by rw [e0]; exact ⟨by rw [own_eq_idbag, if_pos rfl, if_pos hc299.symm, if_pos hc304.symm, if_pos hc309.symm, if_pos hc314.symm, if_pos hc319.symm], rfl, by simp⟩)
            · skip
              refine Go.of (T' := T0) (f' := (mkF m 25 #[rv xc, rv xg, iv 4] [(.int 0)])) (fun _ k => XS.icmpNo X0.here hx rfl (D d17_21) rfl (feq hc319).1 (XS.iconst X0.here hx rfl (D d17_24) k)) ?_
              exact Go.retB X0 hx hlk hret (by simp) (D d17_25) (by decide) (by decide) (z' := (0 : Int32)) rfl (by rw [e0]; exact ⟨by rw [own_eq_idbag, if_pos rfl, if_pos hc299.symm, if_pos hc304.symm, if_pos hc309.symm, if_pos hc314.symm, if_neg (fun q => hc319 q.symm)], rfl, by simp⟩)
          · skip
            refine Go.of (T' := T0) (f' := (mkF m 25 #[rv xc, rv xg, iv 3] [(.int 0)])) (fun _ k => XS.icmpNo X0.here hx rfl (D d17_21) rfl (feq hc314).1 (XS.iconst X0.here hx rfl (D d17_24) k)) ?_
            exact Go.retB X0 hx hlk hret (by simp) (D d17_25) (by decide) (by decide) (z' := (0 : Int32)) rfl (by rw [e0]; exact ⟨by rw [own_eq_idbag, if_pos rfl, if_pos hc299.symm, if_pos hc304.symm, if_pos hc309.symm, if_neg (fun q => hc314 q.symm)], rfl, by simp⟩)
        · skip
          refine Go.of (T' := T0) (f' := (mkF m 25 #[rv xc, rv xg, iv 2] [(.int 0)])) (fun _ k => XS.icmpNo X0.here hx rfl (D d17_21) rfl (feq hc309).1 (XS.iconst X0.here hx rfl (D d17_24) k)) ?_
          exact Go.retB X0 hx hlk hret (by simp) (D d17_25) (by decide) (by decide) (z' := (0 : Int32)) rfl (by rw [e0]; exact ⟨by rw [own_eq_idbag, if_pos rfl, if_pos hc299.symm, if_pos hc304.symm, if_neg (fun q => hc309 q.symm)], rfl, by simp⟩)
      · skip
        refine Go.of (T' := T0) (f' := (mkF m 25 #[rv xc, rv xg, iv 1] [(.int 0)])) (fun _ k => XS.icmpNo X0.here hx rfl (D d17_21) rfl (feq hc304).1 (XS.iconst X0.here hx rfl (D d17_24) k)) ?_
        exact Go.retB X0 hx hlk hret (by simp) (D d17_25) (by decide) (by decide) (z' := (0 : Int32)) rfl (by rw [e0]; exact ⟨by rw [own_eq_idbag, if_pos rfl, if_pos hc299.symm, if_neg (fun q => hc304 q.symm)], rfl, by simp⟩)
    · skip
      refine Go.of (T' := T0) (f' := (mkF m 25 #[rv xc, rv xg, iv 0] [(.int 0)])) (fun _ k => XS.icmpNo X0.here hx rfl (D d17_21) rfl (feq hc299).1 (XS.iconst X0.here hx rfl (D d17_24) k)) ?_
      exact Go.retB X0 hx hlk hret (by simp) (D d17_25) (by decide) (by decide) (z' := (0 : Int32)) rfl (by rw [e0]; exact ⟨by rw [own_eq_idbag, if_pos rfl, if_neg (fun q => hc299 q.symm)], rfl, by simp⟩)
  · skip
    refine Go.of (T' := T0) (f' := (mkF m 35 #[rv xc, rv xg, .unset] [(.int 0)])) (fun _ k => XS.icmpYes X0.here hx rfl (pc0 := 4) (pc' := 34) rfl (D d17_4) rfl (feq hc294).2 (by decide) (by decide) (XS.iconst X0.here hx rfl (D d17_34) k)) ?_
    exact Go.retB X0 hx hlk hret (by simp) (D d17_35) (by decide) (by decide) (z' := (0 : Int32)) rfl (by rw [e0]; exact ⟨by rw [own_eq_idbag, if_neg (fun q => hc294 q.symm)], rfl, by simp⟩)
theorem ef_rm_eqg_idbag (m : MethodId) (so : Addr) (cb : Addr) : entryFrame m #[(.ref so), (.ref cb)] 3 = mkF m 0 #[rv so, rv cb, .unset] [] := by first | (simp [entryFrame, mkF, argsToLocals, Value.category]; done) | rfl
set_option maxRecDepth 65536 in
set_option maxHeartbeats 40000000 in
theorem rm_eqg_idbag {l : Launch} {Z : State} {a0 : Array Value} {A : Nat → Addr} {KC : Nat → Cell} {IC : Nat → Int32} {VC : Nat → Value} (hw : ∀ d ∈ tables_1, d.before a0 Z = true) (G : own_Ctx Z A KC IC VC) (so : Addr) (cb : Addr) (sv : Addr) (kg : ClassId) (n : Int32) (bs : List Int32) (vb : Addr) (kc : ClassId) (vq : Int32) (h0 : Heap) (O0 : Ext Z.heap h0) (prem0 : Exa Z h0 so "java/lang/String") (prem1 : Fld Z h0 so "java/lang/String" "value" "[B" (.ref sv)) (prem2 : Fld Z h0 so "java/lang/String" "coder" "B" (.int (0 : Int32))) (prem3 : Arv Z h0 sv kg .byte n (bs.map Value.int) (.int (0 : Int32))) (prem4 : Exa Z h0 cb "java/lang/String") (prem5 : Fld Z h0 cb "java/lang/String" "coder" "B" (.int (0 : Int32))) (prem6 : Fld Z h0 cb "java/lang/String" "value" "[B" (.ref vb)) (prem7 : Arv Z h0 vb kc .byte (5 : Int32) [(.int (105 : Int32)), (.int (100 : Int32)), (.int (98 : Int32)), (.int (97 : Int32)), (.int (103 : Int32))] (.int (0 : Int32))) (prem8 : own_eq_idbag n bs = vq) :
    Ok l Z own_m17 jdk_42_method_66_code 3 (some .boolean) ({ frames := 1, cells := 0, slots := 0, locals := 14 } : Room) #[(.ref so), (.ref cb)] h0
      (fun v h L => v = some (.int vq) ∧ (h = h0) ∧ (L = [])) := by
  refine Ok.mk pn18 ?_
  intro p e s m below meth c T0 hx hby hml hown hnm hret hlk hZ e0 X0
  refine Go.cast (ef_rm_eqg_idbag m so cb) ?_
  obtain ⟨-, -, -, -, -, -, -, -, -, -, -, -, -, -, -, -, -, -, -, -, -, -, -, -, -, -, -, -, -, -, -, -, S_COMPACT_STRINGS, hne_s_COMPACT_STRINGS_0, -⟩ := id G
  have D := @hb _ _ hby
  have N0 := Fr.nil Z.heap.size
  have K0 : Keep h0 h0 [] := Keep.refl _ _
  refine Go.of (T' := T0) (f' := (mkF m 2 #[rv so, rv cb, .unset] [(.ref cb), (.ref so)])) (fun _ k => XS.aloadN X0.here hx rfl (D d16_0) rfl rfl (XS.aloadN X0.here hx rfl (D d16_1) rfl rfl k)) ?_
  by_cases hc322 : so = cb
  · skip
    refine Go.of (T' := T0) (f' := (mkF m 6 #[rv so, rv cb, .unset] [(.int 1)])) (fun _ k => Jvm.RoadKit.acmp (g := (mkF m 2 #[rv so, rv cb, .unset] [(.ref cb), (.ref so)])) X0 hx rfl rfl rfl (pc0 := 2) (pc' := 5) (same := true) rfl (D d16_2) rfl (decide_eq_true (congrArg Value.ref hc322)) (by decide) (by decide) (XS.iconst X0.here hx rfl (D d16_5) k)) ?_
    exact Go.retB X0 hx hlk hret (by simp) (D d16_6) (by decide) (by decide) (z' := (1 : Int32)) rfl (by rw [e0]; exact ⟨congrArg (fun z => some (Value.int z)) ((own_idt_idbag hc322 prem1 prem6 prem3 prem7 : own_eq_idbag n bs = 1).symm.trans prem8), rfl, by simp⟩)
  · skip
    obtain ⟨T323, X323, e323, st323⟩ := instY X0 hx hZ hown (own_w hw (i := 100) rfl) e0 (Ins.self prem4) (g := (mkF m 8 #[rv so, rv cb, .unset] [(.ref cb)])) rfl rfl (D d16_8)
    obtain ⟨T325, X325, e325, st325⟩ := castY X323 hx hZ hown (own_w hw (i := 100) rfl) e323 (Ins.self prem4) (g := (mkF m 15 #[rv so, rv cb, .unset] [(.ref cb)])) rfl rfl (D d16_15)
    obtain ⟨T326, X326, e326, st326⟩ := getS2 X325 hx hZ hown (host := "") (Or.inl (own_w hw (i := 20) rfl)) Via.refl e325 (Sta.ext O0 S_COMPACT_STRINGS) (g := (mkF m 19 #[rv so, rv cb, rv cb] [])) rfl (D d16_19)
    have hc327 : ¬ ((IC 0) = (0 : Int32)) := hne_s_COMPACT_STRINGS_0
    obtain ⟨T328, X328, e328, st328⟩ := getF X326 hx hZ hown (host := "") (Or.inl (own_w hw (i := 21) rfl)) Via.refl e326 prem2 (g := (mkF m 26 #[rv so, rv cb, rv cb] [(.ref so)])) rfl rfl (D d16_26)
    obtain ⟨T329, X329, e329, st329⟩ := getF X328 hx hZ hown (host := "") (Or.inl (own_w hw (i := 21) rfl)) Via.refl e328 prem5 (g := (mkF m 30 #[rv so, rv cb, rv cb] [(.ref cb), (.int 0)])) rfl rfl (D d16_30)
    obtain ⟨T331, X331, e331, st331⟩ := getF X329 hx hZ hown (host := "") (Or.inl (own_w hw (i := 14) rfl)) Via.refl e329 prem1 (g := (mkF m 37 #[rv so, rv cb, rv cb] [(.ref so)])) rfl rfl (D d16_37)
    obtain ⟨T332, X332, e332, st332⟩ := getF X331 hx hZ hown (host := "") (Or.inl (own_w hw (i := 14) rfl)) Via.refl e331 prem6 (g := (mkF m 41 #[rv so, rv cb, rv cb] [(.ref cb), (.ref sv)])) rfl rfl (D d16_41)
    obtain ⟨T333, v333, L333, X333, q333, st333⟩ := callSt X332 hx hZ (y := own_m14) hown (own_w hw (i := 101) rfl) (own_w hw (i := 102) rfl) (own_w hw (i := 34) rfl) (own_w hw (i := 103) rfl) (by decide) (rm_l1g_idbag hw G sv vb kg kc n bs h0 O0 prem3 prem7) e332 (W := 0) (by decide) (by decide) (by decide) (by decide) (g := (mkF m 44 #[rv so, rv cb, rv cb] [(.ref vb), (.ref sv)])) rfl (by rw [hml]; rfl) (argsL := [(.ref sv), (.ref vb)]) (rest := []) (lenOf pd16 rfl) rfl rfl (Nat.le_of_eq rfl) (D d16_44)
    obtain ⟨rfl, e333, rfl⟩ := q333
    have N333 := Fr.app N0 (Fr.nil _)
    refine Go.of (T' := T333) (f' := (mkF m 47 #[rv so, rv cb, rv cb] [(.int (own_eq_idbag n bs))])) (fun _ k => Jvm.RoadKit.acmp (g := (mkF m 2 #[rv so, rv cb, .unset] [(.ref cb), (.ref so)])) X0 hx rfl rfl rfl (pc0 := 2) (pc' := 7) (same := false) rfl (D d16_2) rfl (decide_eq_false fun q => hc322 (Value.ref.inj q)) (by decide) (by decide) (XS.aloadN X0.here hx rfl (D d16_7) rfl rfl (st323 _ (XS.ifNo X323.here hx rfl (D d16_11) rfl ((if0 _ _).trans (feq (by decide : ¬ ((1 : Int32) = (0 : Int32)))).1) (XS.aloadN X323.here hx rfl (D d16_14) rfl rfl (st325 _ (XS.astoreN X325.here hx rfl (D d16_18) rfl rfl (l' := #[rv so, rv cb, rv cb]) rfl (st326 _ (XS.ifNo X326.here hx rfl (D d16_22) rfl ((if0 _ _).trans (feq hc327).1) (XS.aloadN X326.here hx rfl (D d16_25) rfl rfl (st328 _ (XS.aloadN X328.here hx rfl (D d16_29) rfl rfl (st329 _ (XS.icmpNo X329.here hx rfl (D d16_33) rfl (teq (by decide : (0 : Int32) = (0 : Int32))).2 (XS.aloadN X329.here hx rfl (D d16_36) rfl rfl (st331 _ (XS.aloadN X331.here hx rfl (D d16_40) rfl rfl (st332 _ (st333 _ k))))))))))))))))))) ?_
    by_cases hc334 : (own_eq_idbag n bs) = (0 : Int32)
    · skip
      refine Go.of (T' := T333) (f' := (mkF m 55 #[rv so, rv cb, rv cb] [(.int 0)])) (fun _ k => XS.ifYes X333.here hx rfl (pc0 := 47) (pc' := 54) rfl (D d16_47) rfl ((if0 _ _).trans (teq hc334).1) (by decide) (by decide) (XS.iconst X333.here hx rfl (D d16_54) k)) ?_
      exact Go.retB X333 hx hlk hret (by simp) (D d16_55) (by decide) (by decide) (z' := (0 : Int32)) rfl (by rw [e333]; exact ⟨congrArg (fun z => some (Value.int z)) ((hc334 : own_eq_idbag n bs = 0).symm.trans prem8), rfl, by simp⟩)
    · skip
      refine Go.of (T' := T333) (f' := (mkF m 55 #[rv so, rv cb, rv cb] [(.int 1)])) (fun _ k => XS.ifNo X333.here hx rfl (D d16_47) rfl ((if0 _ _).trans (feq hc334).1) (XS.iconst X333.here hx rfl (D d16_50) (XS.goto X333.here hx rfl (pc0 := 51) (pc' := 55) rfl (D d16_51) (by decide) (by decide) k))) ?_
      exact Go.retB X333 hx hlk hret (by simp) (D d16_55) (by decide) (by decide) (z' := (1 : Int32)) rfl (by rw [e333]; exact ⟨congrArg (fun z => some (Value.int z)) (((Classical.byContradiction fun q => hc334 (own_01_idbag q)) : own_eq_idbag n bs = 1).symm.trans prem8), rfl, by simp⟩)
theorem ef_rm_eqn_idbag (m : MethodId) {A : Nat → Addr} (so : Addr) : entryFrame m #[(.ref (A 12)), (.ref so)] 3 = mkF m 0 #[rv (A 12), rv so, .unset] [] := by first | (simp [entryFrame, mkF, argsToLocals, Value.category]; done) | rfl
set_option maxRecDepth 65536 in
set_option maxHeartbeats 40000000 in
theorem rm_eqn_idbag {l : Launch} {Z : State} {a0 : Array Value} {A : Nat → Addr} {KC : Nat → Cell} {IC : Nat → Int32} {VC : Nat → Value} (hw : ∀ d ∈ tables_1, d.before a0 Z = true) (G : own_Ctx Z A KC IC VC) (so : Addr) (sv : Addr) (kg : ClassId) (n : Int32) (bs : List Int32) (vq : Int32) (h0 : Heap) (O0 : Ext Z.heap h0) (prem0 : Exa Z h0 so "java/lang/String") (prem1 : Fld Z h0 so "java/lang/String" "value" "[B" (.ref sv)) (prem2 : Fld Z h0 so "java/lang/String" "coder" "B" (.int (0 : Int32))) (prem3 : Arv Z h0 sv kg .byte n (bs.map Value.int) (.int (0 : Int32))) (prem4 : own_eq_idbag n bs = vq) :
    Ok l Z own_m17 jdk_42_method_66_code 3 (some .boolean) ({ frames := 1, cells := 0, slots := 0, locals := 14 } : Room) #[(.ref (A 12)), (.ref so)] h0
      (fun v h L => v = some (.int vq) ∧ (h = h0) ∧ (L = [])) := by
  refine Ok.mk pn18 ?_
  intro p e s m below meth c T0 hx hby hml hown hnm hret hlk hZ e0 X0
  refine Go.cast (ef_rm_eqn_idbag m so) ?_
  obtain ⟨-, -, -, -, -, -, -, -, -, -, -, -, -, -, -, -, -, -, -, -, -, -, -, -, -, -, F_s_IDBAG_elementName_coder, F_s_IDBAG_elementName_value, -, -, -, -, S_COMPACT_STRINGS, hne_s_COMPACT_STRINGS_0, -, -, -, -, V_s_IDBAG_elementName_value, -⟩ := id G
  have D := @hb _ _ hby
  have N0 := Fr.nil Z.heap.size
  have K0 : Keep h0 h0 [] := Keep.refl _ _
  refine Go.of (T' := T0) (f' := (mkF m 2 #[rv (A 12), rv so, .unset] [(.ref so), (.ref (A 12))])) (fun _ k => XS.aloadN X0.here hx rfl (D d16_0) rfl rfl (XS.aloadN X0.here hx rfl (D d16_1) rfl rfl k)) ?_
  by_cases hc335 : (A 12) = so
  · skip
    refine Go.of (T' := T0) (f' := (mkF m 6 #[rv (A 12), rv so, .unset] [(.int 1)])) (fun _ k => Jvm.RoadKit.acmp (g := (mkF m 2 #[rv (A 12), rv so, .unset] [(.ref so), (.ref (A 12))])) X0 hx rfl rfl rfl (pc0 := 2) (pc' := 5) (same := true) rfl (D d16_2) rfl (decide_eq_true (congrArg Value.ref hc335)) (by decide) (by decide) (XS.iconst X0.here hx rfl (D d16_5) k)) ?_
    exact Go.retB X0 hx hlk hret (by simp) (D d16_6) (by decide) (by decide) (z' := (1 : Int32)) rfl (by rw [e0]; exact ⟨congrArg (fun z => some (Value.int z)) ((own_idt_idbag (Eq.symm hc335) prem1 (Fld.ext O0 F_s_IDBAG_elementName_value) prem3 (Arv.ext V_s_IDBAG_elementName_value O0) : own_eq_idbag n bs = 1).symm.trans prem4), rfl, by simp⟩)
  · skip
    obtain ⟨T336, X336, e336, st336⟩ := instY X0 hx hZ hown (own_w hw (i := 100) rfl) e0 (Ins.self prem0) (g := (mkF m 8 #[rv (A 12), rv so, .unset] [(.ref so)])) rfl rfl (D d16_8)
    obtain ⟨T338, X338, e338, st338⟩ := castY X336 hx hZ hown (own_w hw (i := 100) rfl) e336 (Ins.self prem0) (g := (mkF m 15 #[rv (A 12), rv so, .unset] [(.ref so)])) rfl rfl (D d16_15)
    obtain ⟨T339, X339, e339, st339⟩ := getS2 X338 hx hZ hown (host := "") (Or.inl (own_w hw (i := 20) rfl)) Via.refl e338 (Sta.ext O0 S_COMPACT_STRINGS) (g := (mkF m 19 #[rv (A 12), rv so, rv so] [])) rfl (D d16_19)
    have hc340 : ¬ ((IC 0) = (0 : Int32)) := hne_s_COMPACT_STRINGS_0
    obtain ⟨T341, X341, e341, st341⟩ := getF X339 hx hZ hown (host := "") (Or.inl (own_w hw (i := 21) rfl)) Via.refl e339 (Fld.ext O0 F_s_IDBAG_elementName_coder) (g := (mkF m 26 #[rv (A 12), rv so, rv so] [(.ref (A 12))])) rfl rfl (D d16_26)
    obtain ⟨T342, X342, e342, st342⟩ := getF X341 hx hZ hown (host := "") (Or.inl (own_w hw (i := 21) rfl)) Via.refl e341 prem2 (g := (mkF m 30 #[rv (A 12), rv so, rv so] [(.ref so), (.int 0)])) rfl rfl (D d16_30)
    obtain ⟨T344, X344, e344, st344⟩ := getF X342 hx hZ hown (host := "") (Or.inl (own_w hw (i := 14) rfl)) Via.refl e342 (Fld.ext O0 F_s_IDBAG_elementName_value) (g := (mkF m 37 #[rv (A 12), rv so, rv so] [(.ref (A 12))])) rfl rfl (D d16_37)
    obtain ⟨T345, X345, e345, st345⟩ := getF X344 hx hZ hown (host := "") (Or.inl (own_w hw (i := 14) rfl)) Via.refl e344 prem1 (g := (mkF m 41 #[rv (A 12), rv so, rv so] [(.ref so), (.ref (A 13))])) rfl rfl (D d16_41)
    obtain ⟨T346, v346, L346, X346, q346, st346⟩ := callSt X345 hx hZ (y := own_m14) hown (own_w hw (i := 101) rfl) (own_w hw (i := 102) rfl) (own_w hw (i := 34) rfl) (own_w hw (i := 103) rfl) (by decide) (rm_l1n_idbag hw G ((A 13)) sv kg ((KC 4).cls) n bs h0 O0 prem3 (Arv.ext V_s_IDBAG_elementName_value O0)) e345 (W := 0) (by decide) (by decide) (by decide) (by decide) (g := (mkF m 44 #[rv (A 12), rv so, rv so] [(.ref sv), (.ref (A 13))])) rfl (by rw [hml]; rfl) (argsL := [(.ref (A 13)), (.ref sv)]) (rest := []) (lenOf pd16 rfl) rfl rfl (Nat.le_of_eq rfl) (D d16_44)
    obtain ⟨rfl, e346, rfl⟩ := q346
    have N346 := Fr.app N0 (Fr.nil _)
    refine Go.of (T' := T346) (f' := (mkF m 47 #[rv (A 12), rv so, rv so] [(.int (own_eq_idbag n bs))])) (fun _ k => Jvm.RoadKit.acmp (g := (mkF m 2 #[rv (A 12), rv so, .unset] [(.ref so), (.ref (A 12))])) X0 hx rfl rfl rfl (pc0 := 2) (pc' := 7) (same := false) rfl (D d16_2) rfl (decide_eq_false fun q => hc335 (Value.ref.inj q)) (by decide) (by decide) (XS.aloadN X0.here hx rfl (D d16_7) rfl rfl (st336 _ (XS.ifNo X336.here hx rfl (D d16_11) rfl ((if0 _ _).trans (feq (by decide : ¬ ((1 : Int32) = (0 : Int32)))).1) (XS.aloadN X336.here hx rfl (D d16_14) rfl rfl (st338 _ (XS.astoreN X338.here hx rfl (D d16_18) rfl rfl (l' := #[rv (A 12), rv so, rv so]) rfl (st339 _ (XS.ifNo X339.here hx rfl (D d16_22) rfl ((if0 _ _).trans (feq hc340).1) (XS.aloadN X339.here hx rfl (D d16_25) rfl rfl (st341 _ (XS.aloadN X341.here hx rfl (D d16_29) rfl rfl (st342 _ (XS.icmpNo X342.here hx rfl (D d16_33) rfl (teq (by decide : (0 : Int32) = (0 : Int32))).2 (XS.aloadN X342.here hx rfl (D d16_36) rfl rfl (st344 _ (XS.aloadN X344.here hx rfl (D d16_40) rfl rfl (st345 _ (st346 _ k))))))))))))))))))) ?_
    by_cases hc347 : (own_eq_idbag n bs) = (0 : Int32)
    · skip
      refine Go.of (T' := T346) (f' := (mkF m 55 #[rv (A 12), rv so, rv so] [(.int 0)])) (fun _ k => XS.ifYes X346.here hx rfl (pc0 := 47) (pc' := 54) rfl (D d16_47) rfl ((if0 _ _).trans (teq hc347).1) (by decide) (by decide) (XS.iconst X346.here hx rfl (D d16_54) k)) ?_
      exact Go.retB X346 hx hlk hret (by simp) (D d16_55) (by decide) (by decide) (z' := (0 : Int32)) rfl (by rw [e346]; exact ⟨congrArg (fun z => some (Value.int z)) ((hc347 : own_eq_idbag n bs = 0).symm.trans prem4), rfl, by simp⟩)
    · skip
      refine Go.of (T' := T346) (f' := (mkF m 55 #[rv (A 12), rv so, rv so] [(.int 1)])) (fun _ k => XS.ifNo X346.here hx rfl (D d16_47) rfl ((if0 _ _).trans (feq hc347).1) (XS.iconst X346.here hx rfl (D d16_50) (XS.goto X346.here hx rfl (pc0 := 51) (pc' := 55) rfl (D d16_51) (by decide) (by decide) k))) ?_
      exact Go.retB X346 hx hlk hret (by simp) (D d16_55) (by decide) (by decide) (z' := (1 : Int32)) rfl (by rw [e346]; exact ⟨congrArg (fun z => some (Value.int z)) (((Classical.byContradiction fun q => hc347 (own_01_idbag q)) : own_eq_idbag n bs = 1).symm.trans prem4), rfl, by simp⟩)
theorem ef_rm_l1g_map (m : MethodId) (xg : Addr) (xc : Addr) : entryFrame m #[(.ref xg), (.ref xc)] 3 = mkF m 0 #[rv xg, rv xc, .unset] [] := by first | (simp [entryFrame, mkF, argsToLocals, Value.category]; done) | rfl
set_option maxRecDepth 65536 in
set_option maxHeartbeats 40000000 in
theorem rm_l1g_map {l : Launch} {Z : State} {a0 : Array Value} {A : Nat → Addr} {KC : Nat → Cell} {IC : Nat → Int32} {VC : Nat → Value} (hw : ∀ d ∈ tables_1, d.before a0 Z = true) (G : own_Ctx Z A KC IC VC) (xg : Addr) (xc : Addr) (kg : ClassId) (kc : ClassId) (n : Int32) (bs : List Int32) (h0 : Heap) (O0 : Ext Z.heap h0) (prem0 : Arv Z h0 xg kg .byte n (bs.map Value.int) (.int (0 : Int32))) (prem1 : Arv Z h0 xc kc .byte (3 : Int32) [(.int (109 : Int32)), (.int (97 : Int32)), (.int (112 : Int32))] (.int (0 : Int32))) :
    Ok l Z own_m14 jdk_43_method_13_code 3 (some .boolean) ({ frames := 0, cells := 0, slots := 0, locals := 0 } : Room) #[(.ref xg), (.ref xc)] h0
      (fun v h L => v = some (.int (own_eq_map n bs)) ∧ (h = h0) ∧ (L = [])) := by
  refine Ok.mk pn15 ?_
  intro p e s m below meth c T0 hx hby hml hown hnm hret hlk hZ e0 X0
  refine Go.cast (ef_rm_l1g_map m xg xc) ?_
  have D := @hb _ _ hby
  have N0 := Fr.nil Z.heap.size
  have K0 : Keep h0 h0 [] := Keep.refl _ _
  obtain ⟨cl348, Ar348, qk348, S348, Ng348, H348, G348⟩ := id prem0
  obtain ⟨cl349, Ar349, qk349, S349, Ng349, H349, G349⟩ := id prem1
  refine Go.of (T' := T0) (f' := (mkF m 4 #[rv xg, rv xc, .unset] [(.int 3), (.int n)])) (fun _ k => XS.aloadN X0.here hx rfl (D d17_0) rfl rfl (X0.arraylength hx (by rw [e0]; exact Ar348.1) (State.isArrayOf_alike hZ.alike Ar348.2.1) (g := (mkF m 1 #[rv xg, rv xc, .unset] [(.ref xg)])) rfl rfl (D d17_1) _ (by rw [len_of S348 Ng348]; exact (XS.aloadN X0.here hx rfl (D d17_2) rfl rfl (X0.arraylength hx (by rw [e0]; exact Ar349.1) (State.isArrayOf_alike hZ.alike Ar349.2.1) (g := (mkF m 3 #[rv xg, rv xc, .unset] [(.ref xc), (.int n)])) rfl rfl (D d17_3) _ (by rw [len_of S349 Ng349]; exact k)))))) ?_
  by_cases hc350 : n = (3 : Int32)
  · skip
    refine Go.of (T' := T0) (f' := (mkF m 7 #[rv xg, rv xc, .unset] [])) (fun _ k => XS.icmpNo X0.here hx rfl (D d17_4) rfl (teq hc350).2 k) ?_
    subst hc350
    obtain ⟨cl351, Ar351, qk351, S351, Ng351, H351, G351⟩ := id prem0
    obtain ⟨cl353, Ar353, qk353, S353, Ng353, H353, G353⟩ := id prem0
    have hin353 := inb_of (j := (0 : Int32)) S353 ⟨by decide, by decide⟩
    obtain ⟨cl354, Ar354, qk354, S354, Ng354, H354, G354⟩ := id prem1
    have hin354 := inb_of (j := (0 : Int32)) S354 ⟨by decide, by decide⟩
    refine Go.of (T' := T0) (f' := (mkF m 21 #[rv xg, rv xc, iv 0] [(.int 109), (.int (bs.getD 0 0))])) (fun _ k => XS.iconst X0.here hx rfl (D d17_7) (XS.istoreN X0.here hx rfl (D d17_8) rfl (l' := #[rv xg, rv xc, iv 0]) rfl (XS.iloadN X0.here hx rfl (D d17_9) rfl (XS.aloadN X0.here hx rfl (D d17_10) rfl rfl (X0.arraylength hx (by rw [e0]; exact Ar351.1) (State.isArrayOf_alike hZ.alike Ar351.2.1) (g := (mkF m 11 #[rv xg, rv xc, iv 0] [(.ref xg), (.int 0)])) rfl rfl (D d17_11) _ (by rw [len_of S351 Ng351]; exact (XS.icmpNo X0.here hx rfl (D d17_12) rfl (tlt (by decide : (0 : Int32) < (3 : Int32))).2.1 (XS.aloadN X0.here hx rfl (D d17_15) rfl rfl (XS.iloadN X0.here hx rfl (D d17_16) rfl (X0.baloadBytes hx (j := (0 : Int32)) (v := (.int (bs.getD 0 0))) (by rw [e0]; exact Ar353.1) (State.isArrayOf_alike hZ.alike Ar353.2.1) Ar353.2.2 hin353 (H353.at hin353 (own_mg bs 0)) (g := (mkF m 17 #[rv xg, rv xc, iv 0] [(.int 0), (.ref xg)])) rfl rfl (D d17_17) _ (XS.aloadN X0.here hx rfl (D d17_18) rfl rfl (XS.iloadN X0.here hx rfl (D d17_19) rfl (X0.baloadBytes hx (j := (0 : Int32)) (v := (.int 109)) (by rw [e0]; exact Ar354.1) (State.isArrayOf_alike hZ.alike Ar354.2.1) Ar354.2.2 hin354 (H354.at hin354 rfl) (g := (mkF m 20 #[rv xg, rv xc, iv 0] [(.int 0), (.ref xc), (.int (bs.getD 0 0))])) rfl rfl (D d17_20) _ k))))))))))))) ?_
    by_cases hc355 : (bs.getD 0 0) = (109 : Int32)
    · skip
      obtain ⟨cl356, Ar356, qk356, S356, Ng356, H356, G356⟩ := id prem0
      obtain ⟨cl358, Ar358, qk358, S358, Ng358, H358, G358⟩ := id prem0
      have hin358 := inb_of (j := (1 : Int32)) S358 ⟨by decide, by decide⟩
      obtain ⟨cl359, Ar359, qk359, S359, Ng359, H359, G359⟩ := id prem1
      have hin359 := inb_of (j := (1 : Int32)) S359 ⟨by decide, by decide⟩
      refine Go.of (T' := T0) (f' := (mkF m 21 #[rv xg, rv xc, iv 1] [(.int 97), (.int (bs.getD 1 0))])) (fun _ k => XS.icmpYes X0.here hx rfl (pc0 := 21) (pc' := 26) rfl (D d17_21) rfl (teq hc355).1 (by decide) (by decide) (XS.iinc X0.here hx rfl (D d17_26) rfl (l' := #[rv xg, rv xc, iv 1]) rfl (XS.goto X0.here hx rfl (pc0 := 29) (pc' := 9) rfl (D d17_29) (by decide) (by decide) (XS.iloadN X0.here hx rfl (D d17_9) rfl (XS.aloadN X0.here hx rfl (D d17_10) rfl rfl (X0.arraylength hx (by rw [e0]; exact Ar356.1) (State.isArrayOf_alike hZ.alike Ar356.2.1) (g := (mkF m 11 #[rv xg, rv xc, iv 1] [(.ref xg), (.int 1)])) rfl rfl (D d17_11) _ (by rw [len_of S356 Ng356]; exact (XS.icmpNo X0.here hx rfl (D d17_12) rfl (tlt (by decide : (1 : Int32) < (3 : Int32))).2.1 (XS.aloadN X0.here hx rfl (D d17_15) rfl rfl (XS.iloadN X0.here hx rfl (D d17_16) rfl (X0.baloadBytes hx (j := (1 : Int32)) (v := (.int (bs.getD 1 0))) (by rw [e0]; exact Ar358.1) (State.isArrayOf_alike hZ.alike Ar358.2.1) Ar358.2.2 hin358 (H358.at hin358 (own_mg bs 1)) (g := (mkF m 17 #[rv xg, rv xc, iv 1] [(.int 1), (.ref xg)])) rfl rfl (D d17_17) _ (XS.aloadN X0.here hx rfl (D d17_18) rfl rfl (XS.iloadN X0.here hx rfl (D d17_19) rfl (X0.baloadBytes hx (j := (1 : Int32)) (v := (.int 97)) (by rw [e0]; exact Ar359.1) (State.isArrayOf_alike hZ.alike Ar359.2.1) Ar359.2.2 hin359 (H359.at hin359 rfl) (g := (mkF m 20 #[rv xg, rv xc, iv 1] [(.int 1), (.ref xc), (.int (bs.getD 1 0))])) rfl rfl (D d17_20) _ k)))))))))))))) ?_
      by_cases hc360 : (bs.getD 1 0) = (97 : Int32)
      · skip
        obtain ⟨cl361, Ar361, qk361, S361, Ng361, H361, G361⟩ := id prem0
        obtain ⟨cl363, Ar363, qk363, S363, Ng363, H363, G363⟩ := id prem0
        have hin363 := inb_of (j := (2 : Int32)) S363 ⟨by decide, by decide⟩
        obtain ⟨cl364, Ar364, qk364, S364, Ng364, H364, G364⟩ := id prem1
        have hin364 := inb_of (j := (2 : Int32)) S364 ⟨by decide, by decide⟩
        refine Go.of (T' := T0) (f' := (mkF m 21 #[rv xg, rv xc, iv 2] [(.int 112), (.int (bs.getD 2 0))])) (fun _ k => XS.icmpYes X0.here hx rfl (pc0 := 21) (pc' := 26) rfl (D d17_21) rfl (teq hc360).1 (by decide) (by decide) (XS.iinc X0.here hx rfl (D d17_26) rfl (l' := #[rv xg, rv xc, iv 2]) rfl (XS.goto X0.here hx rfl (pc0 := 29) (pc' := 9) rfl (D d17_29) (by decide) (by decide) (XS.iloadN X0.here hx rfl (D d17_9) rfl (XS.aloadN X0.here hx rfl (D d17_10) rfl rfl (X0.arraylength hx (by rw [e0]; exact Ar361.1) (State.isArrayOf_alike hZ.alike Ar361.2.1) (g := (mkF m 11 #[rv xg, rv xc, iv 2] [(.ref xg), (.int 2)])) rfl rfl (D d17_11) _ (by rw [len_of S361 Ng361]; exact (XS.icmpNo X0.here hx rfl (D d17_12) rfl (tlt (by decide : (2 : Int32) < (3 : Int32))).2.1 (XS.aloadN X0.here hx rfl (D d17_15) rfl rfl (XS.iloadN X0.here hx rfl (D d17_16) rfl (X0.baloadBytes hx (j := (2 : Int32)) (v := (.int (bs.getD 2 0))) (by rw [e0]; exact Ar363.1) (State.isArrayOf_alike hZ.alike Ar363.2.1) Ar363.2.2 hin363 (H363.at hin363 (own_mg bs 2)) (g := (mkF m 17 #[rv xg, rv xc, iv 2] [(.int 2), (.ref xg)])) rfl rfl (D d17_17) _ (XS.aloadN X0.here hx rfl (D d17_18) rfl rfl (XS.iloadN X0.here hx rfl (D d17_19) rfl (X0.baloadBytes hx (j := (2 : Int32)) (v := (.int 112)) (by rw [e0]; exact Ar364.1) (State.isArrayOf_alike hZ.alike Ar364.2.1) Ar364.2.2 hin364 (H364.at hin364 rfl) (g := (mkF m 20 #[rv xg, rv xc, iv 2] [(.int 2), (.ref xc), (.int (bs.getD 2 0))])) rfl rfl (D d17_20) _ k)))))))))))))) ?_
        by_cases hc365 : (bs.getD 2 0) = (112 : Int32)
        · skip
          obtain ⟨cl366, Ar366, qk366, S366, Ng366, H366, G366⟩ := id prem0
          refine Go.of (T' := T0) (f' := (mkF m 33 #[rv xg, rv xc, iv 3] [(.int 1)])) (fun _ k => XS.icmpYes X0.here hx rfl (pc0 := 21) (pc' := 26) rfl (D d17_21) rfl (teq hc365).1 (by decide) (by decide) (XS.iinc X0.here hx rfl (D d17_26) rfl (l' := #[rv xg, rv xc, iv 3]) rfl (XS.goto X0.here hx rfl (pc0 := 29) (pc' := 9) rfl (D d17_29) (by decide) (by decide) (XS.iloadN X0.here hx rfl (D d17_9) rfl (XS.aloadN X0.here hx rfl (D d17_10) rfl rfl (X0.arraylength hx (by rw [e0]; exact Ar366.1) (State.isArrayOf_alike hZ.alike Ar366.2.1) (g := (mkF m 11 #[rv xg, rv xc, iv 3] [(.ref xg), (.int 3)])) rfl rfl (D d17_11) _ (by rw [len_of S366 Ng366]; exact (XS.icmpYes X0.here hx rfl (pc0 := 12) (pc' := 32) rfl (D d17_12) rfl (flt (by decide : ¬ ((3 : Int32) < (3 : Int32)))).2.1 (by decide) (by decide) (XS.iconst X0.here hx rfl (D d17_32) k))))))))) ?_
          exact Go.retB X0 hx hlk hret (by simp) (D d17_33) (by decide) (by decide) (z' := (1 : Int32)) rfl (by rw [e0]; exact ⟨by rw [own_eq_map, if_pos rfl, if_pos hc355, if_pos hc360, if_pos hc365], rfl, by simp⟩)
        · skip
          refine Go.of (T' := T0) (f' := (mkF m 25 #[rv xg, rv xc, iv 2] [(.int 0)])) (fun _ k => XS.icmpNo X0.here hx rfl (D d17_21) rfl (feq hc365).1 (XS.iconst X0.here hx rfl (D d17_24) k)) ?_
          exact Go.retB X0 hx hlk hret (by simp) (D d17_25) (by decide) (by decide) (z' := (0 : Int32)) rfl (by rw [e0]; exact ⟨by rw [own_eq_map, if_pos rfl, if_pos hc355, if_pos hc360, if_neg hc365], rfl, by simp⟩)
      · skip
        refine Go.of (T' := T0) (f' := (mkF m 25 #[rv xg, rv xc, iv 1] [(.int 0)])) (fun _ k => XS.icmpNo X0.here hx rfl (D d17_21) rfl (feq hc360).1 (XS.iconst X0.here hx rfl (D d17_24) k)) ?_
        exact Go.retB X0 hx hlk hret (by simp) (D d17_25) (by decide) (by decide) (z' := (0 : Int32)) rfl (by rw [e0]; exact ⟨by rw [own_eq_map, if_pos rfl, if_pos hc355, if_neg hc360], rfl, by simp⟩)
    · skip
      refine Go.of (T' := T0) (f' := (mkF m 25 #[rv xg, rv xc, iv 0] [(.int 0)])) (fun _ k => XS.icmpNo X0.here hx rfl (D d17_21) rfl (feq hc355).1 (XS.iconst X0.here hx rfl (D d17_24) k)) ?_
      exact Go.retB X0 hx hlk hret (by simp) (D d17_25) (by decide) (by decide) (z' := (0 : Int32)) rfl (by rw [e0]; exact ⟨by rw [own_eq_map, if_pos rfl, if_neg hc355], rfl, by simp⟩)
  · skip
    refine Go.of (T' := T0) (f' := (mkF m 35 #[rv xg, rv xc, .unset] [(.int 0)])) (fun _ k => XS.icmpYes X0.here hx rfl (pc0 := 4) (pc' := 34) rfl (D d17_4) rfl (feq hc350).2 (by decide) (by decide) (XS.iconst X0.here hx rfl (D d17_34) k)) ?_
    exact Go.retB X0 hx hlk hret (by simp) (D d17_35) (by decide) (by decide) (z' := (0 : Int32)) rfl (by rw [e0]; exact ⟨by rw [own_eq_map, if_neg hc350], rfl, by simp⟩)
theorem ef_rm_l1n_map (m : MethodId) (xc : Addr) (xg : Addr) : entryFrame m #[(.ref xc), (.ref xg)] 3 = mkF m 0 #[rv xc, rv xg, .unset] [] := by first | (simp [entryFrame, mkF, argsToLocals, Value.category]; done) | rfl
set_option maxRecDepth 65536 in
set_option maxHeartbeats 40000000 in
theorem rm_l1n_map {l : Launch} {Z : State} {a0 : Array Value} {A : Nat → Addr} {KC : Nat → Cell} {IC : Nat → Int32} {VC : Nat → Value} (hw : ∀ d ∈ tables_1, d.before a0 Z = true) (G : own_Ctx Z A KC IC VC) (xc : Addr) (xg : Addr) (kg : ClassId) (kc : ClassId) (n : Int32) (bs : List Int32) (h0 : Heap) (O0 : Ext Z.heap h0) (prem0 : Arv Z h0 xg kg .byte n (bs.map Value.int) (.int (0 : Int32))) (prem1 : Arv Z h0 xc kc .byte (3 : Int32) [(.int (109 : Int32)), (.int (97 : Int32)), (.int (112 : Int32))] (.int (0 : Int32))) :
    Ok l Z own_m14 jdk_43_method_13_code 3 (some .boolean) ({ frames := 0, cells := 0, slots := 0, locals := 0 } : Room) #[(.ref xc), (.ref xg)] h0
      (fun v h L => v = some (.int (own_eq_map n bs)) ∧ (h = h0) ∧ (L = [])) := by
  refine Ok.mk pn15 ?_
  intro p e s m below meth c T0 hx hby hml hown hnm hret hlk hZ e0 X0
  refine Go.cast (ef_rm_l1n_map m xc xg) ?_
  have D := @hb _ _ hby
  have N0 := Fr.nil Z.heap.size
  have K0 : Keep h0 h0 [] := Keep.refl _ _
  obtain ⟨cl368, Ar368, qk368, S368, Ng368, H368, G368⟩ := id prem1
  obtain ⟨cl369, Ar369, qk369, S369, Ng369, H369, G369⟩ := id prem0
  refine Go.of (T' := T0) (f' := (mkF m 4 #[rv xc, rv xg, .unset] [(.int n), (.int 3)])) (fun _ k => XS.aloadN X0.here hx rfl (D d17_0) rfl rfl (X0.arraylength hx (by rw [e0]; exact Ar368.1) (State.isArrayOf_alike hZ.alike Ar368.2.1) (g := (mkF m 1 #[rv xc, rv xg, .unset] [(.ref xc)])) rfl rfl (D d17_1) _ (by rw [len_of S368 Ng368]; exact (XS.aloadN X0.here hx rfl (D d17_2) rfl rfl (X0.arraylength hx (by rw [e0]; exact Ar369.1) (State.isArrayOf_alike hZ.alike Ar369.2.1) (g := (mkF m 3 #[rv xc, rv xg, .unset] [(.ref xg), (.int 3)])) rfl rfl (D d17_3) _ (by rw [len_of S369 Ng369]; exact k)))))) ?_
  by_cases hc370 : (3 : Int32) = n
  · skip
    refine Go.of (T' := T0) (f' := (mkF m 7 #[rv xc, rv xg, .unset] [])) (fun _ k => XS.icmpNo X0.here hx rfl (D d17_4) rfl (teq hc370).2 k) ?_
    subst hc370
    obtain ⟨cl371, Ar371, qk371, S371, Ng371, H371, G371⟩ := id prem1
    obtain ⟨cl373, Ar373, qk373, S373, Ng373, H373, G373⟩ := id prem1
    have hin373 := inb_of (j := (0 : Int32)) S373 ⟨by decide, by decide⟩
    obtain ⟨cl374, Ar374, qk374, S374, Ng374, H374, G374⟩ := id prem0
    have hin374 := inb_of (j := (0 : Int32)) S374 ⟨by decide, by decide⟩
    refine Go.of (T' := T0) (f' := (mkF m 21 #[rv xc, rv xg, iv 0] [(.int (bs.getD 0 0)), (.int 109)])) (fun _ k => XS.iconst X0.here hx rfl (D d17_7) (XS.istoreN X0.here hx rfl (D d17_8) rfl (l' := #[rv xc, rv xg, iv 0]) rfl (XS.iloadN X0.here hx rfl (D d17_9) rfl (XS.aloadN X0.here hx rfl (D d17_10) rfl rfl (X0.arraylength hx (by rw [e0]; exact Ar371.1) (State.isArrayOf_alike hZ.alike Ar371.2.1) (g := (mkF m 11 #[rv xc, rv xg, iv 0] [(.ref xc), (.int 0)])) rfl rfl (D d17_11) _ (by rw [len_of S371 Ng371]; exact (XS.icmpNo X0.here hx rfl (D d17_12) rfl (tlt (by decide : (0 : Int32) < (3 : Int32))).2.1 (XS.aloadN X0.here hx rfl (D d17_15) rfl rfl (XS.iloadN X0.here hx rfl (D d17_16) rfl (X0.baloadBytes hx (j := (0 : Int32)) (v := (.int 109)) (by rw [e0]; exact Ar373.1) (State.isArrayOf_alike hZ.alike Ar373.2.1) Ar373.2.2 hin373 (H373.at hin373 rfl) (g := (mkF m 17 #[rv xc, rv xg, iv 0] [(.int 0), (.ref xc)])) rfl rfl (D d17_17) _ (XS.aloadN X0.here hx rfl (D d17_18) rfl rfl (XS.iloadN X0.here hx rfl (D d17_19) rfl (X0.baloadBytes hx (j := (0 : Int32)) (v := (.int (bs.getD 0 0))) (by rw [e0]; exact Ar374.1) (State.isArrayOf_alike hZ.alike Ar374.2.1) Ar374.2.2 hin374 (H374.at hin374 (own_mg bs 0)) (g := (mkF m 20 #[rv xc, rv xg, iv 0] [(.int 0), (.ref xg), (.int 109)])) rfl rfl (D d17_20) _ k))))))))))))) ?_
    by_cases hc375 : (109 : Int32) = (bs.getD 0 0)
    · skip
      obtain ⟨cl376, Ar376, qk376, S376, Ng376, H376, G376⟩ := id prem1
      obtain ⟨cl378, Ar378, qk378, S378, Ng378, H378, G378⟩ := id prem1
      have hin378 := inb_of (j := (1 : Int32)) S378 ⟨by decide, by decide⟩
      obtain ⟨cl379, Ar379, qk379, S379, Ng379, H379, G379⟩ := id prem0
      have hin379 := inb_of (j := (1 : Int32)) S379 ⟨by decide, by decide⟩
      refine Go.of (T' := T0) (f' := (mkF m 21 #[rv xc, rv xg, iv 1] [(.int (bs.getD 1 0)), (.int 97)])) (fun _ k => XS.icmpYes X0.here hx rfl (pc0 := 21) (pc' := 26) rfl (D d17_21) rfl (teq hc375).1 (by decide) (by decide) (XS.iinc X0.here hx rfl (D d17_26) rfl (l' := #[rv xc, rv xg, iv 1]) rfl (XS.goto X0.here hx rfl (pc0 := 29) (pc' := 9) rfl (D d17_29) (by decide) (by decide) (XS.iloadN X0.here hx rfl (D d17_9) rfl (XS.aloadN X0.here hx rfl (D d17_10) rfl rfl (X0.arraylength hx (by rw [e0]; exact Ar376.1) (State.isArrayOf_alike hZ.alike Ar376.2.1) (g := (mkF m 11 #[rv xc, rv xg, iv 1] [(.ref xc), (.int 1)])) rfl rfl (D d17_11) _ (by rw [len_of S376 Ng376]; exact (XS.icmpNo X0.here hx rfl (D d17_12) rfl (tlt (by decide : (1 : Int32) < (3 : Int32))).2.1 (XS.aloadN X0.here hx rfl (D d17_15) rfl rfl (XS.iloadN X0.here hx rfl (D d17_16) rfl (X0.baloadBytes hx (j := (1 : Int32)) (v := (.int 97)) (by rw [e0]; exact Ar378.1) (State.isArrayOf_alike hZ.alike Ar378.2.1) Ar378.2.2 hin378 (H378.at hin378 rfl) (g := (mkF m 17 #[rv xc, rv xg, iv 1] [(.int 1), (.ref xc)])) rfl rfl (D d17_17) _ (XS.aloadN X0.here hx rfl (D d17_18) rfl rfl (XS.iloadN X0.here hx rfl (D d17_19) rfl (X0.baloadBytes hx (j := (1 : Int32)) (v := (.int (bs.getD 1 0))) (by rw [e0]; exact Ar379.1) (State.isArrayOf_alike hZ.alike Ar379.2.1) Ar379.2.2 hin379 (H379.at hin379 (own_mg bs 1)) (g := (mkF m 20 #[rv xc, rv xg, iv 1] [(.int 1), (.ref xg), (.int 97)])) rfl rfl (D d17_20) _ k)))))))))))))) ?_
      by_cases hc380 : (97 : Int32) = (bs.getD 1 0)
      · skip
        obtain ⟨cl381, Ar381, qk381, S381, Ng381, H381, G381⟩ := id prem1
        obtain ⟨cl383, Ar383, qk383, S383, Ng383, H383, G383⟩ := id prem1
        have hin383 := inb_of (j := (2 : Int32)) S383 ⟨by decide, by decide⟩
        obtain ⟨cl384, Ar384, qk384, S384, Ng384, H384, G384⟩ := id prem0
        have hin384 := inb_of (j := (2 : Int32)) S384 ⟨by decide, by decide⟩
        refine Go.of (T' := T0) (f' := (mkF m 21 #[rv xc, rv xg, iv 2] [(.int (bs.getD 2 0)), (.int 112)])) (fun _ k => XS.icmpYes X0.here hx rfl (pc0 := 21) (pc' := 26) rfl (D d17_21) rfl (teq hc380).1 (by decide) (by decide) (XS.iinc X0.here hx rfl (D d17_26) rfl (l' := #[rv xc, rv xg, iv 2]) rfl (XS.goto X0.here hx rfl (pc0 := 29) (pc' := 9) rfl (D d17_29) (by decide) (by decide) (XS.iloadN X0.here hx rfl (D d17_9) rfl (XS.aloadN X0.here hx rfl (D d17_10) rfl rfl (X0.arraylength hx (by rw [e0]; exact Ar381.1) (State.isArrayOf_alike hZ.alike Ar381.2.1) (g := (mkF m 11 #[rv xc, rv xg, iv 2] [(.ref xc), (.int 2)])) rfl rfl (D d17_11) _ (by rw [len_of S381 Ng381]; exact (XS.icmpNo X0.here hx rfl (D d17_12) rfl (tlt (by decide : (2 : Int32) < (3 : Int32))).2.1 (XS.aloadN X0.here hx rfl (D d17_15) rfl rfl (XS.iloadN X0.here hx rfl (D d17_16) rfl (X0.baloadBytes hx (j := (2 : Int32)) (v := (.int 112)) (by rw [e0]; exact Ar383.1) (State.isArrayOf_alike hZ.alike Ar383.2.1) Ar383.2.2 hin383 (H383.at hin383 rfl) (g := (mkF m 17 #[rv xc, rv xg, iv 2] [(.int 2), (.ref xc)])) rfl rfl (D d17_17) _ (XS.aloadN X0.here hx rfl (D d17_18) rfl rfl (XS.iloadN X0.here hx rfl (D d17_19) rfl (X0.baloadBytes hx (j := (2 : Int32)) (v := (.int (bs.getD 2 0))) (by rw [e0]; exact Ar384.1) (State.isArrayOf_alike hZ.alike Ar384.2.1) Ar384.2.2 hin384 (H384.at hin384 (own_mg bs 2)) (g := (mkF m 20 #[rv xc, rv xg, iv 2] [(.int 2), (.ref xg), (.int 112)])) rfl rfl (D d17_20) _ k)))))))))))))) ?_
        by_cases hc385 : (112 : Int32) = (bs.getD 2 0)
        · skip
          obtain ⟨cl386, Ar386, qk386, S386, Ng386, H386, G386⟩ := id prem1
          refine Go.of (T' := T0) (f' := (mkF m 33 #[rv xc, rv xg, iv 3] [(.int 1)])) (fun _ k => XS.icmpYes X0.here hx rfl (pc0 := 21) (pc' := 26) rfl (D d17_21) rfl (teq hc385).1 (by decide) (by decide) (XS.iinc X0.here hx rfl (D d17_26) rfl (l' := #[rv xc, rv xg, iv 3]) rfl (XS.goto X0.here hx rfl (pc0 := 29) (pc' := 9) rfl (D d17_29) (by decide) (by decide) (XS.iloadN X0.here hx rfl (D d17_9) rfl (XS.aloadN X0.here hx rfl (D d17_10) rfl rfl (X0.arraylength hx (by rw [e0]; exact Ar386.1) (State.isArrayOf_alike hZ.alike Ar386.2.1) (g := (mkF m 11 #[rv xc, rv xg, iv 3] [(.ref xc), (.int 3)])) rfl rfl (D d17_11) _ (by rw [len_of S386 Ng386]; exact (XS.icmpYes X0.here hx rfl (pc0 := 12) (pc' := 32) rfl (D d17_12) rfl (flt (by decide : ¬ ((3 : Int32) < (3 : Int32)))).2.1 (by decide) (by decide) (XS.iconst X0.here hx rfl (D d17_32) k))))))))) ?_
          exact Go.retB X0 hx hlk hret (by simp) (D d17_33) (by decide) (by decide) (z' := (1 : Int32)) rfl (by rw [e0]; exact ⟨by rw [own_eq_map, if_pos rfl, if_pos hc375.symm, if_pos hc380.symm, if_pos hc385.symm], rfl, by simp⟩)
        · skip
          refine Go.of (T' := T0) (f' := (mkF m 25 #[rv xc, rv xg, iv 2] [(.int 0)])) (fun _ k => XS.icmpNo X0.here hx rfl (D d17_21) rfl (feq hc385).1 (XS.iconst X0.here hx rfl (D d17_24) k)) ?_
          exact Go.retB X0 hx hlk hret (by simp) (D d17_25) (by decide) (by decide) (z' := (0 : Int32)) rfl (by rw [e0]; exact ⟨by rw [own_eq_map, if_pos rfl, if_pos hc375.symm, if_pos hc380.symm, if_neg (fun q => hc385 q.symm)], rfl, by simp⟩)
      · skip
        refine Go.of (T' := T0) (f' := (mkF m 25 #[rv xc, rv xg, iv 1] [(.int 0)])) (fun _ k => XS.icmpNo X0.here hx rfl (D d17_21) rfl (feq hc380).1 (XS.iconst X0.here hx rfl (D d17_24) k)) ?_
        exact Go.retB X0 hx hlk hret (by simp) (D d17_25) (by decide) (by decide) (z' := (0 : Int32)) rfl (by rw [e0]; exact ⟨by rw [own_eq_map, if_pos rfl, if_pos hc375.symm, if_neg (fun q => hc380 q.symm)], rfl, by simp⟩)
    · skip
      refine Go.of (T' := T0) (f' := (mkF m 25 #[rv xc, rv xg, iv 0] [(.int 0)])) (fun _ k => XS.icmpNo X0.here hx rfl (D d17_21) rfl (feq hc375).1 (XS.iconst X0.here hx rfl (D d17_24) k)) ?_
      exact Go.retB X0 hx hlk hret (by simp) (D d17_25) (by decide) (by decide) (z' := (0 : Int32)) rfl (by rw [e0]; exact ⟨by rw [own_eq_map, if_pos rfl, if_neg (fun q => hc375 q.symm)], rfl, by simp⟩)
  · skip
    refine Go.of (T' := T0) (f' := (mkF m 35 #[rv xc, rv xg, .unset] [(.int 0)])) (fun _ k => XS.icmpYes X0.here hx rfl (pc0 := 4) (pc' := 34) rfl (D d17_4) rfl (feq hc370).2 (by decide) (by decide) (XS.iconst X0.here hx rfl (D d17_34) k)) ?_
    exact Go.retB X0 hx hlk hret (by simp) (D d17_35) (by decide) (by decide) (z' := (0 : Int32)) rfl (by rw [e0]; exact ⟨by rw [own_eq_map, if_neg (fun q => hc370 q.symm)], rfl, by simp⟩)
theorem ef_rm_eqg_map (m : MethodId) (so : Addr) (cb : Addr) : entryFrame m #[(.ref so), (.ref cb)] 3 = mkF m 0 #[rv so, rv cb, .unset] [] := by first | (simp [entryFrame, mkF, argsToLocals, Value.category]; done) | rfl
set_option maxRecDepth 65536 in
set_option maxHeartbeats 40000000 in
theorem rm_eqg_map {l : Launch} {Z : State} {a0 : Array Value} {A : Nat → Addr} {KC : Nat → Cell} {IC : Nat → Int32} {VC : Nat → Value} (hw : ∀ d ∈ tables_1, d.before a0 Z = true) (G : own_Ctx Z A KC IC VC) (so : Addr) (cb : Addr) (sv : Addr) (kg : ClassId) (n : Int32) (bs : List Int32) (vb : Addr) (kc : ClassId) (vq : Int32) (h0 : Heap) (O0 : Ext Z.heap h0) (prem0 : Exa Z h0 so "java/lang/String") (prem1 : Fld Z h0 so "java/lang/String" "value" "[B" (.ref sv)) (prem2 : Fld Z h0 so "java/lang/String" "coder" "B" (.int (0 : Int32))) (prem3 : Arv Z h0 sv kg .byte n (bs.map Value.int) (.int (0 : Int32))) (prem4 : Exa Z h0 cb "java/lang/String") (prem5 : Fld Z h0 cb "java/lang/String" "coder" "B" (.int (0 : Int32))) (prem6 : Fld Z h0 cb "java/lang/String" "value" "[B" (.ref vb)) (prem7 : Arv Z h0 vb kc .byte (3 : Int32) [(.int (109 : Int32)), (.int (97 : Int32)), (.int (112 : Int32))] (.int (0 : Int32))) (prem8 : own_eq_map n bs = vq) :
    Ok l Z own_m17 jdk_42_method_66_code 3 (some .boolean) ({ frames := 1, cells := 0, slots := 0, locals := 14 } : Room) #[(.ref so), (.ref cb)] h0
      (fun v h L => v = some (.int vq) ∧ (h = h0) ∧ (L = [])) := by
  refine Ok.mk pn18 ?_
  intro p e s m below meth c T0 hx hby hml hown hnm hret hlk hZ e0 X0
  refine Go.cast (ef_rm_eqg_map m so cb) ?_
  obtain ⟨-, -, -, -, -, -, -, -, -, -, -, -, -, -, -, -, -, -, -, -, -, -, -, -, -, -, -, -, -, -, -, -, S_COMPACT_STRINGS, hne_s_COMPACT_STRINGS_0, -⟩ := id G
  have D := @hb _ _ hby
  have N0 := Fr.nil Z.heap.size
  have K0 : Keep h0 h0 [] := Keep.refl _ _
  refine Go.of (T' := T0) (f' := (mkF m 2 #[rv so, rv cb, .unset] [(.ref cb), (.ref so)])) (fun _ k => XS.aloadN X0.here hx rfl (D d16_0) rfl rfl (XS.aloadN X0.here hx rfl (D d16_1) rfl rfl k)) ?_
  by_cases hc388 : so = cb
  · skip
    refine Go.of (T' := T0) (f' := (mkF m 6 #[rv so, rv cb, .unset] [(.int 1)])) (fun _ k => Jvm.RoadKit.acmp (g := (mkF m 2 #[rv so, rv cb, .unset] [(.ref cb), (.ref so)])) X0 hx rfl rfl rfl (pc0 := 2) (pc' := 5) (same := true) rfl (D d16_2) rfl (decide_eq_true (congrArg Value.ref hc388)) (by decide) (by decide) (XS.iconst X0.here hx rfl (D d16_5) k)) ?_
    exact Go.retB X0 hx hlk hret (by simp) (D d16_6) (by decide) (by decide) (z' := (1 : Int32)) rfl (by rw [e0]; exact ⟨congrArg (fun z => some (Value.int z)) ((own_idt_map hc388 prem1 prem6 prem3 prem7 : own_eq_map n bs = 1).symm.trans prem8), rfl, by simp⟩)
  · skip
    obtain ⟨T389, X389, e389, st389⟩ := instY X0 hx hZ hown (own_w hw (i := 100) rfl) e0 (Ins.self prem4) (g := (mkF m 8 #[rv so, rv cb, .unset] [(.ref cb)])) rfl rfl (D d16_8)
    obtain ⟨T391, X391, e391, st391⟩ := castY X389 hx hZ hown (own_w hw (i := 100) rfl) e389 (Ins.self prem4) (g := (mkF m 15 #[rv so, rv cb, .unset] [(.ref cb)])) rfl rfl (D d16_15)
    obtain ⟨T392, X392, e392, st392⟩ := getS2 X391 hx hZ hown (host := "") (Or.inl (own_w hw (i := 20) rfl)) Via.refl e391 (Sta.ext O0 S_COMPACT_STRINGS) (g := (mkF m 19 #[rv so, rv cb, rv cb] [])) rfl (D d16_19)
    have hc393 : ¬ ((IC 0) = (0 : Int32)) := hne_s_COMPACT_STRINGS_0
    obtain ⟨T394, X394, e394, st394⟩ := getF X392 hx hZ hown (host := "") (Or.inl (own_w hw (i := 21) rfl)) Via.refl e392 prem2 (g := (mkF m 26 #[rv so, rv cb, rv cb] [(.ref so)])) rfl rfl (D d16_26)
    obtain ⟨T395, X395, e395, st395⟩ := getF X394 hx hZ hown (host := "") (Or.inl (own_w hw (i := 21) rfl)) Via.refl e394 prem5 (g := (mkF m 30 #[rv so, rv cb, rv cb] [(.ref cb), (.int 0)])) rfl rfl (D d16_30)
    obtain ⟨T397, X397, e397, st397⟩ := getF X395 hx hZ hown (host := "") (Or.inl (own_w hw (i := 14) rfl)) Via.refl e395 prem1 (g := (mkF m 37 #[rv so, rv cb, rv cb] [(.ref so)])) rfl rfl (D d16_37)
    obtain ⟨T398, X398, e398, st398⟩ := getF X397 hx hZ hown (host := "") (Or.inl (own_w hw (i := 14) rfl)) Via.refl e397 prem6 (g := (mkF m 41 #[rv so, rv cb, rv cb] [(.ref cb), (.ref sv)])) rfl rfl (D d16_41)
    obtain ⟨T399, v399, L399, X399, q399, st399⟩ := callSt X398 hx hZ (y := own_m14) hown (own_w hw (i := 101) rfl) (own_w hw (i := 102) rfl) (own_w hw (i := 34) rfl) (own_w hw (i := 103) rfl) (by decide) (rm_l1g_map hw G sv vb kg kc n bs h0 O0 prem3 prem7) e398 (W := 0) (by decide) (by decide) (by decide) (by decide) (g := (mkF m 44 #[rv so, rv cb, rv cb] [(.ref vb), (.ref sv)])) rfl (by rw [hml]; rfl) (argsL := [(.ref sv), (.ref vb)]) (rest := []) (lenOf pd16 rfl) rfl rfl (Nat.le_of_eq rfl) (D d16_44)
    obtain ⟨rfl, e399, rfl⟩ := q399
    have N399 := Fr.app N0 (Fr.nil _)
    refine Go.of (T' := T399) (f' := (mkF m 47 #[rv so, rv cb, rv cb] [(.int (own_eq_map n bs))])) (fun _ k => Jvm.RoadKit.acmp (g := (mkF m 2 #[rv so, rv cb, .unset] [(.ref cb), (.ref so)])) X0 hx rfl rfl rfl (pc0 := 2) (pc' := 7) (same := false) rfl (D d16_2) rfl (decide_eq_false fun q => hc388 (Value.ref.inj q)) (by decide) (by decide) (XS.aloadN X0.here hx rfl (D d16_7) rfl rfl (st389 _ (XS.ifNo X389.here hx rfl (D d16_11) rfl ((if0 _ _).trans (feq (by decide : ¬ ((1 : Int32) = (0 : Int32)))).1) (XS.aloadN X389.here hx rfl (D d16_14) rfl rfl (st391 _ (XS.astoreN X391.here hx rfl (D d16_18) rfl rfl (l' := #[rv so, rv cb, rv cb]) rfl (st392 _ (XS.ifNo X392.here hx rfl (D d16_22) rfl ((if0 _ _).trans (feq hc393).1) (XS.aloadN X392.here hx rfl (D d16_25) rfl rfl (st394 _ (XS.aloadN X394.here hx rfl (D d16_29) rfl rfl (st395 _ (XS.icmpNo X395.here hx rfl (D d16_33) rfl (teq (by decide : (0 : Int32) = (0 : Int32))).2 (XS.aloadN X395.here hx rfl (D d16_36) rfl rfl (st397 _ (XS.aloadN X397.here hx rfl (D d16_40) rfl rfl (st398 _ (st399 _ k))))))))))))))))))) ?_
    by_cases hc400 : (own_eq_map n bs) = (0 : Int32)
    · skip
      refine Go.of (T' := T399) (f' := (mkF m 55 #[rv so, rv cb, rv cb] [(.int 0)])) (fun _ k => XS.ifYes X399.here hx rfl (pc0 := 47) (pc' := 54) rfl (D d16_47) rfl ((if0 _ _).trans (teq hc400).1) (by decide) (by decide) (XS.iconst X399.here hx rfl (D d16_54) k)) ?_
      exact Go.retB X399 hx hlk hret (by simp) (D d16_55) (by decide) (by decide) (z' := (0 : Int32)) rfl (by rw [e399]; exact ⟨congrArg (fun z => some (Value.int z)) ((hc400 : own_eq_map n bs = 0).symm.trans prem8), rfl, by simp⟩)
    · skip
      refine Go.of (T' := T399) (f' := (mkF m 55 #[rv so, rv cb, rv cb] [(.int 1)])) (fun _ k => XS.ifNo X399.here hx rfl (D d16_47) rfl ((if0 _ _).trans (feq hc400).1) (XS.iconst X399.here hx rfl (D d16_50) (XS.goto X399.here hx rfl (pc0 := 51) (pc' := 55) rfl (D d16_51) (by decide) (by decide) k))) ?_
      exact Go.retB X399 hx hlk hret (by simp) (D d16_55) (by decide) (by decide) (z' := (1 : Int32)) rfl (by rw [e399]; exact ⟨congrArg (fun z => some (Value.int z)) (((Classical.byContradiction fun q => hc400 (own_01_map q)) : own_eq_map n bs = 1).symm.trans prem8), rfl, by simp⟩)
theorem ef_rm_eqn_map (m : MethodId) {A : Nat → Addr} (so : Addr) : entryFrame m #[(.ref (A 14)), (.ref so)] 3 = mkF m 0 #[rv (A 14), rv so, .unset] [] := by first | (simp [entryFrame, mkF, argsToLocals, Value.category]; done) | rfl
set_option maxRecDepth 65536 in
set_option maxHeartbeats 40000000 in
theorem rm_eqn_map {l : Launch} {Z : State} {a0 : Array Value} {A : Nat → Addr} {KC : Nat → Cell} {IC : Nat → Int32} {VC : Nat → Value} (hw : ∀ d ∈ tables_1, d.before a0 Z = true) (G : own_Ctx Z A KC IC VC) (so : Addr) (sv : Addr) (kg : ClassId) (n : Int32) (bs : List Int32) (vq : Int32) (h0 : Heap) (O0 : Ext Z.heap h0) (prem0 : Exa Z h0 so "java/lang/String") (prem1 : Fld Z h0 so "java/lang/String" "value" "[B" (.ref sv)) (prem2 : Fld Z h0 so "java/lang/String" "coder" "B" (.int (0 : Int32))) (prem3 : Arv Z h0 sv kg .byte n (bs.map Value.int) (.int (0 : Int32))) (prem4 : own_eq_map n bs = vq) :
    Ok l Z own_m17 jdk_42_method_66_code 3 (some .boolean) ({ frames := 1, cells := 0, slots := 0, locals := 14 } : Room) #[(.ref (A 14)), (.ref so)] h0
      (fun v h L => v = some (.int vq) ∧ (h = h0) ∧ (L = [])) := by
  refine Ok.mk pn18 ?_
  intro p e s m below meth c T0 hx hby hml hown hnm hret hlk hZ e0 X0
  refine Go.cast (ef_rm_eqn_map m so) ?_
  obtain ⟨-, -, -, -, -, -, -, -, -, -, -, -, -, -, -, -, -, -, -, -, -, -, -, -, -, -, -, -, -, -, F_s_MAP_elementName_coder, F_s_MAP_elementName_value, S_COMPACT_STRINGS, hne_s_COMPACT_STRINGS_0, -, -, -, -, -, V_s_MAP_elementName_value, -⟩ := id G
  have D := @hb _ _ hby
  have N0 := Fr.nil Z.heap.size
  have K0 : Keep h0 h0 [] := Keep.refl _ _
  refine Go.of (T' := T0) (f' := (mkF m 2 #[rv (A 14), rv so, .unset] [(.ref so), (.ref (A 14))])) (fun _ k => XS.aloadN X0.here hx rfl (D d16_0) rfl rfl (XS.aloadN X0.here hx rfl (D d16_1) rfl rfl k)) ?_
  by_cases hc401 : (A 14) = so
  · skip
    refine Go.of (T' := T0) (f' := (mkF m 6 #[rv (A 14), rv so, .unset] [(.int 1)])) (fun _ k => Jvm.RoadKit.acmp (g := (mkF m 2 #[rv (A 14), rv so, .unset] [(.ref so), (.ref (A 14))])) X0 hx rfl rfl rfl (pc0 := 2) (pc' := 5) (same := true) rfl (D d16_2) rfl (decide_eq_true (congrArg Value.ref hc401)) (by decide) (by decide) (XS.iconst X0.here hx rfl (D d16_5) k)) ?_
    exact Go.retB X0 hx hlk hret (by simp) (D d16_6) (by decide) (by decide) (z' := (1 : Int32)) rfl (by rw [e0]; exact ⟨congrArg (fun z => some (Value.int z)) ((own_idt_map (Eq.symm hc401) prem1 (Fld.ext O0 F_s_MAP_elementName_value) prem3 (Arv.ext V_s_MAP_elementName_value O0) : own_eq_map n bs = 1).symm.trans prem4), rfl, by simp⟩)
  · skip
    obtain ⟨T402, X402, e402, st402⟩ := instY X0 hx hZ hown (own_w hw (i := 100) rfl) e0 (Ins.self prem0) (g := (mkF m 8 #[rv (A 14), rv so, .unset] [(.ref so)])) rfl rfl (D d16_8)
    obtain ⟨T404, X404, e404, st404⟩ := castY X402 hx hZ hown (own_w hw (i := 100) rfl) e402 (Ins.self prem0) (g := (mkF m 15 #[rv (A 14), rv so, .unset] [(.ref so)])) rfl rfl (D d16_15)
    obtain ⟨T405, X405, e405, st405⟩ := getS2 X404 hx hZ hown (host := "") (Or.inl (own_w hw (i := 20) rfl)) Via.refl e404 (Sta.ext O0 S_COMPACT_STRINGS) (g := (mkF m 19 #[rv (A 14), rv so, rv so] [])) rfl (D d16_19)
    have hc406 : ¬ ((IC 0) = (0 : Int32)) := hne_s_COMPACT_STRINGS_0
    obtain ⟨T407, X407, e407, st407⟩ := getF X405 hx hZ hown (host := "") (Or.inl (own_w hw (i := 21) rfl)) Via.refl e405 (Fld.ext O0 F_s_MAP_elementName_coder) (g := (mkF m 26 #[rv (A 14), rv so, rv so] [(.ref (A 14))])) rfl rfl (D d16_26)
    obtain ⟨T408, X408, e408, st408⟩ := getF X407 hx hZ hown (host := "") (Or.inl (own_w hw (i := 21) rfl)) Via.refl e407 prem2 (g := (mkF m 30 #[rv (A 14), rv so, rv so] [(.ref so), (.int 0)])) rfl rfl (D d16_30)
    obtain ⟨T410, X410, e410, st410⟩ := getF X408 hx hZ hown (host := "") (Or.inl (own_w hw (i := 14) rfl)) Via.refl e408 (Fld.ext O0 F_s_MAP_elementName_value) (g := (mkF m 37 #[rv (A 14), rv so, rv so] [(.ref (A 14))])) rfl rfl (D d16_37)
    obtain ⟨T411, X411, e411, st411⟩ := getF X410 hx hZ hown (host := "") (Or.inl (own_w hw (i := 14) rfl)) Via.refl e410 prem1 (g := (mkF m 41 #[rv (A 14), rv so, rv so] [(.ref so), (.ref (A 15))])) rfl rfl (D d16_41)
    obtain ⟨T412, v412, L412, X412, q412, st412⟩ := callSt X411 hx hZ (y := own_m14) hown (own_w hw (i := 101) rfl) (own_w hw (i := 102) rfl) (own_w hw (i := 34) rfl) (own_w hw (i := 103) rfl) (by decide) (rm_l1n_map hw G ((A 15)) sv kg ((KC 5).cls) n bs h0 O0 prem3 (Arv.ext V_s_MAP_elementName_value O0)) e411 (W := 0) (by decide) (by decide) (by decide) (by decide) (g := (mkF m 44 #[rv (A 14), rv so, rv so] [(.ref sv), (.ref (A 15))])) rfl (by rw [hml]; rfl) (argsL := [(.ref (A 15)), (.ref sv)]) (rest := []) (lenOf pd16 rfl) rfl rfl (Nat.le_of_eq rfl) (D d16_44)
    obtain ⟨rfl, e412, rfl⟩ := q412
    have N412 := Fr.app N0 (Fr.nil _)
    refine Go.of (T' := T412) (f' := (mkF m 47 #[rv (A 14), rv so, rv so] [(.int (own_eq_map n bs))])) (fun _ k => Jvm.RoadKit.acmp (g := (mkF m 2 #[rv (A 14), rv so, .unset] [(.ref so), (.ref (A 14))])) X0 hx rfl rfl rfl (pc0 := 2) (pc' := 7) (same := false) rfl (D d16_2) rfl (decide_eq_false fun q => hc401 (Value.ref.inj q)) (by decide) (by decide) (XS.aloadN X0.here hx rfl (D d16_7) rfl rfl (st402 _ (XS.ifNo X402.here hx rfl (D d16_11) rfl ((if0 _ _).trans (feq (by decide : ¬ ((1 : Int32) = (0 : Int32)))).1) (XS.aloadN X402.here hx rfl (D d16_14) rfl rfl (st404 _ (XS.astoreN X404.here hx rfl (D d16_18) rfl rfl (l' := #[rv (A 14), rv so, rv so]) rfl (st405 _ (XS.ifNo X405.here hx rfl (D d16_22) rfl ((if0 _ _).trans (feq hc406).1) (XS.aloadN X405.here hx rfl (D d16_25) rfl rfl (st407 _ (XS.aloadN X407.here hx rfl (D d16_29) rfl rfl (st408 _ (XS.icmpNo X408.here hx rfl (D d16_33) rfl (teq (by decide : (0 : Int32) = (0 : Int32))).2 (XS.aloadN X408.here hx rfl (D d16_36) rfl rfl (st410 _ (XS.aloadN X410.here hx rfl (D d16_40) rfl rfl (st411 _ (st412 _ k))))))))))))))))))) ?_
    by_cases hc413 : (own_eq_map n bs) = (0 : Int32)
    · skip
      refine Go.of (T' := T412) (f' := (mkF m 55 #[rv (A 14), rv so, rv so] [(.int 0)])) (fun _ k => XS.ifYes X412.here hx rfl (pc0 := 47) (pc' := 54) rfl (D d16_47) rfl ((if0 _ _).trans (teq hc413).1) (by decide) (by decide) (XS.iconst X412.here hx rfl (D d16_54) k)) ?_
      exact Go.retB X412 hx hlk hret (by simp) (D d16_55) (by decide) (by decide) (z' := (0 : Int32)) rfl (by rw [e412]; exact ⟨congrArg (fun z => some (Value.int z)) ((hc413 : own_eq_map n bs = 0).symm.trans prem4), rfl, by simp⟩)
    · skip
      refine Go.of (T' := T412) (f' := (mkF m 55 #[rv (A 14), rv so, rv so] [(.int 1)])) (fun _ k => XS.ifNo X412.here hx rfl (D d16_47) rfl ((if0 _ _).trans (feq hc413).1) (XS.iconst X412.here hx rfl (D d16_50) (XS.goto X412.here hx rfl (pc0 := 51) (pc' := 55) rfl (D d16_51) (by decide) (by decide) k))) ?_
      exact Go.retB X412 hx hlk hret (by simp) (D d16_55) (by decide) (by decide) (z' := (1 : Int32)) rfl (by rw [e412]; exact ⟨congrArg (fun z => some (Value.int z)) (((Classical.byContradiction fun q => hc413 (own_01_map q)) : own_eq_map n bs = 1).symm.trans prem4), rfl, by simp⟩)
theorem d1_0 : decode jdk_42_method_152_code 0 = .ok (.getstatic 38, 3) := by decide +kernel
theorem d1_3 : decode jdk_42_method_152_code 3 = .ok (.ifCond .eq 10, 3) := by decide +kernel
theorem d1_6 : decode jdk_42_method_152_code 6 = .ok (.aload_n 0, 1) := by decide +kernel
theorem d1_7 : decode jdk_42_method_152_code 7 = .ok (.getfield 15, 3) := by decide +kernel
theorem d1_10 : decode jdk_42_method_152_code 10 = .ok (.goto 4, 3) := by decide +kernel
theorem d1_14 : decode jdk_42_method_152_code 14 = .ok (.ireturn, 1) := by decide +kernel
abbrev own_m19 : MethodName := (⟨"java/lang/String", "coder", "()B"⟩ : MethodName)
theorem ef_rm_coder (m : MethodId) (so : Addr) : entryFrame m #[(.ref so)] 1 = mkF m 0 #[rv so] [] := by first | (simp [entryFrame, mkF, argsToLocals, Value.category]; done) | rfl
theorem pn20 : plainFor (⟨"java/lang/String", "coder", "()B"⟩ : MethodName) = true := by first | exact plainFor_of_name (by first | (simp [plainName, overriddenIn]; done) | decide +kernel) | decide +kernel
set_option maxRecDepth 65536 in
set_option maxHeartbeats 40000000 in
theorem rm_coder {l : Launch} {Z : State} {a0 : Array Value} {A : Nat → Addr} {KC : Nat → Cell} {IC : Nat → Int32} {VC : Nat → Value} (hw : ∀ d ∈ tables_1, d.before a0 Z = true) (G : own_Ctx Z A KC IC VC) (so : Addr)  (h0 : Heap) (O0 : Ext Z.heap h0) (prem0 : Fld Z h0 so "java/lang/String" "coder" "B" (.int (0 : Int32))) :
    Ok l Z own_m19 jdk_42_method_152_code 1 (some .byte) ({ frames := 0, cells := 0, slots := 0, locals := 0 } : Room) #[(.ref so)] h0
      (fun v h L => v = some (.int (0 : Int32)) ∧ (h = h0) ∧ (L = [])) := by
  refine Ok.mk pn20 ?_
  intro p e s m below meth c T0 hx hby hml hown hnm hret hlk hZ e0 X0
  refine Go.cast (ef_rm_coder m so) ?_
  obtain ⟨-, -, -, -, -, -, -, -, -, -, -, -, -, -, -, -, -, -, -, -, -, -, -, -, -, -, -, -, -, -, -, -, S_COMPACT_STRINGS, hne_s_COMPACT_STRINGS_0, -⟩ := id G
  have D := @hb _ _ hby
  have N0 := Fr.nil Z.heap.size
  have K0 : Keep h0 h0 [] := Keep.refl _ _
  obtain ⟨T414, X414, e414, st414⟩ := getS2 X0 hx hZ hown (host := "") (Or.inl (own_w hw (i := 20) rfl)) Via.refl e0 (Sta.ext O0 S_COMPACT_STRINGS) (g := (mkF m 0 #[rv so] [])) rfl (D d1_0)
  have hc415 : ¬ ((IC 0) = (0 : Int32)) := hne_s_COMPACT_STRINGS_0
  obtain ⟨T416, X416, e416, st416⟩ := getF X414 hx hZ hown (host := "") (Or.inl (own_w hw (i := 21) rfl)) Via.refl e414 prem0 (g := (mkF m 7 #[rv so] [(.ref so)])) rfl rfl (D d1_7)
  refine Go.of (T' := T416) (f' := (mkF m 14 #[rv so] [(.int 0)])) (fun _ k => st414 _ (XS.ifNo X414.here hx rfl (D d1_3) rfl ((if0 _ _).trans (feq hc415).1) (XS.aloadN X414.here hx rfl (D d1_6) rfl rfl (st416 _ (XS.goto X416.here hx rfl (pc0 := 10) (pc' := 14) rfl (D d1_10) (by decide) (by decide) k))))) ?_
  exact Go.retB X416 hx hlk hret (by simp) (D d1_14) (by decide) (by decide) (z' := (0 : Int32)) rfl (by rw [e416]; exact ⟨rfl, rfl, by simp⟩)
theorem d3_0 : decode jdk_42_method_154_code 0 = .ok (.getstatic 38, 3) := by decide +kernel
theorem d3_3 : decode jdk_42_method_154_code 3 = .ok (.ifCond .eq 14, 3) := by decide +kernel
theorem d3_6 : decode jdk_42_method_154_code 6 = .ok (.aload_n 0, 1) := by decide +kernel
theorem d3_7 : decode jdk_42_method_154_code 7 = .ok (.getfield 15, 3) := by decide +kernel
theorem d3_10 : decode jdk_42_method_154_code 10 = .ok (.ifCond .ne 7, 3) := by decide +kernel
theorem d3_13 : decode jdk_42_method_154_code 13 = .ok (.iconst 1, 1) := by decide +kernel
theorem d3_14 : decode jdk_42_method_154_code 14 = .ok (.goto 4, 3) := by decide +kernel
theorem d3_18 : decode jdk_42_method_154_code 18 = .ok (.ireturn, 1) := by decide +kernel
abbrev own_m21 : MethodName := (⟨"java/lang/String", "isLatin1", "()Z"⟩ : MethodName)
theorem ef_rm_lat (m : MethodId) (so : Addr) : entryFrame m #[(.ref so)] 1 = mkF m 0 #[rv so] [] := by first | (simp [entryFrame, mkF, argsToLocals, Value.category]; done) | rfl
theorem pn22 : plainFor (⟨"java/lang/String", "isLatin1", "()Z"⟩ : MethodName) = true := by first | exact plainFor_of_name (by first | (simp [plainName, overriddenIn]; done) | decide +kernel) | decide +kernel
set_option maxRecDepth 65536 in
set_option maxHeartbeats 40000000 in
theorem rm_lat {l : Launch} {Z : State} {a0 : Array Value} {A : Nat → Addr} {KC : Nat → Cell} {IC : Nat → Int32} {VC : Nat → Value} (hw : ∀ d ∈ tables_1, d.before a0 Z = true) (G : own_Ctx Z A KC IC VC) (so : Addr)  (h0 : Heap) (O0 : Ext Z.heap h0) (prem0 : Fld Z h0 so "java/lang/String" "coder" "B" (.int (0 : Int32))) :
    Ok l Z own_m21 jdk_42_method_154_code 1 (some .boolean) ({ frames := 0, cells := 0, slots := 0, locals := 0 } : Room) #[(.ref so)] h0
      (fun v h L => v = some (.int (1 : Int32)) ∧ (h = h0) ∧ (L = [])) := by
  refine Ok.mk pn22 ?_
  intro p e s m below meth c T0 hx hby hml hown hnm hret hlk hZ e0 X0
  refine Go.cast (ef_rm_lat m so) ?_
  obtain ⟨-, -, -, -, -, -, -, -, -, -, -, -, -, -, -, -, -, -, -, -, -, -, -, -, -, -, -, -, -, -, -, -, S_COMPACT_STRINGS, hne_s_COMPACT_STRINGS_0, -⟩ := id G
  have D := @hb _ _ hby
  have N0 := Fr.nil Z.heap.size
  have K0 : Keep h0 h0 [] := Keep.refl _ _
  obtain ⟨T417, X417, e417, st417⟩ := getS2 X0 hx hZ hown (host := "") (Or.inl (own_w hw (i := 20) rfl)) Via.refl e0 (Sta.ext O0 S_COMPACT_STRINGS) (g := (mkF m 0 #[rv so] [])) rfl (D d3_0)
  have hc418 : ¬ ((IC 0) = (0 : Int32)) := hne_s_COMPACT_STRINGS_0
  obtain ⟨T419, X419, e419, st419⟩ := getF X417 hx hZ hown (host := "") (Or.inl (own_w hw (i := 21) rfl)) Via.refl e417 prem0 (g := (mkF m 7 #[rv so] [(.ref so)])) rfl rfl (D d3_7)
  refine Go.of (T' := T419) (f' := (mkF m 18 #[rv so] [(.int 1)])) (fun _ k => st417 _ (XS.ifNo X417.here hx rfl (D d3_3) rfl ((if0 _ _).trans (feq hc418).1) (XS.aloadN X417.here hx rfl (D d3_6) rfl rfl (st419 _ (XS.ifNo X419.here hx rfl (D d3_10) rfl ((if0 _ _).trans (teq (by decide : (0 : Int32) = (0 : Int32))).2) (XS.iconst X419.here hx rfl (D d3_13) (XS.goto X419.here hx rfl (pc0 := 14) (pc' := 18) rfl (D d3_14) (by decide) (by decide) k))))))) ?_
  exact Go.retB X419 hx hlk hret (by simp) (D d3_18) (by decide) (by decide) (z' := (1 : Int32)) rfl (by rw [e419]; exact ⟨rfl, rfl, by simp⟩)
theorem d6_0 : decode jdk_41_method_11_code 0 = .ok (.iload_n 0, 1) := by decide +kernel
theorem d6_1 : decode jdk_41_method_11_code 1 = .ok (.ifCond .lt 8, 3) := by decide +kernel
theorem d6_4 : decode jdk_41_method_11_code 4 = .ok (.iload_n 0, 1) := by decide +kernel
theorem d6_5 : decode jdk_41_method_11_code 5 = .ok (.iload_n 1, 1) := by decide +kernel
theorem d6_6 : decode jdk_41_method_11_code 6 = .ok (.if_icmp .lt 10, 3) := by decide +kernel
theorem d6_16 : decode jdk_41_method_11_code 16 = .ok (.iload_n 0, 1) := by decide +kernel
theorem d6_17 : decode jdk_41_method_11_code 17 = .ok (.ireturn, 1) := by decide +kernel
abbrev own_m23 : MethodName := (⟨"jdk/internal/util/Preconditions", "checkIndex", "(IILjava/util/function/BiFunction;)I"⟩ : MethodName)
theorem ef_rm_pcir (m : MethodId) (i : Int32) (n : Int32) (fa : Addr) : entryFrame m #[(.int i), (.int n), (.ref fa)] 3 = mkF m 0 #[iv i, iv n, rv fa] [] := by first | (simp [entryFrame, mkF, argsToLocals, Value.category]; done) | rfl
theorem pn24 : plainFor (⟨"jdk/internal/util/Preconditions", "checkIndex", "(IILjava/util/function/BiFunction;)I"⟩ : MethodName) = true := by first | exact plainFor_of_name (by first | (simp [plainName, overriddenIn]; done) | decide +kernel) | decide +kernel
set_option maxRecDepth 65536 in
set_option maxHeartbeats 40000000 in
theorem rm_pcir {l : Launch} {Z : State} {a0 : Array Value} {A : Nat → Addr} {KC : Nat → Cell} {IC : Nat → Int32} {VC : Nat → Value} (hw : ∀ d ∈ tables_1, d.before a0 Z = true) (G : own_Ctx Z A KC IC VC) (i : Int32) (n : Int32) (fa : Addr)  (h0 : Heap) (O0 : Ext Z.heap h0) (prem0 : ¬ (i < (0 : Int32))) (prem1 : i < n) :
    Ok l Z own_m23 jdk_41_method_11_code 3 (some .int) ({ frames := 0, cells := 0, slots := 0, locals := 0 } : Room) #[(.int i), (.int n), (.ref fa)] h0
      (fun v h L => v = some (.int i) ∧ (h = h0) ∧ (L = [])) := by
  refine Ok.mk pn24 ?_
  intro p e s m below meth c T0 hx hby hml hown hnm hret hlk hZ e0 X0
  refine Go.cast (ef_rm_pcir m i n fa) ?_
  have D := @hb _ _ hby
  have N0 := Fr.nil Z.heap.size
  have K0 : Keep h0 h0 [] := Keep.refl _ _
  have hc421 : ¬ (i < (0 : Int32)) := prem0
  have hc422 : i < n := prem1
  refine Go.of (T' := T0) (f' := (mkF m 17 #[iv i, iv n, rv fa] [(.int i)])) (fun _ k => XS.iloadN X0.here hx rfl (D d6_0) rfl (XS.ifNo X0.here hx rfl (D d6_1) rfl ((if0 _ _).trans (flt hc421).1) (XS.iloadN X0.here hx rfl (D d6_4) rfl (XS.iloadN X0.here hx rfl (D d6_5) rfl (XS.icmpYes X0.here hx rfl (pc0 := 6) (pc' := 16) rfl (D d6_6) rfl (tlt hc422).1 (by decide) (by decide) (XS.iloadN X0.here hx rfl (D d6_16) rfl k)))))) ?_
  exact Go.retI X0 hx hlk hret (D d6_17) (by decide) (by decide) (by rw [e0]; exact ⟨rfl, rfl, by simp⟩)
theorem ef_rm_pcin (m : MethodId) (i : Int32) (n : Int32) : entryFrame m #[(.int i), (.int n), .null] 3 = mkF m 0 #[iv i, iv n, .val .null] [] := by first | (simp [entryFrame, mkF, argsToLocals, Value.category]; done) | rfl
set_option maxRecDepth 65536 in
set_option maxHeartbeats 40000000 in
theorem rm_pcin {l : Launch} {Z : State} {a0 : Array Value} {A : Nat → Addr} {KC : Nat → Cell} {IC : Nat → Int32} {VC : Nat → Value} (hw : ∀ d ∈ tables_1, d.before a0 Z = true) (G : own_Ctx Z A KC IC VC) (i : Int32) (n : Int32)  (h0 : Heap) (O0 : Ext Z.heap h0) (prem0 : ¬ (i < (0 : Int32))) (prem1 : i < n) :
    Ok l Z own_m23 jdk_41_method_11_code 3 (some .int) ({ frames := 0, cells := 0, slots := 0, locals := 0 } : Room) #[(.int i), (.int n), .null] h0
      (fun v h L => v = some (.int i) ∧ (h = h0) ∧ (L = [])) := by
  refine Ok.mk pn24 ?_
  intro p e s m below meth c T0 hx hby hml hown hnm hret hlk hZ e0 X0
  refine Go.cast (ef_rm_pcin m i n) ?_
  have D := @hb _ _ hby
  have N0 := Fr.nil Z.heap.size
  have K0 : Keep h0 h0 [] := Keep.refl _ _
  have hc423 : ¬ (i < (0 : Int32)) := prem0
  have hc424 : i < n := prem1
  refine Go.of (T' := T0) (f' := (mkF m 17 #[iv i, iv n, .val .null] [(.int i)])) (fun _ k => XS.iloadN X0.here hx rfl (D d6_0) rfl (XS.ifNo X0.here hx rfl (D d6_1) rfl ((if0 _ _).trans (flt hc423).1) (XS.iloadN X0.here hx rfl (D d6_4) rfl (XS.iloadN X0.here hx rfl (D d6_5) rfl (XS.icmpYes X0.here hx rfl (pc0 := 6) (pc' := 16) rfl (D d6_6) rfl (tlt hc424).1 (by decide) (by decide) (XS.iloadN X0.here hx rfl (D d6_16) rfl k)))))) ?_
  exact Go.retI X0 hx hlk hret (D d6_17) (by decide) (by decide) (by rw [e0]; exact ⟨rfl, rfl, by simp⟩)
theorem d5_0 : decode jdk_42_method_155_code 0 = .ok (.iload_n 0, 1) := by decide +kernel
theorem d5_1 : decode jdk_42_method_155_code 1 = .ok (.iload_n 1, 1) := by decide +kernel
theorem d5_2 : decode jdk_42_method_155_code 2 = .ok (.getstatic 1053, 3) := by decide +kernel
theorem d5_5 : decode jdk_42_method_155_code 5 = .ok (.invokestatic 1059, 3) := by decide +kernel
theorem pd25 : parseMethodDescriptor "(IILjava/util/function/BiFunction;)I" = some ⟨[.int, .int, (.object "java/util/function/BiFunction")], some .int⟩ := by decide +kernel
theorem d5_8 : decode jdk_42_method_155_code 8 = .ok (.pop, 1) := by decide +kernel
theorem d5_9 : decode jdk_42_method_155_code 9 = .ok (.return_, 1) := by decide +kernel
abbrev own_m26 : MethodName := (⟨"java/lang/String", "checkIndex", "(II)V"⟩ : MethodName)
theorem ef_rm_sci (m : MethodId) (i : Int32) (n : Int32) : entryFrame m #[(.int i), (.int n)] 2 = mkF m 0 #[iv i, iv n] [] := by first | (simp [entryFrame, mkF, argsToLocals, Value.category]; done) | rfl
theorem pn27 : plainFor (⟨"java/lang/String", "checkIndex", "(II)V"⟩ : MethodName) = true := by first | exact plainFor_of_name (by first | (simp [plainName, overriddenIn]; done) | decide +kernel) | decide +kernel
set_option maxRecDepth 65536 in
set_option maxHeartbeats 40000000 in
theorem rm_sci {l : Launch} {Z : State} {a0 : Array Value} {A : Nat → Addr} {KC : Nat → Cell} {IC : Nat → Int32} {VC : Nat → Value} (hw : ∀ d ∈ tables_1, d.before a0 Z = true) (G : own_Ctx Z A KC IC VC) (i : Int32) (n : Int32)  (h0 : Heap) (O0 : Ext Z.heap h0) (prem0 : ¬ (i < (0 : Int32))) (prem1 : i < n) :
    Ok l Z own_m26 jdk_42_method_155_code 2 none ({ frames := 1, cells := 0, slots := 0, locals := 14 } : Room) #[(.int i), (.int n)] h0
      (fun v h L => v = none ∧ (h = h0) ∧ (L = [])) := by
  refine Ok.mk pn27 ?_
  intro p e s m below meth c T0 hx hby hml hown hnm hret hlk hZ e0 X0
  refine Go.cast (ef_rm_sci m i n) ?_
  obtain ⟨-, -, -, -, -, -, -, -, -, -, -, -, -, -, -, -, -, -, -, -, -, -, -, -, -, -, -, -, -, -, -, -, -, -, -, -, -, -, -, -, S_SIO, R_SIO⟩ := id G
  have D := @hb _ _ hby
  have N0 := Fr.nil Z.heap.size
  have K0 : Keep h0 h0 [] := Keep.refl _ _
  rcases R_SIO with hF | ⟨fa, hF⟩
  · rw [hF] at S_SIO
    obtain ⟨T425, X425, e425, st425⟩ := getS2 X0 hx hZ hown (host := "") (Or.inl (own_w hw (i := 39) rfl)) Via.refl e0 (Sta.ext O0 S_SIO) (g := (mkF m 2 #[iv i, iv n] [(.int n), (.int i)])) rfl (D d5_2)
    obtain ⟨T426, v426, L426, X426, q426, st426⟩ := callSt X425 hx hZ (y := own_m23) hown (own_w hw (i := 41) rfl) (own_w hw (i := 42) rfl) (own_w hw (i := 40) rfl) (own_w hw (i := 43) rfl) (by decide) (rm_pcin hw G i n  h0 O0 (prem0) (prem1)) e425 (W := 0) (by decide) (by decide) (by decide) (by decide) (g := (mkF m 5 #[iv i, iv n] [.null, (.int n), (.int i)])) rfl (by rw [hml]; rfl) (argsL := [(.int i), (.int n), .null]) (rest := []) (lenOf pd25 rfl) rfl rfl (Nat.le_of_eq rfl) (D d5_5)
    obtain ⟨rfl, e426, rfl⟩ := q426
    have N426 := Fr.app N0 (Fr.nil _)
    refine Go.of (T' := T426) (f' := (mkF m 9 #[iv i, iv n] [])) (fun _ k => XS.iloadN X0.here hx rfl (D d5_0) rfl (XS.iloadN X0.here hx rfl (D d5_1) rfl (st425 _ (st426 _ (XT.pop X426.here hx rfl (D d5_8) rfl rfl k))))) ?_
    exact Go.retV X426 hx hlk hret (D d5_9) (by decide) (by decide) (by rw [e426]; exact ⟨rfl, rfl, by simp⟩)
  · rw [hF] at S_SIO
    obtain ⟨T427, X427, e427, st427⟩ := getS2 X0 hx hZ hown (host := "") (Or.inl (own_w hw (i := 39) rfl)) Via.refl e0 (Sta.ext O0 S_SIO) (g := (mkF m 2 #[iv i, iv n] [(.int n), (.int i)])) rfl (D d5_2)
    obtain ⟨T428, v428, L428, X428, q428, st428⟩ := callSt X427 hx hZ (y := own_m23) hown (own_w hw (i := 41) rfl) (own_w hw (i := 42) rfl) (own_w hw (i := 40) rfl) (own_w hw (i := 43) rfl) (by decide) (rm_pcir hw G i n fa  h0 O0 (prem0) (prem1)) e427 (W := 0) (by decide) (by decide) (by decide) (by decide) (g := (mkF m 5 #[iv i, iv n] [(.ref fa), (.int n), (.int i)])) rfl (by rw [hml]; rfl) (argsL := [(.int i), (.int n), (.ref fa)]) (rest := []) (lenOf pd25 rfl) rfl rfl (Nat.le_of_eq rfl) (D d5_5)
    obtain ⟨rfl, e428, rfl⟩ := q428
    have N428 := Fr.app N0 (Fr.nil _)
    refine Go.of (T' := T428) (f' := (mkF m 9 #[iv i, iv n] [])) (fun _ k => XS.iloadN X0.here hx rfl (D d5_0) rfl (XS.iloadN X0.here hx rfl (D d5_1) rfl (st427 _ (st428 _ (XT.pop X428.here hx rfl (D d5_8) rfl rfl k))))) ?_
    exact Go.retV X428 hx hlk hret (D d5_9) (by decide) (by decide) (by rw [e428]; exact ⟨rfl, rfl, by simp⟩)
theorem d4_0 : decode jdk_43_method_2_code 0 = .ok (.iload_n 1, 1) := by decide +kernel
theorem d4_1 : decode jdk_43_method_2_code 1 = .ok (.aload_n 0, 1) := by decide +kernel
theorem d4_2 : decode jdk_43_method_2_code 2 = .ok (.arraylength, 1) := by decide +kernel
theorem d4_3 : decode jdk_43_method_2_code 3 = .ok (.invokestatic 9, 3) := by decide +kernel
theorem pd28 : parseMethodDescriptor "(II)V" = some ⟨[.int, .int], none⟩ := by decide +kernel
theorem d4_6 : decode jdk_43_method_2_code 6 = .ok (.aload_n 0, 1) := by decide +kernel
theorem d4_7 : decode jdk_43_method_2_code 7 = .ok (.iload_n 1, 1) := by decide +kernel
theorem d4_8 : decode jdk_43_method_2_code 8 = .ok (.baload, 1) := by decide +kernel
theorem d4_9 : decode jdk_43_method_2_code 9 = .ok (.sipush 255, 3) := by decide +kernel
theorem d4_12 : decode jdk_43_method_2_code 12 = .ok (.iand, 1) := by decide +kernel
theorem d4_13 : decode jdk_43_method_2_code 13 = .ok (.i2c, 1) := by decide +kernel
theorem d4_14 : decode jdk_43_method_2_code 14 = .ok (.ireturn, 1) := by decide +kernel
abbrev own_m29 : MethodName := (⟨"java/lang/StringLatin1", "charAt", "([BI)C"⟩ : MethodName)
theorem ef_rm_l1c (m : MethodId) (sv : Addr) (i : Int32) : entryFrame m #[(.ref sv), (.int i)] 2 = mkF m 0 #[rv sv, iv i] [] := by first | (simp [entryFrame, mkF, argsToLocals, Value.category]; done) | rfl
theorem pn30 : plainFor (⟨"java/lang/StringLatin1", "charAt", "([BI)C"⟩ : MethodName) = true := by first | exact plainFor_of_name (by first | (simp [plainName, overriddenIn]; done) | decide +kernel) | decide +kernel
set_option maxRecDepth 65536 in
set_option maxHeartbeats 40000000 in
theorem rm_l1c {l : Launch} {Z : State} {a0 : Array Value} {A : Nat → Addr} {KC : Nat → Cell} {IC : Nat → Int32} {VC : Nat → Value} (hw : ∀ d ∈ tables_1, d.before a0 Z = true) (G : own_Ctx Z A KC IC VC) (sv : Addr) (i : Int32) (kv : ClassId) (n : Int32) (bs : List Int32) (h0 : Heap) (O0 : Ext Z.heap h0) (prem0 : ¬ (i < (0 : Int32))) (prem1 : i < n) (prem2 : Arv Z h0 sv kv .byte n (bs.map Value.int) (.int (0 : Int32))) :
    Ok l Z own_m29 jdk_43_method_2_code 2 (some .char) ({ frames := 2, cells := 0, slots := 0, locals := 27 } : Room) #[(.ref sv), (.int i)] h0
      (fun v h L => ∃ r : Int32, v = some (.int (r &&& (255 : Int32))) ∧ (h = h0) ∧ (L = [])) := by
  refine Ok.mk pn30 ?_
  intro p e s m below meth c T0 hx hby hml hown hnm hret hlk hZ e0 X0
  refine Go.cast (ef_rm_l1c m sv i) ?_
  have D := @hb _ _ hby
  have N0 := Fr.nil Z.heap.size
  have K0 : Keep h0 h0 [] := Keep.refl _ _
  obtain ⟨cl429, Ar429, qk429, S429, Ng429, H429, G429⟩ := id prem2
  obtain ⟨T430, v430, L430, X430, q430, st430⟩ := callSt X0 hx hZ (y := own_m26) hown (own_w hw (i := 36) rfl) (own_w hw (i := 37) rfl) (own_w hw (i := 2) rfl) (own_w hw (i := 38) rfl) (by decide) (rm_sci hw G i n  h0 O0 (prem0) (prem1)) e0 (W := 0) (by decide) (by decide) (by decide) (by decide) (g := (mkF m 3 #[rv sv, iv i] [(.int n), (.int i)])) rfl (by rw [hml]; rfl) (argsL := [(.int i), (.int n)]) (rest := []) (lenOf pd28 rfl) rfl rfl (Nat.le_of_eq rfl) (D d4_3)
  obtain ⟨rfl, e430, rfl⟩ := q430
  have N430 := Fr.app N0 (Fr.nil _)
  obtain ⟨cl431, Ar431, qk431, S431, Ng431, H431, G431⟩ := id prem2
  have hin431 := inb_of (j := i) S431 ⟨prem0, prem1⟩
  refine Go.of (T' := T430) (f' := (mkF m 14 #[rv sv, iv i] [(.int (((bs.getD i.toNatClampNeg 0) &&& 255).toUInt32.toUInt16.toUInt32.toInt32))])) (fun _ k => XS.iloadN X0.here hx rfl (D d4_0) rfl (XS.aloadN X0.here hx rfl (D d4_1) rfl rfl (X0.arraylength hx (by rw [e0]; exact Ar429.1) (State.isArrayOf_alike hZ.alike Ar429.2.1) (g := (mkF m 2 #[rv sv, iv i] [(.ref sv), (.int i)])) rfl rfl (D d4_2) _ (by rw [len_of S429 Ng429]; exact (st430 _ (XS.aloadN X430.here hx rfl (D d4_6) rfl rfl (XS.iloadN X430.here hx rfl (D d4_7) rfl (X430.baloadBytes hx (j := i) (v := (.int (bs.getD i.toNatClampNeg 0))) (by rw [e430]; exact Ar431.1) (State.isArrayOf_alike hZ.alike Ar431.2.1) Ar431.2.2 hin431 (H431.at hin431 (own_mg bs _)) (g := (mkF m 8 #[rv sv, iv i] [(.int i), (.ref sv)])) rfl rfl (D d4_8) _ (XS.sipush X430.here hx rfl (D d4_9) (XS.iand X430.here hx rfl (D d4_12) rfl (XS.i2c X430.here hx rfl (D d4_13) rfl k))))))))))) ?_
  exact Go.retB X430 hx hlk hret (by simp) (D d4_14) (by decide) (by decide) (z' := ((bs.getD i.toNatClampNeg 0) &&& 255)) (own_c255 _) (by rw [e430]; exact ⟨(bs.getD i.toNatClampNeg 0), rfl, rfl, by simp⟩)
theorem d2_0 : decode jdk_42_method_56_code 0 = .ok (.aload_n 0, 1) := by decide +kernel
theorem d2_1 : decode jdk_42_method_56_code 1 = .ok (.invokevirtual 492, 3) := by decide +kernel
theorem pd31 : parseMethodDescriptor "()Z" = some ⟨[], some .boolean⟩ := by decide +kernel
theorem d2_4 : decode jdk_42_method_56_code 4 = .ok (.ifCond .eq 12, 3) := by decide +kernel
theorem d2_7 : decode jdk_42_method_56_code 7 = .ok (.aload_n 0, 1) := by decide +kernel
theorem d2_8 : decode jdk_42_method_56_code 8 = .ok (.getfield 9, 3) := by decide +kernel
theorem d2_11 : decode jdk_42_method_56_code 11 = .ok (.iload_n 1, 1) := by decide +kernel
theorem d2_12 : decode jdk_42_method_56_code 12 = .ok (.invokestatic 495, 3) := by decide +kernel
theorem pd32 : parseMethodDescriptor "([BI)C" = some ⟨[(.array .byte), .int], some .char⟩ := by decide +kernel
theorem d2_15 : decode jdk_42_method_56_code 15 = .ok (.ireturn, 1) := by decide +kernel
abbrev own_m33 : MethodName := (⟨"java/lang/String", "charAt", "(I)C"⟩ : MethodName)
theorem ef_rm_ch (m : MethodId) (so : Addr) (i : Int32) : entryFrame m #[(.ref so), (.int i)] 2 = mkF m 0 #[rv so, iv i] [] := by first | (simp [entryFrame, mkF, argsToLocals, Value.category]; done) | rfl
theorem pn34 : plainFor (⟨"java/lang/String", "charAt", "(I)C"⟩ : MethodName) = true := by first | exact plainFor_of_name (by first | (simp [plainName, overriddenIn]; done) | decide +kernel) | decide +kernel
set_option maxRecDepth 65536 in
set_option maxHeartbeats 40000000 in
theorem rm_ch {l : Launch} {Z : State} {a0 : Array Value} {A : Nat → Addr} {KC : Nat → Cell} {IC : Nat → Int32} {VC : Nat → Value} (hw : ∀ d ∈ tables_1, d.before a0 Z = true) (G : own_Ctx Z A KC IC VC) (so : Addr) (i : Int32) (sv : Addr) (kv : ClassId) (n : Int32) (bs : List Int32) (h0 : Heap) (O0 : Ext Z.heap h0) (prem0 : ¬ (i < (0 : Int32))) (prem1 : i < n) (prem2 : Exa Z h0 so "java/lang/String") (prem3 : Fld Z h0 so "java/lang/String" "value" "[B" (.ref sv)) (prem4 : Fld Z h0 so "java/lang/String" "coder" "B" (.int (0 : Int32))) (prem5 : Arv Z h0 sv kv .byte n (bs.map Value.int) (.int (0 : Int32))) :
    Ok l Z own_m33 jdk_42_method_56_code 2 (some .char) ({ frames := 3, cells := 0, slots := 0, locals := 40 } : Room) #[(.ref so), (.int i)] h0
      (fun v h L => ∃ r : Int32, v = some (.int (r &&& (255 : Int32))) ∧ (h = h0) ∧ (L = [])) := by
  refine Ok.mk pn34 ?_
  intro p e s m below meth c T0 hx hby hml hown hnm hret hlk hZ e0 X0
  refine Go.cast (ef_rm_ch m so i) ?_
  have D := @hb _ _ hby
  have N0 := Fr.nil Z.heap.size
  have K0 : Keep h0 h0 [] := Keep.refl _ _
  obtain ⟨T432, v432, L432, X432, q432, st432⟩ := callVi X0 hx hZ (y := own_m21) (z := own_m21) hown (own_w hw (i := 27) rfl) (own_w hw (i := 28) rfl) (notFace_of_selects (args := #[]) (mvT hZ (own_w hw (i := 30) rfl))) (own_w hw (i := 30) rfl) (own_w hw (i := 29) rfl) (own_w hw (i := 31) rfl) (own_w hw (i := 2) rfl) (by decide) (rm_lat hw G so  h0 O0 prem4) e0 (W := 0) (by decide) (by decide) (by decide) (by decide) prem2 (g := (mkF m 1 #[rv so, iv i] [(.ref so)])) rfl (by rw [hml]; rfl) (argsL := []) (rest := []) (lenOf pd31 rfl) rfl rfl (Nat.le_of_eq rfl) (D d2_1)
  obtain ⟨rfl, e432, rfl⟩ := q432
  have N432 := Fr.app N0 (Fr.nil _)
  obtain ⟨T434, X434, e434, st434⟩ := getF X432 hx hZ hown (host := "") (Or.inl (own_w hw (i := 14) rfl)) Via.refl e432 prem3 (g := (mkF m 8 #[rv so, iv i] [(.ref so)])) rfl rfl (D d2_8)
  obtain ⟨T435, v435, L435, X435, q435, st435⟩ := callSt X434 hx hZ (y := own_m29) hown (own_w hw (i := 32) rfl) (own_w hw (i := 33) rfl) (own_w hw (i := 34) rfl) (own_w hw (i := 35) rfl) (by decide) (rm_l1c hw G sv i kv n bs h0 O0 (prem0) (prem1) prem5) e434 (W := 0) (by decide) (by decide) (by decide) (by decide) (g := (mkF m 12 #[rv so, iv i] [(.int i), (.ref sv)])) rfl (by rw [hml]; rfl) (argsL := [(.ref sv), (.int i)]) (rest := []) (lenOf pd32 rfl) rfl rfl (Nat.le_of_eq rfl) (D d2_12)
  obtain ⟨r_435, rfl, e435, rfl⟩ := q435
  have N435 := Fr.app N432 (Fr.nil _)
  refine Go.of (T' := T435) (f' := (mkF m 15 #[rv so, iv i] [(.int (r_435 &&& 255))])) (fun _ k => XS.aloadN X0.here hx rfl (D d2_0) rfl rfl (st432 _ (XS.ifNo X432.here hx rfl (D d2_4) rfl ((if0 _ _).trans (feq (by decide : ¬ ((1 : Int32) = (0 : Int32)))).1) (XS.aloadN X432.here hx rfl (D d2_7) rfl rfl (st434 _ (XS.iloadN X434.here hx rfl (D d2_11) rfl (st435 _ k))))))) ?_
  exact Go.retB X435 hx hlk hret (by simp) (D d2_15) (by decide) (by decide) (z' := (r_435 &&& 255)) (i2c_mask _) (by rw [e435]; exact ⟨r_435, rfl, rfl, by simp⟩)
theorem own_shr0 (n : Int32) (h : ¬ n < 0) : n >>> ((0 : Int32) &&& 31) = n := by
  rw [← Int32.toInt_inj, c_ishr n 0 0 (by decide)]
  simp
theorem d0_0 : decode jdk_42_method_54_code 0 = .ok (.aload_n 0, 1) := by decide +kernel
theorem d0_1 : decode jdk_42_method_54_code 1 = .ok (.getfield 9, 3) := by decide +kernel
theorem d0_4 : decode jdk_42_method_54_code 4 = .ok (.arraylength, 1) := by decide +kernel
theorem d0_5 : decode jdk_42_method_54_code 5 = .ok (.aload_n 0, 1) := by decide +kernel
theorem d0_6 : decode jdk_42_method_54_code 6 = .ok (.invokevirtual 335, 3) := by decide +kernel
theorem pd35 : parseMethodDescriptor "()B" = some ⟨[], some .byte⟩ := by decide +kernel
theorem d0_9 : decode jdk_42_method_54_code 9 = .ok (.ishr, 1) := by decide +kernel
theorem d0_10 : decode jdk_42_method_54_code 10 = .ok (.ireturn, 1) := by decide +kernel
abbrev own_m36 : MethodName := (⟨"java/lang/String", "length", "()I"⟩ : MethodName)
theorem ef_rm_len (m : MethodId) (so : Addr) : entryFrame m #[(.ref so)] 1 = mkF m 0 #[rv so] [] := by first | (simp [entryFrame, mkF, argsToLocals, Value.category]; done) | rfl
theorem pn37 : plainFor (⟨"java/lang/String", "length", "()I"⟩ : MethodName) = true := by first | exact plainFor_of_name (by first | (simp [plainName, overriddenIn]; done) | decide +kernel) | decide +kernel
set_option maxRecDepth 65536 in
set_option maxHeartbeats 40000000 in
theorem rm_len {l : Launch} {Z : State} {a0 : Array Value} {A : Nat → Addr} {KC : Nat → Cell} {IC : Nat → Int32} {VC : Nat → Value} (hw : ∀ d ∈ tables_1, d.before a0 Z = true) (G : own_Ctx Z A KC IC VC) (so : Addr) (sv : Addr) (kv : ClassId) (n : Int32) (bs : List Int32) (h0 : Heap) (O0 : Ext Z.heap h0) (prem0 : Exa Z h0 so "java/lang/String") (prem1 : Fld Z h0 so "java/lang/String" "value" "[B" (.ref sv)) (prem2 : Fld Z h0 so "java/lang/String" "coder" "B" (.int (0 : Int32))) (prem3 : Arv Z h0 sv kv .byte n (bs.map Value.int) (.int (0 : Int32))) (prem4 : ¬ n < 0) :
    Ok l Z own_m36 jdk_42_method_54_code 1 (some .int) ({ frames := 1, cells := 0, slots := 0, locals := 13 } : Room) #[(.ref so)] h0
      (fun v h L => v = some (.int n) ∧ (h = h0) ∧ (L = [])) := by
  refine Ok.mk pn37 ?_
  intro p e s m below meth c T0 hx hby hml hown hnm hret hlk hZ e0 X0
  refine Go.cast (ef_rm_len m so) ?_
  have D := @hb _ _ hby
  have N0 := Fr.nil Z.heap.size
  have K0 : Keep h0 h0 [] := Keep.refl _ _
  obtain ⟨T436, X436, e436, st436⟩ := getF X0 hx hZ hown (host := "") (Or.inl (own_w hw (i := 14) rfl)) Via.refl e0 prem1 (g := (mkF m 1 #[rv so] [(.ref so)])) rfl rfl (D d0_1)
  obtain ⟨cl437, Ar437, qk437, S437, Ng437, H437, G437⟩ := id prem3
  obtain ⟨T438, v438, L438, X438, q438, st438⟩ := callVi X436 hx hZ (y := own_m19) (z := own_m19) hown (own_w hw (i := 15) rfl) (own_w hw (i := 16) rfl) (notFace_of_selects (args := #[]) (mvT hZ (own_w hw (i := 18) rfl))) (own_w hw (i := 18) rfl) (own_w hw (i := 17) rfl) (own_w hw (i := 19) rfl) (own_w hw (i := 2) rfl) (by decide) (rm_coder hw G so  h0 O0 prem2) e436 (W := 1) (by decide) (by decide) (by decide) (by decide) prem0 (g := (mkF m 6 #[rv so] [(.ref so), (.int n)])) rfl (by rw [hml]; rfl) (argsL := []) (rest := [(.int n)]) (lenOf pd35 rfl) rfl rfl (Nat.le_of_eq rfl) (D d0_6)
  obtain ⟨rfl, e438, rfl⟩ := q438
  have N438 := Fr.app N0 (Fr.nil _)
  refine Go.of (T' := T438) (f' := (mkF m 10 #[rv so] [(.int (n >>> ((0 : Int32) &&& 31)))])) (fun _ k => XS.aloadN X0.here hx rfl (D d0_0) rfl rfl (st436 _ (X436.arraylength hx (by rw [e436]; exact Ar437.1) (State.isArrayOf_alike hZ.alike Ar437.2.1) (g := (mkF m 4 #[rv so] [(.ref sv)])) rfl rfl (D d0_4) _ (by rw [len_of S437 Ng437]; exact (XS.aloadN X436.here hx rfl (D d0_5) rfl rfl (st438 _ (XS.ishr X438.here hx rfl (D d0_9) rfl k))))))) ?_
  exact Go.retI X438 hx hlk hret (D d0_10) (by decide) (by decide) (by rw [e438]; exact ⟨by rw [own_shr0 n prem4], rfl, by simp⟩)
theorem d7_0 : decode method_3_code 0 = .ok (.iload_n 1, 1) := by decide +kernel
theorem d7_1 : decode method_3_code 1 = .ok (.ifCond .gt 14, 3) := by decide +kernel
theorem d7_4 : decode method_3_code 4 = .ok (.new 18, 3) := by decide +kernel
theorem d7_7 : decode method_3_code 7 = .ok (.dup, 1) := by decide +kernel
theorem d7_8 : decode method_3_code 8 = .ok (.iconst 0, 1) := by decide +kernel
theorem d7_9 : decode method_3_code 9 = .ok (.newarray .char, 2) := by decide +kernel
theorem d7_11 : decode method_3_code 11 = .ok (.invokespecial 59, 3) := by decide +kernel
theorem pd38 : parseMethodDescriptor "([C)V" = some ⟨[(.array .char)], none⟩ := by decide +kernel
theorem d7_14 : decode method_3_code 14 = .ok (.areturn, 1) := by decide +kernel
abbrev own_m39 : MethodName := (⟨"com/example/cascade_mapper/cascademapper/model/CollectionFormNamedPinLaw", "make", "([CI)Ljava/lang/String;"⟩ : MethodName)
theorem ef_rm_make0 (m : MethodId) (da0 : Addr) : entryFrame m #[(.ref da0), (.int (0 : Int32))] 2 = mkF m 0 #[rv da0, iv (0 : Int32)] [] := by first | (simp [entryFrame, mkF, argsToLocals, Value.category]; done) | rfl
theorem pn40 : plainFor (⟨"com/example/cascade_mapper/cascademapper/model/CollectionFormNamedPinLaw", "make", "([CI)Ljava/lang/String;"⟩ : MethodName) = true := by first | exact plainFor_of_name (by first | (simp [plainName, overriddenIn]; done) | decide +kernel) | decide +kernel
set_option maxRecDepth 65536 in
set_option maxHeartbeats 40000000 in
theorem rm_make0 {l : Launch} {Z : State} {a0 : Array Value} {A : Nat → Addr} {KC : Nat → Cell} {IC : Nat → Int32} {VC : Nat → Value} (hw : ∀ d ∈ tables_1, d.before a0 Z = true) (G : own_Ctx Z A KC IC VC) (da0 : Addr) (kd0 : ClassId) (z0 : Int32) (z1 : Int32) (z2 : Int32) (z3 : Int32) (z4 : Int32) (z5 : Int32) (h0 : Heap) (O0 : Ext Z.heap h0) (prem0 : Arv Z h0 da0 kd0 .char (6 : Int32) [(.int (z0 &&& (255 : Int32))), (.int (z1 &&& (255 : Int32))), (.int (z2 &&& (255 : Int32))), (.int (z3 &&& (255 : Int32))), (.int (z4 &&& (255 : Int32))), (.int (z5 &&& (255 : Int32)))] (.int (0 : Int32))) :
    OkS l Z own_EL own_m39 method_3_code 2 (some (.object "java/lang/String")) ({ frames := 3, cells := 6, slots := 12, locals := 43 } : Room) #[(.ref da0), (.int (0 : Int32))] h0
      (fun v h L => ∃ so : Addr, ∃ sv : Addr, ∃ ks : ClassId, v = some (.ref so) ∧ (Fr Z.heap.size L) ∧ (Keep h0 h []) ∧ (Exa Z h so "java/lang/String") ∧ (Fld Z h so "java/lang/String" "value" "[B" (.ref sv)) ∧ (Fld Z h so "java/lang/String" "coder" "B" (.int (0 : Int32))) ∧ (Arv Z h sv ks .byte (0 : Int32) [] (.int (0 : Int32)))) := by
  refine OkS.mk pn40 ?_
  intro p e s m below meth c T0 hx hby hml hown hnm hret hlk hZ e0 C0 hS X0
  have hk := Nat.zero_le h0.size
  have hEL := own_EW hw
  refine GoS.cast (ef_rm_make0 m da0) ?_
  have D := @hb _ _ hby
  have N0 := Fr.nil Z.heap.size
  have K0 : Keep h0 h0 [] := Keep.refl _ _
  obtain ⟨T440, h440, b440, q440, X440, e440, E440, A440, D440, st440⟩ := newOb X0 hx hZ hown (own_w hw (i := 48) rfl) (own_w hw (i := 3) rfl) (own_w hw (i := 2) rfl) e0 (g := (mkF m 4 #[rv da0, iv 0] [])) rfl (D d7_4) (by decide) (by decide)
  have O442 := Old0.ext O0 E440
  have K442 := Keep.ext K0 E440
  have C441 := CHr.trans C0 (CHr.ext E440 C0.1)
  have hk := Nat.le_trans hk E440.1
  have g_b440 : Z.heap.size ≤ b440 := q440 ▸ O0.1
  have z_b440 : h0.size ≤ b440 := q440 ▸ K0.1
  have ne_da0_b440 : da0 ≠ b440 := q440 ▸ Nat.ne_of_lt prem0.lt
  have f443 : Fld Z h440 b440 "java/lang/String" "value" "[B" .null := D440 (Or.inr (own_w hw (i := 5) rfl)) (ty := (.array .byte)) (by decide)
  have f444 : Fld Z h440 b440 "java/lang/String" "coder" "B" (.int 0) := D440 (Or.inr (own_w hw (i := 6) rfl)) (ty := .byte) (by decide)
  have f446 : Arv Z h440 da0 kd0 .char (6 : Int32) [(.int (z0 &&& 255)), (.int (z1 &&& 255)), (.int (z2 &&& 255)), (.int (z3 &&& 255)), (.int (z4 &&& 255)), (.int (z5 &&& 255))] (.int 0) := (Arv.ext prem0 E440)
  obtain ⟨T445, h445, k445, b445, q445, X445, e445, E445, V445, A445, st445⟩ := newAr X440 hx hZ (own_w hw (i := 0) rfl) e440 (g := (mkF m 9 #[rv da0, iv 0] [(.int 0), (.ref b440), (.ref b440)])) rfl (D d7_9) rfl (by decide) (cap := 0) (by decide) (by decide) (by decide) (by decide) (ad := "[C") (by decide)
  have O448 := Old0.ext O442 E445
  have K448 := Keep.ext K442 E445
  have C447 := CHr.trans C441 (CHr.ext E445 C441.1)
  have hk := Nat.le_trans hk E445.1
  have g_b445 : Z.heap.size ≤ b445 := q445 ▸ O442.1
  have z_b445 : h0.size ≤ b445 := q445 ▸ K442.1
  have ne_da0_b445 : da0 ≠ b445 := q445 ▸ Nat.ne_of_lt f446.lt
  have ne_b440_b445 : b440 ≠ b445 := q445 ▸ Nat.ne_of_lt A440.lt
  have f449 : Arv Z h445 b445 k445 .char (0 : Int32) [] (.int 0) := Arv.pad V445 (pad_rep [] (.int 0) 0)
  have f451 : Exa Z h445 b440 "java/lang/String" := (Exa.ext E445 A440)
  have f452 : Fld Z h445 b440 "java/lang/String" "value" "[B" .null := (Fld.ext E445 f443)
  have f453 : Fld Z h445 b440 "java/lang/String" "coder" "B" (.int 0) := (Fld.ext E445 f444)
  refine GoS.of (T' := T445) (f' := (mkF m 11 #[rv da0, iv 0] [(.ref b445), (.ref b440), (.ref b440)])) (fun _ k => XS.iloadN X0.here hx rfl (D d7_0) rfl (XS.ifNo X0.here hx rfl (D d7_1) rfl ((if0 _ _).trans (flt (by decide : ¬ ((0 : Int32) < (0 : Int32)))).2.2.1) (st440 _ (XS.dup X440.here hx rfl (D d7_7) rfl rfl (XS.iconst X440.here hx rfl (D d7_8) (st445 _ k)))))) ?_
  obtain ⟨T450, v450, L450, X450, q450, hS, hg450, hZ, hown, Cq450, st450⟩ := callNewS X445 hx hZ (y := own_m12) rfl hS hk hEL C447.1 hown (own_w hw (i := 49) rfl) (own_w hw (i := 50) rfl) (own_w hw (i := 2) rfl) (own_w hw (i := 51) rfl) (by decide) (rm_str_0 hw G b440 b445 k445 h445 O448 f451 f452 f453 g_b440 f449) e445 (W := 1) (by decide) (by decide) (by decide) (by decide) (g := (mkF m 11 #[rv da0, iv 0] [(.ref b445), (.ref b440), (.ref b440)])) rfl (by rw [hml]; rfl) (a := b440) (argsL := [(.ref b445)]) (rest := [(.ref b440)]) (lenOf pd38 rfl) rfl rfl (Nat.le_of_eq rfl) (D d7_11)
  obtain ⟨da_450, kd_450, rfl, N450q, K450q, p450_0, p450_1, p450_2⟩ := q450
  have N450 := Fr.app N0 N450q
  have O454 := Old0.keep O448 K450q (allS g_b440 all0)
  have K454 := Keep.trans K448 K450q (allS (Or.inr z_b440) all0)
  have C450 := CHr.trans C447 Cq450
  have hk := Nat.le_refl T450.heap.size
  have f455 : Exa Z T450.heap b440 "java/lang/String" := (Exa.keep f451 K450q)
  refine GoS.of (T' := T450) (f' := (mkF m 14 #[rv da0, iv 0] [(.ref b440)])) (fun _ k => st450 _ k) ?_
  exact GoS.retA X450 hx hlk hS hk hZ hEL C450 rfl hret rfl rfl (D d7_14) (by decide) (by decide) ⟨b440, da_450, kd_450, rfl, N450, K454, f455, p450_0, p450_1, p450_2⟩
theorem d7_15 : decode method_3_code 15 = .ok (.iload_n 1, 1) := by decide +kernel
theorem d7_16 : decode method_3_code 16 = .ok (.iconst 1, 1) := by decide +kernel
theorem d7_17 : decode method_3_code 17 = .ok (.if_icmp .ne 20, 3) := by decide +kernel
theorem d7_20 : decode method_3_code 20 = .ok (.new 18, 3) := by decide +kernel
theorem d7_23 : decode method_3_code 23 = .ok (.dup, 1) := by decide +kernel
theorem d7_24 : decode method_3_code 24 = .ok (.iconst 1, 1) := by decide +kernel
theorem d7_25 : decode method_3_code 25 = .ok (.newarray .char, 2) := by decide +kernel
theorem d7_27 : decode method_3_code 27 = .ok (.dup, 1) := by decide +kernel
theorem d7_28 : decode method_3_code 28 = .ok (.iconst 0, 1) := by decide +kernel
theorem d7_29 : decode method_3_code 29 = .ok (.aload_n 0, 1) := by decide +kernel
theorem d7_30 : decode method_3_code 30 = .ok (.iconst 0, 1) := by decide +kernel
theorem d7_31 : decode method_3_code 31 = .ok (.caload, 1) := by decide +kernel
theorem d7_32 : decode method_3_code 32 = .ok (.castore, 1) := by decide +kernel
theorem d7_33 : decode method_3_code 33 = .ok (.invokespecial 59, 3) := by decide +kernel
theorem d7_36 : decode method_3_code 36 = .ok (.areturn, 1) := by decide +kernel
theorem ef_rm_make1 (m : MethodId) (da0 : Addr) : entryFrame m #[(.ref da0), (.int (1 : Int32))] 2 = mkF m 0 #[rv da0, iv (1 : Int32)] [] := by first | (simp [entryFrame, mkF, argsToLocals, Value.category]; done) | rfl
set_option maxRecDepth 65536 in
set_option maxHeartbeats 40000000 in
theorem rm_make1 {l : Launch} {Z : State} {a0 : Array Value} {A : Nat → Addr} {KC : Nat → Cell} {IC : Nat → Int32} {VC : Nat → Value} (hw : ∀ d ∈ tables_1, d.before a0 Z = true) (G : own_Ctx Z A KC IC VC) (da0 : Addr) (kd0 : ClassId) (z0 : Int32) (z1 : Int32) (z2 : Int32) (z3 : Int32) (z4 : Int32) (z5 : Int32) (h0 : Heap) (O0 : Ext Z.heap h0) (prem0 : Arv Z h0 da0 kd0 .char (6 : Int32) [(.int (z0 &&& (255 : Int32))), (.int (z1 &&& (255 : Int32))), (.int (z2 &&& (255 : Int32))), (.int (z3 &&& (255 : Int32))), (.int (z4 &&& (255 : Int32))), (.int (z5 &&& (255 : Int32)))] (.int (0 : Int32))) :
    Ok l Z own_m39 method_3_code 2 (some (.object "java/lang/String")) ({ frames := 4, cells := 3, slots := 11, locals := 66 } : Room) #[(.ref da0), (.int (1 : Int32))] h0
      (fun v h L => ∃ so : Addr, ∃ sv : Addr, ∃ ks : ClassId, v = some (.ref so) ∧ (Fr Z.heap.size L) ∧ (Keep h0 h []) ∧ (Exa Z h so "java/lang/String") ∧ (Fld Z h so "java/lang/String" "value" "[B" (.ref sv)) ∧ (Fld Z h so "java/lang/String" "coder" "B" (.int (0 : Int32))) ∧ (Arv Z h sv ks .byte (1 : Int32) [(.int ((z0 &&& (255 : Int32)).toInt8.toInt32))] (.int (0 : Int32)))) := by
  refine Ok.mk pn40 ?_
  intro p e s m below meth c T0 hx hby hml hown hnm hret hlk hZ e0 X0
  refine Go.cast (ef_rm_make1 m da0) ?_
  have D := @hb _ _ hby
  have N0 := Fr.nil Z.heap.size
  have K0 : Keep h0 h0 [] := Keep.refl _ _
  obtain ⟨T458, h458, b458, q458, X458, e458, E458, A458, D458, st458⟩ := newOb X0 hx hZ hown (own_w hw (i := 48) rfl) (own_w hw (i := 3) rfl) (own_w hw (i := 2) rfl) e0 (g := (mkF m 20 #[rv da0, iv 1] [])) rfl (D d7_20) (by decide) (by decide)
  have O459 := Old0.ext O0 E458
  have K459 := Keep.ext K0 E458
  have g_b458 : Z.heap.size ≤ b458 := q458 ▸ O0.1
  have z_b458 : h0.size ≤ b458 := q458 ▸ K0.1
  have ne_da0_b458 : da0 ≠ b458 := q458 ▸ Nat.ne_of_lt prem0.lt
  have f460 : Fld Z h458 b458 "java/lang/String" "value" "[B" .null := D458 (Or.inr (own_w hw (i := 5) rfl)) (ty := (.array .byte)) (by decide)
  have f461 : Fld Z h458 b458 "java/lang/String" "coder" "B" (.int 0) := D458 (Or.inr (own_w hw (i := 6) rfl)) (ty := .byte) (by decide)
  have f463 : Arv Z h458 da0 kd0 .char (6 : Int32) [(.int (z0 &&& 255)), (.int (z1 &&& 255)), (.int (z2 &&& 255)), (.int (z3 &&& 255)), (.int (z4 &&& 255)), (.int (z5 &&& 255))] (.int 0) := (Arv.ext prem0 E458)
  obtain ⟨T462, h462, k462, b462, q462, X462, e462, E462, V462, A462, st462⟩ := newAr X458 hx hZ (own_w hw (i := 0) rfl) e458 (g := (mkF m 25 #[rv da0, iv 1] [(.int 1), (.ref b458), (.ref b458)])) rfl (D d7_25) rfl (by decide) (cap := 1) (by decide) (by decide) (by decide) (by decide) (ad := "[C") (by decide)
  have O464 := Old0.ext O459 E462
  have K464 := Keep.ext K459 E462
  have g_b462 : Z.heap.size ≤ b462 := q462 ▸ O459.1
  have z_b462 : h0.size ≤ b462 := q462 ▸ K459.1
  have ne_da0_b462 : da0 ≠ b462 := q462 ▸ Nat.ne_of_lt f463.lt
  have ne_b458_b462 : b458 ≠ b462 := q462 ▸ Nat.ne_of_lt A458.lt
  have f465 : Arv Z h462 b462 k462 .char (1 : Int32) [(.int 0)] (.int 0) := Arv.pad V462 (pad_rep [] (.int 0) 1)
  have f467 : Arv Z h462 da0 kd0 .char (6 : Int32) [(.int (z0 &&& 255)), (.int (z1 &&& 255)), (.int (z2 &&& 255)), (.int (z3 &&& 255)), (.int (z4 &&& 255)), (.int (z5 &&& 255))] (.int 0) := (Arv.ext f463 E462)
  obtain ⟨cl466, Ar466, qk466, S466, Ng466, H466, G466⟩ := id f467
  have hin466 := inb_of (j := (0 : Int32)) S466 ⟨by decide, by decide⟩
  obtain ⟨cl468, Ar468, qk468, S468, Ng468, H468, G468⟩ := id f465
  obtain ⟨T468, h468, X468, e468, W468, st468⟩ := stC X462 hx hZ e462 Ar468 (j := (0 : Int32)) (inb_of S468 ⟨by decide, by decide⟩) (g := (mkF m 32 #[rv da0, iv 1] [(.int (z0 &&& 255)), (.int 0), (.ref b462), (.ref b462), (.ref b458), (.ref b458)])) rfl rfl (D d7_32)
  have W468 : Wr h462 h468 b462 ((0 : Int32)).toNatClampNeg (.int (z0 &&& 255)) := Eq.mp (congrArg (fun z => Wr h462 h468 b462 ((0 : Int32)).toNatClampNeg (Value.int z)) (i2c_mask z0)) W468
  have O469 := Old0.wr O464 W468 g_b462
  have K469 := Keep.wr K464 W468 (Or.inr z_b462)
  have f468 : Arv Z h468 b462 k462 .char (1 : Int32) [(.int (z0 &&& 255))] (.int 0) := Arv.set Ar468 qk468 S468 Ng468 H468 G468 (v := (.int (z0 &&& 255))) (own_f255 z0) W468 0 rfl (Nat.le_of_ble_eq_true rfl)
  have N468 := Fr.snoc X468 N0 g_b462
  have f471 : Exa Z h468 b458 "java/lang/String" := (Exa.wr W468 (Exa.ext E462 A458))
  have f472 : Fld Z h468 b458 "java/lang/String" "value" "[B" .null := (Fld.other W468 (Fld.ext E462 f460) (Or.inl ne_b458_b462))
  have f473 : Fld Z h468 b458 "java/lang/String" "coder" "B" (.int 0) := (Fld.other W468 (Fld.ext E462 f461) (Or.inl ne_b458_b462))
  have f474 : Arv Z h468 da0 kd0 .char (6 : Int32) [(.int (z0 &&& 255)), (.int (z1 &&& 255)), (.int (z2 &&& 255)), (.int (z3 &&& 255)), (.int (z4 &&& 255)), (.int (z5 &&& 255))] (.int 0) := (Arv.other f467 W468 ne_da0_b462)
  have f475 : Exa Z h468 b462 "[C" := (Exa.wr W468 A462)
  obtain ⟨T470, v470, L470, X470, q470, st470⟩ := callNew X468 hx hZ (y := own_m12) rfl hown (own_w hw (i := 49) rfl) (own_w hw (i := 50) rfl) (own_w hw (i := 2) rfl) (own_w hw (i := 51) rfl) (by decide) (rm_str hw G b458 b462 ((1 : Int32)) k462 (([(z0 &&& 255)] : List Int32)) h468 O469 (rfl) (And.intro (own_le255 _) (trivial)) (Nat.le_of_ble_eq_true rfl) (Nat.succ_pos _) f471 f472 f473 g_b458 f468 ne_b458_b462) e468 (W := 1) (by decide) (by decide) (by decide) (by decide) (g := (mkF m 33 #[rv da0, iv 1] [(.ref b462), (.ref b458), (.ref b458)])) rfl (by rw [hml]; rfl) (a := b458) (argsL := [(.ref b462)]) (rest := [(.ref b458)]) (lenOf pd38 rfl) rfl rfl (Nat.le_of_eq rfl) (D d7_33)
  obtain ⟨da_470, kd_470, rfl, N470q, K470q, p470_0, p470_1, p470_2, p470_3, p470_4⟩ := q470
  have N470 := Fr.app N468 N470q
  have O476 := Old0.keep O469 K470q (allS g_b458 all0)
  have K476 := Keep.trans K469 K470q (allS (Or.inr z_b458) all0)
  have z_da_470 : h0.size ≤ da_470 := Nat.le_trans K469.1 p470_0
  have g_da_470 : Z.heap.size ≤ da_470 := Nat.le_trans O469.1 p470_0
  have ne_da0_da_470 : da0 ≠ da_470 := Nat.ne_of_lt (Nat.lt_of_lt_of_le f474.lt p470_0)
  have ne_b458_da_470 : b458 ≠ da_470 := Nat.ne_of_lt (Nat.lt_of_lt_of_le f471.lt p470_0)
  have ne_b462_da_470 : b462 ≠ da_470 := Nat.ne_of_lt (Nat.lt_of_lt_of_le f475.lt p470_0)
  have p470_3 : Arv Z T470.heap da_470 kd_470 .byte (1 : Int32) [(.int ((z0 &&& 255).toInt8.toInt32))] (.int 0) := p470_3
  have f477 : Exa Z T470.heap b458 "java/lang/String" := (Exa.keep f471 K470q)
  refine Go.of (T' := T470) (f' := (mkF m 36 #[rv da0, iv 1] [(.ref b458)])) (fun _ k => XS.iloadN X0.here hx rfl (D d7_0) rfl (XS.ifYes X0.here hx rfl (pc0 := 1) (pc' := 15) rfl (D d7_1) rfl ((if0 _ _).trans (tlt (by decide : (0 : Int32) < (1 : Int32))).2.2.1) (by decide) (by decide) (XS.iloadN X0.here hx rfl (D d7_15) rfl (XS.iconst X0.here hx rfl (D d7_16) (XS.icmpNo X0.here hx rfl (D d7_17) rfl (teq (by decide : (1 : Int32) = (1 : Int32))).2 (st458 _ (XS.dup X458.here hx rfl (D d7_23) rfl rfl (XS.iconst X458.here hx rfl (D d7_24) (st462 _ (XS.dup X462.here hx rfl (D d7_27) rfl rfl (XS.iconst X462.here hx rfl (D d7_28) (XS.aloadN X462.here hx rfl (D d7_29) rfl rfl (XS.iconst X462.here hx rfl (D d7_30) (X462.caload hx (j := (0 : Int32)) (v := (.int (z0 &&& 255))) (by rw [e462]; exact Ar466.1) (State.isArrayOf_alike hZ.alike Ar466.2.1) Ar466.2.2 hin466 (H466.at hin466 rfl) (g := (mkF m 31 #[rv da0, iv 1] [(.int 0), (.ref da0), (.int 0), (.ref b462), (.ref b462), (.ref b458), (.ref b458)])) rfl rfl (D d7_31) _ (st468 _ (st470 _ k)))))))))))))))) ?_
  exact Go.retA X470 hx hlk hret rfl rfl (D d7_36) (by decide) (by decide) ⟨b458, da_470, kd_470, rfl, N470, K476, f477, p470_1, p470_2, p470_3⟩
theorem d7_37 : decode method_3_code 37 = .ok (.iload_n 1, 1) := by decide +kernel
theorem d7_38 : decode method_3_code 38 = .ok (.iconst 2, 1) := by decide +kernel
theorem d7_39 : decode method_3_code 39 = .ok (.if_icmp .ne 26, 3) := by decide +kernel
theorem d7_42 : decode method_3_code 42 = .ok (.new 18, 3) := by decide +kernel
theorem d7_45 : decode method_3_code 45 = .ok (.dup, 1) := by decide +kernel
theorem d7_46 : decode method_3_code 46 = .ok (.iconst 2, 1) := by decide +kernel
theorem d7_47 : decode method_3_code 47 = .ok (.newarray .char, 2) := by decide +kernel
theorem d7_49 : decode method_3_code 49 = .ok (.dup, 1) := by decide +kernel
theorem d7_50 : decode method_3_code 50 = .ok (.iconst 0, 1) := by decide +kernel
theorem d7_51 : decode method_3_code 51 = .ok (.aload_n 0, 1) := by decide +kernel
theorem d7_52 : decode method_3_code 52 = .ok (.iconst 0, 1) := by decide +kernel
theorem d7_53 : decode method_3_code 53 = .ok (.caload, 1) := by decide +kernel
theorem d7_54 : decode method_3_code 54 = .ok (.castore, 1) := by decide +kernel
theorem d7_55 : decode method_3_code 55 = .ok (.dup, 1) := by decide +kernel
theorem d7_56 : decode method_3_code 56 = .ok (.iconst 1, 1) := by decide +kernel
theorem d7_57 : decode method_3_code 57 = .ok (.aload_n 0, 1) := by decide +kernel
theorem d7_58 : decode method_3_code 58 = .ok (.iconst 1, 1) := by decide +kernel
theorem d7_59 : decode method_3_code 59 = .ok (.caload, 1) := by decide +kernel
theorem d7_60 : decode method_3_code 60 = .ok (.castore, 1) := by decide +kernel
theorem d7_61 : decode method_3_code 61 = .ok (.invokespecial 59, 3) := by decide +kernel
theorem d7_64 : decode method_3_code 64 = .ok (.areturn, 1) := by decide +kernel
theorem ef_rm_make2 (m : MethodId) (da0 : Addr) : entryFrame m #[(.ref da0), (.int (2 : Int32))] 2 = mkF m 0 #[rv da0, iv (2 : Int32)] [] := by first | (simp [entryFrame, mkF, argsToLocals, Value.category]; done) | rfl
set_option maxRecDepth 65536 in
set_option maxHeartbeats 40000000 in
theorem rm_make2 {l : Launch} {Z : State} {a0 : Array Value} {A : Nat → Addr} {KC : Nat → Cell} {IC : Nat → Int32} {VC : Nat → Value} (hw : ∀ d ∈ tables_1, d.before a0 Z = true) (G : own_Ctx Z A KC IC VC) (da0 : Addr) (kd0 : ClassId) (z0 : Int32) (z1 : Int32) (z2 : Int32) (z3 : Int32) (z4 : Int32) (z5 : Int32) (h0 : Heap) (O0 : Ext Z.heap h0) (prem0 : Arv Z h0 da0 kd0 .char (6 : Int32) [(.int (z0 &&& (255 : Int32))), (.int (z1 &&& (255 : Int32))), (.int (z2 &&& (255 : Int32))), (.int (z3 &&& (255 : Int32))), (.int (z4 &&& (255 : Int32))), (.int (z5 &&& (255 : Int32)))] (.int (0 : Int32))) :
    Ok l Z own_m39 method_3_code 2 (some (.object "java/lang/String")) ({ frames := 4, cells := 3, slots := 12, locals := 66 } : Room) #[(.ref da0), (.int (2 : Int32))] h0
      (fun v h L => ∃ so : Addr, ∃ sv : Addr, ∃ ks : ClassId, v = some (.ref so) ∧ (Fr Z.heap.size L) ∧ (Keep h0 h []) ∧ (Exa Z h so "java/lang/String") ∧ (Fld Z h so "java/lang/String" "value" "[B" (.ref sv)) ∧ (Fld Z h so "java/lang/String" "coder" "B" (.int (0 : Int32))) ∧ (Arv Z h sv ks .byte (2 : Int32) [(.int ((z0 &&& (255 : Int32)).toInt8.toInt32)), (.int ((z1 &&& (255 : Int32)).toInt8.toInt32))] (.int (0 : Int32)))) := by
  refine Ok.mk pn40 ?_
  intro p e s m below meth c T0 hx hby hml hown hnm hret hlk hZ e0 X0
  refine Go.cast (ef_rm_make2 m da0) ?_
  have D := @hb _ _ hby
  have N0 := Fr.nil Z.heap.size
  have K0 : Keep h0 h0 [] := Keep.refl _ _
  obtain ⟨T481, h481, b481, q481, X481, e481, E481, A481, D481, st481⟩ := newOb X0 hx hZ hown (own_w hw (i := 48) rfl) (own_w hw (i := 3) rfl) (own_w hw (i := 2) rfl) e0 (g := (mkF m 42 #[rv da0, iv 2] [])) rfl (D d7_42) (by decide) (by decide)
  have O482 := Old0.ext O0 E481
  have K482 := Keep.ext K0 E481
  have g_b481 : Z.heap.size ≤ b481 := q481 ▸ O0.1
  have z_b481 : h0.size ≤ b481 := q481 ▸ K0.1
  have ne_da0_b481 : da0 ≠ b481 := q481 ▸ Nat.ne_of_lt prem0.lt
  have f483 : Fld Z h481 b481 "java/lang/String" "value" "[B" .null := D481 (Or.inr (own_w hw (i := 5) rfl)) (ty := (.array .byte)) (by decide)
  have f484 : Fld Z h481 b481 "java/lang/String" "coder" "B" (.int 0) := D481 (Or.inr (own_w hw (i := 6) rfl)) (ty := .byte) (by decide)
  have f486 : Arv Z h481 da0 kd0 .char (6 : Int32) [(.int (z0 &&& 255)), (.int (z1 &&& 255)), (.int (z2 &&& 255)), (.int (z3 &&& 255)), (.int (z4 &&& 255)), (.int (z5 &&& 255))] (.int 0) := (Arv.ext prem0 E481)
  obtain ⟨T485, h485, k485, b485, q485, X485, e485, E485, V485, A485, st485⟩ := newAr X481 hx hZ (own_w hw (i := 0) rfl) e481 (g := (mkF m 47 #[rv da0, iv 2] [(.int 2), (.ref b481), (.ref b481)])) rfl (D d7_47) rfl (by decide) (cap := 2) (by decide) (by decide) (by decide) (by decide) (ad := "[C") (by decide)
  have O487 := Old0.ext O482 E485
  have K487 := Keep.ext K482 E485
  have g_b485 : Z.heap.size ≤ b485 := q485 ▸ O482.1
  have z_b485 : h0.size ≤ b485 := q485 ▸ K482.1
  have ne_da0_b485 : da0 ≠ b485 := q485 ▸ Nat.ne_of_lt f486.lt
  have ne_b481_b485 : b481 ≠ b485 := q485 ▸ Nat.ne_of_lt A481.lt
  have f488 : Arv Z h485 b485 k485 .char (2 : Int32) [(.int 0), (.int 0)] (.int 0) := Arv.pad V485 (pad_rep [] (.int 0) 2)
  have f490 : Arv Z h485 da0 kd0 .char (6 : Int32) [(.int (z0 &&& 255)), (.int (z1 &&& 255)), (.int (z2 &&& 255)), (.int (z3 &&& 255)), (.int (z4 &&& 255)), (.int (z5 &&& 255))] (.int 0) := (Arv.ext f486 E485)
  obtain ⟨cl489, Ar489, qk489, S489, Ng489, H489, G489⟩ := id f490
  have hin489 := inb_of (j := (0 : Int32)) S489 ⟨by decide, by decide⟩
  obtain ⟨cl491, Ar491, qk491, S491, Ng491, H491, G491⟩ := id f488
  obtain ⟨T491, h491, X491, e491, W491, st491⟩ := stC X485 hx hZ e485 Ar491 (j := (0 : Int32)) (inb_of S491 ⟨by decide, by decide⟩) (g := (mkF m 54 #[rv da0, iv 2] [(.int (z0 &&& 255)), (.int 0), (.ref b485), (.ref b485), (.ref b481), (.ref b481)])) rfl rfl (D d7_54)
  have W491 : Wr h485 h491 b485 ((0 : Int32)).toNatClampNeg (.int (z0 &&& 255)) := Eq.mp (congrArg (fun z => Wr h485 h491 b485 ((0 : Int32)).toNatClampNeg (Value.int z)) (i2c_mask z0)) W491
  have O492 := Old0.wr O487 W491 g_b485
  have K492 := Keep.wr K487 W491 (Or.inr z_b485)
  have f491 : Arv Z h491 b485 k485 .char (2 : Int32) [(.int (z0 &&& 255)), (.int 0)] (.int 0) := Arv.set Ar491 qk491 S491 Ng491 H491 G491 (v := (.int (z0 &&& 255))) (own_f255 z0) W491 0 rfl (Nat.le_of_ble_eq_true rfl)
  have N491 := Fr.snoc X491 N0 g_b485
  have f494 : Arv Z h491 da0 kd0 .char (6 : Int32) [(.int (z0 &&& 255)), (.int (z1 &&& 255)), (.int (z2 &&& 255)), (.int (z3 &&& 255)), (.int (z4 &&& 255)), (.int (z5 &&& 255))] (.int 0) := (Arv.other f490 W491 ne_da0_b485)
  obtain ⟨cl493, Ar493, qk493, S493, Ng493, H493, G493⟩ := id f494
  have hin493 := inb_of (j := (1 : Int32)) S493 ⟨by decide, by decide⟩
  obtain ⟨cl495, Ar495, qk495, S495, Ng495, H495, G495⟩ := id f491
  obtain ⟨T495, h495, X495, e495, W495, st495⟩ := stC X491 hx hZ e491 Ar495 (j := (1 : Int32)) (inb_of S495 ⟨by decide, by decide⟩) (g := (mkF m 60 #[rv da0, iv 2] [(.int (z1 &&& 255)), (.int 1), (.ref b485), (.ref b485), (.ref b481), (.ref b481)])) rfl rfl (D d7_60)
  have W495 : Wr h491 h495 b485 ((1 : Int32)).toNatClampNeg (.int (z1 &&& 255)) := Eq.mp (congrArg (fun z => Wr h491 h495 b485 ((1 : Int32)).toNatClampNeg (Value.int z)) (i2c_mask z1)) W495
  have O496 := Old0.wr O492 W495 g_b485
  have K496 := Keep.wr K492 W495 (Or.inr z_b485)
  have f495 : Arv Z h495 b485 k485 .char (2 : Int32) [(.int (z0 &&& 255)), (.int (z1 &&& 255))] (.int 0) := Arv.set Ar495 qk495 S495 Ng495 H495 G495 (v := (.int (z1 &&& 255))) (own_f255 z1) W495 1 rfl (Nat.le_of_ble_eq_true rfl)
  have N495 := Fr.snoc X495 N491 g_b485
  refine Go.of (T' := T495) (f' := (mkF m 61 #[rv da0, iv 2] [(.ref b485), (.ref b481), (.ref b481)])) (fun _ k => XS.iloadN X0.here hx rfl (D d7_0) rfl (XS.ifYes X0.here hx rfl (pc0 := 1) (pc' := 15) rfl (D d7_1) rfl ((if0 _ _).trans (tlt (by decide : (0 : Int32) < (2 : Int32))).2.2.1) (by decide) (by decide) (XS.iloadN X0.here hx rfl (D d7_15) rfl (XS.iconst X0.here hx rfl (D d7_16) (XS.icmpYes X0.here hx rfl (pc0 := 17) (pc' := 37) rfl (D d7_17) rfl (feq (by decide : ¬ ((2 : Int32) = (1 : Int32)))).2 (by decide) (by decide) (XS.iloadN X0.here hx rfl (D d7_37) rfl (XS.iconst X0.here hx rfl (D d7_38) (XS.icmpNo X0.here hx rfl (D d7_39) rfl (teq (by decide : (2 : Int32) = (2 : Int32))).2 (st481 _ (XS.dup X481.here hx rfl (D d7_45) rfl rfl (XS.iconst X481.here hx rfl (D d7_46) (st485 _ (XS.dup X485.here hx rfl (D d7_49) rfl rfl (XS.iconst X485.here hx rfl (D d7_50) (XS.aloadN X485.here hx rfl (D d7_51) rfl rfl (XS.iconst X485.here hx rfl (D d7_52) (X485.caload hx (j := (0 : Int32)) (v := (.int (z0 &&& 255))) (by rw [e485]; exact Ar489.1) (State.isArrayOf_alike hZ.alike Ar489.2.1) Ar489.2.2 hin489 (H489.at hin489 rfl) (g := (mkF m 53 #[rv da0, iv 2] [(.int 0), (.ref da0), (.int 0), (.ref b485), (.ref b485), (.ref b481), (.ref b481)])) rfl rfl (D d7_53) _ (st491 _ (XS.dup X491.here hx rfl (D d7_55) rfl rfl (XS.iconst X491.here hx rfl (D d7_56) (XS.aloadN X491.here hx rfl (D d7_57) rfl rfl (XS.iconst X491.here hx rfl (D d7_58) (X491.caload hx (j := (1 : Int32)) (v := (.int (z1 &&& 255))) (by rw [e491]; exact Ar493.1) (State.isArrayOf_alike hZ.alike Ar493.2.1) Ar493.2.2 hin493 (H493.at hin493 rfl) (g := (mkF m 59 #[rv da0, iv 2] [(.int 1), (.ref da0), (.int 1), (.ref b485), (.ref b485), (.ref b481), (.ref b481)])) rfl rfl (D d7_59) _ (st495 _ k)))))))))))))))))))))))) ?_
  have f498 : Exa Z h495 b481 "java/lang/String" := (Exa.wr W495 (Exa.wr W491 (Exa.ext E485 A481)))
  have f499 : Fld Z h495 b481 "java/lang/String" "value" "[B" .null := (Fld.other W495 (Fld.other W491 (Fld.ext E485 f483) (Or.inl ne_b481_b485)) (Or.inl ne_b481_b485))
  have f500 : Fld Z h495 b481 "java/lang/String" "coder" "B" (.int 0) := (Fld.other W495 (Fld.other W491 (Fld.ext E485 f484) (Or.inl ne_b481_b485)) (Or.inl ne_b481_b485))
  have f501 : Arv Z h495 da0 kd0 .char (6 : Int32) [(.int (z0 &&& 255)), (.int (z1 &&& 255)), (.int (z2 &&& 255)), (.int (z3 &&& 255)), (.int (z4 &&& 255)), (.int (z5 &&& 255))] (.int 0) := (Arv.other f494 W495 ne_da0_b485)
  have f502 : Exa Z h495 b485 "[C" := (Exa.wr W495 (Exa.wr W491 A485))
  obtain ⟨T497, v497, L497, X497, q497, st497⟩ := callNew X495 hx hZ (y := own_m12) rfl hown (own_w hw (i := 49) rfl) (own_w hw (i := 50) rfl) (own_w hw (i := 2) rfl) (own_w hw (i := 51) rfl) (by decide) (rm_str hw G b481 b485 ((2 : Int32)) k485 (([(z0 &&& 255), (z1 &&& 255)] : List Int32)) h495 O496 (rfl) (And.intro (own_le255 _) (And.intro (own_le255 _) (trivial))) (Nat.le_of_ble_eq_true rfl) (Nat.succ_pos _) f498 f499 f500 g_b481 f495 ne_b481_b485) e495 (W := 1) (by decide) (by decide) (by decide) (by decide) (g := (mkF m 61 #[rv da0, iv 2] [(.ref b485), (.ref b481), (.ref b481)])) rfl (by rw [hml]; rfl) (a := b481) (argsL := [(.ref b485)]) (rest := [(.ref b481)]) (lenOf pd38 rfl) rfl rfl (Nat.le_of_eq rfl) (D d7_61)
  obtain ⟨da_497, kd_497, rfl, N497q, K497q, p497_0, p497_1, p497_2, p497_3, p497_4⟩ := q497
  have N497 := Fr.app N495 N497q
  have O503 := Old0.keep O496 K497q (allS g_b481 all0)
  have K503 := Keep.trans K496 K497q (allS (Or.inr z_b481) all0)
  have z_da_497 : h0.size ≤ da_497 := Nat.le_trans K496.1 p497_0
  have g_da_497 : Z.heap.size ≤ da_497 := Nat.le_trans O496.1 p497_0
  have ne_da0_da_497 : da0 ≠ da_497 := Nat.ne_of_lt (Nat.lt_of_lt_of_le f501.lt p497_0)
  have ne_b481_da_497 : b481 ≠ da_497 := Nat.ne_of_lt (Nat.lt_of_lt_of_le f498.lt p497_0)
  have ne_b485_da_497 : b485 ≠ da_497 := Nat.ne_of_lt (Nat.lt_of_lt_of_le f502.lt p497_0)
  have p497_3 : Arv Z T497.heap da_497 kd_497 .byte (2 : Int32) [(.int ((z0 &&& 255).toInt8.toInt32)), (.int ((z1 &&& 255).toInt8.toInt32))] (.int 0) := p497_3
  have f504 : Exa Z T497.heap b481 "java/lang/String" := (Exa.keep f498 K497q)
  refine Go.of (T' := T497) (f' := (mkF m 64 #[rv da0, iv 2] [(.ref b481)])) (fun _ k => st497 _ k) ?_
  exact Go.retA X497 hx hlk hret rfl rfl (D d7_64) (by decide) (by decide) ⟨b481, da_497, kd_497, rfl, N497, K503, f504, p497_1, p497_2, p497_3⟩
theorem d7_65 : decode method_3_code 65 = .ok (.iload_n 1, 1) := by decide +kernel
theorem d7_66 : decode method_3_code 66 = .ok (.iconst 3, 1) := by decide +kernel
theorem d7_67 : decode method_3_code 67 = .ok (.if_icmp .ne 32, 3) := by decide +kernel
theorem d7_70 : decode method_3_code 70 = .ok (.new 18, 3) := by decide +kernel
theorem d7_73 : decode method_3_code 73 = .ok (.dup, 1) := by decide +kernel
theorem d7_74 : decode method_3_code 74 = .ok (.iconst 3, 1) := by decide +kernel
theorem d7_75 : decode method_3_code 75 = .ok (.newarray .char, 2) := by decide +kernel
theorem d7_77 : decode method_3_code 77 = .ok (.dup, 1) := by decide +kernel
theorem d7_78 : decode method_3_code 78 = .ok (.iconst 0, 1) := by decide +kernel
theorem d7_79 : decode method_3_code 79 = .ok (.aload_n 0, 1) := by decide +kernel
theorem d7_80 : decode method_3_code 80 = .ok (.iconst 0, 1) := by decide +kernel
theorem d7_81 : decode method_3_code 81 = .ok (.caload, 1) := by decide +kernel
theorem d7_82 : decode method_3_code 82 = .ok (.castore, 1) := by decide +kernel
theorem d7_83 : decode method_3_code 83 = .ok (.dup, 1) := by decide +kernel
theorem d7_84 : decode method_3_code 84 = .ok (.iconst 1, 1) := by decide +kernel
theorem d7_85 : decode method_3_code 85 = .ok (.aload_n 0, 1) := by decide +kernel
theorem d7_86 : decode method_3_code 86 = .ok (.iconst 1, 1) := by decide +kernel
theorem d7_87 : decode method_3_code 87 = .ok (.caload, 1) := by decide +kernel
theorem d7_88 : decode method_3_code 88 = .ok (.castore, 1) := by decide +kernel
theorem d7_89 : decode method_3_code 89 = .ok (.dup, 1) := by decide +kernel
theorem d7_90 : decode method_3_code 90 = .ok (.iconst 2, 1) := by decide +kernel
theorem d7_91 : decode method_3_code 91 = .ok (.aload_n 0, 1) := by decide +kernel
theorem d7_92 : decode method_3_code 92 = .ok (.iconst 2, 1) := by decide +kernel
theorem d7_93 : decode method_3_code 93 = .ok (.caload, 1) := by decide +kernel
theorem d7_94 : decode method_3_code 94 = .ok (.castore, 1) := by decide +kernel
theorem d7_95 : decode method_3_code 95 = .ok (.invokespecial 59, 3) := by decide +kernel
theorem d7_98 : decode method_3_code 98 = .ok (.areturn, 1) := by decide +kernel
theorem ef_rm_make3 (m : MethodId) (da0 : Addr) : entryFrame m #[(.ref da0), (.int (3 : Int32))] 2 = mkF m 0 #[rv da0, iv (3 : Int32)] [] := by first | (simp [entryFrame, mkF, argsToLocals, Value.category]; done) | rfl
set_option maxRecDepth 65536 in
set_option maxHeartbeats 40000000 in
theorem rm_make3 {l : Launch} {Z : State} {a0 : Array Value} {A : Nat → Addr} {KC : Nat → Cell} {IC : Nat → Int32} {VC : Nat → Value} (hw : ∀ d ∈ tables_1, d.before a0 Z = true) (G : own_Ctx Z A KC IC VC) (da0 : Addr) (kd0 : ClassId) (z0 : Int32) (z1 : Int32) (z2 : Int32) (z3 : Int32) (z4 : Int32) (z5 : Int32) (h0 : Heap) (O0 : Ext Z.heap h0) (prem0 : Arv Z h0 da0 kd0 .char (6 : Int32) [(.int (z0 &&& (255 : Int32))), (.int (z1 &&& (255 : Int32))), (.int (z2 &&& (255 : Int32))), (.int (z3 &&& (255 : Int32))), (.int (z4 &&& (255 : Int32))), (.int (z5 &&& (255 : Int32)))] (.int (0 : Int32))) :
    Ok l Z own_m39 method_3_code 2 (some (.object "java/lang/String")) ({ frames := 4, cells := 3, slots := 13, locals := 66 } : Room) #[(.ref da0), (.int (3 : Int32))] h0
      (fun v h L => ∃ so : Addr, ∃ sv : Addr, ∃ ks : ClassId, v = some (.ref so) ∧ (Fr Z.heap.size L) ∧ (Keep h0 h []) ∧ (Exa Z h so "java/lang/String") ∧ (Fld Z h so "java/lang/String" "value" "[B" (.ref sv)) ∧ (Fld Z h so "java/lang/String" "coder" "B" (.int (0 : Int32))) ∧ (Arv Z h sv ks .byte (3 : Int32) [(.int ((z0 &&& (255 : Int32)).toInt8.toInt32)), (.int ((z1 &&& (255 : Int32)).toInt8.toInt32)), (.int ((z2 &&& (255 : Int32)).toInt8.toInt32))] (.int (0 : Int32)))) := by
  refine Ok.mk pn40 ?_
  intro p e s m below meth c T0 hx hby hml hown hnm hret hlk hZ e0 X0
  refine Go.cast (ef_rm_make3 m da0) ?_
  have D := @hb _ _ hby
  have N0 := Fr.nil Z.heap.size
  have K0 : Keep h0 h0 [] := Keep.refl _ _
  obtain ⟨T509, h509, b509, q509, X509, e509, E509, A509, D509, st509⟩ := newOb X0 hx hZ hown (own_w hw (i := 48) rfl) (own_w hw (i := 3) rfl) (own_w hw (i := 2) rfl) e0 (g := (mkF m 70 #[rv da0, iv 3] [])) rfl (D d7_70) (by decide) (by decide)
  have O510 := Old0.ext O0 E509
  have K510 := Keep.ext K0 E509
  have g_b509 : Z.heap.size ≤ b509 := q509 ▸ O0.1
  have z_b509 : h0.size ≤ b509 := q509 ▸ K0.1
  have ne_da0_b509 : da0 ≠ b509 := q509 ▸ Nat.ne_of_lt prem0.lt
  have f511 : Fld Z h509 b509 "java/lang/String" "value" "[B" .null := D509 (Or.inr (own_w hw (i := 5) rfl)) (ty := (.array .byte)) (by decide)
  have f512 : Fld Z h509 b509 "java/lang/String" "coder" "B" (.int 0) := D509 (Or.inr (own_w hw (i := 6) rfl)) (ty := .byte) (by decide)
  have f514 : Arv Z h509 da0 kd0 .char (6 : Int32) [(.int (z0 &&& 255)), (.int (z1 &&& 255)), (.int (z2 &&& 255)), (.int (z3 &&& 255)), (.int (z4 &&& 255)), (.int (z5 &&& 255))] (.int 0) := (Arv.ext prem0 E509)
  obtain ⟨T513, h513, k513, b513, q513, X513, e513, E513, V513, A513, st513⟩ := newAr X509 hx hZ (own_w hw (i := 0) rfl) e509 (g := (mkF m 75 #[rv da0, iv 3] [(.int 3), (.ref b509), (.ref b509)])) rfl (D d7_75) rfl (by decide) (cap := 3) (by decide) (by decide) (by decide) (by decide) (ad := "[C") (by decide)
  have O515 := Old0.ext O510 E513
  have K515 := Keep.ext K510 E513
  have g_b513 : Z.heap.size ≤ b513 := q513 ▸ O510.1
  have z_b513 : h0.size ≤ b513 := q513 ▸ K510.1
  have ne_da0_b513 : da0 ≠ b513 := q513 ▸ Nat.ne_of_lt f514.lt
  have ne_b509_b513 : b509 ≠ b513 := q513 ▸ Nat.ne_of_lt A509.lt
  have f516 : Arv Z h513 b513 k513 .char (3 : Int32) [(.int 0), (.int 0), (.int 0)] (.int 0) := Arv.pad V513 (pad_rep [] (.int 0) 3)
  have f518 : Arv Z h513 da0 kd0 .char (6 : Int32) [(.int (z0 &&& 255)), (.int (z1 &&& 255)), (.int (z2 &&& 255)), (.int (z3 &&& 255)), (.int (z4 &&& 255)), (.int (z5 &&& 255))] (.int 0) := (Arv.ext f514 E513)
  obtain ⟨cl517, Ar517, qk517, S517, Ng517, H517, G517⟩ := id f518
  have hin517 := inb_of (j := (0 : Int32)) S517 ⟨by decide, by decide⟩
  obtain ⟨cl519, Ar519, qk519, S519, Ng519, H519, G519⟩ := id f516
  obtain ⟨T519, h519, X519, e519, W519, st519⟩ := stC X513 hx hZ e513 Ar519 (j := (0 : Int32)) (inb_of S519 ⟨by decide, by decide⟩) (g := (mkF m 82 #[rv da0, iv 3] [(.int (z0 &&& 255)), (.int 0), (.ref b513), (.ref b513), (.ref b509), (.ref b509)])) rfl rfl (D d7_82)
  have W519 : Wr h513 h519 b513 ((0 : Int32)).toNatClampNeg (.int (z0 &&& 255)) := Eq.mp (congrArg (fun z => Wr h513 h519 b513 ((0 : Int32)).toNatClampNeg (Value.int z)) (i2c_mask z0)) W519
  have O520 := Old0.wr O515 W519 g_b513
  have K520 := Keep.wr K515 W519 (Or.inr z_b513)
  have f519 : Arv Z h519 b513 k513 .char (3 : Int32) [(.int (z0 &&& 255)), (.int 0), (.int 0)] (.int 0) := Arv.set Ar519 qk519 S519 Ng519 H519 G519 (v := (.int (z0 &&& 255))) (own_f255 z0) W519 0 rfl (Nat.le_of_ble_eq_true rfl)
  have N519 := Fr.snoc X519 N0 g_b513
  refine Go.of (T' := T519) (f' := (mkF m 86 #[rv da0, iv 3] [(.ref da0), (.int 1), (.ref b513), (.ref b513), (.ref b509), (.ref b509)])) (fun _ k => XS.iloadN X0.here hx rfl (D d7_0) rfl (XS.ifYes X0.here hx rfl (pc0 := 1) (pc' := 15) rfl (D d7_1) rfl ((if0 _ _).trans (tlt (by decide : (0 : Int32) < (3 : Int32))).2.2.1) (by decide) (by decide) (XS.iloadN X0.here hx rfl (D d7_15) rfl (XS.iconst X0.here hx rfl (D d7_16) (XS.icmpYes X0.here hx rfl (pc0 := 17) (pc' := 37) rfl (D d7_17) rfl (feq (by decide : ¬ ((3 : Int32) = (1 : Int32)))).2 (by decide) (by decide) (XS.iloadN X0.here hx rfl (D d7_37) rfl (XS.iconst X0.here hx rfl (D d7_38) (XS.icmpYes X0.here hx rfl (pc0 := 39) (pc' := 65) rfl (D d7_39) rfl (feq (by decide : ¬ ((3 : Int32) = (2 : Int32)))).2 (by decide) (by decide) (XS.iloadN X0.here hx rfl (D d7_65) rfl (XS.iconst X0.here hx rfl (D d7_66) (XS.icmpNo X0.here hx rfl (D d7_67) rfl (teq (by decide : (3 : Int32) = (3 : Int32))).2 (st509 _ (XS.dup X509.here hx rfl (D d7_73) rfl rfl (XS.iconst X509.here hx rfl (D d7_74) (st513 _ (XS.dup X513.here hx rfl (D d7_77) rfl rfl (XS.iconst X513.here hx rfl (D d7_78) (XS.aloadN X513.here hx rfl (D d7_79) rfl rfl (XS.iconst X513.here hx rfl (D d7_80) (X513.caload hx (j := (0 : Int32)) (v := (.int (z0 &&& 255))) (by rw [e513]; exact Ar517.1) (State.isArrayOf_alike hZ.alike Ar517.2.1) Ar517.2.2 hin517 (H517.at hin517 rfl) (g := (mkF m 81 #[rv da0, iv 3] [(.int 0), (.ref da0), (.int 0), (.ref b513), (.ref b513), (.ref b509), (.ref b509)])) rfl rfl (D d7_81) _ (st519 _ (XS.dup X519.here hx rfl (D d7_83) rfl rfl (XS.iconst X519.here hx rfl (D d7_84) (XS.aloadN X519.here hx rfl (D d7_85) rfl rfl k)))))))))))))))))))))))) ?_
  have f522 : Arv Z h519 da0 kd0 .char (6 : Int32) [(.int (z0 &&& 255)), (.int (z1 &&& 255)), (.int (z2 &&& 255)), (.int (z3 &&& 255)), (.int (z4 &&& 255)), (.int (z5 &&& 255))] (.int 0) := (Arv.other f518 W519 ne_da0_b513)
  obtain ⟨cl521, Ar521, qk521, S521, Ng521, H521, G521⟩ := id f522
  have hin521 := inb_of (j := (1 : Int32)) S521 ⟨by decide, by decide⟩
  obtain ⟨cl523, Ar523, qk523, S523, Ng523, H523, G523⟩ := id f519
  obtain ⟨T523, h523, X523, e523, W523, st523⟩ := stC X519 hx hZ e519 Ar523 (j := (1 : Int32)) (inb_of S523 ⟨by decide, by decide⟩) (g := (mkF m 88 #[rv da0, iv 3] [(.int (z1 &&& 255)), (.int 1), (.ref b513), (.ref b513), (.ref b509), (.ref b509)])) rfl rfl (D d7_88)
  have W523 : Wr h519 h523 b513 ((1 : Int32)).toNatClampNeg (.int (z1 &&& 255)) := Eq.mp (congrArg (fun z => Wr h519 h523 b513 ((1 : Int32)).toNatClampNeg (Value.int z)) (i2c_mask z1)) W523
  have O524 := Old0.wr O520 W523 g_b513
  have K524 := Keep.wr K520 W523 (Or.inr z_b513)
  have f523 : Arv Z h523 b513 k513 .char (3 : Int32) [(.int (z0 &&& 255)), (.int (z1 &&& 255)), (.int 0)] (.int 0) := Arv.set Ar523 qk523 S523 Ng523 H523 G523 (v := (.int (z1 &&& 255))) (own_f255 z1) W523 1 rfl (Nat.le_of_ble_eq_true rfl)
  have N523 := Fr.snoc X523 N519 g_b513
  have f526 : Arv Z h523 da0 kd0 .char (6 : Int32) [(.int (z0 &&& 255)), (.int (z1 &&& 255)), (.int (z2 &&& 255)), (.int (z3 &&& 255)), (.int (z4 &&& 255)), (.int (z5 &&& 255))] (.int 0) := (Arv.other f522 W523 ne_da0_b513)
  obtain ⟨cl525, Ar525, qk525, S525, Ng525, H525, G525⟩ := id f526
  have hin525 := inb_of (j := (2 : Int32)) S525 ⟨by decide, by decide⟩
  obtain ⟨cl527, Ar527, qk527, S527, Ng527, H527, G527⟩ := id f523
  obtain ⟨T527, h527, X527, e527, W527, st527⟩ := stC X523 hx hZ e523 Ar527 (j := (2 : Int32)) (inb_of S527 ⟨by decide, by decide⟩) (g := (mkF m 94 #[rv da0, iv 3] [(.int (z2 &&& 255)), (.int 2), (.ref b513), (.ref b513), (.ref b509), (.ref b509)])) rfl rfl (D d7_94)
  have W527 : Wr h523 h527 b513 ((2 : Int32)).toNatClampNeg (.int (z2 &&& 255)) := Eq.mp (congrArg (fun z => Wr h523 h527 b513 ((2 : Int32)).toNatClampNeg (Value.int z)) (i2c_mask z2)) W527
  have O528 := Old0.wr O524 W527 g_b513
  have K528 := Keep.wr K524 W527 (Or.inr z_b513)
  have f527 : Arv Z h527 b513 k513 .char (3 : Int32) [(.int (z0 &&& 255)), (.int (z1 &&& 255)), (.int (z2 &&& 255))] (.int 0) := Arv.set Ar527 qk527 S527 Ng527 H527 G527 (v := (.int (z2 &&& 255))) (own_f255 z2) W527 2 rfl (Nat.le_of_ble_eq_true rfl)
  have N527 := Fr.snoc X527 N523 g_b513
  have f530 : Exa Z h527 b509 "java/lang/String" := (Exa.wr W527 (Exa.wr W523 (Exa.wr W519 (Exa.ext E513 A509))))
  have f531 : Fld Z h527 b509 "java/lang/String" "value" "[B" .null := (Fld.other W527 (Fld.other W523 (Fld.other W519 (Fld.ext E513 f511) (Or.inl ne_b509_b513)) (Or.inl ne_b509_b513)) (Or.inl ne_b509_b513))
  have f532 : Fld Z h527 b509 "java/lang/String" "coder" "B" (.int 0) := (Fld.other W527 (Fld.other W523 (Fld.other W519 (Fld.ext E513 f512) (Or.inl ne_b509_b513)) (Or.inl ne_b509_b513)) (Or.inl ne_b509_b513))
  have f533 : Arv Z h527 da0 kd0 .char (6 : Int32) [(.int (z0 &&& 255)), (.int (z1 &&& 255)), (.int (z2 &&& 255)), (.int (z3 &&& 255)), (.int (z4 &&& 255)), (.int (z5 &&& 255))] (.int 0) := (Arv.other f526 W527 ne_da0_b513)
  have f534 : Exa Z h527 b513 "[C" := (Exa.wr W527 (Exa.wr W523 (Exa.wr W519 A513)))
  obtain ⟨T529, v529, L529, X529, q529, st529⟩ := callNew X527 hx hZ (y := own_m12) rfl hown (own_w hw (i := 49) rfl) (own_w hw (i := 50) rfl) (own_w hw (i := 2) rfl) (own_w hw (i := 51) rfl) (by decide) (rm_str hw G b509 b513 ((3 : Int32)) k513 (([(z0 &&& 255), (z1 &&& 255), (z2 &&& 255)] : List Int32)) h527 O528 (rfl) (And.intro (own_le255 _) (And.intro (own_le255 _) (And.intro (own_le255 _) (trivial)))) (Nat.le_of_ble_eq_true rfl) (Nat.succ_pos _) f530 f531 f532 g_b509 f527 ne_b509_b513) e527 (W := 1) (by decide) (by decide) (by decide) (by decide) (g := (mkF m 95 #[rv da0, iv 3] [(.ref b513), (.ref b509), (.ref b509)])) rfl (by rw [hml]; rfl) (a := b509) (argsL := [(.ref b513)]) (rest := [(.ref b509)]) (lenOf pd38 rfl) rfl rfl (Nat.le_of_eq rfl) (D d7_95)
  obtain ⟨da_529, kd_529, rfl, N529q, K529q, p529_0, p529_1, p529_2, p529_3, p529_4⟩ := q529
  have N529 := Fr.app N527 N529q
  have O535 := Old0.keep O528 K529q (allS g_b509 all0)
  have K535 := Keep.trans K528 K529q (allS (Or.inr z_b509) all0)
  have z_da_529 : h0.size ≤ da_529 := Nat.le_trans K528.1 p529_0
  have g_da_529 : Z.heap.size ≤ da_529 := Nat.le_trans O528.1 p529_0
  have ne_da0_da_529 : da0 ≠ da_529 := Nat.ne_of_lt (Nat.lt_of_lt_of_le f533.lt p529_0)
  have ne_b509_da_529 : b509 ≠ da_529 := Nat.ne_of_lt (Nat.lt_of_lt_of_le f530.lt p529_0)
  have ne_b513_da_529 : b513 ≠ da_529 := Nat.ne_of_lt (Nat.lt_of_lt_of_le f534.lt p529_0)
  have p529_3 : Arv Z T529.heap da_529 kd_529 .byte (3 : Int32) [(.int ((z0 &&& 255).toInt8.toInt32)), (.int ((z1 &&& 255).toInt8.toInt32)), (.int ((z2 &&& 255).toInt8.toInt32))] (.int 0) := p529_3
  have f536 : Exa Z T529.heap b509 "java/lang/String" := (Exa.keep f530 K529q)
  refine Go.of (T' := T529) (f' := (mkF m 98 #[rv da0, iv 3] [(.ref b509)])) (fun _ k => XS.iconst X519.here hx rfl (D d7_86) (X519.caload hx (j := (1 : Int32)) (v := (.int (z1 &&& 255))) (by rw [e519]; exact Ar521.1) (State.isArrayOf_alike hZ.alike Ar521.2.1) Ar521.2.2 hin521 (H521.at hin521 rfl) (g := (mkF m 87 #[rv da0, iv 3] [(.int 1), (.ref da0), (.int 1), (.ref b513), (.ref b513), (.ref b509), (.ref b509)])) rfl rfl (D d7_87) _ (st523 _ (XS.dup X523.here hx rfl (D d7_89) rfl rfl (XS.iconst X523.here hx rfl (D d7_90) (XS.aloadN X523.here hx rfl (D d7_91) rfl rfl (XS.iconst X523.here hx rfl (D d7_92) (X523.caload hx (j := (2 : Int32)) (v := (.int (z2 &&& 255))) (by rw [e523]; exact Ar525.1) (State.isArrayOf_alike hZ.alike Ar525.2.1) Ar525.2.2 hin525 (H525.at hin525 rfl) (g := (mkF m 93 #[rv da0, iv 3] [(.int 2), (.ref da0), (.int 2), (.ref b513), (.ref b513), (.ref b509), (.ref b509)])) rfl rfl (D d7_93) _ (st527 _ (st529 _ k)))))))))) ?_
  exact Go.retA X529 hx hlk hret rfl rfl (D d7_98) (by decide) (by decide) ⟨b509, da_529, kd_529, rfl, N529, K535, f536, p529_1, p529_2, p529_3⟩
theorem d7_99 : decode method_3_code 99 = .ok (.iload_n 1, 1) := by decide +kernel
theorem d7_100 : decode method_3_code 100 = .ok (.iconst 4, 1) := by decide +kernel
theorem d7_101 : decode method_3_code 101 = .ok (.if_icmp .ne 38, 3) := by decide +kernel
theorem d7_104 : decode method_3_code 104 = .ok (.new 18, 3) := by decide +kernel
theorem d7_107 : decode method_3_code 107 = .ok (.dup, 1) := by decide +kernel
theorem d7_108 : decode method_3_code 108 = .ok (.iconst 4, 1) := by decide +kernel
theorem d7_109 : decode method_3_code 109 = .ok (.newarray .char, 2) := by decide +kernel
theorem d7_111 : decode method_3_code 111 = .ok (.dup, 1) := by decide +kernel
theorem d7_112 : decode method_3_code 112 = .ok (.iconst 0, 1) := by decide +kernel
theorem d7_113 : decode method_3_code 113 = .ok (.aload_n 0, 1) := by decide +kernel
theorem d7_114 : decode method_3_code 114 = .ok (.iconst 0, 1) := by decide +kernel
theorem d7_115 : decode method_3_code 115 = .ok (.caload, 1) := by decide +kernel
theorem d7_116 : decode method_3_code 116 = .ok (.castore, 1) := by decide +kernel
theorem d7_117 : decode method_3_code 117 = .ok (.dup, 1) := by decide +kernel
theorem d7_118 : decode method_3_code 118 = .ok (.iconst 1, 1) := by decide +kernel
theorem d7_119 : decode method_3_code 119 = .ok (.aload_n 0, 1) := by decide +kernel
theorem d7_120 : decode method_3_code 120 = .ok (.iconst 1, 1) := by decide +kernel
theorem d7_121 : decode method_3_code 121 = .ok (.caload, 1) := by decide +kernel
theorem d7_122 : decode method_3_code 122 = .ok (.castore, 1) := by decide +kernel
theorem d7_123 : decode method_3_code 123 = .ok (.dup, 1) := by decide +kernel
theorem d7_124 : decode method_3_code 124 = .ok (.iconst 2, 1) := by decide +kernel
theorem d7_125 : decode method_3_code 125 = .ok (.aload_n 0, 1) := by decide +kernel
theorem d7_126 : decode method_3_code 126 = .ok (.iconst 2, 1) := by decide +kernel
theorem d7_127 : decode method_3_code 127 = .ok (.caload, 1) := by decide +kernel
theorem d7_128 : decode method_3_code 128 = .ok (.castore, 1) := by decide +kernel
theorem d7_129 : decode method_3_code 129 = .ok (.dup, 1) := by decide +kernel
theorem d7_130 : decode method_3_code 130 = .ok (.iconst 3, 1) := by decide +kernel
theorem d7_131 : decode method_3_code 131 = .ok (.aload_n 0, 1) := by decide +kernel
theorem d7_132 : decode method_3_code 132 = .ok (.iconst 3, 1) := by decide +kernel
theorem d7_133 : decode method_3_code 133 = .ok (.caload, 1) := by decide +kernel
theorem d7_134 : decode method_3_code 134 = .ok (.castore, 1) := by decide +kernel
theorem d7_135 : decode method_3_code 135 = .ok (.invokespecial 59, 3) := by decide +kernel
theorem d7_138 : decode method_3_code 138 = .ok (.areturn, 1) := by decide +kernel
theorem ef_rm_make4 (m : MethodId) (da0 : Addr) : entryFrame m #[(.ref da0), (.int (4 : Int32))] 2 = mkF m 0 #[rv da0, iv (4 : Int32)] [] := by first | (simp [entryFrame, mkF, argsToLocals, Value.category]; done) | rfl
set_option maxRecDepth 65536 in
set_option maxHeartbeats 40000000 in
theorem rm_make4 {l : Launch} {Z : State} {a0 : Array Value} {A : Nat → Addr} {KC : Nat → Cell} {IC : Nat → Int32} {VC : Nat → Value} (hw : ∀ d ∈ tables_1, d.before a0 Z = true) (G : own_Ctx Z A KC IC VC) (da0 : Addr) (kd0 : ClassId) (z0 : Int32) (z1 : Int32) (z2 : Int32) (z3 : Int32) (z4 : Int32) (z5 : Int32) (h0 : Heap) (O0 : Ext Z.heap h0) (prem0 : Arv Z h0 da0 kd0 .char (6 : Int32) [(.int (z0 &&& (255 : Int32))), (.int (z1 &&& (255 : Int32))), (.int (z2 &&& (255 : Int32))), (.int (z3 &&& (255 : Int32))), (.int (z4 &&& (255 : Int32))), (.int (z5 &&& (255 : Int32)))] (.int (0 : Int32))) :
    Ok l Z own_m39 method_3_code 2 (some (.object "java/lang/String")) ({ frames := 4, cells := 3, slots := 14, locals := 66 } : Room) #[(.ref da0), (.int (4 : Int32))] h0
      (fun v h L => ∃ so : Addr, ∃ sv : Addr, ∃ ks : ClassId, v = some (.ref so) ∧ (Fr Z.heap.size L) ∧ (Keep h0 h []) ∧ (Exa Z h so "java/lang/String") ∧ (Fld Z h so "java/lang/String" "value" "[B" (.ref sv)) ∧ (Fld Z h so "java/lang/String" "coder" "B" (.int (0 : Int32))) ∧ (Arv Z h sv ks .byte (4 : Int32) [(.int ((z0 &&& (255 : Int32)).toInt8.toInt32)), (.int ((z1 &&& (255 : Int32)).toInt8.toInt32)), (.int ((z2 &&& (255 : Int32)).toInt8.toInt32)), (.int ((z3 &&& (255 : Int32)).toInt8.toInt32))] (.int (0 : Int32)))) := by
  refine Ok.mk pn40 ?_
  intro p e s m below meth c T0 hx hby hml hown hnm hret hlk hZ e0 X0
  refine Go.cast (ef_rm_make4 m da0) ?_
  have D := @hb _ _ hby
  have N0 := Fr.nil Z.heap.size
  have K0 : Keep h0 h0 [] := Keep.refl _ _
  obtain ⟨T542, h542, b542, q542, X542, e542, E542, A542, D542, st542⟩ := newOb X0 hx hZ hown (own_w hw (i := 48) rfl) (own_w hw (i := 3) rfl) (own_w hw (i := 2) rfl) e0 (g := (mkF m 104 #[rv da0, iv 4] [])) rfl (D d7_104) (by decide) (by decide)
  have O543 := Old0.ext O0 E542
  have K543 := Keep.ext K0 E542
  have g_b542 : Z.heap.size ≤ b542 := q542 ▸ O0.1
  have z_b542 : h0.size ≤ b542 := q542 ▸ K0.1
  have ne_da0_b542 : da0 ≠ b542 := q542 ▸ Nat.ne_of_lt prem0.lt
  have f544 : Fld Z h542 b542 "java/lang/String" "value" "[B" .null := D542 (Or.inr (own_w hw (i := 5) rfl)) (ty := (.array .byte)) (by decide)
  have f545 : Fld Z h542 b542 "java/lang/String" "coder" "B" (.int 0) := D542 (Or.inr (own_w hw (i := 6) rfl)) (ty := .byte) (by decide)
  have f547 : Arv Z h542 da0 kd0 .char (6 : Int32) [(.int (z0 &&& 255)), (.int (z1 &&& 255)), (.int (z2 &&& 255)), (.int (z3 &&& 255)), (.int (z4 &&& 255)), (.int (z5 &&& 255))] (.int 0) := (Arv.ext prem0 E542)
  obtain ⟨T546, h546, k546, b546, q546, X546, e546, E546, V546, A546, st546⟩ := newAr X542 hx hZ (own_w hw (i := 0) rfl) e542 (g := (mkF m 109 #[rv da0, iv 4] [(.int 4), (.ref b542), (.ref b542)])) rfl (D d7_109) rfl (by decide) (cap := 4) (by decide) (by decide) (by decide) (by decide) (ad := "[C") (by decide)
  have O548 := Old0.ext O543 E546
  have K548 := Keep.ext K543 E546
  have g_b546 : Z.heap.size ≤ b546 := q546 ▸ O543.1
  have z_b546 : h0.size ≤ b546 := q546 ▸ K543.1
  have ne_da0_b546 : da0 ≠ b546 := q546 ▸ Nat.ne_of_lt f547.lt
  have ne_b542_b546 : b542 ≠ b546 := q546 ▸ Nat.ne_of_lt A542.lt
  have f549 : Arv Z h546 b546 k546 .char (4 : Int32) [(.int 0), (.int 0), (.int 0), (.int 0)] (.int 0) := Arv.pad V546 (pad_rep [] (.int 0) 4)
  have f551 : Arv Z h546 da0 kd0 .char (6 : Int32) [(.int (z0 &&& 255)), (.int (z1 &&& 255)), (.int (z2 &&& 255)), (.int (z3 &&& 255)), (.int (z4 &&& 255)), (.int (z5 &&& 255))] (.int 0) := (Arv.ext f547 E546)
  obtain ⟨cl550, Ar550, qk550, S550, Ng550, H550, G550⟩ := id f551
  have hin550 := inb_of (j := (0 : Int32)) S550 ⟨by decide, by decide⟩
  obtain ⟨cl552, Ar552, qk552, S552, Ng552, H552, G552⟩ := id f549
  obtain ⟨T552, h552, X552, e552, W552, st552⟩ := stC X546 hx hZ e546 Ar552 (j := (0 : Int32)) (inb_of S552 ⟨by decide, by decide⟩) (g := (mkF m 116 #[rv da0, iv 4] [(.int (z0 &&& 255)), (.int 0), (.ref b546), (.ref b546), (.ref b542), (.ref b542)])) rfl rfl (D d7_116)
  have W552 : Wr h546 h552 b546 ((0 : Int32)).toNatClampNeg (.int (z0 &&& 255)) := Eq.mp (congrArg (fun z => Wr h546 h552 b546 ((0 : Int32)).toNatClampNeg (Value.int z)) (i2c_mask z0)) W552
  have O553 := Old0.wr O548 W552 g_b546
  have K553 := Keep.wr K548 W552 (Or.inr z_b546)
  have f552 : Arv Z h552 b546 k546 .char (4 : Int32) [(.int (z0 &&& 255)), (.int 0), (.int 0), (.int 0)] (.int 0) := Arv.set Ar552 qk552 S552 Ng552 H552 G552 (v := (.int (z0 &&& 255))) (own_f255 z0) W552 0 rfl (Nat.le_of_ble_eq_true rfl)
  have N552 := Fr.snoc X552 N0 g_b546
  refine Go.of (T' := T552) (f' := (mkF m 117 #[rv da0, iv 4] [(.ref b546), (.ref b542), (.ref b542)])) (fun _ k => XS.iloadN X0.here hx rfl (D d7_0) rfl (XS.ifYes X0.here hx rfl (pc0 := 1) (pc' := 15) rfl (D d7_1) rfl ((if0 _ _).trans (tlt (by decide : (0 : Int32) < (4 : Int32))).2.2.1) (by decide) (by decide) (XS.iloadN X0.here hx rfl (D d7_15) rfl (XS.iconst X0.here hx rfl (D d7_16) (XS.icmpYes X0.here hx rfl (pc0 := 17) (pc' := 37) rfl (D d7_17) rfl (feq (by decide : ¬ ((4 : Int32) = (1 : Int32)))).2 (by decide) (by decide) (XS.iloadN X0.here hx rfl (D d7_37) rfl (XS.iconst X0.here hx rfl (D d7_38) (XS.icmpYes X0.here hx rfl (pc0 := 39) (pc' := 65) rfl (D d7_39) rfl (feq (by decide : ¬ ((4 : Int32) = (2 : Int32)))).2 (by decide) (by decide) (XS.iloadN X0.here hx rfl (D d7_65) rfl (XS.iconst X0.here hx rfl (D d7_66) (XS.icmpYes X0.here hx rfl (pc0 := 67) (pc' := 99) rfl (D d7_67) rfl (feq (by decide : ¬ ((4 : Int32) = (3 : Int32)))).2 (by decide) (by decide) (XS.iloadN X0.here hx rfl (D d7_99) rfl (XS.iconst X0.here hx rfl (D d7_100) (XS.icmpNo X0.here hx rfl (D d7_101) rfl (teq (by decide : (4 : Int32) = (4 : Int32))).2 (st542 _ (XS.dup X542.here hx rfl (D d7_107) rfl rfl (XS.iconst X542.here hx rfl (D d7_108) (st546 _ (XS.dup X546.here hx rfl (D d7_111) rfl rfl (XS.iconst X546.here hx rfl (D d7_112) (XS.aloadN X546.here hx rfl (D d7_113) rfl rfl (XS.iconst X546.here hx rfl (D d7_114) (X546.caload hx (j := (0 : Int32)) (v := (.int (z0 &&& 255))) (by rw [e546]; exact Ar550.1) (State.isArrayOf_alike hZ.alike Ar550.2.1) Ar550.2.2 hin550 (H550.at hin550 rfl) (g := (mkF m 115 #[rv da0, iv 4] [(.int 0), (.ref da0), (.int 0), (.ref b546), (.ref b546), (.ref b542), (.ref b542)])) rfl rfl (D d7_115) _ (st552 _ k)))))))))))))))))))))))) ?_
  have f555 : Arv Z h552 da0 kd0 .char (6 : Int32) [(.int (z0 &&& 255)), (.int (z1 &&& 255)), (.int (z2 &&& 255)), (.int (z3 &&& 255)), (.int (z4 &&& 255)), (.int (z5 &&& 255))] (.int 0) := (Arv.other f551 W552 ne_da0_b546)
  obtain ⟨cl554, Ar554, qk554, S554, Ng554, H554, G554⟩ := id f555
  have hin554 := inb_of (j := (1 : Int32)) S554 ⟨by decide, by decide⟩
  obtain ⟨cl556, Ar556, qk556, S556, Ng556, H556, G556⟩ := id f552
  obtain ⟨T556, h556, X556, e556, W556, st556⟩ := stC X552 hx hZ e552 Ar556 (j := (1 : Int32)) (inb_of S556 ⟨by decide, by decide⟩) (g := (mkF m 122 #[rv da0, iv 4] [(.int (z1 &&& 255)), (.int 1), (.ref b546), (.ref b546), (.ref b542), (.ref b542)])) rfl rfl (D d7_122)
  have W556 : Wr h552 h556 b546 ((1 : Int32)).toNatClampNeg (.int (z1 &&& 255)) := Eq.mp (congrArg (fun z => Wr h552 h556 b546 ((1 : Int32)).toNatClampNeg (Value.int z)) (i2c_mask z1)) W556
  have O557 := Old0.wr O553 W556 g_b546
  have K557 := Keep.wr K553 W556 (Or.inr z_b546)
  have f556 : Arv Z h556 b546 k546 .char (4 : Int32) [(.int (z0 &&& 255)), (.int (z1 &&& 255)), (.int 0), (.int 0)] (.int 0) := Arv.set Ar556 qk556 S556 Ng556 H556 G556 (v := (.int (z1 &&& 255))) (own_f255 z1) W556 1 rfl (Nat.le_of_ble_eq_true rfl)
  have N556 := Fr.snoc X556 N552 g_b546
  have f559 : Arv Z h556 da0 kd0 .char (6 : Int32) [(.int (z0 &&& 255)), (.int (z1 &&& 255)), (.int (z2 &&& 255)), (.int (z3 &&& 255)), (.int (z4 &&& 255)), (.int (z5 &&& 255))] (.int 0) := (Arv.other f555 W556 ne_da0_b546)
  obtain ⟨cl558, Ar558, qk558, S558, Ng558, H558, G558⟩ := id f559
  have hin558 := inb_of (j := (2 : Int32)) S558 ⟨by decide, by decide⟩
  obtain ⟨cl560, Ar560, qk560, S560, Ng560, H560, G560⟩ := id f556
  obtain ⟨T560, h560, X560, e560, W560, st560⟩ := stC X556 hx hZ e556 Ar560 (j := (2 : Int32)) (inb_of S560 ⟨by decide, by decide⟩) (g := (mkF m 128 #[rv da0, iv 4] [(.int (z2 &&& 255)), (.int 2), (.ref b546), (.ref b546), (.ref b542), (.ref b542)])) rfl rfl (D d7_128)
  have W560 : Wr h556 h560 b546 ((2 : Int32)).toNatClampNeg (.int (z2 &&& 255)) := Eq.mp (congrArg (fun z => Wr h556 h560 b546 ((2 : Int32)).toNatClampNeg (Value.int z)) (i2c_mask z2)) W560
  have O561 := Old0.wr O557 W560 g_b546
  have K561 := Keep.wr K557 W560 (Or.inr z_b546)
  have f560 : Arv Z h560 b546 k546 .char (4 : Int32) [(.int (z0 &&& 255)), (.int (z1 &&& 255)), (.int (z2 &&& 255)), (.int 0)] (.int 0) := Arv.set Ar560 qk560 S560 Ng560 H560 G560 (v := (.int (z2 &&& 255))) (own_f255 z2) W560 2 rfl (Nat.le_of_ble_eq_true rfl)
  have N560 := Fr.snoc X560 N556 g_b546
  have f563 : Arv Z h560 da0 kd0 .char (6 : Int32) [(.int (z0 &&& 255)), (.int (z1 &&& 255)), (.int (z2 &&& 255)), (.int (z3 &&& 255)), (.int (z4 &&& 255)), (.int (z5 &&& 255))] (.int 0) := (Arv.other f559 W560 ne_da0_b546)
  obtain ⟨cl562, Ar562, qk562, S562, Ng562, H562, G562⟩ := id f563
  have hin562 := inb_of (j := (3 : Int32)) S562 ⟨by decide, by decide⟩
  obtain ⟨cl564, Ar564, qk564, S564, Ng564, H564, G564⟩ := id f560
  obtain ⟨T564, h564, X564, e564, W564, st564⟩ := stC X560 hx hZ e560 Ar564 (j := (3 : Int32)) (inb_of S564 ⟨by decide, by decide⟩) (g := (mkF m 134 #[rv da0, iv 4] [(.int (z3 &&& 255)), (.int 3), (.ref b546), (.ref b546), (.ref b542), (.ref b542)])) rfl rfl (D d7_134)
  have W564 : Wr h560 h564 b546 ((3 : Int32)).toNatClampNeg (.int (z3 &&& 255)) := Eq.mp (congrArg (fun z => Wr h560 h564 b546 ((3 : Int32)).toNatClampNeg (Value.int z)) (i2c_mask z3)) W564
  have O565 := Old0.wr O561 W564 g_b546
  have K565 := Keep.wr K561 W564 (Or.inr z_b546)
  have f564 : Arv Z h564 b546 k546 .char (4 : Int32) [(.int (z0 &&& 255)), (.int (z1 &&& 255)), (.int (z2 &&& 255)), (.int (z3 &&& 255))] (.int 0) := Arv.set Ar564 qk564 S564 Ng564 H564 G564 (v := (.int (z3 &&& 255))) (own_f255 z3) W564 3 rfl (Nat.le_of_ble_eq_true rfl)
  have N564 := Fr.snoc X564 N560 g_b546
  have f567 : Exa Z h564 b542 "java/lang/String" := (Exa.wr W564 (Exa.wr W560 (Exa.wr W556 (Exa.wr W552 (Exa.ext E546 A542)))))
  have f568 : Fld Z h564 b542 "java/lang/String" "value" "[B" .null := (Fld.other W564 (Fld.other W560 (Fld.other W556 (Fld.other W552 (Fld.ext E546 f544) (Or.inl ne_b542_b546)) (Or.inl ne_b542_b546)) (Or.inl ne_b542_b546)) (Or.inl ne_b542_b546))
  have f569 : Fld Z h564 b542 "java/lang/String" "coder" "B" (.int 0) := (Fld.other W564 (Fld.other W560 (Fld.other W556 (Fld.other W552 (Fld.ext E546 f545) (Or.inl ne_b542_b546)) (Or.inl ne_b542_b546)) (Or.inl ne_b542_b546)) (Or.inl ne_b542_b546))
  have f570 : Arv Z h564 da0 kd0 .char (6 : Int32) [(.int (z0 &&& 255)), (.int (z1 &&& 255)), (.int (z2 &&& 255)), (.int (z3 &&& 255)), (.int (z4 &&& 255)), (.int (z5 &&& 255))] (.int 0) := (Arv.other f563 W564 ne_da0_b546)
  have f571 : Exa Z h564 b546 "[C" := (Exa.wr W564 (Exa.wr W560 (Exa.wr W556 (Exa.wr W552 A546))))
  obtain ⟨T566, v566, L566, X566, q566, st566⟩ := callNew X564 hx hZ (y := own_m12) rfl hown (own_w hw (i := 49) rfl) (own_w hw (i := 50) rfl) (own_w hw (i := 2) rfl) (own_w hw (i := 51) rfl) (by decide) (rm_str hw G b542 b546 ((4 : Int32)) k546 (([(z0 &&& 255), (z1 &&& 255), (z2 &&& 255), (z3 &&& 255)] : List Int32)) h564 O565 (rfl) (And.intro (own_le255 _) (And.intro (own_le255 _) (And.intro (own_le255 _) (And.intro (own_le255 _) (trivial))))) (Nat.le_of_ble_eq_true rfl) (Nat.succ_pos _) f567 f568 f569 g_b542 f564 ne_b542_b546) e564 (W := 1) (by decide) (by decide) (by decide) (by decide) (g := (mkF m 135 #[rv da0, iv 4] [(.ref b546), (.ref b542), (.ref b542)])) rfl (by rw [hml]; rfl) (a := b542) (argsL := [(.ref b546)]) (rest := [(.ref b542)]) (lenOf pd38 rfl) rfl rfl (Nat.le_of_eq rfl) (D d7_135)
  obtain ⟨da_566, kd_566, rfl, N566q, K566q, p566_0, p566_1, p566_2, p566_3, p566_4⟩ := q566
  have N566 := Fr.app N564 N566q
  have O572 := Old0.keep O565 K566q (allS g_b542 all0)
  have K572 := Keep.trans K565 K566q (allS (Or.inr z_b542) all0)
  have z_da_566 : h0.size ≤ da_566 := Nat.le_trans K565.1 p566_0
  have g_da_566 : Z.heap.size ≤ da_566 := Nat.le_trans O565.1 p566_0
  have ne_da0_da_566 : da0 ≠ da_566 := Nat.ne_of_lt (Nat.lt_of_lt_of_le f570.lt p566_0)
  have ne_b542_da_566 : b542 ≠ da_566 := Nat.ne_of_lt (Nat.lt_of_lt_of_le f567.lt p566_0)
  have ne_b546_da_566 : b546 ≠ da_566 := Nat.ne_of_lt (Nat.lt_of_lt_of_le f571.lt p566_0)
  have p566_3 : Arv Z T566.heap da_566 kd_566 .byte (4 : Int32) [(.int ((z0 &&& 255).toInt8.toInt32)), (.int ((z1 &&& 255).toInt8.toInt32)), (.int ((z2 &&& 255).toInt8.toInt32)), (.int ((z3 &&& 255).toInt8.toInt32))] (.int 0) := p566_3
  have f573 : Exa Z T566.heap b542 "java/lang/String" := (Exa.keep f567 K566q)
  refine Go.of (T' := T566) (f' := (mkF m 138 #[rv da0, iv 4] [(.ref b542)])) (fun _ k => XS.dup X552.here hx rfl (D d7_117) rfl rfl (XS.iconst X552.here hx rfl (D d7_118) (XS.aloadN X552.here hx rfl (D d7_119) rfl rfl (XS.iconst X552.here hx rfl (D d7_120) (X552.caload hx (j := (1 : Int32)) (v := (.int (z1 &&& 255))) (by rw [e552]; exact Ar554.1) (State.isArrayOf_alike hZ.alike Ar554.2.1) Ar554.2.2 hin554 (H554.at hin554 rfl) (g := (mkF m 121 #[rv da0, iv 4] [(.int 1), (.ref da0), (.int 1), (.ref b546), (.ref b546), (.ref b542), (.ref b542)])) rfl rfl (D d7_121) _ (st556 _ (XS.dup X556.here hx rfl (D d7_123) rfl rfl (XS.iconst X556.here hx rfl (D d7_124) (XS.aloadN X556.here hx rfl (D d7_125) rfl rfl (XS.iconst X556.here hx rfl (D d7_126) (X556.caload hx (j := (2 : Int32)) (v := (.int (z2 &&& 255))) (by rw [e556]; exact Ar558.1) (State.isArrayOf_alike hZ.alike Ar558.2.1) Ar558.2.2 hin558 (H558.at hin558 rfl) (g := (mkF m 127 #[rv da0, iv 4] [(.int 2), (.ref da0), (.int 2), (.ref b546), (.ref b546), (.ref b542), (.ref b542)])) rfl rfl (D d7_127) _ (st560 _ (XS.dup X560.here hx rfl (D d7_129) rfl rfl (XS.iconst X560.here hx rfl (D d7_130) (XS.aloadN X560.here hx rfl (D d7_131) rfl rfl (XS.iconst X560.here hx rfl (D d7_132) (X560.caload hx (j := (3 : Int32)) (v := (.int (z3 &&& 255))) (by rw [e560]; exact Ar562.1) (State.isArrayOf_alike hZ.alike Ar562.2.1) Ar562.2.2 hin562 (H562.at hin562 rfl) (g := (mkF m 133 #[rv da0, iv 4] [(.int 3), (.ref da0), (.int 3), (.ref b546), (.ref b546), (.ref b542), (.ref b542)])) rfl rfl (D d7_133) _ (st564 _ (st566 _ k))))))))))))))))))) ?_
  exact Go.retA X566 hx hlk hret rfl rfl (D d7_138) (by decide) (by decide) ⟨b542, da_566, kd_566, rfl, N566, K572, f573, p566_1, p566_2, p566_3⟩
theorem d7_139 : decode method_3_code 139 = .ok (.iload_n 1, 1) := by decide +kernel
theorem d7_140 : decode method_3_code 140 = .ok (.iconst 5, 1) := by decide +kernel
theorem d7_141 : decode method_3_code 141 = .ok (.if_icmp .ne 44, 3) := by decide +kernel
theorem d7_144 : decode method_3_code 144 = .ok (.new 18, 3) := by decide +kernel
theorem d7_147 : decode method_3_code 147 = .ok (.dup, 1) := by decide +kernel
theorem d7_148 : decode method_3_code 148 = .ok (.iconst 5, 1) := by decide +kernel
theorem d7_149 : decode method_3_code 149 = .ok (.newarray .char, 2) := by decide +kernel
theorem d7_151 : decode method_3_code 151 = .ok (.dup, 1) := by decide +kernel
theorem d7_152 : decode method_3_code 152 = .ok (.iconst 0, 1) := by decide +kernel
theorem d7_153 : decode method_3_code 153 = .ok (.aload_n 0, 1) := by decide +kernel
theorem d7_154 : decode method_3_code 154 = .ok (.iconst 0, 1) := by decide +kernel
theorem d7_155 : decode method_3_code 155 = .ok (.caload, 1) := by decide +kernel
theorem d7_156 : decode method_3_code 156 = .ok (.castore, 1) := by decide +kernel
theorem d7_157 : decode method_3_code 157 = .ok (.dup, 1) := by decide +kernel
theorem d7_158 : decode method_3_code 158 = .ok (.iconst 1, 1) := by decide +kernel
theorem d7_159 : decode method_3_code 159 = .ok (.aload_n 0, 1) := by decide +kernel
theorem d7_160 : decode method_3_code 160 = .ok (.iconst 1, 1) := by decide +kernel
theorem d7_161 : decode method_3_code 161 = .ok (.caload, 1) := by decide +kernel
theorem d7_162 : decode method_3_code 162 = .ok (.castore, 1) := by decide +kernel
theorem d7_163 : decode method_3_code 163 = .ok (.dup, 1) := by decide +kernel
theorem d7_164 : decode method_3_code 164 = .ok (.iconst 2, 1) := by decide +kernel
theorem d7_165 : decode method_3_code 165 = .ok (.aload_n 0, 1) := by decide +kernel
theorem d7_166 : decode method_3_code 166 = .ok (.iconst 2, 1) := by decide +kernel
theorem d7_167 : decode method_3_code 167 = .ok (.caload, 1) := by decide +kernel
theorem d7_168 : decode method_3_code 168 = .ok (.castore, 1) := by decide +kernel
theorem d7_169 : decode method_3_code 169 = .ok (.dup, 1) := by decide +kernel
theorem d7_170 : decode method_3_code 170 = .ok (.iconst 3, 1) := by decide +kernel
theorem d7_171 : decode method_3_code 171 = .ok (.aload_n 0, 1) := by decide +kernel
theorem d7_172 : decode method_3_code 172 = .ok (.iconst 3, 1) := by decide +kernel
theorem d7_173 : decode method_3_code 173 = .ok (.caload, 1) := by decide +kernel
theorem d7_174 : decode method_3_code 174 = .ok (.castore, 1) := by decide +kernel
theorem d7_175 : decode method_3_code 175 = .ok (.dup, 1) := by decide +kernel
theorem d7_176 : decode method_3_code 176 = .ok (.iconst 4, 1) := by decide +kernel
theorem d7_177 : decode method_3_code 177 = .ok (.aload_n 0, 1) := by decide +kernel
theorem d7_178 : decode method_3_code 178 = .ok (.iconst 4, 1) := by decide +kernel
theorem d7_179 : decode method_3_code 179 = .ok (.caload, 1) := by decide +kernel
theorem d7_180 : decode method_3_code 180 = .ok (.castore, 1) := by decide +kernel
theorem d7_181 : decode method_3_code 181 = .ok (.invokespecial 59, 3) := by decide +kernel
theorem d7_184 : decode method_3_code 184 = .ok (.areturn, 1) := by decide +kernel
theorem ef_rm_make5 (m : MethodId) (da0 : Addr) : entryFrame m #[(.ref da0), (.int (5 : Int32))] 2 = mkF m 0 #[rv da0, iv (5 : Int32)] [] := by first | (simp [entryFrame, mkF, argsToLocals, Value.category]; done) | rfl
set_option maxRecDepth 65536 in
set_option maxHeartbeats 40000000 in
theorem rm_make5 {l : Launch} {Z : State} {a0 : Array Value} {A : Nat → Addr} {KC : Nat → Cell} {IC : Nat → Int32} {VC : Nat → Value} (hw : ∀ d ∈ tables_1, d.before a0 Z = true) (G : own_Ctx Z A KC IC VC) (da0 : Addr) (kd0 : ClassId) (z0 : Int32) (z1 : Int32) (z2 : Int32) (z3 : Int32) (z4 : Int32) (z5 : Int32) (h0 : Heap) (O0 : Ext Z.heap h0) (prem0 : Arv Z h0 da0 kd0 .char (6 : Int32) [(.int (z0 &&& (255 : Int32))), (.int (z1 &&& (255 : Int32))), (.int (z2 &&& (255 : Int32))), (.int (z3 &&& (255 : Int32))), (.int (z4 &&& (255 : Int32))), (.int (z5 &&& (255 : Int32)))] (.int (0 : Int32))) :
    Ok l Z own_m39 method_3_code 2 (some (.object "java/lang/String")) ({ frames := 4, cells := 3, slots := 15, locals := 66 } : Room) #[(.ref da0), (.int (5 : Int32))] h0
      (fun v h L => ∃ so : Addr, ∃ sv : Addr, ∃ ks : ClassId, v = some (.ref so) ∧ (Fr Z.heap.size L) ∧ (Keep h0 h []) ∧ (Exa Z h so "java/lang/String") ∧ (Fld Z h so "java/lang/String" "value" "[B" (.ref sv)) ∧ (Fld Z h so "java/lang/String" "coder" "B" (.int (0 : Int32))) ∧ (Arv Z h sv ks .byte (5 : Int32) [(.int ((z0 &&& (255 : Int32)).toInt8.toInt32)), (.int ((z1 &&& (255 : Int32)).toInt8.toInt32)), (.int ((z2 &&& (255 : Int32)).toInt8.toInt32)), (.int ((z3 &&& (255 : Int32)).toInt8.toInt32)), (.int ((z4 &&& (255 : Int32)).toInt8.toInt32))] (.int (0 : Int32)))) := by
  refine Ok.mk pn40 ?_
  intro p e s m below meth c T0 hx hby hml hown hnm hret hlk hZ e0 X0
  refine Go.cast (ef_rm_make5 m da0) ?_
  have D := @hb _ _ hby
  have N0 := Fr.nil Z.heap.size
  have K0 : Keep h0 h0 [] := Keep.refl _ _
  obtain ⟨T580, h580, b580, q580, X580, e580, E580, A580, D580, st580⟩ := newOb X0 hx hZ hown (own_w hw (i := 48) rfl) (own_w hw (i := 3) rfl) (own_w hw (i := 2) rfl) e0 (g := (mkF m 144 #[rv da0, iv 5] [])) rfl (D d7_144) (by decide) (by decide)
  have O581 := Old0.ext O0 E580
  have K581 := Keep.ext K0 E580
  have g_b580 : Z.heap.size ≤ b580 := q580 ▸ O0.1
  have z_b580 : h0.size ≤ b580 := q580 ▸ K0.1
  have ne_da0_b580 : da0 ≠ b580 := q580 ▸ Nat.ne_of_lt prem0.lt
  have f582 : Fld Z h580 b580 "java/lang/String" "value" "[B" .null := D580 (Or.inr (own_w hw (i := 5) rfl)) (ty := (.array .byte)) (by decide)
  have f583 : Fld Z h580 b580 "java/lang/String" "coder" "B" (.int 0) := D580 (Or.inr (own_w hw (i := 6) rfl)) (ty := .byte) (by decide)
  have f585 : Arv Z h580 da0 kd0 .char (6 : Int32) [(.int (z0 &&& 255)), (.int (z1 &&& 255)), (.int (z2 &&& 255)), (.int (z3 &&& 255)), (.int (z4 &&& 255)), (.int (z5 &&& 255))] (.int 0) := (Arv.ext prem0 E580)
  obtain ⟨T584, h584, k584, b584, q584, X584, e584, E584, V584, A584, st584⟩ := newAr X580 hx hZ (own_w hw (i := 0) rfl) e580 (g := (mkF m 149 #[rv da0, iv 5] [(.int 5), (.ref b580), (.ref b580)])) rfl (D d7_149) rfl (by decide) (cap := 5) (by decide) (by decide) (by decide) (by decide) (ad := "[C") (by decide)
  have O586 := Old0.ext O581 E584
  have K586 := Keep.ext K581 E584
  have g_b584 : Z.heap.size ≤ b584 := q584 ▸ O581.1
  have z_b584 : h0.size ≤ b584 := q584 ▸ K581.1
  have ne_da0_b584 : da0 ≠ b584 := q584 ▸ Nat.ne_of_lt f585.lt
  have ne_b580_b584 : b580 ≠ b584 := q584 ▸ Nat.ne_of_lt A580.lt
  have f587 : Arv Z h584 b584 k584 .char (5 : Int32) [(.int 0), (.int 0), (.int 0), (.int 0), (.int 0)] (.int 0) := Arv.pad V584 (pad_rep [] (.int 0) 5)
  refine Go.of (T' := T584) (f' := (mkF m 154 #[rv da0, iv 5] [(.ref da0), (.int 0), (.ref b584), (.ref b584), (.ref b580), (.ref b580)])) (fun _ k => XS.iloadN X0.here hx rfl (D d7_0) rfl (XS.ifYes X0.here hx rfl (pc0 := 1) (pc' := 15) rfl (D d7_1) rfl ((if0 _ _).trans (tlt (by decide : (0 : Int32) < (5 : Int32))).2.2.1) (by decide) (by decide) (XS.iloadN X0.here hx rfl (D d7_15) rfl (XS.iconst X0.here hx rfl (D d7_16) (XS.icmpYes X0.here hx rfl (pc0 := 17) (pc' := 37) rfl (D d7_17) rfl (feq (by decide : ¬ ((5 : Int32) = (1 : Int32)))).2 (by decide) (by decide) (XS.iloadN X0.here hx rfl (D d7_37) rfl (XS.iconst X0.here hx rfl (D d7_38) (XS.icmpYes X0.here hx rfl (pc0 := 39) (pc' := 65) rfl (D d7_39) rfl (feq (by decide : ¬ ((5 : Int32) = (2 : Int32)))).2 (by decide) (by decide) (XS.iloadN X0.here hx rfl (D d7_65) rfl (XS.iconst X0.here hx rfl (D d7_66) (XS.icmpYes X0.here hx rfl (pc0 := 67) (pc' := 99) rfl (D d7_67) rfl (feq (by decide : ¬ ((5 : Int32) = (3 : Int32)))).2 (by decide) (by decide) (XS.iloadN X0.here hx rfl (D d7_99) rfl (XS.iconst X0.here hx rfl (D d7_100) (XS.icmpYes X0.here hx rfl (pc0 := 101) (pc' := 139) rfl (D d7_101) rfl (feq (by decide : ¬ ((5 : Int32) = (4 : Int32)))).2 (by decide) (by decide) (XS.iloadN X0.here hx rfl (D d7_139) rfl (XS.iconst X0.here hx rfl (D d7_140) (XS.icmpNo X0.here hx rfl (D d7_141) rfl (teq (by decide : (5 : Int32) = (5 : Int32))).2 (st580 _ (XS.dup X580.here hx rfl (D d7_147) rfl rfl (XS.iconst X580.here hx rfl (D d7_148) (st584 _ (XS.dup X584.here hx rfl (D d7_151) rfl rfl (XS.iconst X584.here hx rfl (D d7_152) (XS.aloadN X584.here hx rfl (D d7_153) rfl rfl k)))))))))))))))))))))))) ?_
  have f589 : Arv Z h584 da0 kd0 .char (6 : Int32) [(.int (z0 &&& 255)), (.int (z1 &&& 255)), (.int (z2 &&& 255)), (.int (z3 &&& 255)), (.int (z4 &&& 255)), (.int (z5 &&& 255))] (.int 0) := (Arv.ext f585 E584)
  obtain ⟨cl588, Ar588, qk588, S588, Ng588, H588, G588⟩ := id f589
  have hin588 := inb_of (j := (0 : Int32)) S588 ⟨by decide, by decide⟩
  obtain ⟨cl590, Ar590, qk590, S590, Ng590, H590, G590⟩ := id f587
  obtain ⟨T590, h590, X590, e590, W590, st590⟩ := stC X584 hx hZ e584 Ar590 (j := (0 : Int32)) (inb_of S590 ⟨by decide, by decide⟩) (g := (mkF m 156 #[rv da0, iv 5] [(.int (z0 &&& 255)), (.int 0), (.ref b584), (.ref b584), (.ref b580), (.ref b580)])) rfl rfl (D d7_156)
  have W590 : Wr h584 h590 b584 ((0 : Int32)).toNatClampNeg (.int (z0 &&& 255)) := Eq.mp (congrArg (fun z => Wr h584 h590 b584 ((0 : Int32)).toNatClampNeg (Value.int z)) (i2c_mask z0)) W590
  have O591 := Old0.wr O586 W590 g_b584
  have K591 := Keep.wr K586 W590 (Or.inr z_b584)
  have f590 : Arv Z h590 b584 k584 .char (5 : Int32) [(.int (z0 &&& 255)), (.int 0), (.int 0), (.int 0), (.int 0)] (.int 0) := Arv.set Ar590 qk590 S590 Ng590 H590 G590 (v := (.int (z0 &&& 255))) (own_f255 z0) W590 0 rfl (Nat.le_of_ble_eq_true rfl)
  have N590 := Fr.snoc X590 N0 g_b584
  have f593 : Arv Z h590 da0 kd0 .char (6 : Int32) [(.int (z0 &&& 255)), (.int (z1 &&& 255)), (.int (z2 &&& 255)), (.int (z3 &&& 255)), (.int (z4 &&& 255)), (.int (z5 &&& 255))] (.int 0) := (Arv.other f589 W590 ne_da0_b584)
  obtain ⟨cl592, Ar592, qk592, S592, Ng592, H592, G592⟩ := id f593
  have hin592 := inb_of (j := (1 : Int32)) S592 ⟨by decide, by decide⟩
  obtain ⟨cl594, Ar594, qk594, S594, Ng594, H594, G594⟩ := id f590
  obtain ⟨T594, h594, X594, e594, W594, st594⟩ := stC X590 hx hZ e590 Ar594 (j := (1 : Int32)) (inb_of S594 ⟨by decide, by decide⟩) (g := (mkF m 162 #[rv da0, iv 5] [(.int (z1 &&& 255)), (.int 1), (.ref b584), (.ref b584), (.ref b580), (.ref b580)])) rfl rfl (D d7_162)
  have W594 : Wr h590 h594 b584 ((1 : Int32)).toNatClampNeg (.int (z1 &&& 255)) := Eq.mp (congrArg (fun z => Wr h590 h594 b584 ((1 : Int32)).toNatClampNeg (Value.int z)) (i2c_mask z1)) W594
  have O595 := Old0.wr O591 W594 g_b584
  have K595 := Keep.wr K591 W594 (Or.inr z_b584)
  have f594 : Arv Z h594 b584 k584 .char (5 : Int32) [(.int (z0 &&& 255)), (.int (z1 &&& 255)), (.int 0), (.int 0), (.int 0)] (.int 0) := Arv.set Ar594 qk594 S594 Ng594 H594 G594 (v := (.int (z1 &&& 255))) (own_f255 z1) W594 1 rfl (Nat.le_of_ble_eq_true rfl)
  have N594 := Fr.snoc X594 N590 g_b584
  have f597 : Arv Z h594 da0 kd0 .char (6 : Int32) [(.int (z0 &&& 255)), (.int (z1 &&& 255)), (.int (z2 &&& 255)), (.int (z3 &&& 255)), (.int (z4 &&& 255)), (.int (z5 &&& 255))] (.int 0) := (Arv.other f593 W594 ne_da0_b584)
  obtain ⟨cl596, Ar596, qk596, S596, Ng596, H596, G596⟩ := id f597
  have hin596 := inb_of (j := (2 : Int32)) S596 ⟨by decide, by decide⟩
  obtain ⟨cl598, Ar598, qk598, S598, Ng598, H598, G598⟩ := id f594
  obtain ⟨T598, h598, X598, e598, W598, st598⟩ := stC X594 hx hZ e594 Ar598 (j := (2 : Int32)) (inb_of S598 ⟨by decide, by decide⟩) (g := (mkF m 168 #[rv da0, iv 5] [(.int (z2 &&& 255)), (.int 2), (.ref b584), (.ref b584), (.ref b580), (.ref b580)])) rfl rfl (D d7_168)
  have W598 : Wr h594 h598 b584 ((2 : Int32)).toNatClampNeg (.int (z2 &&& 255)) := Eq.mp (congrArg (fun z => Wr h594 h598 b584 ((2 : Int32)).toNatClampNeg (Value.int z)) (i2c_mask z2)) W598
  have O599 := Old0.wr O595 W598 g_b584
  have K599 := Keep.wr K595 W598 (Or.inr z_b584)
  have f598 : Arv Z h598 b584 k584 .char (5 : Int32) [(.int (z0 &&& 255)), (.int (z1 &&& 255)), (.int (z2 &&& 255)), (.int 0), (.int 0)] (.int 0) := Arv.set Ar598 qk598 S598 Ng598 H598 G598 (v := (.int (z2 &&& 255))) (own_f255 z2) W598 2 rfl (Nat.le_of_ble_eq_true rfl)
  have N598 := Fr.snoc X598 N594 g_b584
  have f601 : Arv Z h598 da0 kd0 .char (6 : Int32) [(.int (z0 &&& 255)), (.int (z1 &&& 255)), (.int (z2 &&& 255)), (.int (z3 &&& 255)), (.int (z4 &&& 255)), (.int (z5 &&& 255))] (.int 0) := (Arv.other f597 W598 ne_da0_b584)
  obtain ⟨cl600, Ar600, qk600, S600, Ng600, H600, G600⟩ := id f601
  have hin600 := inb_of (j := (3 : Int32)) S600 ⟨by decide, by decide⟩
  obtain ⟨cl602, Ar602, qk602, S602, Ng602, H602, G602⟩ := id f598
  obtain ⟨T602, h602, X602, e602, W602, st602⟩ := stC X598 hx hZ e598 Ar602 (j := (3 : Int32)) (inb_of S602 ⟨by decide, by decide⟩) (g := (mkF m 174 #[rv da0, iv 5] [(.int (z3 &&& 255)), (.int 3), (.ref b584), (.ref b584), (.ref b580), (.ref b580)])) rfl rfl (D d7_174)
  have W602 : Wr h598 h602 b584 ((3 : Int32)).toNatClampNeg (.int (z3 &&& 255)) := Eq.mp (congrArg (fun z => Wr h598 h602 b584 ((3 : Int32)).toNatClampNeg (Value.int z)) (i2c_mask z3)) W602
  have O603 := Old0.wr O599 W602 g_b584
  have K603 := Keep.wr K599 W602 (Or.inr z_b584)
  have f602 : Arv Z h602 b584 k584 .char (5 : Int32) [(.int (z0 &&& 255)), (.int (z1 &&& 255)), (.int (z2 &&& 255)), (.int (z3 &&& 255)), (.int 0)] (.int 0) := Arv.set Ar602 qk602 S602 Ng602 H602 G602 (v := (.int (z3 &&& 255))) (own_f255 z3) W602 3 rfl (Nat.le_of_ble_eq_true rfl)
  have N602 := Fr.snoc X602 N598 g_b584
  refine Go.of (T' := T602) (f' := (mkF m 178 #[rv da0, iv 5] [(.ref da0), (.int 4), (.ref b584), (.ref b584), (.ref b580), (.ref b580)])) (fun _ k => XS.iconst X584.here hx rfl (D d7_154) (X584.caload hx (j := (0 : Int32)) (v := (.int (z0 &&& 255))) (by rw [e584]; exact Ar588.1) (State.isArrayOf_alike hZ.alike Ar588.2.1) Ar588.2.2 hin588 (H588.at hin588 rfl) (g := (mkF m 155 #[rv da0, iv 5] [(.int 0), (.ref da0), (.int 0), (.ref b584), (.ref b584), (.ref b580), (.ref b580)])) rfl rfl (D d7_155) _ (st590 _ (XS.dup X590.here hx rfl (D d7_157) rfl rfl (XS.iconst X590.here hx rfl (D d7_158) (XS.aloadN X590.here hx rfl (D d7_159) rfl rfl (XS.iconst X590.here hx rfl (D d7_160) (X590.caload hx (j := (1 : Int32)) (v := (.int (z1 &&& 255))) (by rw [e590]; exact Ar592.1) (State.isArrayOf_alike hZ.alike Ar592.2.1) Ar592.2.2 hin592 (H592.at hin592 rfl) (g := (mkF m 161 #[rv da0, iv 5] [(.int 1), (.ref da0), (.int 1), (.ref b584), (.ref b584), (.ref b580), (.ref b580)])) rfl rfl (D d7_161) _ (st594 _ (XS.dup X594.here hx rfl (D d7_163) rfl rfl (XS.iconst X594.here hx rfl (D d7_164) (XS.aloadN X594.here hx rfl (D d7_165) rfl rfl (XS.iconst X594.here hx rfl (D d7_166) (X594.caload hx (j := (2 : Int32)) (v := (.int (z2 &&& 255))) (by rw [e594]; exact Ar596.1) (State.isArrayOf_alike hZ.alike Ar596.2.1) Ar596.2.2 hin596 (H596.at hin596 rfl) (g := (mkF m 167 #[rv da0, iv 5] [(.int 2), (.ref da0), (.int 2), (.ref b584), (.ref b584), (.ref b580), (.ref b580)])) rfl rfl (D d7_167) _ (st598 _ (XS.dup X598.here hx rfl (D d7_169) rfl rfl (XS.iconst X598.here hx rfl (D d7_170) (XS.aloadN X598.here hx rfl (D d7_171) rfl rfl (XS.iconst X598.here hx rfl (D d7_172) (X598.caload hx (j := (3 : Int32)) (v := (.int (z3 &&& 255))) (by rw [e598]; exact Ar600.1) (State.isArrayOf_alike hZ.alike Ar600.2.1) Ar600.2.2 hin600 (H600.at hin600 rfl) (g := (mkF m 173 #[rv da0, iv 5] [(.int 3), (.ref da0), (.int 3), (.ref b584), (.ref b584), (.ref b580), (.ref b580)])) rfl rfl (D d7_173) _ (st602 _ (XS.dup X602.here hx rfl (D d7_175) rfl rfl (XS.iconst X602.here hx rfl (D d7_176) (XS.aloadN X602.here hx rfl (D d7_177) rfl rfl k)))))))))))))))))))))))) ?_
  have f605 : Arv Z h602 da0 kd0 .char (6 : Int32) [(.int (z0 &&& 255)), (.int (z1 &&& 255)), (.int (z2 &&& 255)), (.int (z3 &&& 255)), (.int (z4 &&& 255)), (.int (z5 &&& 255))] (.int 0) := (Arv.other f601 W602 ne_da0_b584)
  obtain ⟨cl604, Ar604, qk604, S604, Ng604, H604, G604⟩ := id f605
  have hin604 := inb_of (j := (4 : Int32)) S604 ⟨by decide, by decide⟩
  obtain ⟨cl606, Ar606, qk606, S606, Ng606, H606, G606⟩ := id f602
  obtain ⟨T606, h606, X606, e606, W606, st606⟩ := stC X602 hx hZ e602 Ar606 (j := (4 : Int32)) (inb_of S606 ⟨by decide, by decide⟩) (g := (mkF m 180 #[rv da0, iv 5] [(.int (z4 &&& 255)), (.int 4), (.ref b584), (.ref b584), (.ref b580), (.ref b580)])) rfl rfl (D d7_180)
  have W606 : Wr h602 h606 b584 ((4 : Int32)).toNatClampNeg (.int (z4 &&& 255)) := Eq.mp (congrArg (fun z => Wr h602 h606 b584 ((4 : Int32)).toNatClampNeg (Value.int z)) (i2c_mask z4)) W606
  have O607 := Old0.wr O603 W606 g_b584
  have K607 := Keep.wr K603 W606 (Or.inr z_b584)
  have f606 : Arv Z h606 b584 k584 .char (5 : Int32) [(.int (z0 &&& 255)), (.int (z1 &&& 255)), (.int (z2 &&& 255)), (.int (z3 &&& 255)), (.int (z4 &&& 255))] (.int 0) := Arv.set Ar606 qk606 S606 Ng606 H606 G606 (v := (.int (z4 &&& 255))) (own_f255 z4) W606 4 rfl (Nat.le_of_ble_eq_true rfl)
  have N606 := Fr.snoc X606 N602 g_b584
  have f609 : Exa Z h606 b580 "java/lang/String" := (Exa.wr W606 (Exa.wr W602 (Exa.wr W598 (Exa.wr W594 (Exa.wr W590 (Exa.ext E584 A580))))))
  have f610 : Fld Z h606 b580 "java/lang/String" "value" "[B" .null := (Fld.other W606 (Fld.other W602 (Fld.other W598 (Fld.other W594 (Fld.other W590 (Fld.ext E584 f582) (Or.inl ne_b580_b584)) (Or.inl ne_b580_b584)) (Or.inl ne_b580_b584)) (Or.inl ne_b580_b584)) (Or.inl ne_b580_b584))
  have f611 : Fld Z h606 b580 "java/lang/String" "coder" "B" (.int 0) := (Fld.other W606 (Fld.other W602 (Fld.other W598 (Fld.other W594 (Fld.other W590 (Fld.ext E584 f583) (Or.inl ne_b580_b584)) (Or.inl ne_b580_b584)) (Or.inl ne_b580_b584)) (Or.inl ne_b580_b584)) (Or.inl ne_b580_b584))
  have f612 : Arv Z h606 da0 kd0 .char (6 : Int32) [(.int (z0 &&& 255)), (.int (z1 &&& 255)), (.int (z2 &&& 255)), (.int (z3 &&& 255)), (.int (z4 &&& 255)), (.int (z5 &&& 255))] (.int 0) := (Arv.other f605 W606 ne_da0_b584)
  have f613 : Exa Z h606 b584 "[C" := (Exa.wr W606 (Exa.wr W602 (Exa.wr W598 (Exa.wr W594 (Exa.wr W590 A584)))))
  obtain ⟨T608, v608, L608, X608, q608, st608⟩ := callNew X606 hx hZ (y := own_m12) rfl hown (own_w hw (i := 49) rfl) (own_w hw (i := 50) rfl) (own_w hw (i := 2) rfl) (own_w hw (i := 51) rfl) (by decide) (rm_str hw G b580 b584 ((5 : Int32)) k584 (([(z0 &&& 255), (z1 &&& 255), (z2 &&& 255), (z3 &&& 255), (z4 &&& 255)] : List Int32)) h606 O607 (rfl) (And.intro (own_le255 _) (And.intro (own_le255 _) (And.intro (own_le255 _) (And.intro (own_le255 _) (And.intro (own_le255 _) (trivial)))))) (Nat.le_of_ble_eq_true rfl) (Nat.succ_pos _) f609 f610 f611 g_b580 f606 ne_b580_b584) e606 (W := 1) (by decide) (by decide) (by decide) (by decide) (g := (mkF m 181 #[rv da0, iv 5] [(.ref b584), (.ref b580), (.ref b580)])) rfl (by rw [hml]; rfl) (a := b580) (argsL := [(.ref b584)]) (rest := [(.ref b580)]) (lenOf pd38 rfl) rfl rfl (Nat.le_of_eq rfl) (D d7_181)
  obtain ⟨da_608, kd_608, rfl, N608q, K608q, p608_0, p608_1, p608_2, p608_3, p608_4⟩ := q608
  have N608 := Fr.app N606 N608q
  have O614 := Old0.keep O607 K608q (allS g_b580 all0)
  have K614 := Keep.trans K607 K608q (allS (Or.inr z_b580) all0)
  have z_da_608 : h0.size ≤ da_608 := Nat.le_trans K607.1 p608_0
  have g_da_608 : Z.heap.size ≤ da_608 := Nat.le_trans O607.1 p608_0
  have ne_da0_da_608 : da0 ≠ da_608 := Nat.ne_of_lt (Nat.lt_of_lt_of_le f612.lt p608_0)
  have ne_b580_da_608 : b580 ≠ da_608 := Nat.ne_of_lt (Nat.lt_of_lt_of_le f609.lt p608_0)
  have ne_b584_da_608 : b584 ≠ da_608 := Nat.ne_of_lt (Nat.lt_of_lt_of_le f613.lt p608_0)
  have p608_3 : Arv Z T608.heap da_608 kd_608 .byte (5 : Int32) [(.int ((z0 &&& 255).toInt8.toInt32)), (.int ((z1 &&& 255).toInt8.toInt32)), (.int ((z2 &&& 255).toInt8.toInt32)), (.int ((z3 &&& 255).toInt8.toInt32)), (.int ((z4 &&& 255).toInt8.toInt32))] (.int 0) := p608_3
  have f615 : Exa Z T608.heap b580 "java/lang/String" := (Exa.keep f609 K608q)
  refine Go.of (T' := T608) (f' := (mkF m 184 #[rv da0, iv 5] [(.ref b580)])) (fun _ k => XS.iconst X602.here hx rfl (D d7_178) (X602.caload hx (j := (4 : Int32)) (v := (.int (z4 &&& 255))) (by rw [e602]; exact Ar604.1) (State.isArrayOf_alike hZ.alike Ar604.2.1) Ar604.2.2 hin604 (H604.at hin604 rfl) (g := (mkF m 179 #[rv da0, iv 5] [(.int 4), (.ref da0), (.int 4), (.ref b584), (.ref b584), (.ref b580), (.ref b580)])) rfl rfl (D d7_179) _ (st606 _ (st608 _ k)))) ?_
  exact Go.retA X608 hx hlk hret rfl rfl (D d7_184) (by decide) (by decide) ⟨b580, da_608, kd_608, rfl, N608, K614, f615, p608_1, p608_2, p608_3⟩
theorem d7_185 : decode method_3_code 185 = .ok (.new 18, 3) := by decide +kernel
theorem d7_188 : decode method_3_code 188 = .ok (.dup, 1) := by decide +kernel
theorem d7_189 : decode method_3_code 189 = .ok (.bipush 6, 2) := by decide +kernel
theorem d7_191 : decode method_3_code 191 = .ok (.newarray .char, 2) := by decide +kernel
theorem d7_193 : decode method_3_code 193 = .ok (.dup, 1) := by decide +kernel
theorem d7_194 : decode method_3_code 194 = .ok (.iconst 0, 1) := by decide +kernel
theorem d7_195 : decode method_3_code 195 = .ok (.aload_n 0, 1) := by decide +kernel
theorem d7_196 : decode method_3_code 196 = .ok (.iconst 0, 1) := by decide +kernel
theorem d7_197 : decode method_3_code 197 = .ok (.caload, 1) := by decide +kernel
theorem d7_198 : decode method_3_code 198 = .ok (.castore, 1) := by decide +kernel
theorem d7_199 : decode method_3_code 199 = .ok (.dup, 1) := by decide +kernel
theorem d7_200 : decode method_3_code 200 = .ok (.iconst 1, 1) := by decide +kernel
theorem d7_201 : decode method_3_code 201 = .ok (.aload_n 0, 1) := by decide +kernel
theorem d7_202 : decode method_3_code 202 = .ok (.iconst 1, 1) := by decide +kernel
theorem d7_203 : decode method_3_code 203 = .ok (.caload, 1) := by decide +kernel
theorem d7_204 : decode method_3_code 204 = .ok (.castore, 1) := by decide +kernel
theorem d7_205 : decode method_3_code 205 = .ok (.dup, 1) := by decide +kernel
theorem d7_206 : decode method_3_code 206 = .ok (.iconst 2, 1) := by decide +kernel
theorem d7_207 : decode method_3_code 207 = .ok (.aload_n 0, 1) := by decide +kernel
theorem d7_208 : decode method_3_code 208 = .ok (.iconst 2, 1) := by decide +kernel
theorem d7_209 : decode method_3_code 209 = .ok (.caload, 1) := by decide +kernel
theorem d7_210 : decode method_3_code 210 = .ok (.castore, 1) := by decide +kernel
theorem d7_211 : decode method_3_code 211 = .ok (.dup, 1) := by decide +kernel
theorem d7_212 : decode method_3_code 212 = .ok (.iconst 3, 1) := by decide +kernel
theorem d7_213 : decode method_3_code 213 = .ok (.aload_n 0, 1) := by decide +kernel
theorem d7_214 : decode method_3_code 214 = .ok (.iconst 3, 1) := by decide +kernel
theorem d7_215 : decode method_3_code 215 = .ok (.caload, 1) := by decide +kernel
theorem d7_216 : decode method_3_code 216 = .ok (.castore, 1) := by decide +kernel
theorem d7_217 : decode method_3_code 217 = .ok (.dup, 1) := by decide +kernel
theorem d7_218 : decode method_3_code 218 = .ok (.iconst 4, 1) := by decide +kernel
theorem d7_219 : decode method_3_code 219 = .ok (.aload_n 0, 1) := by decide +kernel
theorem d7_220 : decode method_3_code 220 = .ok (.iconst 4, 1) := by decide +kernel
theorem d7_221 : decode method_3_code 221 = .ok (.caload, 1) := by decide +kernel
theorem d7_222 : decode method_3_code 222 = .ok (.castore, 1) := by decide +kernel
theorem d7_223 : decode method_3_code 223 = .ok (.dup, 1) := by decide +kernel
theorem d7_224 : decode method_3_code 224 = .ok (.iconst 5, 1) := by decide +kernel
theorem d7_225 : decode method_3_code 225 = .ok (.aload_n 0, 1) := by decide +kernel
theorem d7_226 : decode method_3_code 226 = .ok (.iconst 5, 1) := by decide +kernel
theorem d7_227 : decode method_3_code 227 = .ok (.caload, 1) := by decide +kernel
theorem d7_228 : decode method_3_code 228 = .ok (.castore, 1) := by decide +kernel
theorem d7_229 : decode method_3_code 229 = .ok (.invokespecial 59, 3) := by decide +kernel
theorem d7_232 : decode method_3_code 232 = .ok (.areturn, 1) := by decide +kernel
theorem ef_rm_make6 (m : MethodId) (da0 : Addr) : entryFrame m #[(.ref da0), (.int (6 : Int32))] 2 = mkF m 0 #[rv da0, iv (6 : Int32)] [] := by first | (simp [entryFrame, mkF, argsToLocals, Value.category]; done) | rfl
set_option maxRecDepth 65536 in
set_option maxHeartbeats 40000000 in
theorem rm_make6 {l : Launch} {Z : State} {a0 : Array Value} {A : Nat → Addr} {KC : Nat → Cell} {IC : Nat → Int32} {VC : Nat → Value} (hw : ∀ d ∈ tables_1, d.before a0 Z = true) (G : own_Ctx Z A KC IC VC) (da0 : Addr) (kd0 : ClassId) (z0 : Int32) (z1 : Int32) (z2 : Int32) (z3 : Int32) (z4 : Int32) (z5 : Int32) (h0 : Heap) (O0 : Ext Z.heap h0) (prem0 : Arv Z h0 da0 kd0 .char (6 : Int32) [(.int (z0 &&& (255 : Int32))), (.int (z1 &&& (255 : Int32))), (.int (z2 &&& (255 : Int32))), (.int (z3 &&& (255 : Int32))), (.int (z4 &&& (255 : Int32))), (.int (z5 &&& (255 : Int32)))] (.int (0 : Int32))) :
    Ok l Z own_m39 method_3_code 2 (some (.object "java/lang/String")) ({ frames := 4, cells := 3, slots := 16, locals := 66 } : Room) #[(.ref da0), (.int (6 : Int32))] h0
      (fun v h L => ∃ so : Addr, ∃ sv : Addr, ∃ ks : ClassId, v = some (.ref so) ∧ (Fr Z.heap.size L) ∧ (Keep h0 h []) ∧ (Exa Z h so "java/lang/String") ∧ (Fld Z h so "java/lang/String" "value" "[B" (.ref sv)) ∧ (Fld Z h so "java/lang/String" "coder" "B" (.int (0 : Int32))) ∧ (Arv Z h sv ks .byte (6 : Int32) [(.int ((z0 &&& (255 : Int32)).toInt8.toInt32)), (.int ((z1 &&& (255 : Int32)).toInt8.toInt32)), (.int ((z2 &&& (255 : Int32)).toInt8.toInt32)), (.int ((z3 &&& (255 : Int32)).toInt8.toInt32)), (.int ((z4 &&& (255 : Int32)).toInt8.toInt32)), (.int ((z5 &&& (255 : Int32)).toInt8.toInt32))] (.int (0 : Int32)))) := by
  refine Ok.mk pn40 ?_
  intro p e s m below meth c T0 hx hby hml hown hnm hret hlk hZ e0 X0
  refine Go.cast (ef_rm_make6 m da0) ?_
  have D := @hb _ _ hby
  have N0 := Fr.nil Z.heap.size
  have K0 : Keep h0 h0 [] := Keep.refl _ _
  obtain ⟨T622, h622, b622, q622, X622, e622, E622, A622, D622, st622⟩ := newOb X0 hx hZ hown (own_w hw (i := 48) rfl) (own_w hw (i := 3) rfl) (own_w hw (i := 2) rfl) e0 (g := (mkF m 185 #[rv da0, iv 6] [])) rfl (D d7_185) (by decide) (by decide)
  have O623 := Old0.ext O0 E622
  have K623 := Keep.ext K0 E622
  have g_b622 : Z.heap.size ≤ b622 := q622 ▸ O0.1
  have z_b622 : h0.size ≤ b622 := q622 ▸ K0.1
  have ne_da0_b622 : da0 ≠ b622 := q622 ▸ Nat.ne_of_lt prem0.lt
  have f624 : Fld Z h622 b622 "java/lang/String" "value" "[B" .null := D622 (Or.inr (own_w hw (i := 5) rfl)) (ty := (.array .byte)) (by decide)
  have f625 : Fld Z h622 b622 "java/lang/String" "coder" "B" (.int 0) := D622 (Or.inr (own_w hw (i := 6) rfl)) (ty := .byte) (by decide)
  have f627 : Arv Z h622 da0 kd0 .char (6 : Int32) [(.int (z0 &&& 255)), (.int (z1 &&& 255)), (.int (z2 &&& 255)), (.int (z3 &&& 255)), (.int (z4 &&& 255)), (.int (z5 &&& 255))] (.int 0) := (Arv.ext prem0 E622)
  obtain ⟨T626, h626, k626, b626, q626, X626, e626, E626, V626, A626, st626⟩ := newAr X622 hx hZ (own_w hw (i := 0) rfl) e622 (g := (mkF m 191 #[rv da0, iv 6] [(.int 6), (.ref b622), (.ref b622)])) rfl (D d7_191) rfl (by decide) (cap := 6) (by decide) (by decide) (by decide) (by decide) (ad := "[C") (by decide)
  have O628 := Old0.ext O623 E626
  have K628 := Keep.ext K623 E626
  have g_b626 : Z.heap.size ≤ b626 := q626 ▸ O623.1
  have z_b626 : h0.size ≤ b626 := q626 ▸ K623.1
  have ne_da0_b626 : da0 ≠ b626 := q626 ▸ Nat.ne_of_lt f627.lt
  have ne_b622_b626 : b622 ≠ b626 := q626 ▸ Nat.ne_of_lt A622.lt
  have f629 : Arv Z h626 b626 k626 .char (6 : Int32) [(.int 0), (.int 0), (.int 0), (.int 0), (.int 0), (.int 0)] (.int 0) := Arv.pad V626 (pad_rep [] (.int 0) 6)
  refine Go.of (T' := T626) (f' := (mkF m 196 #[rv da0, iv 6] [(.ref da0), (.int 0), (.ref b626), (.ref b626), (.ref b622), (.ref b622)])) (fun _ k => XS.iloadN X0.here hx rfl (D d7_0) rfl (XS.ifYes X0.here hx rfl (pc0 := 1) (pc' := 15) rfl (D d7_1) rfl ((if0 _ _).trans (tlt (by decide : (0 : Int32) < (6 : Int32))).2.2.1) (by decide) (by decide) (XS.iloadN X0.here hx rfl (D d7_15) rfl (XS.iconst X0.here hx rfl (D d7_16) (XS.icmpYes X0.here hx rfl (pc0 := 17) (pc' := 37) rfl (D d7_17) rfl (feq (by decide : ¬ ((6 : Int32) = (1 : Int32)))).2 (by decide) (by decide) (XS.iloadN X0.here hx rfl (D d7_37) rfl (XS.iconst X0.here hx rfl (D d7_38) (XS.icmpYes X0.here hx rfl (pc0 := 39) (pc' := 65) rfl (D d7_39) rfl (feq (by decide : ¬ ((6 : Int32) = (2 : Int32)))).2 (by decide) (by decide) (XS.iloadN X0.here hx rfl (D d7_65) rfl (XS.iconst X0.here hx rfl (D d7_66) (XS.icmpYes X0.here hx rfl (pc0 := 67) (pc' := 99) rfl (D d7_67) rfl (feq (by decide : ¬ ((6 : Int32) = (3 : Int32)))).2 (by decide) (by decide) (XS.iloadN X0.here hx rfl (D d7_99) rfl (XS.iconst X0.here hx rfl (D d7_100) (XS.icmpYes X0.here hx rfl (pc0 := 101) (pc' := 139) rfl (D d7_101) rfl (feq (by decide : ¬ ((6 : Int32) = (4 : Int32)))).2 (by decide) (by decide) (XS.iloadN X0.here hx rfl (D d7_139) rfl (XS.iconst X0.here hx rfl (D d7_140) (XS.icmpYes X0.here hx rfl (pc0 := 141) (pc' := 185) rfl (D d7_141) rfl (feq (by decide : ¬ ((6 : Int32) = (5 : Int32)))).2 (by decide) (by decide) (st622 _ (XS.dup X622.here hx rfl (D d7_188) rfl rfl (XS.bipush X622.here hx rfl (D d7_189) (st626 _ (XS.dup X626.here hx rfl (D d7_193) rfl rfl (XS.iconst X626.here hx rfl (D d7_194) (XS.aloadN X626.here hx rfl (D d7_195) rfl rfl k)))))))))))))))))))))))) ?_
  have f631 : Arv Z h626 da0 kd0 .char (6 : Int32) [(.int (z0 &&& 255)), (.int (z1 &&& 255)), (.int (z2 &&& 255)), (.int (z3 &&& 255)), (.int (z4 &&& 255)), (.int (z5 &&& 255))] (.int 0) := (Arv.ext f627 E626)
  obtain ⟨cl630, Ar630, qk630, S630, Ng630, H630, G630⟩ := id f631
  have hin630 := inb_of (j := (0 : Int32)) S630 ⟨by decide, by decide⟩
  obtain ⟨cl632, Ar632, qk632, S632, Ng632, H632, G632⟩ := id f629
  obtain ⟨T632, h632, X632, e632, W632, st632⟩ := stC X626 hx hZ e626 Ar632 (j := (0 : Int32)) (inb_of S632 ⟨by decide, by decide⟩) (g := (mkF m 198 #[rv da0, iv 6] [(.int (z0 &&& 255)), (.int 0), (.ref b626), (.ref b626), (.ref b622), (.ref b622)])) rfl rfl (D d7_198)
  have W632 : Wr h626 h632 b626 ((0 : Int32)).toNatClampNeg (.int (z0 &&& 255)) := Eq.mp (congrArg (fun z => Wr h626 h632 b626 ((0 : Int32)).toNatClampNeg (Value.int z)) (i2c_mask z0)) W632
  have O633 := Old0.wr O628 W632 g_b626
  have K633 := Keep.wr K628 W632 (Or.inr z_b626)
  have f632 : Arv Z h632 b626 k626 .char (6 : Int32) [(.int (z0 &&& 255)), (.int 0), (.int 0), (.int 0), (.int 0), (.int 0)] (.int 0) := Arv.set Ar632 qk632 S632 Ng632 H632 G632 (v := (.int (z0 &&& 255))) (own_f255 z0) W632 0 rfl (Nat.le_of_ble_eq_true rfl)
  have N632 := Fr.snoc X632 N0 g_b626
  have f635 : Arv Z h632 da0 kd0 .char (6 : Int32) [(.int (z0 &&& 255)), (.int (z1 &&& 255)), (.int (z2 &&& 255)), (.int (z3 &&& 255)), (.int (z4 &&& 255)), (.int (z5 &&& 255))] (.int 0) := (Arv.other f631 W632 ne_da0_b626)
  obtain ⟨cl634, Ar634, qk634, S634, Ng634, H634, G634⟩ := id f635
  have hin634 := inb_of (j := (1 : Int32)) S634 ⟨by decide, by decide⟩
  obtain ⟨cl636, Ar636, qk636, S636, Ng636, H636, G636⟩ := id f632
  obtain ⟨T636, h636, X636, e636, W636, st636⟩ := stC X632 hx hZ e632 Ar636 (j := (1 : Int32)) (inb_of S636 ⟨by decide, by decide⟩) (g := (mkF m 204 #[rv da0, iv 6] [(.int (z1 &&& 255)), (.int 1), (.ref b626), (.ref b626), (.ref b622), (.ref b622)])) rfl rfl (D d7_204)
  have W636 : Wr h632 h636 b626 ((1 : Int32)).toNatClampNeg (.int (z1 &&& 255)) := Eq.mp (congrArg (fun z => Wr h632 h636 b626 ((1 : Int32)).toNatClampNeg (Value.int z)) (i2c_mask z1)) W636
  have O637 := Old0.wr O633 W636 g_b626
  have K637 := Keep.wr K633 W636 (Or.inr z_b626)
  have f636 : Arv Z h636 b626 k626 .char (6 : Int32) [(.int (z0 &&& 255)), (.int (z1 &&& 255)), (.int 0), (.int 0), (.int 0), (.int 0)] (.int 0) := Arv.set Ar636 qk636 S636 Ng636 H636 G636 (v := (.int (z1 &&& 255))) (own_f255 z1) W636 1 rfl (Nat.le_of_ble_eq_true rfl)
  have N636 := Fr.snoc X636 N632 g_b626
  have f639 : Arv Z h636 da0 kd0 .char (6 : Int32) [(.int (z0 &&& 255)), (.int (z1 &&& 255)), (.int (z2 &&& 255)), (.int (z3 &&& 255)), (.int (z4 &&& 255)), (.int (z5 &&& 255))] (.int 0) := (Arv.other f635 W636 ne_da0_b626)
  obtain ⟨cl638, Ar638, qk638, S638, Ng638, H638, G638⟩ := id f639
  have hin638 := inb_of (j := (2 : Int32)) S638 ⟨by decide, by decide⟩
  obtain ⟨cl640, Ar640, qk640, S640, Ng640, H640, G640⟩ := id f636
  obtain ⟨T640, h640, X640, e640, W640, st640⟩ := stC X636 hx hZ e636 Ar640 (j := (2 : Int32)) (inb_of S640 ⟨by decide, by decide⟩) (g := (mkF m 210 #[rv da0, iv 6] [(.int (z2 &&& 255)), (.int 2), (.ref b626), (.ref b626), (.ref b622), (.ref b622)])) rfl rfl (D d7_210)
  have W640 : Wr h636 h640 b626 ((2 : Int32)).toNatClampNeg (.int (z2 &&& 255)) := Eq.mp (congrArg (fun z => Wr h636 h640 b626 ((2 : Int32)).toNatClampNeg (Value.int z)) (i2c_mask z2)) W640
  have O641 := Old0.wr O637 W640 g_b626
  have K641 := Keep.wr K637 W640 (Or.inr z_b626)
  have f640 : Arv Z h640 b626 k626 .char (6 : Int32) [(.int (z0 &&& 255)), (.int (z1 &&& 255)), (.int (z2 &&& 255)), (.int 0), (.int 0), (.int 0)] (.int 0) := Arv.set Ar640 qk640 S640 Ng640 H640 G640 (v := (.int (z2 &&& 255))) (own_f255 z2) W640 2 rfl (Nat.le_of_ble_eq_true rfl)
  have N640 := Fr.snoc X640 N636 g_b626
  have f643 : Arv Z h640 da0 kd0 .char (6 : Int32) [(.int (z0 &&& 255)), (.int (z1 &&& 255)), (.int (z2 &&& 255)), (.int (z3 &&& 255)), (.int (z4 &&& 255)), (.int (z5 &&& 255))] (.int 0) := (Arv.other f639 W640 ne_da0_b626)
  obtain ⟨cl642, Ar642, qk642, S642, Ng642, H642, G642⟩ := id f643
  have hin642 := inb_of (j := (3 : Int32)) S642 ⟨by decide, by decide⟩
  obtain ⟨cl644, Ar644, qk644, S644, Ng644, H644, G644⟩ := id f640
  obtain ⟨T644, h644, X644, e644, W644, st644⟩ := stC X640 hx hZ e640 Ar644 (j := (3 : Int32)) (inb_of S644 ⟨by decide, by decide⟩) (g := (mkF m 216 #[rv da0, iv 6] [(.int (z3 &&& 255)), (.int 3), (.ref b626), (.ref b626), (.ref b622), (.ref b622)])) rfl rfl (D d7_216)
  have W644 : Wr h640 h644 b626 ((3 : Int32)).toNatClampNeg (.int (z3 &&& 255)) := Eq.mp (congrArg (fun z => Wr h640 h644 b626 ((3 : Int32)).toNatClampNeg (Value.int z)) (i2c_mask z3)) W644
  have O645 := Old0.wr O641 W644 g_b626
  have K645 := Keep.wr K641 W644 (Or.inr z_b626)
  have f644 : Arv Z h644 b626 k626 .char (6 : Int32) [(.int (z0 &&& 255)), (.int (z1 &&& 255)), (.int (z2 &&& 255)), (.int (z3 &&& 255)), (.int 0), (.int 0)] (.int 0) := Arv.set Ar644 qk644 S644 Ng644 H644 G644 (v := (.int (z3 &&& 255))) (own_f255 z3) W644 3 rfl (Nat.le_of_ble_eq_true rfl)
  have N644 := Fr.snoc X644 N640 g_b626
  refine Go.of (T' := T644) (f' := (mkF m 220 #[rv da0, iv 6] [(.ref da0), (.int 4), (.ref b626), (.ref b626), (.ref b622), (.ref b622)])) (fun _ k => XS.iconst X626.here hx rfl (D d7_196) (X626.caload hx (j := (0 : Int32)) (v := (.int (z0 &&& 255))) (by rw [e626]; exact Ar630.1) (State.isArrayOf_alike hZ.alike Ar630.2.1) Ar630.2.2 hin630 (H630.at hin630 rfl) (g := (mkF m 197 #[rv da0, iv 6] [(.int 0), (.ref da0), (.int 0), (.ref b626), (.ref b626), (.ref b622), (.ref b622)])) rfl rfl (D d7_197) _ (st632 _ (XS.dup X632.here hx rfl (D d7_199) rfl rfl (XS.iconst X632.here hx rfl (D d7_200) (XS.aloadN X632.here hx rfl (D d7_201) rfl rfl (XS.iconst X632.here hx rfl (D d7_202) (X632.caload hx (j := (1 : Int32)) (v := (.int (z1 &&& 255))) (by rw [e632]; exact Ar634.1) (State.isArrayOf_alike hZ.alike Ar634.2.1) Ar634.2.2 hin634 (H634.at hin634 rfl) (g := (mkF m 203 #[rv da0, iv 6] [(.int 1), (.ref da0), (.int 1), (.ref b626), (.ref b626), (.ref b622), (.ref b622)])) rfl rfl (D d7_203) _ (st636 _ (XS.dup X636.here hx rfl (D d7_205) rfl rfl (XS.iconst X636.here hx rfl (D d7_206) (XS.aloadN X636.here hx rfl (D d7_207) rfl rfl (XS.iconst X636.here hx rfl (D d7_208) (X636.caload hx (j := (2 : Int32)) (v := (.int (z2 &&& 255))) (by rw [e636]; exact Ar638.1) (State.isArrayOf_alike hZ.alike Ar638.2.1) Ar638.2.2 hin638 (H638.at hin638 rfl) (g := (mkF m 209 #[rv da0, iv 6] [(.int 2), (.ref da0), (.int 2), (.ref b626), (.ref b626), (.ref b622), (.ref b622)])) rfl rfl (D d7_209) _ (st640 _ (XS.dup X640.here hx rfl (D d7_211) rfl rfl (XS.iconst X640.here hx rfl (D d7_212) (XS.aloadN X640.here hx rfl (D d7_213) rfl rfl (XS.iconst X640.here hx rfl (D d7_214) (X640.caload hx (j := (3 : Int32)) (v := (.int (z3 &&& 255))) (by rw [e640]; exact Ar642.1) (State.isArrayOf_alike hZ.alike Ar642.2.1) Ar642.2.2 hin642 (H642.at hin642 rfl) (g := (mkF m 215 #[rv da0, iv 6] [(.int 3), (.ref da0), (.int 3), (.ref b626), (.ref b626), (.ref b622), (.ref b622)])) rfl rfl (D d7_215) _ (st644 _ (XS.dup X644.here hx rfl (D d7_217) rfl rfl (XS.iconst X644.here hx rfl (D d7_218) (XS.aloadN X644.here hx rfl (D d7_219) rfl rfl k)))))))))))))))))))))))) ?_
  have f647 : Arv Z h644 da0 kd0 .char (6 : Int32) [(.int (z0 &&& 255)), (.int (z1 &&& 255)), (.int (z2 &&& 255)), (.int (z3 &&& 255)), (.int (z4 &&& 255)), (.int (z5 &&& 255))] (.int 0) := (Arv.other f643 W644 ne_da0_b626)
  obtain ⟨cl646, Ar646, qk646, S646, Ng646, H646, G646⟩ := id f647
  have hin646 := inb_of (j := (4 : Int32)) S646 ⟨by decide, by decide⟩
  obtain ⟨cl648, Ar648, qk648, S648, Ng648, H648, G648⟩ := id f644
  obtain ⟨T648, h648, X648, e648, W648, st648⟩ := stC X644 hx hZ e644 Ar648 (j := (4 : Int32)) (inb_of S648 ⟨by decide, by decide⟩) (g := (mkF m 222 #[rv da0, iv 6] [(.int (z4 &&& 255)), (.int 4), (.ref b626), (.ref b626), (.ref b622), (.ref b622)])) rfl rfl (D d7_222)
  have W648 : Wr h644 h648 b626 ((4 : Int32)).toNatClampNeg (.int (z4 &&& 255)) := Eq.mp (congrArg (fun z => Wr h644 h648 b626 ((4 : Int32)).toNatClampNeg (Value.int z)) (i2c_mask z4)) W648
  have O649 := Old0.wr O645 W648 g_b626
  have K649 := Keep.wr K645 W648 (Or.inr z_b626)
  have f648 : Arv Z h648 b626 k626 .char (6 : Int32) [(.int (z0 &&& 255)), (.int (z1 &&& 255)), (.int (z2 &&& 255)), (.int (z3 &&& 255)), (.int (z4 &&& 255)), (.int 0)] (.int 0) := Arv.set Ar648 qk648 S648 Ng648 H648 G648 (v := (.int (z4 &&& 255))) (own_f255 z4) W648 4 rfl (Nat.le_of_ble_eq_true rfl)
  have N648 := Fr.snoc X648 N644 g_b626
  have f651 : Arv Z h648 da0 kd0 .char (6 : Int32) [(.int (z0 &&& 255)), (.int (z1 &&& 255)), (.int (z2 &&& 255)), (.int (z3 &&& 255)), (.int (z4 &&& 255)), (.int (z5 &&& 255))] (.int 0) := (Arv.other f647 W648 ne_da0_b626)
  obtain ⟨cl650, Ar650, qk650, S650, Ng650, H650, G650⟩ := id f651
  have hin650 := inb_of (j := (5 : Int32)) S650 ⟨by decide, by decide⟩
  obtain ⟨cl652, Ar652, qk652, S652, Ng652, H652, G652⟩ := id f648
  obtain ⟨T652, h652, X652, e652, W652, st652⟩ := stC X648 hx hZ e648 Ar652 (j := (5 : Int32)) (inb_of S652 ⟨by decide, by decide⟩) (g := (mkF m 228 #[rv da0, iv 6] [(.int (z5 &&& 255)), (.int 5), (.ref b626), (.ref b626), (.ref b622), (.ref b622)])) rfl rfl (D d7_228)
  have W652 : Wr h648 h652 b626 ((5 : Int32)).toNatClampNeg (.int (z5 &&& 255)) := Eq.mp (congrArg (fun z => Wr h648 h652 b626 ((5 : Int32)).toNatClampNeg (Value.int z)) (i2c_mask z5)) W652
  have O653 := Old0.wr O649 W652 g_b626
  have K653 := Keep.wr K649 W652 (Or.inr z_b626)
  have f652 : Arv Z h652 b626 k626 .char (6 : Int32) [(.int (z0 &&& 255)), (.int (z1 &&& 255)), (.int (z2 &&& 255)), (.int (z3 &&& 255)), (.int (z4 &&& 255)), (.int (z5 &&& 255))] (.int 0) := Arv.set Ar652 qk652 S652 Ng652 H652 G652 (v := (.int (z5 &&& 255))) (own_f255 z5) W652 5 rfl (Nat.le_of_ble_eq_true rfl)
  have N652 := Fr.snoc X652 N648 g_b626
  have f655 : Exa Z h652 b622 "java/lang/String" := (Exa.wr W652 (Exa.wr W648 (Exa.wr W644 (Exa.wr W640 (Exa.wr W636 (Exa.wr W632 (Exa.ext E626 A622)))))))
  have f656 : Fld Z h652 b622 "java/lang/String" "value" "[B" .null := (Fld.other W652 (Fld.other W648 (Fld.other W644 (Fld.other W640 (Fld.other W636 (Fld.other W632 (Fld.ext E626 f624) (Or.inl ne_b622_b626)) (Or.inl ne_b622_b626)) (Or.inl ne_b622_b626)) (Or.inl ne_b622_b626)) (Or.inl ne_b622_b626)) (Or.inl ne_b622_b626))
  have f657 : Fld Z h652 b622 "java/lang/String" "coder" "B" (.int 0) := (Fld.other W652 (Fld.other W648 (Fld.other W644 (Fld.other W640 (Fld.other W636 (Fld.other W632 (Fld.ext E626 f625) (Or.inl ne_b622_b626)) (Or.inl ne_b622_b626)) (Or.inl ne_b622_b626)) (Or.inl ne_b622_b626)) (Or.inl ne_b622_b626)) (Or.inl ne_b622_b626))
  have f658 : Arv Z h652 da0 kd0 .char (6 : Int32) [(.int (z0 &&& 255)), (.int (z1 &&& 255)), (.int (z2 &&& 255)), (.int (z3 &&& 255)), (.int (z4 &&& 255)), (.int (z5 &&& 255))] (.int 0) := (Arv.other f651 W652 ne_da0_b626)
  have f659 : Exa Z h652 b626 "[C" := (Exa.wr W652 (Exa.wr W648 (Exa.wr W644 (Exa.wr W640 (Exa.wr W636 (Exa.wr W632 A626))))))
  obtain ⟨T654, v654, L654, X654, q654, st654⟩ := callNew X652 hx hZ (y := own_m12) rfl hown (own_w hw (i := 49) rfl) (own_w hw (i := 50) rfl) (own_w hw (i := 2) rfl) (own_w hw (i := 51) rfl) (by decide) (rm_str hw G b622 b626 ((6 : Int32)) k626 (([(z0 &&& 255), (z1 &&& 255), (z2 &&& 255), (z3 &&& 255), (z4 &&& 255), (z5 &&& 255)] : List Int32)) h652 O653 (rfl) (And.intro (own_le255 _) (And.intro (own_le255 _) (And.intro (own_le255 _) (And.intro (own_le255 _) (And.intro (own_le255 _) (And.intro (own_le255 _) (trivial))))))) (Nat.le_of_ble_eq_true rfl) (Nat.succ_pos _) f655 f656 f657 g_b622 f652 ne_b622_b626) e652 (W := 1) (by decide) (by decide) (by decide) (by decide) (g := (mkF m 229 #[rv da0, iv 6] [(.ref b626), (.ref b622), (.ref b622)])) rfl (by rw [hml]; rfl) (a := b622) (argsL := [(.ref b626)]) (rest := [(.ref b622)]) (lenOf pd38 rfl) rfl rfl (Nat.le_of_eq rfl) (D d7_229)
  obtain ⟨da_654, kd_654, rfl, N654q, K654q, p654_0, p654_1, p654_2, p654_3, p654_4⟩ := q654
  have N654 := Fr.app N652 N654q
  have O660 := Old0.keep O653 K654q (allS g_b622 all0)
  have K660 := Keep.trans K653 K654q (allS (Or.inr z_b622) all0)
  have z_da_654 : h0.size ≤ da_654 := Nat.le_trans K653.1 p654_0
  have g_da_654 : Z.heap.size ≤ da_654 := Nat.le_trans O653.1 p654_0
  have ne_da0_da_654 : da0 ≠ da_654 := Nat.ne_of_lt (Nat.lt_of_lt_of_le f658.lt p654_0)
  have ne_b622_da_654 : b622 ≠ da_654 := Nat.ne_of_lt (Nat.lt_of_lt_of_le f655.lt p654_0)
  have ne_b626_da_654 : b626 ≠ da_654 := Nat.ne_of_lt (Nat.lt_of_lt_of_le f659.lt p654_0)
  have p654_3 : Arv Z T654.heap da_654 kd_654 .byte (6 : Int32) [(.int ((z0 &&& 255).toInt8.toInt32)), (.int ((z1 &&& 255).toInt8.toInt32)), (.int ((z2 &&& 255).toInt8.toInt32)), (.int ((z3 &&& 255).toInt8.toInt32)), (.int ((z4 &&& 255).toInt8.toInt32)), (.int ((z5 &&& 255).toInt8.toInt32))] (.int 0) := p654_3
  have f661 : Exa Z T654.heap b622 "java/lang/String" := (Exa.keep f655 K654q)
  refine Go.of (T' := T654) (f' := (mkF m 232 #[rv da0, iv 6] [(.ref b622)])) (fun _ k => XS.iconst X644.here hx rfl (D d7_220) (X644.caload hx (j := (4 : Int32)) (v := (.int (z4 &&& 255))) (by rw [e644]; exact Ar646.1) (State.isArrayOf_alike hZ.alike Ar646.2.1) Ar646.2.2 hin646 (H646.at hin646 rfl) (g := (mkF m 221 #[rv da0, iv 6] [(.int 4), (.ref da0), (.int 4), (.ref b626), (.ref b626), (.ref b622), (.ref b622)])) rfl rfl (D d7_221) _ (st648 _ (XS.dup X648.here hx rfl (D d7_223) rfl rfl (XS.iconst X648.here hx rfl (D d7_224) (XS.aloadN X648.here hx rfl (D d7_225) rfl rfl (XS.iconst X648.here hx rfl (D d7_226) (X648.caload hx (j := (5 : Int32)) (v := (.int (z5 &&& 255))) (by rw [e648]; exact Ar650.1) (State.isArrayOf_alike hZ.alike Ar650.2.1) Ar650.2.2 hin650 (H650.at hin650 rfl) (g := (mkF m 227 #[rv da0, iv 6] [(.int 5), (.ref da0), (.int 5), (.ref b626), (.ref b626), (.ref b622), (.ref b622)])) rfl rfl (D d7_227) _ (st652 _ (st654 _ k)))))))))) ?_
  exact Go.retA X654 hx hlk hret rfl rfl (D d7_232) (by decide) (by decide) ⟨b622, da_654, kd_654, rfl, N654, K660, f661, p654_1, p654_2, p654_3⟩
theorem d15_0 : decode prog_70_method_1_code 0 = .ok (.getstatic 19, 3) := by decide +kernel
theorem d15_3 : decode prog_70_method_1_code 3 = .ok (.invokevirtual 23, 3) := by decide +kernel
theorem d15_6 : decode prog_70_method_1_code 6 = .ok (.checkcast 24, 3) := by decide +kernel
theorem d15_9 : decode prog_70_method_1_code 9 = .ok (.areturn, 1) := by decide +kernel
abbrev own_m41 : MethodName := (⟨"com/example/cascade_mapper/cascademapper/model/CollectionForm", "values", "()[Lcom/example/cascade_mapper/cascademapper/model/CollectionForm;"⟩ : MethodName)
theorem ef_rm_values (m : MethodId)  : entryFrame m #[] 0 = mkF m 0 #[] [] := by first | (simp [entryFrame, mkF, argsToLocals, Value.category]; done) | rfl
theorem pn42 : plainFor (⟨"com/example/cascade_mapper/cascademapper/model/CollectionForm", "values", "()[Lcom/example/cascade_mapper/cascademapper/model/CollectionForm;"⟩ : MethodName) = true := by first | exact plainFor_of_name (by first | (simp [plainName, overriddenIn]; done) | decide +kernel) | decide +kernel
set_option maxRecDepth 65536 in
set_option maxHeartbeats 40000000 in
theorem rm_values {l : Launch} {Z : State} {a0 : Array Value} {A : Nat → Addr} {KC : Nat → Cell} {IC : Nat → Int32} {VC : Nat → Value} (hw : ∀ d ∈ tables_1, d.before a0 Z = true) (G : own_Ctx Z A KC IC VC)   (h0 : Heap) (O0 : Ext Z.heap h0)  :
    Ok l Z own_m41 prog_70_method_1_code 0 (some (.array (.object "com/example/cascade_mapper/cascademapper/model/CollectionForm"))) ({ frames := 1, cells := 1, slots := 5, locals := 14 } : Room) #[] h0
      (fun v h L => ∃ r : Addr, v = some (.ref r) ∧ (Fr Z.heap.size L) ∧ (Keep h0 h []) ∧ (h0.size ≤ r) ∧ (Arv Z h r (KC 0).cls (.object "com/example/cascade_mapper/cascademapper/model/CollectionForm") (5 : Int32) [(.ref (A 1)), (.ref (A 2)), (.ref (A 3)), (.ref (A 4)), (.ref (A 5))] .null) ∧ (Exa Z h r "[Lcom/example/cascade_mapper/cascademapper/model/CollectionForm;")) := by
  refine Ok.mk pn42 ?_
  intro p e s m below meth c T0 hx hby hml hown hnm hret hlk hZ e0 X0
  refine Go.cast (ef_rm_values m ) ?_
  obtain ⟨S__VALUES, E_s__VALUES, -, -, -, -, -, -, -, -, -, -, -, -, -, -, -, -, -, -, -, -, -, -, -, -, -, -, -, -, -, -, -, -, V_s__VALUES, -⟩ := id G
  have D := @hb _ _ hby
  have N0 := Fr.nil Z.heap.size
  have K0 : Keep h0 h0 [] := Keep.refl _ _
  obtain ⟨T662, X662, e662, st662⟩ := getS2 X0 hx hZ hown (host := "") (Or.inl (own_w hw (i := 76) rfl)) Via.refl e0 (Sta.ext O0 S__VALUES) (g := (mkF m 0 #[] [])) rfl (D d15_0)
  obtain ⟨T663, h663, b663, q663, X663, e663, E663, V663, A663, st663⟩ := cloneV X662 hx hZ hown (own_w hw (i := 78) rfl) (own_w hw (i := 79) rfl) (own_w hw (i := 83) rfl) (own_w hw (i := 81) rfl) (own_w hw (i := 82) rfl) (own_w hw (i := 84) rfl) e662 (Arv.ext V_s__VALUES O0) (Exa.ext O0 E_s__VALUES) (g := (mkF m 3 #[] [(.ref (A 0))])) rfl (by rw [hml]; rfl) rfl (D d15_3) (by decide) (W := 0) (cap := 5) (Nat.le_of_eq rfl) (by decide) (by decide) (by decide) (by decide)
  have O664 := Old0.ext O0 E663
  have K664 := Keep.ext K0 E663
  have g_b663 : Z.heap.size ≤ b663 := q663 ▸ O0.1
  have z_b663 : h0.size ≤ b663 := q663 ▸ K0.1
  obtain ⟨T665, X665, e665, st665⟩ := castY X663 hx hZ hown (own_w hw (i := 91) rfl) e663 (Ins.self A663) (g := (mkF m 6 #[] [(.ref b663)])) rfl rfl (D d15_6)
  refine Go.of (T' := T665) (f' := (mkF m 9 #[] [(.ref b663)])) (fun _ k => st662 _ (st663 _ (st665 _ k))) ?_
  exact Go.retA X665 hx hlk hret rfl rfl (D d15_9) (by decide) (by decide) (by rw [e665]; exact ⟨b663, rfl, N0, K664, z_b663, V663, A663⟩)
theorem d14_0 : decode prog_70_method_5_code 0 = .ok (.aconst_null, 1) := by decide +kernel
theorem d14_1 : decode prog_70_method_5_code 1 = .ok (.astore_n 1, 1) := by decide +kernel
theorem d14_2 : decode prog_70_method_5_code 2 = .ok (.invokestatic 42, 3) := by decide +kernel
theorem pd43 : parseMethodDescriptor "()[Lcom/example/cascade_mapper/cascademapper/model/CollectionForm;" = some ⟨[], some (.array (.object "com/example/cascade_mapper/cascademapper/model/CollectionForm"))⟩ := by decide +kernel
theorem d14_5 : decode prog_70_method_5_code 5 = .ok (.astore_n 2, 1) := by decide +kernel
theorem d14_6 : decode prog_70_method_5_code 6 = .ok (.aload_n 2, 1) := by decide +kernel
theorem d14_7 : decode prog_70_method_5_code 7 = .ok (.arraylength, 1) := by decide +kernel
theorem d14_8 : decode prog_70_method_5_code 8 = .ok (.istore_n 3, 1) := by decide +kernel
theorem d14_9 : decode prog_70_method_5_code 9 = .ok (.iconst 0, 1) := by decide +kernel
theorem d14_10 : decode prog_70_method_5_code 10 = .ok (.istore 4, 2) := by decide +kernel
theorem d14_12 : decode prog_70_method_5_code 12 = .ok (.iload 4, 2) := by decide +kernel
theorem d14_14 : decode prog_70_method_5_code 14 = .ok (.iload_n 3, 1) := by decide +kernel
theorem d14_15 : decode prog_70_method_5_code 15 = .ok (.if_icmp .ge 30, 3) := by decide +kernel
theorem d14_18 : decode prog_70_method_5_code 18 = .ok (.aload_n 2, 1) := by decide +kernel
theorem d14_19 : decode prog_70_method_5_code 19 = .ok (.iload 4, 2) := by decide +kernel
theorem d14_21 : decode prog_70_method_5_code 21 = .ok (.aaload, 1) := by decide +kernel
theorem d14_22 : decode prog_70_method_5_code 22 = .ok (.astore 5, 2) := by decide +kernel
theorem d14_24 : decode prog_70_method_5_code 24 = .ok (.aload 5, 2) := by decide +kernel
theorem d14_26 : decode prog_70_method_5_code 26 = .ok (.getfield 38, 3) := by decide +kernel
theorem d14_29 : decode prog_70_method_5_code 29 = .ok (.aload_n 0, 1) := by decide +kernel
theorem d14_30 : decode prog_70_method_5_code 30 = .ok (.invokevirtual 46, 3) := by decide +kernel
theorem pd44 : parseMethodDescriptor "(Ljava/lang/Object;)Z" = some ⟨[(.object "java/lang/Object")], some .boolean⟩ := by decide +kernel
theorem d14_33 : decode prog_70_method_5_code 33 = .ok (.ifCond .eq 6, 3) := by decide +kernel
theorem d14_36 : decode prog_70_method_5_code 36 = .ok (.aload 5, 2) := by decide +kernel
theorem d14_38 : decode prog_70_method_5_code 38 = .ok (.astore_n 1, 1) := by decide +kernel
theorem d14_39 : decode prog_70_method_5_code 39 = .ok (.iinc 4 1, 3) := by decide +kernel
theorem d14_42 : decode prog_70_method_5_code 42 = .ok (.goto (-30), 3) := by decide +kernel
theorem d14_45 : decode prog_70_method_5_code 45 = .ok (.aload_n 1, 1) := by decide +kernel
theorem d14_46 : decode prog_70_method_5_code 46 = .ok (.areturn, 1) := by decide +kernel
abbrev own_m45 : MethodName := (⟨"com/example/cascade_mapper/cascademapper/model/CollectionForm", "named", "(Ljava/lang/String;)Lcom/example/cascade_mapper/cascademapper/model/CollectionForm;"⟩ : MethodName)
theorem ef_rm_named0 (m : MethodId) (so : Addr) : entryFrame m #[(.ref so)] 6 = mkF m 0 #[rv so, .unset, .unset, .unset, .unset, .unset] [] := by first | (simp [entryFrame, mkF, argsToLocals, Value.category]; done) | rfl
theorem pn46 : plainFor (⟨"com/example/cascade_mapper/cascademapper/model/CollectionForm", "named", "(Ljava/lang/String;)Lcom/example/cascade_mapper/cascademapper/model/CollectionForm;"⟩ : MethodName) = true := by first | exact plainFor_of_name (by first | (simp [plainName, overriddenIn]; done) | decide +kernel) | decide +kernel
set_option maxRecDepth 65536 in
set_option maxHeartbeats 40000000 in
theorem rm_named0 {l : Launch} {Z : State} {a0 : Array Value} {A : Nat → Addr} {KC : Nat → Cell} {IC : Nat → Int32} {VC : Nat → Value} (hw : ∀ d ∈ tables_1, d.before a0 Z = true) (G : own_Ctx Z A KC IC VC) (so : Addr) (sv : Addr) (kg : ClassId) (n : Int32) (bs : List Int32) (h0 : Heap) (O0 : Ext Z.heap h0) (prem0 : Exa Z h0 so "java/lang/String") (prem1 : Fld Z h0 so "java/lang/String" "value" "[B" (.ref sv)) (prem2 : Fld Z h0 so "java/lang/String" "coder" "B" (.int (0 : Int32))) (prem3 : Arv Z h0 sv kg .byte n (bs.map Value.int) (.int (0 : Int32))) (prem4 : own_eq_set n bs = 1) (prem5 : own_eq_list n bs = 0) (prem6 : own_eq_bag n bs = 0) (prem7 : own_eq_idbag n bs = 0) (prem8 : own_eq_map n bs = 0) :
    Ok l Z own_m45 prog_70_method_5_code 6 (some (.object "com/example/cascade_mapper/cascademapper/model/CollectionForm")) ({ frames := 2, cells := 1, slots := 5, locals := 28 } : Room) #[(.ref so)] h0
      (fun v h L => v = some (.ref (A 1)) ∧ (Fr Z.heap.size L) ∧ (Keep h0 h [])) := by
  refine Ok.mk pn46 ?_
  intro p e s m below meth c T0 hx hby hml hown hnm hret hlk hZ e0 X0
  refine Go.cast (ef_rm_named0 m so) ?_
  obtain ⟨-, -, -, -, -, -, -, -, -, -, -, -, F_s_SET_elementName, E_s_SET_elementName, -, -, F_s_LIST_elementName, E_s_LIST_elementName, -, -, F_s_BAG_elementName, E_s_BAG_elementName, -, -, F_s_IDBAG_elementName, E_s_IDBAG_elementName, -, -, F_s_MAP_elementName, E_s_MAP_elementName, -⟩ := id G
  have D := @hb _ _ hby
  have N0 := Fr.nil Z.heap.size
  have K0 : Keep h0 h0 [] := Keep.refl _ _
  obtain ⟨T666, v666, L666, X666, q666, st666⟩ := callSt X0 hx hZ (y := own_m41) hown (own_w hw (i := 73) rfl) (own_w hw (i := 74) rfl) (own_w hw (i := 71) rfl) (own_w hw (i := 75) rfl) (by decide) (rm_values hw G   h0 O0 ) e0 (W := 0) (by decide) (by decide) (by decide) (by decide) (g := (mkF m 2 #[rv so, .val .null, .unset, .unset, .unset, .unset] [])) rfl (by rw [hml]; rfl) (argsL := []) (rest := []) (lenOf pd43 rfl) rfl rfl (Nat.le_of_eq rfl) (D d14_2)
  obtain ⟨r_666, rfl, N666q, K666q, p666_0, p666_1, p666_2⟩ := q666
  have N666 := Fr.app N0 N666q
  have O667 := Old0.keep O0 K666q all0
  have K667 := Keep.trans K0 K666q all0
  have z_r_666 : h0.size ≤ r_666 := Nat.le_trans K0.1 p666_0
  have g_r_666 : Z.heap.size ≤ r_666 := Nat.le_trans O0.1 p666_0
  have ne_so_r_666 : so ≠ r_666 := Nat.ne_of_lt (Nat.lt_of_lt_of_le prem0.lt p666_0)
  have ne_sv_r_666 : sv ≠ r_666 := Nat.ne_of_lt (Nat.lt_of_lt_of_le prem3.lt p666_0)
  obtain ⟨cl668, Ar668, qk668, S668, Ng668, H668, G668⟩ := id p666_1
  obtain ⟨cl670, Ar670, qk670, S670, Ng670, H670, G670⟩ := id p666_1
  have hin670 := inb_of (j := (0 : Int32)) S670 ⟨by decide, by decide⟩
  obtain ⟨T671, X671, e671, st671⟩ := getF X666 hx hZ hown (host := "") (Or.inl (own_w hw (i := 93) rfl)) Via.refl rfl (Fld.ext O667 F_s_SET_elementName) (g := (mkF m 26 #[rv so, .val .null, rv r_666, iv 5, iv 0, rv (A 1)] [(.ref (A 1))])) rfl rfl (D d14_26)
  have f673 : Exa Z T666.heap so "java/lang/String" := (Exa.keep prem0 K666q)
  have f674 : Fld Z T666.heap so "java/lang/String" "value" "[B" (.ref sv) := (Fld.keep prem1 K666q nin0)
  have f675 : Fld Z T666.heap so "java/lang/String" "coder" "B" (.int 0) := (Fld.keep prem2 K666q nin0)
  have f676 : Arv Z T666.heap sv kg .byte n (bs.map Value.int) (.int 0) := (Arv.keep prem3 K666q nin0)
  obtain ⟨T672, v672, L672, X672, q672, st672⟩ := callVi X671 hx hZ (y := own_m17) (z := own_m17) hown (own_w hw (i := 95) rfl) (own_w hw (i := 96) rfl) (notFace_of_selects (args := #[]) (mvT hZ (own_w hw (i := 98) rfl))) (own_w hw (i := 98) rfl) (own_w hw (i := 97) rfl) (own_w hw (i := 99) rfl) (own_w hw (i := 2) rfl) (by decide) (rm_eqn_set hw G so sv kg n bs ((1 : Int32)) T666.heap O667 f673 f674 f675 f676 (prem4)) e671 (W := 0) (by decide) (by decide) (by decide) (by decide) (Exa.ext O667 E_s_SET_elementName) (g := (mkF m 30 #[rv so, .val .null, rv r_666, iv 5, iv 0, rv (A 1)] [(.ref so), (.ref (A 6))])) rfl (by rw [hml]; rfl) (argsL := [(.ref so)]) (rest := []) (lenOf pd44 rfl) rfl rfl (Nat.le_of_eq rfl) (D d14_30)
  obtain ⟨rfl, e672, rfl⟩ := q672
  have N672 := Fr.app N666 (Fr.nil _)
  refine Go.of (T' := T672) (f' := (mkF m 42 #[rv so, rv (A 1), rv r_666, iv 5, iv 1, rv (A 1)] [])) (fun _ k => XS.aconstNull X0.here hx rfl (D d14_0) (XS.astoreN X0.here hx rfl (D d14_1) rfl rfl (l' := #[rv so, .val .null, .unset, .unset, .unset, .unset]) rfl (st666 _ (XS.astoreN X666.here hx rfl (D d14_5) rfl rfl (l' := #[rv so, .val .null, rv r_666, .unset, .unset, .unset]) rfl (XS.aloadN X666.here hx rfl (D d14_6) rfl rfl (X666.arraylength hx Ar668.1 (State.isArrayOf_alike hZ.alike Ar668.2.1) (g := (mkF m 7 #[rv so, .val .null, rv r_666, .unset, .unset, .unset] [(.ref r_666)])) rfl rfl (D d14_7) _ (by rw [len_of S668 Ng668]; exact (XS.istoreN X666.here hx rfl (D d14_8) rfl (l' := #[rv so, .val .null, rv r_666, iv 5, .unset, .unset]) rfl (XS.iconst X666.here hx rfl (D d14_9) (XS.istore X666.here hx rfl (D d14_10) rfl (l' := #[rv so, .val .null, rv r_666, iv 5, iv 0, .unset]) rfl (XS.iload X666.here hx rfl (D d14_12) rfl (XS.iloadN X666.here hx rfl (D d14_14) rfl (XS.icmpNo X666.here hx rfl (D d14_15) rfl (tlt (by decide : (0 : Int32) < (5 : Int32))).2.1 (XS.aloadN X666.here hx rfl (D d14_18) rfl rfl (XS.iload X666.here hx rfl (D d14_19) rfl (X666.aaload hx (j := (0 : Int32)) (v := (.ref (A 1))) Ar670.1 (State.isArrayOf_alike hZ.alike Ar670.2.1) rfl Ar670.2.2 hin670 (H670.at hin670 rfl) (g := (mkF m 21 #[rv so, .val .null, rv r_666, iv 5, iv 0, .unset] [(.int 0), (.ref r_666)])) rfl rfl (D d14_21) _ (XS.astore X666.here hx rfl (D d14_22) rfl rfl (l' := #[rv so, .val .null, rv r_666, iv 5, iv 0, rv (A 1)]) rfl (XS.aload X666.here hx rfl (D d14_24) rfl rfl (st671 _ (XS.aloadN X671.here hx rfl (D d14_29) rfl rfl (st672 _ (XS.ifNo X672.here hx rfl (D d14_33) rfl ((if0 _ _).trans (feq (by decide : ¬ ((1 : Int32) = (0 : Int32)))).1) (XS.aload X672.here hx rfl (D d14_36) rfl rfl (XS.astoreN X672.here hx rfl (D d14_38) rfl rfl (l' := #[rv so, rv (A 1), rv r_666, iv 5, iv 0, rv (A 1)]) rfl (XS.iinc X672.here hx rfl (D d14_39) rfl (l' := #[rv so, rv (A 1), rv r_666, iv 5, iv 1, rv (A 1)]) rfl k))))))))))))))))))))))))) ?_
  obtain ⟨cl679, Ar679, qk679, S679, Ng679, H679, G679⟩ := id p666_1
  have hin679 := inb_of (j := (1 : Int32)) S679 ⟨by decide, by decide⟩
  obtain ⟨T680, X680, e680, st680⟩ := getF X672 hx hZ hown (host := "") (Or.inl (own_w hw (i := 93) rfl)) Via.refl e672 (Fld.ext O667 F_s_LIST_elementName) (g := (mkF m 26 #[rv so, rv (A 1), rv r_666, iv 5, iv 1, rv (A 2)] [(.ref (A 2))])) rfl rfl (D d14_26)
  obtain ⟨T681, v681, L681, X681, q681, st681⟩ := callVi X680 hx hZ (y := own_m17) (z := own_m17) hown (own_w hw (i := 95) rfl) (own_w hw (i := 96) rfl) (notFace_of_selects (args := #[]) (mvT hZ (own_w hw (i := 98) rfl))) (own_w hw (i := 98) rfl) (own_w hw (i := 97) rfl) (own_w hw (i := 99) rfl) (own_w hw (i := 2) rfl) (by decide) (rm_eqn_list hw G so sv kg n bs ((0 : Int32)) T666.heap O667 f673 f674 f675 f676 (prem5)) e680 (W := 0) (by decide) (by decide) (by decide) (by decide) (Exa.ext O667 E_s_LIST_elementName) (g := (mkF m 30 #[rv so, rv (A 1), rv r_666, iv 5, iv 1, rv (A 2)] [(.ref so), (.ref (A 8))])) rfl (by rw [hml]; rfl) (argsL := [(.ref so)]) (rest := []) (lenOf pd44 rfl) rfl rfl (Nat.le_of_eq rfl) (D d14_30)
  obtain ⟨rfl, e681, rfl⟩ := q681
  have N681 := Fr.app N672 (Fr.nil _)
  obtain ⟨cl684, Ar684, qk684, S684, Ng684, H684, G684⟩ := id p666_1
  have hin684 := inb_of (j := (2 : Int32)) S684 ⟨by decide, by decide⟩
  obtain ⟨T685, X685, e685, st685⟩ := getF X681 hx hZ hown (host := "") (Or.inl (own_w hw (i := 93) rfl)) Via.refl e681 (Fld.ext O667 F_s_BAG_elementName) (g := (mkF m 26 #[rv so, rv (A 1), rv r_666, iv 5, iv 2, rv (A 3)] [(.ref (A 3))])) rfl rfl (D d14_26)
  refine Go.of (T' := T685) (f' := (mkF m 29 #[rv so, rv (A 1), rv r_666, iv 5, iv 2, rv (A 3)] [(.ref (A 10))])) (fun _ k => XS.goto X672.here hx rfl (pc0 := 42) (pc' := 12) rfl (D d14_42) (by decide) (by decide) (XS.iload X672.here hx rfl (D d14_12) rfl (XS.iloadN X672.here hx rfl (D d14_14) rfl (XS.icmpNo X672.here hx rfl (D d14_15) rfl (tlt (by decide : (1 : Int32) < (5 : Int32))).2.1 (XS.aloadN X672.here hx rfl (D d14_18) rfl rfl (XS.iload X672.here hx rfl (D d14_19) rfl (X672.aaload hx (j := (1 : Int32)) (v := (.ref (A 2))) (by rw [e672]; exact Ar679.1) (State.isArrayOf_alike hZ.alike Ar679.2.1) rfl Ar679.2.2 hin679 (H679.at hin679 rfl) (g := (mkF m 21 #[rv so, rv (A 1), rv r_666, iv 5, iv 1, rv (A 1)] [(.int 1), (.ref r_666)])) rfl rfl (D d14_21) _ (XS.astore X672.here hx rfl (D d14_22) rfl rfl (l' := #[rv so, rv (A 1), rv r_666, iv 5, iv 1, rv (A 2)]) rfl (XS.aload X672.here hx rfl (D d14_24) rfl rfl (st680 _ (XS.aloadN X680.here hx rfl (D d14_29) rfl rfl (st681 _ (XS.ifYes X681.here hx rfl (pc0 := 33) (pc' := 39) rfl (D d14_33) rfl ((if0 _ _).trans (teq (by decide : (0 : Int32) = (0 : Int32))).1) (by decide) (by decide) (XS.iinc X681.here hx rfl (D d14_39) rfl (l' := #[rv so, rv (A 1), rv r_666, iv 5, iv 2, rv (A 2)]) rfl (XS.goto X681.here hx rfl (pc0 := 42) (pc' := 12) rfl (D d14_42) (by decide) (by decide) (XS.iload X681.here hx rfl (D d14_12) rfl (XS.iloadN X681.here hx rfl (D d14_14) rfl (XS.icmpNo X681.here hx rfl (D d14_15) rfl (tlt (by decide : (2 : Int32) < (5 : Int32))).2.1 (XS.aloadN X681.here hx rfl (D d14_18) rfl rfl (XS.iload X681.here hx rfl (D d14_19) rfl (X681.aaload hx (j := (2 : Int32)) (v := (.ref (A 3))) (by rw [e681]; exact Ar684.1) (State.isArrayOf_alike hZ.alike Ar684.2.1) rfl Ar684.2.2 hin684 (H684.at hin684 rfl) (g := (mkF m 21 #[rv so, rv (A 1), rv r_666, iv 5, iv 2, rv (A 2)] [(.int 2), (.ref r_666)])) rfl rfl (D d14_21) _ (XS.astore X681.here hx rfl (D d14_22) rfl rfl (l' := #[rv so, rv (A 1), rv r_666, iv 5, iv 2, rv (A 3)]) rfl (XS.aload X681.here hx rfl (D d14_24) rfl rfl (st685 _ k)))))))))))))))))))))))) ?_
  obtain ⟨T686, v686, L686, X686, q686, st686⟩ := callVi X685 hx hZ (y := own_m17) (z := own_m17) hown (own_w hw (i := 95) rfl) (own_w hw (i := 96) rfl) (notFace_of_selects (args := #[]) (mvT hZ (own_w hw (i := 98) rfl))) (own_w hw (i := 98) rfl) (own_w hw (i := 97) rfl) (own_w hw (i := 99) rfl) (own_w hw (i := 2) rfl) (by decide) (rm_eqn_bag hw G so sv kg n bs ((0 : Int32)) T666.heap O667 f673 f674 f675 f676 (prem6)) e685 (W := 0) (by decide) (by decide) (by decide) (by decide) (Exa.ext O667 E_s_BAG_elementName) (g := (mkF m 30 #[rv so, rv (A 1), rv r_666, iv 5, iv 2, rv (A 3)] [(.ref so), (.ref (A 10))])) rfl (by rw [hml]; rfl) (argsL := [(.ref so)]) (rest := []) (lenOf pd44 rfl) rfl rfl (Nat.le_of_eq rfl) (D d14_30)
  obtain ⟨rfl, e686, rfl⟩ := q686
  have N686 := Fr.app N681 (Fr.nil _)
  obtain ⟨cl689, Ar689, qk689, S689, Ng689, H689, G689⟩ := id p666_1
  have hin689 := inb_of (j := (3 : Int32)) S689 ⟨by decide, by decide⟩
  obtain ⟨T690, X690, e690, st690⟩ := getF X686 hx hZ hown (host := "") (Or.inl (own_w hw (i := 93) rfl)) Via.refl e686 (Fld.ext O667 F_s_IDBAG_elementName) (g := (mkF m 26 #[rv so, rv (A 1), rv r_666, iv 5, iv 3, rv (A 4)] [(.ref (A 4))])) rfl rfl (D d14_26)
  obtain ⟨T691, v691, L691, X691, q691, st691⟩ := callVi X690 hx hZ (y := own_m17) (z := own_m17) hown (own_w hw (i := 95) rfl) (own_w hw (i := 96) rfl) (notFace_of_selects (args := #[]) (mvT hZ (own_w hw (i := 98) rfl))) (own_w hw (i := 98) rfl) (own_w hw (i := 97) rfl) (own_w hw (i := 99) rfl) (own_w hw (i := 2) rfl) (by decide) (rm_eqn_idbag hw G so sv kg n bs ((0 : Int32)) T666.heap O667 f673 f674 f675 f676 (prem7)) e690 (W := 0) (by decide) (by decide) (by decide) (by decide) (Exa.ext O667 E_s_IDBAG_elementName) (g := (mkF m 30 #[rv so, rv (A 1), rv r_666, iv 5, iv 3, rv (A 4)] [(.ref so), (.ref (A 12))])) rfl (by rw [hml]; rfl) (argsL := [(.ref so)]) (rest := []) (lenOf pd44 rfl) rfl rfl (Nat.le_of_eq rfl) (D d14_30)
  obtain ⟨rfl, e691, rfl⟩ := q691
  have N691 := Fr.app N686 (Fr.nil _)
  refine Go.of (T' := T691) (f' := (mkF m 21 #[rv so, rv (A 1), rv r_666, iv 5, iv 4, rv (A 4)] [(.int 4), (.ref r_666)])) (fun _ k => XS.aloadN X685.here hx rfl (D d14_29) rfl rfl (st686 _ (XS.ifYes X686.here hx rfl (pc0 := 33) (pc' := 39) rfl (D d14_33) rfl ((if0 _ _).trans (teq (by decide : (0 : Int32) = (0 : Int32))).1) (by decide) (by decide) (XS.iinc X686.here hx rfl (D d14_39) rfl (l' := #[rv so, rv (A 1), rv r_666, iv 5, iv 3, rv (A 3)]) rfl (XS.goto X686.here hx rfl (pc0 := 42) (pc' := 12) rfl (D d14_42) (by decide) (by decide) (XS.iload X686.here hx rfl (D d14_12) rfl (XS.iloadN X686.here hx rfl (D d14_14) rfl (XS.icmpNo X686.here hx rfl (D d14_15) rfl (tlt (by decide : (3 : Int32) < (5 : Int32))).2.1 (XS.aloadN X686.here hx rfl (D d14_18) rfl rfl (XS.iload X686.here hx rfl (D d14_19) rfl (X686.aaload hx (j := (3 : Int32)) (v := (.ref (A 4))) (by rw [e686]; exact Ar689.1) (State.isArrayOf_alike hZ.alike Ar689.2.1) rfl Ar689.2.2 hin689 (H689.at hin689 rfl) (g := (mkF m 21 #[rv so, rv (A 1), rv r_666, iv 5, iv 3, rv (A 3)] [(.int 3), (.ref r_666)])) rfl rfl (D d14_21) _ (XS.astore X686.here hx rfl (D d14_22) rfl rfl (l' := #[rv so, rv (A 1), rv r_666, iv 5, iv 3, rv (A 4)]) rfl (XS.aload X686.here hx rfl (D d14_24) rfl rfl (st690 _ (XS.aloadN X690.here hx rfl (D d14_29) rfl rfl (st691 _ (XS.ifYes X691.here hx rfl (pc0 := 33) (pc' := 39) rfl (D d14_33) rfl ((if0 _ _).trans (teq (by decide : (0 : Int32) = (0 : Int32))).1) (by decide) (by decide) (XS.iinc X691.here hx rfl (D d14_39) rfl (l' := #[rv so, rv (A 1), rv r_666, iv 5, iv 4, rv (A 4)]) rfl (XS.goto X691.here hx rfl (pc0 := 42) (pc' := 12) rfl (D d14_42) (by decide) (by decide) (XS.iload X691.here hx rfl (D d14_12) rfl (XS.iloadN X691.here hx rfl (D d14_14) rfl (XS.icmpNo X691.here hx rfl (D d14_15) rfl (tlt (by decide : (4 : Int32) < (5 : Int32))).2.1 (XS.aloadN X691.here hx rfl (D d14_18) rfl rfl (XS.iload X691.here hx rfl (D d14_19) rfl k)))))))))))))))))))))))) ?_
  obtain ⟨cl694, Ar694, qk694, S694, Ng694, H694, G694⟩ := id p666_1
  have hin694 := inb_of (j := (4 : Int32)) S694 ⟨by decide, by decide⟩
  obtain ⟨T695, X695, e695, st695⟩ := getF X691 hx hZ hown (host := "") (Or.inl (own_w hw (i := 93) rfl)) Via.refl e691 (Fld.ext O667 F_s_MAP_elementName) (g := (mkF m 26 #[rv so, rv (A 1), rv r_666, iv 5, iv 4, rv (A 5)] [(.ref (A 5))])) rfl rfl (D d14_26)
  obtain ⟨T696, v696, L696, X696, q696, st696⟩ := callVi X695 hx hZ (y := own_m17) (z := own_m17) hown (own_w hw (i := 95) rfl) (own_w hw (i := 96) rfl) (notFace_of_selects (args := #[]) (mvT hZ (own_w hw (i := 98) rfl))) (own_w hw (i := 98) rfl) (own_w hw (i := 97) rfl) (own_w hw (i := 99) rfl) (own_w hw (i := 2) rfl) (by decide) (rm_eqn_map hw G so sv kg n bs ((0 : Int32)) T666.heap O667 f673 f674 f675 f676 (prem8)) e695 (W := 0) (by decide) (by decide) (by decide) (by decide) (Exa.ext O667 E_s_MAP_elementName) (g := (mkF m 30 #[rv so, rv (A 1), rv r_666, iv 5, iv 4, rv (A 5)] [(.ref so), (.ref (A 14))])) rfl (by rw [hml]; rfl) (argsL := [(.ref so)]) (rest := []) (lenOf pd44 rfl) rfl rfl (Nat.le_of_eq rfl) (D d14_30)
  obtain ⟨rfl, e696, rfl⟩ := q696
  have N696 := Fr.app N691 (Fr.nil _)
  refine Go.of (T' := T696) (f' := (mkF m 46 #[rv so, rv (A 1), rv r_666, iv 5, iv 5, rv (A 5)] [(.ref (A 1))])) (fun _ k => X691.aaload hx (j := (4 : Int32)) (v := (.ref (A 5))) (by rw [e691]; exact Ar694.1) (State.isArrayOf_alike hZ.alike Ar694.2.1) rfl Ar694.2.2 hin694 (H694.at hin694 rfl) (g := (mkF m 21 #[rv so, rv (A 1), rv r_666, iv 5, iv 4, rv (A 4)] [(.int 4), (.ref r_666)])) rfl rfl (D d14_21) _ (XS.astore X691.here hx rfl (D d14_22) rfl rfl (l' := #[rv so, rv (A 1), rv r_666, iv 5, iv 4, rv (A 5)]) rfl (XS.aload X691.here hx rfl (D d14_24) rfl rfl (st695 _ (XS.aloadN X695.here hx rfl (D d14_29) rfl rfl (st696 _ (XS.ifYes X696.here hx rfl (pc0 := 33) (pc' := 39) rfl (D d14_33) rfl ((if0 _ _).trans (teq (by decide : (0 : Int32) = (0 : Int32))).1) (by decide) (by decide) (XS.iinc X696.here hx rfl (D d14_39) rfl (l' := #[rv so, rv (A 1), rv r_666, iv 5, iv 5, rv (A 5)]) rfl (XS.goto X696.here hx rfl (pc0 := 42) (pc' := 12) rfl (D d14_42) (by decide) (by decide) (XS.iload X696.here hx rfl (D d14_12) rfl (XS.iloadN X696.here hx rfl (D d14_14) rfl (XS.icmpYes X696.here hx rfl (pc0 := 15) (pc' := 45) rfl (D d14_15) rfl (flt (by decide : ¬ ((5 : Int32) < (5 : Int32)))).2.1 (by decide) (by decide) (XS.aloadN X696.here hx rfl (D d14_45) rfl rfl k))))))))))))) ?_
  exact Go.retA X696 hx hlk hret rfl rfl (D d14_46) (by decide) (by decide) (by rw [e696]; exact ⟨rfl, N696, K667⟩)
theorem ef_rm_named1 (m : MethodId) (so : Addr) : entryFrame m #[(.ref so)] 6 = mkF m 0 #[rv so, .unset, .unset, .unset, .unset, .unset] [] := by first | (simp [entryFrame, mkF, argsToLocals, Value.category]; done) | rfl
set_option maxRecDepth 65536 in
set_option maxHeartbeats 40000000 in
theorem rm_named1 {l : Launch} {Z : State} {a0 : Array Value} {A : Nat → Addr} {KC : Nat → Cell} {IC : Nat → Int32} {VC : Nat → Value} (hw : ∀ d ∈ tables_1, d.before a0 Z = true) (G : own_Ctx Z A KC IC VC) (so : Addr) (sv : Addr) (kg : ClassId) (n : Int32) (bs : List Int32) (h0 : Heap) (O0 : Ext Z.heap h0) (prem0 : Exa Z h0 so "java/lang/String") (prem1 : Fld Z h0 so "java/lang/String" "value" "[B" (.ref sv)) (prem2 : Fld Z h0 so "java/lang/String" "coder" "B" (.int (0 : Int32))) (prem3 : Arv Z h0 sv kg .byte n (bs.map Value.int) (.int (0 : Int32))) (prem4 : own_eq_set n bs = 0) (prem5 : own_eq_list n bs = 1) (prem6 : own_eq_bag n bs = 0) (prem7 : own_eq_idbag n bs = 0) (prem8 : own_eq_map n bs = 0) :
    Ok l Z own_m45 prog_70_method_5_code 6 (some (.object "com/example/cascade_mapper/cascademapper/model/CollectionForm")) ({ frames := 2, cells := 1, slots := 5, locals := 28 } : Room) #[(.ref so)] h0
      (fun v h L => v = some (.ref (A 2)) ∧ (Fr Z.heap.size L) ∧ (Keep h0 h [])) := by
  refine Ok.mk pn46 ?_
  intro p e s m below meth c T0 hx hby hml hown hnm hret hlk hZ e0 X0
  refine Go.cast (ef_rm_named1 m so) ?_
  obtain ⟨-, -, -, -, -, -, -, -, -, -, -, -, F_s_SET_elementName, E_s_SET_elementName, -, -, F_s_LIST_elementName, E_s_LIST_elementName, -, -, F_s_BAG_elementName, E_s_BAG_elementName, -, -, F_s_IDBAG_elementName, E_s_IDBAG_elementName, -, -, F_s_MAP_elementName, E_s_MAP_elementName, -⟩ := id G
  have D := @hb _ _ hby
  have N0 := Fr.nil Z.heap.size
  have K0 : Keep h0 h0 [] := Keep.refl _ _
  obtain ⟨T699, v699, L699, X699, q699, st699⟩ := callSt X0 hx hZ (y := own_m41) hown (own_w hw (i := 73) rfl) (own_w hw (i := 74) rfl) (own_w hw (i := 71) rfl) (own_w hw (i := 75) rfl) (by decide) (rm_values hw G   h0 O0 ) e0 (W := 0) (by decide) (by decide) (by decide) (by decide) (g := (mkF m 2 #[rv so, .val .null, .unset, .unset, .unset, .unset] [])) rfl (by rw [hml]; rfl) (argsL := []) (rest := []) (lenOf pd43 rfl) rfl rfl (Nat.le_of_eq rfl) (D d14_2)
  obtain ⟨r_699, rfl, N699q, K699q, p699_0, p699_1, p699_2⟩ := q699
  have N699 := Fr.app N0 N699q
  have O700 := Old0.keep O0 K699q all0
  have K700 := Keep.trans K0 K699q all0
  have z_r_699 : h0.size ≤ r_699 := Nat.le_trans K0.1 p699_0
  have g_r_699 : Z.heap.size ≤ r_699 := Nat.le_trans O0.1 p699_0
  have ne_so_r_699 : so ≠ r_699 := Nat.ne_of_lt (Nat.lt_of_lt_of_le prem0.lt p699_0)
  have ne_sv_r_699 : sv ≠ r_699 := Nat.ne_of_lt (Nat.lt_of_lt_of_le prem3.lt p699_0)
  obtain ⟨cl701, Ar701, qk701, S701, Ng701, H701, G701⟩ := id p699_1
  obtain ⟨cl703, Ar703, qk703, S703, Ng703, H703, G703⟩ := id p699_1
  have hin703 := inb_of (j := (0 : Int32)) S703 ⟨by decide, by decide⟩
  obtain ⟨T704, X704, e704, st704⟩ := getF X699 hx hZ hown (host := "") (Or.inl (own_w hw (i := 93) rfl)) Via.refl rfl (Fld.ext O700 F_s_SET_elementName) (g := (mkF m 26 #[rv so, .val .null, rv r_699, iv 5, iv 0, rv (A 1)] [(.ref (A 1))])) rfl rfl (D d14_26)
  have f706 : Exa Z T699.heap so "java/lang/String" := (Exa.keep prem0 K699q)
  have f707 : Fld Z T699.heap so "java/lang/String" "value" "[B" (.ref sv) := (Fld.keep prem1 K699q nin0)
  have f708 : Fld Z T699.heap so "java/lang/String" "coder" "B" (.int 0) := (Fld.keep prem2 K699q nin0)
  have f709 : Arv Z T699.heap sv kg .byte n (bs.map Value.int) (.int 0) := (Arv.keep prem3 K699q nin0)
  obtain ⟨T705, v705, L705, X705, q705, st705⟩ := callVi X704 hx hZ (y := own_m17) (z := own_m17) hown (own_w hw (i := 95) rfl) (own_w hw (i := 96) rfl) (notFace_of_selects (args := #[]) (mvT hZ (own_w hw (i := 98) rfl))) (own_w hw (i := 98) rfl) (own_w hw (i := 97) rfl) (own_w hw (i := 99) rfl) (own_w hw (i := 2) rfl) (by decide) (rm_eqn_set hw G so sv kg n bs ((0 : Int32)) T699.heap O700 f706 f707 f708 f709 (prem4)) e704 (W := 0) (by decide) (by decide) (by decide) (by decide) (Exa.ext O700 E_s_SET_elementName) (g := (mkF m 30 #[rv so, .val .null, rv r_699, iv 5, iv 0, rv (A 1)] [(.ref so), (.ref (A 6))])) rfl (by rw [hml]; rfl) (argsL := [(.ref so)]) (rest := []) (lenOf pd44 rfl) rfl rfl (Nat.le_of_eq rfl) (D d14_30)
  obtain ⟨rfl, e705, rfl⟩ := q705
  have N705 := Fr.app N699 (Fr.nil _)
  refine Go.of (T' := T705) (f' := (mkF m 14 #[rv so, .val .null, rv r_699, iv 5, iv 1, rv (A 1)] [(.int 1)])) (fun _ k => XS.aconstNull X0.here hx rfl (D d14_0) (XS.astoreN X0.here hx rfl (D d14_1) rfl rfl (l' := #[rv so, .val .null, .unset, .unset, .unset, .unset]) rfl (st699 _ (XS.astoreN X699.here hx rfl (D d14_5) rfl rfl (l' := #[rv so, .val .null, rv r_699, .unset, .unset, .unset]) rfl (XS.aloadN X699.here hx rfl (D d14_6) rfl rfl (X699.arraylength hx Ar701.1 (State.isArrayOf_alike hZ.alike Ar701.2.1) (g := (mkF m 7 #[rv so, .val .null, rv r_699, .unset, .unset, .unset] [(.ref r_699)])) rfl rfl (D d14_7) _ (by rw [len_of S701 Ng701]; exact (XS.istoreN X699.here hx rfl (D d14_8) rfl (l' := #[rv so, .val .null, rv r_699, iv 5, .unset, .unset]) rfl (XS.iconst X699.here hx rfl (D d14_9) (XS.istore X699.here hx rfl (D d14_10) rfl (l' := #[rv so, .val .null, rv r_699, iv 5, iv 0, .unset]) rfl (XS.iload X699.here hx rfl (D d14_12) rfl (XS.iloadN X699.here hx rfl (D d14_14) rfl (XS.icmpNo X699.here hx rfl (D d14_15) rfl (tlt (by decide : (0 : Int32) < (5 : Int32))).2.1 (XS.aloadN X699.here hx rfl (D d14_18) rfl rfl (XS.iload X699.here hx rfl (D d14_19) rfl (X699.aaload hx (j := (0 : Int32)) (v := (.ref (A 1))) Ar703.1 (State.isArrayOf_alike hZ.alike Ar703.2.1) rfl Ar703.2.2 hin703 (H703.at hin703 rfl) (g := (mkF m 21 #[rv so, .val .null, rv r_699, iv 5, iv 0, .unset] [(.int 0), (.ref r_699)])) rfl rfl (D d14_21) _ (XS.astore X699.here hx rfl (D d14_22) rfl rfl (l' := #[rv so, .val .null, rv r_699, iv 5, iv 0, rv (A 1)]) rfl (XS.aload X699.here hx rfl (D d14_24) rfl rfl (st704 _ (XS.aloadN X704.here hx rfl (D d14_29) rfl rfl (st705 _ (XS.ifYes X705.here hx rfl (pc0 := 33) (pc' := 39) rfl (D d14_33) rfl ((if0 _ _).trans (teq (by decide : (0 : Int32) = (0 : Int32))).1) (by decide) (by decide) (XS.iinc X705.here hx rfl (D d14_39) rfl (l' := #[rv so, .val .null, rv r_699, iv 5, iv 1, rv (A 1)]) rfl (XS.goto X705.here hx rfl (pc0 := 42) (pc' := 12) rfl (D d14_42) (by decide) (by decide) (XS.iload X705.here hx rfl (D d14_12) rfl k))))))))))))))))))))))))) ?_
  obtain ⟨cl712, Ar712, qk712, S712, Ng712, H712, G712⟩ := id p699_1
  have hin712 := inb_of (j := (1 : Int32)) S712 ⟨by decide, by decide⟩
  obtain ⟨T713, X713, e713, st713⟩ := getF X705 hx hZ hown (host := "") (Or.inl (own_w hw (i := 93) rfl)) Via.refl e705 (Fld.ext O700 F_s_LIST_elementName) (g := (mkF m 26 #[rv so, .val .null, rv r_699, iv 5, iv 1, rv (A 2)] [(.ref (A 2))])) rfl rfl (D d14_26)
  obtain ⟨T714, v714, L714, X714, q714, st714⟩ := callVi X713 hx hZ (y := own_m17) (z := own_m17) hown (own_w hw (i := 95) rfl) (own_w hw (i := 96) rfl) (notFace_of_selects (args := #[]) (mvT hZ (own_w hw (i := 98) rfl))) (own_w hw (i := 98) rfl) (own_w hw (i := 97) rfl) (own_w hw (i := 99) rfl) (own_w hw (i := 2) rfl) (by decide) (rm_eqn_list hw G so sv kg n bs ((1 : Int32)) T699.heap O700 f706 f707 f708 f709 (prem5)) e713 (W := 0) (by decide) (by decide) (by decide) (by decide) (Exa.ext O700 E_s_LIST_elementName) (g := (mkF m 30 #[rv so, .val .null, rv r_699, iv 5, iv 1, rv (A 2)] [(.ref so), (.ref (A 8))])) rfl (by rw [hml]; rfl) (argsL := [(.ref so)]) (rest := []) (lenOf pd44 rfl) rfl rfl (Nat.le_of_eq rfl) (D d14_30)
  obtain ⟨rfl, e714, rfl⟩ := q714
  have N714 := Fr.app N705 (Fr.nil _)
  obtain ⟨cl717, Ar717, qk717, S717, Ng717, H717, G717⟩ := id p699_1
  have hin717 := inb_of (j := (2 : Int32)) S717 ⟨by decide, by decide⟩
  obtain ⟨T718, X718, e718, st718⟩ := getF X714 hx hZ hown (host := "") (Or.inl (own_w hw (i := 93) rfl)) Via.refl e714 (Fld.ext O700 F_s_BAG_elementName) (g := (mkF m 26 #[rv so, rv (A 2), rv r_699, iv 5, iv 2, rv (A 3)] [(.ref (A 3))])) rfl rfl (D d14_26)
  refine Go.of (T' := T718) (f' := (mkF m 29 #[rv so, rv (A 2), rv r_699, iv 5, iv 2, rv (A 3)] [(.ref (A 10))])) (fun _ k => XS.iloadN X705.here hx rfl (D d14_14) rfl (XS.icmpNo X705.here hx rfl (D d14_15) rfl (tlt (by decide : (1 : Int32) < (5 : Int32))).2.1 (XS.aloadN X705.here hx rfl (D d14_18) rfl rfl (XS.iload X705.here hx rfl (D d14_19) rfl (X705.aaload hx (j := (1 : Int32)) (v := (.ref (A 2))) (by rw [e705]; exact Ar712.1) (State.isArrayOf_alike hZ.alike Ar712.2.1) rfl Ar712.2.2 hin712 (H712.at hin712 rfl) (g := (mkF m 21 #[rv so, .val .null, rv r_699, iv 5, iv 1, rv (A 1)] [(.int 1), (.ref r_699)])) rfl rfl (D d14_21) _ (XS.astore X705.here hx rfl (D d14_22) rfl rfl (l' := #[rv so, .val .null, rv r_699, iv 5, iv 1, rv (A 2)]) rfl (XS.aload X705.here hx rfl (D d14_24) rfl rfl (st713 _ (XS.aloadN X713.here hx rfl (D d14_29) rfl rfl (st714 _ (XS.ifNo X714.here hx rfl (D d14_33) rfl ((if0 _ _).trans (feq (by decide : ¬ ((1 : Int32) = (0 : Int32)))).1) (XS.aload X714.here hx rfl (D d14_36) rfl rfl (XS.astoreN X714.here hx rfl (D d14_38) rfl rfl (l' := #[rv so, rv (A 2), rv r_699, iv 5, iv 1, rv (A 2)]) rfl (XS.iinc X714.here hx rfl (D d14_39) rfl (l' := #[rv so, rv (A 2), rv r_699, iv 5, iv 2, rv (A 2)]) rfl (XS.goto X714.here hx rfl (pc0 := 42) (pc' := 12) rfl (D d14_42) (by decide) (by decide) (XS.iload X714.here hx rfl (D d14_12) rfl (XS.iloadN X714.here hx rfl (D d14_14) rfl (XS.icmpNo X714.here hx rfl (D d14_15) rfl (tlt (by decide : (2 : Int32) < (5 : Int32))).2.1 (XS.aloadN X714.here hx rfl (D d14_18) rfl rfl (XS.iload X714.here hx rfl (D d14_19) rfl (X714.aaload hx (j := (2 : Int32)) (v := (.ref (A 3))) (by rw [e714]; exact Ar717.1) (State.isArrayOf_alike hZ.alike Ar717.2.1) rfl Ar717.2.2 hin717 (H717.at hin717 rfl) (g := (mkF m 21 #[rv so, rv (A 2), rv r_699, iv 5, iv 2, rv (A 2)] [(.int 2), (.ref r_699)])) rfl rfl (D d14_21) _ (XS.astore X714.here hx rfl (D d14_22) rfl rfl (l' := #[rv so, rv (A 2), rv r_699, iv 5, iv 2, rv (A 3)]) rfl (XS.aload X714.here hx rfl (D d14_24) rfl rfl (st718 _ k)))))))))))))))))))))))) ?_
  obtain ⟨T719, v719, L719, X719, q719, st719⟩ := callVi X718 hx hZ (y := own_m17) (z := own_m17) hown (own_w hw (i := 95) rfl) (own_w hw (i := 96) rfl) (notFace_of_selects (args := #[]) (mvT hZ (own_w hw (i := 98) rfl))) (own_w hw (i := 98) rfl) (own_w hw (i := 97) rfl) (own_w hw (i := 99) rfl) (own_w hw (i := 2) rfl) (by decide) (rm_eqn_bag hw G so sv kg n bs ((0 : Int32)) T699.heap O700 f706 f707 f708 f709 (prem6)) e718 (W := 0) (by decide) (by decide) (by decide) (by decide) (Exa.ext O700 E_s_BAG_elementName) (g := (mkF m 30 #[rv so, rv (A 2), rv r_699, iv 5, iv 2, rv (A 3)] [(.ref so), (.ref (A 10))])) rfl (by rw [hml]; rfl) (argsL := [(.ref so)]) (rest := []) (lenOf pd44 rfl) rfl rfl (Nat.le_of_eq rfl) (D d14_30)
  obtain ⟨rfl, e719, rfl⟩ := q719
  have N719 := Fr.app N714 (Fr.nil _)
  obtain ⟨cl722, Ar722, qk722, S722, Ng722, H722, G722⟩ := id p699_1
  have hin722 := inb_of (j := (3 : Int32)) S722 ⟨by decide, by decide⟩
  obtain ⟨T723, X723, e723, st723⟩ := getF X719 hx hZ hown (host := "") (Or.inl (own_w hw (i := 93) rfl)) Via.refl e719 (Fld.ext O700 F_s_IDBAG_elementName) (g := (mkF m 26 #[rv so, rv (A 2), rv r_699, iv 5, iv 3, rv (A 4)] [(.ref (A 4))])) rfl rfl (D d14_26)
  obtain ⟨T724, v724, L724, X724, q724, st724⟩ := callVi X723 hx hZ (y := own_m17) (z := own_m17) hown (own_w hw (i := 95) rfl) (own_w hw (i := 96) rfl) (notFace_of_selects (args := #[]) (mvT hZ (own_w hw (i := 98) rfl))) (own_w hw (i := 98) rfl) (own_w hw (i := 97) rfl) (own_w hw (i := 99) rfl) (own_w hw (i := 2) rfl) (by decide) (rm_eqn_idbag hw G so sv kg n bs ((0 : Int32)) T699.heap O700 f706 f707 f708 f709 (prem7)) e723 (W := 0) (by decide) (by decide) (by decide) (by decide) (Exa.ext O700 E_s_IDBAG_elementName) (g := (mkF m 30 #[rv so, rv (A 2), rv r_699, iv 5, iv 3, rv (A 4)] [(.ref so), (.ref (A 12))])) rfl (by rw [hml]; rfl) (argsL := [(.ref so)]) (rest := []) (lenOf pd44 rfl) rfl rfl (Nat.le_of_eq rfl) (D d14_30)
  obtain ⟨rfl, e724, rfl⟩ := q724
  have N724 := Fr.app N719 (Fr.nil _)
  refine Go.of (T' := T724) (f' := (mkF m 21 #[rv so, rv (A 2), rv r_699, iv 5, iv 4, rv (A 4)] [(.int 4), (.ref r_699)])) (fun _ k => XS.aloadN X718.here hx rfl (D d14_29) rfl rfl (st719 _ (XS.ifYes X719.here hx rfl (pc0 := 33) (pc' := 39) rfl (D d14_33) rfl ((if0 _ _).trans (teq (by decide : (0 : Int32) = (0 : Int32))).1) (by decide) (by decide) (XS.iinc X719.here hx rfl (D d14_39) rfl (l' := #[rv so, rv (A 2), rv r_699, iv 5, iv 3, rv (A 3)]) rfl (XS.goto X719.here hx rfl (pc0 := 42) (pc' := 12) rfl (D d14_42) (by decide) (by decide) (XS.iload X719.here hx rfl (D d14_12) rfl (XS.iloadN X719.here hx rfl (D d14_14) rfl (XS.icmpNo X719.here hx rfl (D d14_15) rfl (tlt (by decide : (3 : Int32) < (5 : Int32))).2.1 (XS.aloadN X719.here hx rfl (D d14_18) rfl rfl (XS.iload X719.here hx rfl (D d14_19) rfl (X719.aaload hx (j := (3 : Int32)) (v := (.ref (A 4))) (by rw [e719]; exact Ar722.1) (State.isArrayOf_alike hZ.alike Ar722.2.1) rfl Ar722.2.2 hin722 (H722.at hin722 rfl) (g := (mkF m 21 #[rv so, rv (A 2), rv r_699, iv 5, iv 3, rv (A 3)] [(.int 3), (.ref r_699)])) rfl rfl (D d14_21) _ (XS.astore X719.here hx rfl (D d14_22) rfl rfl (l' := #[rv so, rv (A 2), rv r_699, iv 5, iv 3, rv (A 4)]) rfl (XS.aload X719.here hx rfl (D d14_24) rfl rfl (st723 _ (XS.aloadN X723.here hx rfl (D d14_29) rfl rfl (st724 _ (XS.ifYes X724.here hx rfl (pc0 := 33) (pc' := 39) rfl (D d14_33) rfl ((if0 _ _).trans (teq (by decide : (0 : Int32) = (0 : Int32))).1) (by decide) (by decide) (XS.iinc X724.here hx rfl (D d14_39) rfl (l' := #[rv so, rv (A 2), rv r_699, iv 5, iv 4, rv (A 4)]) rfl (XS.goto X724.here hx rfl (pc0 := 42) (pc' := 12) rfl (D d14_42) (by decide) (by decide) (XS.iload X724.here hx rfl (D d14_12) rfl (XS.iloadN X724.here hx rfl (D d14_14) rfl (XS.icmpNo X724.here hx rfl (D d14_15) rfl (tlt (by decide : (4 : Int32) < (5 : Int32))).2.1 (XS.aloadN X724.here hx rfl (D d14_18) rfl rfl (XS.iload X724.here hx rfl (D d14_19) rfl k)))))))))))))))))))))))) ?_
  obtain ⟨cl727, Ar727, qk727, S727, Ng727, H727, G727⟩ := id p699_1
  have hin727 := inb_of (j := (4 : Int32)) S727 ⟨by decide, by decide⟩
  obtain ⟨T728, X728, e728, st728⟩ := getF X724 hx hZ hown (host := "") (Or.inl (own_w hw (i := 93) rfl)) Via.refl e724 (Fld.ext O700 F_s_MAP_elementName) (g := (mkF m 26 #[rv so, rv (A 2), rv r_699, iv 5, iv 4, rv (A 5)] [(.ref (A 5))])) rfl rfl (D d14_26)
  obtain ⟨T729, v729, L729, X729, q729, st729⟩ := callVi X728 hx hZ (y := own_m17) (z := own_m17) hown (own_w hw (i := 95) rfl) (own_w hw (i := 96) rfl) (notFace_of_selects (args := #[]) (mvT hZ (own_w hw (i := 98) rfl))) (own_w hw (i := 98) rfl) (own_w hw (i := 97) rfl) (own_w hw (i := 99) rfl) (own_w hw (i := 2) rfl) (by decide) (rm_eqn_map hw G so sv kg n bs ((0 : Int32)) T699.heap O700 f706 f707 f708 f709 (prem8)) e728 (W := 0) (by decide) (by decide) (by decide) (by decide) (Exa.ext O700 E_s_MAP_elementName) (g := (mkF m 30 #[rv so, rv (A 2), rv r_699, iv 5, iv 4, rv (A 5)] [(.ref so), (.ref (A 14))])) rfl (by rw [hml]; rfl) (argsL := [(.ref so)]) (rest := []) (lenOf pd44 rfl) rfl rfl (Nat.le_of_eq rfl) (D d14_30)
  obtain ⟨rfl, e729, rfl⟩ := q729
  have N729 := Fr.app N724 (Fr.nil _)
  refine Go.of (T' := T729) (f' := (mkF m 46 #[rv so, rv (A 2), rv r_699, iv 5, iv 5, rv (A 5)] [(.ref (A 2))])) (fun _ k => X724.aaload hx (j := (4 : Int32)) (v := (.ref (A 5))) (by rw [e724]; exact Ar727.1) (State.isArrayOf_alike hZ.alike Ar727.2.1) rfl Ar727.2.2 hin727 (H727.at hin727 rfl) (g := (mkF m 21 #[rv so, rv (A 2), rv r_699, iv 5, iv 4, rv (A 4)] [(.int 4), (.ref r_699)])) rfl rfl (D d14_21) _ (XS.astore X724.here hx rfl (D d14_22) rfl rfl (l' := #[rv so, rv (A 2), rv r_699, iv 5, iv 4, rv (A 5)]) rfl (XS.aload X724.here hx rfl (D d14_24) rfl rfl (st728 _ (XS.aloadN X728.here hx rfl (D d14_29) rfl rfl (st729 _ (XS.ifYes X729.here hx rfl (pc0 := 33) (pc' := 39) rfl (D d14_33) rfl ((if0 _ _).trans (teq (by decide : (0 : Int32) = (0 : Int32))).1) (by decide) (by decide) (XS.iinc X729.here hx rfl (D d14_39) rfl (l' := #[rv so, rv (A 2), rv r_699, iv 5, iv 5, rv (A 5)]) rfl (XS.goto X729.here hx rfl (pc0 := 42) (pc' := 12) rfl (D d14_42) (by decide) (by decide) (XS.iload X729.here hx rfl (D d14_12) rfl (XS.iloadN X729.here hx rfl (D d14_14) rfl (XS.icmpYes X729.here hx rfl (pc0 := 15) (pc' := 45) rfl (D d14_15) rfl (flt (by decide : ¬ ((5 : Int32) < (5 : Int32)))).2.1 (by decide) (by decide) (XS.aloadN X729.here hx rfl (D d14_45) rfl rfl k))))))))))))) ?_
  exact Go.retA X729 hx hlk hret rfl rfl (D d14_46) (by decide) (by decide) (by rw [e729]; exact ⟨rfl, N729, K700⟩)
theorem ef_rm_named2 (m : MethodId) (so : Addr) : entryFrame m #[(.ref so)] 6 = mkF m 0 #[rv so, .unset, .unset, .unset, .unset, .unset] [] := by first | (simp [entryFrame, mkF, argsToLocals, Value.category]; done) | rfl
set_option maxRecDepth 65536 in
set_option maxHeartbeats 40000000 in
theorem rm_named2 {l : Launch} {Z : State} {a0 : Array Value} {A : Nat → Addr} {KC : Nat → Cell} {IC : Nat → Int32} {VC : Nat → Value} (hw : ∀ d ∈ tables_1, d.before a0 Z = true) (G : own_Ctx Z A KC IC VC) (so : Addr) (sv : Addr) (kg : ClassId) (n : Int32) (bs : List Int32) (h0 : Heap) (O0 : Ext Z.heap h0) (prem0 : Exa Z h0 so "java/lang/String") (prem1 : Fld Z h0 so "java/lang/String" "value" "[B" (.ref sv)) (prem2 : Fld Z h0 so "java/lang/String" "coder" "B" (.int (0 : Int32))) (prem3 : Arv Z h0 sv kg .byte n (bs.map Value.int) (.int (0 : Int32))) (prem4 : own_eq_set n bs = 0) (prem5 : own_eq_list n bs = 0) (prem6 : own_eq_bag n bs = 1) (prem7 : own_eq_idbag n bs = 0) (prem8 : own_eq_map n bs = 0) :
    Ok l Z own_m45 prog_70_method_5_code 6 (some (.object "com/example/cascade_mapper/cascademapper/model/CollectionForm")) ({ frames := 2, cells := 1, slots := 5, locals := 28 } : Room) #[(.ref so)] h0
      (fun v h L => v = some (.ref (A 3)) ∧ (Fr Z.heap.size L) ∧ (Keep h0 h [])) := by
  refine Ok.mk pn46 ?_
  intro p e s m below meth c T0 hx hby hml hown hnm hret hlk hZ e0 X0
  refine Go.cast (ef_rm_named2 m so) ?_
  obtain ⟨-, -, -, -, -, -, -, -, -, -, -, -, F_s_SET_elementName, E_s_SET_elementName, -, -, F_s_LIST_elementName, E_s_LIST_elementName, -, -, F_s_BAG_elementName, E_s_BAG_elementName, -, -, F_s_IDBAG_elementName, E_s_IDBAG_elementName, -, -, F_s_MAP_elementName, E_s_MAP_elementName, -⟩ := id G
  have D := @hb _ _ hby
  have N0 := Fr.nil Z.heap.size
  have K0 : Keep h0 h0 [] := Keep.refl _ _
  obtain ⟨T732, v732, L732, X732, q732, st732⟩ := callSt X0 hx hZ (y := own_m41) hown (own_w hw (i := 73) rfl) (own_w hw (i := 74) rfl) (own_w hw (i := 71) rfl) (own_w hw (i := 75) rfl) (by decide) (rm_values hw G   h0 O0 ) e0 (W := 0) (by decide) (by decide) (by decide) (by decide) (g := (mkF m 2 #[rv so, .val .null, .unset, .unset, .unset, .unset] [])) rfl (by rw [hml]; rfl) (argsL := []) (rest := []) (lenOf pd43 rfl) rfl rfl (Nat.le_of_eq rfl) (D d14_2)
  obtain ⟨r_732, rfl, N732q, K732q, p732_0, p732_1, p732_2⟩ := q732
  have N732 := Fr.app N0 N732q
  have O733 := Old0.keep O0 K732q all0
  have K733 := Keep.trans K0 K732q all0
  have z_r_732 : h0.size ≤ r_732 := Nat.le_trans K0.1 p732_0
  have g_r_732 : Z.heap.size ≤ r_732 := Nat.le_trans O0.1 p732_0
  have ne_so_r_732 : so ≠ r_732 := Nat.ne_of_lt (Nat.lt_of_lt_of_le prem0.lt p732_0)
  have ne_sv_r_732 : sv ≠ r_732 := Nat.ne_of_lt (Nat.lt_of_lt_of_le prem3.lt p732_0)
  obtain ⟨cl734, Ar734, qk734, S734, Ng734, H734, G734⟩ := id p732_1
  obtain ⟨cl736, Ar736, qk736, S736, Ng736, H736, G736⟩ := id p732_1
  have hin736 := inb_of (j := (0 : Int32)) S736 ⟨by decide, by decide⟩
  obtain ⟨T737, X737, e737, st737⟩ := getF X732 hx hZ hown (host := "") (Or.inl (own_w hw (i := 93) rfl)) Via.refl rfl (Fld.ext O733 F_s_SET_elementName) (g := (mkF m 26 #[rv so, .val .null, rv r_732, iv 5, iv 0, rv (A 1)] [(.ref (A 1))])) rfl rfl (D d14_26)
  have f739 : Exa Z T732.heap so "java/lang/String" := (Exa.keep prem0 K732q)
  have f740 : Fld Z T732.heap so "java/lang/String" "value" "[B" (.ref sv) := (Fld.keep prem1 K732q nin0)
  have f741 : Fld Z T732.heap so "java/lang/String" "coder" "B" (.int 0) := (Fld.keep prem2 K732q nin0)
  have f742 : Arv Z T732.heap sv kg .byte n (bs.map Value.int) (.int 0) := (Arv.keep prem3 K732q nin0)
  obtain ⟨T738, v738, L738, X738, q738, st738⟩ := callVi X737 hx hZ (y := own_m17) (z := own_m17) hown (own_w hw (i := 95) rfl) (own_w hw (i := 96) rfl) (notFace_of_selects (args := #[]) (mvT hZ (own_w hw (i := 98) rfl))) (own_w hw (i := 98) rfl) (own_w hw (i := 97) rfl) (own_w hw (i := 99) rfl) (own_w hw (i := 2) rfl) (by decide) (rm_eqn_set hw G so sv kg n bs ((0 : Int32)) T732.heap O733 f739 f740 f741 f742 (prem4)) e737 (W := 0) (by decide) (by decide) (by decide) (by decide) (Exa.ext O733 E_s_SET_elementName) (g := (mkF m 30 #[rv so, .val .null, rv r_732, iv 5, iv 0, rv (A 1)] [(.ref so), (.ref (A 6))])) rfl (by rw [hml]; rfl) (argsL := [(.ref so)]) (rest := []) (lenOf pd44 rfl) rfl rfl (Nat.le_of_eq rfl) (D d14_30)
  obtain ⟨rfl, e738, rfl⟩ := q738
  have N738 := Fr.app N732 (Fr.nil _)
  refine Go.of (T' := T738) (f' := (mkF m 14 #[rv so, .val .null, rv r_732, iv 5, iv 1, rv (A 1)] [(.int 1)])) (fun _ k => XS.aconstNull X0.here hx rfl (D d14_0) (XS.astoreN X0.here hx rfl (D d14_1) rfl rfl (l' := #[rv so, .val .null, .unset, .unset, .unset, .unset]) rfl (st732 _ (XS.astoreN X732.here hx rfl (D d14_5) rfl rfl (l' := #[rv so, .val .null, rv r_732, .unset, .unset, .unset]) rfl (XS.aloadN X732.here hx rfl (D d14_6) rfl rfl (X732.arraylength hx Ar734.1 (State.isArrayOf_alike hZ.alike Ar734.2.1) (g := (mkF m 7 #[rv so, .val .null, rv r_732, .unset, .unset, .unset] [(.ref r_732)])) rfl rfl (D d14_7) _ (by rw [len_of S734 Ng734]; exact (XS.istoreN X732.here hx rfl (D d14_8) rfl (l' := #[rv so, .val .null, rv r_732, iv 5, .unset, .unset]) rfl (XS.iconst X732.here hx rfl (D d14_9) (XS.istore X732.here hx rfl (D d14_10) rfl (l' := #[rv so, .val .null, rv r_732, iv 5, iv 0, .unset]) rfl (XS.iload X732.here hx rfl (D d14_12) rfl (XS.iloadN X732.here hx rfl (D d14_14) rfl (XS.icmpNo X732.here hx rfl (D d14_15) rfl (tlt (by decide : (0 : Int32) < (5 : Int32))).2.1 (XS.aloadN X732.here hx rfl (D d14_18) rfl rfl (XS.iload X732.here hx rfl (D d14_19) rfl (X732.aaload hx (j := (0 : Int32)) (v := (.ref (A 1))) Ar736.1 (State.isArrayOf_alike hZ.alike Ar736.2.1) rfl Ar736.2.2 hin736 (H736.at hin736 rfl) (g := (mkF m 21 #[rv so, .val .null, rv r_732, iv 5, iv 0, .unset] [(.int 0), (.ref r_732)])) rfl rfl (D d14_21) _ (XS.astore X732.here hx rfl (D d14_22) rfl rfl (l' := #[rv so, .val .null, rv r_732, iv 5, iv 0, rv (A 1)]) rfl (XS.aload X732.here hx rfl (D d14_24) rfl rfl (st737 _ (XS.aloadN X737.here hx rfl (D d14_29) rfl rfl (st738 _ (XS.ifYes X738.here hx rfl (pc0 := 33) (pc' := 39) rfl (D d14_33) rfl ((if0 _ _).trans (teq (by decide : (0 : Int32) = (0 : Int32))).1) (by decide) (by decide) (XS.iinc X738.here hx rfl (D d14_39) rfl (l' := #[rv so, .val .null, rv r_732, iv 5, iv 1, rv (A 1)]) rfl (XS.goto X738.here hx rfl (pc0 := 42) (pc' := 12) rfl (D d14_42) (by decide) (by decide) (XS.iload X738.here hx rfl (D d14_12) rfl k))))))))))))))))))))))))) ?_
  obtain ⟨cl745, Ar745, qk745, S745, Ng745, H745, G745⟩ := id p732_1
  have hin745 := inb_of (j := (1 : Int32)) S745 ⟨by decide, by decide⟩
  obtain ⟨T746, X746, e746, st746⟩ := getF X738 hx hZ hown (host := "") (Or.inl (own_w hw (i := 93) rfl)) Via.refl e738 (Fld.ext O733 F_s_LIST_elementName) (g := (mkF m 26 #[rv so, .val .null, rv r_732, iv 5, iv 1, rv (A 2)] [(.ref (A 2))])) rfl rfl (D d14_26)
  obtain ⟨T747, v747, L747, X747, q747, st747⟩ := callVi X746 hx hZ (y := own_m17) (z := own_m17) hown (own_w hw (i := 95) rfl) (own_w hw (i := 96) rfl) (notFace_of_selects (args := #[]) (mvT hZ (own_w hw (i := 98) rfl))) (own_w hw (i := 98) rfl) (own_w hw (i := 97) rfl) (own_w hw (i := 99) rfl) (own_w hw (i := 2) rfl) (by decide) (rm_eqn_list hw G so sv kg n bs ((0 : Int32)) T732.heap O733 f739 f740 f741 f742 (prem5)) e746 (W := 0) (by decide) (by decide) (by decide) (by decide) (Exa.ext O733 E_s_LIST_elementName) (g := (mkF m 30 #[rv so, .val .null, rv r_732, iv 5, iv 1, rv (A 2)] [(.ref so), (.ref (A 8))])) rfl (by rw [hml]; rfl) (argsL := [(.ref so)]) (rest := []) (lenOf pd44 rfl) rfl rfl (Nat.le_of_eq rfl) (D d14_30)
  obtain ⟨rfl, e747, rfl⟩ := q747
  have N747 := Fr.app N738 (Fr.nil _)
  obtain ⟨cl750, Ar750, qk750, S750, Ng750, H750, G750⟩ := id p732_1
  have hin750 := inb_of (j := (2 : Int32)) S750 ⟨by decide, by decide⟩
  obtain ⟨T751, X751, e751, st751⟩ := getF X747 hx hZ hown (host := "") (Or.inl (own_w hw (i := 93) rfl)) Via.refl e747 (Fld.ext O733 F_s_BAG_elementName) (g := (mkF m 26 #[rv so, .val .null, rv r_732, iv 5, iv 2, rv (A 3)] [(.ref (A 3))])) rfl rfl (D d14_26)
  obtain ⟨T752, v752, L752, X752, q752, st752⟩ := callVi X751 hx hZ (y := own_m17) (z := own_m17) hown (own_w hw (i := 95) rfl) (own_w hw (i := 96) rfl) (notFace_of_selects (args := #[]) (mvT hZ (own_w hw (i := 98) rfl))) (own_w hw (i := 98) rfl) (own_w hw (i := 97) rfl) (own_w hw (i := 99) rfl) (own_w hw (i := 2) rfl) (by decide) (rm_eqn_bag hw G so sv kg n bs ((1 : Int32)) T732.heap O733 f739 f740 f741 f742 (prem6)) e751 (W := 0) (by decide) (by decide) (by decide) (by decide) (Exa.ext O733 E_s_BAG_elementName) (g := (mkF m 30 #[rv so, .val .null, rv r_732, iv 5, iv 2, rv (A 3)] [(.ref so), (.ref (A 10))])) rfl (by rw [hml]; rfl) (argsL := [(.ref so)]) (rest := []) (lenOf pd44 rfl) rfl rfl (Nat.le_of_eq rfl) (D d14_30)
  obtain ⟨rfl, e752, rfl⟩ := q752
  have N752 := Fr.app N747 (Fr.nil _)
  refine Go.of (T' := T752) (f' := (mkF m 33 #[rv so, .val .null, rv r_732, iv 5, iv 2, rv (A 3)] [(.int 1)])) (fun _ k => XS.iloadN X738.here hx rfl (D d14_14) rfl (XS.icmpNo X738.here hx rfl (D d14_15) rfl (tlt (by decide : (1 : Int32) < (5 : Int32))).2.1 (XS.aloadN X738.here hx rfl (D d14_18) rfl rfl (XS.iload X738.here hx rfl (D d14_19) rfl (X738.aaload hx (j := (1 : Int32)) (v := (.ref (A 2))) (by rw [e738]; exact Ar745.1) (State.isArrayOf_alike hZ.alike Ar745.2.1) rfl Ar745.2.2 hin745 (H745.at hin745 rfl) (g := (mkF m 21 #[rv so, .val .null, rv r_732, iv 5, iv 1, rv (A 1)] [(.int 1), (.ref r_732)])) rfl rfl (D d14_21) _ (XS.astore X738.here hx rfl (D d14_22) rfl rfl (l' := #[rv so, .val .null, rv r_732, iv 5, iv 1, rv (A 2)]) rfl (XS.aload X738.here hx rfl (D d14_24) rfl rfl (st746 _ (XS.aloadN X746.here hx rfl (D d14_29) rfl rfl (st747 _ (XS.ifYes X747.here hx rfl (pc0 := 33) (pc' := 39) rfl (D d14_33) rfl ((if0 _ _).trans (teq (by decide : (0 : Int32) = (0 : Int32))).1) (by decide) (by decide) (XS.iinc X747.here hx rfl (D d14_39) rfl (l' := #[rv so, .val .null, rv r_732, iv 5, iv 2, rv (A 2)]) rfl (XS.goto X747.here hx rfl (pc0 := 42) (pc' := 12) rfl (D d14_42) (by decide) (by decide) (XS.iload X747.here hx rfl (D d14_12) rfl (XS.iloadN X747.here hx rfl (D d14_14) rfl (XS.icmpNo X747.here hx rfl (D d14_15) rfl (tlt (by decide : (2 : Int32) < (5 : Int32))).2.1 (XS.aloadN X747.here hx rfl (D d14_18) rfl rfl (XS.iload X747.here hx rfl (D d14_19) rfl (X747.aaload hx (j := (2 : Int32)) (v := (.ref (A 3))) (by rw [e747]; exact Ar750.1) (State.isArrayOf_alike hZ.alike Ar750.2.1) rfl Ar750.2.2 hin750 (H750.at hin750 rfl) (g := (mkF m 21 #[rv so, .val .null, rv r_732, iv 5, iv 2, rv (A 2)] [(.int 2), (.ref r_732)])) rfl rfl (D d14_21) _ (XS.astore X747.here hx rfl (D d14_22) rfl rfl (l' := #[rv so, .val .null, rv r_732, iv 5, iv 2, rv (A 3)]) rfl (XS.aload X747.here hx rfl (D d14_24) rfl rfl (st751 _ (XS.aloadN X751.here hx rfl (D d14_29) rfl rfl (st752 _ k)))))))))))))))))))))))) ?_
  obtain ⟨cl755, Ar755, qk755, S755, Ng755, H755, G755⟩ := id p732_1
  have hin755 := inb_of (j := (3 : Int32)) S755 ⟨by decide, by decide⟩
  obtain ⟨T756, X756, e756, st756⟩ := getF X752 hx hZ hown (host := "") (Or.inl (own_w hw (i := 93) rfl)) Via.refl e752 (Fld.ext O733 F_s_IDBAG_elementName) (g := (mkF m 26 #[rv so, rv (A 3), rv r_732, iv 5, iv 3, rv (A 4)] [(.ref (A 4))])) rfl rfl (D d14_26)
  obtain ⟨T757, v757, L757, X757, q757, st757⟩ := callVi X756 hx hZ (y := own_m17) (z := own_m17) hown (own_w hw (i := 95) rfl) (own_w hw (i := 96) rfl) (notFace_of_selects (args := #[]) (mvT hZ (own_w hw (i := 98) rfl))) (own_w hw (i := 98) rfl) (own_w hw (i := 97) rfl) (own_w hw (i := 99) rfl) (own_w hw (i := 2) rfl) (by decide) (rm_eqn_idbag hw G so sv kg n bs ((0 : Int32)) T732.heap O733 f739 f740 f741 f742 (prem7)) e756 (W := 0) (by decide) (by decide) (by decide) (by decide) (Exa.ext O733 E_s_IDBAG_elementName) (g := (mkF m 30 #[rv so, rv (A 3), rv r_732, iv 5, iv 3, rv (A 4)] [(.ref so), (.ref (A 12))])) rfl (by rw [hml]; rfl) (argsL := [(.ref so)]) (rest := []) (lenOf pd44 rfl) rfl rfl (Nat.le_of_eq rfl) (D d14_30)
  obtain ⟨rfl, e757, rfl⟩ := q757
  have N757 := Fr.app N752 (Fr.nil _)
  refine Go.of (T' := T757) (f' := (mkF m 21 #[rv so, rv (A 3), rv r_732, iv 5, iv 4, rv (A 4)] [(.int 4), (.ref r_732)])) (fun _ k => XS.ifNo X752.here hx rfl (D d14_33) rfl ((if0 _ _).trans (feq (by decide : ¬ ((1 : Int32) = (0 : Int32)))).1) (XS.aload X752.here hx rfl (D d14_36) rfl rfl (XS.astoreN X752.here hx rfl (D d14_38) rfl rfl (l' := #[rv so, rv (A 3), rv r_732, iv 5, iv 2, rv (A 3)]) rfl (XS.iinc X752.here hx rfl (D d14_39) rfl (l' := #[rv so, rv (A 3), rv r_732, iv 5, iv 3, rv (A 3)]) rfl (XS.goto X752.here hx rfl (pc0 := 42) (pc' := 12) rfl (D d14_42) (by decide) (by decide) (XS.iload X752.here hx rfl (D d14_12) rfl (XS.iloadN X752.here hx rfl (D d14_14) rfl (XS.icmpNo X752.here hx rfl (D d14_15) rfl (tlt (by decide : (3 : Int32) < (5 : Int32))).2.1 (XS.aloadN X752.here hx rfl (D d14_18) rfl rfl (XS.iload X752.here hx rfl (D d14_19) rfl (X752.aaload hx (j := (3 : Int32)) (v := (.ref (A 4))) (by rw [e752]; exact Ar755.1) (State.isArrayOf_alike hZ.alike Ar755.2.1) rfl Ar755.2.2 hin755 (H755.at hin755 rfl) (g := (mkF m 21 #[rv so, rv (A 3), rv r_732, iv 5, iv 3, rv (A 3)] [(.int 3), (.ref r_732)])) rfl rfl (D d14_21) _ (XS.astore X752.here hx rfl (D d14_22) rfl rfl (l' := #[rv so, rv (A 3), rv r_732, iv 5, iv 3, rv (A 4)]) rfl (XS.aload X752.here hx rfl (D d14_24) rfl rfl (st756 _ (XS.aloadN X756.here hx rfl (D d14_29) rfl rfl (st757 _ (XS.ifYes X757.here hx rfl (pc0 := 33) (pc' := 39) rfl (D d14_33) rfl ((if0 _ _).trans (teq (by decide : (0 : Int32) = (0 : Int32))).1) (by decide) (by decide) (XS.iinc X757.here hx rfl (D d14_39) rfl (l' := #[rv so, rv (A 3), rv r_732, iv 5, iv 4, rv (A 4)]) rfl (XS.goto X757.here hx rfl (pc0 := 42) (pc' := 12) rfl (D d14_42) (by decide) (by decide) (XS.iload X757.here hx rfl (D d14_12) rfl (XS.iloadN X757.here hx rfl (D d14_14) rfl (XS.icmpNo X757.here hx rfl (D d14_15) rfl (tlt (by decide : (4 : Int32) < (5 : Int32))).2.1 (XS.aloadN X757.here hx rfl (D d14_18) rfl rfl (XS.iload X757.here hx rfl (D d14_19) rfl k)))))))))))))))))))))))) ?_
  obtain ⟨cl760, Ar760, qk760, S760, Ng760, H760, G760⟩ := id p732_1
  have hin760 := inb_of (j := (4 : Int32)) S760 ⟨by decide, by decide⟩
  obtain ⟨T761, X761, e761, st761⟩ := getF X757 hx hZ hown (host := "") (Or.inl (own_w hw (i := 93) rfl)) Via.refl e757 (Fld.ext O733 F_s_MAP_elementName) (g := (mkF m 26 #[rv so, rv (A 3), rv r_732, iv 5, iv 4, rv (A 5)] [(.ref (A 5))])) rfl rfl (D d14_26)
  obtain ⟨T762, v762, L762, X762, q762, st762⟩ := callVi X761 hx hZ (y := own_m17) (z := own_m17) hown (own_w hw (i := 95) rfl) (own_w hw (i := 96) rfl) (notFace_of_selects (args := #[]) (mvT hZ (own_w hw (i := 98) rfl))) (own_w hw (i := 98) rfl) (own_w hw (i := 97) rfl) (own_w hw (i := 99) rfl) (own_w hw (i := 2) rfl) (by decide) (rm_eqn_map hw G so sv kg n bs ((0 : Int32)) T732.heap O733 f739 f740 f741 f742 (prem8)) e761 (W := 0) (by decide) (by decide) (by decide) (by decide) (Exa.ext O733 E_s_MAP_elementName) (g := (mkF m 30 #[rv so, rv (A 3), rv r_732, iv 5, iv 4, rv (A 5)] [(.ref so), (.ref (A 14))])) rfl (by rw [hml]; rfl) (argsL := [(.ref so)]) (rest := []) (lenOf pd44 rfl) rfl rfl (Nat.le_of_eq rfl) (D d14_30)
  obtain ⟨rfl, e762, rfl⟩ := q762
  have N762 := Fr.app N757 (Fr.nil _)
  refine Go.of (T' := T762) (f' := (mkF m 46 #[rv so, rv (A 3), rv r_732, iv 5, iv 5, rv (A 5)] [(.ref (A 3))])) (fun _ k => X757.aaload hx (j := (4 : Int32)) (v := (.ref (A 5))) (by rw [e757]; exact Ar760.1) (State.isArrayOf_alike hZ.alike Ar760.2.1) rfl Ar760.2.2 hin760 (H760.at hin760 rfl) (g := (mkF m 21 #[rv so, rv (A 3), rv r_732, iv 5, iv 4, rv (A 4)] [(.int 4), (.ref r_732)])) rfl rfl (D d14_21) _ (XS.astore X757.here hx rfl (D d14_22) rfl rfl (l' := #[rv so, rv (A 3), rv r_732, iv 5, iv 4, rv (A 5)]) rfl (XS.aload X757.here hx rfl (D d14_24) rfl rfl (st761 _ (XS.aloadN X761.here hx rfl (D d14_29) rfl rfl (st762 _ (XS.ifYes X762.here hx rfl (pc0 := 33) (pc' := 39) rfl (D d14_33) rfl ((if0 _ _).trans (teq (by decide : (0 : Int32) = (0 : Int32))).1) (by decide) (by decide) (XS.iinc X762.here hx rfl (D d14_39) rfl (l' := #[rv so, rv (A 3), rv r_732, iv 5, iv 5, rv (A 5)]) rfl (XS.goto X762.here hx rfl (pc0 := 42) (pc' := 12) rfl (D d14_42) (by decide) (by decide) (XS.iload X762.here hx rfl (D d14_12) rfl (XS.iloadN X762.here hx rfl (D d14_14) rfl (XS.icmpYes X762.here hx rfl (pc0 := 15) (pc' := 45) rfl (D d14_15) rfl (flt (by decide : ¬ ((5 : Int32) < (5 : Int32)))).2.1 (by decide) (by decide) (XS.aloadN X762.here hx rfl (D d14_45) rfl rfl k))))))))))))) ?_
  exact Go.retA X762 hx hlk hret rfl rfl (D d14_46) (by decide) (by decide) (by rw [e762]; exact ⟨rfl, N762, K733⟩)
theorem ef_rm_named3 (m : MethodId) (so : Addr) : entryFrame m #[(.ref so)] 6 = mkF m 0 #[rv so, .unset, .unset, .unset, .unset, .unset] [] := by first | (simp [entryFrame, mkF, argsToLocals, Value.category]; done) | rfl
set_option maxRecDepth 65536 in
set_option maxHeartbeats 40000000 in
theorem rm_named3 {l : Launch} {Z : State} {a0 : Array Value} {A : Nat → Addr} {KC : Nat → Cell} {IC : Nat → Int32} {VC : Nat → Value} (hw : ∀ d ∈ tables_1, d.before a0 Z = true) (G : own_Ctx Z A KC IC VC) (so : Addr) (sv : Addr) (kg : ClassId) (n : Int32) (bs : List Int32) (h0 : Heap) (O0 : Ext Z.heap h0) (prem0 : Exa Z h0 so "java/lang/String") (prem1 : Fld Z h0 so "java/lang/String" "value" "[B" (.ref sv)) (prem2 : Fld Z h0 so "java/lang/String" "coder" "B" (.int (0 : Int32))) (prem3 : Arv Z h0 sv kg .byte n (bs.map Value.int) (.int (0 : Int32))) (prem4 : own_eq_set n bs = 0) (prem5 : own_eq_list n bs = 0) (prem6 : own_eq_bag n bs = 0) (prem7 : own_eq_idbag n bs = 1) (prem8 : own_eq_map n bs = 0) :
    Ok l Z own_m45 prog_70_method_5_code 6 (some (.object "com/example/cascade_mapper/cascademapper/model/CollectionForm")) ({ frames := 2, cells := 1, slots := 5, locals := 28 } : Room) #[(.ref so)] h0
      (fun v h L => v = some (.ref (A 4)) ∧ (Fr Z.heap.size L) ∧ (Keep h0 h [])) := by
  refine Ok.mk pn46 ?_
  intro p e s m below meth c T0 hx hby hml hown hnm hret hlk hZ e0 X0
  refine Go.cast (ef_rm_named3 m so) ?_
  obtain ⟨-, -, -, -, -, -, -, -, -, -, -, -, F_s_SET_elementName, E_s_SET_elementName, -, -, F_s_LIST_elementName, E_s_LIST_elementName, -, -, F_s_BAG_elementName, E_s_BAG_elementName, -, -, F_s_IDBAG_elementName, E_s_IDBAG_elementName, -, -, F_s_MAP_elementName, E_s_MAP_elementName, -⟩ := id G
  have D := @hb _ _ hby
  have N0 := Fr.nil Z.heap.size
  have K0 : Keep h0 h0 [] := Keep.refl _ _
  obtain ⟨T765, v765, L765, X765, q765, st765⟩ := callSt X0 hx hZ (y := own_m41) hown (own_w hw (i := 73) rfl) (own_w hw (i := 74) rfl) (own_w hw (i := 71) rfl) (own_w hw (i := 75) rfl) (by decide) (rm_values hw G   h0 O0 ) e0 (W := 0) (by decide) (by decide) (by decide) (by decide) (g := (mkF m 2 #[rv so, .val .null, .unset, .unset, .unset, .unset] [])) rfl (by rw [hml]; rfl) (argsL := []) (rest := []) (lenOf pd43 rfl) rfl rfl (Nat.le_of_eq rfl) (D d14_2)
  obtain ⟨r_765, rfl, N765q, K765q, p765_0, p765_1, p765_2⟩ := q765
  have N765 := Fr.app N0 N765q
  have O766 := Old0.keep O0 K765q all0
  have K766 := Keep.trans K0 K765q all0
  have z_r_765 : h0.size ≤ r_765 := Nat.le_trans K0.1 p765_0
  have g_r_765 : Z.heap.size ≤ r_765 := Nat.le_trans O0.1 p765_0
  have ne_so_r_765 : so ≠ r_765 := Nat.ne_of_lt (Nat.lt_of_lt_of_le prem0.lt p765_0)
  have ne_sv_r_765 : sv ≠ r_765 := Nat.ne_of_lt (Nat.lt_of_lt_of_le prem3.lt p765_0)
  obtain ⟨cl767, Ar767, qk767, S767, Ng767, H767, G767⟩ := id p765_1
  obtain ⟨cl769, Ar769, qk769, S769, Ng769, H769, G769⟩ := id p765_1
  have hin769 := inb_of (j := (0 : Int32)) S769 ⟨by decide, by decide⟩
  obtain ⟨T770, X770, e770, st770⟩ := getF X765 hx hZ hown (host := "") (Or.inl (own_w hw (i := 93) rfl)) Via.refl rfl (Fld.ext O766 F_s_SET_elementName) (g := (mkF m 26 #[rv so, .val .null, rv r_765, iv 5, iv 0, rv (A 1)] [(.ref (A 1))])) rfl rfl (D d14_26)
  have f772 : Exa Z T765.heap so "java/lang/String" := (Exa.keep prem0 K765q)
  have f773 : Fld Z T765.heap so "java/lang/String" "value" "[B" (.ref sv) := (Fld.keep prem1 K765q nin0)
  have f774 : Fld Z T765.heap so "java/lang/String" "coder" "B" (.int 0) := (Fld.keep prem2 K765q nin0)
  have f775 : Arv Z T765.heap sv kg .byte n (bs.map Value.int) (.int 0) := (Arv.keep prem3 K765q nin0)
  obtain ⟨T771, v771, L771, X771, q771, st771⟩ := callVi X770 hx hZ (y := own_m17) (z := own_m17) hown (own_w hw (i := 95) rfl) (own_w hw (i := 96) rfl) (notFace_of_selects (args := #[]) (mvT hZ (own_w hw (i := 98) rfl))) (own_w hw (i := 98) rfl) (own_w hw (i := 97) rfl) (own_w hw (i := 99) rfl) (own_w hw (i := 2) rfl) (by decide) (rm_eqn_set hw G so sv kg n bs ((0 : Int32)) T765.heap O766 f772 f773 f774 f775 (prem4)) e770 (W := 0) (by decide) (by decide) (by decide) (by decide) (Exa.ext O766 E_s_SET_elementName) (g := (mkF m 30 #[rv so, .val .null, rv r_765, iv 5, iv 0, rv (A 1)] [(.ref so), (.ref (A 6))])) rfl (by rw [hml]; rfl) (argsL := [(.ref so)]) (rest := []) (lenOf pd44 rfl) rfl rfl (Nat.le_of_eq rfl) (D d14_30)
  obtain ⟨rfl, e771, rfl⟩ := q771
  have N771 := Fr.app N765 (Fr.nil _)
  refine Go.of (T' := T771) (f' := (mkF m 14 #[rv so, .val .null, rv r_765, iv 5, iv 1, rv (A 1)] [(.int 1)])) (fun _ k => XS.aconstNull X0.here hx rfl (D d14_0) (XS.astoreN X0.here hx rfl (D d14_1) rfl rfl (l' := #[rv so, .val .null, .unset, .unset, .unset, .unset]) rfl (st765 _ (XS.astoreN X765.here hx rfl (D d14_5) rfl rfl (l' := #[rv so, .val .null, rv r_765, .unset, .unset, .unset]) rfl (XS.aloadN X765.here hx rfl (D d14_6) rfl rfl (X765.arraylength hx Ar767.1 (State.isArrayOf_alike hZ.alike Ar767.2.1) (g := (mkF m 7 #[rv so, .val .null, rv r_765, .unset, .unset, .unset] [(.ref r_765)])) rfl rfl (D d14_7) _ (by rw [len_of S767 Ng767]; exact (XS.istoreN X765.here hx rfl (D d14_8) rfl (l' := #[rv so, .val .null, rv r_765, iv 5, .unset, .unset]) rfl (XS.iconst X765.here hx rfl (D d14_9) (XS.istore X765.here hx rfl (D d14_10) rfl (l' := #[rv so, .val .null, rv r_765, iv 5, iv 0, .unset]) rfl (XS.iload X765.here hx rfl (D d14_12) rfl (XS.iloadN X765.here hx rfl (D d14_14) rfl (XS.icmpNo X765.here hx rfl (D d14_15) rfl (tlt (by decide : (0 : Int32) < (5 : Int32))).2.1 (XS.aloadN X765.here hx rfl (D d14_18) rfl rfl (XS.iload X765.here hx rfl (D d14_19) rfl (X765.aaload hx (j := (0 : Int32)) (v := (.ref (A 1))) Ar769.1 (State.isArrayOf_alike hZ.alike Ar769.2.1) rfl Ar769.2.2 hin769 (H769.at hin769 rfl) (g := (mkF m 21 #[rv so, .val .null, rv r_765, iv 5, iv 0, .unset] [(.int 0), (.ref r_765)])) rfl rfl (D d14_21) _ (XS.astore X765.here hx rfl (D d14_22) rfl rfl (l' := #[rv so, .val .null, rv r_765, iv 5, iv 0, rv (A 1)]) rfl (XS.aload X765.here hx rfl (D d14_24) rfl rfl (st770 _ (XS.aloadN X770.here hx rfl (D d14_29) rfl rfl (st771 _ (XS.ifYes X771.here hx rfl (pc0 := 33) (pc' := 39) rfl (D d14_33) rfl ((if0 _ _).trans (teq (by decide : (0 : Int32) = (0 : Int32))).1) (by decide) (by decide) (XS.iinc X771.here hx rfl (D d14_39) rfl (l' := #[rv so, .val .null, rv r_765, iv 5, iv 1, rv (A 1)]) rfl (XS.goto X771.here hx rfl (pc0 := 42) (pc' := 12) rfl (D d14_42) (by decide) (by decide) (XS.iload X771.here hx rfl (D d14_12) rfl k))))))))))))))))))))))))) ?_
  obtain ⟨cl778, Ar778, qk778, S778, Ng778, H778, G778⟩ := id p765_1
  have hin778 := inb_of (j := (1 : Int32)) S778 ⟨by decide, by decide⟩
  obtain ⟨T779, X779, e779, st779⟩ := getF X771 hx hZ hown (host := "") (Or.inl (own_w hw (i := 93) rfl)) Via.refl e771 (Fld.ext O766 F_s_LIST_elementName) (g := (mkF m 26 #[rv so, .val .null, rv r_765, iv 5, iv 1, rv (A 2)] [(.ref (A 2))])) rfl rfl (D d14_26)
  obtain ⟨T780, v780, L780, X780, q780, st780⟩ := callVi X779 hx hZ (y := own_m17) (z := own_m17) hown (own_w hw (i := 95) rfl) (own_w hw (i := 96) rfl) (notFace_of_selects (args := #[]) (mvT hZ (own_w hw (i := 98) rfl))) (own_w hw (i := 98) rfl) (own_w hw (i := 97) rfl) (own_w hw (i := 99) rfl) (own_w hw (i := 2) rfl) (by decide) (rm_eqn_list hw G so sv kg n bs ((0 : Int32)) T765.heap O766 f772 f773 f774 f775 (prem5)) e779 (W := 0) (by decide) (by decide) (by decide) (by decide) (Exa.ext O766 E_s_LIST_elementName) (g := (mkF m 30 #[rv so, .val .null, rv r_765, iv 5, iv 1, rv (A 2)] [(.ref so), (.ref (A 8))])) rfl (by rw [hml]; rfl) (argsL := [(.ref so)]) (rest := []) (lenOf pd44 rfl) rfl rfl (Nat.le_of_eq rfl) (D d14_30)
  obtain ⟨rfl, e780, rfl⟩ := q780
  have N780 := Fr.app N771 (Fr.nil _)
  obtain ⟨cl783, Ar783, qk783, S783, Ng783, H783, G783⟩ := id p765_1
  have hin783 := inb_of (j := (2 : Int32)) S783 ⟨by decide, by decide⟩
  obtain ⟨T784, X784, e784, st784⟩ := getF X780 hx hZ hown (host := "") (Or.inl (own_w hw (i := 93) rfl)) Via.refl e780 (Fld.ext O766 F_s_BAG_elementName) (g := (mkF m 26 #[rv so, .val .null, rv r_765, iv 5, iv 2, rv (A 3)] [(.ref (A 3))])) rfl rfl (D d14_26)
  obtain ⟨T785, v785, L785, X785, q785, st785⟩ := callVi X784 hx hZ (y := own_m17) (z := own_m17) hown (own_w hw (i := 95) rfl) (own_w hw (i := 96) rfl) (notFace_of_selects (args := #[]) (mvT hZ (own_w hw (i := 98) rfl))) (own_w hw (i := 98) rfl) (own_w hw (i := 97) rfl) (own_w hw (i := 99) rfl) (own_w hw (i := 2) rfl) (by decide) (rm_eqn_bag hw G so sv kg n bs ((0 : Int32)) T765.heap O766 f772 f773 f774 f775 (prem6)) e784 (W := 0) (by decide) (by decide) (by decide) (by decide) (Exa.ext O766 E_s_BAG_elementName) (g := (mkF m 30 #[rv so, .val .null, rv r_765, iv 5, iv 2, rv (A 3)] [(.ref so), (.ref (A 10))])) rfl (by rw [hml]; rfl) (argsL := [(.ref so)]) (rest := []) (lenOf pd44 rfl) rfl rfl (Nat.le_of_eq rfl) (D d14_30)
  obtain ⟨rfl, e785, rfl⟩ := q785
  have N785 := Fr.app N780 (Fr.nil _)
  refine Go.of (T' := T785) (f' := (mkF m 33 #[rv so, .val .null, rv r_765, iv 5, iv 2, rv (A 3)] [(.int 0)])) (fun _ k => XS.iloadN X771.here hx rfl (D d14_14) rfl (XS.icmpNo X771.here hx rfl (D d14_15) rfl (tlt (by decide : (1 : Int32) < (5 : Int32))).2.1 (XS.aloadN X771.here hx rfl (D d14_18) rfl rfl (XS.iload X771.here hx rfl (D d14_19) rfl (X771.aaload hx (j := (1 : Int32)) (v := (.ref (A 2))) (by rw [e771]; exact Ar778.1) (State.isArrayOf_alike hZ.alike Ar778.2.1) rfl Ar778.2.2 hin778 (H778.at hin778 rfl) (g := (mkF m 21 #[rv so, .val .null, rv r_765, iv 5, iv 1, rv (A 1)] [(.int 1), (.ref r_765)])) rfl rfl (D d14_21) _ (XS.astore X771.here hx rfl (D d14_22) rfl rfl (l' := #[rv so, .val .null, rv r_765, iv 5, iv 1, rv (A 2)]) rfl (XS.aload X771.here hx rfl (D d14_24) rfl rfl (st779 _ (XS.aloadN X779.here hx rfl (D d14_29) rfl rfl (st780 _ (XS.ifYes X780.here hx rfl (pc0 := 33) (pc' := 39) rfl (D d14_33) rfl ((if0 _ _).trans (teq (by decide : (0 : Int32) = (0 : Int32))).1) (by decide) (by decide) (XS.iinc X780.here hx rfl (D d14_39) rfl (l' := #[rv so, .val .null, rv r_765, iv 5, iv 2, rv (A 2)]) rfl (XS.goto X780.here hx rfl (pc0 := 42) (pc' := 12) rfl (D d14_42) (by decide) (by decide) (XS.iload X780.here hx rfl (D d14_12) rfl (XS.iloadN X780.here hx rfl (D d14_14) rfl (XS.icmpNo X780.here hx rfl (D d14_15) rfl (tlt (by decide : (2 : Int32) < (5 : Int32))).2.1 (XS.aloadN X780.here hx rfl (D d14_18) rfl rfl (XS.iload X780.here hx rfl (D d14_19) rfl (X780.aaload hx (j := (2 : Int32)) (v := (.ref (A 3))) (by rw [e780]; exact Ar783.1) (State.isArrayOf_alike hZ.alike Ar783.2.1) rfl Ar783.2.2 hin783 (H783.at hin783 rfl) (g := (mkF m 21 #[rv so, .val .null, rv r_765, iv 5, iv 2, rv (A 2)] [(.int 2), (.ref r_765)])) rfl rfl (D d14_21) _ (XS.astore X780.here hx rfl (D d14_22) rfl rfl (l' := #[rv so, .val .null, rv r_765, iv 5, iv 2, rv (A 3)]) rfl (XS.aload X780.here hx rfl (D d14_24) rfl rfl (st784 _ (XS.aloadN X784.here hx rfl (D d14_29) rfl rfl (st785 _ k)))))))))))))))))))))))) ?_
  obtain ⟨cl788, Ar788, qk788, S788, Ng788, H788, G788⟩ := id p765_1
  have hin788 := inb_of (j := (3 : Int32)) S788 ⟨by decide, by decide⟩
  obtain ⟨T789, X789, e789, st789⟩ := getF X785 hx hZ hown (host := "") (Or.inl (own_w hw (i := 93) rfl)) Via.refl e785 (Fld.ext O766 F_s_IDBAG_elementName) (g := (mkF m 26 #[rv so, .val .null, rv r_765, iv 5, iv 3, rv (A 4)] [(.ref (A 4))])) rfl rfl (D d14_26)
  obtain ⟨T790, v790, L790, X790, q790, st790⟩ := callVi X789 hx hZ (y := own_m17) (z := own_m17) hown (own_w hw (i := 95) rfl) (own_w hw (i := 96) rfl) (notFace_of_selects (args := #[]) (mvT hZ (own_w hw (i := 98) rfl))) (own_w hw (i := 98) rfl) (own_w hw (i := 97) rfl) (own_w hw (i := 99) rfl) (own_w hw (i := 2) rfl) (by decide) (rm_eqn_idbag hw G so sv kg n bs ((1 : Int32)) T765.heap O766 f772 f773 f774 f775 (prem7)) e789 (W := 0) (by decide) (by decide) (by decide) (by decide) (Exa.ext O766 E_s_IDBAG_elementName) (g := (mkF m 30 #[rv so, .val .null, rv r_765, iv 5, iv 3, rv (A 4)] [(.ref so), (.ref (A 12))])) rfl (by rw [hml]; rfl) (argsL := [(.ref so)]) (rest := []) (lenOf pd44 rfl) rfl rfl (Nat.le_of_eq rfl) (D d14_30)
  obtain ⟨rfl, e790, rfl⟩ := q790
  have N790 := Fr.app N785 (Fr.nil _)
  refine Go.of (T' := T790) (f' := (mkF m 21 #[rv so, rv (A 4), rv r_765, iv 5, iv 4, rv (A 4)] [(.int 4), (.ref r_765)])) (fun _ k => XS.ifYes X785.here hx rfl (pc0 := 33) (pc' := 39) rfl (D d14_33) rfl ((if0 _ _).trans (teq (by decide : (0 : Int32) = (0 : Int32))).1) (by decide) (by decide) (XS.iinc X785.here hx rfl (D d14_39) rfl (l' := #[rv so, .val .null, rv r_765, iv 5, iv 3, rv (A 3)]) rfl (XS.goto X785.here hx rfl (pc0 := 42) (pc' := 12) rfl (D d14_42) (by decide) (by decide) (XS.iload X785.here hx rfl (D d14_12) rfl (XS.iloadN X785.here hx rfl (D d14_14) rfl (XS.icmpNo X785.here hx rfl (D d14_15) rfl (tlt (by decide : (3 : Int32) < (5 : Int32))).2.1 (XS.aloadN X785.here hx rfl (D d14_18) rfl rfl (XS.iload X785.here hx rfl (D d14_19) rfl (X785.aaload hx (j := (3 : Int32)) (v := (.ref (A 4))) (by rw [e785]; exact Ar788.1) (State.isArrayOf_alike hZ.alike Ar788.2.1) rfl Ar788.2.2 hin788 (H788.at hin788 rfl) (g := (mkF m 21 #[rv so, .val .null, rv r_765, iv 5, iv 3, rv (A 3)] [(.int 3), (.ref r_765)])) rfl rfl (D d14_21) _ (XS.astore X785.here hx rfl (D d14_22) rfl rfl (l' := #[rv so, .val .null, rv r_765, iv 5, iv 3, rv (A 4)]) rfl (XS.aload X785.here hx rfl (D d14_24) rfl rfl (st789 _ (XS.aloadN X789.here hx rfl (D d14_29) rfl rfl (st790 _ (XS.ifNo X790.here hx rfl (D d14_33) rfl ((if0 _ _).trans (feq (by decide : ¬ ((1 : Int32) = (0 : Int32)))).1) (XS.aload X790.here hx rfl (D d14_36) rfl rfl (XS.astoreN X790.here hx rfl (D d14_38) rfl rfl (l' := #[rv so, rv (A 4), rv r_765, iv 5, iv 3, rv (A 4)]) rfl (XS.iinc X790.here hx rfl (D d14_39) rfl (l' := #[rv so, rv (A 4), rv r_765, iv 5, iv 4, rv (A 4)]) rfl (XS.goto X790.here hx rfl (pc0 := 42) (pc' := 12) rfl (D d14_42) (by decide) (by decide) (XS.iload X790.here hx rfl (D d14_12) rfl (XS.iloadN X790.here hx rfl (D d14_14) rfl (XS.icmpNo X790.here hx rfl (D d14_15) rfl (tlt (by decide : (4 : Int32) < (5 : Int32))).2.1 (XS.aloadN X790.here hx rfl (D d14_18) rfl rfl (XS.iload X790.here hx rfl (D d14_19) rfl k)))))))))))))))))))))))) ?_
  obtain ⟨cl793, Ar793, qk793, S793, Ng793, H793, G793⟩ := id p765_1
  have hin793 := inb_of (j := (4 : Int32)) S793 ⟨by decide, by decide⟩
  obtain ⟨T794, X794, e794, st794⟩ := getF X790 hx hZ hown (host := "") (Or.inl (own_w hw (i := 93) rfl)) Via.refl e790 (Fld.ext O766 F_s_MAP_elementName) (g := (mkF m 26 #[rv so, rv (A 4), rv r_765, iv 5, iv 4, rv (A 5)] [(.ref (A 5))])) rfl rfl (D d14_26)
  obtain ⟨T795, v795, L795, X795, q795, st795⟩ := callVi X794 hx hZ (y := own_m17) (z := own_m17) hown (own_w hw (i := 95) rfl) (own_w hw (i := 96) rfl) (notFace_of_selects (args := #[]) (mvT hZ (own_w hw (i := 98) rfl))) (own_w hw (i := 98) rfl) (own_w hw (i := 97) rfl) (own_w hw (i := 99) rfl) (own_w hw (i := 2) rfl) (by decide) (rm_eqn_map hw G so sv kg n bs ((0 : Int32)) T765.heap O766 f772 f773 f774 f775 (prem8)) e794 (W := 0) (by decide) (by decide) (by decide) (by decide) (Exa.ext O766 E_s_MAP_elementName) (g := (mkF m 30 #[rv so, rv (A 4), rv r_765, iv 5, iv 4, rv (A 5)] [(.ref so), (.ref (A 14))])) rfl (by rw [hml]; rfl) (argsL := [(.ref so)]) (rest := []) (lenOf pd44 rfl) rfl rfl (Nat.le_of_eq rfl) (D d14_30)
  obtain ⟨rfl, e795, rfl⟩ := q795
  have N795 := Fr.app N790 (Fr.nil _)
  refine Go.of (T' := T795) (f' := (mkF m 46 #[rv so, rv (A 4), rv r_765, iv 5, iv 5, rv (A 5)] [(.ref (A 4))])) (fun _ k => X790.aaload hx (j := (4 : Int32)) (v := (.ref (A 5))) (by rw [e790]; exact Ar793.1) (State.isArrayOf_alike hZ.alike Ar793.2.1) rfl Ar793.2.2 hin793 (H793.at hin793 rfl) (g := (mkF m 21 #[rv so, rv (A 4), rv r_765, iv 5, iv 4, rv (A 4)] [(.int 4), (.ref r_765)])) rfl rfl (D d14_21) _ (XS.astore X790.here hx rfl (D d14_22) rfl rfl (l' := #[rv so, rv (A 4), rv r_765, iv 5, iv 4, rv (A 5)]) rfl (XS.aload X790.here hx rfl (D d14_24) rfl rfl (st794 _ (XS.aloadN X794.here hx rfl (D d14_29) rfl rfl (st795 _ (XS.ifYes X795.here hx rfl (pc0 := 33) (pc' := 39) rfl (D d14_33) rfl ((if0 _ _).trans (teq (by decide : (0 : Int32) = (0 : Int32))).1) (by decide) (by decide) (XS.iinc X795.here hx rfl (D d14_39) rfl (l' := #[rv so, rv (A 4), rv r_765, iv 5, iv 5, rv (A 5)]) rfl (XS.goto X795.here hx rfl (pc0 := 42) (pc' := 12) rfl (D d14_42) (by decide) (by decide) (XS.iload X795.here hx rfl (D d14_12) rfl (XS.iloadN X795.here hx rfl (D d14_14) rfl (XS.icmpYes X795.here hx rfl (pc0 := 15) (pc' := 45) rfl (D d14_15) rfl (flt (by decide : ¬ ((5 : Int32) < (5 : Int32)))).2.1 (by decide) (by decide) (XS.aloadN X795.here hx rfl (D d14_45) rfl rfl k))))))))))))) ?_
  exact Go.retA X795 hx hlk hret rfl rfl (D d14_46) (by decide) (by decide) (by rw [e795]; exact ⟨rfl, N795, K766⟩)
theorem ef_rm_named4 (m : MethodId) (so : Addr) : entryFrame m #[(.ref so)] 6 = mkF m 0 #[rv so, .unset, .unset, .unset, .unset, .unset] [] := by first | (simp [entryFrame, mkF, argsToLocals, Value.category]; done) | rfl
set_option maxRecDepth 65536 in
set_option maxHeartbeats 40000000 in
theorem rm_named4 {l : Launch} {Z : State} {a0 : Array Value} {A : Nat → Addr} {KC : Nat → Cell} {IC : Nat → Int32} {VC : Nat → Value} (hw : ∀ d ∈ tables_1, d.before a0 Z = true) (G : own_Ctx Z A KC IC VC) (so : Addr) (sv : Addr) (kg : ClassId) (n : Int32) (bs : List Int32) (h0 : Heap) (O0 : Ext Z.heap h0) (prem0 : Exa Z h0 so "java/lang/String") (prem1 : Fld Z h0 so "java/lang/String" "value" "[B" (.ref sv)) (prem2 : Fld Z h0 so "java/lang/String" "coder" "B" (.int (0 : Int32))) (prem3 : Arv Z h0 sv kg .byte n (bs.map Value.int) (.int (0 : Int32))) (prem4 : own_eq_set n bs = 0) (prem5 : own_eq_list n bs = 0) (prem6 : own_eq_bag n bs = 0) (prem7 : own_eq_idbag n bs = 0) (prem8 : own_eq_map n bs = 1) :
    Ok l Z own_m45 prog_70_method_5_code 6 (some (.object "com/example/cascade_mapper/cascademapper/model/CollectionForm")) ({ frames := 2, cells := 1, slots := 5, locals := 28 } : Room) #[(.ref so)] h0
      (fun v h L => v = some (.ref (A 5)) ∧ (Fr Z.heap.size L) ∧ (Keep h0 h [])) := by
  refine Ok.mk pn46 ?_
  intro p e s m below meth c T0 hx hby hml hown hnm hret hlk hZ e0 X0
  refine Go.cast (ef_rm_named4 m so) ?_
  obtain ⟨-, -, -, -, -, -, -, -, -, -, -, -, F_s_SET_elementName, E_s_SET_elementName, -, -, F_s_LIST_elementName, E_s_LIST_elementName, -, -, F_s_BAG_elementName, E_s_BAG_elementName, -, -, F_s_IDBAG_elementName, E_s_IDBAG_elementName, -, -, F_s_MAP_elementName, E_s_MAP_elementName, -⟩ := id G
  have D := @hb _ _ hby
  have N0 := Fr.nil Z.heap.size
  have K0 : Keep h0 h0 [] := Keep.refl _ _
  obtain ⟨T798, v798, L798, X798, q798, st798⟩ := callSt X0 hx hZ (y := own_m41) hown (own_w hw (i := 73) rfl) (own_w hw (i := 74) rfl) (own_w hw (i := 71) rfl) (own_w hw (i := 75) rfl) (by decide) (rm_values hw G   h0 O0 ) e0 (W := 0) (by decide) (by decide) (by decide) (by decide) (g := (mkF m 2 #[rv so, .val .null, .unset, .unset, .unset, .unset] [])) rfl (by rw [hml]; rfl) (argsL := []) (rest := []) (lenOf pd43 rfl) rfl rfl (Nat.le_of_eq rfl) (D d14_2)
  obtain ⟨r_798, rfl, N798q, K798q, p798_0, p798_1, p798_2⟩ := q798
  have N798 := Fr.app N0 N798q
  have O799 := Old0.keep O0 K798q all0
  have K799 := Keep.trans K0 K798q all0
  have z_r_798 : h0.size ≤ r_798 := Nat.le_trans K0.1 p798_0
  have g_r_798 : Z.heap.size ≤ r_798 := Nat.le_trans O0.1 p798_0
  have ne_so_r_798 : so ≠ r_798 := Nat.ne_of_lt (Nat.lt_of_lt_of_le prem0.lt p798_0)
  have ne_sv_r_798 : sv ≠ r_798 := Nat.ne_of_lt (Nat.lt_of_lt_of_le prem3.lt p798_0)
  obtain ⟨cl800, Ar800, qk800, S800, Ng800, H800, G800⟩ := id p798_1
  obtain ⟨cl802, Ar802, qk802, S802, Ng802, H802, G802⟩ := id p798_1
  have hin802 := inb_of (j := (0 : Int32)) S802 ⟨by decide, by decide⟩
  obtain ⟨T803, X803, e803, st803⟩ := getF X798 hx hZ hown (host := "") (Or.inl (own_w hw (i := 93) rfl)) Via.refl rfl (Fld.ext O799 F_s_SET_elementName) (g := (mkF m 26 #[rv so, .val .null, rv r_798, iv 5, iv 0, rv (A 1)] [(.ref (A 1))])) rfl rfl (D d14_26)
  have f805 : Exa Z T798.heap so "java/lang/String" := (Exa.keep prem0 K798q)
  have f806 : Fld Z T798.heap so "java/lang/String" "value" "[B" (.ref sv) := (Fld.keep prem1 K798q nin0)
  have f807 : Fld Z T798.heap so "java/lang/String" "coder" "B" (.int 0) := (Fld.keep prem2 K798q nin0)
  have f808 : Arv Z T798.heap sv kg .byte n (bs.map Value.int) (.int 0) := (Arv.keep prem3 K798q nin0)
  obtain ⟨T804, v804, L804, X804, q804, st804⟩ := callVi X803 hx hZ (y := own_m17) (z := own_m17) hown (own_w hw (i := 95) rfl) (own_w hw (i := 96) rfl) (notFace_of_selects (args := #[]) (mvT hZ (own_w hw (i := 98) rfl))) (own_w hw (i := 98) rfl) (own_w hw (i := 97) rfl) (own_w hw (i := 99) rfl) (own_w hw (i := 2) rfl) (by decide) (rm_eqn_set hw G so sv kg n bs ((0 : Int32)) T798.heap O799 f805 f806 f807 f808 (prem4)) e803 (W := 0) (by decide) (by decide) (by decide) (by decide) (Exa.ext O799 E_s_SET_elementName) (g := (mkF m 30 #[rv so, .val .null, rv r_798, iv 5, iv 0, rv (A 1)] [(.ref so), (.ref (A 6))])) rfl (by rw [hml]; rfl) (argsL := [(.ref so)]) (rest := []) (lenOf pd44 rfl) rfl rfl (Nat.le_of_eq rfl) (D d14_30)
  obtain ⟨rfl, e804, rfl⟩ := q804
  have N804 := Fr.app N798 (Fr.nil _)
  refine Go.of (T' := T804) (f' := (mkF m 14 #[rv so, .val .null, rv r_798, iv 5, iv 1, rv (A 1)] [(.int 1)])) (fun _ k => XS.aconstNull X0.here hx rfl (D d14_0) (XS.astoreN X0.here hx rfl (D d14_1) rfl rfl (l' := #[rv so, .val .null, .unset, .unset, .unset, .unset]) rfl (st798 _ (XS.astoreN X798.here hx rfl (D d14_5) rfl rfl (l' := #[rv so, .val .null, rv r_798, .unset, .unset, .unset]) rfl (XS.aloadN X798.here hx rfl (D d14_6) rfl rfl (X798.arraylength hx Ar800.1 (State.isArrayOf_alike hZ.alike Ar800.2.1) (g := (mkF m 7 #[rv so, .val .null, rv r_798, .unset, .unset, .unset] [(.ref r_798)])) rfl rfl (D d14_7) _ (by rw [len_of S800 Ng800]; exact (XS.istoreN X798.here hx rfl (D d14_8) rfl (l' := #[rv so, .val .null, rv r_798, iv 5, .unset, .unset]) rfl (XS.iconst X798.here hx rfl (D d14_9) (XS.istore X798.here hx rfl (D d14_10) rfl (l' := #[rv so, .val .null, rv r_798, iv 5, iv 0, .unset]) rfl (XS.iload X798.here hx rfl (D d14_12) rfl (XS.iloadN X798.here hx rfl (D d14_14) rfl (XS.icmpNo X798.here hx rfl (D d14_15) rfl (tlt (by decide : (0 : Int32) < (5 : Int32))).2.1 (XS.aloadN X798.here hx rfl (D d14_18) rfl rfl (XS.iload X798.here hx rfl (D d14_19) rfl (X798.aaload hx (j := (0 : Int32)) (v := (.ref (A 1))) Ar802.1 (State.isArrayOf_alike hZ.alike Ar802.2.1) rfl Ar802.2.2 hin802 (H802.at hin802 rfl) (g := (mkF m 21 #[rv so, .val .null, rv r_798, iv 5, iv 0, .unset] [(.int 0), (.ref r_798)])) rfl rfl (D d14_21) _ (XS.astore X798.here hx rfl (D d14_22) rfl rfl (l' := #[rv so, .val .null, rv r_798, iv 5, iv 0, rv (A 1)]) rfl (XS.aload X798.here hx rfl (D d14_24) rfl rfl (st803 _ (XS.aloadN X803.here hx rfl (D d14_29) rfl rfl (st804 _ (XS.ifYes X804.here hx rfl (pc0 := 33) (pc' := 39) rfl (D d14_33) rfl ((if0 _ _).trans (teq (by decide : (0 : Int32) = (0 : Int32))).1) (by decide) (by decide) (XS.iinc X804.here hx rfl (D d14_39) rfl (l' := #[rv so, .val .null, rv r_798, iv 5, iv 1, rv (A 1)]) rfl (XS.goto X804.here hx rfl (pc0 := 42) (pc' := 12) rfl (D d14_42) (by decide) (by decide) (XS.iload X804.here hx rfl (D d14_12) rfl k))))))))))))))))))))))))) ?_
  obtain ⟨cl811, Ar811, qk811, S811, Ng811, H811, G811⟩ := id p798_1
  have hin811 := inb_of (j := (1 : Int32)) S811 ⟨by decide, by decide⟩
  obtain ⟨T812, X812, e812, st812⟩ := getF X804 hx hZ hown (host := "") (Or.inl (own_w hw (i := 93) rfl)) Via.refl e804 (Fld.ext O799 F_s_LIST_elementName) (g := (mkF m 26 #[rv so, .val .null, rv r_798, iv 5, iv 1, rv (A 2)] [(.ref (A 2))])) rfl rfl (D d14_26)
  obtain ⟨T813, v813, L813, X813, q813, st813⟩ := callVi X812 hx hZ (y := own_m17) (z := own_m17) hown (own_w hw (i := 95) rfl) (own_w hw (i := 96) rfl) (notFace_of_selects (args := #[]) (mvT hZ (own_w hw (i := 98) rfl))) (own_w hw (i := 98) rfl) (own_w hw (i := 97) rfl) (own_w hw (i := 99) rfl) (own_w hw (i := 2) rfl) (by decide) (rm_eqn_list hw G so sv kg n bs ((0 : Int32)) T798.heap O799 f805 f806 f807 f808 (prem5)) e812 (W := 0) (by decide) (by decide) (by decide) (by decide) (Exa.ext O799 E_s_LIST_elementName) (g := (mkF m 30 #[rv so, .val .null, rv r_798, iv 5, iv 1, rv (A 2)] [(.ref so), (.ref (A 8))])) rfl (by rw [hml]; rfl) (argsL := [(.ref so)]) (rest := []) (lenOf pd44 rfl) rfl rfl (Nat.le_of_eq rfl) (D d14_30)
  obtain ⟨rfl, e813, rfl⟩ := q813
  have N813 := Fr.app N804 (Fr.nil _)
  obtain ⟨cl816, Ar816, qk816, S816, Ng816, H816, G816⟩ := id p798_1
  have hin816 := inb_of (j := (2 : Int32)) S816 ⟨by decide, by decide⟩
  obtain ⟨T817, X817, e817, st817⟩ := getF X813 hx hZ hown (host := "") (Or.inl (own_w hw (i := 93) rfl)) Via.refl e813 (Fld.ext O799 F_s_BAG_elementName) (g := (mkF m 26 #[rv so, .val .null, rv r_798, iv 5, iv 2, rv (A 3)] [(.ref (A 3))])) rfl rfl (D d14_26)
  obtain ⟨T818, v818, L818, X818, q818, st818⟩ := callVi X817 hx hZ (y := own_m17) (z := own_m17) hown (own_w hw (i := 95) rfl) (own_w hw (i := 96) rfl) (notFace_of_selects (args := #[]) (mvT hZ (own_w hw (i := 98) rfl))) (own_w hw (i := 98) rfl) (own_w hw (i := 97) rfl) (own_w hw (i := 99) rfl) (own_w hw (i := 2) rfl) (by decide) (rm_eqn_bag hw G so sv kg n bs ((0 : Int32)) T798.heap O799 f805 f806 f807 f808 (prem6)) e817 (W := 0) (by decide) (by decide) (by decide) (by decide) (Exa.ext O799 E_s_BAG_elementName) (g := (mkF m 30 #[rv so, .val .null, rv r_798, iv 5, iv 2, rv (A 3)] [(.ref so), (.ref (A 10))])) rfl (by rw [hml]; rfl) (argsL := [(.ref so)]) (rest := []) (lenOf pd44 rfl) rfl rfl (Nat.le_of_eq rfl) (D d14_30)
  obtain ⟨rfl, e818, rfl⟩ := q818
  have N818 := Fr.app N813 (Fr.nil _)
  refine Go.of (T' := T818) (f' := (mkF m 33 #[rv so, .val .null, rv r_798, iv 5, iv 2, rv (A 3)] [(.int 0)])) (fun _ k => XS.iloadN X804.here hx rfl (D d14_14) rfl (XS.icmpNo X804.here hx rfl (D d14_15) rfl (tlt (by decide : (1 : Int32) < (5 : Int32))).2.1 (XS.aloadN X804.here hx rfl (D d14_18) rfl rfl (XS.iload X804.here hx rfl (D d14_19) rfl (X804.aaload hx (j := (1 : Int32)) (v := (.ref (A 2))) (by rw [e804]; exact Ar811.1) (State.isArrayOf_alike hZ.alike Ar811.2.1) rfl Ar811.2.2 hin811 (H811.at hin811 rfl) (g := (mkF m 21 #[rv so, .val .null, rv r_798, iv 5, iv 1, rv (A 1)] [(.int 1), (.ref r_798)])) rfl rfl (D d14_21) _ (XS.astore X804.here hx rfl (D d14_22) rfl rfl (l' := #[rv so, .val .null, rv r_798, iv 5, iv 1, rv (A 2)]) rfl (XS.aload X804.here hx rfl (D d14_24) rfl rfl (st812 _ (XS.aloadN X812.here hx rfl (D d14_29) rfl rfl (st813 _ (XS.ifYes X813.here hx rfl (pc0 := 33) (pc' := 39) rfl (D d14_33) rfl ((if0 _ _).trans (teq (by decide : (0 : Int32) = (0 : Int32))).1) (by decide) (by decide) (XS.iinc X813.here hx rfl (D d14_39) rfl (l' := #[rv so, .val .null, rv r_798, iv 5, iv 2, rv (A 2)]) rfl (XS.goto X813.here hx rfl (pc0 := 42) (pc' := 12) rfl (D d14_42) (by decide) (by decide) (XS.iload X813.here hx rfl (D d14_12) rfl (XS.iloadN X813.here hx rfl (D d14_14) rfl (XS.icmpNo X813.here hx rfl (D d14_15) rfl (tlt (by decide : (2 : Int32) < (5 : Int32))).2.1 (XS.aloadN X813.here hx rfl (D d14_18) rfl rfl (XS.iload X813.here hx rfl (D d14_19) rfl (X813.aaload hx (j := (2 : Int32)) (v := (.ref (A 3))) (by rw [e813]; exact Ar816.1) (State.isArrayOf_alike hZ.alike Ar816.2.1) rfl Ar816.2.2 hin816 (H816.at hin816 rfl) (g := (mkF m 21 #[rv so, .val .null, rv r_798, iv 5, iv 2, rv (A 2)] [(.int 2), (.ref r_798)])) rfl rfl (D d14_21) _ (XS.astore X813.here hx rfl (D d14_22) rfl rfl (l' := #[rv so, .val .null, rv r_798, iv 5, iv 2, rv (A 3)]) rfl (XS.aload X813.here hx rfl (D d14_24) rfl rfl (st817 _ (XS.aloadN X817.here hx rfl (D d14_29) rfl rfl (st818 _ k)))))))))))))))))))))))) ?_
  obtain ⟨cl821, Ar821, qk821, S821, Ng821, H821, G821⟩ := id p798_1
  have hin821 := inb_of (j := (3 : Int32)) S821 ⟨by decide, by decide⟩
  obtain ⟨T822, X822, e822, st822⟩ := getF X818 hx hZ hown (host := "") (Or.inl (own_w hw (i := 93) rfl)) Via.refl e818 (Fld.ext O799 F_s_IDBAG_elementName) (g := (mkF m 26 #[rv so, .val .null, rv r_798, iv 5, iv 3, rv (A 4)] [(.ref (A 4))])) rfl rfl (D d14_26)
  obtain ⟨T823, v823, L823, X823, q823, st823⟩ := callVi X822 hx hZ (y := own_m17) (z := own_m17) hown (own_w hw (i := 95) rfl) (own_w hw (i := 96) rfl) (notFace_of_selects (args := #[]) (mvT hZ (own_w hw (i := 98) rfl))) (own_w hw (i := 98) rfl) (own_w hw (i := 97) rfl) (own_w hw (i := 99) rfl) (own_w hw (i := 2) rfl) (by decide) (rm_eqn_idbag hw G so sv kg n bs ((0 : Int32)) T798.heap O799 f805 f806 f807 f808 (prem7)) e822 (W := 0) (by decide) (by decide) (by decide) (by decide) (Exa.ext O799 E_s_IDBAG_elementName) (g := (mkF m 30 #[rv so, .val .null, rv r_798, iv 5, iv 3, rv (A 4)] [(.ref so), (.ref (A 12))])) rfl (by rw [hml]; rfl) (argsL := [(.ref so)]) (rest := []) (lenOf pd44 rfl) rfl rfl (Nat.le_of_eq rfl) (D d14_30)
  obtain ⟨rfl, e823, rfl⟩ := q823
  have N823 := Fr.app N818 (Fr.nil _)
  obtain ⟨cl826, Ar826, qk826, S826, Ng826, H826, G826⟩ := id p798_1
  have hin826 := inb_of (j := (4 : Int32)) S826 ⟨by decide, by decide⟩
  refine Go.of (T' := T823) (f' := (mkF m 24 #[rv so, .val .null, rv r_798, iv 5, iv 4, rv (A 5)] [])) (fun _ k => XS.ifYes X818.here hx rfl (pc0 := 33) (pc' := 39) rfl (D d14_33) rfl ((if0 _ _).trans (teq (by decide : (0 : Int32) = (0 : Int32))).1) (by decide) (by decide) (XS.iinc X818.here hx rfl (D d14_39) rfl (l' := #[rv so, .val .null, rv r_798, iv 5, iv 3, rv (A 3)]) rfl (XS.goto X818.here hx rfl (pc0 := 42) (pc' := 12) rfl (D d14_42) (by decide) (by decide) (XS.iload X818.here hx rfl (D d14_12) rfl (XS.iloadN X818.here hx rfl (D d14_14) rfl (XS.icmpNo X818.here hx rfl (D d14_15) rfl (tlt (by decide : (3 : Int32) < (5 : Int32))).2.1 (XS.aloadN X818.here hx rfl (D d14_18) rfl rfl (XS.iload X818.here hx rfl (D d14_19) rfl (X818.aaload hx (j := (3 : Int32)) (v := (.ref (A 4))) (by rw [e818]; exact Ar821.1) (State.isArrayOf_alike hZ.alike Ar821.2.1) rfl Ar821.2.2 hin821 (H821.at hin821 rfl) (g := (mkF m 21 #[rv so, .val .null, rv r_798, iv 5, iv 3, rv (A 3)] [(.int 3), (.ref r_798)])) rfl rfl (D d14_21) _ (XS.astore X818.here hx rfl (D d14_22) rfl rfl (l' := #[rv so, .val .null, rv r_798, iv 5, iv 3, rv (A 4)]) rfl (XS.aload X818.here hx rfl (D d14_24) rfl rfl (st822 _ (XS.aloadN X822.here hx rfl (D d14_29) rfl rfl (st823 _ (XS.ifYes X823.here hx rfl (pc0 := 33) (pc' := 39) rfl (D d14_33) rfl ((if0 _ _).trans (teq (by decide : (0 : Int32) = (0 : Int32))).1) (by decide) (by decide) (XS.iinc X823.here hx rfl (D d14_39) rfl (l' := #[rv so, .val .null, rv r_798, iv 5, iv 4, rv (A 4)]) rfl (XS.goto X823.here hx rfl (pc0 := 42) (pc' := 12) rfl (D d14_42) (by decide) (by decide) (XS.iload X823.here hx rfl (D d14_12) rfl (XS.iloadN X823.here hx rfl (D d14_14) rfl (XS.icmpNo X823.here hx rfl (D d14_15) rfl (tlt (by decide : (4 : Int32) < (5 : Int32))).2.1 (XS.aloadN X823.here hx rfl (D d14_18) rfl rfl (XS.iload X823.here hx rfl (D d14_19) rfl (X823.aaload hx (j := (4 : Int32)) (v := (.ref (A 5))) (by rw [e823]; exact Ar826.1) (State.isArrayOf_alike hZ.alike Ar826.2.1) rfl Ar826.2.2 hin826 (H826.at hin826 rfl) (g := (mkF m 21 #[rv so, .val .null, rv r_798, iv 5, iv 4, rv (A 4)] [(.int 4), (.ref r_798)])) rfl rfl (D d14_21) _ (XS.astore X823.here hx rfl (D d14_22) rfl rfl (l' := #[rv so, .val .null, rv r_798, iv 5, iv 4, rv (A 5)]) rfl k)))))))))))))))))))))))) ?_
  obtain ⟨T827, X827, e827, st827⟩ := getF X823 hx hZ hown (host := "") (Or.inl (own_w hw (i := 93) rfl)) Via.refl e823 (Fld.ext O799 F_s_MAP_elementName) (g := (mkF m 26 #[rv so, .val .null, rv r_798, iv 5, iv 4, rv (A 5)] [(.ref (A 5))])) rfl rfl (D d14_26)
  obtain ⟨T828, v828, L828, X828, q828, st828⟩ := callVi X827 hx hZ (y := own_m17) (z := own_m17) hown (own_w hw (i := 95) rfl) (own_w hw (i := 96) rfl) (notFace_of_selects (args := #[]) (mvT hZ (own_w hw (i := 98) rfl))) (own_w hw (i := 98) rfl) (own_w hw (i := 97) rfl) (own_w hw (i := 99) rfl) (own_w hw (i := 2) rfl) (by decide) (rm_eqn_map hw G so sv kg n bs ((1 : Int32)) T798.heap O799 f805 f806 f807 f808 (prem8)) e827 (W := 0) (by decide) (by decide) (by decide) (by decide) (Exa.ext O799 E_s_MAP_elementName) (g := (mkF m 30 #[rv so, .val .null, rv r_798, iv 5, iv 4, rv (A 5)] [(.ref so), (.ref (A 14))])) rfl (by rw [hml]; rfl) (argsL := [(.ref so)]) (rest := []) (lenOf pd44 rfl) rfl rfl (Nat.le_of_eq rfl) (D d14_30)
  obtain ⟨rfl, e828, rfl⟩ := q828
  have N828 := Fr.app N823 (Fr.nil _)
  refine Go.of (T' := T828) (f' := (mkF m 46 #[rv so, rv (A 5), rv r_798, iv 5, iv 5, rv (A 5)] [(.ref (A 5))])) (fun _ k => XS.aload X823.here hx rfl (D d14_24) rfl rfl (st827 _ (XS.aloadN X827.here hx rfl (D d14_29) rfl rfl (st828 _ (XS.ifNo X828.here hx rfl (D d14_33) rfl ((if0 _ _).trans (feq (by decide : ¬ ((1 : Int32) = (0 : Int32)))).1) (XS.aload X828.here hx rfl (D d14_36) rfl rfl (XS.astoreN X828.here hx rfl (D d14_38) rfl rfl (l' := #[rv so, rv (A 5), rv r_798, iv 5, iv 4, rv (A 5)]) rfl (XS.iinc X828.here hx rfl (D d14_39) rfl (l' := #[rv so, rv (A 5), rv r_798, iv 5, iv 5, rv (A 5)]) rfl (XS.goto X828.here hx rfl (pc0 := 42) (pc' := 12) rfl (D d14_42) (by decide) (by decide) (XS.iload X828.here hx rfl (D d14_12) rfl (XS.iloadN X828.here hx rfl (D d14_14) rfl (XS.icmpYes X828.here hx rfl (pc0 := 15) (pc' := 45) rfl (D d14_15) rfl (flt (by decide : ¬ ((5 : Int32) < (5 : Int32)))).2.1 (by decide) (by decide) (XS.aloadN X828.here hx rfl (D d14_45) rfl rfl k))))))))))))) ?_
  exact Go.retA X828 hx hlk hret rfl rfl (D d14_46) (by decide) (by decide) (by rw [e828]; exact ⟨rfl, N828, K799⟩)
theorem ef_rm_named5 (m : MethodId) (so : Addr) : entryFrame m #[(.ref so)] 6 = mkF m 0 #[rv so, .unset, .unset, .unset, .unset, .unset] [] := by first | (simp [entryFrame, mkF, argsToLocals, Value.category]; done) | rfl
set_option maxRecDepth 65536 in
set_option maxHeartbeats 40000000 in
theorem rm_named5 {l : Launch} {Z : State} {a0 : Array Value} {A : Nat → Addr} {KC : Nat → Cell} {IC : Nat → Int32} {VC : Nat → Value} (hw : ∀ d ∈ tables_1, d.before a0 Z = true) (G : own_Ctx Z A KC IC VC) (so : Addr) (sv : Addr) (kg : ClassId) (n : Int32) (bs : List Int32) (h0 : Heap) (O0 : Ext Z.heap h0) (prem0 : Exa Z h0 so "java/lang/String") (prem1 : Fld Z h0 so "java/lang/String" "value" "[B" (.ref sv)) (prem2 : Fld Z h0 so "java/lang/String" "coder" "B" (.int (0 : Int32))) (prem3 : Arv Z h0 sv kg .byte n (bs.map Value.int) (.int (0 : Int32))) (prem4 : own_eq_set n bs = 0) (prem5 : own_eq_list n bs = 0) (prem6 : own_eq_bag n bs = 0) (prem7 : own_eq_idbag n bs = 0) (prem8 : own_eq_map n bs = 0) :
    Ok l Z own_m45 prog_70_method_5_code 6 (some (.object "com/example/cascade_mapper/cascademapper/model/CollectionForm")) ({ frames := 2, cells := 1, slots := 5, locals := 28 } : Room) #[(.ref so)] h0
      (fun v h L => v = some .null ∧ (Fr Z.heap.size L) ∧ (Keep h0 h [])) := by
  refine Ok.mk pn46 ?_
  intro p e s m below meth c T0 hx hby hml hown hnm hret hlk hZ e0 X0
  refine Go.cast (ef_rm_named5 m so) ?_
  obtain ⟨-, -, -, -, -, -, -, -, -, -, -, -, F_s_SET_elementName, E_s_SET_elementName, -, -, F_s_LIST_elementName, E_s_LIST_elementName, -, -, F_s_BAG_elementName, E_s_BAG_elementName, -, -, F_s_IDBAG_elementName, E_s_IDBAG_elementName, -, -, F_s_MAP_elementName, E_s_MAP_elementName, -⟩ := id G
  have D := @hb _ _ hby
  have N0 := Fr.nil Z.heap.size
  have K0 : Keep h0 h0 [] := Keep.refl _ _
  obtain ⟨T831, v831, L831, X831, q831, st831⟩ := callSt X0 hx hZ (y := own_m41) hown (own_w hw (i := 73) rfl) (own_w hw (i := 74) rfl) (own_w hw (i := 71) rfl) (own_w hw (i := 75) rfl) (by decide) (rm_values hw G   h0 O0 ) e0 (W := 0) (by decide) (by decide) (by decide) (by decide) (g := (mkF m 2 #[rv so, .val .null, .unset, .unset, .unset, .unset] [])) rfl (by rw [hml]; rfl) (argsL := []) (rest := []) (lenOf pd43 rfl) rfl rfl (Nat.le_of_eq rfl) (D d14_2)
  obtain ⟨r_831, rfl, N831q, K831q, p831_0, p831_1, p831_2⟩ := q831
  have N831 := Fr.app N0 N831q
  have O832 := Old0.keep O0 K831q all0
  have K832 := Keep.trans K0 K831q all0
  have z_r_831 : h0.size ≤ r_831 := Nat.le_trans K0.1 p831_0
  have g_r_831 : Z.heap.size ≤ r_831 := Nat.le_trans O0.1 p831_0
  have ne_so_r_831 : so ≠ r_831 := Nat.ne_of_lt (Nat.lt_of_lt_of_le prem0.lt p831_0)
  have ne_sv_r_831 : sv ≠ r_831 := Nat.ne_of_lt (Nat.lt_of_lt_of_le prem3.lt p831_0)
  obtain ⟨cl833, Ar833, qk833, S833, Ng833, H833, G833⟩ := id p831_1
  obtain ⟨cl835, Ar835, qk835, S835, Ng835, H835, G835⟩ := id p831_1
  have hin835 := inb_of (j := (0 : Int32)) S835 ⟨by decide, by decide⟩
  obtain ⟨T836, X836, e836, st836⟩ := getF X831 hx hZ hown (host := "") (Or.inl (own_w hw (i := 93) rfl)) Via.refl rfl (Fld.ext O832 F_s_SET_elementName) (g := (mkF m 26 #[rv so, .val .null, rv r_831, iv 5, iv 0, rv (A 1)] [(.ref (A 1))])) rfl rfl (D d14_26)
  have f838 : Exa Z T831.heap so "java/lang/String" := (Exa.keep prem0 K831q)
  have f839 : Fld Z T831.heap so "java/lang/String" "value" "[B" (.ref sv) := (Fld.keep prem1 K831q nin0)
  have f840 : Fld Z T831.heap so "java/lang/String" "coder" "B" (.int 0) := (Fld.keep prem2 K831q nin0)
  have f841 : Arv Z T831.heap sv kg .byte n (bs.map Value.int) (.int 0) := (Arv.keep prem3 K831q nin0)
  obtain ⟨T837, v837, L837, X837, q837, st837⟩ := callVi X836 hx hZ (y := own_m17) (z := own_m17) hown (own_w hw (i := 95) rfl) (own_w hw (i := 96) rfl) (notFace_of_selects (args := #[]) (mvT hZ (own_w hw (i := 98) rfl))) (own_w hw (i := 98) rfl) (own_w hw (i := 97) rfl) (own_w hw (i := 99) rfl) (own_w hw (i := 2) rfl) (by decide) (rm_eqn_set hw G so sv kg n bs ((0 : Int32)) T831.heap O832 f838 f839 f840 f841 (prem4)) e836 (W := 0) (by decide) (by decide) (by decide) (by decide) (Exa.ext O832 E_s_SET_elementName) (g := (mkF m 30 #[rv so, .val .null, rv r_831, iv 5, iv 0, rv (A 1)] [(.ref so), (.ref (A 6))])) rfl (by rw [hml]; rfl) (argsL := [(.ref so)]) (rest := []) (lenOf pd44 rfl) rfl rfl (Nat.le_of_eq rfl) (D d14_30)
  obtain ⟨rfl, e837, rfl⟩ := q837
  have N837 := Fr.app N831 (Fr.nil _)
  refine Go.of (T' := T837) (f' := (mkF m 14 #[rv so, .val .null, rv r_831, iv 5, iv 1, rv (A 1)] [(.int 1)])) (fun _ k => XS.aconstNull X0.here hx rfl (D d14_0) (XS.astoreN X0.here hx rfl (D d14_1) rfl rfl (l' := #[rv so, .val .null, .unset, .unset, .unset, .unset]) rfl (st831 _ (XS.astoreN X831.here hx rfl (D d14_5) rfl rfl (l' := #[rv so, .val .null, rv r_831, .unset, .unset, .unset]) rfl (XS.aloadN X831.here hx rfl (D d14_6) rfl rfl (X831.arraylength hx Ar833.1 (State.isArrayOf_alike hZ.alike Ar833.2.1) (g := (mkF m 7 #[rv so, .val .null, rv r_831, .unset, .unset, .unset] [(.ref r_831)])) rfl rfl (D d14_7) _ (by rw [len_of S833 Ng833]; exact (XS.istoreN X831.here hx rfl (D d14_8) rfl (l' := #[rv so, .val .null, rv r_831, iv 5, .unset, .unset]) rfl (XS.iconst X831.here hx rfl (D d14_9) (XS.istore X831.here hx rfl (D d14_10) rfl (l' := #[rv so, .val .null, rv r_831, iv 5, iv 0, .unset]) rfl (XS.iload X831.here hx rfl (D d14_12) rfl (XS.iloadN X831.here hx rfl (D d14_14) rfl (XS.icmpNo X831.here hx rfl (D d14_15) rfl (tlt (by decide : (0 : Int32) < (5 : Int32))).2.1 (XS.aloadN X831.here hx rfl (D d14_18) rfl rfl (XS.iload X831.here hx rfl (D d14_19) rfl (X831.aaload hx (j := (0 : Int32)) (v := (.ref (A 1))) Ar835.1 (State.isArrayOf_alike hZ.alike Ar835.2.1) rfl Ar835.2.2 hin835 (H835.at hin835 rfl) (g := (mkF m 21 #[rv so, .val .null, rv r_831, iv 5, iv 0, .unset] [(.int 0), (.ref r_831)])) rfl rfl (D d14_21) _ (XS.astore X831.here hx rfl (D d14_22) rfl rfl (l' := #[rv so, .val .null, rv r_831, iv 5, iv 0, rv (A 1)]) rfl (XS.aload X831.here hx rfl (D d14_24) rfl rfl (st836 _ (XS.aloadN X836.here hx rfl (D d14_29) rfl rfl (st837 _ (XS.ifYes X837.here hx rfl (pc0 := 33) (pc' := 39) rfl (D d14_33) rfl ((if0 _ _).trans (teq (by decide : (0 : Int32) = (0 : Int32))).1) (by decide) (by decide) (XS.iinc X837.here hx rfl (D d14_39) rfl (l' := #[rv so, .val .null, rv r_831, iv 5, iv 1, rv (A 1)]) rfl (XS.goto X837.here hx rfl (pc0 := 42) (pc' := 12) rfl (D d14_42) (by decide) (by decide) (XS.iload X837.here hx rfl (D d14_12) rfl k))))))))))))))))))))))))) ?_
  obtain ⟨cl844, Ar844, qk844, S844, Ng844, H844, G844⟩ := id p831_1
  have hin844 := inb_of (j := (1 : Int32)) S844 ⟨by decide, by decide⟩
  obtain ⟨T845, X845, e845, st845⟩ := getF X837 hx hZ hown (host := "") (Or.inl (own_w hw (i := 93) rfl)) Via.refl e837 (Fld.ext O832 F_s_LIST_elementName) (g := (mkF m 26 #[rv so, .val .null, rv r_831, iv 5, iv 1, rv (A 2)] [(.ref (A 2))])) rfl rfl (D d14_26)
  obtain ⟨T846, v846, L846, X846, q846, st846⟩ := callVi X845 hx hZ (y := own_m17) (z := own_m17) hown (own_w hw (i := 95) rfl) (own_w hw (i := 96) rfl) (notFace_of_selects (args := #[]) (mvT hZ (own_w hw (i := 98) rfl))) (own_w hw (i := 98) rfl) (own_w hw (i := 97) rfl) (own_w hw (i := 99) rfl) (own_w hw (i := 2) rfl) (by decide) (rm_eqn_list hw G so sv kg n bs ((0 : Int32)) T831.heap O832 f838 f839 f840 f841 (prem5)) e845 (W := 0) (by decide) (by decide) (by decide) (by decide) (Exa.ext O832 E_s_LIST_elementName) (g := (mkF m 30 #[rv so, .val .null, rv r_831, iv 5, iv 1, rv (A 2)] [(.ref so), (.ref (A 8))])) rfl (by rw [hml]; rfl) (argsL := [(.ref so)]) (rest := []) (lenOf pd44 rfl) rfl rfl (Nat.le_of_eq rfl) (D d14_30)
  obtain ⟨rfl, e846, rfl⟩ := q846
  have N846 := Fr.app N837 (Fr.nil _)
  obtain ⟨cl849, Ar849, qk849, S849, Ng849, H849, G849⟩ := id p831_1
  have hin849 := inb_of (j := (2 : Int32)) S849 ⟨by decide, by decide⟩
  obtain ⟨T850, X850, e850, st850⟩ := getF X846 hx hZ hown (host := "") (Or.inl (own_w hw (i := 93) rfl)) Via.refl e846 (Fld.ext O832 F_s_BAG_elementName) (g := (mkF m 26 #[rv so, .val .null, rv r_831, iv 5, iv 2, rv (A 3)] [(.ref (A 3))])) rfl rfl (D d14_26)
  obtain ⟨T851, v851, L851, X851, q851, st851⟩ := callVi X850 hx hZ (y := own_m17) (z := own_m17) hown (own_w hw (i := 95) rfl) (own_w hw (i := 96) rfl) (notFace_of_selects (args := #[]) (mvT hZ (own_w hw (i := 98) rfl))) (own_w hw (i := 98) rfl) (own_w hw (i := 97) rfl) (own_w hw (i := 99) rfl) (own_w hw (i := 2) rfl) (by decide) (rm_eqn_bag hw G so sv kg n bs ((0 : Int32)) T831.heap O832 f838 f839 f840 f841 (prem6)) e850 (W := 0) (by decide) (by decide) (by decide) (by decide) (Exa.ext O832 E_s_BAG_elementName) (g := (mkF m 30 #[rv so, .val .null, rv r_831, iv 5, iv 2, rv (A 3)] [(.ref so), (.ref (A 10))])) rfl (by rw [hml]; rfl) (argsL := [(.ref so)]) (rest := []) (lenOf pd44 rfl) rfl rfl (Nat.le_of_eq rfl) (D d14_30)
  obtain ⟨rfl, e851, rfl⟩ := q851
  have N851 := Fr.app N846 (Fr.nil _)
  refine Go.of (T' := T851) (f' := (mkF m 33 #[rv so, .val .null, rv r_831, iv 5, iv 2, rv (A 3)] [(.int 0)])) (fun _ k => XS.iloadN X837.here hx rfl (D d14_14) rfl (XS.icmpNo X837.here hx rfl (D d14_15) rfl (tlt (by decide : (1 : Int32) < (5 : Int32))).2.1 (XS.aloadN X837.here hx rfl (D d14_18) rfl rfl (XS.iload X837.here hx rfl (D d14_19) rfl (X837.aaload hx (j := (1 : Int32)) (v := (.ref (A 2))) (by rw [e837]; exact Ar844.1) (State.isArrayOf_alike hZ.alike Ar844.2.1) rfl Ar844.2.2 hin844 (H844.at hin844 rfl) (g := (mkF m 21 #[rv so, .val .null, rv r_831, iv 5, iv 1, rv (A 1)] [(.int 1), (.ref r_831)])) rfl rfl (D d14_21) _ (XS.astore X837.here hx rfl (D d14_22) rfl rfl (l' := #[rv so, .val .null, rv r_831, iv 5, iv 1, rv (A 2)]) rfl (XS.aload X837.here hx rfl (D d14_24) rfl rfl (st845 _ (XS.aloadN X845.here hx rfl (D d14_29) rfl rfl (st846 _ (XS.ifYes X846.here hx rfl (pc0 := 33) (pc' := 39) rfl (D d14_33) rfl ((if0 _ _).trans (teq (by decide : (0 : Int32) = (0 : Int32))).1) (by decide) (by decide) (XS.iinc X846.here hx rfl (D d14_39) rfl (l' := #[rv so, .val .null, rv r_831, iv 5, iv 2, rv (A 2)]) rfl (XS.goto X846.here hx rfl (pc0 := 42) (pc' := 12) rfl (D d14_42) (by decide) (by decide) (XS.iload X846.here hx rfl (D d14_12) rfl (XS.iloadN X846.here hx rfl (D d14_14) rfl (XS.icmpNo X846.here hx rfl (D d14_15) rfl (tlt (by decide : (2 : Int32) < (5 : Int32))).2.1 (XS.aloadN X846.here hx rfl (D d14_18) rfl rfl (XS.iload X846.here hx rfl (D d14_19) rfl (X846.aaload hx (j := (2 : Int32)) (v := (.ref (A 3))) (by rw [e846]; exact Ar849.1) (State.isArrayOf_alike hZ.alike Ar849.2.1) rfl Ar849.2.2 hin849 (H849.at hin849 rfl) (g := (mkF m 21 #[rv so, .val .null, rv r_831, iv 5, iv 2, rv (A 2)] [(.int 2), (.ref r_831)])) rfl rfl (D d14_21) _ (XS.astore X846.here hx rfl (D d14_22) rfl rfl (l' := #[rv so, .val .null, rv r_831, iv 5, iv 2, rv (A 3)]) rfl (XS.aload X846.here hx rfl (D d14_24) rfl rfl (st850 _ (XS.aloadN X850.here hx rfl (D d14_29) rfl rfl (st851 _ k)))))))))))))))))))))))) ?_
  obtain ⟨cl854, Ar854, qk854, S854, Ng854, H854, G854⟩ := id p831_1
  have hin854 := inb_of (j := (3 : Int32)) S854 ⟨by decide, by decide⟩
  obtain ⟨T855, X855, e855, st855⟩ := getF X851 hx hZ hown (host := "") (Or.inl (own_w hw (i := 93) rfl)) Via.refl e851 (Fld.ext O832 F_s_IDBAG_elementName) (g := (mkF m 26 #[rv so, .val .null, rv r_831, iv 5, iv 3, rv (A 4)] [(.ref (A 4))])) rfl rfl (D d14_26)
  obtain ⟨T856, v856, L856, X856, q856, st856⟩ := callVi X855 hx hZ (y := own_m17) (z := own_m17) hown (own_w hw (i := 95) rfl) (own_w hw (i := 96) rfl) (notFace_of_selects (args := #[]) (mvT hZ (own_w hw (i := 98) rfl))) (own_w hw (i := 98) rfl) (own_w hw (i := 97) rfl) (own_w hw (i := 99) rfl) (own_w hw (i := 2) rfl) (by decide) (rm_eqn_idbag hw G so sv kg n bs ((0 : Int32)) T831.heap O832 f838 f839 f840 f841 (prem7)) e855 (W := 0) (by decide) (by decide) (by decide) (by decide) (Exa.ext O832 E_s_IDBAG_elementName) (g := (mkF m 30 #[rv so, .val .null, rv r_831, iv 5, iv 3, rv (A 4)] [(.ref so), (.ref (A 12))])) rfl (by rw [hml]; rfl) (argsL := [(.ref so)]) (rest := []) (lenOf pd44 rfl) rfl rfl (Nat.le_of_eq rfl) (D d14_30)
  obtain ⟨rfl, e856, rfl⟩ := q856
  have N856 := Fr.app N851 (Fr.nil _)
  obtain ⟨cl859, Ar859, qk859, S859, Ng859, H859, G859⟩ := id p831_1
  have hin859 := inb_of (j := (4 : Int32)) S859 ⟨by decide, by decide⟩
  refine Go.of (T' := T856) (f' := (mkF m 24 #[rv so, .val .null, rv r_831, iv 5, iv 4, rv (A 5)] [])) (fun _ k => XS.ifYes X851.here hx rfl (pc0 := 33) (pc' := 39) rfl (D d14_33) rfl ((if0 _ _).trans (teq (by decide : (0 : Int32) = (0 : Int32))).1) (by decide) (by decide) (XS.iinc X851.here hx rfl (D d14_39) rfl (l' := #[rv so, .val .null, rv r_831, iv 5, iv 3, rv (A 3)]) rfl (XS.goto X851.here hx rfl (pc0 := 42) (pc' := 12) rfl (D d14_42) (by decide) (by decide) (XS.iload X851.here hx rfl (D d14_12) rfl (XS.iloadN X851.here hx rfl (D d14_14) rfl (XS.icmpNo X851.here hx rfl (D d14_15) rfl (tlt (by decide : (3 : Int32) < (5 : Int32))).2.1 (XS.aloadN X851.here hx rfl (D d14_18) rfl rfl (XS.iload X851.here hx rfl (D d14_19) rfl (X851.aaload hx (j := (3 : Int32)) (v := (.ref (A 4))) (by rw [e851]; exact Ar854.1) (State.isArrayOf_alike hZ.alike Ar854.2.1) rfl Ar854.2.2 hin854 (H854.at hin854 rfl) (g := (mkF m 21 #[rv so, .val .null, rv r_831, iv 5, iv 3, rv (A 3)] [(.int 3), (.ref r_831)])) rfl rfl (D d14_21) _ (XS.astore X851.here hx rfl (D d14_22) rfl rfl (l' := #[rv so, .val .null, rv r_831, iv 5, iv 3, rv (A 4)]) rfl (XS.aload X851.here hx rfl (D d14_24) rfl rfl (st855 _ (XS.aloadN X855.here hx rfl (D d14_29) rfl rfl (st856 _ (XS.ifYes X856.here hx rfl (pc0 := 33) (pc' := 39) rfl (D d14_33) rfl ((if0 _ _).trans (teq (by decide : (0 : Int32) = (0 : Int32))).1) (by decide) (by decide) (XS.iinc X856.here hx rfl (D d14_39) rfl (l' := #[rv so, .val .null, rv r_831, iv 5, iv 4, rv (A 4)]) rfl (XS.goto X856.here hx rfl (pc0 := 42) (pc' := 12) rfl (D d14_42) (by decide) (by decide) (XS.iload X856.here hx rfl (D d14_12) rfl (XS.iloadN X856.here hx rfl (D d14_14) rfl (XS.icmpNo X856.here hx rfl (D d14_15) rfl (tlt (by decide : (4 : Int32) < (5 : Int32))).2.1 (XS.aloadN X856.here hx rfl (D d14_18) rfl rfl (XS.iload X856.here hx rfl (D d14_19) rfl (X856.aaload hx (j := (4 : Int32)) (v := (.ref (A 5))) (by rw [e856]; exact Ar859.1) (State.isArrayOf_alike hZ.alike Ar859.2.1) rfl Ar859.2.2 hin859 (H859.at hin859 rfl) (g := (mkF m 21 #[rv so, .val .null, rv r_831, iv 5, iv 4, rv (A 4)] [(.int 4), (.ref r_831)])) rfl rfl (D d14_21) _ (XS.astore X856.here hx rfl (D d14_22) rfl rfl (l' := #[rv so, .val .null, rv r_831, iv 5, iv 4, rv (A 5)]) rfl k)))))))))))))))))))))))) ?_
  obtain ⟨T860, X860, e860, st860⟩ := getF X856 hx hZ hown (host := "") (Or.inl (own_w hw (i := 93) rfl)) Via.refl e856 (Fld.ext O832 F_s_MAP_elementName) (g := (mkF m 26 #[rv so, .val .null, rv r_831, iv 5, iv 4, rv (A 5)] [(.ref (A 5))])) rfl rfl (D d14_26)
  obtain ⟨T861, v861, L861, X861, q861, st861⟩ := callVi X860 hx hZ (y := own_m17) (z := own_m17) hown (own_w hw (i := 95) rfl) (own_w hw (i := 96) rfl) (notFace_of_selects (args := #[]) (mvT hZ (own_w hw (i := 98) rfl))) (own_w hw (i := 98) rfl) (own_w hw (i := 97) rfl) (own_w hw (i := 99) rfl) (own_w hw (i := 2) rfl) (by decide) (rm_eqn_map hw G so sv kg n bs ((0 : Int32)) T831.heap O832 f838 f839 f840 f841 (prem8)) e860 (W := 0) (by decide) (by decide) (by decide) (by decide) (Exa.ext O832 E_s_MAP_elementName) (g := (mkF m 30 #[rv so, .val .null, rv r_831, iv 5, iv 4, rv (A 5)] [(.ref so), (.ref (A 14))])) rfl (by rw [hml]; rfl) (argsL := [(.ref so)]) (rest := []) (lenOf pd44 rfl) rfl rfl (Nat.le_of_eq rfl) (D d14_30)
  obtain ⟨rfl, e861, rfl⟩ := q861
  have N861 := Fr.app N856 (Fr.nil _)
  refine Go.of (T' := T861) (f' := (mkF m 46 #[rv so, .val .null, rv r_831, iv 5, iv 5, rv (A 5)] [.null])) (fun _ k => XS.aload X856.here hx rfl (D d14_24) rfl rfl (st860 _ (XS.aloadN X860.here hx rfl (D d14_29) rfl rfl (st861 _ (XS.ifYes X861.here hx rfl (pc0 := 33) (pc' := 39) rfl (D d14_33) rfl ((if0 _ _).trans (teq (by decide : (0 : Int32) = (0 : Int32))).1) (by decide) (by decide) (XS.iinc X861.here hx rfl (D d14_39) rfl (l' := #[rv so, .val .null, rv r_831, iv 5, iv 5, rv (A 5)]) rfl (XS.goto X861.here hx rfl (pc0 := 42) (pc' := 12) rfl (D d14_42) (by decide) (by decide) (XS.iload X861.here hx rfl (D d14_12) rfl (XS.iloadN X861.here hx rfl (D d14_14) rfl (XS.icmpYes X861.here hx rfl (pc0 := 15) (pc' := 45) rfl (D d14_15) rfl (flt (by decide : ¬ ((5 : Int32) < (5 : Int32)))).2.1 (by decide) (by decide) (XS.aloadN X861.here hx rfl (D d14_45) rfl rfl k))))))))))) ?_
  exact Go.retA X861 hx hlk hret rfl rfl (D d14_46) (by decide) (by decide) (by rw [e861]; exact ⟨rfl, N861, K832⟩)
theorem pd47 : parseMethodDescriptor "(Ljava/lang/String;)Lcom/example/cascade_mapper/cascademapper/model/CollectionForm;" = some ⟨[(.object "java/lang/String")], some (.object "com/example/cascade_mapper/cascademapper/model/CollectionForm")⟩ := by decide +kernel
set_option maxRecDepth 65536 in
set_option maxHeartbeats 40000000 in
theorem rm_tail {l : Launch} {Z : State} {a0 : Array Value} {A : Nat → Addr} {KC : Nat → Cell} {IC : Nat → Int32} {VC : Nat → Value} (hw : ∀ d ∈ tables_1, d.before a0 Z = true) (G : own_Ctx Z A KC IC VC) {p : Program} {e : Env} {s : State} {m : MethodId} {below : List Frame} {meth : Method} {c : Code} {T0 : State} {vm0 : Vm} {h0 : Heap} {k0 : Nat} {locs0 : List Loc} (p0 : Int32) (p1 : Int32) (p2 : Int32) (p3 : Int32) (p4 : Int32) (p5 : Int32) (da0 : Addr) (ln : Int32) (so : Addr) (sv : Addr) (kg : ClassId) (n : Int32) (bs : List Int32) {s8 : Slot} (h_s8 : One s8) {s9 : Slot} (h_s9 : One s9) {s10 : Slot} (h_s10 : One s10) {s11 : Slot} (h_s11 : One s11)
    (hx : p.tables.exec = Jvm.exec) (hby : c.code = code) (hml : c.maxLocals = 12) (hown : vm0.findClass "com/example/cascade_mapper/cascademapper/model/CollectionFormNamedPinLaw" = some m.cls) (hret : meth.sig.returnType = ret) (hlk : meth.locks = false) (hZ : Z.Warmed39 vm0) (hS : s.Since vm0 k0) (hk : k0 ≤ h0.size) (C0 : CHr Z own_EL s.vm s.heap vm0 h0) (e0 : T0.heap = h0) (X0 : Stand p l e room_1 (s.setVm vm0) m #[(.int p0), (.int p1), (.int p2), (.int p3), (.int p4), (.int p5)] below meth c T0 locs0 16 256) (N0 : Fr Z.heap.size locs0) (O0 : Ext Z.heap h0) (prem0 : Exa Z h0 so "java/lang/String") (prem1 : Fld Z h0 so "java/lang/String" "value" "[B" (.ref sv)) (prem2 : Fld Z h0 so "java/lang/String" "coder" "B" (.int (0 : Int32))) (prem3 : Arv Z h0 sv kg .byte n (bs.map Value.int) (.int (0 : Int32)))  :
    GoS p e s below room_1 Z own_EL (fun v h L => v = some (.int (1 : Int32)) ∧ (Fr Z.heap.size L)) T0 (mkF m 290 #[iv p0, iv p1, iv p2, iv p3, iv p4, iv p5, rv da0, iv ln, s8, s9, s10, s11] [(.ref so)]) := by
  have hEL := own_EW hw
  have D := @hb _ _ hby
  obtain ⟨-, -, S_SET, -, S_LIST, -, S_BAG, -, S_IDBAG, -, S_MAP, -⟩ := id G
  have K0 : Keep h0 h0 [] := Keep.refl _ _
  by_cases hq0 : own_eq_set n bs = 1
  · skip
    have hv0 : own_eq_set n bs = 1 := hq0
    have hv1 : own_eq_list n bs = 0 := own_ex_set_list hq0
    have hv2 : own_eq_bag n bs = 0 := own_ex_set_bag hq0
    have hv3 : own_eq_idbag n bs = 0 := own_ex_set_idbag hq0
    have hv4 : own_eq_map n bs = 0 := own_ex_set_map hq0
    obtain ⟨T864, v864, L864, X864, q864, st864⟩ := callSt X0 hx hZ (y := own_m45) hown (own_w hw (i := 69) rfl) (own_w hw (i := 70) rfl) (own_w hw (i := 71) rfl) (own_w hw (i := 72) rfl) (by decide) (rm_named0 hw G so sv kg n bs h0 O0 prem0 prem1 prem2 prem3 (hv0) (hv1) (hv2) (hv3) (hv4)) e0 (W := 0) (by decide) (by decide) (by decide) (by decide) (g := (mkF m 294 #[iv p0, iv p1, iv p2, iv p3, iv p4, iv p5, rv da0, iv ln, s8, rv so, s10, s11] [(.ref so)])) rfl (by rw [hml]; rfl) (argsL := [(.ref so)]) (rest := []) (lenOf pd47 rfl) rfl rfl (Nat.le_of_eq rfl) (D at_294)
    obtain ⟨rfl, N864q, K864q⟩ := q864
    have N864 := Fr.app N0 N864q
    have O866 := Old0.keep O0 K864q all0
    have C865 := CHr.trans C0 (CHr.keep K864q sf0 C0.1)
    have hk := Nat.le_trans hk K864q.1
    refine GoS.of (T' := T864) (f' := (mkF m 304 #[iv p0, iv p1, iv p2, iv p3, iv p4, iv p5, rv da0, iv ln, s8, rv so, rv (A 1), .val .null] [(.ref so)])) (fun _ k => XS.astore X0.here hx rfl (D at_290) rfl rfl (l' := #[iv p0, iv p1, iv p2, iv p3, iv p4, iv p5, rv da0, iv ln, s8, rv so, s10, s11]) (XS.store1 (o := s9) rfl h_s9 rfl) (XS.aload X0.here hx rfl (D at_292) rfl rfl (st864 _ (XS.astore X864.here hx rfl (D at_297) rfl rfl (l' := #[iv p0, iv p1, iv p2, iv p3, iv p4, iv p5, rv da0, iv ln, s8, rv so, rv (A 1), s11]) (XS.store1 (o := s10) rfl h_s10 rfl) (XS.aconstNull X864.here hx rfl (D at_299) (XS.astore X864.here hx rfl (D at_300) rfl rfl (l' := #[iv p0, iv p1, iv p2, iv p3, iv p4, iv p5, rv da0, iv ln, s8, rv so, rv (A 1), .val .null]) (XS.store1 (o := s11) rfl h_s11 rfl) (XS.aload X864.here hx rfl (D at_302) rfl rfl k))))))) ?_
    obtain ⟨c867, T867, h867, k1867, v867, kc867, X867, e867, E867, hS, hk867, hZ, hown, A867, Fc867, Fv867, V867, -, -, Cq867, -, sn867, st867⟩ := ldcCH X864 hx hZ hown (own_w hw (i := 1) rfl) (own_wS hw) rfl hS hk hEL (by decide) C865.1 (vs := [(.int 115), (.int 101), (.int 116)]) (z := (3 : Int32)) ⟨by decide +kernel, by decide +kernel⟩ (by decide) rfl (g := (mkF m 304 #[iv p0, iv p1, iv p2, iv p3, iv p4, iv p5, rv da0, iv ln, s8, rv so, rv (A 1), .val .null] [(.ref so)])) rfl (D at_304) (n := 12) (by decide +kernel) (by decide) (by decide) (by decide)
    have O867 := Old0.ext O866 E867
    have C867 := CHr.trans C865 Cq867
    have hk := hk867
    have f869 : Exa Z h867 so "java/lang/String" := (Exa.ext E867 (Exa.keep prem0 K864q))
    have f870 : Fld Z h867 so "java/lang/String" "value" "[B" (.ref sv) := (Fld.ext E867 (Fld.keep prem1 K864q nin0))
    have f871 : Fld Z h867 so "java/lang/String" "coder" "B" (.int 0) := (Fld.ext E867 (Fld.keep prem2 K864q nin0))
    have f872 : Arv Z h867 sv kg .byte n (bs.map Value.int) (.int 0) := (Arv.ext (Arv.keep prem3 K864q nin0) E867)
    obtain ⟨T868, v868, L868, X868, q868, st868⟩ := callVi X867 hx hZ (y := own_m17) (z := own_m17) hown (own_w hw (i := 104) rfl) (own_w hw (i := 96) rfl) (notFace_of_selects (args := #[]) (mvT hZ (own_w hw (i := 98) rfl))) (own_w hw (i := 98) rfl) (own_w hw (i := 97) rfl) (own_w hw (i := 99) rfl) (own_w hw (i := 2) rfl) (by decide) (rm_eqg_set hw G so c867 sv kg n bs v867 kc867 ((1 : Int32)) h867 O867 f869 f870 f871 f872 A867 Fc867 Fv867 V867 (hv0)) e867 (W := 0) (by decide) (by decide) (by decide) (by decide) f869 (g := (mkF m 306 #[iv p0, iv p1, iv p2, iv p3, iv p4, iv p5, rv da0, iv ln, s8, rv so, rv (A 1), .val .null] [(.ref c867), (.ref so)])) rfl (by rw [hml]; rfl) (argsL := [(.ref c867)]) (rest := []) (lenOf pd44 rfl) rfl rfl (Nat.le_of_eq rfl) (D at_306)
    obtain ⟨rfl, e868, rfl⟩ := q868
    have N868 := Fr.app N864 (Fr.nil _)
    obtain ⟨T874, X874, e874, st874⟩ := getS2 X868 hx hZ hown (host := "") (Or.inl (own_w hw (i := 105) rfl)) Via.refl e868 (Sta.ext O867 S_SET) (g := (mkF m 312 #[iv p0, iv p1, iv p2, iv p3, iv p4, iv p5, rv da0, iv ln, s8, rv so, rv (A 1), .val .null] [])) rfl (D at_312)
    refine GoS.of (T' := T874) (f' := (mkF m 401 #[iv p0, iv p1, iv p2, iv p3, iv p4, iv p5, rv da0, iv ln, s8, rv so, rv (A 1), rv (A 1)] [(.int 1)])) (fun _ k => st867 _ (st868 _ (XS.ifNo X868.here hx rfl (D at_309) rfl ((if0 _ _).trans (feq (by decide : ¬ ((1 : Int32) = (0 : Int32)))).1) (st874 _ (XS.astore X874.here hx rfl (D at_315) rfl rfl (l' := #[iv p0, iv p1, iv p2, iv p3, iv p4, iv p5, rv da0, iv ln, s8, rv so, rv (A 1), rv (A 1)]) rfl (XS.goto X874.here hx rfl (pc0 := 317) (pc' := 389) rfl (D at_317) (by decide) (by decide) (XS.aload X874.here hx rfl (D at_389) rfl rfl (XS.aload X874.here hx rfl (D at_391) rfl rfl (Jvm.RoadKit.acmp (g := (mkF m 393 #[iv p0, iv p1, iv p2, iv p3, iv p4, iv p5, rv da0, iv ln, s8, rv so, rv (A 1), rv (A 1)] [(.ref (A 1)), (.ref (A 1))])) X874 hx rfl rfl rfl (pc0 := 393) (pc' := 396) (same := true) rfl (D at_393) rfl (decide_eq_true rfl) (by decide) (by decide) (XS.iconst X874.here hx rfl (D at_396) (XS.goto X874.here hx rfl (pc0 := 397) (pc' := 401) rfl (D at_397) (by decide) (by decide) k))))))))))) ?_
    exact GoS.retB X874 hx hlk hS hk hZ hEL C867 e874 hret (by simp) (D at_401) (by decide) (by decide) (z' := (1 : Int32)) rfl ⟨rfl, N868⟩
  by_cases hq1 : own_eq_list n bs = 1
  · skip
    have hv0 : own_eq_set n bs = 0 := own_ex_list_set hq1
    have hv1 : own_eq_list n bs = 1 := hq1
    have hv2 : own_eq_bag n bs = 0 := own_ex_list_bag hq1
    have hv3 : own_eq_idbag n bs = 0 := own_ex_list_idbag hq1
    have hv4 : own_eq_map n bs = 0 := own_ex_list_map hq1
    obtain ⟨T876, v876, L876, X876, q876, st876⟩ := callSt X0 hx hZ (y := own_m45) hown (own_w hw (i := 69) rfl) (own_w hw (i := 70) rfl) (own_w hw (i := 71) rfl) (own_w hw (i := 72) rfl) (by decide) (rm_named1 hw G so sv kg n bs h0 O0 prem0 prem1 prem2 prem3 (hv0) (hv1) (hv2) (hv3) (hv4)) e0 (W := 0) (by decide) (by decide) (by decide) (by decide) (g := (mkF m 294 #[iv p0, iv p1, iv p2, iv p3, iv p4, iv p5, rv da0, iv ln, s8, rv so, s10, s11] [(.ref so)])) rfl (by rw [hml]; rfl) (argsL := [(.ref so)]) (rest := []) (lenOf pd47 rfl) rfl rfl (Nat.le_of_eq rfl) (D at_294)
    obtain ⟨rfl, N876q, K876q⟩ := q876
    have N876 := Fr.app N0 N876q
    have O878 := Old0.keep O0 K876q all0
    have C877 := CHr.trans C0 (CHr.keep K876q sf0 C0.1)
    have hk := Nat.le_trans hk K876q.1
    refine GoS.of (T' := T876) (f' := (mkF m 304 #[iv p0, iv p1, iv p2, iv p3, iv p4, iv p5, rv da0, iv ln, s8, rv so, rv (A 2), .val .null] [(.ref so)])) (fun _ k => XS.astore X0.here hx rfl (D at_290) rfl rfl (l' := #[iv p0, iv p1, iv p2, iv p3, iv p4, iv p5, rv da0, iv ln, s8, rv so, s10, s11]) (XS.store1 (o := s9) rfl h_s9 rfl) (XS.aload X0.here hx rfl (D at_292) rfl rfl (st876 _ (XS.astore X876.here hx rfl (D at_297) rfl rfl (l' := #[iv p0, iv p1, iv p2, iv p3, iv p4, iv p5, rv da0, iv ln, s8, rv so, rv (A 2), s11]) (XS.store1 (o := s10) rfl h_s10 rfl) (XS.aconstNull X876.here hx rfl (D at_299) (XS.astore X876.here hx rfl (D at_300) rfl rfl (l' := #[iv p0, iv p1, iv p2, iv p3, iv p4, iv p5, rv da0, iv ln, s8, rv so, rv (A 2), .val .null]) (XS.store1 (o := s11) rfl h_s11 rfl) (XS.aload X876.here hx rfl (D at_302) rfl rfl k))))))) ?_
    obtain ⟨c879, T879, h879, k1879, v879, kc879, X879, e879, E879, hS, hk879, hZ, hown, A879, Fc879, Fv879, V879, -, -, Cq879, -, sn879, st879⟩ := ldcCH X876 hx hZ hown (own_w hw (i := 1) rfl) (own_wS hw) rfl hS hk hEL (by decide) C877.1 (vs := [(.int 115), (.int 101), (.int 116)]) (z := (3 : Int32)) ⟨by decide +kernel, by decide +kernel⟩ (by decide) rfl (g := (mkF m 304 #[iv p0, iv p1, iv p2, iv p3, iv p4, iv p5, rv da0, iv ln, s8, rv so, rv (A 2), .val .null] [(.ref so)])) rfl (D at_304) (n := 12) (by decide +kernel) (by decide) (by decide) (by decide)
    have O879 := Old0.ext O878 E879
    have C879 := CHr.trans C877 Cq879
    have hk := hk879
    have f881 : Exa Z h879 so "java/lang/String" := (Exa.ext E879 (Exa.keep prem0 K876q))
    have f882 : Fld Z h879 so "java/lang/String" "value" "[B" (.ref sv) := (Fld.ext E879 (Fld.keep prem1 K876q nin0))
    have f883 : Fld Z h879 so "java/lang/String" "coder" "B" (.int 0) := (Fld.ext E879 (Fld.keep prem2 K876q nin0))
    have f884 : Arv Z h879 sv kg .byte n (bs.map Value.int) (.int 0) := (Arv.ext (Arv.keep prem3 K876q nin0) E879)
    obtain ⟨T880, v880, L880, X880, q880, st880⟩ := callVi X879 hx hZ (y := own_m17) (z := own_m17) hown (own_w hw (i := 104) rfl) (own_w hw (i := 96) rfl) (notFace_of_selects (args := #[]) (mvT hZ (own_w hw (i := 98) rfl))) (own_w hw (i := 98) rfl) (own_w hw (i := 97) rfl) (own_w hw (i := 99) rfl) (own_w hw (i := 2) rfl) (by decide) (rm_eqg_set hw G so c879 sv kg n bs v879 kc879 ((0 : Int32)) h879 O879 f881 f882 f883 f884 A879 Fc879 Fv879 V879 (hv0)) e879 (W := 0) (by decide) (by decide) (by decide) (by decide) f881 (g := (mkF m 306 #[iv p0, iv p1, iv p2, iv p3, iv p4, iv p5, rv da0, iv ln, s8, rv so, rv (A 2), .val .null] [(.ref c879), (.ref so)])) rfl (by rw [hml]; rfl) (argsL := [(.ref c879)]) (rest := []) (lenOf pd44 rfl) rfl rfl (Nat.le_of_eq rfl) (D at_306)
    obtain ⟨rfl, e880, rfl⟩ := q880
    have N880 := Fr.app N876 (Fr.nil _)
    refine GoS.of (T' := T880) (f' := (mkF m 322 #[iv p0, iv p1, iv p2, iv p3, iv p4, iv p5, rv da0, iv ln, s8, rv so, rv (A 2), .val .null] [(.ref so)])) (fun _ k => st879 _ (st880 _ (XS.ifYes X880.here hx rfl (pc0 := 309) (pc' := 320) rfl (D at_309) rfl ((if0 _ _).trans (teq (by decide : (0 : Int32) = (0 : Int32))).1) (by decide) (by decide) (XS.aload X880.here hx rfl (D at_320) rfl rfl k)))) ?_
    obtain ⟨c886, T886, h886, k1886, v886, kc886, X886, e886, E886, hS, hk886, hZ, hown, A886, Fc886, Fv886, V886, -, -, Cq886, -, sn886, st886⟩ := ldcCH X880 hx hZ hown (own_w hw (i := 107) rfl) (own_wS hw) e880 hS hk hEL (by decide) C879.1 (vs := [(.int 108), (.int 105), (.int 115), (.int 116)]) (z := (4 : Int32)) ⟨by decide +kernel, by decide +kernel⟩ (by decide) rfl (g := (mkF m 322 #[iv p0, iv p1, iv p2, iv p3, iv p4, iv p5, rv da0, iv ln, s8, rv so, rv (A 2), .val .null] [(.ref so)])) rfl (D at_322) (n := 16) (by decide +kernel) (by decide) (by decide) (by decide)
    have O886 := Old0.ext O879 E886
    have C886 := CHr.trans C879 Cq886
    have hk := hk886
    have f888 : Exa Z h886 so "java/lang/String" := (Exa.ext E886 f881)
    have f889 : Fld Z h886 so "java/lang/String" "value" "[B" (.ref sv) := (Fld.ext E886 f882)
    have f890 : Fld Z h886 so "java/lang/String" "coder" "B" (.int 0) := (Fld.ext E886 f883)
    have f891 : Arv Z h886 sv kg .byte n (bs.map Value.int) (.int 0) := (Arv.ext f884 E886)
    obtain ⟨T887, v887, L887, X887, q887, st887⟩ := callVi X886 hx hZ (y := own_m17) (z := own_m17) hown (own_w hw (i := 104) rfl) (own_w hw (i := 96) rfl) (notFace_of_selects (args := #[]) (mvT hZ (own_w hw (i := 98) rfl))) (own_w hw (i := 98) rfl) (own_w hw (i := 97) rfl) (own_w hw (i := 99) rfl) (own_w hw (i := 2) rfl) (by decide) (rm_eqg_list hw G so c886 sv kg n bs v886 kc886 ((1 : Int32)) h886 O886 f888 f889 f890 f891 A886 Fc886 Fv886 V886 (hv1)) e886 (W := 0) (by decide) (by decide) (by decide) (by decide) f888 (g := (mkF m 324 #[iv p0, iv p1, iv p2, iv p3, iv p4, iv p5, rv da0, iv ln, s8, rv so, rv (A 2), .val .null] [(.ref c886), (.ref so)])) rfl (by rw [hml]; rfl) (argsL := [(.ref c886)]) (rest := []) (lenOf pd44 rfl) rfl rfl (Nat.le_of_eq rfl) (D at_324)
    obtain ⟨rfl, e887, rfl⟩ := q887
    have N887 := Fr.app N880 (Fr.nil _)
    obtain ⟨T893, X893, e893, st893⟩ := getS2 X887 hx hZ hown (host := "") (Or.inl (own_w hw (i := 112) rfl)) Via.refl e887 (Sta.ext O886 S_LIST) (g := (mkF m 330 #[iv p0, iv p1, iv p2, iv p3, iv p4, iv p5, rv da0, iv ln, s8, rv so, rv (A 2), .val .null] [])) rfl (D at_330)
    refine GoS.of (T' := T893) (f' := (mkF m 401 #[iv p0, iv p1, iv p2, iv p3, iv p4, iv p5, rv da0, iv ln, s8, rv so, rv (A 2), rv (A 2)] [(.int 1)])) (fun _ k => st886 _ (st887 _ (XS.ifNo X887.here hx rfl (D at_327) rfl ((if0 _ _).trans (feq (by decide : ¬ ((1 : Int32) = (0 : Int32)))).1) (st893 _ (XS.astore X893.here hx rfl (D at_333) rfl rfl (l' := #[iv p0, iv p1, iv p2, iv p3, iv p4, iv p5, rv da0, iv ln, s8, rv so, rv (A 2), rv (A 2)]) rfl (XS.goto X893.here hx rfl (pc0 := 335) (pc' := 389) rfl (D at_335) (by decide) (by decide) (XS.aload X893.here hx rfl (D at_389) rfl rfl (XS.aload X893.here hx rfl (D at_391) rfl rfl (Jvm.RoadKit.acmp (g := (mkF m 393 #[iv p0, iv p1, iv p2, iv p3, iv p4, iv p5, rv da0, iv ln, s8, rv so, rv (A 2), rv (A 2)] [(.ref (A 2)), (.ref (A 2))])) X893 hx rfl rfl rfl (pc0 := 393) (pc' := 396) (same := true) rfl (D at_393) rfl (decide_eq_true rfl) (by decide) (by decide) (XS.iconst X893.here hx rfl (D at_396) (XS.goto X893.here hx rfl (pc0 := 397) (pc' := 401) rfl (D at_397) (by decide) (by decide) k))))))))))) ?_
    exact GoS.retB X893 hx hlk hS hk hZ hEL C886 e893 hret (by simp) (D at_401) (by decide) (by decide) (z' := (1 : Int32)) rfl ⟨rfl, N887⟩
  by_cases hq2 : own_eq_bag n bs = 1
  · skip
    have hv0 : own_eq_set n bs = 0 := own_ex_bag_set hq2
    have hv1 : own_eq_list n bs = 0 := own_ex_bag_list hq2
    have hv2 : own_eq_bag n bs = 1 := hq2
    have hv3 : own_eq_idbag n bs = 0 := own_ex_bag_idbag hq2
    have hv4 : own_eq_map n bs = 0 := own_ex_bag_map hq2
    obtain ⟨T895, v895, L895, X895, q895, st895⟩ := callSt X0 hx hZ (y := own_m45) hown (own_w hw (i := 69) rfl) (own_w hw (i := 70) rfl) (own_w hw (i := 71) rfl) (own_w hw (i := 72) rfl) (by decide) (rm_named2 hw G so sv kg n bs h0 O0 prem0 prem1 prem2 prem3 (hv0) (hv1) (hv2) (hv3) (hv4)) e0 (W := 0) (by decide) (by decide) (by decide) (by decide) (g := (mkF m 294 #[iv p0, iv p1, iv p2, iv p3, iv p4, iv p5, rv da0, iv ln, s8, rv so, s10, s11] [(.ref so)])) rfl (by rw [hml]; rfl) (argsL := [(.ref so)]) (rest := []) (lenOf pd47 rfl) rfl rfl (Nat.le_of_eq rfl) (D at_294)
    obtain ⟨rfl, N895q, K895q⟩ := q895
    have N895 := Fr.app N0 N895q
    have O897 := Old0.keep O0 K895q all0
    have C896 := CHr.trans C0 (CHr.keep K895q sf0 C0.1)
    have hk := Nat.le_trans hk K895q.1
    refine GoS.of (T' := T895) (f' := (mkF m 304 #[iv p0, iv p1, iv p2, iv p3, iv p4, iv p5, rv da0, iv ln, s8, rv so, rv (A 3), .val .null] [(.ref so)])) (fun _ k => XS.astore X0.here hx rfl (D at_290) rfl rfl (l' := #[iv p0, iv p1, iv p2, iv p3, iv p4, iv p5, rv da0, iv ln, s8, rv so, s10, s11]) (XS.store1 (o := s9) rfl h_s9 rfl) (XS.aload X0.here hx rfl (D at_292) rfl rfl (st895 _ (XS.astore X895.here hx rfl (D at_297) rfl rfl (l' := #[iv p0, iv p1, iv p2, iv p3, iv p4, iv p5, rv da0, iv ln, s8, rv so, rv (A 3), s11]) (XS.store1 (o := s10) rfl h_s10 rfl) (XS.aconstNull X895.here hx rfl (D at_299) (XS.astore X895.here hx rfl (D at_300) rfl rfl (l' := #[iv p0, iv p1, iv p2, iv p3, iv p4, iv p5, rv da0, iv ln, s8, rv so, rv (A 3), .val .null]) (XS.store1 (o := s11) rfl h_s11 rfl) (XS.aload X895.here hx rfl (D at_302) rfl rfl k))))))) ?_
    obtain ⟨c898, T898, h898, k1898, v898, kc898, X898, e898, E898, hS, hk898, hZ, hown, A898, Fc898, Fv898, V898, -, -, Cq898, -, sn898, st898⟩ := ldcCH X895 hx hZ hown (own_w hw (i := 1) rfl) (own_wS hw) rfl hS hk hEL (by decide) C896.1 (vs := [(.int 115), (.int 101), (.int 116)]) (z := (3 : Int32)) ⟨by decide +kernel, by decide +kernel⟩ (by decide) rfl (g := (mkF m 304 #[iv p0, iv p1, iv p2, iv p3, iv p4, iv p5, rv da0, iv ln, s8, rv so, rv (A 3), .val .null] [(.ref so)])) rfl (D at_304) (n := 12) (by decide +kernel) (by decide) (by decide) (by decide)
    have O898 := Old0.ext O897 E898
    have C898 := CHr.trans C896 Cq898
    have hk := hk898
    have f900 : Exa Z h898 so "java/lang/String" := (Exa.ext E898 (Exa.keep prem0 K895q))
    have f901 : Fld Z h898 so "java/lang/String" "value" "[B" (.ref sv) := (Fld.ext E898 (Fld.keep prem1 K895q nin0))
    have f902 : Fld Z h898 so "java/lang/String" "coder" "B" (.int 0) := (Fld.ext E898 (Fld.keep prem2 K895q nin0))
    have f903 : Arv Z h898 sv kg .byte n (bs.map Value.int) (.int 0) := (Arv.ext (Arv.keep prem3 K895q nin0) E898)
    obtain ⟨T899, v899, L899, X899, q899, st899⟩ := callVi X898 hx hZ (y := own_m17) (z := own_m17) hown (own_w hw (i := 104) rfl) (own_w hw (i := 96) rfl) (notFace_of_selects (args := #[]) (mvT hZ (own_w hw (i := 98) rfl))) (own_w hw (i := 98) rfl) (own_w hw (i := 97) rfl) (own_w hw (i := 99) rfl) (own_w hw (i := 2) rfl) (by decide) (rm_eqg_set hw G so c898 sv kg n bs v898 kc898 ((0 : Int32)) h898 O898 f900 f901 f902 f903 A898 Fc898 Fv898 V898 (hv0)) e898 (W := 0) (by decide) (by decide) (by decide) (by decide) f900 (g := (mkF m 306 #[iv p0, iv p1, iv p2, iv p3, iv p4, iv p5, rv da0, iv ln, s8, rv so, rv (A 3), .val .null] [(.ref c898), (.ref so)])) rfl (by rw [hml]; rfl) (argsL := [(.ref c898)]) (rest := []) (lenOf pd44 rfl) rfl rfl (Nat.le_of_eq rfl) (D at_306)
    obtain ⟨rfl, e899, rfl⟩ := q899
    have N899 := Fr.app N895 (Fr.nil _)
    refine GoS.of (T' := T899) (f' := (mkF m 322 #[iv p0, iv p1, iv p2, iv p3, iv p4, iv p5, rv da0, iv ln, s8, rv so, rv (A 3), .val .null] [(.ref so)])) (fun _ k => st898 _ (st899 _ (XS.ifYes X899.here hx rfl (pc0 := 309) (pc' := 320) rfl (D at_309) rfl ((if0 _ _).trans (teq (by decide : (0 : Int32) = (0 : Int32))).1) (by decide) (by decide) (XS.aload X899.here hx rfl (D at_320) rfl rfl k)))) ?_
    obtain ⟨c905, T905, h905, k1905, v905, kc905, X905, e905, E905, hS, hk905, hZ, hown, A905, Fc905, Fv905, V905, -, -, Cq905, -, sn905, st905⟩ := ldcCH X899 hx hZ hown (own_w hw (i := 107) rfl) (own_wS hw) e899 hS hk hEL (by decide) C898.1 (vs := [(.int 108), (.int 105), (.int 115), (.int 116)]) (z := (4 : Int32)) ⟨by decide +kernel, by decide +kernel⟩ (by decide) rfl (g := (mkF m 322 #[iv p0, iv p1, iv p2, iv p3, iv p4, iv p5, rv da0, iv ln, s8, rv so, rv (A 3), .val .null] [(.ref so)])) rfl (D at_322) (n := 16) (by decide +kernel) (by decide) (by decide) (by decide)
    have O905 := Old0.ext O898 E905
    have C905 := CHr.trans C898 Cq905
    have hk := hk905
    have f907 : Exa Z h905 so "java/lang/String" := (Exa.ext E905 f900)
    have f908 : Fld Z h905 so "java/lang/String" "value" "[B" (.ref sv) := (Fld.ext E905 f901)
    have f909 : Fld Z h905 so "java/lang/String" "coder" "B" (.int 0) := (Fld.ext E905 f902)
    have f910 : Arv Z h905 sv kg .byte n (bs.map Value.int) (.int 0) := (Arv.ext f903 E905)
    obtain ⟨T906, v906, L906, X906, q906, st906⟩ := callVi X905 hx hZ (y := own_m17) (z := own_m17) hown (own_w hw (i := 104) rfl) (own_w hw (i := 96) rfl) (notFace_of_selects (args := #[]) (mvT hZ (own_w hw (i := 98) rfl))) (own_w hw (i := 98) rfl) (own_w hw (i := 97) rfl) (own_w hw (i := 99) rfl) (own_w hw (i := 2) rfl) (by decide) (rm_eqg_list hw G so c905 sv kg n bs v905 kc905 ((0 : Int32)) h905 O905 f907 f908 f909 f910 A905 Fc905 Fv905 V905 (hv1)) e905 (W := 0) (by decide) (by decide) (by decide) (by decide) f907 (g := (mkF m 324 #[iv p0, iv p1, iv p2, iv p3, iv p4, iv p5, rv da0, iv ln, s8, rv so, rv (A 3), .val .null] [(.ref c905), (.ref so)])) rfl (by rw [hml]; rfl) (argsL := [(.ref c905)]) (rest := []) (lenOf pd44 rfl) rfl rfl (Nat.le_of_eq rfl) (D at_324)
    obtain ⟨rfl, e906, rfl⟩ := q906
    have N906 := Fr.app N899 (Fr.nil _)
    refine GoS.of (T' := T906) (f' := (mkF m 340 #[iv p0, iv p1, iv p2, iv p3, iv p4, iv p5, rv da0, iv ln, s8, rv so, rv (A 3), .val .null] [(.ref so)])) (fun _ k => st905 _ (st906 _ (XS.ifYes X906.here hx rfl (pc0 := 327) (pc' := 338) rfl (D at_327) rfl ((if0 _ _).trans (teq (by decide : (0 : Int32) = (0 : Int32))).1) (by decide) (by decide) (XS.aload X906.here hx rfl (D at_338) rfl rfl k)))) ?_
    obtain ⟨c912, T912, h912, k1912, v912, kc912, X912, e912, E912, hS, hk912, hZ, hown, A912, Fc912, Fv912, V912, -, -, Cq912, -, sn912, st912⟩ := ldcCH X906 hx hZ hown (own_w hw (i := 108) rfl) (own_wS hw) e906 hS hk hEL (by decide) C905.1 (vs := [(.int 98), (.int 97), (.int 103)]) (z := (3 : Int32)) ⟨by decide +kernel, by decide +kernel⟩ (by decide) rfl (g := (mkF m 340 #[iv p0, iv p1, iv p2, iv p3, iv p4, iv p5, rv da0, iv ln, s8, rv so, rv (A 3), .val .null] [(.ref so)])) rfl (D at_340) (n := 12) (by decide +kernel) (by decide) (by decide) (by decide)
    have O912 := Old0.ext O905 E912
    have C912 := CHr.trans C905 Cq912
    have hk := hk912
    have f914 : Exa Z h912 so "java/lang/String" := (Exa.ext E912 f907)
    have f915 : Fld Z h912 so "java/lang/String" "value" "[B" (.ref sv) := (Fld.ext E912 f908)
    have f916 : Fld Z h912 so "java/lang/String" "coder" "B" (.int 0) := (Fld.ext E912 f909)
    have f917 : Arv Z h912 sv kg .byte n (bs.map Value.int) (.int 0) := (Arv.ext f910 E912)
    obtain ⟨T913, v913, L913, X913, q913, st913⟩ := callVi X912 hx hZ (y := own_m17) (z := own_m17) hown (own_w hw (i := 104) rfl) (own_w hw (i := 96) rfl) (notFace_of_selects (args := #[]) (mvT hZ (own_w hw (i := 98) rfl))) (own_w hw (i := 98) rfl) (own_w hw (i := 97) rfl) (own_w hw (i := 99) rfl) (own_w hw (i := 2) rfl) (by decide) (rm_eqg_bag hw G so c912 sv kg n bs v912 kc912 ((1 : Int32)) h912 O912 f914 f915 f916 f917 A912 Fc912 Fv912 V912 (hv2)) e912 (W := 0) (by decide) (by decide) (by decide) (by decide) f914 (g := (mkF m 342 #[iv p0, iv p1, iv p2, iv p3, iv p4, iv p5, rv da0, iv ln, s8, rv so, rv (A 3), .val .null] [(.ref c912), (.ref so)])) rfl (by rw [hml]; rfl) (argsL := [(.ref c912)]) (rest := []) (lenOf pd44 rfl) rfl rfl (Nat.le_of_eq rfl) (D at_342)
    obtain ⟨rfl, e913, rfl⟩ := q913
    have N913 := Fr.app N906 (Fr.nil _)
    obtain ⟨T919, X919, e919, st919⟩ := getS2 X913 hx hZ hown (host := "") (Or.inl (own_w hw (i := 113) rfl)) Via.refl e913 (Sta.ext O912 S_BAG) (g := (mkF m 348 #[iv p0, iv p1, iv p2, iv p3, iv p4, iv p5, rv da0, iv ln, s8, rv so, rv (A 3), .val .null] [])) rfl (D at_348)
    refine GoS.of (T' := T919) (f' := (mkF m 401 #[iv p0, iv p1, iv p2, iv p3, iv p4, iv p5, rv da0, iv ln, s8, rv so, rv (A 3), rv (A 3)] [(.int 1)])) (fun _ k => st912 _ (st913 _ (XS.ifNo X913.here hx rfl (D at_345) rfl ((if0 _ _).trans (feq (by decide : ¬ ((1 : Int32) = (0 : Int32)))).1) (st919 _ (XS.astore X919.here hx rfl (D at_351) rfl rfl (l' := #[iv p0, iv p1, iv p2, iv p3, iv p4, iv p5, rv da0, iv ln, s8, rv so, rv (A 3), rv (A 3)]) rfl (XS.goto X919.here hx rfl (pc0 := 353) (pc' := 389) rfl (D at_353) (by decide) (by decide) (XS.aload X919.here hx rfl (D at_389) rfl rfl (XS.aload X919.here hx rfl (D at_391) rfl rfl (Jvm.RoadKit.acmp (g := (mkF m 393 #[iv p0, iv p1, iv p2, iv p3, iv p4, iv p5, rv da0, iv ln, s8, rv so, rv (A 3), rv (A 3)] [(.ref (A 3)), (.ref (A 3))])) X919 hx rfl rfl rfl (pc0 := 393) (pc' := 396) (same := true) rfl (D at_393) rfl (decide_eq_true rfl) (by decide) (by decide) (XS.iconst X919.here hx rfl (D at_396) (XS.goto X919.here hx rfl (pc0 := 397) (pc' := 401) rfl (D at_397) (by decide) (by decide) k))))))))))) ?_
    exact GoS.retB X919 hx hlk hS hk hZ hEL C912 e919 hret (by simp) (D at_401) (by decide) (by decide) (z' := (1 : Int32)) rfl ⟨rfl, N913⟩
  by_cases hq3 : own_eq_idbag n bs = 1
  · skip
    have hv0 : own_eq_set n bs = 0 := own_ex_idbag_set hq3
    have hv1 : own_eq_list n bs = 0 := own_ex_idbag_list hq3
    have hv2 : own_eq_bag n bs = 0 := own_ex_idbag_bag hq3
    have hv3 : own_eq_idbag n bs = 1 := hq3
    have hv4 : own_eq_map n bs = 0 := own_ex_idbag_map hq3
    obtain ⟨T921, v921, L921, X921, q921, st921⟩ := callSt X0 hx hZ (y := own_m45) hown (own_w hw (i := 69) rfl) (own_w hw (i := 70) rfl) (own_w hw (i := 71) rfl) (own_w hw (i := 72) rfl) (by decide) (rm_named3 hw G so sv kg n bs h0 O0 prem0 prem1 prem2 prem3 (hv0) (hv1) (hv2) (hv3) (hv4)) e0 (W := 0) (by decide) (by decide) (by decide) (by decide) (g := (mkF m 294 #[iv p0, iv p1, iv p2, iv p3, iv p4, iv p5, rv da0, iv ln, s8, rv so, s10, s11] [(.ref so)])) rfl (by rw [hml]; rfl) (argsL := [(.ref so)]) (rest := []) (lenOf pd47 rfl) rfl rfl (Nat.le_of_eq rfl) (D at_294)
    obtain ⟨rfl, N921q, K921q⟩ := q921
    have N921 := Fr.app N0 N921q
    have O923 := Old0.keep O0 K921q all0
    have C922 := CHr.trans C0 (CHr.keep K921q sf0 C0.1)
    have hk := Nat.le_trans hk K921q.1
    refine GoS.of (T' := T921) (f' := (mkF m 304 #[iv p0, iv p1, iv p2, iv p3, iv p4, iv p5, rv da0, iv ln, s8, rv so, rv (A 4), .val .null] [(.ref so)])) (fun _ k => XS.astore X0.here hx rfl (D at_290) rfl rfl (l' := #[iv p0, iv p1, iv p2, iv p3, iv p4, iv p5, rv da0, iv ln, s8, rv so, s10, s11]) (XS.store1 (o := s9) rfl h_s9 rfl) (XS.aload X0.here hx rfl (D at_292) rfl rfl (st921 _ (XS.astore X921.here hx rfl (D at_297) rfl rfl (l' := #[iv p0, iv p1, iv p2, iv p3, iv p4, iv p5, rv da0, iv ln, s8, rv so, rv (A 4), s11]) (XS.store1 (o := s10) rfl h_s10 rfl) (XS.aconstNull X921.here hx rfl (D at_299) (XS.astore X921.here hx rfl (D at_300) rfl rfl (l' := #[iv p0, iv p1, iv p2, iv p3, iv p4, iv p5, rv da0, iv ln, s8, rv so, rv (A 4), .val .null]) (XS.store1 (o := s11) rfl h_s11 rfl) (XS.aload X921.here hx rfl (D at_302) rfl rfl k))))))) ?_
    obtain ⟨c924, T924, h924, k1924, v924, kc924, X924, e924, E924, hS, hk924, hZ, hown, A924, Fc924, Fv924, V924, -, -, Cq924, -, sn924, st924⟩ := ldcCH X921 hx hZ hown (own_w hw (i := 1) rfl) (own_wS hw) rfl hS hk hEL (by decide) C922.1 (vs := [(.int 115), (.int 101), (.int 116)]) (z := (3 : Int32)) ⟨by decide +kernel, by decide +kernel⟩ (by decide) rfl (g := (mkF m 304 #[iv p0, iv p1, iv p2, iv p3, iv p4, iv p5, rv da0, iv ln, s8, rv so, rv (A 4), .val .null] [(.ref so)])) rfl (D at_304) (n := 12) (by decide +kernel) (by decide) (by decide) (by decide)
    have O924 := Old0.ext O923 E924
    have C924 := CHr.trans C922 Cq924
    have hk := hk924
    have f926 : Exa Z h924 so "java/lang/String" := (Exa.ext E924 (Exa.keep prem0 K921q))
    have f927 : Fld Z h924 so "java/lang/String" "value" "[B" (.ref sv) := (Fld.ext E924 (Fld.keep prem1 K921q nin0))
    have f928 : Fld Z h924 so "java/lang/String" "coder" "B" (.int 0) := (Fld.ext E924 (Fld.keep prem2 K921q nin0))
    have f929 : Arv Z h924 sv kg .byte n (bs.map Value.int) (.int 0) := (Arv.ext (Arv.keep prem3 K921q nin0) E924)
    obtain ⟨T925, v925, L925, X925, q925, st925⟩ := callVi X924 hx hZ (y := own_m17) (z := own_m17) hown (own_w hw (i := 104) rfl) (own_w hw (i := 96) rfl) (notFace_of_selects (args := #[]) (mvT hZ (own_w hw (i := 98) rfl))) (own_w hw (i := 98) rfl) (own_w hw (i := 97) rfl) (own_w hw (i := 99) rfl) (own_w hw (i := 2) rfl) (by decide) (rm_eqg_set hw G so c924 sv kg n bs v924 kc924 ((0 : Int32)) h924 O924 f926 f927 f928 f929 A924 Fc924 Fv924 V924 (hv0)) e924 (W := 0) (by decide) (by decide) (by decide) (by decide) f926 (g := (mkF m 306 #[iv p0, iv p1, iv p2, iv p3, iv p4, iv p5, rv da0, iv ln, s8, rv so, rv (A 4), .val .null] [(.ref c924), (.ref so)])) rfl (by rw [hml]; rfl) (argsL := [(.ref c924)]) (rest := []) (lenOf pd44 rfl) rfl rfl (Nat.le_of_eq rfl) (D at_306)
    obtain ⟨rfl, e925, rfl⟩ := q925
    have N925 := Fr.app N921 (Fr.nil _)
    refine GoS.of (T' := T925) (f' := (mkF m 322 #[iv p0, iv p1, iv p2, iv p3, iv p4, iv p5, rv da0, iv ln, s8, rv so, rv (A 4), .val .null] [(.ref so)])) (fun _ k => st924 _ (st925 _ (XS.ifYes X925.here hx rfl (pc0 := 309) (pc' := 320) rfl (D at_309) rfl ((if0 _ _).trans (teq (by decide : (0 : Int32) = (0 : Int32))).1) (by decide) (by decide) (XS.aload X925.here hx rfl (D at_320) rfl rfl k)))) ?_
    obtain ⟨c931, T931, h931, k1931, v931, kc931, X931, e931, E931, hS, hk931, hZ, hown, A931, Fc931, Fv931, V931, -, -, Cq931, -, sn931, st931⟩ := ldcCH X925 hx hZ hown (own_w hw (i := 107) rfl) (own_wS hw) e925 hS hk hEL (by decide) C924.1 (vs := [(.int 108), (.int 105), (.int 115), (.int 116)]) (z := (4 : Int32)) ⟨by decide +kernel, by decide +kernel⟩ (by decide) rfl (g := (mkF m 322 #[iv p0, iv p1, iv p2, iv p3, iv p4, iv p5, rv da0, iv ln, s8, rv so, rv (A 4), .val .null] [(.ref so)])) rfl (D at_322) (n := 16) (by decide +kernel) (by decide) (by decide) (by decide)
    have O931 := Old0.ext O924 E931
    have C931 := CHr.trans C924 Cq931
    have hk := hk931
    have f933 : Exa Z h931 so "java/lang/String" := (Exa.ext E931 f926)
    have f934 : Fld Z h931 so "java/lang/String" "value" "[B" (.ref sv) := (Fld.ext E931 f927)
    have f935 : Fld Z h931 so "java/lang/String" "coder" "B" (.int 0) := (Fld.ext E931 f928)
    have f936 : Arv Z h931 sv kg .byte n (bs.map Value.int) (.int 0) := (Arv.ext f929 E931)
    obtain ⟨T932, v932, L932, X932, q932, st932⟩ := callVi X931 hx hZ (y := own_m17) (z := own_m17) hown (own_w hw (i := 104) rfl) (own_w hw (i := 96) rfl) (notFace_of_selects (args := #[]) (mvT hZ (own_w hw (i := 98) rfl))) (own_w hw (i := 98) rfl) (own_w hw (i := 97) rfl) (own_w hw (i := 99) rfl) (own_w hw (i := 2) rfl) (by decide) (rm_eqg_list hw G so c931 sv kg n bs v931 kc931 ((0 : Int32)) h931 O931 f933 f934 f935 f936 A931 Fc931 Fv931 V931 (hv1)) e931 (W := 0) (by decide) (by decide) (by decide) (by decide) f933 (g := (mkF m 324 #[iv p0, iv p1, iv p2, iv p3, iv p4, iv p5, rv da0, iv ln, s8, rv so, rv (A 4), .val .null] [(.ref c931), (.ref so)])) rfl (by rw [hml]; rfl) (argsL := [(.ref c931)]) (rest := []) (lenOf pd44 rfl) rfl rfl (Nat.le_of_eq rfl) (D at_324)
    obtain ⟨rfl, e932, rfl⟩ := q932
    have N932 := Fr.app N925 (Fr.nil _)
    refine GoS.of (T' := T932) (f' := (mkF m 340 #[iv p0, iv p1, iv p2, iv p3, iv p4, iv p5, rv da0, iv ln, s8, rv so, rv (A 4), .val .null] [(.ref so)])) (fun _ k => st931 _ (st932 _ (XS.ifYes X932.here hx rfl (pc0 := 327) (pc' := 338) rfl (D at_327) rfl ((if0 _ _).trans (teq (by decide : (0 : Int32) = (0 : Int32))).1) (by decide) (by decide) (XS.aload X932.here hx rfl (D at_338) rfl rfl k)))) ?_
    obtain ⟨c938, T938, h938, k1938, v938, kc938, X938, e938, E938, hS, hk938, hZ, hown, A938, Fc938, Fv938, V938, -, -, Cq938, -, sn938, st938⟩ := ldcCH X932 hx hZ hown (own_w hw (i := 108) rfl) (own_wS hw) e932 hS hk hEL (by decide) C931.1 (vs := [(.int 98), (.int 97), (.int 103)]) (z := (3 : Int32)) ⟨by decide +kernel, by decide +kernel⟩ (by decide) rfl (g := (mkF m 340 #[iv p0, iv p1, iv p2, iv p3, iv p4, iv p5, rv da0, iv ln, s8, rv so, rv (A 4), .val .null] [(.ref so)])) rfl (D at_340) (n := 12) (by decide +kernel) (by decide) (by decide) (by decide)
    have O938 := Old0.ext O931 E938
    have C938 := CHr.trans C931 Cq938
    have hk := hk938
    have f940 : Exa Z h938 so "java/lang/String" := (Exa.ext E938 f933)
    have f941 : Fld Z h938 so "java/lang/String" "value" "[B" (.ref sv) := (Fld.ext E938 f934)
    have f942 : Fld Z h938 so "java/lang/String" "coder" "B" (.int 0) := (Fld.ext E938 f935)
    have f943 : Arv Z h938 sv kg .byte n (bs.map Value.int) (.int 0) := (Arv.ext f936 E938)
    obtain ⟨T939, v939, L939, X939, q939, st939⟩ := callVi X938 hx hZ (y := own_m17) (z := own_m17) hown (own_w hw (i := 104) rfl) (own_w hw (i := 96) rfl) (notFace_of_selects (args := #[]) (mvT hZ (own_w hw (i := 98) rfl))) (own_w hw (i := 98) rfl) (own_w hw (i := 97) rfl) (own_w hw (i := 99) rfl) (own_w hw (i := 2) rfl) (by decide) (rm_eqg_bag hw G so c938 sv kg n bs v938 kc938 ((0 : Int32)) h938 O938 f940 f941 f942 f943 A938 Fc938 Fv938 V938 (hv2)) e938 (W := 0) (by decide) (by decide) (by decide) (by decide) f940 (g := (mkF m 342 #[iv p0, iv p1, iv p2, iv p3, iv p4, iv p5, rv da0, iv ln, s8, rv so, rv (A 4), .val .null] [(.ref c938), (.ref so)])) rfl (by rw [hml]; rfl) (argsL := [(.ref c938)]) (rest := []) (lenOf pd44 rfl) rfl rfl (Nat.le_of_eq rfl) (D at_342)
    obtain ⟨rfl, e939, rfl⟩ := q939
    have N939 := Fr.app N932 (Fr.nil _)
    refine GoS.of (T' := T939) (f' := (mkF m 358 #[iv p0, iv p1, iv p2, iv p3, iv p4, iv p5, rv da0, iv ln, s8, rv so, rv (A 4), .val .null] [(.ref so)])) (fun _ k => st938 _ (st939 _ (XS.ifYes X939.here hx rfl (pc0 := 345) (pc' := 356) rfl (D at_345) rfl ((if0 _ _).trans (teq (by decide : (0 : Int32) = (0 : Int32))).1) (by decide) (by decide) (XS.aload X939.here hx rfl (D at_356) rfl rfl k)))) ?_
    obtain ⟨c945, T945, h945, k1945, v945, kc945, X945, e945, E945, hS, hk945, hZ, hown, A945, Fc945, Fv945, V945, -, -, Cq945, -, sn945, st945⟩ := ldcCH X939 hx hZ hown (own_w hw (i := 109) rfl) (own_wS hw) e939 hS hk hEL (by decide) C938.1 (vs := [(.int 105), (.int 100), (.int 98), (.int 97), (.int 103)]) (z := (5 : Int32)) ⟨by decide +kernel, by decide +kernel⟩ (by decide) rfl (g := (mkF m 358 #[iv p0, iv p1, iv p2, iv p3, iv p4, iv p5, rv da0, iv ln, s8, rv so, rv (A 4), .val .null] [(.ref so)])) rfl (D at_358) (n := 20) (by decide +kernel) (by decide) (by decide) (by decide)
    have O945 := Old0.ext O938 E945
    have C945 := CHr.trans C938 Cq945
    have hk := hk945
    have f947 : Exa Z h945 so "java/lang/String" := (Exa.ext E945 f940)
    have f948 : Fld Z h945 so "java/lang/String" "value" "[B" (.ref sv) := (Fld.ext E945 f941)
    have f949 : Fld Z h945 so "java/lang/String" "coder" "B" (.int 0) := (Fld.ext E945 f942)
    have f950 : Arv Z h945 sv kg .byte n (bs.map Value.int) (.int 0) := (Arv.ext f943 E945)
    obtain ⟨T946, v946, L946, X946, q946, st946⟩ := callVi X945 hx hZ (y := own_m17) (z := own_m17) hown (own_w hw (i := 104) rfl) (own_w hw (i := 96) rfl) (notFace_of_selects (args := #[]) (mvT hZ (own_w hw (i := 98) rfl))) (own_w hw (i := 98) rfl) (own_w hw (i := 97) rfl) (own_w hw (i := 99) rfl) (own_w hw (i := 2) rfl) (by decide) (rm_eqg_idbag hw G so c945 sv kg n bs v945 kc945 ((1 : Int32)) h945 O945 f947 f948 f949 f950 A945 Fc945 Fv945 V945 (hv3)) e945 (W := 0) (by decide) (by decide) (by decide) (by decide) f947 (g := (mkF m 360 #[iv p0, iv p1, iv p2, iv p3, iv p4, iv p5, rv da0, iv ln, s8, rv so, rv (A 4), .val .null] [(.ref c945), (.ref so)])) rfl (by rw [hml]; rfl) (argsL := [(.ref c945)]) (rest := []) (lenOf pd44 rfl) rfl rfl (Nat.le_of_eq rfl) (D at_360)
    obtain ⟨rfl, e946, rfl⟩ := q946
    have N946 := Fr.app N939 (Fr.nil _)
    obtain ⟨T952, X952, e952, st952⟩ := getS2 X946 hx hZ hown (host := "") (Or.inl (own_w hw (i := 111) rfl)) Via.refl e946 (Sta.ext O945 S_IDBAG) (g := (mkF m 366 #[iv p0, iv p1, iv p2, iv p3, iv p4, iv p5, rv da0, iv ln, s8, rv so, rv (A 4), .val .null] [])) rfl (D at_366)
    refine GoS.of (T' := T952) (f' := (mkF m 401 #[iv p0, iv p1, iv p2, iv p3, iv p4, iv p5, rv da0, iv ln, s8, rv so, rv (A 4), rv (A 4)] [(.int 1)])) (fun _ k => st945 _ (st946 _ (XS.ifNo X946.here hx rfl (D at_363) rfl ((if0 _ _).trans (feq (by decide : ¬ ((1 : Int32) = (0 : Int32)))).1) (st952 _ (XS.astore X952.here hx rfl (D at_369) rfl rfl (l' := #[iv p0, iv p1, iv p2, iv p3, iv p4, iv p5, rv da0, iv ln, s8, rv so, rv (A 4), rv (A 4)]) rfl (XS.goto X952.here hx rfl (pc0 := 371) (pc' := 389) rfl (D at_371) (by decide) (by decide) (XS.aload X952.here hx rfl (D at_389) rfl rfl (XS.aload X952.here hx rfl (D at_391) rfl rfl (Jvm.RoadKit.acmp (g := (mkF m 393 #[iv p0, iv p1, iv p2, iv p3, iv p4, iv p5, rv da0, iv ln, s8, rv so, rv (A 4), rv (A 4)] [(.ref (A 4)), (.ref (A 4))])) X952 hx rfl rfl rfl (pc0 := 393) (pc' := 396) (same := true) rfl (D at_393) rfl (decide_eq_true rfl) (by decide) (by decide) (XS.iconst X952.here hx rfl (D at_396) (XS.goto X952.here hx rfl (pc0 := 397) (pc' := 401) rfl (D at_397) (by decide) (by decide) k))))))))))) ?_
    exact GoS.retB X952 hx hlk hS hk hZ hEL C945 e952 hret (by simp) (D at_401) (by decide) (by decide) (z' := (1 : Int32)) rfl ⟨rfl, N946⟩
  by_cases hq4 : own_eq_map n bs = 1
  · skip
    have hv0 : own_eq_set n bs = 0 := own_ex_map_set hq4
    have hv1 : own_eq_list n bs = 0 := own_ex_map_list hq4
    have hv2 : own_eq_bag n bs = 0 := own_ex_map_bag hq4
    have hv3 : own_eq_idbag n bs = 0 := own_ex_map_idbag hq4
    have hv4 : own_eq_map n bs = 1 := hq4
    obtain ⟨T954, v954, L954, X954, q954, st954⟩ := callSt X0 hx hZ (y := own_m45) hown (own_w hw (i := 69) rfl) (own_w hw (i := 70) rfl) (own_w hw (i := 71) rfl) (own_w hw (i := 72) rfl) (by decide) (rm_named4 hw G so sv kg n bs h0 O0 prem0 prem1 prem2 prem3 (hv0) (hv1) (hv2) (hv3) (hv4)) e0 (W := 0) (by decide) (by decide) (by decide) (by decide) (g := (mkF m 294 #[iv p0, iv p1, iv p2, iv p3, iv p4, iv p5, rv da0, iv ln, s8, rv so, s10, s11] [(.ref so)])) rfl (by rw [hml]; rfl) (argsL := [(.ref so)]) (rest := []) (lenOf pd47 rfl) rfl rfl (Nat.le_of_eq rfl) (D at_294)
    obtain ⟨rfl, N954q, K954q⟩ := q954
    have N954 := Fr.app N0 N954q
    have O956 := Old0.keep O0 K954q all0
    have C955 := CHr.trans C0 (CHr.keep K954q sf0 C0.1)
    have hk := Nat.le_trans hk K954q.1
    refine GoS.of (T' := T954) (f' := (mkF m 304 #[iv p0, iv p1, iv p2, iv p3, iv p4, iv p5, rv da0, iv ln, s8, rv so, rv (A 5), .val .null] [(.ref so)])) (fun _ k => XS.astore X0.here hx rfl (D at_290) rfl rfl (l' := #[iv p0, iv p1, iv p2, iv p3, iv p4, iv p5, rv da0, iv ln, s8, rv so, s10, s11]) (XS.store1 (o := s9) rfl h_s9 rfl) (XS.aload X0.here hx rfl (D at_292) rfl rfl (st954 _ (XS.astore X954.here hx rfl (D at_297) rfl rfl (l' := #[iv p0, iv p1, iv p2, iv p3, iv p4, iv p5, rv da0, iv ln, s8, rv so, rv (A 5), s11]) (XS.store1 (o := s10) rfl h_s10 rfl) (XS.aconstNull X954.here hx rfl (D at_299) (XS.astore X954.here hx rfl (D at_300) rfl rfl (l' := #[iv p0, iv p1, iv p2, iv p3, iv p4, iv p5, rv da0, iv ln, s8, rv so, rv (A 5), .val .null]) (XS.store1 (o := s11) rfl h_s11 rfl) (XS.aload X954.here hx rfl (D at_302) rfl rfl k))))))) ?_
    obtain ⟨c957, T957, h957, k1957, v957, kc957, X957, e957, E957, hS, hk957, hZ, hown, A957, Fc957, Fv957, V957, -, -, Cq957, -, sn957, st957⟩ := ldcCH X954 hx hZ hown (own_w hw (i := 1) rfl) (own_wS hw) rfl hS hk hEL (by decide) C955.1 (vs := [(.int 115), (.int 101), (.int 116)]) (z := (3 : Int32)) ⟨by decide +kernel, by decide +kernel⟩ (by decide) rfl (g := (mkF m 304 #[iv p0, iv p1, iv p2, iv p3, iv p4, iv p5, rv da0, iv ln, s8, rv so, rv (A 5), .val .null] [(.ref so)])) rfl (D at_304) (n := 12) (by decide +kernel) (by decide) (by decide) (by decide)
    have O957 := Old0.ext O956 E957
    have C957 := CHr.trans C955 Cq957
    have hk := hk957
    have f959 : Exa Z h957 so "java/lang/String" := (Exa.ext E957 (Exa.keep prem0 K954q))
    have f960 : Fld Z h957 so "java/lang/String" "value" "[B" (.ref sv) := (Fld.ext E957 (Fld.keep prem1 K954q nin0))
    have f961 : Fld Z h957 so "java/lang/String" "coder" "B" (.int 0) := (Fld.ext E957 (Fld.keep prem2 K954q nin0))
    have f962 : Arv Z h957 sv kg .byte n (bs.map Value.int) (.int 0) := (Arv.ext (Arv.keep prem3 K954q nin0) E957)
    obtain ⟨T958, v958, L958, X958, q958, st958⟩ := callVi X957 hx hZ (y := own_m17) (z := own_m17) hown (own_w hw (i := 104) rfl) (own_w hw (i := 96) rfl) (notFace_of_selects (args := #[]) (mvT hZ (own_w hw (i := 98) rfl))) (own_w hw (i := 98) rfl) (own_w hw (i := 97) rfl) (own_w hw (i := 99) rfl) (own_w hw (i := 2) rfl) (by decide) (rm_eqg_set hw G so c957 sv kg n bs v957 kc957 ((0 : Int32)) h957 O957 f959 f960 f961 f962 A957 Fc957 Fv957 V957 (hv0)) e957 (W := 0) (by decide) (by decide) (by decide) (by decide) f959 (g := (mkF m 306 #[iv p0, iv p1, iv p2, iv p3, iv p4, iv p5, rv da0, iv ln, s8, rv so, rv (A 5), .val .null] [(.ref c957), (.ref so)])) rfl (by rw [hml]; rfl) (argsL := [(.ref c957)]) (rest := []) (lenOf pd44 rfl) rfl rfl (Nat.le_of_eq rfl) (D at_306)
    obtain ⟨rfl, e958, rfl⟩ := q958
    have N958 := Fr.app N954 (Fr.nil _)
    refine GoS.of (T' := T958) (f' := (mkF m 322 #[iv p0, iv p1, iv p2, iv p3, iv p4, iv p5, rv da0, iv ln, s8, rv so, rv (A 5), .val .null] [(.ref so)])) (fun _ k => st957 _ (st958 _ (XS.ifYes X958.here hx rfl (pc0 := 309) (pc' := 320) rfl (D at_309) rfl ((if0 _ _).trans (teq (by decide : (0 : Int32) = (0 : Int32))).1) (by decide) (by decide) (XS.aload X958.here hx rfl (D at_320) rfl rfl k)))) ?_
    obtain ⟨c964, T964, h964, k1964, v964, kc964, X964, e964, E964, hS, hk964, hZ, hown, A964, Fc964, Fv964, V964, -, -, Cq964, -, sn964, st964⟩ := ldcCH X958 hx hZ hown (own_w hw (i := 107) rfl) (own_wS hw) e958 hS hk hEL (by decide) C957.1 (vs := [(.int 108), (.int 105), (.int 115), (.int 116)]) (z := (4 : Int32)) ⟨by decide +kernel, by decide +kernel⟩ (by decide) rfl (g := (mkF m 322 #[iv p0, iv p1, iv p2, iv p3, iv p4, iv p5, rv da0, iv ln, s8, rv so, rv (A 5), .val .null] [(.ref so)])) rfl (D at_322) (n := 16) (by decide +kernel) (by decide) (by decide) (by decide)
    have O964 := Old0.ext O957 E964
    have C964 := CHr.trans C957 Cq964
    have hk := hk964
    have f966 : Exa Z h964 so "java/lang/String" := (Exa.ext E964 f959)
    have f967 : Fld Z h964 so "java/lang/String" "value" "[B" (.ref sv) := (Fld.ext E964 f960)
    have f968 : Fld Z h964 so "java/lang/String" "coder" "B" (.int 0) := (Fld.ext E964 f961)
    have f969 : Arv Z h964 sv kg .byte n (bs.map Value.int) (.int 0) := (Arv.ext f962 E964)
    obtain ⟨T965, v965, L965, X965, q965, st965⟩ := callVi X964 hx hZ (y := own_m17) (z := own_m17) hown (own_w hw (i := 104) rfl) (own_w hw (i := 96) rfl) (notFace_of_selects (args := #[]) (mvT hZ (own_w hw (i := 98) rfl))) (own_w hw (i := 98) rfl) (own_w hw (i := 97) rfl) (own_w hw (i := 99) rfl) (own_w hw (i := 2) rfl) (by decide) (rm_eqg_list hw G so c964 sv kg n bs v964 kc964 ((0 : Int32)) h964 O964 f966 f967 f968 f969 A964 Fc964 Fv964 V964 (hv1)) e964 (W := 0) (by decide) (by decide) (by decide) (by decide) f966 (g := (mkF m 324 #[iv p0, iv p1, iv p2, iv p3, iv p4, iv p5, rv da0, iv ln, s8, rv so, rv (A 5), .val .null] [(.ref c964), (.ref so)])) rfl (by rw [hml]; rfl) (argsL := [(.ref c964)]) (rest := []) (lenOf pd44 rfl) rfl rfl (Nat.le_of_eq rfl) (D at_324)
    obtain ⟨rfl, e965, rfl⟩ := q965
    have N965 := Fr.app N958 (Fr.nil _)
    refine GoS.of (T' := T965) (f' := (mkF m 340 #[iv p0, iv p1, iv p2, iv p3, iv p4, iv p5, rv da0, iv ln, s8, rv so, rv (A 5), .val .null] [(.ref so)])) (fun _ k => st964 _ (st965 _ (XS.ifYes X965.here hx rfl (pc0 := 327) (pc' := 338) rfl (D at_327) rfl ((if0 _ _).trans (teq (by decide : (0 : Int32) = (0 : Int32))).1) (by decide) (by decide) (XS.aload X965.here hx rfl (D at_338) rfl rfl k)))) ?_
    obtain ⟨c971, T971, h971, k1971, v971, kc971, X971, e971, E971, hS, hk971, hZ, hown, A971, Fc971, Fv971, V971, -, -, Cq971, -, sn971, st971⟩ := ldcCH X965 hx hZ hown (own_w hw (i := 108) rfl) (own_wS hw) e965 hS hk hEL (by decide) C964.1 (vs := [(.int 98), (.int 97), (.int 103)]) (z := (3 : Int32)) ⟨by decide +kernel, by decide +kernel⟩ (by decide) rfl (g := (mkF m 340 #[iv p0, iv p1, iv p2, iv p3, iv p4, iv p5, rv da0, iv ln, s8, rv so, rv (A 5), .val .null] [(.ref so)])) rfl (D at_340) (n := 12) (by decide +kernel) (by decide) (by decide) (by decide)
    have O971 := Old0.ext O964 E971
    have C971 := CHr.trans C964 Cq971
    have hk := hk971
    have f973 : Exa Z h971 so "java/lang/String" := (Exa.ext E971 f966)
    have f974 : Fld Z h971 so "java/lang/String" "value" "[B" (.ref sv) := (Fld.ext E971 f967)
    have f975 : Fld Z h971 so "java/lang/String" "coder" "B" (.int 0) := (Fld.ext E971 f968)
    have f976 : Arv Z h971 sv kg .byte n (bs.map Value.int) (.int 0) := (Arv.ext f969 E971)
    obtain ⟨T972, v972, L972, X972, q972, st972⟩ := callVi X971 hx hZ (y := own_m17) (z := own_m17) hown (own_w hw (i := 104) rfl) (own_w hw (i := 96) rfl) (notFace_of_selects (args := #[]) (mvT hZ (own_w hw (i := 98) rfl))) (own_w hw (i := 98) rfl) (own_w hw (i := 97) rfl) (own_w hw (i := 99) rfl) (own_w hw (i := 2) rfl) (by decide) (rm_eqg_bag hw G so c971 sv kg n bs v971 kc971 ((0 : Int32)) h971 O971 f973 f974 f975 f976 A971 Fc971 Fv971 V971 (hv2)) e971 (W := 0) (by decide) (by decide) (by decide) (by decide) f973 (g := (mkF m 342 #[iv p0, iv p1, iv p2, iv p3, iv p4, iv p5, rv da0, iv ln, s8, rv so, rv (A 5), .val .null] [(.ref c971), (.ref so)])) rfl (by rw [hml]; rfl) (argsL := [(.ref c971)]) (rest := []) (lenOf pd44 rfl) rfl rfl (Nat.le_of_eq rfl) (D at_342)
    obtain ⟨rfl, e972, rfl⟩ := q972
    have N972 := Fr.app N965 (Fr.nil _)
    refine GoS.of (T' := T972) (f' := (mkF m 358 #[iv p0, iv p1, iv p2, iv p3, iv p4, iv p5, rv da0, iv ln, s8, rv so, rv (A 5), .val .null] [(.ref so)])) (fun _ k => st971 _ (st972 _ (XS.ifYes X972.here hx rfl (pc0 := 345) (pc' := 356) rfl (D at_345) rfl ((if0 _ _).trans (teq (by decide : (0 : Int32) = (0 : Int32))).1) (by decide) (by decide) (XS.aload X972.here hx rfl (D at_356) rfl rfl k)))) ?_
    obtain ⟨c978, T978, h978, k1978, v978, kc978, X978, e978, E978, hS, hk978, hZ, hown, A978, Fc978, Fv978, V978, -, -, Cq978, -, sn978, st978⟩ := ldcCH X972 hx hZ hown (own_w hw (i := 109) rfl) (own_wS hw) e972 hS hk hEL (by decide) C971.1 (vs := [(.int 105), (.int 100), (.int 98), (.int 97), (.int 103)]) (z := (5 : Int32)) ⟨by decide +kernel, by decide +kernel⟩ (by decide) rfl (g := (mkF m 358 #[iv p0, iv p1, iv p2, iv p3, iv p4, iv p5, rv da0, iv ln, s8, rv so, rv (A 5), .val .null] [(.ref so)])) rfl (D at_358) (n := 20) (by decide +kernel) (by decide) (by decide) (by decide)
    have O978 := Old0.ext O971 E978
    have C978 := CHr.trans C971 Cq978
    have hk := hk978
    have f980 : Exa Z h978 so "java/lang/String" := (Exa.ext E978 f973)
    have f981 : Fld Z h978 so "java/lang/String" "value" "[B" (.ref sv) := (Fld.ext E978 f974)
    have f982 : Fld Z h978 so "java/lang/String" "coder" "B" (.int 0) := (Fld.ext E978 f975)
    have f983 : Arv Z h978 sv kg .byte n (bs.map Value.int) (.int 0) := (Arv.ext f976 E978)
    obtain ⟨T979, v979, L979, X979, q979, st979⟩ := callVi X978 hx hZ (y := own_m17) (z := own_m17) hown (own_w hw (i := 104) rfl) (own_w hw (i := 96) rfl) (notFace_of_selects (args := #[]) (mvT hZ (own_w hw (i := 98) rfl))) (own_w hw (i := 98) rfl) (own_w hw (i := 97) rfl) (own_w hw (i := 99) rfl) (own_w hw (i := 2) rfl) (by decide) (rm_eqg_idbag hw G so c978 sv kg n bs v978 kc978 ((0 : Int32)) h978 O978 f980 f981 f982 f983 A978 Fc978 Fv978 V978 (hv3)) e978 (W := 0) (by decide) (by decide) (by decide) (by decide) f980 (g := (mkF m 360 #[iv p0, iv p1, iv p2, iv p3, iv p4, iv p5, rv da0, iv ln, s8, rv so, rv (A 5), .val .null] [(.ref c978), (.ref so)])) rfl (by rw [hml]; rfl) (argsL := [(.ref c978)]) (rest := []) (lenOf pd44 rfl) rfl rfl (Nat.le_of_eq rfl) (D at_360)
    obtain ⟨rfl, e979, rfl⟩ := q979
    have N979 := Fr.app N972 (Fr.nil _)
    refine GoS.of (T' := T979) (f' := (mkF m 376 #[iv p0, iv p1, iv p2, iv p3, iv p4, iv p5, rv da0, iv ln, s8, rv so, rv (A 5), .val .null] [(.ref so)])) (fun _ k => st978 _ (st979 _ (XS.ifYes X979.here hx rfl (pc0 := 363) (pc' := 374) rfl (D at_363) rfl ((if0 _ _).trans (teq (by decide : (0 : Int32) = (0 : Int32))).1) (by decide) (by decide) (XS.aload X979.here hx rfl (D at_374) rfl rfl k)))) ?_
    obtain ⟨c985, T985, h985, k1985, v985, kc985, X985, e985, E985, hS, hk985, hZ, hown, A985, Fc985, Fv985, V985, -, -, Cq985, -, sn985, st985⟩ := ldcCH X979 hx hZ hown (own_w hw (i := 106) rfl) (own_wS hw) e979 hS hk hEL (by decide) C978.1 (vs := [(.int 109), (.int 97), (.int 112)]) (z := (3 : Int32)) ⟨by decide +kernel, by decide +kernel⟩ (by decide) rfl (g := (mkF m 376 #[iv p0, iv p1, iv p2, iv p3, iv p4, iv p5, rv da0, iv ln, s8, rv so, rv (A 5), .val .null] [(.ref so)])) rfl (D at_376) (n := 12) (by decide +kernel) (by decide) (by decide) (by decide)
    have O985 := Old0.ext O978 E985
    have C985 := CHr.trans C978 Cq985
    have hk := hk985
    have f987 : Exa Z h985 so "java/lang/String" := (Exa.ext E985 f980)
    have f988 : Fld Z h985 so "java/lang/String" "value" "[B" (.ref sv) := (Fld.ext E985 f981)
    have f989 : Fld Z h985 so "java/lang/String" "coder" "B" (.int 0) := (Fld.ext E985 f982)
    have f990 : Arv Z h985 sv kg .byte n (bs.map Value.int) (.int 0) := (Arv.ext f983 E985)
    obtain ⟨T986, v986, L986, X986, q986, st986⟩ := callVi X985 hx hZ (y := own_m17) (z := own_m17) hown (own_w hw (i := 104) rfl) (own_w hw (i := 96) rfl) (notFace_of_selects (args := #[]) (mvT hZ (own_w hw (i := 98) rfl))) (own_w hw (i := 98) rfl) (own_w hw (i := 97) rfl) (own_w hw (i := 99) rfl) (own_w hw (i := 2) rfl) (by decide) (rm_eqg_map hw G so c985 sv kg n bs v985 kc985 ((1 : Int32)) h985 O985 f987 f988 f989 f990 A985 Fc985 Fv985 V985 (hv4)) e985 (W := 0) (by decide) (by decide) (by decide) (by decide) f987 (g := (mkF m 378 #[iv p0, iv p1, iv p2, iv p3, iv p4, iv p5, rv da0, iv ln, s8, rv so, rv (A 5), .val .null] [(.ref c985), (.ref so)])) rfl (by rw [hml]; rfl) (argsL := [(.ref c985)]) (rest := []) (lenOf pd44 rfl) rfl rfl (Nat.le_of_eq rfl) (D at_378)
    obtain ⟨rfl, e986, rfl⟩ := q986
    have N986 := Fr.app N979 (Fr.nil _)
    obtain ⟨T992, X992, e992, st992⟩ := getS2 X986 hx hZ hown (host := "") (Or.inl (own_w hw (i := 110) rfl)) Via.refl e986 (Sta.ext O985 S_MAP) (g := (mkF m 384 #[iv p0, iv p1, iv p2, iv p3, iv p4, iv p5, rv da0, iv ln, s8, rv so, rv (A 5), .val .null] [])) rfl (D at_384)
    refine GoS.of (T' := T992) (f' := (mkF m 401 #[iv p0, iv p1, iv p2, iv p3, iv p4, iv p5, rv da0, iv ln, s8, rv so, rv (A 5), rv (A 5)] [(.int 1)])) (fun _ k => st985 _ (st986 _ (XS.ifNo X986.here hx rfl (D at_381) rfl ((if0 _ _).trans (feq (by decide : ¬ ((1 : Int32) = (0 : Int32)))).1) (st992 _ (XS.astore X992.here hx rfl (D at_387) rfl rfl (l' := #[iv p0, iv p1, iv p2, iv p3, iv p4, iv p5, rv da0, iv ln, s8, rv so, rv (A 5), rv (A 5)]) rfl (XS.aload X992.here hx rfl (D at_389) rfl rfl (XS.aload X992.here hx rfl (D at_391) rfl rfl (Jvm.RoadKit.acmp (g := (mkF m 393 #[iv p0, iv p1, iv p2, iv p3, iv p4, iv p5, rv da0, iv ln, s8, rv so, rv (A 5), rv (A 5)] [(.ref (A 5)), (.ref (A 5))])) X992 hx rfl rfl rfl (pc0 := 393) (pc' := 396) (same := true) rfl (D at_393) rfl (decide_eq_true rfl) (by decide) (by decide) (XS.iconst X992.here hx rfl (D at_396) (XS.goto X992.here hx rfl (pc0 := 397) (pc' := 401) rfl (D at_397) (by decide) (by decide) k)))))))))) ?_
    exact GoS.retB X992 hx hlk hS hk hZ hEL C985 e992 hret (by simp) (D at_401) (by decide) (by decide) (z' := (1 : Int32)) rfl ⟨rfl, N986⟩
  have hv0 := own_01_set hq0
  have hv1 := own_01_list hq1
  have hv2 := own_01_bag hq2
  have hv3 := own_01_idbag hq3
  have hv4 := own_01_map hq4
  obtain ⟨T994, v994, L994, X994, q994, st994⟩ := callSt X0 hx hZ (y := own_m45) hown (own_w hw (i := 69) rfl) (own_w hw (i := 70) rfl) (own_w hw (i := 71) rfl) (own_w hw (i := 72) rfl) (by decide) (rm_named5 hw G so sv kg n bs h0 O0 prem0 prem1 prem2 prem3 (hv0) (hv1) (hv2) (hv3) (hv4)) e0 (W := 0) (by decide) (by decide) (by decide) (by decide) (g := (mkF m 294 #[iv p0, iv p1, iv p2, iv p3, iv p4, iv p5, rv da0, iv ln, s8, rv so, s10, s11] [(.ref so)])) rfl (by rw [hml]; rfl) (argsL := [(.ref so)]) (rest := []) (lenOf pd47 rfl) rfl rfl (Nat.le_of_eq rfl) (D at_294)
  obtain ⟨rfl, N994q, K994q⟩ := q994
  have N994 := Fr.app N0 N994q
  have O996 := Old0.keep O0 K994q all0
  have C995 := CHr.trans C0 (CHr.keep K994q sf0 C0.1)
  have hk := Nat.le_trans hk K994q.1
  refine GoS.of (T' := T994) (f' := (mkF m 304 #[iv p0, iv p1, iv p2, iv p3, iv p4, iv p5, rv da0, iv ln, s8, rv so, .val .null, .val .null] [(.ref so)])) (fun _ k => XS.astore X0.here hx rfl (D at_290) rfl rfl (l' := #[iv p0, iv p1, iv p2, iv p3, iv p4, iv p5, rv da0, iv ln, s8, rv so, s10, s11]) (XS.store1 (o := s9) rfl h_s9 rfl) (XS.aload X0.here hx rfl (D at_292) rfl rfl (st994 _ (XS.astore X994.here hx rfl (D at_297) rfl rfl (l' := #[iv p0, iv p1, iv p2, iv p3, iv p4, iv p5, rv da0, iv ln, s8, rv so, .val .null, s11]) (XS.store1 (o := s10) rfl h_s10 rfl) (XS.aconstNull X994.here hx rfl (D at_299) (XS.astore X994.here hx rfl (D at_300) rfl rfl (l' := #[iv p0, iv p1, iv p2, iv p3, iv p4, iv p5, rv da0, iv ln, s8, rv so, .val .null, .val .null]) (XS.store1 (o := s11) rfl h_s11 rfl) (XS.aload X994.here hx rfl (D at_302) rfl rfl k))))))) ?_
  obtain ⟨c997, T997, h997, k1997, v997, kc997, X997, e997, E997, hS, hk997, hZ, hown, A997, Fc997, Fv997, V997, -, -, Cq997, -, sn997, st997⟩ := ldcCH X994 hx hZ hown (own_w hw (i := 1) rfl) (own_wS hw) rfl hS hk hEL (by decide) C995.1 (vs := [(.int 115), (.int 101), (.int 116)]) (z := (3 : Int32)) ⟨by decide +kernel, by decide +kernel⟩ (by decide) rfl (g := (mkF m 304 #[iv p0, iv p1, iv p2, iv p3, iv p4, iv p5, rv da0, iv ln, s8, rv so, .val .null, .val .null] [(.ref so)])) rfl (D at_304) (n := 12) (by decide +kernel) (by decide) (by decide) (by decide)
  have O997 := Old0.ext O996 E997
  have C997 := CHr.trans C995 Cq997
  have hk := hk997
  have f999 : Exa Z h997 so "java/lang/String" := (Exa.ext E997 (Exa.keep prem0 K994q))
  have f1000 : Fld Z h997 so "java/lang/String" "value" "[B" (.ref sv) := (Fld.ext E997 (Fld.keep prem1 K994q nin0))
  have f1001 : Fld Z h997 so "java/lang/String" "coder" "B" (.int 0) := (Fld.ext E997 (Fld.keep prem2 K994q nin0))
  have f1002 : Arv Z h997 sv kg .byte n (bs.map Value.int) (.int 0) := (Arv.ext (Arv.keep prem3 K994q nin0) E997)
  obtain ⟨T998, v998, L998, X998, q998, st998⟩ := callVi X997 hx hZ (y := own_m17) (z := own_m17) hown (own_w hw (i := 104) rfl) (own_w hw (i := 96) rfl) (notFace_of_selects (args := #[]) (mvT hZ (own_w hw (i := 98) rfl))) (own_w hw (i := 98) rfl) (own_w hw (i := 97) rfl) (own_w hw (i := 99) rfl) (own_w hw (i := 2) rfl) (by decide) (rm_eqg_set hw G so c997 sv kg n bs v997 kc997 ((0 : Int32)) h997 O997 f999 f1000 f1001 f1002 A997 Fc997 Fv997 V997 (hv0)) e997 (W := 0) (by decide) (by decide) (by decide) (by decide) f999 (g := (mkF m 306 #[iv p0, iv p1, iv p2, iv p3, iv p4, iv p5, rv da0, iv ln, s8, rv so, .val .null, .val .null] [(.ref c997), (.ref so)])) rfl (by rw [hml]; rfl) (argsL := [(.ref c997)]) (rest := []) (lenOf pd44 rfl) rfl rfl (Nat.le_of_eq rfl) (D at_306)
  obtain ⟨rfl, e998, rfl⟩ := q998
  have N998 := Fr.app N994 (Fr.nil _)
  refine GoS.of (T' := T998) (f' := (mkF m 322 #[iv p0, iv p1, iv p2, iv p3, iv p4, iv p5, rv da0, iv ln, s8, rv so, .val .null, .val .null] [(.ref so)])) (fun _ k => st997 _ (st998 _ (XS.ifYes X998.here hx rfl (pc0 := 309) (pc' := 320) rfl (D at_309) rfl ((if0 _ _).trans (teq (by decide : (0 : Int32) = (0 : Int32))).1) (by decide) (by decide) (XS.aload X998.here hx rfl (D at_320) rfl rfl k)))) ?_
  obtain ⟨c1004, T1004, h1004, k11004, v1004, kc1004, X1004, e1004, E1004, hS, hk1004, hZ, hown, A1004, Fc1004, Fv1004, V1004, -, -, Cq1004, -, sn1004, st1004⟩ := ldcCH X998 hx hZ hown (own_w hw (i := 107) rfl) (own_wS hw) e998 hS hk hEL (by decide) C997.1 (vs := [(.int 108), (.int 105), (.int 115), (.int 116)]) (z := (4 : Int32)) ⟨by decide +kernel, by decide +kernel⟩ (by decide) rfl (g := (mkF m 322 #[iv p0, iv p1, iv p2, iv p3, iv p4, iv p5, rv da0, iv ln, s8, rv so, .val .null, .val .null] [(.ref so)])) rfl (D at_322) (n := 16) (by decide +kernel) (by decide) (by decide) (by decide)
  have O1004 := Old0.ext O997 E1004
  have C1004 := CHr.trans C997 Cq1004
  have hk := hk1004
  have f1006 : Exa Z h1004 so "java/lang/String" := (Exa.ext E1004 f999)
  have f1007 : Fld Z h1004 so "java/lang/String" "value" "[B" (.ref sv) := (Fld.ext E1004 f1000)
  have f1008 : Fld Z h1004 so "java/lang/String" "coder" "B" (.int 0) := (Fld.ext E1004 f1001)
  have f1009 : Arv Z h1004 sv kg .byte n (bs.map Value.int) (.int 0) := (Arv.ext f1002 E1004)
  obtain ⟨T1005, v1005, L1005, X1005, q1005, st1005⟩ := callVi X1004 hx hZ (y := own_m17) (z := own_m17) hown (own_w hw (i := 104) rfl) (own_w hw (i := 96) rfl) (notFace_of_selects (args := #[]) (mvT hZ (own_w hw (i := 98) rfl))) (own_w hw (i := 98) rfl) (own_w hw (i := 97) rfl) (own_w hw (i := 99) rfl) (own_w hw (i := 2) rfl) (by decide) (rm_eqg_list hw G so c1004 sv kg n bs v1004 kc1004 ((0 : Int32)) h1004 O1004 f1006 f1007 f1008 f1009 A1004 Fc1004 Fv1004 V1004 (hv1)) e1004 (W := 0) (by decide) (by decide) (by decide) (by decide) f1006 (g := (mkF m 324 #[iv p0, iv p1, iv p2, iv p3, iv p4, iv p5, rv da0, iv ln, s8, rv so, .val .null, .val .null] [(.ref c1004), (.ref so)])) rfl (by rw [hml]; rfl) (argsL := [(.ref c1004)]) (rest := []) (lenOf pd44 rfl) rfl rfl (Nat.le_of_eq rfl) (D at_324)
  obtain ⟨rfl, e1005, rfl⟩ := q1005
  have N1005 := Fr.app N998 (Fr.nil _)
  refine GoS.of (T' := T1005) (f' := (mkF m 340 #[iv p0, iv p1, iv p2, iv p3, iv p4, iv p5, rv da0, iv ln, s8, rv so, .val .null, .val .null] [(.ref so)])) (fun _ k => st1004 _ (st1005 _ (XS.ifYes X1005.here hx rfl (pc0 := 327) (pc' := 338) rfl (D at_327) rfl ((if0 _ _).trans (teq (by decide : (0 : Int32) = (0 : Int32))).1) (by decide) (by decide) (XS.aload X1005.here hx rfl (D at_338) rfl rfl k)))) ?_
  obtain ⟨c1011, T1011, h1011, k11011, v1011, kc1011, X1011, e1011, E1011, hS, hk1011, hZ, hown, A1011, Fc1011, Fv1011, V1011, -, -, Cq1011, -, sn1011, st1011⟩ := ldcCH X1005 hx hZ hown (own_w hw (i := 108) rfl) (own_wS hw) e1005 hS hk hEL (by decide) C1004.1 (vs := [(.int 98), (.int 97), (.int 103)]) (z := (3 : Int32)) ⟨by decide +kernel, by decide +kernel⟩ (by decide) rfl (g := (mkF m 340 #[iv p0, iv p1, iv p2, iv p3, iv p4, iv p5, rv da0, iv ln, s8, rv so, .val .null, .val .null] [(.ref so)])) rfl (D at_340) (n := 12) (by decide +kernel) (by decide) (by decide) (by decide)
  have O1011 := Old0.ext O1004 E1011
  have C1011 := CHr.trans C1004 Cq1011
  have hk := hk1011
  have f1013 : Exa Z h1011 so "java/lang/String" := (Exa.ext E1011 f1006)
  have f1014 : Fld Z h1011 so "java/lang/String" "value" "[B" (.ref sv) := (Fld.ext E1011 f1007)
  have f1015 : Fld Z h1011 so "java/lang/String" "coder" "B" (.int 0) := (Fld.ext E1011 f1008)
  have f1016 : Arv Z h1011 sv kg .byte n (bs.map Value.int) (.int 0) := (Arv.ext f1009 E1011)
  obtain ⟨T1012, v1012, L1012, X1012, q1012, st1012⟩ := callVi X1011 hx hZ (y := own_m17) (z := own_m17) hown (own_w hw (i := 104) rfl) (own_w hw (i := 96) rfl) (notFace_of_selects (args := #[]) (mvT hZ (own_w hw (i := 98) rfl))) (own_w hw (i := 98) rfl) (own_w hw (i := 97) rfl) (own_w hw (i := 99) rfl) (own_w hw (i := 2) rfl) (by decide) (rm_eqg_bag hw G so c1011 sv kg n bs v1011 kc1011 ((0 : Int32)) h1011 O1011 f1013 f1014 f1015 f1016 A1011 Fc1011 Fv1011 V1011 (hv2)) e1011 (W := 0) (by decide) (by decide) (by decide) (by decide) f1013 (g := (mkF m 342 #[iv p0, iv p1, iv p2, iv p3, iv p4, iv p5, rv da0, iv ln, s8, rv so, .val .null, .val .null] [(.ref c1011), (.ref so)])) rfl (by rw [hml]; rfl) (argsL := [(.ref c1011)]) (rest := []) (lenOf pd44 rfl) rfl rfl (Nat.le_of_eq rfl) (D at_342)
  obtain ⟨rfl, e1012, rfl⟩ := q1012
  have N1012 := Fr.app N1005 (Fr.nil _)
  refine GoS.of (T' := T1012) (f' := (mkF m 358 #[iv p0, iv p1, iv p2, iv p3, iv p4, iv p5, rv da0, iv ln, s8, rv so, .val .null, .val .null] [(.ref so)])) (fun _ k => st1011 _ (st1012 _ (XS.ifYes X1012.here hx rfl (pc0 := 345) (pc' := 356) rfl (D at_345) rfl ((if0 _ _).trans (teq (by decide : (0 : Int32) = (0 : Int32))).1) (by decide) (by decide) (XS.aload X1012.here hx rfl (D at_356) rfl rfl k)))) ?_
  obtain ⟨c1018, T1018, h1018, k11018, v1018, kc1018, X1018, e1018, E1018, hS, hk1018, hZ, hown, A1018, Fc1018, Fv1018, V1018, -, -, Cq1018, -, sn1018, st1018⟩ := ldcCH X1012 hx hZ hown (own_w hw (i := 109) rfl) (own_wS hw) e1012 hS hk hEL (by decide) C1011.1 (vs := [(.int 105), (.int 100), (.int 98), (.int 97), (.int 103)]) (z := (5 : Int32)) ⟨by decide +kernel, by decide +kernel⟩ (by decide) rfl (g := (mkF m 358 #[iv p0, iv p1, iv p2, iv p3, iv p4, iv p5, rv da0, iv ln, s8, rv so, .val .null, .val .null] [(.ref so)])) rfl (D at_358) (n := 20) (by decide +kernel) (by decide) (by decide) (by decide)
  have O1018 := Old0.ext O1011 E1018
  have C1018 := CHr.trans C1011 Cq1018
  have hk := hk1018
  have f1020 : Exa Z h1018 so "java/lang/String" := (Exa.ext E1018 f1013)
  have f1021 : Fld Z h1018 so "java/lang/String" "value" "[B" (.ref sv) := (Fld.ext E1018 f1014)
  have f1022 : Fld Z h1018 so "java/lang/String" "coder" "B" (.int 0) := (Fld.ext E1018 f1015)
  have f1023 : Arv Z h1018 sv kg .byte n (bs.map Value.int) (.int 0) := (Arv.ext f1016 E1018)
  obtain ⟨T1019, v1019, L1019, X1019, q1019, st1019⟩ := callVi X1018 hx hZ (y := own_m17) (z := own_m17) hown (own_w hw (i := 104) rfl) (own_w hw (i := 96) rfl) (notFace_of_selects (args := #[]) (mvT hZ (own_w hw (i := 98) rfl))) (own_w hw (i := 98) rfl) (own_w hw (i := 97) rfl) (own_w hw (i := 99) rfl) (own_w hw (i := 2) rfl) (by decide) (rm_eqg_idbag hw G so c1018 sv kg n bs v1018 kc1018 ((0 : Int32)) h1018 O1018 f1020 f1021 f1022 f1023 A1018 Fc1018 Fv1018 V1018 (hv3)) e1018 (W := 0) (by decide) (by decide) (by decide) (by decide) f1020 (g := (mkF m 360 #[iv p0, iv p1, iv p2, iv p3, iv p4, iv p5, rv da0, iv ln, s8, rv so, .val .null, .val .null] [(.ref c1018), (.ref so)])) rfl (by rw [hml]; rfl) (argsL := [(.ref c1018)]) (rest := []) (lenOf pd44 rfl) rfl rfl (Nat.le_of_eq rfl) (D at_360)
  obtain ⟨rfl, e1019, rfl⟩ := q1019
  have N1019 := Fr.app N1012 (Fr.nil _)
  refine GoS.of (T' := T1019) (f' := (mkF m 376 #[iv p0, iv p1, iv p2, iv p3, iv p4, iv p5, rv da0, iv ln, s8, rv so, .val .null, .val .null] [(.ref so)])) (fun _ k => st1018 _ (st1019 _ (XS.ifYes X1019.here hx rfl (pc0 := 363) (pc' := 374) rfl (D at_363) rfl ((if0 _ _).trans (teq (by decide : (0 : Int32) = (0 : Int32))).1) (by decide) (by decide) (XS.aload X1019.here hx rfl (D at_374) rfl rfl k)))) ?_
  obtain ⟨c1025, T1025, h1025, k11025, v1025, kc1025, X1025, e1025, E1025, hS, hk1025, hZ, hown, A1025, Fc1025, Fv1025, V1025, -, -, Cq1025, -, sn1025, st1025⟩ := ldcCH X1019 hx hZ hown (own_w hw (i := 106) rfl) (own_wS hw) e1019 hS hk hEL (by decide) C1018.1 (vs := [(.int 109), (.int 97), (.int 112)]) (z := (3 : Int32)) ⟨by decide +kernel, by decide +kernel⟩ (by decide) rfl (g := (mkF m 376 #[iv p0, iv p1, iv p2, iv p3, iv p4, iv p5, rv da0, iv ln, s8, rv so, .val .null, .val .null] [(.ref so)])) rfl (D at_376) (n := 12) (by decide +kernel) (by decide) (by decide) (by decide)
  have O1025 := Old0.ext O1018 E1025
  have C1025 := CHr.trans C1018 Cq1025
  have hk := hk1025
  have f1027 : Exa Z h1025 so "java/lang/String" := (Exa.ext E1025 f1020)
  have f1028 : Fld Z h1025 so "java/lang/String" "value" "[B" (.ref sv) := (Fld.ext E1025 f1021)
  have f1029 : Fld Z h1025 so "java/lang/String" "coder" "B" (.int 0) := (Fld.ext E1025 f1022)
  have f1030 : Arv Z h1025 sv kg .byte n (bs.map Value.int) (.int 0) := (Arv.ext f1023 E1025)
  obtain ⟨T1026, v1026, L1026, X1026, q1026, st1026⟩ := callVi X1025 hx hZ (y := own_m17) (z := own_m17) hown (own_w hw (i := 104) rfl) (own_w hw (i := 96) rfl) (notFace_of_selects (args := #[]) (mvT hZ (own_w hw (i := 98) rfl))) (own_w hw (i := 98) rfl) (own_w hw (i := 97) rfl) (own_w hw (i := 99) rfl) (own_w hw (i := 2) rfl) (by decide) (rm_eqg_map hw G so c1025 sv kg n bs v1025 kc1025 ((0 : Int32)) h1025 O1025 f1027 f1028 f1029 f1030 A1025 Fc1025 Fv1025 V1025 (hv4)) e1025 (W := 0) (by decide) (by decide) (by decide) (by decide) f1027 (g := (mkF m 378 #[iv p0, iv p1, iv p2, iv p3, iv p4, iv p5, rv da0, iv ln, s8, rv so, .val .null, .val .null] [(.ref c1025), (.ref so)])) rfl (by rw [hml]; rfl) (argsL := [(.ref c1025)]) (rest := []) (lenOf pd44 rfl) rfl rfl (Nat.le_of_eq rfl) (D at_378)
  obtain ⟨rfl, e1026, rfl⟩ := q1026
  have N1026 := Fr.app N1019 (Fr.nil _)
  refine GoS.of (T' := T1026) (f' := (mkF m 401 #[iv p0, iv p1, iv p2, iv p3, iv p4, iv p5, rv da0, iv ln, s8, rv so, .val .null, .val .null] [(.int 1)])) (fun _ k => st1025 _ (st1026 _ (XS.ifYes X1026.here hx rfl (pc0 := 381) (pc' := 389) rfl (D at_381) rfl ((if0 _ _).trans (teq (by decide : (0 : Int32) = (0 : Int32))).1) (by decide) (by decide) (XS.aload X1026.here hx rfl (D at_389) rfl rfl (XS.aload X1026.here hx rfl (D at_391) rfl rfl (Jvm.RoadKit.acmp (g := (mkF m 393 #[iv p0, iv p1, iv p2, iv p3, iv p4, iv p5, rv da0, iv ln, s8, rv so, .val .null, .val .null] [.null, .null])) X1026 hx rfl rfl rfl (pc0 := 393) (pc' := 396) (same := true) rfl (D at_393) rfl (decide_eq_true rfl) (by decide) (by decide) (XS.iconst X1026.here hx rfl (D at_396) (XS.goto X1026.here hx rfl (pc0 := 397) (pc' := 401) rfl (D at_397) (by decide) (by decide) k)))))))) ?_
  exact GoS.retB X1026 hx hlk hS hk hZ hEL C1025 e1026 hret (by simp) (D at_401) (by decide) (by decide) (z' := (1 : Int32)) rfl ⟨rfl, N1026⟩
theorem pd48 : parseMethodDescriptor "([CI)Ljava/lang/String;" = some ⟨[(.array .char), .int], some (.object "java/lang/String")⟩ := by decide +kernel
set_option maxRecDepth 65536 in
set_option maxHeartbeats 40000000 in
theorem rm_t0 {l : Launch} {Z : State} {a0 : Array Value} {A : Nat → Addr} {KC : Nat → Cell} {IC : Nat → Int32} {VC : Nat → Value} (hw : ∀ d ∈ tables_1, d.before a0 Z = true) (G : own_Ctx Z A KC IC VC) {p : Program} {e : Env} {s : State} {m : MethodId} {below : List Frame} {meth : Method} {c : Code} {T0 : State} {vm0 : Vm} {h0 : Heap} {k0 : Nat} {locs0 : List Loc} (p0 : Int32) (p1 : Int32) (p2 : Int32) (p3 : Int32) (p4 : Int32) (p5 : Int32) (da0 : Addr) (kd0 : ClassId) (z0 : Int32) (z1 : Int32) (z2 : Int32) (z3 : Int32) (z4 : Int32) (z5 : Int32) {s8 : Slot} (h_s8 : One s8) {s9 : Slot} (h_s9 : One s9) {s10 : Slot} (h_s10 : One s10) {s11 : Slot} (h_s11 : One s11)
    (hx : p.tables.exec = Jvm.exec) (hby : c.code = code) (hml : c.maxLocals = 12) (hown : vm0.findClass "com/example/cascade_mapper/cascademapper/model/CollectionFormNamedPinLaw" = some m.cls) (hret : meth.sig.returnType = ret) (hlk : meth.locks = false) (hZ : Z.Warmed39 vm0) (hS : s.Since vm0 k0) (hk : k0 ≤ h0.size) (C0 : CHr Z own_EL s.vm s.heap vm0 h0) (e0 : T0.heap = h0) (X0 : Stand p l e room_1 (s.setVm vm0) m #[(.int p0), (.int p1), (.int p2), (.int p3), (.int p4), (.int p5)] below meth c T0 locs0 8 96) (N0 : Fr Z.heap.size locs0) (O0 : Ext Z.heap h0) (prem0 : Arv Z h0 da0 kd0 .char (6 : Int32) [(.int (z0 &&& (255 : Int32))), (.int (z1 &&& (255 : Int32))), (.int (z2 &&& (255 : Int32))), (.int (z3 &&& (255 : Int32))), (.int (z4 &&& (255 : Int32))), (.int (z5 &&& (255 : Int32)))] (.int (0 : Int32)))  :
    GoS p e s below room_1 Z own_EL (fun v h L => v = some (.int (1 : Int32)) ∧ (Fr Z.heap.size L)) T0 (mkF m 283 #[iv p0, iv p1, iv p2, iv p3, iv p4, iv p5, rv da0, iv (0 : Int32), s8, s9, s10, s11] []) := by
  have hEL := own_EW hw
  have D := @hb _ _ hby
  have K0 : Keep h0 h0 [] := Keep.refl _ _
  refine GoS.of (T' := T0) (f' := (mkF m 287 #[iv p0, iv p1, iv p2, iv p3, iv p4, iv p5, rv da0, iv 0, s8, s9, s10, s11] [(.int 0), (.ref da0)])) (fun _ k => XS.aload X0.here hx rfl (D at_283) rfl rfl (XS.iload X0.here hx rfl (D at_285) rfl k)) ?_
  obtain ⟨T1033, v1033, L1033, X1033, q1033, hS, hg1033, hZ, hown, Cq1033, st1033⟩ := callStS X0 hx hZ (y := own_m39) hS hk hEL C0.1 hown (own_w hw (i := 44) rfl) (own_w hw (i := 45) rfl) (own_w hw (i := 46) rfl) (own_w hw (i := 47) rfl) (by decide) (rm_make0 hw G da0 kd0 z0 z1 z2 z3 z4 z5 h0 O0 prem0) e0 (W := 0) (by decide) (by decide) (by decide) (by decide) (g := (mkF m 287 #[iv p0, iv p1, iv p2, iv p3, iv p4, iv p5, rv da0, iv 0, s8, s9, s10, s11] [(.int 0), (.ref da0)])) rfl (by rw [hml]; rfl) (argsL := [(.ref da0), (.int 0)]) (rest := []) (lenOf pd48 rfl) rfl rfl (Nat.le_of_eq rfl) (D at_287)
  obtain ⟨so_1033, sv_1033, ks_1033, rfl, N1033q, K1033q, p1033_0, p1033_1, p1033_2, p1033_3⟩ := q1033
  have N1033 := Fr.app N0 N1033q
  have O1034 := Old0.keep O0 K1033q all0
  have C1033 := CHr.trans C0 Cq1033
  have hk := Nat.le_refl T1033.heap.size
  refine GoS.of (T' := T1033) (f' := (mkF m 290 #[iv p0, iv p1, iv p2, iv p3, iv p4, iv p5, rv da0, iv 0, s8, s9, s10, s11] [(.ref so_1033)])) (fun _ k => st1033 _ k) ?_
  exact rm_tail hw G p0 p1 p2 p3 p4 p5 (da0) ((0 : Int32)) (so_1033) (sv_1033) (ks_1033) ((0 : Int32)) (([] : List Int32)) (h_s8) (h_s9) (h_s10) (h_s11) hx hby hml hown hret hlk hZ hS hk  C1033 rfl (Stand.more X1033 (by decide) (by decide)) N1033 O1034 p1033_0 p1033_1 p1033_2 p1033_3 
set_option maxRecDepth 65536 in
set_option maxHeartbeats 40000000 in
theorem rm_t1 {l : Launch} {Z : State} {a0 : Array Value} {A : Nat → Addr} {KC : Nat → Cell} {IC : Nat → Int32} {VC : Nat → Value} (hw : ∀ d ∈ tables_1, d.before a0 Z = true) (G : own_Ctx Z A KC IC VC) {p : Program} {e : Env} {s : State} {m : MethodId} {below : List Frame} {meth : Method} {c : Code} {T0 : State} {vm0 : Vm} {h0 : Heap} {k0 : Nat} {locs0 : List Loc} (p0 : Int32) (p1 : Int32) (p2 : Int32) (p3 : Int32) (p4 : Int32) (p5 : Int32) (da0 : Addr) (kd0 : ClassId) (z0 : Int32) (z1 : Int32) (z2 : Int32) (z3 : Int32) (z4 : Int32) (z5 : Int32) {s8 : Slot} (h_s8 : One s8) {s9 : Slot} (h_s9 : One s9) {s10 : Slot} (h_s10 : One s10) {s11 : Slot} (h_s11 : One s11)
    (hx : p.tables.exec = Jvm.exec) (hby : c.code = code) (hml : c.maxLocals = 12) (hown : vm0.findClass "com/example/cascade_mapper/cascademapper/model/CollectionFormNamedPinLaw" = some m.cls) (hret : meth.sig.returnType = ret) (hlk : meth.locks = false) (hZ : Z.Warmed39 vm0) (hS : s.Since vm0 k0) (hk : k0 ≤ h0.size) (C0 : CHr Z own_EL s.vm s.heap vm0 h0) (e0 : T0.heap = h0) (X0 : Stand p l e room_1 (s.setVm vm0) m #[(.int p0), (.int p1), (.int p2), (.int p3), (.int p4), (.int p5)] below meth c T0 locs0 8 96) (N0 : Fr Z.heap.size locs0) (O0 : Ext Z.heap h0) (prem0 : Arv Z h0 da0 kd0 .char (6 : Int32) [(.int (z0 &&& (255 : Int32))), (.int (z1 &&& (255 : Int32))), (.int (z2 &&& (255 : Int32))), (.int (z3 &&& (255 : Int32))), (.int (z4 &&& (255 : Int32))), (.int (z5 &&& (255 : Int32)))] (.int (0 : Int32)))  :
    GoS p e s below room_1 Z own_EL (fun v h L => v = some (.int (1 : Int32)) ∧ (Fr Z.heap.size L)) T0 (mkF m 283 #[iv p0, iv p1, iv p2, iv p3, iv p4, iv p5, rv da0, iv (1 : Int32), s8, s9, s10, s11] []) := by
  have hEL := own_EW hw
  have D := @hb _ _ hby
  have K0 : Keep h0 h0 [] := Keep.refl _ _
  obtain ⟨T1035, v1035, L1035, X1035, q1035, st1035⟩ := callSt X0 hx hZ (y := own_m39) hown (own_w hw (i := 44) rfl) (own_w hw (i := 45) rfl) (own_w hw (i := 46) rfl) (own_w hw (i := 47) rfl) (by decide) (rm_make1 hw G da0 kd0 z0 z1 z2 z3 z4 z5 h0 O0 prem0) e0 (W := 0) (by decide) (by decide) (by decide) (by decide) (g := (mkF m 287 #[iv p0, iv p1, iv p2, iv p3, iv p4, iv p5, rv da0, iv 1, s8, s9, s10, s11] [(.int 1), (.ref da0)])) rfl (by rw [hml]; rfl) (argsL := [(.ref da0), (.int 1)]) (rest := []) (lenOf pd48 rfl) rfl rfl (Nat.le_of_eq rfl) (D at_287)
  obtain ⟨so_1035, sv_1035, ks_1035, rfl, N1035q, K1035q, p1035_0, p1035_1, p1035_2, p1035_3⟩ := q1035
  have N1035 := Fr.app N0 N1035q
  have O1037 := Old0.keep O0 K1035q all0
  have C1036 := CHr.trans C0 (CHr.keep K1035q sf0 C0.1)
  have hk := Nat.le_trans hk K1035q.1
  refine GoS.of (T' := T1035) (f' := (mkF m 290 #[iv p0, iv p1, iv p2, iv p3, iv p4, iv p5, rv da0, iv 1, s8, s9, s10, s11] [(.ref so_1035)])) (fun _ k => XS.aload X0.here hx rfl (D at_283) rfl rfl (XS.iload X0.here hx rfl (D at_285) rfl (st1035 _ k))) ?_
  exact rm_tail hw G p0 p1 p2 p3 p4 p5 (da0) ((1 : Int32)) (so_1035) (sv_1035) (ks_1035) ((1 : Int32)) (([((z0 &&& 255).toInt8.toInt32)] : List Int32)) (h_s8) (h_s9) (h_s10) (h_s11) hx hby hml hown hret hlk hZ hS hk  C1036 rfl (Stand.more X1035 (by decide) (by decide)) N1035 O1037 p1035_0 p1035_1 p1035_2 p1035_3 
set_option maxRecDepth 65536 in
set_option maxHeartbeats 40000000 in
theorem rm_t2 {l : Launch} {Z : State} {a0 : Array Value} {A : Nat → Addr} {KC : Nat → Cell} {IC : Nat → Int32} {VC : Nat → Value} (hw : ∀ d ∈ tables_1, d.before a0 Z = true) (G : own_Ctx Z A KC IC VC) {p : Program} {e : Env} {s : State} {m : MethodId} {below : List Frame} {meth : Method} {c : Code} {T0 : State} {vm0 : Vm} {h0 : Heap} {k0 : Nat} {locs0 : List Loc} (p0 : Int32) (p1 : Int32) (p2 : Int32) (p3 : Int32) (p4 : Int32) (p5 : Int32) (da0 : Addr) (kd0 : ClassId) (z0 : Int32) (z1 : Int32) (z2 : Int32) (z3 : Int32) (z4 : Int32) (z5 : Int32) {s8 : Slot} (h_s8 : One s8) {s9 : Slot} (h_s9 : One s9) {s10 : Slot} (h_s10 : One s10) {s11 : Slot} (h_s11 : One s11)
    (hx : p.tables.exec = Jvm.exec) (hby : c.code = code) (hml : c.maxLocals = 12) (hown : vm0.findClass "com/example/cascade_mapper/cascademapper/model/CollectionFormNamedPinLaw" = some m.cls) (hret : meth.sig.returnType = ret) (hlk : meth.locks = false) (hZ : Z.Warmed39 vm0) (hS : s.Since vm0 k0) (hk : k0 ≤ h0.size) (C0 : CHr Z own_EL s.vm s.heap vm0 h0) (e0 : T0.heap = h0) (X0 : Stand p l e room_1 (s.setVm vm0) m #[(.int p0), (.int p1), (.int p2), (.int p3), (.int p4), (.int p5)] below meth c T0 locs0 8 96) (N0 : Fr Z.heap.size locs0) (O0 : Ext Z.heap h0) (prem0 : Arv Z h0 da0 kd0 .char (6 : Int32) [(.int (z0 &&& (255 : Int32))), (.int (z1 &&& (255 : Int32))), (.int (z2 &&& (255 : Int32))), (.int (z3 &&& (255 : Int32))), (.int (z4 &&& (255 : Int32))), (.int (z5 &&& (255 : Int32)))] (.int (0 : Int32)))  :
    GoS p e s below room_1 Z own_EL (fun v h L => v = some (.int (1 : Int32)) ∧ (Fr Z.heap.size L)) T0 (mkF m 283 #[iv p0, iv p1, iv p2, iv p3, iv p4, iv p5, rv da0, iv (2 : Int32), s8, s9, s10, s11] []) := by
  have hEL := own_EW hw
  have D := @hb _ _ hby
  have K0 : Keep h0 h0 [] := Keep.refl _ _
  obtain ⟨T1038, v1038, L1038, X1038, q1038, st1038⟩ := callSt X0 hx hZ (y := own_m39) hown (own_w hw (i := 44) rfl) (own_w hw (i := 45) rfl) (own_w hw (i := 46) rfl) (own_w hw (i := 47) rfl) (by decide) (rm_make2 hw G da0 kd0 z0 z1 z2 z3 z4 z5 h0 O0 prem0) e0 (W := 0) (by decide) (by decide) (by decide) (by decide) (g := (mkF m 287 #[iv p0, iv p1, iv p2, iv p3, iv p4, iv p5, rv da0, iv 2, s8, s9, s10, s11] [(.int 2), (.ref da0)])) rfl (by rw [hml]; rfl) (argsL := [(.ref da0), (.int 2)]) (rest := []) (lenOf pd48 rfl) rfl rfl (Nat.le_of_eq rfl) (D at_287)
  obtain ⟨so_1038, sv_1038, ks_1038, rfl, N1038q, K1038q, p1038_0, p1038_1, p1038_2, p1038_3⟩ := q1038
  have N1038 := Fr.app N0 N1038q
  have O1040 := Old0.keep O0 K1038q all0
  have C1039 := CHr.trans C0 (CHr.keep K1038q sf0 C0.1)
  have hk := Nat.le_trans hk K1038q.1
  refine GoS.of (T' := T1038) (f' := (mkF m 290 #[iv p0, iv p1, iv p2, iv p3, iv p4, iv p5, rv da0, iv 2, s8, s9, s10, s11] [(.ref so_1038)])) (fun _ k => XS.aload X0.here hx rfl (D at_283) rfl rfl (XS.iload X0.here hx rfl (D at_285) rfl (st1038 _ k))) ?_
  exact rm_tail hw G p0 p1 p2 p3 p4 p5 (da0) ((2 : Int32)) (so_1038) (sv_1038) (ks_1038) ((2 : Int32)) (([((z0 &&& 255).toInt8.toInt32), ((z1 &&& 255).toInt8.toInt32)] : List Int32)) (h_s8) (h_s9) (h_s10) (h_s11) hx hby hml hown hret hlk hZ hS hk  C1039 rfl (Stand.more X1038 (by decide) (by decide)) N1038 O1040 p1038_0 p1038_1 p1038_2 p1038_3 
set_option maxRecDepth 65536 in
set_option maxHeartbeats 40000000 in
theorem rm_t3 {l : Launch} {Z : State} {a0 : Array Value} {A : Nat → Addr} {KC : Nat → Cell} {IC : Nat → Int32} {VC : Nat → Value} (hw : ∀ d ∈ tables_1, d.before a0 Z = true) (G : own_Ctx Z A KC IC VC) {p : Program} {e : Env} {s : State} {m : MethodId} {below : List Frame} {meth : Method} {c : Code} {T0 : State} {vm0 : Vm} {h0 : Heap} {k0 : Nat} {locs0 : List Loc} (p0 : Int32) (p1 : Int32) (p2 : Int32) (p3 : Int32) (p4 : Int32) (p5 : Int32) (da0 : Addr) (kd0 : ClassId) (z0 : Int32) (z1 : Int32) (z2 : Int32) (z3 : Int32) (z4 : Int32) (z5 : Int32) {s8 : Slot} (h_s8 : One s8) {s9 : Slot} (h_s9 : One s9) {s10 : Slot} (h_s10 : One s10) {s11 : Slot} (h_s11 : One s11)
    (hx : p.tables.exec = Jvm.exec) (hby : c.code = code) (hml : c.maxLocals = 12) (hown : vm0.findClass "com/example/cascade_mapper/cascademapper/model/CollectionFormNamedPinLaw" = some m.cls) (hret : meth.sig.returnType = ret) (hlk : meth.locks = false) (hZ : Z.Warmed39 vm0) (hS : s.Since vm0 k0) (hk : k0 ≤ h0.size) (C0 : CHr Z own_EL s.vm s.heap vm0 h0) (e0 : T0.heap = h0) (X0 : Stand p l e room_1 (s.setVm vm0) m #[(.int p0), (.int p1), (.int p2), (.int p3), (.int p4), (.int p5)] below meth c T0 locs0 8 96) (N0 : Fr Z.heap.size locs0) (O0 : Ext Z.heap h0) (prem0 : Arv Z h0 da0 kd0 .char (6 : Int32) [(.int (z0 &&& (255 : Int32))), (.int (z1 &&& (255 : Int32))), (.int (z2 &&& (255 : Int32))), (.int (z3 &&& (255 : Int32))), (.int (z4 &&& (255 : Int32))), (.int (z5 &&& (255 : Int32)))] (.int (0 : Int32)))  :
    GoS p e s below room_1 Z own_EL (fun v h L => v = some (.int (1 : Int32)) ∧ (Fr Z.heap.size L)) T0 (mkF m 283 #[iv p0, iv p1, iv p2, iv p3, iv p4, iv p5, rv da0, iv (3 : Int32), s8, s9, s10, s11] []) := by
  have hEL := own_EW hw
  have D := @hb _ _ hby
  have K0 : Keep h0 h0 [] := Keep.refl _ _
  obtain ⟨T1041, v1041, L1041, X1041, q1041, st1041⟩ := callSt X0 hx hZ (y := own_m39) hown (own_w hw (i := 44) rfl) (own_w hw (i := 45) rfl) (own_w hw (i := 46) rfl) (own_w hw (i := 47) rfl) (by decide) (rm_make3 hw G da0 kd0 z0 z1 z2 z3 z4 z5 h0 O0 prem0) e0 (W := 0) (by decide) (by decide) (by decide) (by decide) (g := (mkF m 287 #[iv p0, iv p1, iv p2, iv p3, iv p4, iv p5, rv da0, iv 3, s8, s9, s10, s11] [(.int 3), (.ref da0)])) rfl (by rw [hml]; rfl) (argsL := [(.ref da0), (.int 3)]) (rest := []) (lenOf pd48 rfl) rfl rfl (Nat.le_of_eq rfl) (D at_287)
  obtain ⟨so_1041, sv_1041, ks_1041, rfl, N1041q, K1041q, p1041_0, p1041_1, p1041_2, p1041_3⟩ := q1041
  have N1041 := Fr.app N0 N1041q
  have O1043 := Old0.keep O0 K1041q all0
  have C1042 := CHr.trans C0 (CHr.keep K1041q sf0 C0.1)
  have hk := Nat.le_trans hk K1041q.1
  refine GoS.of (T' := T1041) (f' := (mkF m 290 #[iv p0, iv p1, iv p2, iv p3, iv p4, iv p5, rv da0, iv 3, s8, s9, s10, s11] [(.ref so_1041)])) (fun _ k => XS.aload X0.here hx rfl (D at_283) rfl rfl (XS.iload X0.here hx rfl (D at_285) rfl (st1041 _ k))) ?_
  exact rm_tail hw G p0 p1 p2 p3 p4 p5 (da0) ((3 : Int32)) (so_1041) (sv_1041) (ks_1041) ((3 : Int32)) (([((z0 &&& 255).toInt8.toInt32), ((z1 &&& 255).toInt8.toInt32), ((z2 &&& 255).toInt8.toInt32)] : List Int32)) (h_s8) (h_s9) (h_s10) (h_s11) hx hby hml hown hret hlk hZ hS hk  C1042 rfl (Stand.more X1041 (by decide) (by decide)) N1041 O1043 p1041_0 p1041_1 p1041_2 p1041_3 
set_option maxRecDepth 65536 in
set_option maxHeartbeats 40000000 in
theorem rm_t4 {l : Launch} {Z : State} {a0 : Array Value} {A : Nat → Addr} {KC : Nat → Cell} {IC : Nat → Int32} {VC : Nat → Value} (hw : ∀ d ∈ tables_1, d.before a0 Z = true) (G : own_Ctx Z A KC IC VC) {p : Program} {e : Env} {s : State} {m : MethodId} {below : List Frame} {meth : Method} {c : Code} {T0 : State} {vm0 : Vm} {h0 : Heap} {k0 : Nat} {locs0 : List Loc} (p0 : Int32) (p1 : Int32) (p2 : Int32) (p3 : Int32) (p4 : Int32) (p5 : Int32) (da0 : Addr) (kd0 : ClassId) (z0 : Int32) (z1 : Int32) (z2 : Int32) (z3 : Int32) (z4 : Int32) (z5 : Int32) {s8 : Slot} (h_s8 : One s8) {s9 : Slot} (h_s9 : One s9) {s10 : Slot} (h_s10 : One s10) {s11 : Slot} (h_s11 : One s11)
    (hx : p.tables.exec = Jvm.exec) (hby : c.code = code) (hml : c.maxLocals = 12) (hown : vm0.findClass "com/example/cascade_mapper/cascademapper/model/CollectionFormNamedPinLaw" = some m.cls) (hret : meth.sig.returnType = ret) (hlk : meth.locks = false) (hZ : Z.Warmed39 vm0) (hS : s.Since vm0 k0) (hk : k0 ≤ h0.size) (C0 : CHr Z own_EL s.vm s.heap vm0 h0) (e0 : T0.heap = h0) (X0 : Stand p l e room_1 (s.setVm vm0) m #[(.int p0), (.int p1), (.int p2), (.int p3), (.int p4), (.int p5)] below meth c T0 locs0 8 96) (N0 : Fr Z.heap.size locs0) (O0 : Ext Z.heap h0) (prem0 : Arv Z h0 da0 kd0 .char (6 : Int32) [(.int (z0 &&& (255 : Int32))), (.int (z1 &&& (255 : Int32))), (.int (z2 &&& (255 : Int32))), (.int (z3 &&& (255 : Int32))), (.int (z4 &&& (255 : Int32))), (.int (z5 &&& (255 : Int32)))] (.int (0 : Int32)))  :
    GoS p e s below room_1 Z own_EL (fun v h L => v = some (.int (1 : Int32)) ∧ (Fr Z.heap.size L)) T0 (mkF m 283 #[iv p0, iv p1, iv p2, iv p3, iv p4, iv p5, rv da0, iv (4 : Int32), s8, s9, s10, s11] []) := by
  have hEL := own_EW hw
  have D := @hb _ _ hby
  have K0 : Keep h0 h0 [] := Keep.refl _ _
  obtain ⟨T1044, v1044, L1044, X1044, q1044, st1044⟩ := callSt X0 hx hZ (y := own_m39) hown (own_w hw (i := 44) rfl) (own_w hw (i := 45) rfl) (own_w hw (i := 46) rfl) (own_w hw (i := 47) rfl) (by decide) (rm_make4 hw G da0 kd0 z0 z1 z2 z3 z4 z5 h0 O0 prem0) e0 (W := 0) (by decide) (by decide) (by decide) (by decide) (g := (mkF m 287 #[iv p0, iv p1, iv p2, iv p3, iv p4, iv p5, rv da0, iv 4, s8, s9, s10, s11] [(.int 4), (.ref da0)])) rfl (by rw [hml]; rfl) (argsL := [(.ref da0), (.int 4)]) (rest := []) (lenOf pd48 rfl) rfl rfl (Nat.le_of_eq rfl) (D at_287)
  obtain ⟨so_1044, sv_1044, ks_1044, rfl, N1044q, K1044q, p1044_0, p1044_1, p1044_2, p1044_3⟩ := q1044
  have N1044 := Fr.app N0 N1044q
  have O1046 := Old0.keep O0 K1044q all0
  have C1045 := CHr.trans C0 (CHr.keep K1044q sf0 C0.1)
  have hk := Nat.le_trans hk K1044q.1
  refine GoS.of (T' := T1044) (f' := (mkF m 290 #[iv p0, iv p1, iv p2, iv p3, iv p4, iv p5, rv da0, iv 4, s8, s9, s10, s11] [(.ref so_1044)])) (fun _ k => XS.aload X0.here hx rfl (D at_283) rfl rfl (XS.iload X0.here hx rfl (D at_285) rfl (st1044 _ k))) ?_
  exact rm_tail hw G p0 p1 p2 p3 p4 p5 (da0) ((4 : Int32)) (so_1044) (sv_1044) (ks_1044) ((4 : Int32)) (([((z0 &&& 255).toInt8.toInt32), ((z1 &&& 255).toInt8.toInt32), ((z2 &&& 255).toInt8.toInt32), ((z3 &&& 255).toInt8.toInt32)] : List Int32)) (h_s8) (h_s9) (h_s10) (h_s11) hx hby hml hown hret hlk hZ hS hk  C1045 rfl (Stand.more X1044 (by decide) (by decide)) N1044 O1046 p1044_0 p1044_1 p1044_2 p1044_3 
set_option maxRecDepth 65536 in
set_option maxHeartbeats 40000000 in
theorem rm_t5 {l : Launch} {Z : State} {a0 : Array Value} {A : Nat → Addr} {KC : Nat → Cell} {IC : Nat → Int32} {VC : Nat → Value} (hw : ∀ d ∈ tables_1, d.before a0 Z = true) (G : own_Ctx Z A KC IC VC) {p : Program} {e : Env} {s : State} {m : MethodId} {below : List Frame} {meth : Method} {c : Code} {T0 : State} {vm0 : Vm} {h0 : Heap} {k0 : Nat} {locs0 : List Loc} (p0 : Int32) (p1 : Int32) (p2 : Int32) (p3 : Int32) (p4 : Int32) (p5 : Int32) (da0 : Addr) (kd0 : ClassId) (z0 : Int32) (z1 : Int32) (z2 : Int32) (z3 : Int32) (z4 : Int32) (z5 : Int32) {s8 : Slot} (h_s8 : One s8) {s9 : Slot} (h_s9 : One s9) {s10 : Slot} (h_s10 : One s10) {s11 : Slot} (h_s11 : One s11)
    (hx : p.tables.exec = Jvm.exec) (hby : c.code = code) (hml : c.maxLocals = 12) (hown : vm0.findClass "com/example/cascade_mapper/cascademapper/model/CollectionFormNamedPinLaw" = some m.cls) (hret : meth.sig.returnType = ret) (hlk : meth.locks = false) (hZ : Z.Warmed39 vm0) (hS : s.Since vm0 k0) (hk : k0 ≤ h0.size) (C0 : CHr Z own_EL s.vm s.heap vm0 h0) (e0 : T0.heap = h0) (X0 : Stand p l e room_1 (s.setVm vm0) m #[(.int p0), (.int p1), (.int p2), (.int p3), (.int p4), (.int p5)] below meth c T0 locs0 8 96) (N0 : Fr Z.heap.size locs0) (O0 : Ext Z.heap h0) (prem0 : Arv Z h0 da0 kd0 .char (6 : Int32) [(.int (z0 &&& (255 : Int32))), (.int (z1 &&& (255 : Int32))), (.int (z2 &&& (255 : Int32))), (.int (z3 &&& (255 : Int32))), (.int (z4 &&& (255 : Int32))), (.int (z5 &&& (255 : Int32)))] (.int (0 : Int32)))  :
    GoS p e s below room_1 Z own_EL (fun v h L => v = some (.int (1 : Int32)) ∧ (Fr Z.heap.size L)) T0 (mkF m 283 #[iv p0, iv p1, iv p2, iv p3, iv p4, iv p5, rv da0, iv (5 : Int32), s8, s9, s10, s11] []) := by
  have hEL := own_EW hw
  have D := @hb _ _ hby
  have K0 : Keep h0 h0 [] := Keep.refl _ _
  obtain ⟨T1047, v1047, L1047, X1047, q1047, st1047⟩ := callSt X0 hx hZ (y := own_m39) hown (own_w hw (i := 44) rfl) (own_w hw (i := 45) rfl) (own_w hw (i := 46) rfl) (own_w hw (i := 47) rfl) (by decide) (rm_make5 hw G da0 kd0 z0 z1 z2 z3 z4 z5 h0 O0 prem0) e0 (W := 0) (by decide) (by decide) (by decide) (by decide) (g := (mkF m 287 #[iv p0, iv p1, iv p2, iv p3, iv p4, iv p5, rv da0, iv 5, s8, s9, s10, s11] [(.int 5), (.ref da0)])) rfl (by rw [hml]; rfl) (argsL := [(.ref da0), (.int 5)]) (rest := []) (lenOf pd48 rfl) rfl rfl (Nat.le_of_eq rfl) (D at_287)
  obtain ⟨so_1047, sv_1047, ks_1047, rfl, N1047q, K1047q, p1047_0, p1047_1, p1047_2, p1047_3⟩ := q1047
  have N1047 := Fr.app N0 N1047q
  have O1049 := Old0.keep O0 K1047q all0
  have C1048 := CHr.trans C0 (CHr.keep K1047q sf0 C0.1)
  have hk := Nat.le_trans hk K1047q.1
  refine GoS.of (T' := T1047) (f' := (mkF m 290 #[iv p0, iv p1, iv p2, iv p3, iv p4, iv p5, rv da0, iv 5, s8, s9, s10, s11] [(.ref so_1047)])) (fun _ k => XS.aload X0.here hx rfl (D at_283) rfl rfl (XS.iload X0.here hx rfl (D at_285) rfl (st1047 _ k))) ?_
  exact rm_tail hw G p0 p1 p2 p3 p4 p5 (da0) ((5 : Int32)) (so_1047) (sv_1047) (ks_1047) ((5 : Int32)) (([((z0 &&& 255).toInt8.toInt32), ((z1 &&& 255).toInt8.toInt32), ((z2 &&& 255).toInt8.toInt32), ((z3 &&& 255).toInt8.toInt32), ((z4 &&& 255).toInt8.toInt32)] : List Int32)) (h_s8) (h_s9) (h_s10) (h_s11) hx hby hml hown hret hlk hZ hS hk  C1048 rfl (Stand.more X1047 (by decide) (by decide)) N1047 O1049 p1047_0 p1047_1 p1047_2 p1047_3 
set_option maxRecDepth 65536 in
set_option maxHeartbeats 40000000 in
theorem rm_t6 {l : Launch} {Z : State} {a0 : Array Value} {A : Nat → Addr} {KC : Nat → Cell} {IC : Nat → Int32} {VC : Nat → Value} (hw : ∀ d ∈ tables_1, d.before a0 Z = true) (G : own_Ctx Z A KC IC VC) {p : Program} {e : Env} {s : State} {m : MethodId} {below : List Frame} {meth : Method} {c : Code} {T0 : State} {vm0 : Vm} {h0 : Heap} {k0 : Nat} {locs0 : List Loc} (p0 : Int32) (p1 : Int32) (p2 : Int32) (p3 : Int32) (p4 : Int32) (p5 : Int32) (da0 : Addr) (kd0 : ClassId) (z0 : Int32) (z1 : Int32) (z2 : Int32) (z3 : Int32) (z4 : Int32) (z5 : Int32) {s8 : Slot} (h_s8 : One s8) {s9 : Slot} (h_s9 : One s9) {s10 : Slot} (h_s10 : One s10) {s11 : Slot} (h_s11 : One s11)
    (hx : p.tables.exec = Jvm.exec) (hby : c.code = code) (hml : c.maxLocals = 12) (hown : vm0.findClass "com/example/cascade_mapper/cascademapper/model/CollectionFormNamedPinLaw" = some m.cls) (hret : meth.sig.returnType = ret) (hlk : meth.locks = false) (hZ : Z.Warmed39 vm0) (hS : s.Since vm0 k0) (hk : k0 ≤ h0.size) (C0 : CHr Z own_EL s.vm s.heap vm0 h0) (e0 : T0.heap = h0) (X0 : Stand p l e room_1 (s.setVm vm0) m #[(.int p0), (.int p1), (.int p2), (.int p3), (.int p4), (.int p5)] below meth c T0 locs0 8 96) (N0 : Fr Z.heap.size locs0) (O0 : Ext Z.heap h0) (prem0 : Arv Z h0 da0 kd0 .char (6 : Int32) [(.int (z0 &&& (255 : Int32))), (.int (z1 &&& (255 : Int32))), (.int (z2 &&& (255 : Int32))), (.int (z3 &&& (255 : Int32))), (.int (z4 &&& (255 : Int32))), (.int (z5 &&& (255 : Int32)))] (.int (0 : Int32)))  :
    GoS p e s below room_1 Z own_EL (fun v h L => v = some (.int (1 : Int32)) ∧ (Fr Z.heap.size L)) T0 (mkF m 283 #[iv p0, iv p1, iv p2, iv p3, iv p4, iv p5, rv da0, iv (6 : Int32), s8, s9, s10, s11] []) := by
  have hEL := own_EW hw
  have D := @hb _ _ hby
  have K0 : Keep h0 h0 [] := Keep.refl _ _
  obtain ⟨T1050, v1050, L1050, X1050, q1050, st1050⟩ := callSt X0 hx hZ (y := own_m39) hown (own_w hw (i := 44) rfl) (own_w hw (i := 45) rfl) (own_w hw (i := 46) rfl) (own_w hw (i := 47) rfl) (by decide) (rm_make6 hw G da0 kd0 z0 z1 z2 z3 z4 z5 h0 O0 prem0) e0 (W := 0) (by decide) (by decide) (by decide) (by decide) (g := (mkF m 287 #[iv p0, iv p1, iv p2, iv p3, iv p4, iv p5, rv da0, iv 6, s8, s9, s10, s11] [(.int 6), (.ref da0)])) rfl (by rw [hml]; rfl) (argsL := [(.ref da0), (.int 6)]) (rest := []) (lenOf pd48 rfl) rfl rfl (Nat.le_of_eq rfl) (D at_287)
  obtain ⟨so_1050, sv_1050, ks_1050, rfl, N1050q, K1050q, p1050_0, p1050_1, p1050_2, p1050_3⟩ := q1050
  have N1050 := Fr.app N0 N1050q
  have O1052 := Old0.keep O0 K1050q all0
  have C1051 := CHr.trans C0 (CHr.keep K1050q sf0 C0.1)
  have hk := Nat.le_trans hk K1050q.1
  refine GoS.of (T' := T1050) (f' := (mkF m 290 #[iv p0, iv p1, iv p2, iv p3, iv p4, iv p5, rv da0, iv 6, s8, s9, s10, s11] [(.ref so_1050)])) (fun _ k => XS.aload X0.here hx rfl (D at_283) rfl rfl (XS.iload X0.here hx rfl (D at_285) rfl (st1050 _ k))) ?_
  exact rm_tail hw G p0 p1 p2 p3 p4 p5 (da0) ((6 : Int32)) (so_1050) (sv_1050) (ks_1050) ((6 : Int32)) (([((z0 &&& 255).toInt8.toInt32), ((z1 &&& 255).toInt8.toInt32), ((z2 &&& 255).toInt8.toInt32), ((z3 &&& 255).toInt8.toInt32), ((z4 &&& 255).toInt8.toInt32), ((z5 &&& 255).toInt8.toInt32)] : List Int32)) (h_s8) (h_s9) (h_s10) (h_s11) hx hby hml hown hret hlk hZ hS hk  C1051 rfl (Stand.more X1050 (by decide) (by decide)) N1050 O1052 p1050_0 p1050_1 p1050_2 p1050_3 
theorem own_mod (x : Int32) (hx : 0 ≤ x.toInt) (m : Int32) (k : Nat) (hm : m.toInt = k) (hk : 0 < k) : ∃ j : Nat, j < k ∧ x % m = Int32.ofNat j := by
  have h2 := (c_irem x m k hm).1 hx
  have r := rng32 (x % m)
  have r2 := rng32 m
  have p1 := Int.emod_nonneg x.toInt (show (k : Int) ≠ 0 by omega)
  have p2 := Int.emod_lt_of_pos x.toInt (show (0 : Int) < k by omega)
  refine ⟨(x.toInt % k).toNat, by omega, ?_⟩
  rw [← Int32.toInt_inj, h2, Int32.toInt_ofNat_of_lt (by omega)]
  omega
theorem own_and0 (x m : Int32) (h : 0 ≤ m.toInt) : 0 ≤ (x &&& m).toInt := (c_and x m h).1
theorem pd49 : parseMethodDescriptor "()I" = some ⟨[], some .int⟩ := by decide +kernel
theorem pd50 : parseMethodDescriptor "(I)C" = some ⟨[.int], some .char⟩ := by decide +kernel
theorem ef_rm_law (m : MethodId) (p0 : Int32) (p1 : Int32) (p2 : Int32) (p3 : Int32) (p4 : Int32) (p5 : Int32) : entryFrame m #[(.int p0), (.int p1), (.int p2), (.int p3), (.int p4), (.int p5)] maxLocals = mkF m 0 #[iv p0, iv p1, iv p2, iv p3, iv p4, iv p5, .unset, .unset, .unset, .unset, .unset, .unset] [] := by first | (simp [entryFrame, mkF, argsToLocals, Value.category, maxLocals]; done) | rfl
theorem pn51 : plainFor (⟨"com/example/cascade_mapper/cascademapper/model/CollectionFormNamedPinLaw", "law", "(IIIIII)Z"⟩ : MethodName) = true := by first | exact plainFor_of_name (by first | (simp [plainName, overriddenIn]; done) | decide +kernel) | decide +kernel
set_option maxRecDepth 65536 in
set_option maxHeartbeats 40000000 in
theorem rm_law {l : Launch} {Z : State} {a0 : Array Value} {A : Nat → Addr} {KC : Nat → Cell} {IC : Nat → Int32} {VC : Nat → Value} (hw : ∀ d ∈ tables_1, d.before a0 Z = true) (G : own_Ctx Z A KC IC VC) (p0 : Int32) (p1 : Int32) (p2 : Int32) (p3 : Int32) (p4 : Int32) (p5 : Int32)  (h0 : Heap) (O0 : Ext Z.heap h0)  :
    OkS l Z own_EL x code maxLocals ret room_1 #[(.int p0), (.int p1), (.int p2), (.int p3), (.int p4), (.int p5)] h0
      (fun v h L => v = some (.int (1 : Int32)) ∧ (Fr Z.heap.size L)) := by
  refine OkS.mk pn51 ?_
  intro p e s m below meth c T0 hx hby hml hown hnm hret hlk hZ e0 C0 hS X0
  have hk := Nat.zero_le h0.size
  have hEL := own_EW hw
  have hml : c.maxLocals = 12 := hml
  have hown : s.vm.findClass "com/example/cascade_mapper/cascademapper/model/CollectionFormNamedPinLaw" = some m.cls := hown
  refine GoS.cast (ef_rm_law m p0 p1 p2 p3 p4 p5) ?_
  have D := @hb _ _ hby
  have N0 := Fr.nil Z.heap.size
  have K0 : Keep h0 h0 [] := Keep.refl _ _
  obtain ⟨T1053, h1053, k1053, b1053, q1053, X1053, e1053, E1053, V1053, A1053, st1053⟩ := newAr X0 hx hZ (own_w hw (i := 0) rfl) e0 (g := (mkF m 2 #[iv p0, iv p1, iv p2, iv p3, iv p4, iv p5, .unset, .unset, .unset, .unset, .unset, .unset] [(.int 6)])) rfl (D at_2) rfl (by decide) (cap := 6) (by decide) (by decide) (by decide) (by decide) (ad := "[C") (by decide)
  have O1055 := Old0.ext O0 E1053
  have C1054 := CHr.trans C0 (CHr.ext E1053 C0.1)
  have hk := Nat.le_trans hk E1053.1
  have g_b1053 : Z.heap.size ≤ b1053 := q1053 ▸ O0.1
  have f1056 : Arv Z h1053 b1053 k1053 .char (6 : Int32) [(.int 0), (.int 0), (.int 0), (.int 0), (.int 0), (.int 0)] (.int 0) := Arv.pad V1053 (pad_rep [] (.int 0) 6)
  obtain ⟨j, hj, hje⟩ := own_mod (p0 &&& 255) (own_and0 _ _ (by decide)) 6 6 (by decide) (by decide)
  refine GoS.of (T' := T1053) (f' := (mkF m 16 #[iv p0, iv p1, iv p2, iv p3, iv p4, iv p5, rv b1053, .unset, iv ((p0 &&& 255) % (6 : Int32)), .unset, .unset, .unset] [])) (fun _ k => XS.bipush X0.here hx rfl (D at_0) (st1053 _ (XS.astore X1053.here hx rfl (D at_4) rfl rfl (l' := #[iv p0, iv p1, iv p2, iv p3, iv p4, iv p5, rv b1053, .unset, .unset, .unset, .unset, .unset]) rfl (XS.iloadN X1053.here hx rfl (D at_6) rfl (XS.sipush X1053.here hx rfl (D at_7) (XS.iand X1053.here hx rfl (D at_10) rfl (XS.bipush X1053.here hx rfl (D at_11) (iremM X1053 hx rfl (D at_13) rfl (by decide) (XS.istore X1053.here hx rfl (D at_14) rfl (l' := #[iv p0, iv p1, iv p2, iv p3, iv p4, iv p5, rv b1053, .unset, iv ((p0 &&& 255) % (6 : Int32)), .unset, .unset, .unset]) rfl k))))))))) ?_
  rw [hje]
  match j, hj with
  | 0, _ =>
    refine GoS.cast (f' := (mkF m 16 #[iv p0, iv p1, iv p2, iv p3, iv p4, iv p5, rv b1053, .unset, iv 0, .unset, .unset, .unset] [])) rfl ?_
    refine GoS.of (T' := T1053) (f' := (mkF m 27 #[iv p0, iv p1, iv p2, iv p3, iv p4, iv p5, rv b1053, .unset, iv 0, .unset, .unset, .unset] [])) (fun _ k => XS.iload X1053.here hx rfl (D at_16) rfl (XS.iconst X1053.here hx rfl (D at_18) (XS.icmpNo X1053.here hx rfl (D at_19) rfl (tlt (by decide : (0 : Int32) < (5 : Int32))).2.1 (XS.iload X1053.here hx rfl (D at_22) rfl (XS.ifNo X1053.here hx rfl (D at_24) rfl ((if0 _ _).trans (teq (by decide : (0 : Int32) = (0 : Int32))).2) k))))) ?_
    have sp1059_b1053 : Safe Z own_EL s.vm h1053 b1053 := (Safe.exa hZ.alike A1053 (by decide) (by decide))
    obtain ⟨c1059, T1059, h1059, k11059, v1059, kc1059, X1059, e1059, E1059, hS, hk1059, hZ, hown, A1059, Fc1059, Fv1059, V1059, -, -, Cq1059, -, sn1059, st1059⟩ := ldcCH X1053 hx hZ hown (own_w hw (i := 1) rfl) (own_wS hw) e1053 hS hk hEL (by decide) C1054.1 (vs := [(.int 115), (.int 101), (.int 116)]) (z := (3 : Int32)) ⟨by decide +kernel, by decide +kernel⟩ (by decide) rfl (g := (mkF m 27 #[iv p0, iv p1, iv p2, iv p3, iv p4, iv p5, rv b1053, .unset, iv 0, .unset, .unset, .unset] [])) rfl (D at_27) (n := 12) (by decide +kernel) (by decide) (by decide) (by decide)
    have O1059 := Old0.ext O1055 E1059
    have C1059 := CHr.trans C1054 Cq1059
    have hk := hk1059
    have sf1059_b1053 : Safe Z own_EL T1059.vm h1059 b1053 := CHr.safe Cq1059 A1053.lt sp1059_b1053
    have ne_b1053_c1059 : b1053 ≠ c1059 := (sn1059 b1053 sf1059_b1053).1
    have ne_b1053_v1059 : b1053 ≠ v1059 := (sn1059 b1053 sf1059_b1053).2
    obtain ⟨T1060, v1060, L1060, X1060, q1060, st1060⟩ := callVi X1059 hx hZ (y := own_m36) (z := own_m36) hown (own_w hw (i := 9) rfl) (own_w hw (i := 10) rfl) (notFace_of_selects (args := #[]) (mvT hZ (own_w hw (i := 12) rfl))) (own_w hw (i := 12) rfl) (own_w hw (i := 11) rfl) (own_w hw (i := 13) rfl) (own_w hw (i := 2) rfl) (by decide) (rm_len hw G c1059 v1059 kc1059 ((3 : Int32)) (([(115 : Int32), (101 : Int32), (116 : Int32)] : List Int32)) h1059 O1059 A1059 Fv1059 Fc1059 V1059 (by first | decide | assumption | omega)) e1059 (W := 0) (by decide) (by decide) (by decide) (by decide) A1059 (g := (mkF m 71 #[iv p0, iv p1, iv p2, iv p3, iv p4, iv p5, rv b1053, .unset, iv 0, rv c1059, .unset, .unset] [(.ref c1059)])) rfl (by rw [hml]; rfl) (argsL := []) (rest := []) (lenOf pd49 rfl) rfl rfl (Nat.le_of_eq rfl) (D at_71)
    obtain ⟨rfl, e1060, rfl⟩ := q1060
    have N1060 := Fr.app N0 (Fr.nil _)
    obtain ⟨T1061, v1061, L1061, X1061, q1061, st1061⟩ := callVi X1060 hx hZ (y := own_m33) (z := own_m33) hown (own_w hw (i := 22) rfl) (own_w hw (i := 23) rfl) (notFace_of_selects (args := #[]) (mvT hZ (own_w hw (i := 25) rfl))) (own_w hw (i := 25) rfl) (own_w hw (i := 24) rfl) (own_w hw (i := 26) rfl) (own_w hw (i := 2) rfl) (by decide) (rm_ch hw G c1059 ((0 : Int32)) v1059 kc1059 ((3 : Int32)) (([(115 : Int32), (101 : Int32), (116 : Int32)] : List Int32)) h1059 O1059 (by first | decide | assumption | omega) (by first | decide | assumption | omega) A1059 Fv1059 Fc1059 V1059) e1060 (W := 2) (by decide) (by decide) (by decide) (by decide) A1059 (g := (mkF m 82 #[iv p0, iv p1, iv p2, iv p3, iv p4, iv p5, rv b1053, iv 3, iv 0, rv c1059, .unset, .unset] [(.int 0), (.ref c1059), (.int 0), (.ref b1053)])) rfl (by rw [hml]; rfl) (argsL := [(.int 0)]) (rest := [(.int 0), (.ref b1053)]) (lenOf pd50 rfl) rfl rfl (Nat.le_of_eq rfl) (D at_82)
    obtain ⟨r_1061, rfl, e1061, rfl⟩ := q1061
    have N1061 := Fr.app N1060 (Fr.nil _)
    have f1063 : Arv Z h1059 b1053 k1053 .char (6 : Int32) [(.int 0), (.int 0), (.int 0), (.int 0), (.int 0), (.int 0)] (.int 0) := (Arv.ext f1056 E1059)
    obtain ⟨cl1062, Ar1062, qk1062, S1062, Ng1062, H1062, G1062⟩ := id f1063
    obtain ⟨T1062, h1062, X1062, e1062, W1062, st1062⟩ := stC X1061 hx hZ e1061 Ar1062 (j := (0 : Int32)) (inb_of S1062 ⟨by decide, by decide⟩) (g := (mkF m 85 #[iv p0, iv p1, iv p2, iv p3, iv p4, iv p5, rv b1053, iv 3, iv 0, rv c1059, .unset, .unset] [(.int (r_1061 &&& 255)), (.int 0), (.ref b1053)])) rfl rfl (D at_85)
    have W1062 : Wr h1059 h1062 b1053 ((0 : Int32)).toNatClampNeg (.int (r_1061 &&& 255)) := Eq.mp (congrArg (fun z => Wr h1059 h1062 b1053 ((0 : Int32)).toNatClampNeg (Value.int z)) (i2c_mask r_1061)) W1062
    have f1065 : Exa Z h1059 b1053 "[C" := (Exa.ext E1059 A1053)
    have O1066 := Old0.wr O1059 W1062 g_b1053
    have C1064 := CHr.trans C1059 (CHr.wr W1062 (Safe.exa hZ.alike f1065 (by decide) (by decide)) C1059.1)
    have hk := Nat.le_trans hk (Keep.of_wr W1062).1
    have f1062 : Arv Z h1062 b1053 k1053 .char (6 : Int32) [(.int (r_1061 &&& 255)), (.int 0), (.int 0), (.int 0), (.int 0), (.int 0)] (.int 0) := Arv.set Ar1062 qk1062 S1062 Ng1062 H1062 G1062 (v := (.int (r_1061 &&& 255))) (own_f255 r_1061) W1062 0 rfl (Nat.le_of_ble_eq_true rfl)
    have N1062 := Fr.snoc X1062 N1061 g_b1053
    have f1068 : Exa Z h1062 c1059 "java/lang/String" := (Exa.wr W1062 A1059)
    have f1069 : Fld Z h1062 c1059 "java/lang/String" "value" "[B" (.ref v1059) := (Fld.other W1062 Fv1059 (Or.inl (Ne.symm ne_b1053_c1059)))
    have f1070 : Fld Z h1062 c1059 "java/lang/String" "coder" "B" (.int 0) := (Fld.other W1062 Fc1059 (Or.inl (Ne.symm ne_b1053_c1059)))
    have f1071 : Arv Z h1062 v1059 kc1059 .byte (3 : Int32) [(.int 115), (.int 101), (.int 116)] (.int 0) := (Arv.other V1059 W1062 (Ne.symm ne_b1053_v1059))
    obtain ⟨T1067, v1067, L1067, X1067, q1067, st1067⟩ := callVi X1062 hx hZ (y := own_m33) (z := own_m33) hown (own_w hw (i := 22) rfl) (own_w hw (i := 23) rfl) (notFace_of_selects (args := #[]) (mvT hZ (own_w hw (i := 25) rfl))) (own_w hw (i := 25) rfl) (own_w hw (i := 24) rfl) (own_w hw (i := 26) rfl) (own_w hw (i := 2) rfl) (by decide) (rm_ch hw G c1059 ((1 : Int32)) v1059 kc1059 ((3 : Int32)) (([(115 : Int32), (101 : Int32), (116 : Int32)] : List Int32)) h1062 O1066 (by first | decide | assumption | omega) (by first | decide | assumption | omega) f1068 f1069 f1070 f1071) e1062 (W := 2) (by decide) (by decide) (by decide) (by decide) f1068 (g := (mkF m 92 #[iv p0, iv p1, iv p2, iv p3, iv p4, iv p5, rv b1053, iv 3, iv 0, rv c1059, .unset, .unset] [(.int 1), (.ref c1059), (.int 1), (.ref b1053)])) rfl (by rw [hml]; rfl) (argsL := [(.int 1)]) (rest := [(.int 1), (.ref b1053)]) (lenOf pd50 rfl) rfl rfl (Nat.le_of_eq rfl) (D at_92)
    obtain ⟨r_1067, rfl, e1067, rfl⟩ := q1067
    have N1067 := Fr.app N1062 (Fr.nil _)
    obtain ⟨cl1072, Ar1072, qk1072, S1072, Ng1072, H1072, G1072⟩ := id f1062
    obtain ⟨T1072, h1072, X1072, e1072, W1072, st1072⟩ := stC X1067 hx hZ e1067 Ar1072 (j := (1 : Int32)) (inb_of S1072 ⟨by decide, by decide⟩) (g := (mkF m 95 #[iv p0, iv p1, iv p2, iv p3, iv p4, iv p5, rv b1053, iv 3, iv 0, rv c1059, .unset, .unset] [(.int (r_1067 &&& 255)), (.int 1), (.ref b1053)])) rfl rfl (D at_95)
    have W1072 : Wr h1062 h1072 b1053 ((1 : Int32)).toNatClampNeg (.int (r_1067 &&& 255)) := Eq.mp (congrArg (fun z => Wr h1062 h1072 b1053 ((1 : Int32)).toNatClampNeg (Value.int z)) (i2c_mask r_1067)) W1072
    have f1074 : Exa Z h1062 b1053 "[C" := (Exa.wr W1062 f1065)
    have O1075 := Old0.wr O1066 W1072 g_b1053
    have C1073 := CHr.trans C1064 (CHr.wr W1072 (Safe.exa hZ.alike f1074 (by decide) (by decide)) C1064.1)
    have hk := Nat.le_trans hk (Keep.of_wr W1072).1
    have f1072 : Arv Z h1072 b1053 k1053 .char (6 : Int32) [(.int (r_1061 &&& 255)), (.int (r_1067 &&& 255)), (.int 0), (.int 0), (.int 0), (.int 0)] (.int 0) := Arv.set Ar1072 qk1072 S1072 Ng1072 H1072 G1072 (v := (.int (r_1067 &&& 255))) (own_f255 r_1067) W1072 1 rfl (Nat.le_of_ble_eq_true rfl)
    have N1072 := Fr.snoc X1072 N1067 g_b1053
    have f1077 : Exa Z h1072 c1059 "java/lang/String" := (Exa.wr W1072 f1068)
    have f1078 : Fld Z h1072 c1059 "java/lang/String" "value" "[B" (.ref v1059) := (Fld.other W1072 f1069 (Or.inl (Ne.symm ne_b1053_c1059)))
    have f1079 : Fld Z h1072 c1059 "java/lang/String" "coder" "B" (.int 0) := (Fld.other W1072 f1070 (Or.inl (Ne.symm ne_b1053_c1059)))
    have f1080 : Arv Z h1072 v1059 kc1059 .byte (3 : Int32) [(.int 115), (.int 101), (.int 116)] (.int 0) := (Arv.other f1071 W1072 (Ne.symm ne_b1053_v1059))
    obtain ⟨T1076, v1076, L1076, X1076, q1076, st1076⟩ := callVi X1072 hx hZ (y := own_m33) (z := own_m33) hown (own_w hw (i := 22) rfl) (own_w hw (i := 23) rfl) (notFace_of_selects (args := #[]) (mvT hZ (own_w hw (i := 25) rfl))) (own_w hw (i := 25) rfl) (own_w hw (i := 24) rfl) (own_w hw (i := 26) rfl) (own_w hw (i := 2) rfl) (by decide) (rm_ch hw G c1059 ((2 : Int32)) v1059 kc1059 ((3 : Int32)) (([(115 : Int32), (101 : Int32), (116 : Int32)] : List Int32)) h1072 O1075 (by first | decide | assumption | omega) (by first | decide | assumption | omega) f1077 f1078 f1079 f1080) e1072 (W := 2) (by decide) (by decide) (by decide) (by decide) f1077 (g := (mkF m 102 #[iv p0, iv p1, iv p2, iv p3, iv p4, iv p5, rv b1053, iv 3, iv 0, rv c1059, .unset, .unset] [(.int 2), (.ref c1059), (.int 2), (.ref b1053)])) rfl (by rw [hml]; rfl) (argsL := [(.int 2)]) (rest := [(.int 2), (.ref b1053)]) (lenOf pd50 rfl) rfl rfl (Nat.le_of_eq rfl) (D at_102)
    obtain ⟨r_1076, rfl, e1076, rfl⟩ := q1076
    have N1076 := Fr.app N1072 (Fr.nil _)
    obtain ⟨cl1081, Ar1081, qk1081, S1081, Ng1081, H1081, G1081⟩ := id f1072
    obtain ⟨T1081, h1081, X1081, e1081, W1081, st1081⟩ := stC X1076 hx hZ e1076 Ar1081 (j := (2 : Int32)) (inb_of S1081 ⟨by decide, by decide⟩) (g := (mkF m 105 #[iv p0, iv p1, iv p2, iv p3, iv p4, iv p5, rv b1053, iv 3, iv 0, rv c1059, .unset, .unset] [(.int (r_1076 &&& 255)), (.int 2), (.ref b1053)])) rfl rfl (D at_105)
    have W1081 : Wr h1072 h1081 b1053 ((2 : Int32)).toNatClampNeg (.int (r_1076 &&& 255)) := Eq.mp (congrArg (fun z => Wr h1072 h1081 b1053 ((2 : Int32)).toNatClampNeg (Value.int z)) (i2c_mask r_1076)) W1081
    have f1083 : Exa Z h1072 b1053 "[C" := (Exa.wr W1072 f1074)
    have O1084 := Old0.wr O1075 W1081 g_b1053
    have C1082 := CHr.trans C1073 (CHr.wr W1081 (Safe.exa hZ.alike f1083 (by decide) (by decide)) C1073.1)
    have hk := Nat.le_trans hk (Keep.of_wr W1081).1
    have f1081 : Arv Z h1081 b1053 k1053 .char (6 : Int32) [(.int (r_1061 &&& 255)), (.int (r_1067 &&& 255)), (.int (r_1076 &&& 255)), (.int 0), (.int 0), (.int 0)] (.int 0) := Arv.set Ar1081 qk1081 S1081 Ng1081 H1081 G1081 (v := (.int (r_1076 &&& 255))) (own_f255 r_1076) W1081 2 rfl (Nat.le_of_ble_eq_true rfl)
    have N1081 := Fr.snoc X1081 N1076 g_b1053
    refine GoS.of (T' := T1081) (f' := (mkF m 106 #[iv p0, iv p1, iv p2, iv p3, iv p4, iv p5, rv b1053, iv 3, iv 0, rv c1059, .unset, .unset] [])) (fun _ k => st1059 _ (XS.goto X1059.here hx rfl (pc0 := 29) (pc' := 67) rfl (D at_29) (by decide) (by decide) (XS.astore X1059.here hx rfl (D at_67) rfl rfl (l' := #[iv p0, iv p1, iv p2, iv p3, iv p4, iv p5, rv b1053, .unset, iv 0, rv c1059, .unset, .unset]) rfl (XS.aload X1059.here hx rfl (D at_69) rfl rfl (st1060 _ (XS.istore X1060.here hx rfl (D at_74) rfl (l' := #[iv p0, iv p1, iv p2, iv p3, iv p4, iv p5, rv b1053, iv 3, iv 0, rv c1059, .unset, .unset]) rfl (XS.aload X1060.here hx rfl (D at_76) rfl rfl (XS.iconst X1060.here hx rfl (D at_78) (XS.aload X1060.here hx rfl (D at_79) rfl rfl (XS.iconst X1060.here hx rfl (D at_81) (st1061 _ (st1062 _ (XS.aload X1062.here hx rfl (D at_86) rfl rfl (XS.iconst X1062.here hx rfl (D at_88) (XS.aload X1062.here hx rfl (D at_89) rfl rfl (XS.iconst X1062.here hx rfl (D at_91) (st1067 _ (st1072 _ (XS.aload X1072.here hx rfl (D at_96) rfl rfl (XS.iconst X1072.here hx rfl (D at_98) (XS.aload X1072.here hx rfl (D at_99) rfl rfl (XS.iconst X1072.here hx rfl (D at_101) (st1076 _ (st1081 _ k)))))))))))))))))))))))) ?_
    refine GoS.of (T' := T1081) (f' := (mkF m 144 #[iv p0, iv p1, iv p2, iv p3, iv p4, iv p5, rv b1053, iv 3, iv 0, rv c1059, .unset, .unset] [(.int (((p0.toUInt32 >>> ((8 : Int32) &&& 31).toUInt32).toInt32) &&& (3 : Int32)))])) (fun _ k => XS.iload X1081.here hx rfl (D at_106) rfl (XS.iconst X1081.here hx rfl (D at_108) (XS.icmpYes X1081.here hx rfl (pc0 := 109) (pc' := 122) rfl (D at_109) rfl (flt (by decide : ¬ ((3 : Int32) < (3 : Int32)))).2.2.2 (by decide) (by decide) (XS.iload X1081.here hx rfl (D at_122) rfl (XS.iconst X1081.here hx rfl (D at_124) (XS.icmpYes X1081.here hx rfl (pc0 := 125) (pc' := 138) rfl (D at_125) rfl (flt (by decide : ¬ ((4 : Int32) < (3 : Int32)))).2.2.2 (by decide) (by decide) (XS.iloadN X1081.here hx rfl (D at_138) rfl (XS.bipush X1081.here hx rfl (D at_139) (XS.iushr X1081.here hx rfl (D at_141) rfl (XS.iconst X1081.here hx rfl (D at_142) (XS.iand X1081.here hx rfl (D at_143) rfl k))))))))))) ?_
    generalize hed : ((((p0.toUInt32 >>> ((8 : Int32) &&& 31).toUInt32).toInt32) &&& (3 : Int32)) : Int32) = ed
    refine GoS.of (T' := T1081) (f' := (mkF m 149 #[iv p0, iv p1, iv p2, iv p3, iv p4, iv p5, rv b1053, iv 3, iv 0, rv c1059, iv ed, .unset] [(.int 1), (.int ed)])) (fun _ k => XS.istore X1081.here hx rfl (D at_144) rfl (l' := #[iv p0, iv p1, iv p2, iv p3, iv p4, iv p5, rv b1053, iv 3, iv 0, rv c1059, iv ed, .unset]) rfl (XS.iload X1081.here hx rfl (D at_146) rfl (XS.iconst X1081.here hx rfl (D at_148) k))) ?_
    by_cases hc1087 : ed = (1 : Int32)
    · skip
      refine GoS.of (T' := T1081) (f' := (mkF m 159 #[iv p0, iv p1, iv p2, iv p3, iv p4, iv p5, rv b1053, iv 3, iv 0, rv c1059, iv ed, .unset] [(.int (((p0.toUInt32 >>> ((10 : Int32) &&& 31).toUInt32).toInt32) &&& (7 : Int32)))])) (fun _ k => XS.icmpNo X1081.here hx rfl (D at_149) rfl (teq hc1087).2 (XS.iloadN X1081.here hx rfl (D at_152) rfl (XS.bipush X1081.here hx rfl (D at_153) (XS.iushr X1081.here hx rfl (D at_155) rfl (XS.bipush X1081.here hx rfl (D at_156) (XS.iand X1081.here hx rfl (D at_158) rfl k)))))) ?_
      generalize hpq : ((((p0.toUInt32 >>> ((10 : Int32) &&& 31).toUInt32).toInt32) &&& (7 : Int32)) : Int32) = pq
      obtain ⟨j, hj, hje⟩ := own_mod pq (hpq ▸ own_and0 _ _ (by decide)) (3 : Int32) 3 (by decide) (by decide)
      refine GoS.of (T' := T1081) (f' := (mkF m 164 #[iv p0, iv p1, iv p2, iv p3, iv p4, iv p5, rv b1053, iv 3, iv 0, rv c1059, iv ed, iv (pq % (3 : Int32))] [])) (fun _ k => XS.iload X1081.here hx rfl (D at_159) rfl (iremM X1081 hx rfl (D at_161) rfl (by decide) (XS.istore X1081.here hx rfl (D at_162) rfl (l' := #[iv p0, iv p1, iv p2, iv p3, iv p4, iv p5, rv b1053, iv 3, iv 0, rv c1059, iv ed, iv (pq % (3 : Int32))]) rfl k))) ?_
      rw [hje]
      match j, hj with
      | 0, _ =>
        refine GoS.cast (f' := (mkF m 164 #[iv p0, iv p1, iv p2, iv p3, iv p4, iv p5, rv b1053, iv 3, iv 0, rv c1059, iv ed, iv 0] [])) rfl ?_
        obtain ⟨cl1088, Ar1088, qk1088, S1088, Ng1088, H1088, G1088⟩ := id f1081
        obtain ⟨T1088, h1088, X1088, e1088, W1088, st1088⟩ := stC X1081 hx hZ e1081 Ar1088 (j := (0 : Int32)) (inb_of S1088 ⟨by decide, by decide⟩) (g := (mkF m 174 #[iv p0, iv p1, iv p2, iv p3, iv p4, iv p5, rv b1053, iv 3, iv 0, rv c1059, iv ed, iv 0] [(.int ((p1 &&& 255).toUInt32.toUInt16.toUInt32.toInt32)), (.int 0), (.ref b1053)])) rfl rfl (D at_174)
        have W1088 : Wr h1081 h1088 b1053 ((0 : Int32)).toNatClampNeg (.int (p1 &&& 255)) := Eq.mp (congrArg (fun z => Wr h1081 h1088 b1053 ((0 : Int32)).toNatClampNeg (Value.int z)) (own_c255 p1)) W1088
        have f1090 : Exa Z h1081 b1053 "[C" := (Exa.wr W1081 f1083)
        have O1091 := Old0.wr O1084 W1088 g_b1053
        have C1089 := CHr.trans C1082 (CHr.wr W1088 (Safe.exa hZ.alike f1090 (by decide) (by decide)) C1082.1)
        have hk := Nat.le_trans hk (Keep.of_wr W1088).1
        have f1088 : Arv Z h1088 b1053 k1053 .char (6 : Int32) [(.int (p1 &&& 255)), (.int (r_1067 &&& 255)), (.int (r_1076 &&& 255)), (.int 0), (.int 0), (.int 0)] (.int 0) := Arv.set Ar1088 qk1088 S1088 Ng1088 H1088 G1088 (v := (.int (p1 &&& 255))) (own_f255 p1) W1088 0 rfl (Nat.le_of_ble_eq_true rfl)
        have N1088 := Fr.snoc X1088 N1081 g_b1053
        refine GoS.of (T' := T1088) (f' := (mkF m 283 #[iv p0, iv p1, iv p2, iv p3, iv p4, iv p5, rv b1053, iv 3, iv 0, rv c1059, iv ed, iv 0] [])) (fun _ k => XS.aload X1081.here hx rfl (D at_164) rfl rfl (XS.iload X1081.here hx rfl (D at_166) rfl (XS.iloadN X1081.here hx rfl (D at_168) rfl (XS.sipush X1081.here hx rfl (D at_169) (XS.iand X1081.here hx rfl (D at_172) rfl (XS.i2c X1081.here hx rfl (D at_173) rfl (st1088 _ (XS.goto X1088.here hx rfl (pc0 := 175) (pc' := 216) rfl (D at_175) (by decide) (by decide) (XS.goto X1088.here hx rfl (pc0 := 216) (pc' := 283) rfl (D at_216) (by decide) (by decide) k))))))))) ?_
        exact rm_t3 hw G p0 p1 p2 p3 p4 p5 (b1053) (k1053) (p1) (r_1067) (r_1076) ((0 : Int32)) ((0 : Int32)) ((0 : Int32)) (One.val rfl) (One.val rfl) (One.val rfl) (One.val rfl) hx hby hml hown hret hlk hZ hS hk  C1089 e1088 (Stand.more X1088 (by decide) (by decide)) N1088 O1091 f1088 
      | 1, _ =>
        refine GoS.cast (f' := (mkF m 164 #[iv p0, iv p1, iv p2, iv p3, iv p4, iv p5, rv b1053, iv 3, iv 0, rv c1059, iv ed, iv 1] [])) rfl ?_
        obtain ⟨cl1092, Ar1092, qk1092, S1092, Ng1092, H1092, G1092⟩ := id f1081
        obtain ⟨T1092, h1092, X1092, e1092, W1092, st1092⟩ := stC X1081 hx hZ e1081 Ar1092 (j := (1 : Int32)) (inb_of S1092 ⟨by decide, by decide⟩) (g := (mkF m 174 #[iv p0, iv p1, iv p2, iv p3, iv p4, iv p5, rv b1053, iv 3, iv 0, rv c1059, iv ed, iv 1] [(.int ((p1 &&& 255).toUInt32.toUInt16.toUInt32.toInt32)), (.int 1), (.ref b1053)])) rfl rfl (D at_174)
        have W1092 : Wr h1081 h1092 b1053 ((1 : Int32)).toNatClampNeg (.int (p1 &&& 255)) := Eq.mp (congrArg (fun z => Wr h1081 h1092 b1053 ((1 : Int32)).toNatClampNeg (Value.int z)) (own_c255 p1)) W1092
        have f1094 : Exa Z h1081 b1053 "[C" := (Exa.wr W1081 f1083)
        have O1095 := Old0.wr O1084 W1092 g_b1053
        have C1093 := CHr.trans C1082 (CHr.wr W1092 (Safe.exa hZ.alike f1094 (by decide) (by decide)) C1082.1)
        have hk := Nat.le_trans hk (Keep.of_wr W1092).1
        have f1092 : Arv Z h1092 b1053 k1053 .char (6 : Int32) [(.int (r_1061 &&& 255)), (.int (p1 &&& 255)), (.int (r_1076 &&& 255)), (.int 0), (.int 0), (.int 0)] (.int 0) := Arv.set Ar1092 qk1092 S1092 Ng1092 H1092 G1092 (v := (.int (p1 &&& 255))) (own_f255 p1) W1092 1 rfl (Nat.le_of_ble_eq_true rfl)
        have N1092 := Fr.snoc X1092 N1081 g_b1053
        refine GoS.of (T' := T1092) (f' := (mkF m 283 #[iv p0, iv p1, iv p2, iv p3, iv p4, iv p5, rv b1053, iv 3, iv 0, rv c1059, iv ed, iv 1] [])) (fun _ k => XS.aload X1081.here hx rfl (D at_164) rfl rfl (XS.iload X1081.here hx rfl (D at_166) rfl (XS.iloadN X1081.here hx rfl (D at_168) rfl (XS.sipush X1081.here hx rfl (D at_169) (XS.iand X1081.here hx rfl (D at_172) rfl (XS.i2c X1081.here hx rfl (D at_173) rfl (st1092 _ (XS.goto X1092.here hx rfl (pc0 := 175) (pc' := 216) rfl (D at_175) (by decide) (by decide) (XS.goto X1092.here hx rfl (pc0 := 216) (pc' := 283) rfl (D at_216) (by decide) (by decide) k))))))))) ?_
        exact rm_t3 hw G p0 p1 p2 p3 p4 p5 (b1053) (k1053) (r_1061) (p1) (r_1076) ((0 : Int32)) ((0 : Int32)) ((0 : Int32)) (One.val rfl) (One.val rfl) (One.val rfl) (One.val rfl) hx hby hml hown hret hlk hZ hS hk  C1093 e1092 (Stand.more X1092 (by decide) (by decide)) N1092 O1095 f1092 
      | 2, _ =>
        refine GoS.cast (f' := (mkF m 164 #[iv p0, iv p1, iv p2, iv p3, iv p4, iv p5, rv b1053, iv 3, iv 0, rv c1059, iv ed, iv 2] [])) rfl ?_
        obtain ⟨cl1096, Ar1096, qk1096, S1096, Ng1096, H1096, G1096⟩ := id f1081
        obtain ⟨T1096, h1096, X1096, e1096, W1096, st1096⟩ := stC X1081 hx hZ e1081 Ar1096 (j := (2 : Int32)) (inb_of S1096 ⟨by decide, by decide⟩) (g := (mkF m 174 #[iv p0, iv p1, iv p2, iv p3, iv p4, iv p5, rv b1053, iv 3, iv 0, rv c1059, iv ed, iv 2] [(.int ((p1 &&& 255).toUInt32.toUInt16.toUInt32.toInt32)), (.int 2), (.ref b1053)])) rfl rfl (D at_174)
        have W1096 : Wr h1081 h1096 b1053 ((2 : Int32)).toNatClampNeg (.int (p1 &&& 255)) := Eq.mp (congrArg (fun z => Wr h1081 h1096 b1053 ((2 : Int32)).toNatClampNeg (Value.int z)) (own_c255 p1)) W1096
        have f1098 : Exa Z h1081 b1053 "[C" := (Exa.wr W1081 f1083)
        have O1099 := Old0.wr O1084 W1096 g_b1053
        have C1097 := CHr.trans C1082 (CHr.wr W1096 (Safe.exa hZ.alike f1098 (by decide) (by decide)) C1082.1)
        have hk := Nat.le_trans hk (Keep.of_wr W1096).1
        have f1096 : Arv Z h1096 b1053 k1053 .char (6 : Int32) [(.int (r_1061 &&& 255)), (.int (r_1067 &&& 255)), (.int (p1 &&& 255)), (.int 0), (.int 0), (.int 0)] (.int 0) := Arv.set Ar1096 qk1096 S1096 Ng1096 H1096 G1096 (v := (.int (p1 &&& 255))) (own_f255 p1) W1096 2 rfl (Nat.le_of_ble_eq_true rfl)
        have N1096 := Fr.snoc X1096 N1081 g_b1053
        refine GoS.of (T' := T1096) (f' := (mkF m 283 #[iv p0, iv p1, iv p2, iv p3, iv p4, iv p5, rv b1053, iv 3, iv 0, rv c1059, iv ed, iv 2] [])) (fun _ k => XS.aload X1081.here hx rfl (D at_164) rfl rfl (XS.iload X1081.here hx rfl (D at_166) rfl (XS.iloadN X1081.here hx rfl (D at_168) rfl (XS.sipush X1081.here hx rfl (D at_169) (XS.iand X1081.here hx rfl (D at_172) rfl (XS.i2c X1081.here hx rfl (D at_173) rfl (st1096 _ (XS.goto X1096.here hx rfl (pc0 := 175) (pc' := 216) rfl (D at_175) (by decide) (by decide) (XS.goto X1096.here hx rfl (pc0 := 216) (pc' := 283) rfl (D at_216) (by decide) (by decide) k))))))))) ?_
        exact rm_t3 hw G p0 p1 p2 p3 p4 p5 (b1053) (k1053) (r_1061) (r_1067) (p1) ((0 : Int32)) ((0 : Int32)) ((0 : Int32)) (One.val rfl) (One.val rfl) (One.val rfl) (One.val rfl) hx hby hml hown hret hlk hZ hS hk  C1097 e1096 (Stand.more X1096 (by decide) (by decide)) N1096 O1099 f1096 
      | n + 3, h => exact absurd h (by omega)
    · skip
      refine GoS.of (T' := T1081) (f' := (mkF m 181 #[iv p0, iv p1, iv p2, iv p3, iv p4, iv p5, rv b1053, iv 3, iv 0, rv c1059, iv ed, .unset] [(.int 2), (.int ed)])) (fun _ k => XS.icmpYes X1081.here hx rfl (pc0 := 149) (pc' := 178) rfl (D at_149) rfl (feq hc1087).2 (by decide) (by decide) (XS.iload X1081.here hx rfl (D at_178) rfl (XS.iconst X1081.here hx rfl (D at_180) k))) ?_
      by_cases hc1100 : ed = (2 : Int32)
      · skip
        refine GoS.of (T' := T1081) (f' := (mkF m 283 #[iv p0, iv p1, iv p2, iv p3, iv p4, iv p5, rv b1053, iv 2, iv 0, rv c1059, iv ed, .unset] [])) (fun _ k => XS.icmpNo X1081.here hx rfl (D at_181) rfl (teq hc1100).2 (XS.iload X1081.here hx rfl (D at_184) rfl (XS.iconst X1081.here hx rfl (D at_186) (XS.isub X1081.here hx rfl (D at_187) rfl (XS.istore X1081.here hx rfl (D at_188) rfl (l' := #[iv p0, iv p1, iv p2, iv p3, iv p4, iv p5, rv b1053, iv 2, iv 0, rv c1059, iv ed, .unset]) rfl (XS.goto X1081.here hx rfl (pc0 := 190) (pc' := 216) rfl (D at_190) (by decide) (by decide) (XS.goto X1081.here hx rfl (pc0 := 216) (pc' := 283) rfl (D at_216) (by decide) (by decide) k))))))) ?_
        exact rm_t2 hw G p0 p1 p2 p3 p4 p5 (b1053) (k1053) (r_1061) (r_1067) (r_1076) ((0 : Int32)) ((0 : Int32)) ((0 : Int32)) (One.val rfl) (One.val rfl) (One.val rfl) (One.u) hx hby hml hown hret hlk hZ hS hk  C1082 e1081 (Stand.more X1081 (by decide) (by decide)) N1081 O1084 f1081 
      · skip
        refine GoS.of (T' := T1081) (f' := (mkF m 196 #[iv p0, iv p1, iv p2, iv p3, iv p4, iv p5, rv b1053, iv 3, iv 0, rv c1059, iv ed, .unset] [(.int 3), (.int ed)])) (fun _ k => XS.icmpYes X1081.here hx rfl (pc0 := 181) (pc' := 193) rfl (D at_181) rfl (feq hc1100).2 (by decide) (by decide) (XS.iload X1081.here hx rfl (D at_193) rfl (XS.iconst X1081.here hx rfl (D at_195) k))) ?_
        by_cases hc1101 : ed = (3 : Int32)
        · skip
          obtain ⟨cl1102, Ar1102, qk1102, S1102, Ng1102, H1102, G1102⟩ := id f1081
          obtain ⟨T1102, h1102, X1102, e1102, W1102, st1102⟩ := stC X1081 hx hZ e1081 Ar1102 (j := (3 : Int32)) (inb_of S1102 ⟨by decide, by decide⟩) (g := (mkF m 209 #[iv p0, iv p1, iv p2, iv p3, iv p4, iv p5, rv b1053, iv 3, iv 0, rv c1059, iv ed, .unset] [(.int ((p1 &&& 255).toUInt32.toUInt16.toUInt32.toInt32)), (.int 3), (.ref b1053)])) rfl rfl (D at_209)
          have W1102 : Wr h1081 h1102 b1053 ((3 : Int32)).toNatClampNeg (.int (p1 &&& 255)) := Eq.mp (congrArg (fun z => Wr h1081 h1102 b1053 ((3 : Int32)).toNatClampNeg (Value.int z)) (own_c255 p1)) W1102
          have f1104 : Exa Z h1081 b1053 "[C" := (Exa.wr W1081 f1083)
          have O1105 := Old0.wr O1084 W1102 g_b1053
          have C1103 := CHr.trans C1082 (CHr.wr W1102 (Safe.exa hZ.alike f1104 (by decide) (by decide)) C1082.1)
          have hk := Nat.le_trans hk (Keep.of_wr W1102).1
          have f1102 : Arv Z h1102 b1053 k1053 .char (6 : Int32) [(.int (r_1061 &&& 255)), (.int (r_1067 &&& 255)), (.int (r_1076 &&& 255)), (.int (p1 &&& 255)), (.int 0), (.int 0)] (.int 0) := Arv.set Ar1102 qk1102 S1102 Ng1102 H1102 G1102 (v := (.int (p1 &&& 255))) (own_f255 p1) W1102 3 rfl (Nat.le_of_ble_eq_true rfl)
          have N1102 := Fr.snoc X1102 N1081 g_b1053
          refine GoS.of (T' := T1102) (f' := (mkF m 283 #[iv p0, iv p1, iv p2, iv p3, iv p4, iv p5, rv b1053, iv 4, iv 0, rv c1059, iv ed, .unset] [])) (fun _ k => XS.icmpNo X1081.here hx rfl (D at_196) rfl (teq hc1101).2 (XS.aload X1081.here hx rfl (D at_199) rfl rfl (XS.iload X1081.here hx rfl (D at_201) rfl (XS.iloadN X1081.here hx rfl (D at_203) rfl (XS.sipush X1081.here hx rfl (D at_204) (XS.iand X1081.here hx rfl (D at_207) rfl (XS.i2c X1081.here hx rfl (D at_208) rfl (st1102 _ (XS.iload X1102.here hx rfl (D at_210) rfl (XS.iconst X1102.here hx rfl (D at_212) (XS.iadd X1102.here hx rfl (D at_213) rfl (XS.istore X1102.here hx rfl (D at_214) rfl (l' := #[iv p0, iv p1, iv p2, iv p3, iv p4, iv p5, rv b1053, iv 4, iv 0, rv c1059, iv ed, .unset]) rfl (XS.goto X1102.here hx rfl (pc0 := 216) (pc' := 283) rfl (D at_216) (by decide) (by decide) k))))))))))))) ?_
          exact rm_t4 hw G p0 p1 p2 p3 p4 p5 (b1053) (k1053) (r_1061) (r_1067) (r_1076) (p1) ((0 : Int32)) ((0 : Int32)) (One.val rfl) (One.val rfl) (One.val rfl) (One.u) hx hby hml hown hret hlk hZ hS hk  C1103 e1102 (Stand.more X1102 (by decide) (by decide)) N1102 O1105 f1102 
        · skip
          refine GoS.of (T' := T1081) (f' := (mkF m 283 #[iv p0, iv p1, iv p2, iv p3, iv p4, iv p5, rv b1053, iv 3, iv 0, rv c1059, iv ed, .unset] [])) (fun _ k => XS.icmpYes X1081.here hx rfl (pc0 := 196) (pc' := 216) rfl (D at_196) rfl (feq hc1101).2 (by decide) (by decide) (XS.goto X1081.here hx rfl (pc0 := 216) (pc' := 283) rfl (D at_216) (by decide) (by decide) k)) ?_
          exact rm_t3 hw G p0 p1 p2 p3 p4 p5 (b1053) (k1053) (r_1061) (r_1067) (r_1076) ((0 : Int32)) ((0 : Int32)) ((0 : Int32)) (One.val rfl) (One.val rfl) (One.val rfl) (One.u) hx hby hml hown hret hlk hZ hS hk  C1082 e1081 (Stand.more X1081 (by decide) (by decide)) N1081 O1084 f1081 
  | 1, _ =>
    refine GoS.cast (f' := (mkF m 16 #[iv p0, iv p1, iv p2, iv p3, iv p4, iv p5, rv b1053, .unset, iv 1, .unset, .unset, .unset] [])) rfl ?_
    refine GoS.of (T' := T1053) (f' := (mkF m 38 #[iv p0, iv p1, iv p2, iv p3, iv p4, iv p5, rv b1053, .unset, iv 1, .unset, .unset, .unset] [])) (fun _ k => XS.iload X1053.here hx rfl (D at_16) rfl (XS.iconst X1053.here hx rfl (D at_18) (XS.icmpNo X1053.here hx rfl (D at_19) rfl (tlt (by decide : (1 : Int32) < (5 : Int32))).2.1 (XS.iload X1053.here hx rfl (D at_22) rfl (XS.ifYes X1053.here hx rfl (pc0 := 24) (pc' := 32) rfl (D at_24) rfl ((if0 _ _).trans (feq (by decide : ¬ ((1 : Int32) = (0 : Int32)))).2) (by decide) (by decide) (XS.iload X1053.here hx rfl (D at_32) rfl (XS.iconst X1053.here hx rfl (D at_34) (XS.icmpNo X1053.here hx rfl (D at_35) rfl (teq (by decide : (1 : Int32) = (1 : Int32))).2 k)))))))) ?_
    have sp1109_b1053 : Safe Z own_EL s.vm h1053 b1053 := (Safe.exa hZ.alike A1053 (by decide) (by decide))
    obtain ⟨c1109, T1109, h1109, k11109, v1109, kc1109, X1109, e1109, E1109, hS, hk1109, hZ, hown, A1109, Fc1109, Fv1109, V1109, -, -, Cq1109, -, sn1109, st1109⟩ := ldcCH X1053 hx hZ hown (own_w hw (i := 107) rfl) (own_wS hw) e1053 hS hk hEL (by decide) C1054.1 (vs := [(.int 108), (.int 105), (.int 115), (.int 116)]) (z := (4 : Int32)) ⟨by decide +kernel, by decide +kernel⟩ (by decide) rfl (g := (mkF m 38 #[iv p0, iv p1, iv p2, iv p3, iv p4, iv p5, rv b1053, .unset, iv 1, .unset, .unset, .unset] [])) rfl (D at_38) (n := 16) (by decide +kernel) (by decide) (by decide) (by decide)
    have O1109 := Old0.ext O1055 E1109
    have C1109 := CHr.trans C1054 Cq1109
    have hk := hk1109
    have sf1109_b1053 : Safe Z own_EL T1109.vm h1109 b1053 := CHr.safe Cq1109 A1053.lt sp1109_b1053
    have ne_b1053_c1109 : b1053 ≠ c1109 := (sn1109 b1053 sf1109_b1053).1
    have ne_b1053_v1109 : b1053 ≠ v1109 := (sn1109 b1053 sf1109_b1053).2
    obtain ⟨T1110, v1110, L1110, X1110, q1110, st1110⟩ := callVi X1109 hx hZ (y := own_m36) (z := own_m36) hown (own_w hw (i := 9) rfl) (own_w hw (i := 10) rfl) (notFace_of_selects (args := #[]) (mvT hZ (own_w hw (i := 12) rfl))) (own_w hw (i := 12) rfl) (own_w hw (i := 11) rfl) (own_w hw (i := 13) rfl) (own_w hw (i := 2) rfl) (by decide) (rm_len hw G c1109 v1109 kc1109 ((4 : Int32)) (([(108 : Int32), (105 : Int32), (115 : Int32), (116 : Int32)] : List Int32)) h1109 O1109 A1109 Fv1109 Fc1109 V1109 (by first | decide | assumption | omega)) e1109 (W := 0) (by decide) (by decide) (by decide) (by decide) A1109 (g := (mkF m 71 #[iv p0, iv p1, iv p2, iv p3, iv p4, iv p5, rv b1053, .unset, iv 1, rv c1109, .unset, .unset] [(.ref c1109)])) rfl (by rw [hml]; rfl) (argsL := []) (rest := []) (lenOf pd49 rfl) rfl rfl (Nat.le_of_eq rfl) (D at_71)
    obtain ⟨rfl, e1110, rfl⟩ := q1110
    have N1110 := Fr.app N0 (Fr.nil _)
    obtain ⟨T1111, v1111, L1111, X1111, q1111, st1111⟩ := callVi X1110 hx hZ (y := own_m33) (z := own_m33) hown (own_w hw (i := 22) rfl) (own_w hw (i := 23) rfl) (notFace_of_selects (args := #[]) (mvT hZ (own_w hw (i := 25) rfl))) (own_w hw (i := 25) rfl) (own_w hw (i := 24) rfl) (own_w hw (i := 26) rfl) (own_w hw (i := 2) rfl) (by decide) (rm_ch hw G c1109 ((0 : Int32)) v1109 kc1109 ((4 : Int32)) (([(108 : Int32), (105 : Int32), (115 : Int32), (116 : Int32)] : List Int32)) h1109 O1109 (by first | decide | assumption | omega) (by first | decide | assumption | omega) A1109 Fv1109 Fc1109 V1109) e1110 (W := 2) (by decide) (by decide) (by decide) (by decide) A1109 (g := (mkF m 82 #[iv p0, iv p1, iv p2, iv p3, iv p4, iv p5, rv b1053, iv 4, iv 1, rv c1109, .unset, .unset] [(.int 0), (.ref c1109), (.int 0), (.ref b1053)])) rfl (by rw [hml]; rfl) (argsL := [(.int 0)]) (rest := [(.int 0), (.ref b1053)]) (lenOf pd50 rfl) rfl rfl (Nat.le_of_eq rfl) (D at_82)
    obtain ⟨r_1111, rfl, e1111, rfl⟩ := q1111
    have N1111 := Fr.app N1110 (Fr.nil _)
    have f1113 : Arv Z h1109 b1053 k1053 .char (6 : Int32) [(.int 0), (.int 0), (.int 0), (.int 0), (.int 0), (.int 0)] (.int 0) := (Arv.ext f1056 E1109)
    obtain ⟨cl1112, Ar1112, qk1112, S1112, Ng1112, H1112, G1112⟩ := id f1113
    obtain ⟨T1112, h1112, X1112, e1112, W1112, st1112⟩ := stC X1111 hx hZ e1111 Ar1112 (j := (0 : Int32)) (inb_of S1112 ⟨by decide, by decide⟩) (g := (mkF m 85 #[iv p0, iv p1, iv p2, iv p3, iv p4, iv p5, rv b1053, iv 4, iv 1, rv c1109, .unset, .unset] [(.int (r_1111 &&& 255)), (.int 0), (.ref b1053)])) rfl rfl (D at_85)
    have W1112 : Wr h1109 h1112 b1053 ((0 : Int32)).toNatClampNeg (.int (r_1111 &&& 255)) := Eq.mp (congrArg (fun z => Wr h1109 h1112 b1053 ((0 : Int32)).toNatClampNeg (Value.int z)) (i2c_mask r_1111)) W1112
    have f1115 : Exa Z h1109 b1053 "[C" := (Exa.ext E1109 A1053)
    have O1116 := Old0.wr O1109 W1112 g_b1053
    have C1114 := CHr.trans C1109 (CHr.wr W1112 (Safe.exa hZ.alike f1115 (by decide) (by decide)) C1109.1)
    have hk := Nat.le_trans hk (Keep.of_wr W1112).1
    have f1112 : Arv Z h1112 b1053 k1053 .char (6 : Int32) [(.int (r_1111 &&& 255)), (.int 0), (.int 0), (.int 0), (.int 0), (.int 0)] (.int 0) := Arv.set Ar1112 qk1112 S1112 Ng1112 H1112 G1112 (v := (.int (r_1111 &&& 255))) (own_f255 r_1111) W1112 0 rfl (Nat.le_of_ble_eq_true rfl)
    have N1112 := Fr.snoc X1112 N1111 g_b1053
    have f1118 : Exa Z h1112 c1109 "java/lang/String" := (Exa.wr W1112 A1109)
    have f1119 : Fld Z h1112 c1109 "java/lang/String" "value" "[B" (.ref v1109) := (Fld.other W1112 Fv1109 (Or.inl (Ne.symm ne_b1053_c1109)))
    have f1120 : Fld Z h1112 c1109 "java/lang/String" "coder" "B" (.int 0) := (Fld.other W1112 Fc1109 (Or.inl (Ne.symm ne_b1053_c1109)))
    have f1121 : Arv Z h1112 v1109 kc1109 .byte (4 : Int32) [(.int 108), (.int 105), (.int 115), (.int 116)] (.int 0) := (Arv.other V1109 W1112 (Ne.symm ne_b1053_v1109))
    obtain ⟨T1117, v1117, L1117, X1117, q1117, st1117⟩ := callVi X1112 hx hZ (y := own_m33) (z := own_m33) hown (own_w hw (i := 22) rfl) (own_w hw (i := 23) rfl) (notFace_of_selects (args := #[]) (mvT hZ (own_w hw (i := 25) rfl))) (own_w hw (i := 25) rfl) (own_w hw (i := 24) rfl) (own_w hw (i := 26) rfl) (own_w hw (i := 2) rfl) (by decide) (rm_ch hw G c1109 ((1 : Int32)) v1109 kc1109 ((4 : Int32)) (([(108 : Int32), (105 : Int32), (115 : Int32), (116 : Int32)] : List Int32)) h1112 O1116 (by first | decide | assumption | omega) (by first | decide | assumption | omega) f1118 f1119 f1120 f1121) e1112 (W := 2) (by decide) (by decide) (by decide) (by decide) f1118 (g := (mkF m 92 #[iv p0, iv p1, iv p2, iv p3, iv p4, iv p5, rv b1053, iv 4, iv 1, rv c1109, .unset, .unset] [(.int 1), (.ref c1109), (.int 1), (.ref b1053)])) rfl (by rw [hml]; rfl) (argsL := [(.int 1)]) (rest := [(.int 1), (.ref b1053)]) (lenOf pd50 rfl) rfl rfl (Nat.le_of_eq rfl) (D at_92)
    obtain ⟨r_1117, rfl, e1117, rfl⟩ := q1117
    have N1117 := Fr.app N1112 (Fr.nil _)
    obtain ⟨cl1122, Ar1122, qk1122, S1122, Ng1122, H1122, G1122⟩ := id f1112
    obtain ⟨T1122, h1122, X1122, e1122, W1122, st1122⟩ := stC X1117 hx hZ e1117 Ar1122 (j := (1 : Int32)) (inb_of S1122 ⟨by decide, by decide⟩) (g := (mkF m 95 #[iv p0, iv p1, iv p2, iv p3, iv p4, iv p5, rv b1053, iv 4, iv 1, rv c1109, .unset, .unset] [(.int (r_1117 &&& 255)), (.int 1), (.ref b1053)])) rfl rfl (D at_95)
    have W1122 : Wr h1112 h1122 b1053 ((1 : Int32)).toNatClampNeg (.int (r_1117 &&& 255)) := Eq.mp (congrArg (fun z => Wr h1112 h1122 b1053 ((1 : Int32)).toNatClampNeg (Value.int z)) (i2c_mask r_1117)) W1122
    have f1124 : Exa Z h1112 b1053 "[C" := (Exa.wr W1112 f1115)
    have O1125 := Old0.wr O1116 W1122 g_b1053
    have C1123 := CHr.trans C1114 (CHr.wr W1122 (Safe.exa hZ.alike f1124 (by decide) (by decide)) C1114.1)
    have hk := Nat.le_trans hk (Keep.of_wr W1122).1
    have f1122 : Arv Z h1122 b1053 k1053 .char (6 : Int32) [(.int (r_1111 &&& 255)), (.int (r_1117 &&& 255)), (.int 0), (.int 0), (.int 0), (.int 0)] (.int 0) := Arv.set Ar1122 qk1122 S1122 Ng1122 H1122 G1122 (v := (.int (r_1117 &&& 255))) (own_f255 r_1117) W1122 1 rfl (Nat.le_of_ble_eq_true rfl)
    have N1122 := Fr.snoc X1122 N1117 g_b1053
    have f1127 : Exa Z h1122 c1109 "java/lang/String" := (Exa.wr W1122 f1118)
    have f1128 : Fld Z h1122 c1109 "java/lang/String" "value" "[B" (.ref v1109) := (Fld.other W1122 f1119 (Or.inl (Ne.symm ne_b1053_c1109)))
    have f1129 : Fld Z h1122 c1109 "java/lang/String" "coder" "B" (.int 0) := (Fld.other W1122 f1120 (Or.inl (Ne.symm ne_b1053_c1109)))
    have f1130 : Arv Z h1122 v1109 kc1109 .byte (4 : Int32) [(.int 108), (.int 105), (.int 115), (.int 116)] (.int 0) := (Arv.other f1121 W1122 (Ne.symm ne_b1053_v1109))
    obtain ⟨T1126, v1126, L1126, X1126, q1126, st1126⟩ := callVi X1122 hx hZ (y := own_m33) (z := own_m33) hown (own_w hw (i := 22) rfl) (own_w hw (i := 23) rfl) (notFace_of_selects (args := #[]) (mvT hZ (own_w hw (i := 25) rfl))) (own_w hw (i := 25) rfl) (own_w hw (i := 24) rfl) (own_w hw (i := 26) rfl) (own_w hw (i := 2) rfl) (by decide) (rm_ch hw G c1109 ((2 : Int32)) v1109 kc1109 ((4 : Int32)) (([(108 : Int32), (105 : Int32), (115 : Int32), (116 : Int32)] : List Int32)) h1122 O1125 (by first | decide | assumption | omega) (by first | decide | assumption | omega) f1127 f1128 f1129 f1130) e1122 (W := 2) (by decide) (by decide) (by decide) (by decide) f1127 (g := (mkF m 102 #[iv p0, iv p1, iv p2, iv p3, iv p4, iv p5, rv b1053, iv 4, iv 1, rv c1109, .unset, .unset] [(.int 2), (.ref c1109), (.int 2), (.ref b1053)])) rfl (by rw [hml]; rfl) (argsL := [(.int 2)]) (rest := [(.int 2), (.ref b1053)]) (lenOf pd50 rfl) rfl rfl (Nat.le_of_eq rfl) (D at_102)
    obtain ⟨r_1126, rfl, e1126, rfl⟩ := q1126
    have N1126 := Fr.app N1122 (Fr.nil _)
    obtain ⟨cl1131, Ar1131, qk1131, S1131, Ng1131, H1131, G1131⟩ := id f1122
    obtain ⟨T1131, h1131, X1131, e1131, W1131, st1131⟩ := stC X1126 hx hZ e1126 Ar1131 (j := (2 : Int32)) (inb_of S1131 ⟨by decide, by decide⟩) (g := (mkF m 105 #[iv p0, iv p1, iv p2, iv p3, iv p4, iv p5, rv b1053, iv 4, iv 1, rv c1109, .unset, .unset] [(.int (r_1126 &&& 255)), (.int 2), (.ref b1053)])) rfl rfl (D at_105)
    have W1131 : Wr h1122 h1131 b1053 ((2 : Int32)).toNatClampNeg (.int (r_1126 &&& 255)) := Eq.mp (congrArg (fun z => Wr h1122 h1131 b1053 ((2 : Int32)).toNatClampNeg (Value.int z)) (i2c_mask r_1126)) W1131
    have f1133 : Exa Z h1122 b1053 "[C" := (Exa.wr W1122 f1124)
    have O1134 := Old0.wr O1125 W1131 g_b1053
    have C1132 := CHr.trans C1123 (CHr.wr W1131 (Safe.exa hZ.alike f1133 (by decide) (by decide)) C1123.1)
    have hk := Nat.le_trans hk (Keep.of_wr W1131).1
    have f1131 : Arv Z h1131 b1053 k1053 .char (6 : Int32) [(.int (r_1111 &&& 255)), (.int (r_1117 &&& 255)), (.int (r_1126 &&& 255)), (.int 0), (.int 0), (.int 0)] (.int 0) := Arv.set Ar1131 qk1131 S1131 Ng1131 H1131 G1131 (v := (.int (r_1126 &&& 255))) (own_f255 r_1126) W1131 2 rfl (Nat.le_of_ble_eq_true rfl)
    have N1131 := Fr.snoc X1131 N1126 g_b1053
    refine GoS.of (T' := T1131) (f' := (mkF m 106 #[iv p0, iv p1, iv p2, iv p3, iv p4, iv p5, rv b1053, iv 4, iv 1, rv c1109, .unset, .unset] [])) (fun _ k => st1109 _ (XS.goto X1109.here hx rfl (pc0 := 40) (pc' := 67) rfl (D at_40) (by decide) (by decide) (XS.astore X1109.here hx rfl (D at_67) rfl rfl (l' := #[iv p0, iv p1, iv p2, iv p3, iv p4, iv p5, rv b1053, .unset, iv 1, rv c1109, .unset, .unset]) rfl (XS.aload X1109.here hx rfl (D at_69) rfl rfl (st1110 _ (XS.istore X1110.here hx rfl (D at_74) rfl (l' := #[iv p0, iv p1, iv p2, iv p3, iv p4, iv p5, rv b1053, iv 4, iv 1, rv c1109, .unset, .unset]) rfl (XS.aload X1110.here hx rfl (D at_76) rfl rfl (XS.iconst X1110.here hx rfl (D at_78) (XS.aload X1110.here hx rfl (D at_79) rfl rfl (XS.iconst X1110.here hx rfl (D at_81) (st1111 _ (st1112 _ (XS.aload X1112.here hx rfl (D at_86) rfl rfl (XS.iconst X1112.here hx rfl (D at_88) (XS.aload X1112.here hx rfl (D at_89) rfl rfl (XS.iconst X1112.here hx rfl (D at_91) (st1117 _ (st1122 _ (XS.aload X1122.here hx rfl (D at_96) rfl rfl (XS.iconst X1122.here hx rfl (D at_98) (XS.aload X1122.here hx rfl (D at_99) rfl rfl (XS.iconst X1122.here hx rfl (D at_101) (st1126 _ (st1131 _ k)))))))))))))))))))))))) ?_
    have f1137 : Exa Z h1131 c1109 "java/lang/String" := (Exa.wr W1131 f1127)
    have f1138 : Fld Z h1131 c1109 "java/lang/String" "value" "[B" (.ref v1109) := (Fld.other W1131 f1128 (Or.inl (Ne.symm ne_b1053_c1109)))
    have f1139 : Fld Z h1131 c1109 "java/lang/String" "coder" "B" (.int 0) := (Fld.other W1131 f1129 (Or.inl (Ne.symm ne_b1053_c1109)))
    have f1140 : Arv Z h1131 v1109 kc1109 .byte (4 : Int32) [(.int 108), (.int 105), (.int 115), (.int 116)] (.int 0) := (Arv.other f1130 W1131 (Ne.symm ne_b1053_v1109))
    obtain ⟨T1136, v1136, L1136, X1136, q1136, st1136⟩ := callVi X1131 hx hZ (y := own_m33) (z := own_m33) hown (own_w hw (i := 22) rfl) (own_w hw (i := 23) rfl) (notFace_of_selects (args := #[]) (mvT hZ (own_w hw (i := 25) rfl))) (own_w hw (i := 25) rfl) (own_w hw (i := 24) rfl) (own_w hw (i := 26) rfl) (own_w hw (i := 2) rfl) (by decide) (rm_ch hw G c1109 ((3 : Int32)) v1109 kc1109 ((4 : Int32)) (([(108 : Int32), (105 : Int32), (115 : Int32), (116 : Int32)] : List Int32)) h1131 O1134 (by first | decide | assumption | omega) (by first | decide | assumption | omega) f1137 f1138 f1139 f1140) e1131 (W := 2) (by decide) (by decide) (by decide) (by decide) f1137 (g := (mkF m 118 #[iv p0, iv p1, iv p2, iv p3, iv p4, iv p5, rv b1053, iv 4, iv 1, rv c1109, .unset, .unset] [(.int 3), (.ref c1109), (.int 3), (.ref b1053)])) rfl (by rw [hml]; rfl) (argsL := [(.int 3)]) (rest := [(.int 3), (.ref b1053)]) (lenOf pd50 rfl) rfl rfl (Nat.le_of_eq rfl) (D at_118)
    obtain ⟨r_1136, rfl, e1136, rfl⟩ := q1136
    have N1136 := Fr.app N1131 (Fr.nil _)
    obtain ⟨cl1141, Ar1141, qk1141, S1141, Ng1141, H1141, G1141⟩ := id f1131
    obtain ⟨T1141, h1141, X1141, e1141, W1141, st1141⟩ := stC X1136 hx hZ e1136 Ar1141 (j := (3 : Int32)) (inb_of S1141 ⟨by decide, by decide⟩) (g := (mkF m 121 #[iv p0, iv p1, iv p2, iv p3, iv p4, iv p5, rv b1053, iv 4, iv 1, rv c1109, .unset, .unset] [(.int (r_1136 &&& 255)), (.int 3), (.ref b1053)])) rfl rfl (D at_121)
    have W1141 : Wr h1131 h1141 b1053 ((3 : Int32)).toNatClampNeg (.int (r_1136 &&& 255)) := Eq.mp (congrArg (fun z => Wr h1131 h1141 b1053 ((3 : Int32)).toNatClampNeg (Value.int z)) (i2c_mask r_1136)) W1141
    have f1143 : Exa Z h1131 b1053 "[C" := (Exa.wr W1131 f1133)
    have O1144 := Old0.wr O1134 W1141 g_b1053
    have C1142 := CHr.trans C1132 (CHr.wr W1141 (Safe.exa hZ.alike f1143 (by decide) (by decide)) C1132.1)
    have hk := Nat.le_trans hk (Keep.of_wr W1141).1
    have f1141 : Arv Z h1141 b1053 k1053 .char (6 : Int32) [(.int (r_1111 &&& 255)), (.int (r_1117 &&& 255)), (.int (r_1126 &&& 255)), (.int (r_1136 &&& 255)), (.int 0), (.int 0)] (.int 0) := Arv.set Ar1141 qk1141 S1141 Ng1141 H1141 G1141 (v := (.int (r_1136 &&& 255))) (own_f255 r_1136) W1141 3 rfl (Nat.le_of_ble_eq_true rfl)
    have N1141 := Fr.snoc X1141 N1136 g_b1053
    refine GoS.of (T' := T1141) (f' := (mkF m 144 #[iv p0, iv p1, iv p2, iv p3, iv p4, iv p5, rv b1053, iv 4, iv 1, rv c1109, .unset, .unset] [(.int (((p0.toUInt32 >>> ((8 : Int32) &&& 31).toUInt32).toInt32) &&& (3 : Int32)))])) (fun _ k => XS.iload X1131.here hx rfl (D at_106) rfl (XS.iconst X1131.here hx rfl (D at_108) (XS.icmpNo X1131.here hx rfl (D at_109) rfl (tlt (by decide : (3 : Int32) < (4 : Int32))).2.2.2 (XS.aload X1131.here hx rfl (D at_112) rfl rfl (XS.iconst X1131.here hx rfl (D at_114) (XS.aload X1131.here hx rfl (D at_115) rfl rfl (XS.iconst X1131.here hx rfl (D at_117) (st1136 _ (st1141 _ (XS.iload X1141.here hx rfl (D at_122) rfl (XS.iconst X1141.here hx rfl (D at_124) (XS.icmpYes X1141.here hx rfl (pc0 := 125) (pc' := 138) rfl (D at_125) rfl (flt (by decide : ¬ ((4 : Int32) < (4 : Int32)))).2.2.2 (by decide) (by decide) (XS.iloadN X1141.here hx rfl (D at_138) rfl (XS.bipush X1141.here hx rfl (D at_139) (XS.iushr X1141.here hx rfl (D at_141) rfl (XS.iconst X1141.here hx rfl (D at_142) (XS.iand X1141.here hx rfl (D at_143) rfl k))))))))))))))))) ?_
    generalize hed : ((((p0.toUInt32 >>> ((8 : Int32) &&& 31).toUInt32).toInt32) &&& (3 : Int32)) : Int32) = ed
    refine GoS.of (T' := T1141) (f' := (mkF m 149 #[iv p0, iv p1, iv p2, iv p3, iv p4, iv p5, rv b1053, iv 4, iv 1, rv c1109, iv ed, .unset] [(.int 1), (.int ed)])) (fun _ k => XS.istore X1141.here hx rfl (D at_144) rfl (l' := #[iv p0, iv p1, iv p2, iv p3, iv p4, iv p5, rv b1053, iv 4, iv 1, rv c1109, iv ed, .unset]) rfl (XS.iload X1141.here hx rfl (D at_146) rfl (XS.iconst X1141.here hx rfl (D at_148) k))) ?_
    by_cases hc1146 : ed = (1 : Int32)
    · skip
      refine GoS.of (T' := T1141) (f' := (mkF m 159 #[iv p0, iv p1, iv p2, iv p3, iv p4, iv p5, rv b1053, iv 4, iv 1, rv c1109, iv ed, .unset] [(.int (((p0.toUInt32 >>> ((10 : Int32) &&& 31).toUInt32).toInt32) &&& (7 : Int32)))])) (fun _ k => XS.icmpNo X1141.here hx rfl (D at_149) rfl (teq hc1146).2 (XS.iloadN X1141.here hx rfl (D at_152) rfl (XS.bipush X1141.here hx rfl (D at_153) (XS.iushr X1141.here hx rfl (D at_155) rfl (XS.bipush X1141.here hx rfl (D at_156) (XS.iand X1141.here hx rfl (D at_158) rfl k)))))) ?_
      generalize hpq : ((((p0.toUInt32 >>> ((10 : Int32) &&& 31).toUInt32).toInt32) &&& (7 : Int32)) : Int32) = pq
      obtain ⟨j, hj, hje⟩ := own_mod pq (hpq ▸ own_and0 _ _ (by decide)) (4 : Int32) 4 (by decide) (by decide)
      refine GoS.of (T' := T1141) (f' := (mkF m 164 #[iv p0, iv p1, iv p2, iv p3, iv p4, iv p5, rv b1053, iv 4, iv 1, rv c1109, iv ed, iv (pq % (4 : Int32))] [])) (fun _ k => XS.iload X1141.here hx rfl (D at_159) rfl (iremM X1141 hx rfl (D at_161) rfl (by decide) (XS.istore X1141.here hx rfl (D at_162) rfl (l' := #[iv p0, iv p1, iv p2, iv p3, iv p4, iv p5, rv b1053, iv 4, iv 1, rv c1109, iv ed, iv (pq % (4 : Int32))]) rfl k))) ?_
      rw [hje]
      match j, hj with
      | 0, _ =>
        refine GoS.cast (f' := (mkF m 164 #[iv p0, iv p1, iv p2, iv p3, iv p4, iv p5, rv b1053, iv 4, iv 1, rv c1109, iv ed, iv 0] [])) rfl ?_
        obtain ⟨cl1147, Ar1147, qk1147, S1147, Ng1147, H1147, G1147⟩ := id f1141
        obtain ⟨T1147, h1147, X1147, e1147, W1147, st1147⟩ := stC X1141 hx hZ e1141 Ar1147 (j := (0 : Int32)) (inb_of S1147 ⟨by decide, by decide⟩) (g := (mkF m 174 #[iv p0, iv p1, iv p2, iv p3, iv p4, iv p5, rv b1053, iv 4, iv 1, rv c1109, iv ed, iv 0] [(.int ((p1 &&& 255).toUInt32.toUInt16.toUInt32.toInt32)), (.int 0), (.ref b1053)])) rfl rfl (D at_174)
        have W1147 : Wr h1141 h1147 b1053 ((0 : Int32)).toNatClampNeg (.int (p1 &&& 255)) := Eq.mp (congrArg (fun z => Wr h1141 h1147 b1053 ((0 : Int32)).toNatClampNeg (Value.int z)) (own_c255 p1)) W1147
        have f1149 : Exa Z h1141 b1053 "[C" := (Exa.wr W1141 f1143)
        have O1150 := Old0.wr O1144 W1147 g_b1053
        have C1148 := CHr.trans C1142 (CHr.wr W1147 (Safe.exa hZ.alike f1149 (by decide) (by decide)) C1142.1)
        have hk := Nat.le_trans hk (Keep.of_wr W1147).1
        have f1147 : Arv Z h1147 b1053 k1053 .char (6 : Int32) [(.int (p1 &&& 255)), (.int (r_1117 &&& 255)), (.int (r_1126 &&& 255)), (.int (r_1136 &&& 255)), (.int 0), (.int 0)] (.int 0) := Arv.set Ar1147 qk1147 S1147 Ng1147 H1147 G1147 (v := (.int (p1 &&& 255))) (own_f255 p1) W1147 0 rfl (Nat.le_of_ble_eq_true rfl)
        have N1147 := Fr.snoc X1147 N1141 g_b1053
        refine GoS.of (T' := T1147) (f' := (mkF m 283 #[iv p0, iv p1, iv p2, iv p3, iv p4, iv p5, rv b1053, iv 4, iv 1, rv c1109, iv ed, iv 0] [])) (fun _ k => XS.aload X1141.here hx rfl (D at_164) rfl rfl (XS.iload X1141.here hx rfl (D at_166) rfl (XS.iloadN X1141.here hx rfl (D at_168) rfl (XS.sipush X1141.here hx rfl (D at_169) (XS.iand X1141.here hx rfl (D at_172) rfl (XS.i2c X1141.here hx rfl (D at_173) rfl (st1147 _ (XS.goto X1147.here hx rfl (pc0 := 175) (pc' := 216) rfl (D at_175) (by decide) (by decide) (XS.goto X1147.here hx rfl (pc0 := 216) (pc' := 283) rfl (D at_216) (by decide) (by decide) k))))))))) ?_
        exact rm_t4 hw G p0 p1 p2 p3 p4 p5 (b1053) (k1053) (p1) (r_1117) (r_1126) (r_1136) ((0 : Int32)) ((0 : Int32)) (One.val rfl) (One.val rfl) (One.val rfl) (One.val rfl) hx hby hml hown hret hlk hZ hS hk  C1148 e1147 (Stand.more X1147 (by decide) (by decide)) N1147 O1150 f1147 
      | 1, _ =>
        refine GoS.cast (f' := (mkF m 164 #[iv p0, iv p1, iv p2, iv p3, iv p4, iv p5, rv b1053, iv 4, iv 1, rv c1109, iv ed, iv 1] [])) rfl ?_
        obtain ⟨cl1151, Ar1151, qk1151, S1151, Ng1151, H1151, G1151⟩ := id f1141
        obtain ⟨T1151, h1151, X1151, e1151, W1151, st1151⟩ := stC X1141 hx hZ e1141 Ar1151 (j := (1 : Int32)) (inb_of S1151 ⟨by decide, by decide⟩) (g := (mkF m 174 #[iv p0, iv p1, iv p2, iv p3, iv p4, iv p5, rv b1053, iv 4, iv 1, rv c1109, iv ed, iv 1] [(.int ((p1 &&& 255).toUInt32.toUInt16.toUInt32.toInt32)), (.int 1), (.ref b1053)])) rfl rfl (D at_174)
        have W1151 : Wr h1141 h1151 b1053 ((1 : Int32)).toNatClampNeg (.int (p1 &&& 255)) := Eq.mp (congrArg (fun z => Wr h1141 h1151 b1053 ((1 : Int32)).toNatClampNeg (Value.int z)) (own_c255 p1)) W1151
        have f1153 : Exa Z h1141 b1053 "[C" := (Exa.wr W1141 f1143)
        have O1154 := Old0.wr O1144 W1151 g_b1053
        have C1152 := CHr.trans C1142 (CHr.wr W1151 (Safe.exa hZ.alike f1153 (by decide) (by decide)) C1142.1)
        have hk := Nat.le_trans hk (Keep.of_wr W1151).1
        have f1151 : Arv Z h1151 b1053 k1053 .char (6 : Int32) [(.int (r_1111 &&& 255)), (.int (p1 &&& 255)), (.int (r_1126 &&& 255)), (.int (r_1136 &&& 255)), (.int 0), (.int 0)] (.int 0) := Arv.set Ar1151 qk1151 S1151 Ng1151 H1151 G1151 (v := (.int (p1 &&& 255))) (own_f255 p1) W1151 1 rfl (Nat.le_of_ble_eq_true rfl)
        have N1151 := Fr.snoc X1151 N1141 g_b1053
        refine GoS.of (T' := T1151) (f' := (mkF m 283 #[iv p0, iv p1, iv p2, iv p3, iv p4, iv p5, rv b1053, iv 4, iv 1, rv c1109, iv ed, iv 1] [])) (fun _ k => XS.aload X1141.here hx rfl (D at_164) rfl rfl (XS.iload X1141.here hx rfl (D at_166) rfl (XS.iloadN X1141.here hx rfl (D at_168) rfl (XS.sipush X1141.here hx rfl (D at_169) (XS.iand X1141.here hx rfl (D at_172) rfl (XS.i2c X1141.here hx rfl (D at_173) rfl (st1151 _ (XS.goto X1151.here hx rfl (pc0 := 175) (pc' := 216) rfl (D at_175) (by decide) (by decide) (XS.goto X1151.here hx rfl (pc0 := 216) (pc' := 283) rfl (D at_216) (by decide) (by decide) k))))))))) ?_
        exact rm_t4 hw G p0 p1 p2 p3 p4 p5 (b1053) (k1053) (r_1111) (p1) (r_1126) (r_1136) ((0 : Int32)) ((0 : Int32)) (One.val rfl) (One.val rfl) (One.val rfl) (One.val rfl) hx hby hml hown hret hlk hZ hS hk  C1152 e1151 (Stand.more X1151 (by decide) (by decide)) N1151 O1154 f1151 
      | 2, _ =>
        refine GoS.cast (f' := (mkF m 164 #[iv p0, iv p1, iv p2, iv p3, iv p4, iv p5, rv b1053, iv 4, iv 1, rv c1109, iv ed, iv 2] [])) rfl ?_
        obtain ⟨cl1155, Ar1155, qk1155, S1155, Ng1155, H1155, G1155⟩ := id f1141
        obtain ⟨T1155, h1155, X1155, e1155, W1155, st1155⟩ := stC X1141 hx hZ e1141 Ar1155 (j := (2 : Int32)) (inb_of S1155 ⟨by decide, by decide⟩) (g := (mkF m 174 #[iv p0, iv p1, iv p2, iv p3, iv p4, iv p5, rv b1053, iv 4, iv 1, rv c1109, iv ed, iv 2] [(.int ((p1 &&& 255).toUInt32.toUInt16.toUInt32.toInt32)), (.int 2), (.ref b1053)])) rfl rfl (D at_174)
        have W1155 : Wr h1141 h1155 b1053 ((2 : Int32)).toNatClampNeg (.int (p1 &&& 255)) := Eq.mp (congrArg (fun z => Wr h1141 h1155 b1053 ((2 : Int32)).toNatClampNeg (Value.int z)) (own_c255 p1)) W1155
        have f1157 : Exa Z h1141 b1053 "[C" := (Exa.wr W1141 f1143)
        have O1158 := Old0.wr O1144 W1155 g_b1053
        have C1156 := CHr.trans C1142 (CHr.wr W1155 (Safe.exa hZ.alike f1157 (by decide) (by decide)) C1142.1)
        have hk := Nat.le_trans hk (Keep.of_wr W1155).1
        have f1155 : Arv Z h1155 b1053 k1053 .char (6 : Int32) [(.int (r_1111 &&& 255)), (.int (r_1117 &&& 255)), (.int (p1 &&& 255)), (.int (r_1136 &&& 255)), (.int 0), (.int 0)] (.int 0) := Arv.set Ar1155 qk1155 S1155 Ng1155 H1155 G1155 (v := (.int (p1 &&& 255))) (own_f255 p1) W1155 2 rfl (Nat.le_of_ble_eq_true rfl)
        have N1155 := Fr.snoc X1155 N1141 g_b1053
        refine GoS.of (T' := T1155) (f' := (mkF m 283 #[iv p0, iv p1, iv p2, iv p3, iv p4, iv p5, rv b1053, iv 4, iv 1, rv c1109, iv ed, iv 2] [])) (fun _ k => XS.aload X1141.here hx rfl (D at_164) rfl rfl (XS.iload X1141.here hx rfl (D at_166) rfl (XS.iloadN X1141.here hx rfl (D at_168) rfl (XS.sipush X1141.here hx rfl (D at_169) (XS.iand X1141.here hx rfl (D at_172) rfl (XS.i2c X1141.here hx rfl (D at_173) rfl (st1155 _ (XS.goto X1155.here hx rfl (pc0 := 175) (pc' := 216) rfl (D at_175) (by decide) (by decide) (XS.goto X1155.here hx rfl (pc0 := 216) (pc' := 283) rfl (D at_216) (by decide) (by decide) k))))))))) ?_
        exact rm_t4 hw G p0 p1 p2 p3 p4 p5 (b1053) (k1053) (r_1111) (r_1117) (p1) (r_1136) ((0 : Int32)) ((0 : Int32)) (One.val rfl) (One.val rfl) (One.val rfl) (One.val rfl) hx hby hml hown hret hlk hZ hS hk  C1156 e1155 (Stand.more X1155 (by decide) (by decide)) N1155 O1158 f1155 
      | 3, _ =>
        refine GoS.cast (f' := (mkF m 164 #[iv p0, iv p1, iv p2, iv p3, iv p4, iv p5, rv b1053, iv 4, iv 1, rv c1109, iv ed, iv 3] [])) rfl ?_
        obtain ⟨cl1159, Ar1159, qk1159, S1159, Ng1159, H1159, G1159⟩ := id f1141
        obtain ⟨T1159, h1159, X1159, e1159, W1159, st1159⟩ := stC X1141 hx hZ e1141 Ar1159 (j := (3 : Int32)) (inb_of S1159 ⟨by decide, by decide⟩) (g := (mkF m 174 #[iv p0, iv p1, iv p2, iv p3, iv p4, iv p5, rv b1053, iv 4, iv 1, rv c1109, iv ed, iv 3] [(.int ((p1 &&& 255).toUInt32.toUInt16.toUInt32.toInt32)), (.int 3), (.ref b1053)])) rfl rfl (D at_174)
        have W1159 : Wr h1141 h1159 b1053 ((3 : Int32)).toNatClampNeg (.int (p1 &&& 255)) := Eq.mp (congrArg (fun z => Wr h1141 h1159 b1053 ((3 : Int32)).toNatClampNeg (Value.int z)) (own_c255 p1)) W1159
        have f1161 : Exa Z h1141 b1053 "[C" := (Exa.wr W1141 f1143)
        have O1162 := Old0.wr O1144 W1159 g_b1053
        have C1160 := CHr.trans C1142 (CHr.wr W1159 (Safe.exa hZ.alike f1161 (by decide) (by decide)) C1142.1)
        have hk := Nat.le_trans hk (Keep.of_wr W1159).1
        have f1159 : Arv Z h1159 b1053 k1053 .char (6 : Int32) [(.int (r_1111 &&& 255)), (.int (r_1117 &&& 255)), (.int (r_1126 &&& 255)), (.int (p1 &&& 255)), (.int 0), (.int 0)] (.int 0) := Arv.set Ar1159 qk1159 S1159 Ng1159 H1159 G1159 (v := (.int (p1 &&& 255))) (own_f255 p1) W1159 3 rfl (Nat.le_of_ble_eq_true rfl)
        have N1159 := Fr.snoc X1159 N1141 g_b1053
        refine GoS.of (T' := T1159) (f' := (mkF m 283 #[iv p0, iv p1, iv p2, iv p3, iv p4, iv p5, rv b1053, iv 4, iv 1, rv c1109, iv ed, iv 3] [])) (fun _ k => XS.aload X1141.here hx rfl (D at_164) rfl rfl (XS.iload X1141.here hx rfl (D at_166) rfl (XS.iloadN X1141.here hx rfl (D at_168) rfl (XS.sipush X1141.here hx rfl (D at_169) (XS.iand X1141.here hx rfl (D at_172) rfl (XS.i2c X1141.here hx rfl (D at_173) rfl (st1159 _ (XS.goto X1159.here hx rfl (pc0 := 175) (pc' := 216) rfl (D at_175) (by decide) (by decide) (XS.goto X1159.here hx rfl (pc0 := 216) (pc' := 283) rfl (D at_216) (by decide) (by decide) k))))))))) ?_
        exact rm_t4 hw G p0 p1 p2 p3 p4 p5 (b1053) (k1053) (r_1111) (r_1117) (r_1126) (p1) ((0 : Int32)) ((0 : Int32)) (One.val rfl) (One.val rfl) (One.val rfl) (One.val rfl) hx hby hml hown hret hlk hZ hS hk  C1160 e1159 (Stand.more X1159 (by decide) (by decide)) N1159 O1162 f1159 
      | n + 4, h => exact absurd h (by omega)
    · skip
      refine GoS.of (T' := T1141) (f' := (mkF m 181 #[iv p0, iv p1, iv p2, iv p3, iv p4, iv p5, rv b1053, iv 4, iv 1, rv c1109, iv ed, .unset] [(.int 2), (.int ed)])) (fun _ k => XS.icmpYes X1141.here hx rfl (pc0 := 149) (pc' := 178) rfl (D at_149) rfl (feq hc1146).2 (by decide) (by decide) (XS.iload X1141.here hx rfl (D at_178) rfl (XS.iconst X1141.here hx rfl (D at_180) k))) ?_
      by_cases hc1163 : ed = (2 : Int32)
      · skip
        refine GoS.of (T' := T1141) (f' := (mkF m 283 #[iv p0, iv p1, iv p2, iv p3, iv p4, iv p5, rv b1053, iv 3, iv 1, rv c1109, iv ed, .unset] [])) (fun _ k => XS.icmpNo X1141.here hx rfl (D at_181) rfl (teq hc1163).2 (XS.iload X1141.here hx rfl (D at_184) rfl (XS.iconst X1141.here hx rfl (D at_186) (XS.isub X1141.here hx rfl (D at_187) rfl (XS.istore X1141.here hx rfl (D at_188) rfl (l' := #[iv p0, iv p1, iv p2, iv p3, iv p4, iv p5, rv b1053, iv 3, iv 1, rv c1109, iv ed, .unset]) rfl (XS.goto X1141.here hx rfl (pc0 := 190) (pc' := 216) rfl (D at_190) (by decide) (by decide) (XS.goto X1141.here hx rfl (pc0 := 216) (pc' := 283) rfl (D at_216) (by decide) (by decide) k))))))) ?_
        exact rm_t3 hw G p0 p1 p2 p3 p4 p5 (b1053) (k1053) (r_1111) (r_1117) (r_1126) (r_1136) ((0 : Int32)) ((0 : Int32)) (One.val rfl) (One.val rfl) (One.val rfl) (One.u) hx hby hml hown hret hlk hZ hS hk  C1142 e1141 (Stand.more X1141 (by decide) (by decide)) N1141 O1144 f1141 
      · skip
        refine GoS.of (T' := T1141) (f' := (mkF m 196 #[iv p0, iv p1, iv p2, iv p3, iv p4, iv p5, rv b1053, iv 4, iv 1, rv c1109, iv ed, .unset] [(.int 3), (.int ed)])) (fun _ k => XS.icmpYes X1141.here hx rfl (pc0 := 181) (pc' := 193) rfl (D at_181) rfl (feq hc1163).2 (by decide) (by decide) (XS.iload X1141.here hx rfl (D at_193) rfl (XS.iconst X1141.here hx rfl (D at_195) k))) ?_
        by_cases hc1164 : ed = (3 : Int32)
        · skip
          obtain ⟨cl1165, Ar1165, qk1165, S1165, Ng1165, H1165, G1165⟩ := id f1141
          obtain ⟨T1165, h1165, X1165, e1165, W1165, st1165⟩ := stC X1141 hx hZ e1141 Ar1165 (j := (4 : Int32)) (inb_of S1165 ⟨by decide, by decide⟩) (g := (mkF m 209 #[iv p0, iv p1, iv p2, iv p3, iv p4, iv p5, rv b1053, iv 4, iv 1, rv c1109, iv ed, .unset] [(.int ((p1 &&& 255).toUInt32.toUInt16.toUInt32.toInt32)), (.int 4), (.ref b1053)])) rfl rfl (D at_209)
          have W1165 : Wr h1141 h1165 b1053 ((4 : Int32)).toNatClampNeg (.int (p1 &&& 255)) := Eq.mp (congrArg (fun z => Wr h1141 h1165 b1053 ((4 : Int32)).toNatClampNeg (Value.int z)) (own_c255 p1)) W1165
          have f1167 : Exa Z h1141 b1053 "[C" := (Exa.wr W1141 f1143)
          have O1168 := Old0.wr O1144 W1165 g_b1053
          have C1166 := CHr.trans C1142 (CHr.wr W1165 (Safe.exa hZ.alike f1167 (by decide) (by decide)) C1142.1)
          have hk := Nat.le_trans hk (Keep.of_wr W1165).1
          have f1165 : Arv Z h1165 b1053 k1053 .char (6 : Int32) [(.int (r_1111 &&& 255)), (.int (r_1117 &&& 255)), (.int (r_1126 &&& 255)), (.int (r_1136 &&& 255)), (.int (p1 &&& 255)), (.int 0)] (.int 0) := Arv.set Ar1165 qk1165 S1165 Ng1165 H1165 G1165 (v := (.int (p1 &&& 255))) (own_f255 p1) W1165 4 rfl (Nat.le_of_ble_eq_true rfl)
          have N1165 := Fr.snoc X1165 N1141 g_b1053
          refine GoS.of (T' := T1165) (f' := (mkF m 283 #[iv p0, iv p1, iv p2, iv p3, iv p4, iv p5, rv b1053, iv 5, iv 1, rv c1109, iv ed, .unset] [])) (fun _ k => XS.icmpNo X1141.here hx rfl (D at_196) rfl (teq hc1164).2 (XS.aload X1141.here hx rfl (D at_199) rfl rfl (XS.iload X1141.here hx rfl (D at_201) rfl (XS.iloadN X1141.here hx rfl (D at_203) rfl (XS.sipush X1141.here hx rfl (D at_204) (XS.iand X1141.here hx rfl (D at_207) rfl (XS.i2c X1141.here hx rfl (D at_208) rfl (st1165 _ (XS.iload X1165.here hx rfl (D at_210) rfl (XS.iconst X1165.here hx rfl (D at_212) (XS.iadd X1165.here hx rfl (D at_213) rfl (XS.istore X1165.here hx rfl (D at_214) rfl (l' := #[iv p0, iv p1, iv p2, iv p3, iv p4, iv p5, rv b1053, iv 5, iv 1, rv c1109, iv ed, .unset]) rfl (XS.goto X1165.here hx rfl (pc0 := 216) (pc' := 283) rfl (D at_216) (by decide) (by decide) k))))))))))))) ?_
          exact rm_t5 hw G p0 p1 p2 p3 p4 p5 (b1053) (k1053) (r_1111) (r_1117) (r_1126) (r_1136) (p1) ((0 : Int32)) (One.val rfl) (One.val rfl) (One.val rfl) (One.u) hx hby hml hown hret hlk hZ hS hk  C1166 e1165 (Stand.more X1165 (by decide) (by decide)) N1165 O1168 f1165 
        · skip
          refine GoS.of (T' := T1141) (f' := (mkF m 283 #[iv p0, iv p1, iv p2, iv p3, iv p4, iv p5, rv b1053, iv 4, iv 1, rv c1109, iv ed, .unset] [])) (fun _ k => XS.icmpYes X1141.here hx rfl (pc0 := 196) (pc' := 216) rfl (D at_196) rfl (feq hc1164).2 (by decide) (by decide) (XS.goto X1141.here hx rfl (pc0 := 216) (pc' := 283) rfl (D at_216) (by decide) (by decide) k)) ?_
          exact rm_t4 hw G p0 p1 p2 p3 p4 p5 (b1053) (k1053) (r_1111) (r_1117) (r_1126) (r_1136) ((0 : Int32)) ((0 : Int32)) (One.val rfl) (One.val rfl) (One.val rfl) (One.u) hx hby hml hown hret hlk hZ hS hk  C1142 e1141 (Stand.more X1141 (by decide) (by decide)) N1141 O1144 f1141 
  | 2, _ =>
    refine GoS.cast (f' := (mkF m 16 #[iv p0, iv p1, iv p2, iv p3, iv p4, iv p5, rv b1053, .unset, iv 2, .unset, .unset, .unset] [])) rfl ?_
    refine GoS.of (T' := T1053) (f' := (mkF m 49 #[iv p0, iv p1, iv p2, iv p3, iv p4, iv p5, rv b1053, .unset, iv 2, .unset, .unset, .unset] [])) (fun _ k => XS.iload X1053.here hx rfl (D at_16) rfl (XS.iconst X1053.here hx rfl (D at_18) (XS.icmpNo X1053.here hx rfl (D at_19) rfl (tlt (by decide : (2 : Int32) < (5 : Int32))).2.1 (XS.iload X1053.here hx rfl (D at_22) rfl (XS.ifYes X1053.here hx rfl (pc0 := 24) (pc' := 32) rfl (D at_24) rfl ((if0 _ _).trans (feq (by decide : ¬ ((2 : Int32) = (0 : Int32)))).2) (by decide) (by decide) (XS.iload X1053.here hx rfl (D at_32) rfl (XS.iconst X1053.here hx rfl (D at_34) (XS.icmpYes X1053.here hx rfl (pc0 := 35) (pc' := 43) rfl (D at_35) rfl (feq (by decide : ¬ ((2 : Int32) = (1 : Int32)))).2 (by decide) (by decide) (XS.iload X1053.here hx rfl (D at_43) rfl (XS.iconst X1053.here hx rfl (D at_45) (XS.icmpNo X1053.here hx rfl (D at_46) rfl (teq (by decide : (2 : Int32) = (2 : Int32))).2 k))))))))))) ?_
    have sp1173_b1053 : Safe Z own_EL s.vm h1053 b1053 := (Safe.exa hZ.alike A1053 (by decide) (by decide))
    obtain ⟨c1173, T1173, h1173, k11173, v1173, kc1173, X1173, e1173, E1173, hS, hk1173, hZ, hown, A1173, Fc1173, Fv1173, V1173, -, -, Cq1173, -, sn1173, st1173⟩ := ldcCH X1053 hx hZ hown (own_w hw (i := 108) rfl) (own_wS hw) e1053 hS hk hEL (by decide) C1054.1 (vs := [(.int 98), (.int 97), (.int 103)]) (z := (3 : Int32)) ⟨by decide +kernel, by decide +kernel⟩ (by decide) rfl (g := (mkF m 49 #[iv p0, iv p1, iv p2, iv p3, iv p4, iv p5, rv b1053, .unset, iv 2, .unset, .unset, .unset] [])) rfl (D at_49) (n := 12) (by decide +kernel) (by decide) (by decide) (by decide)
    have O1173 := Old0.ext O1055 E1173
    have C1173 := CHr.trans C1054 Cq1173
    have hk := hk1173
    have sf1173_b1053 : Safe Z own_EL T1173.vm h1173 b1053 := CHr.safe Cq1173 A1053.lt sp1173_b1053
    have ne_b1053_c1173 : b1053 ≠ c1173 := (sn1173 b1053 sf1173_b1053).1
    have ne_b1053_v1173 : b1053 ≠ v1173 := (sn1173 b1053 sf1173_b1053).2
    obtain ⟨T1174, v1174, L1174, X1174, q1174, st1174⟩ := callVi X1173 hx hZ (y := own_m36) (z := own_m36) hown (own_w hw (i := 9) rfl) (own_w hw (i := 10) rfl) (notFace_of_selects (args := #[]) (mvT hZ (own_w hw (i := 12) rfl))) (own_w hw (i := 12) rfl) (own_w hw (i := 11) rfl) (own_w hw (i := 13) rfl) (own_w hw (i := 2) rfl) (by decide) (rm_len hw G c1173 v1173 kc1173 ((3 : Int32)) (([(98 : Int32), (97 : Int32), (103 : Int32)] : List Int32)) h1173 O1173 A1173 Fv1173 Fc1173 V1173 (by first | decide | assumption | omega)) e1173 (W := 0) (by decide) (by decide) (by decide) (by decide) A1173 (g := (mkF m 71 #[iv p0, iv p1, iv p2, iv p3, iv p4, iv p5, rv b1053, .unset, iv 2, rv c1173, .unset, .unset] [(.ref c1173)])) rfl (by rw [hml]; rfl) (argsL := []) (rest := []) (lenOf pd49 rfl) rfl rfl (Nat.le_of_eq rfl) (D at_71)
    obtain ⟨rfl, e1174, rfl⟩ := q1174
    have N1174 := Fr.app N0 (Fr.nil _)
    obtain ⟨T1175, v1175, L1175, X1175, q1175, st1175⟩ := callVi X1174 hx hZ (y := own_m33) (z := own_m33) hown (own_w hw (i := 22) rfl) (own_w hw (i := 23) rfl) (notFace_of_selects (args := #[]) (mvT hZ (own_w hw (i := 25) rfl))) (own_w hw (i := 25) rfl) (own_w hw (i := 24) rfl) (own_w hw (i := 26) rfl) (own_w hw (i := 2) rfl) (by decide) (rm_ch hw G c1173 ((0 : Int32)) v1173 kc1173 ((3 : Int32)) (([(98 : Int32), (97 : Int32), (103 : Int32)] : List Int32)) h1173 O1173 (by first | decide | assumption | omega) (by first | decide | assumption | omega) A1173 Fv1173 Fc1173 V1173) e1174 (W := 2) (by decide) (by decide) (by decide) (by decide) A1173 (g := (mkF m 82 #[iv p0, iv p1, iv p2, iv p3, iv p4, iv p5, rv b1053, iv 3, iv 2, rv c1173, .unset, .unset] [(.int 0), (.ref c1173), (.int 0), (.ref b1053)])) rfl (by rw [hml]; rfl) (argsL := [(.int 0)]) (rest := [(.int 0), (.ref b1053)]) (lenOf pd50 rfl) rfl rfl (Nat.le_of_eq rfl) (D at_82)
    obtain ⟨r_1175, rfl, e1175, rfl⟩ := q1175
    have N1175 := Fr.app N1174 (Fr.nil _)
    have f1177 : Arv Z h1173 b1053 k1053 .char (6 : Int32) [(.int 0), (.int 0), (.int 0), (.int 0), (.int 0), (.int 0)] (.int 0) := (Arv.ext f1056 E1173)
    obtain ⟨cl1176, Ar1176, qk1176, S1176, Ng1176, H1176, G1176⟩ := id f1177
    obtain ⟨T1176, h1176, X1176, e1176, W1176, st1176⟩ := stC X1175 hx hZ e1175 Ar1176 (j := (0 : Int32)) (inb_of S1176 ⟨by decide, by decide⟩) (g := (mkF m 85 #[iv p0, iv p1, iv p2, iv p3, iv p4, iv p5, rv b1053, iv 3, iv 2, rv c1173, .unset, .unset] [(.int (r_1175 &&& 255)), (.int 0), (.ref b1053)])) rfl rfl (D at_85)
    have W1176 : Wr h1173 h1176 b1053 ((0 : Int32)).toNatClampNeg (.int (r_1175 &&& 255)) := Eq.mp (congrArg (fun z => Wr h1173 h1176 b1053 ((0 : Int32)).toNatClampNeg (Value.int z)) (i2c_mask r_1175)) W1176
    have f1179 : Exa Z h1173 b1053 "[C" := (Exa.ext E1173 A1053)
    have O1180 := Old0.wr O1173 W1176 g_b1053
    have C1178 := CHr.trans C1173 (CHr.wr W1176 (Safe.exa hZ.alike f1179 (by decide) (by decide)) C1173.1)
    have hk := Nat.le_trans hk (Keep.of_wr W1176).1
    have f1176 : Arv Z h1176 b1053 k1053 .char (6 : Int32) [(.int (r_1175 &&& 255)), (.int 0), (.int 0), (.int 0), (.int 0), (.int 0)] (.int 0) := Arv.set Ar1176 qk1176 S1176 Ng1176 H1176 G1176 (v := (.int (r_1175 &&& 255))) (own_f255 r_1175) W1176 0 rfl (Nat.le_of_ble_eq_true rfl)
    have N1176 := Fr.snoc X1176 N1175 g_b1053
    have f1182 : Exa Z h1176 c1173 "java/lang/String" := (Exa.wr W1176 A1173)
    have f1183 : Fld Z h1176 c1173 "java/lang/String" "value" "[B" (.ref v1173) := (Fld.other W1176 Fv1173 (Or.inl (Ne.symm ne_b1053_c1173)))
    have f1184 : Fld Z h1176 c1173 "java/lang/String" "coder" "B" (.int 0) := (Fld.other W1176 Fc1173 (Or.inl (Ne.symm ne_b1053_c1173)))
    have f1185 : Arv Z h1176 v1173 kc1173 .byte (3 : Int32) [(.int 98), (.int 97), (.int 103)] (.int 0) := (Arv.other V1173 W1176 (Ne.symm ne_b1053_v1173))
    obtain ⟨T1181, v1181, L1181, X1181, q1181, st1181⟩ := callVi X1176 hx hZ (y := own_m33) (z := own_m33) hown (own_w hw (i := 22) rfl) (own_w hw (i := 23) rfl) (notFace_of_selects (args := #[]) (mvT hZ (own_w hw (i := 25) rfl))) (own_w hw (i := 25) rfl) (own_w hw (i := 24) rfl) (own_w hw (i := 26) rfl) (own_w hw (i := 2) rfl) (by decide) (rm_ch hw G c1173 ((1 : Int32)) v1173 kc1173 ((3 : Int32)) (([(98 : Int32), (97 : Int32), (103 : Int32)] : List Int32)) h1176 O1180 (by first | decide | assumption | omega) (by first | decide | assumption | omega) f1182 f1183 f1184 f1185) e1176 (W := 2) (by decide) (by decide) (by decide) (by decide) f1182 (g := (mkF m 92 #[iv p0, iv p1, iv p2, iv p3, iv p4, iv p5, rv b1053, iv 3, iv 2, rv c1173, .unset, .unset] [(.int 1), (.ref c1173), (.int 1), (.ref b1053)])) rfl (by rw [hml]; rfl) (argsL := [(.int 1)]) (rest := [(.int 1), (.ref b1053)]) (lenOf pd50 rfl) rfl rfl (Nat.le_of_eq rfl) (D at_92)
    obtain ⟨r_1181, rfl, e1181, rfl⟩ := q1181
    have N1181 := Fr.app N1176 (Fr.nil _)
    obtain ⟨cl1186, Ar1186, qk1186, S1186, Ng1186, H1186, G1186⟩ := id f1176
    obtain ⟨T1186, h1186, X1186, e1186, W1186, st1186⟩ := stC X1181 hx hZ e1181 Ar1186 (j := (1 : Int32)) (inb_of S1186 ⟨by decide, by decide⟩) (g := (mkF m 95 #[iv p0, iv p1, iv p2, iv p3, iv p4, iv p5, rv b1053, iv 3, iv 2, rv c1173, .unset, .unset] [(.int (r_1181 &&& 255)), (.int 1), (.ref b1053)])) rfl rfl (D at_95)
    have W1186 : Wr h1176 h1186 b1053 ((1 : Int32)).toNatClampNeg (.int (r_1181 &&& 255)) := Eq.mp (congrArg (fun z => Wr h1176 h1186 b1053 ((1 : Int32)).toNatClampNeg (Value.int z)) (i2c_mask r_1181)) W1186
    have f1188 : Exa Z h1176 b1053 "[C" := (Exa.wr W1176 f1179)
    have O1189 := Old0.wr O1180 W1186 g_b1053
    have C1187 := CHr.trans C1178 (CHr.wr W1186 (Safe.exa hZ.alike f1188 (by decide) (by decide)) C1178.1)
    have hk := Nat.le_trans hk (Keep.of_wr W1186).1
    have f1186 : Arv Z h1186 b1053 k1053 .char (6 : Int32) [(.int (r_1175 &&& 255)), (.int (r_1181 &&& 255)), (.int 0), (.int 0), (.int 0), (.int 0)] (.int 0) := Arv.set Ar1186 qk1186 S1186 Ng1186 H1186 G1186 (v := (.int (r_1181 &&& 255))) (own_f255 r_1181) W1186 1 rfl (Nat.le_of_ble_eq_true rfl)
    have N1186 := Fr.snoc X1186 N1181 g_b1053
    have f1191 : Exa Z h1186 c1173 "java/lang/String" := (Exa.wr W1186 f1182)
    have f1192 : Fld Z h1186 c1173 "java/lang/String" "value" "[B" (.ref v1173) := (Fld.other W1186 f1183 (Or.inl (Ne.symm ne_b1053_c1173)))
    have f1193 : Fld Z h1186 c1173 "java/lang/String" "coder" "B" (.int 0) := (Fld.other W1186 f1184 (Or.inl (Ne.symm ne_b1053_c1173)))
    have f1194 : Arv Z h1186 v1173 kc1173 .byte (3 : Int32) [(.int 98), (.int 97), (.int 103)] (.int 0) := (Arv.other f1185 W1186 (Ne.symm ne_b1053_v1173))
    obtain ⟨T1190, v1190, L1190, X1190, q1190, st1190⟩ := callVi X1186 hx hZ (y := own_m33) (z := own_m33) hown (own_w hw (i := 22) rfl) (own_w hw (i := 23) rfl) (notFace_of_selects (args := #[]) (mvT hZ (own_w hw (i := 25) rfl))) (own_w hw (i := 25) rfl) (own_w hw (i := 24) rfl) (own_w hw (i := 26) rfl) (own_w hw (i := 2) rfl) (by decide) (rm_ch hw G c1173 ((2 : Int32)) v1173 kc1173 ((3 : Int32)) (([(98 : Int32), (97 : Int32), (103 : Int32)] : List Int32)) h1186 O1189 (by first | decide | assumption | omega) (by first | decide | assumption | omega) f1191 f1192 f1193 f1194) e1186 (W := 2) (by decide) (by decide) (by decide) (by decide) f1191 (g := (mkF m 102 #[iv p0, iv p1, iv p2, iv p3, iv p4, iv p5, rv b1053, iv 3, iv 2, rv c1173, .unset, .unset] [(.int 2), (.ref c1173), (.int 2), (.ref b1053)])) rfl (by rw [hml]; rfl) (argsL := [(.int 2)]) (rest := [(.int 2), (.ref b1053)]) (lenOf pd50 rfl) rfl rfl (Nat.le_of_eq rfl) (D at_102)
    obtain ⟨r_1190, rfl, e1190, rfl⟩ := q1190
    have N1190 := Fr.app N1186 (Fr.nil _)
    obtain ⟨cl1195, Ar1195, qk1195, S1195, Ng1195, H1195, G1195⟩ := id f1186
    obtain ⟨T1195, h1195, X1195, e1195, W1195, st1195⟩ := stC X1190 hx hZ e1190 Ar1195 (j := (2 : Int32)) (inb_of S1195 ⟨by decide, by decide⟩) (g := (mkF m 105 #[iv p0, iv p1, iv p2, iv p3, iv p4, iv p5, rv b1053, iv 3, iv 2, rv c1173, .unset, .unset] [(.int (r_1190 &&& 255)), (.int 2), (.ref b1053)])) rfl rfl (D at_105)
    have W1195 : Wr h1186 h1195 b1053 ((2 : Int32)).toNatClampNeg (.int (r_1190 &&& 255)) := Eq.mp (congrArg (fun z => Wr h1186 h1195 b1053 ((2 : Int32)).toNatClampNeg (Value.int z)) (i2c_mask r_1190)) W1195
    have f1197 : Exa Z h1186 b1053 "[C" := (Exa.wr W1186 f1188)
    have O1198 := Old0.wr O1189 W1195 g_b1053
    have C1196 := CHr.trans C1187 (CHr.wr W1195 (Safe.exa hZ.alike f1197 (by decide) (by decide)) C1187.1)
    have hk := Nat.le_trans hk (Keep.of_wr W1195).1
    have f1195 : Arv Z h1195 b1053 k1053 .char (6 : Int32) [(.int (r_1175 &&& 255)), (.int (r_1181 &&& 255)), (.int (r_1190 &&& 255)), (.int 0), (.int 0), (.int 0)] (.int 0) := Arv.set Ar1195 qk1195 S1195 Ng1195 H1195 G1195 (v := (.int (r_1190 &&& 255))) (own_f255 r_1190) W1195 2 rfl (Nat.le_of_ble_eq_true rfl)
    have N1195 := Fr.snoc X1195 N1190 g_b1053
    refine GoS.of (T' := T1195) (f' := (mkF m 106 #[iv p0, iv p1, iv p2, iv p3, iv p4, iv p5, rv b1053, iv 3, iv 2, rv c1173, .unset, .unset] [])) (fun _ k => st1173 _ (XS.goto X1173.here hx rfl (pc0 := 51) (pc' := 67) rfl (D at_51) (by decide) (by decide) (XS.astore X1173.here hx rfl (D at_67) rfl rfl (l' := #[iv p0, iv p1, iv p2, iv p3, iv p4, iv p5, rv b1053, .unset, iv 2, rv c1173, .unset, .unset]) rfl (XS.aload X1173.here hx rfl (D at_69) rfl rfl (st1174 _ (XS.istore X1174.here hx rfl (D at_74) rfl (l' := #[iv p0, iv p1, iv p2, iv p3, iv p4, iv p5, rv b1053, iv 3, iv 2, rv c1173, .unset, .unset]) rfl (XS.aload X1174.here hx rfl (D at_76) rfl rfl (XS.iconst X1174.here hx rfl (D at_78) (XS.aload X1174.here hx rfl (D at_79) rfl rfl (XS.iconst X1174.here hx rfl (D at_81) (st1175 _ (st1176 _ (XS.aload X1176.here hx rfl (D at_86) rfl rfl (XS.iconst X1176.here hx rfl (D at_88) (XS.aload X1176.here hx rfl (D at_89) rfl rfl (XS.iconst X1176.here hx rfl (D at_91) (st1181 _ (st1186 _ (XS.aload X1186.here hx rfl (D at_96) rfl rfl (XS.iconst X1186.here hx rfl (D at_98) (XS.aload X1186.here hx rfl (D at_99) rfl rfl (XS.iconst X1186.here hx rfl (D at_101) (st1190 _ (st1195 _ k)))))))))))))))))))))))) ?_
    refine GoS.of (T' := T1195) (f' := (mkF m 144 #[iv p0, iv p1, iv p2, iv p3, iv p4, iv p5, rv b1053, iv 3, iv 2, rv c1173, .unset, .unset] [(.int (((p0.toUInt32 >>> ((8 : Int32) &&& 31).toUInt32).toInt32) &&& (3 : Int32)))])) (fun _ k => XS.iload X1195.here hx rfl (D at_106) rfl (XS.iconst X1195.here hx rfl (D at_108) (XS.icmpYes X1195.here hx rfl (pc0 := 109) (pc' := 122) rfl (D at_109) rfl (flt (by decide : ¬ ((3 : Int32) < (3 : Int32)))).2.2.2 (by decide) (by decide) (XS.iload X1195.here hx rfl (D at_122) rfl (XS.iconst X1195.here hx rfl (D at_124) (XS.icmpYes X1195.here hx rfl (pc0 := 125) (pc' := 138) rfl (D at_125) rfl (flt (by decide : ¬ ((4 : Int32) < (3 : Int32)))).2.2.2 (by decide) (by decide) (XS.iloadN X1195.here hx rfl (D at_138) rfl (XS.bipush X1195.here hx rfl (D at_139) (XS.iushr X1195.here hx rfl (D at_141) rfl (XS.iconst X1195.here hx rfl (D at_142) (XS.iand X1195.here hx rfl (D at_143) rfl k))))))))))) ?_
    generalize hed : ((((p0.toUInt32 >>> ((8 : Int32) &&& 31).toUInt32).toInt32) &&& (3 : Int32)) : Int32) = ed
    refine GoS.of (T' := T1195) (f' := (mkF m 149 #[iv p0, iv p1, iv p2, iv p3, iv p4, iv p5, rv b1053, iv 3, iv 2, rv c1173, iv ed, .unset] [(.int 1), (.int ed)])) (fun _ k => XS.istore X1195.here hx rfl (D at_144) rfl (l' := #[iv p0, iv p1, iv p2, iv p3, iv p4, iv p5, rv b1053, iv 3, iv 2, rv c1173, iv ed, .unset]) rfl (XS.iload X1195.here hx rfl (D at_146) rfl (XS.iconst X1195.here hx rfl (D at_148) k))) ?_
    by_cases hc1201 : ed = (1 : Int32)
    · skip
      refine GoS.of (T' := T1195) (f' := (mkF m 159 #[iv p0, iv p1, iv p2, iv p3, iv p4, iv p5, rv b1053, iv 3, iv 2, rv c1173, iv ed, .unset] [(.int (((p0.toUInt32 >>> ((10 : Int32) &&& 31).toUInt32).toInt32) &&& (7 : Int32)))])) (fun _ k => XS.icmpNo X1195.here hx rfl (D at_149) rfl (teq hc1201).2 (XS.iloadN X1195.here hx rfl (D at_152) rfl (XS.bipush X1195.here hx rfl (D at_153) (XS.iushr X1195.here hx rfl (D at_155) rfl (XS.bipush X1195.here hx rfl (D at_156) (XS.iand X1195.here hx rfl (D at_158) rfl k)))))) ?_
      generalize hpq : ((((p0.toUInt32 >>> ((10 : Int32) &&& 31).toUInt32).toInt32) &&& (7 : Int32)) : Int32) = pq
      obtain ⟨j, hj, hje⟩ := own_mod pq (hpq ▸ own_and0 _ _ (by decide)) (3 : Int32) 3 (by decide) (by decide)
      refine GoS.of (T' := T1195) (f' := (mkF m 164 #[iv p0, iv p1, iv p2, iv p3, iv p4, iv p5, rv b1053, iv 3, iv 2, rv c1173, iv ed, iv (pq % (3 : Int32))] [])) (fun _ k => XS.iload X1195.here hx rfl (D at_159) rfl (iremM X1195 hx rfl (D at_161) rfl (by decide) (XS.istore X1195.here hx rfl (D at_162) rfl (l' := #[iv p0, iv p1, iv p2, iv p3, iv p4, iv p5, rv b1053, iv 3, iv 2, rv c1173, iv ed, iv (pq % (3 : Int32))]) rfl k))) ?_
      rw [hje]
      match j, hj with
      | 0, _ =>
        refine GoS.cast (f' := (mkF m 164 #[iv p0, iv p1, iv p2, iv p3, iv p4, iv p5, rv b1053, iv 3, iv 2, rv c1173, iv ed, iv 0] [])) rfl ?_
        obtain ⟨cl1202, Ar1202, qk1202, S1202, Ng1202, H1202, G1202⟩ := id f1195
        obtain ⟨T1202, h1202, X1202, e1202, W1202, st1202⟩ := stC X1195 hx hZ e1195 Ar1202 (j := (0 : Int32)) (inb_of S1202 ⟨by decide, by decide⟩) (g := (mkF m 174 #[iv p0, iv p1, iv p2, iv p3, iv p4, iv p5, rv b1053, iv 3, iv 2, rv c1173, iv ed, iv 0] [(.int ((p1 &&& 255).toUInt32.toUInt16.toUInt32.toInt32)), (.int 0), (.ref b1053)])) rfl rfl (D at_174)
        have W1202 : Wr h1195 h1202 b1053 ((0 : Int32)).toNatClampNeg (.int (p1 &&& 255)) := Eq.mp (congrArg (fun z => Wr h1195 h1202 b1053 ((0 : Int32)).toNatClampNeg (Value.int z)) (own_c255 p1)) W1202
        have f1204 : Exa Z h1195 b1053 "[C" := (Exa.wr W1195 f1197)
        have O1205 := Old0.wr O1198 W1202 g_b1053
        have C1203 := CHr.trans C1196 (CHr.wr W1202 (Safe.exa hZ.alike f1204 (by decide) (by decide)) C1196.1)
        have hk := Nat.le_trans hk (Keep.of_wr W1202).1
        have f1202 : Arv Z h1202 b1053 k1053 .char (6 : Int32) [(.int (p1 &&& 255)), (.int (r_1181 &&& 255)), (.int (r_1190 &&& 255)), (.int 0), (.int 0), (.int 0)] (.int 0) := Arv.set Ar1202 qk1202 S1202 Ng1202 H1202 G1202 (v := (.int (p1 &&& 255))) (own_f255 p1) W1202 0 rfl (Nat.le_of_ble_eq_true rfl)
        have N1202 := Fr.snoc X1202 N1195 g_b1053
        refine GoS.of (T' := T1202) (f' := (mkF m 283 #[iv p0, iv p1, iv p2, iv p3, iv p4, iv p5, rv b1053, iv 3, iv 2, rv c1173, iv ed, iv 0] [])) (fun _ k => XS.aload X1195.here hx rfl (D at_164) rfl rfl (XS.iload X1195.here hx rfl (D at_166) rfl (XS.iloadN X1195.here hx rfl (D at_168) rfl (XS.sipush X1195.here hx rfl (D at_169) (XS.iand X1195.here hx rfl (D at_172) rfl (XS.i2c X1195.here hx rfl (D at_173) rfl (st1202 _ (XS.goto X1202.here hx rfl (pc0 := 175) (pc' := 216) rfl (D at_175) (by decide) (by decide) (XS.goto X1202.here hx rfl (pc0 := 216) (pc' := 283) rfl (D at_216) (by decide) (by decide) k))))))))) ?_
        exact rm_t3 hw G p0 p1 p2 p3 p4 p5 (b1053) (k1053) (p1) (r_1181) (r_1190) ((0 : Int32)) ((0 : Int32)) ((0 : Int32)) (One.val rfl) (One.val rfl) (One.val rfl) (One.val rfl) hx hby hml hown hret hlk hZ hS hk  C1203 e1202 (Stand.more X1202 (by decide) (by decide)) N1202 O1205 f1202 
      | 1, _ =>
        refine GoS.cast (f' := (mkF m 164 #[iv p0, iv p1, iv p2, iv p3, iv p4, iv p5, rv b1053, iv 3, iv 2, rv c1173, iv ed, iv 1] [])) rfl ?_
        obtain ⟨cl1206, Ar1206, qk1206, S1206, Ng1206, H1206, G1206⟩ := id f1195
        obtain ⟨T1206, h1206, X1206, e1206, W1206, st1206⟩ := stC X1195 hx hZ e1195 Ar1206 (j := (1 : Int32)) (inb_of S1206 ⟨by decide, by decide⟩) (g := (mkF m 174 #[iv p0, iv p1, iv p2, iv p3, iv p4, iv p5, rv b1053, iv 3, iv 2, rv c1173, iv ed, iv 1] [(.int ((p1 &&& 255).toUInt32.toUInt16.toUInt32.toInt32)), (.int 1), (.ref b1053)])) rfl rfl (D at_174)
        have W1206 : Wr h1195 h1206 b1053 ((1 : Int32)).toNatClampNeg (.int (p1 &&& 255)) := Eq.mp (congrArg (fun z => Wr h1195 h1206 b1053 ((1 : Int32)).toNatClampNeg (Value.int z)) (own_c255 p1)) W1206
        have f1208 : Exa Z h1195 b1053 "[C" := (Exa.wr W1195 f1197)
        have O1209 := Old0.wr O1198 W1206 g_b1053
        have C1207 := CHr.trans C1196 (CHr.wr W1206 (Safe.exa hZ.alike f1208 (by decide) (by decide)) C1196.1)
        have hk := Nat.le_trans hk (Keep.of_wr W1206).1
        have f1206 : Arv Z h1206 b1053 k1053 .char (6 : Int32) [(.int (r_1175 &&& 255)), (.int (p1 &&& 255)), (.int (r_1190 &&& 255)), (.int 0), (.int 0), (.int 0)] (.int 0) := Arv.set Ar1206 qk1206 S1206 Ng1206 H1206 G1206 (v := (.int (p1 &&& 255))) (own_f255 p1) W1206 1 rfl (Nat.le_of_ble_eq_true rfl)
        have N1206 := Fr.snoc X1206 N1195 g_b1053
        refine GoS.of (T' := T1206) (f' := (mkF m 283 #[iv p0, iv p1, iv p2, iv p3, iv p4, iv p5, rv b1053, iv 3, iv 2, rv c1173, iv ed, iv 1] [])) (fun _ k => XS.aload X1195.here hx rfl (D at_164) rfl rfl (XS.iload X1195.here hx rfl (D at_166) rfl (XS.iloadN X1195.here hx rfl (D at_168) rfl (XS.sipush X1195.here hx rfl (D at_169) (XS.iand X1195.here hx rfl (D at_172) rfl (XS.i2c X1195.here hx rfl (D at_173) rfl (st1206 _ (XS.goto X1206.here hx rfl (pc0 := 175) (pc' := 216) rfl (D at_175) (by decide) (by decide) (XS.goto X1206.here hx rfl (pc0 := 216) (pc' := 283) rfl (D at_216) (by decide) (by decide) k))))))))) ?_
        exact rm_t3 hw G p0 p1 p2 p3 p4 p5 (b1053) (k1053) (r_1175) (p1) (r_1190) ((0 : Int32)) ((0 : Int32)) ((0 : Int32)) (One.val rfl) (One.val rfl) (One.val rfl) (One.val rfl) hx hby hml hown hret hlk hZ hS hk  C1207 e1206 (Stand.more X1206 (by decide) (by decide)) N1206 O1209 f1206 
      | 2, _ =>
        refine GoS.cast (f' := (mkF m 164 #[iv p0, iv p1, iv p2, iv p3, iv p4, iv p5, rv b1053, iv 3, iv 2, rv c1173, iv ed, iv 2] [])) rfl ?_
        obtain ⟨cl1210, Ar1210, qk1210, S1210, Ng1210, H1210, G1210⟩ := id f1195
        obtain ⟨T1210, h1210, X1210, e1210, W1210, st1210⟩ := stC X1195 hx hZ e1195 Ar1210 (j := (2 : Int32)) (inb_of S1210 ⟨by decide, by decide⟩) (g := (mkF m 174 #[iv p0, iv p1, iv p2, iv p3, iv p4, iv p5, rv b1053, iv 3, iv 2, rv c1173, iv ed, iv 2] [(.int ((p1 &&& 255).toUInt32.toUInt16.toUInt32.toInt32)), (.int 2), (.ref b1053)])) rfl rfl (D at_174)
        have W1210 : Wr h1195 h1210 b1053 ((2 : Int32)).toNatClampNeg (.int (p1 &&& 255)) := Eq.mp (congrArg (fun z => Wr h1195 h1210 b1053 ((2 : Int32)).toNatClampNeg (Value.int z)) (own_c255 p1)) W1210
        have f1212 : Exa Z h1195 b1053 "[C" := (Exa.wr W1195 f1197)
        have O1213 := Old0.wr O1198 W1210 g_b1053
        have C1211 := CHr.trans C1196 (CHr.wr W1210 (Safe.exa hZ.alike f1212 (by decide) (by decide)) C1196.1)
        have hk := Nat.le_trans hk (Keep.of_wr W1210).1
        have f1210 : Arv Z h1210 b1053 k1053 .char (6 : Int32) [(.int (r_1175 &&& 255)), (.int (r_1181 &&& 255)), (.int (p1 &&& 255)), (.int 0), (.int 0), (.int 0)] (.int 0) := Arv.set Ar1210 qk1210 S1210 Ng1210 H1210 G1210 (v := (.int (p1 &&& 255))) (own_f255 p1) W1210 2 rfl (Nat.le_of_ble_eq_true rfl)
        have N1210 := Fr.snoc X1210 N1195 g_b1053
        refine GoS.of (T' := T1210) (f' := (mkF m 283 #[iv p0, iv p1, iv p2, iv p3, iv p4, iv p5, rv b1053, iv 3, iv 2, rv c1173, iv ed, iv 2] [])) (fun _ k => XS.aload X1195.here hx rfl (D at_164) rfl rfl (XS.iload X1195.here hx rfl (D at_166) rfl (XS.iloadN X1195.here hx rfl (D at_168) rfl (XS.sipush X1195.here hx rfl (D at_169) (XS.iand X1195.here hx rfl (D at_172) rfl (XS.i2c X1195.here hx rfl (D at_173) rfl (st1210 _ (XS.goto X1210.here hx rfl (pc0 := 175) (pc' := 216) rfl (D at_175) (by decide) (by decide) (XS.goto X1210.here hx rfl (pc0 := 216) (pc' := 283) rfl (D at_216) (by decide) (by decide) k))))))))) ?_
        exact rm_t3 hw G p0 p1 p2 p3 p4 p5 (b1053) (k1053) (r_1175) (r_1181) (p1) ((0 : Int32)) ((0 : Int32)) ((0 : Int32)) (One.val rfl) (One.val rfl) (One.val rfl) (One.val rfl) hx hby hml hown hret hlk hZ hS hk  C1211 e1210 (Stand.more X1210 (by decide) (by decide)) N1210 O1213 f1210 
      | n + 3, h => exact absurd h (by omega)
    · skip
      refine GoS.of (T' := T1195) (f' := (mkF m 181 #[iv p0, iv p1, iv p2, iv p3, iv p4, iv p5, rv b1053, iv 3, iv 2, rv c1173, iv ed, .unset] [(.int 2), (.int ed)])) (fun _ k => XS.icmpYes X1195.here hx rfl (pc0 := 149) (pc' := 178) rfl (D at_149) rfl (feq hc1201).2 (by decide) (by decide) (XS.iload X1195.here hx rfl (D at_178) rfl (XS.iconst X1195.here hx rfl (D at_180) k))) ?_
      by_cases hc1214 : ed = (2 : Int32)
      · skip
        refine GoS.of (T' := T1195) (f' := (mkF m 283 #[iv p0, iv p1, iv p2, iv p3, iv p4, iv p5, rv b1053, iv 2, iv 2, rv c1173, iv ed, .unset] [])) (fun _ k => XS.icmpNo X1195.here hx rfl (D at_181) rfl (teq hc1214).2 (XS.iload X1195.here hx rfl (D at_184) rfl (XS.iconst X1195.here hx rfl (D at_186) (XS.isub X1195.here hx rfl (D at_187) rfl (XS.istore X1195.here hx rfl (D at_188) rfl (l' := #[iv p0, iv p1, iv p2, iv p3, iv p4, iv p5, rv b1053, iv 2, iv 2, rv c1173, iv ed, .unset]) rfl (XS.goto X1195.here hx rfl (pc0 := 190) (pc' := 216) rfl (D at_190) (by decide) (by decide) (XS.goto X1195.here hx rfl (pc0 := 216) (pc' := 283) rfl (D at_216) (by decide) (by decide) k))))))) ?_
        exact rm_t2 hw G p0 p1 p2 p3 p4 p5 (b1053) (k1053) (r_1175) (r_1181) (r_1190) ((0 : Int32)) ((0 : Int32)) ((0 : Int32)) (One.val rfl) (One.val rfl) (One.val rfl) (One.u) hx hby hml hown hret hlk hZ hS hk  C1196 e1195 (Stand.more X1195 (by decide) (by decide)) N1195 O1198 f1195 
      · skip
        refine GoS.of (T' := T1195) (f' := (mkF m 196 #[iv p0, iv p1, iv p2, iv p3, iv p4, iv p5, rv b1053, iv 3, iv 2, rv c1173, iv ed, .unset] [(.int 3), (.int ed)])) (fun _ k => XS.icmpYes X1195.here hx rfl (pc0 := 181) (pc' := 193) rfl (D at_181) rfl (feq hc1214).2 (by decide) (by decide) (XS.iload X1195.here hx rfl (D at_193) rfl (XS.iconst X1195.here hx rfl (D at_195) k))) ?_
        by_cases hc1215 : ed = (3 : Int32)
        · skip
          obtain ⟨cl1216, Ar1216, qk1216, S1216, Ng1216, H1216, G1216⟩ := id f1195
          obtain ⟨T1216, h1216, X1216, e1216, W1216, st1216⟩ := stC X1195 hx hZ e1195 Ar1216 (j := (3 : Int32)) (inb_of S1216 ⟨by decide, by decide⟩) (g := (mkF m 209 #[iv p0, iv p1, iv p2, iv p3, iv p4, iv p5, rv b1053, iv 3, iv 2, rv c1173, iv ed, .unset] [(.int ((p1 &&& 255).toUInt32.toUInt16.toUInt32.toInt32)), (.int 3), (.ref b1053)])) rfl rfl (D at_209)
          have W1216 : Wr h1195 h1216 b1053 ((3 : Int32)).toNatClampNeg (.int (p1 &&& 255)) := Eq.mp (congrArg (fun z => Wr h1195 h1216 b1053 ((3 : Int32)).toNatClampNeg (Value.int z)) (own_c255 p1)) W1216
          have f1218 : Exa Z h1195 b1053 "[C" := (Exa.wr W1195 f1197)
          have O1219 := Old0.wr O1198 W1216 g_b1053
          have C1217 := CHr.trans C1196 (CHr.wr W1216 (Safe.exa hZ.alike f1218 (by decide) (by decide)) C1196.1)
          have hk := Nat.le_trans hk (Keep.of_wr W1216).1
          have f1216 : Arv Z h1216 b1053 k1053 .char (6 : Int32) [(.int (r_1175 &&& 255)), (.int (r_1181 &&& 255)), (.int (r_1190 &&& 255)), (.int (p1 &&& 255)), (.int 0), (.int 0)] (.int 0) := Arv.set Ar1216 qk1216 S1216 Ng1216 H1216 G1216 (v := (.int (p1 &&& 255))) (own_f255 p1) W1216 3 rfl (Nat.le_of_ble_eq_true rfl)
          have N1216 := Fr.snoc X1216 N1195 g_b1053
          refine GoS.of (T' := T1216) (f' := (mkF m 283 #[iv p0, iv p1, iv p2, iv p3, iv p4, iv p5, rv b1053, iv 4, iv 2, rv c1173, iv ed, .unset] [])) (fun _ k => XS.icmpNo X1195.here hx rfl (D at_196) rfl (teq hc1215).2 (XS.aload X1195.here hx rfl (D at_199) rfl rfl (XS.iload X1195.here hx rfl (D at_201) rfl (XS.iloadN X1195.here hx rfl (D at_203) rfl (XS.sipush X1195.here hx rfl (D at_204) (XS.iand X1195.here hx rfl (D at_207) rfl (XS.i2c X1195.here hx rfl (D at_208) rfl (st1216 _ (XS.iload X1216.here hx rfl (D at_210) rfl (XS.iconst X1216.here hx rfl (D at_212) (XS.iadd X1216.here hx rfl (D at_213) rfl (XS.istore X1216.here hx rfl (D at_214) rfl (l' := #[iv p0, iv p1, iv p2, iv p3, iv p4, iv p5, rv b1053, iv 4, iv 2, rv c1173, iv ed, .unset]) rfl (XS.goto X1216.here hx rfl (pc0 := 216) (pc' := 283) rfl (D at_216) (by decide) (by decide) k))))))))))))) ?_
          exact rm_t4 hw G p0 p1 p2 p3 p4 p5 (b1053) (k1053) (r_1175) (r_1181) (r_1190) (p1) ((0 : Int32)) ((0 : Int32)) (One.val rfl) (One.val rfl) (One.val rfl) (One.u) hx hby hml hown hret hlk hZ hS hk  C1217 e1216 (Stand.more X1216 (by decide) (by decide)) N1216 O1219 f1216 
        · skip
          refine GoS.of (T' := T1195) (f' := (mkF m 283 #[iv p0, iv p1, iv p2, iv p3, iv p4, iv p5, rv b1053, iv 3, iv 2, rv c1173, iv ed, .unset] [])) (fun _ k => XS.icmpYes X1195.here hx rfl (pc0 := 196) (pc' := 216) rfl (D at_196) rfl (feq hc1215).2 (by decide) (by decide) (XS.goto X1195.here hx rfl (pc0 := 216) (pc' := 283) rfl (D at_216) (by decide) (by decide) k)) ?_
          exact rm_t3 hw G p0 p1 p2 p3 p4 p5 (b1053) (k1053) (r_1175) (r_1181) (r_1190) ((0 : Int32)) ((0 : Int32)) ((0 : Int32)) (One.val rfl) (One.val rfl) (One.val rfl) (One.u) hx hby hml hown hret hlk hZ hS hk  C1196 e1195 (Stand.more X1195 (by decide) (by decide)) N1195 O1198 f1195 
  | 3, _ =>
    refine GoS.cast (f' := (mkF m 16 #[iv p0, iv p1, iv p2, iv p3, iv p4, iv p5, rv b1053, .unset, iv 3, .unset, .unset, .unset] [])) rfl ?_
    refine GoS.of (T' := T1053) (f' := (mkF m 60 #[iv p0, iv p1, iv p2, iv p3, iv p4, iv p5, rv b1053, .unset, iv 3, .unset, .unset, .unset] [])) (fun _ k => XS.iload X1053.here hx rfl (D at_16) rfl (XS.iconst X1053.here hx rfl (D at_18) (XS.icmpNo X1053.here hx rfl (D at_19) rfl (tlt (by decide : (3 : Int32) < (5 : Int32))).2.1 (XS.iload X1053.here hx rfl (D at_22) rfl (XS.ifYes X1053.here hx rfl (pc0 := 24) (pc' := 32) rfl (D at_24) rfl ((if0 _ _).trans (feq (by decide : ¬ ((3 : Int32) = (0 : Int32)))).2) (by decide) (by decide) (XS.iload X1053.here hx rfl (D at_32) rfl (XS.iconst X1053.here hx rfl (D at_34) (XS.icmpYes X1053.here hx rfl (pc0 := 35) (pc' := 43) rfl (D at_35) rfl (feq (by decide : ¬ ((3 : Int32) = (1 : Int32)))).2 (by decide) (by decide) (XS.iload X1053.here hx rfl (D at_43) rfl (XS.iconst X1053.here hx rfl (D at_45) (XS.icmpYes X1053.here hx rfl (pc0 := 46) (pc' := 54) rfl (D at_46) rfl (feq (by decide : ¬ ((3 : Int32) = (2 : Int32)))).2 (by decide) (by decide) (XS.iload X1053.here hx rfl (D at_54) rfl (XS.iconst X1053.here hx rfl (D at_56) (XS.icmpNo X1053.here hx rfl (D at_57) rfl (teq (by decide : (3 : Int32) = (3 : Int32))).2 k)))))))))))))) ?_
    have sp1225_b1053 : Safe Z own_EL s.vm h1053 b1053 := (Safe.exa hZ.alike A1053 (by decide) (by decide))
    obtain ⟨c1225, T1225, h1225, k11225, v1225, kc1225, X1225, e1225, E1225, hS, hk1225, hZ, hown, A1225, Fc1225, Fv1225, V1225, -, -, Cq1225, -, sn1225, st1225⟩ := ldcCH X1053 hx hZ hown (own_w hw (i := 109) rfl) (own_wS hw) e1053 hS hk hEL (by decide) C1054.1 (vs := [(.int 105), (.int 100), (.int 98), (.int 97), (.int 103)]) (z := (5 : Int32)) ⟨by decide +kernel, by decide +kernel⟩ (by decide) rfl (g := (mkF m 60 #[iv p0, iv p1, iv p2, iv p3, iv p4, iv p5, rv b1053, .unset, iv 3, .unset, .unset, .unset] [])) rfl (D at_60) (n := 20) (by decide +kernel) (by decide) (by decide) (by decide)
    have O1225 := Old0.ext O1055 E1225
    have C1225 := CHr.trans C1054 Cq1225
    have hk := hk1225
    have sf1225_b1053 : Safe Z own_EL T1225.vm h1225 b1053 := CHr.safe Cq1225 A1053.lt sp1225_b1053
    have ne_b1053_c1225 : b1053 ≠ c1225 := (sn1225 b1053 sf1225_b1053).1
    have ne_b1053_v1225 : b1053 ≠ v1225 := (sn1225 b1053 sf1225_b1053).2
    obtain ⟨T1226, v1226, L1226, X1226, q1226, st1226⟩ := callVi X1225 hx hZ (y := own_m36) (z := own_m36) hown (own_w hw (i := 9) rfl) (own_w hw (i := 10) rfl) (notFace_of_selects (args := #[]) (mvT hZ (own_w hw (i := 12) rfl))) (own_w hw (i := 12) rfl) (own_w hw (i := 11) rfl) (own_w hw (i := 13) rfl) (own_w hw (i := 2) rfl) (by decide) (rm_len hw G c1225 v1225 kc1225 ((5 : Int32)) (([(105 : Int32), (100 : Int32), (98 : Int32), (97 : Int32), (103 : Int32)] : List Int32)) h1225 O1225 A1225 Fv1225 Fc1225 V1225 (by first | decide | assumption | omega)) e1225 (W := 0) (by decide) (by decide) (by decide) (by decide) A1225 (g := (mkF m 71 #[iv p0, iv p1, iv p2, iv p3, iv p4, iv p5, rv b1053, .unset, iv 3, rv c1225, .unset, .unset] [(.ref c1225)])) rfl (by rw [hml]; rfl) (argsL := []) (rest := []) (lenOf pd49 rfl) rfl rfl (Nat.le_of_eq rfl) (D at_71)
    obtain ⟨rfl, e1226, rfl⟩ := q1226
    have N1226 := Fr.app N0 (Fr.nil _)
    obtain ⟨T1227, v1227, L1227, X1227, q1227, st1227⟩ := callVi X1226 hx hZ (y := own_m33) (z := own_m33) hown (own_w hw (i := 22) rfl) (own_w hw (i := 23) rfl) (notFace_of_selects (args := #[]) (mvT hZ (own_w hw (i := 25) rfl))) (own_w hw (i := 25) rfl) (own_w hw (i := 24) rfl) (own_w hw (i := 26) rfl) (own_w hw (i := 2) rfl) (by decide) (rm_ch hw G c1225 ((0 : Int32)) v1225 kc1225 ((5 : Int32)) (([(105 : Int32), (100 : Int32), (98 : Int32), (97 : Int32), (103 : Int32)] : List Int32)) h1225 O1225 (by first | decide | assumption | omega) (by first | decide | assumption | omega) A1225 Fv1225 Fc1225 V1225) e1226 (W := 2) (by decide) (by decide) (by decide) (by decide) A1225 (g := (mkF m 82 #[iv p0, iv p1, iv p2, iv p3, iv p4, iv p5, rv b1053, iv 5, iv 3, rv c1225, .unset, .unset] [(.int 0), (.ref c1225), (.int 0), (.ref b1053)])) rfl (by rw [hml]; rfl) (argsL := [(.int 0)]) (rest := [(.int 0), (.ref b1053)]) (lenOf pd50 rfl) rfl rfl (Nat.le_of_eq rfl) (D at_82)
    obtain ⟨r_1227, rfl, e1227, rfl⟩ := q1227
    have N1227 := Fr.app N1226 (Fr.nil _)
    have f1229 : Arv Z h1225 b1053 k1053 .char (6 : Int32) [(.int 0), (.int 0), (.int 0), (.int 0), (.int 0), (.int 0)] (.int 0) := (Arv.ext f1056 E1225)
    obtain ⟨cl1228, Ar1228, qk1228, S1228, Ng1228, H1228, G1228⟩ := id f1229
    obtain ⟨T1228, h1228, X1228, e1228, W1228, st1228⟩ := stC X1227 hx hZ e1227 Ar1228 (j := (0 : Int32)) (inb_of S1228 ⟨by decide, by decide⟩) (g := (mkF m 85 #[iv p0, iv p1, iv p2, iv p3, iv p4, iv p5, rv b1053, iv 5, iv 3, rv c1225, .unset, .unset] [(.int (r_1227 &&& 255)), (.int 0), (.ref b1053)])) rfl rfl (D at_85)
    have W1228 : Wr h1225 h1228 b1053 ((0 : Int32)).toNatClampNeg (.int (r_1227 &&& 255)) := Eq.mp (congrArg (fun z => Wr h1225 h1228 b1053 ((0 : Int32)).toNatClampNeg (Value.int z)) (i2c_mask r_1227)) W1228
    have f1231 : Exa Z h1225 b1053 "[C" := (Exa.ext E1225 A1053)
    have O1232 := Old0.wr O1225 W1228 g_b1053
    have C1230 := CHr.trans C1225 (CHr.wr W1228 (Safe.exa hZ.alike f1231 (by decide) (by decide)) C1225.1)
    have hk := Nat.le_trans hk (Keep.of_wr W1228).1
    have f1228 : Arv Z h1228 b1053 k1053 .char (6 : Int32) [(.int (r_1227 &&& 255)), (.int 0), (.int 0), (.int 0), (.int 0), (.int 0)] (.int 0) := Arv.set Ar1228 qk1228 S1228 Ng1228 H1228 G1228 (v := (.int (r_1227 &&& 255))) (own_f255 r_1227) W1228 0 rfl (Nat.le_of_ble_eq_true rfl)
    have N1228 := Fr.snoc X1228 N1227 g_b1053
    have f1234 : Exa Z h1228 c1225 "java/lang/String" := (Exa.wr W1228 A1225)
    have f1235 : Fld Z h1228 c1225 "java/lang/String" "value" "[B" (.ref v1225) := (Fld.other W1228 Fv1225 (Or.inl (Ne.symm ne_b1053_c1225)))
    have f1236 : Fld Z h1228 c1225 "java/lang/String" "coder" "B" (.int 0) := (Fld.other W1228 Fc1225 (Or.inl (Ne.symm ne_b1053_c1225)))
    have f1237 : Arv Z h1228 v1225 kc1225 .byte (5 : Int32) [(.int 105), (.int 100), (.int 98), (.int 97), (.int 103)] (.int 0) := (Arv.other V1225 W1228 (Ne.symm ne_b1053_v1225))
    obtain ⟨T1233, v1233, L1233, X1233, q1233, st1233⟩ := callVi X1228 hx hZ (y := own_m33) (z := own_m33) hown (own_w hw (i := 22) rfl) (own_w hw (i := 23) rfl) (notFace_of_selects (args := #[]) (mvT hZ (own_w hw (i := 25) rfl))) (own_w hw (i := 25) rfl) (own_w hw (i := 24) rfl) (own_w hw (i := 26) rfl) (own_w hw (i := 2) rfl) (by decide) (rm_ch hw G c1225 ((1 : Int32)) v1225 kc1225 ((5 : Int32)) (([(105 : Int32), (100 : Int32), (98 : Int32), (97 : Int32), (103 : Int32)] : List Int32)) h1228 O1232 (by first | decide | assumption | omega) (by first | decide | assumption | omega) f1234 f1235 f1236 f1237) e1228 (W := 2) (by decide) (by decide) (by decide) (by decide) f1234 (g := (mkF m 92 #[iv p0, iv p1, iv p2, iv p3, iv p4, iv p5, rv b1053, iv 5, iv 3, rv c1225, .unset, .unset] [(.int 1), (.ref c1225), (.int 1), (.ref b1053)])) rfl (by rw [hml]; rfl) (argsL := [(.int 1)]) (rest := [(.int 1), (.ref b1053)]) (lenOf pd50 rfl) rfl rfl (Nat.le_of_eq rfl) (D at_92)
    obtain ⟨r_1233, rfl, e1233, rfl⟩ := q1233
    have N1233 := Fr.app N1228 (Fr.nil _)
    obtain ⟨cl1238, Ar1238, qk1238, S1238, Ng1238, H1238, G1238⟩ := id f1228
    obtain ⟨T1238, h1238, X1238, e1238, W1238, st1238⟩ := stC X1233 hx hZ e1233 Ar1238 (j := (1 : Int32)) (inb_of S1238 ⟨by decide, by decide⟩) (g := (mkF m 95 #[iv p0, iv p1, iv p2, iv p3, iv p4, iv p5, rv b1053, iv 5, iv 3, rv c1225, .unset, .unset] [(.int (r_1233 &&& 255)), (.int 1), (.ref b1053)])) rfl rfl (D at_95)
    have W1238 : Wr h1228 h1238 b1053 ((1 : Int32)).toNatClampNeg (.int (r_1233 &&& 255)) := Eq.mp (congrArg (fun z => Wr h1228 h1238 b1053 ((1 : Int32)).toNatClampNeg (Value.int z)) (i2c_mask r_1233)) W1238
    have f1240 : Exa Z h1228 b1053 "[C" := (Exa.wr W1228 f1231)
    have O1241 := Old0.wr O1232 W1238 g_b1053
    have C1239 := CHr.trans C1230 (CHr.wr W1238 (Safe.exa hZ.alike f1240 (by decide) (by decide)) C1230.1)
    have hk := Nat.le_trans hk (Keep.of_wr W1238).1
    have f1238 : Arv Z h1238 b1053 k1053 .char (6 : Int32) [(.int (r_1227 &&& 255)), (.int (r_1233 &&& 255)), (.int 0), (.int 0), (.int 0), (.int 0)] (.int 0) := Arv.set Ar1238 qk1238 S1238 Ng1238 H1238 G1238 (v := (.int (r_1233 &&& 255))) (own_f255 r_1233) W1238 1 rfl (Nat.le_of_ble_eq_true rfl)
    have N1238 := Fr.snoc X1238 N1233 g_b1053
    have f1243 : Exa Z h1238 c1225 "java/lang/String" := (Exa.wr W1238 f1234)
    have f1244 : Fld Z h1238 c1225 "java/lang/String" "value" "[B" (.ref v1225) := (Fld.other W1238 f1235 (Or.inl (Ne.symm ne_b1053_c1225)))
    have f1245 : Fld Z h1238 c1225 "java/lang/String" "coder" "B" (.int 0) := (Fld.other W1238 f1236 (Or.inl (Ne.symm ne_b1053_c1225)))
    have f1246 : Arv Z h1238 v1225 kc1225 .byte (5 : Int32) [(.int 105), (.int 100), (.int 98), (.int 97), (.int 103)] (.int 0) := (Arv.other f1237 W1238 (Ne.symm ne_b1053_v1225))
    obtain ⟨T1242, v1242, L1242, X1242, q1242, st1242⟩ := callVi X1238 hx hZ (y := own_m33) (z := own_m33) hown (own_w hw (i := 22) rfl) (own_w hw (i := 23) rfl) (notFace_of_selects (args := #[]) (mvT hZ (own_w hw (i := 25) rfl))) (own_w hw (i := 25) rfl) (own_w hw (i := 24) rfl) (own_w hw (i := 26) rfl) (own_w hw (i := 2) rfl) (by decide) (rm_ch hw G c1225 ((2 : Int32)) v1225 kc1225 ((5 : Int32)) (([(105 : Int32), (100 : Int32), (98 : Int32), (97 : Int32), (103 : Int32)] : List Int32)) h1238 O1241 (by first | decide | assumption | omega) (by first | decide | assumption | omega) f1243 f1244 f1245 f1246) e1238 (W := 2) (by decide) (by decide) (by decide) (by decide) f1243 (g := (mkF m 102 #[iv p0, iv p1, iv p2, iv p3, iv p4, iv p5, rv b1053, iv 5, iv 3, rv c1225, .unset, .unset] [(.int 2), (.ref c1225), (.int 2), (.ref b1053)])) rfl (by rw [hml]; rfl) (argsL := [(.int 2)]) (rest := [(.int 2), (.ref b1053)]) (lenOf pd50 rfl) rfl rfl (Nat.le_of_eq rfl) (D at_102)
    obtain ⟨r_1242, rfl, e1242, rfl⟩ := q1242
    have N1242 := Fr.app N1238 (Fr.nil _)
    obtain ⟨cl1247, Ar1247, qk1247, S1247, Ng1247, H1247, G1247⟩ := id f1238
    obtain ⟨T1247, h1247, X1247, e1247, W1247, st1247⟩ := stC X1242 hx hZ e1242 Ar1247 (j := (2 : Int32)) (inb_of S1247 ⟨by decide, by decide⟩) (g := (mkF m 105 #[iv p0, iv p1, iv p2, iv p3, iv p4, iv p5, rv b1053, iv 5, iv 3, rv c1225, .unset, .unset] [(.int (r_1242 &&& 255)), (.int 2), (.ref b1053)])) rfl rfl (D at_105)
    have W1247 : Wr h1238 h1247 b1053 ((2 : Int32)).toNatClampNeg (.int (r_1242 &&& 255)) := Eq.mp (congrArg (fun z => Wr h1238 h1247 b1053 ((2 : Int32)).toNatClampNeg (Value.int z)) (i2c_mask r_1242)) W1247
    have f1249 : Exa Z h1238 b1053 "[C" := (Exa.wr W1238 f1240)
    have O1250 := Old0.wr O1241 W1247 g_b1053
    have C1248 := CHr.trans C1239 (CHr.wr W1247 (Safe.exa hZ.alike f1249 (by decide) (by decide)) C1239.1)
    have hk := Nat.le_trans hk (Keep.of_wr W1247).1
    have f1247 : Arv Z h1247 b1053 k1053 .char (6 : Int32) [(.int (r_1227 &&& 255)), (.int (r_1233 &&& 255)), (.int (r_1242 &&& 255)), (.int 0), (.int 0), (.int 0)] (.int 0) := Arv.set Ar1247 qk1247 S1247 Ng1247 H1247 G1247 (v := (.int (r_1242 &&& 255))) (own_f255 r_1242) W1247 2 rfl (Nat.le_of_ble_eq_true rfl)
    have N1247 := Fr.snoc X1247 N1242 g_b1053
    refine GoS.of (T' := T1247) (f' := (mkF m 106 #[iv p0, iv p1, iv p2, iv p3, iv p4, iv p5, rv b1053, iv 5, iv 3, rv c1225, .unset, .unset] [])) (fun _ k => st1225 _ (XS.goto X1225.here hx rfl (pc0 := 62) (pc' := 67) rfl (D at_62) (by decide) (by decide) (XS.astore X1225.here hx rfl (D at_67) rfl rfl (l' := #[iv p0, iv p1, iv p2, iv p3, iv p4, iv p5, rv b1053, .unset, iv 3, rv c1225, .unset, .unset]) rfl (XS.aload X1225.here hx rfl (D at_69) rfl rfl (st1226 _ (XS.istore X1226.here hx rfl (D at_74) rfl (l' := #[iv p0, iv p1, iv p2, iv p3, iv p4, iv p5, rv b1053, iv 5, iv 3, rv c1225, .unset, .unset]) rfl (XS.aload X1226.here hx rfl (D at_76) rfl rfl (XS.iconst X1226.here hx rfl (D at_78) (XS.aload X1226.here hx rfl (D at_79) rfl rfl (XS.iconst X1226.here hx rfl (D at_81) (st1227 _ (st1228 _ (XS.aload X1228.here hx rfl (D at_86) rfl rfl (XS.iconst X1228.here hx rfl (D at_88) (XS.aload X1228.here hx rfl (D at_89) rfl rfl (XS.iconst X1228.here hx rfl (D at_91) (st1233 _ (st1238 _ (XS.aload X1238.here hx rfl (D at_96) rfl rfl (XS.iconst X1238.here hx rfl (D at_98) (XS.aload X1238.here hx rfl (D at_99) rfl rfl (XS.iconst X1238.here hx rfl (D at_101) (st1242 _ (st1247 _ k)))))))))))))))))))))))) ?_
    have f1253 : Exa Z h1247 c1225 "java/lang/String" := (Exa.wr W1247 f1243)
    have f1254 : Fld Z h1247 c1225 "java/lang/String" "value" "[B" (.ref v1225) := (Fld.other W1247 f1244 (Or.inl (Ne.symm ne_b1053_c1225)))
    have f1255 : Fld Z h1247 c1225 "java/lang/String" "coder" "B" (.int 0) := (Fld.other W1247 f1245 (Or.inl (Ne.symm ne_b1053_c1225)))
    have f1256 : Arv Z h1247 v1225 kc1225 .byte (5 : Int32) [(.int 105), (.int 100), (.int 98), (.int 97), (.int 103)] (.int 0) := (Arv.other f1246 W1247 (Ne.symm ne_b1053_v1225))
    obtain ⟨T1252, v1252, L1252, X1252, q1252, st1252⟩ := callVi X1247 hx hZ (y := own_m33) (z := own_m33) hown (own_w hw (i := 22) rfl) (own_w hw (i := 23) rfl) (notFace_of_selects (args := #[]) (mvT hZ (own_w hw (i := 25) rfl))) (own_w hw (i := 25) rfl) (own_w hw (i := 24) rfl) (own_w hw (i := 26) rfl) (own_w hw (i := 2) rfl) (by decide) (rm_ch hw G c1225 ((3 : Int32)) v1225 kc1225 ((5 : Int32)) (([(105 : Int32), (100 : Int32), (98 : Int32), (97 : Int32), (103 : Int32)] : List Int32)) h1247 O1250 (by first | decide | assumption | omega) (by first | decide | assumption | omega) f1253 f1254 f1255 f1256) e1247 (W := 2) (by decide) (by decide) (by decide) (by decide) f1253 (g := (mkF m 118 #[iv p0, iv p1, iv p2, iv p3, iv p4, iv p5, rv b1053, iv 5, iv 3, rv c1225, .unset, .unset] [(.int 3), (.ref c1225), (.int 3), (.ref b1053)])) rfl (by rw [hml]; rfl) (argsL := [(.int 3)]) (rest := [(.int 3), (.ref b1053)]) (lenOf pd50 rfl) rfl rfl (Nat.le_of_eq rfl) (D at_118)
    obtain ⟨r_1252, rfl, e1252, rfl⟩ := q1252
    have N1252 := Fr.app N1247 (Fr.nil _)
    obtain ⟨cl1257, Ar1257, qk1257, S1257, Ng1257, H1257, G1257⟩ := id f1247
    obtain ⟨T1257, h1257, X1257, e1257, W1257, st1257⟩ := stC X1252 hx hZ e1252 Ar1257 (j := (3 : Int32)) (inb_of S1257 ⟨by decide, by decide⟩) (g := (mkF m 121 #[iv p0, iv p1, iv p2, iv p3, iv p4, iv p5, rv b1053, iv 5, iv 3, rv c1225, .unset, .unset] [(.int (r_1252 &&& 255)), (.int 3), (.ref b1053)])) rfl rfl (D at_121)
    have W1257 : Wr h1247 h1257 b1053 ((3 : Int32)).toNatClampNeg (.int (r_1252 &&& 255)) := Eq.mp (congrArg (fun z => Wr h1247 h1257 b1053 ((3 : Int32)).toNatClampNeg (Value.int z)) (i2c_mask r_1252)) W1257
    have f1259 : Exa Z h1247 b1053 "[C" := (Exa.wr W1247 f1249)
    have O1260 := Old0.wr O1250 W1257 g_b1053
    have C1258 := CHr.trans C1248 (CHr.wr W1257 (Safe.exa hZ.alike f1259 (by decide) (by decide)) C1248.1)
    have hk := Nat.le_trans hk (Keep.of_wr W1257).1
    have f1257 : Arv Z h1257 b1053 k1053 .char (6 : Int32) [(.int (r_1227 &&& 255)), (.int (r_1233 &&& 255)), (.int (r_1242 &&& 255)), (.int (r_1252 &&& 255)), (.int 0), (.int 0)] (.int 0) := Arv.set Ar1257 qk1257 S1257 Ng1257 H1257 G1257 (v := (.int (r_1252 &&& 255))) (own_f255 r_1252) W1257 3 rfl (Nat.le_of_ble_eq_true rfl)
    have N1257 := Fr.snoc X1257 N1252 g_b1053
    have f1263 : Exa Z h1257 c1225 "java/lang/String" := (Exa.wr W1257 f1253)
    have f1264 : Fld Z h1257 c1225 "java/lang/String" "value" "[B" (.ref v1225) := (Fld.other W1257 f1254 (Or.inl (Ne.symm ne_b1053_c1225)))
    have f1265 : Fld Z h1257 c1225 "java/lang/String" "coder" "B" (.int 0) := (Fld.other W1257 f1255 (Or.inl (Ne.symm ne_b1053_c1225)))
    have f1266 : Arv Z h1257 v1225 kc1225 .byte (5 : Int32) [(.int 105), (.int 100), (.int 98), (.int 97), (.int 103)] (.int 0) := (Arv.other f1256 W1257 (Ne.symm ne_b1053_v1225))
    obtain ⟨T1262, v1262, L1262, X1262, q1262, st1262⟩ := callVi X1257 hx hZ (y := own_m33) (z := own_m33) hown (own_w hw (i := 22) rfl) (own_w hw (i := 23) rfl) (notFace_of_selects (args := #[]) (mvT hZ (own_w hw (i := 25) rfl))) (own_w hw (i := 25) rfl) (own_w hw (i := 24) rfl) (own_w hw (i := 26) rfl) (own_w hw (i := 2) rfl) (by decide) (rm_ch hw G c1225 ((4 : Int32)) v1225 kc1225 ((5 : Int32)) (([(105 : Int32), (100 : Int32), (98 : Int32), (97 : Int32), (103 : Int32)] : List Int32)) h1257 O1260 (by first | decide | assumption | omega) (by first | decide | assumption | omega) f1263 f1264 f1265 f1266) e1257 (W := 2) (by decide) (by decide) (by decide) (by decide) f1263 (g := (mkF m 134 #[iv p0, iv p1, iv p2, iv p3, iv p4, iv p5, rv b1053, iv 5, iv 3, rv c1225, .unset, .unset] [(.int 4), (.ref c1225), (.int 4), (.ref b1053)])) rfl (by rw [hml]; rfl) (argsL := [(.int 4)]) (rest := [(.int 4), (.ref b1053)]) (lenOf pd50 rfl) rfl rfl (Nat.le_of_eq rfl) (D at_134)
    obtain ⟨r_1262, rfl, e1262, rfl⟩ := q1262
    have N1262 := Fr.app N1257 (Fr.nil _)
    obtain ⟨cl1267, Ar1267, qk1267, S1267, Ng1267, H1267, G1267⟩ := id f1257
    obtain ⟨T1267, h1267, X1267, e1267, W1267, st1267⟩ := stC X1262 hx hZ e1262 Ar1267 (j := (4 : Int32)) (inb_of S1267 ⟨by decide, by decide⟩) (g := (mkF m 137 #[iv p0, iv p1, iv p2, iv p3, iv p4, iv p5, rv b1053, iv 5, iv 3, rv c1225, .unset, .unset] [(.int (r_1262 &&& 255)), (.int 4), (.ref b1053)])) rfl rfl (D at_137)
    have W1267 : Wr h1257 h1267 b1053 ((4 : Int32)).toNatClampNeg (.int (r_1262 &&& 255)) := Eq.mp (congrArg (fun z => Wr h1257 h1267 b1053 ((4 : Int32)).toNatClampNeg (Value.int z)) (i2c_mask r_1262)) W1267
    have f1269 : Exa Z h1257 b1053 "[C" := (Exa.wr W1257 f1259)
    have O1270 := Old0.wr O1260 W1267 g_b1053
    have C1268 := CHr.trans C1258 (CHr.wr W1267 (Safe.exa hZ.alike f1269 (by decide) (by decide)) C1258.1)
    have hk := Nat.le_trans hk (Keep.of_wr W1267).1
    have f1267 : Arv Z h1267 b1053 k1053 .char (6 : Int32) [(.int (r_1227 &&& 255)), (.int (r_1233 &&& 255)), (.int (r_1242 &&& 255)), (.int (r_1252 &&& 255)), (.int (r_1262 &&& 255)), (.int 0)] (.int 0) := Arv.set Ar1267 qk1267 S1267 Ng1267 H1267 G1267 (v := (.int (r_1262 &&& 255))) (own_f255 r_1262) W1267 4 rfl (Nat.le_of_ble_eq_true rfl)
    have N1267 := Fr.snoc X1267 N1262 g_b1053
    refine GoS.of (T' := T1267) (f' := (mkF m 144 #[iv p0, iv p1, iv p2, iv p3, iv p4, iv p5, rv b1053, iv 5, iv 3, rv c1225, .unset, .unset] [(.int (((p0.toUInt32 >>> ((8 : Int32) &&& 31).toUInt32).toInt32) &&& (3 : Int32)))])) (fun _ k => XS.iload X1247.here hx rfl (D at_106) rfl (XS.iconst X1247.here hx rfl (D at_108) (XS.icmpNo X1247.here hx rfl (D at_109) rfl (tlt (by decide : (3 : Int32) < (5 : Int32))).2.2.2 (XS.aload X1247.here hx rfl (D at_112) rfl rfl (XS.iconst X1247.here hx rfl (D at_114) (XS.aload X1247.here hx rfl (D at_115) rfl rfl (XS.iconst X1247.here hx rfl (D at_117) (st1252 _ (st1257 _ (XS.iload X1257.here hx rfl (D at_122) rfl (XS.iconst X1257.here hx rfl (D at_124) (XS.icmpNo X1257.here hx rfl (D at_125) rfl (tlt (by decide : (4 : Int32) < (5 : Int32))).2.2.2 (XS.aload X1257.here hx rfl (D at_128) rfl rfl (XS.iconst X1257.here hx rfl (D at_130) (XS.aload X1257.here hx rfl (D at_131) rfl rfl (XS.iconst X1257.here hx rfl (D at_133) (st1262 _ (st1267 _ (XS.iloadN X1267.here hx rfl (D at_138) rfl (XS.bipush X1267.here hx rfl (D at_139) (XS.iushr X1267.here hx rfl (D at_141) rfl (XS.iconst X1267.here hx rfl (D at_142) (XS.iand X1267.here hx rfl (D at_143) rfl k))))))))))))))))))))))) ?_
    generalize hed : ((((p0.toUInt32 >>> ((8 : Int32) &&& 31).toUInt32).toInt32) &&& (3 : Int32)) : Int32) = ed
    refine GoS.of (T' := T1267) (f' := (mkF m 149 #[iv p0, iv p1, iv p2, iv p3, iv p4, iv p5, rv b1053, iv 5, iv 3, rv c1225, iv ed, .unset] [(.int 1), (.int ed)])) (fun _ k => XS.istore X1267.here hx rfl (D at_144) rfl (l' := #[iv p0, iv p1, iv p2, iv p3, iv p4, iv p5, rv b1053, iv 5, iv 3, rv c1225, iv ed, .unset]) rfl (XS.iload X1267.here hx rfl (D at_146) rfl (XS.iconst X1267.here hx rfl (D at_148) k))) ?_
    by_cases hc1271 : ed = (1 : Int32)
    · skip
      refine GoS.of (T' := T1267) (f' := (mkF m 159 #[iv p0, iv p1, iv p2, iv p3, iv p4, iv p5, rv b1053, iv 5, iv 3, rv c1225, iv ed, .unset] [(.int (((p0.toUInt32 >>> ((10 : Int32) &&& 31).toUInt32).toInt32) &&& (7 : Int32)))])) (fun _ k => XS.icmpNo X1267.here hx rfl (D at_149) rfl (teq hc1271).2 (XS.iloadN X1267.here hx rfl (D at_152) rfl (XS.bipush X1267.here hx rfl (D at_153) (XS.iushr X1267.here hx rfl (D at_155) rfl (XS.bipush X1267.here hx rfl (D at_156) (XS.iand X1267.here hx rfl (D at_158) rfl k)))))) ?_
      generalize hpq : ((((p0.toUInt32 >>> ((10 : Int32) &&& 31).toUInt32).toInt32) &&& (7 : Int32)) : Int32) = pq
      obtain ⟨j, hj, hje⟩ := own_mod pq (hpq ▸ own_and0 _ _ (by decide)) (5 : Int32) 5 (by decide) (by decide)
      refine GoS.of (T' := T1267) (f' := (mkF m 164 #[iv p0, iv p1, iv p2, iv p3, iv p4, iv p5, rv b1053, iv 5, iv 3, rv c1225, iv ed, iv (pq % (5 : Int32))] [])) (fun _ k => XS.iload X1267.here hx rfl (D at_159) rfl (iremM X1267 hx rfl (D at_161) rfl (by decide) (XS.istore X1267.here hx rfl (D at_162) rfl (l' := #[iv p0, iv p1, iv p2, iv p3, iv p4, iv p5, rv b1053, iv 5, iv 3, rv c1225, iv ed, iv (pq % (5 : Int32))]) rfl k))) ?_
      rw [hje]
      match j, hj with
      | 0, _ =>
        refine GoS.cast (f' := (mkF m 164 #[iv p0, iv p1, iv p2, iv p3, iv p4, iv p5, rv b1053, iv 5, iv 3, rv c1225, iv ed, iv 0] [])) rfl ?_
        obtain ⟨cl1272, Ar1272, qk1272, S1272, Ng1272, H1272, G1272⟩ := id f1267
        obtain ⟨T1272, h1272, X1272, e1272, W1272, st1272⟩ := stC X1267 hx hZ e1267 Ar1272 (j := (0 : Int32)) (inb_of S1272 ⟨by decide, by decide⟩) (g := (mkF m 174 #[iv p0, iv p1, iv p2, iv p3, iv p4, iv p5, rv b1053, iv 5, iv 3, rv c1225, iv ed, iv 0] [(.int ((p1 &&& 255).toUInt32.toUInt16.toUInt32.toInt32)), (.int 0), (.ref b1053)])) rfl rfl (D at_174)
        have W1272 : Wr h1267 h1272 b1053 ((0 : Int32)).toNatClampNeg (.int (p1 &&& 255)) := Eq.mp (congrArg (fun z => Wr h1267 h1272 b1053 ((0 : Int32)).toNatClampNeg (Value.int z)) (own_c255 p1)) W1272
        have f1274 : Exa Z h1267 b1053 "[C" := (Exa.wr W1267 f1269)
        have O1275 := Old0.wr O1270 W1272 g_b1053
        have C1273 := CHr.trans C1268 (CHr.wr W1272 (Safe.exa hZ.alike f1274 (by decide) (by decide)) C1268.1)
        have hk := Nat.le_trans hk (Keep.of_wr W1272).1
        have f1272 : Arv Z h1272 b1053 k1053 .char (6 : Int32) [(.int (p1 &&& 255)), (.int (r_1233 &&& 255)), (.int (r_1242 &&& 255)), (.int (r_1252 &&& 255)), (.int (r_1262 &&& 255)), (.int 0)] (.int 0) := Arv.set Ar1272 qk1272 S1272 Ng1272 H1272 G1272 (v := (.int (p1 &&& 255))) (own_f255 p1) W1272 0 rfl (Nat.le_of_ble_eq_true rfl)
        have N1272 := Fr.snoc X1272 N1267 g_b1053
        refine GoS.of (T' := T1272) (f' := (mkF m 283 #[iv p0, iv p1, iv p2, iv p3, iv p4, iv p5, rv b1053, iv 5, iv 3, rv c1225, iv ed, iv 0] [])) (fun _ k => XS.aload X1267.here hx rfl (D at_164) rfl rfl (XS.iload X1267.here hx rfl (D at_166) rfl (XS.iloadN X1267.here hx rfl (D at_168) rfl (XS.sipush X1267.here hx rfl (D at_169) (XS.iand X1267.here hx rfl (D at_172) rfl (XS.i2c X1267.here hx rfl (D at_173) rfl (st1272 _ (XS.goto X1272.here hx rfl (pc0 := 175) (pc' := 216) rfl (D at_175) (by decide) (by decide) (XS.goto X1272.here hx rfl (pc0 := 216) (pc' := 283) rfl (D at_216) (by decide) (by decide) k))))))))) ?_
        exact rm_t5 hw G p0 p1 p2 p3 p4 p5 (b1053) (k1053) (p1) (r_1233) (r_1242) (r_1252) (r_1262) ((0 : Int32)) (One.val rfl) (One.val rfl) (One.val rfl) (One.val rfl) hx hby hml hown hret hlk hZ hS hk  C1273 e1272 (Stand.more X1272 (by decide) (by decide)) N1272 O1275 f1272 
      | 1, _ =>
        refine GoS.cast (f' := (mkF m 164 #[iv p0, iv p1, iv p2, iv p3, iv p4, iv p5, rv b1053, iv 5, iv 3, rv c1225, iv ed, iv 1] [])) rfl ?_
        obtain ⟨cl1276, Ar1276, qk1276, S1276, Ng1276, H1276, G1276⟩ := id f1267
        obtain ⟨T1276, h1276, X1276, e1276, W1276, st1276⟩ := stC X1267 hx hZ e1267 Ar1276 (j := (1 : Int32)) (inb_of S1276 ⟨by decide, by decide⟩) (g := (mkF m 174 #[iv p0, iv p1, iv p2, iv p3, iv p4, iv p5, rv b1053, iv 5, iv 3, rv c1225, iv ed, iv 1] [(.int ((p1 &&& 255).toUInt32.toUInt16.toUInt32.toInt32)), (.int 1), (.ref b1053)])) rfl rfl (D at_174)
        have W1276 : Wr h1267 h1276 b1053 ((1 : Int32)).toNatClampNeg (.int (p1 &&& 255)) := Eq.mp (congrArg (fun z => Wr h1267 h1276 b1053 ((1 : Int32)).toNatClampNeg (Value.int z)) (own_c255 p1)) W1276
        have f1278 : Exa Z h1267 b1053 "[C" := (Exa.wr W1267 f1269)
        have O1279 := Old0.wr O1270 W1276 g_b1053
        have C1277 := CHr.trans C1268 (CHr.wr W1276 (Safe.exa hZ.alike f1278 (by decide) (by decide)) C1268.1)
        have hk := Nat.le_trans hk (Keep.of_wr W1276).1
        have f1276 : Arv Z h1276 b1053 k1053 .char (6 : Int32) [(.int (r_1227 &&& 255)), (.int (p1 &&& 255)), (.int (r_1242 &&& 255)), (.int (r_1252 &&& 255)), (.int (r_1262 &&& 255)), (.int 0)] (.int 0) := Arv.set Ar1276 qk1276 S1276 Ng1276 H1276 G1276 (v := (.int (p1 &&& 255))) (own_f255 p1) W1276 1 rfl (Nat.le_of_ble_eq_true rfl)
        have N1276 := Fr.snoc X1276 N1267 g_b1053
        refine GoS.of (T' := T1276) (f' := (mkF m 283 #[iv p0, iv p1, iv p2, iv p3, iv p4, iv p5, rv b1053, iv 5, iv 3, rv c1225, iv ed, iv 1] [])) (fun _ k => XS.aload X1267.here hx rfl (D at_164) rfl rfl (XS.iload X1267.here hx rfl (D at_166) rfl (XS.iloadN X1267.here hx rfl (D at_168) rfl (XS.sipush X1267.here hx rfl (D at_169) (XS.iand X1267.here hx rfl (D at_172) rfl (XS.i2c X1267.here hx rfl (D at_173) rfl (st1276 _ (XS.goto X1276.here hx rfl (pc0 := 175) (pc' := 216) rfl (D at_175) (by decide) (by decide) (XS.goto X1276.here hx rfl (pc0 := 216) (pc' := 283) rfl (D at_216) (by decide) (by decide) k))))))))) ?_
        exact rm_t5 hw G p0 p1 p2 p3 p4 p5 (b1053) (k1053) (r_1227) (p1) (r_1242) (r_1252) (r_1262) ((0 : Int32)) (One.val rfl) (One.val rfl) (One.val rfl) (One.val rfl) hx hby hml hown hret hlk hZ hS hk  C1277 e1276 (Stand.more X1276 (by decide) (by decide)) N1276 O1279 f1276 
      | 2, _ =>
        refine GoS.cast (f' := (mkF m 164 #[iv p0, iv p1, iv p2, iv p3, iv p4, iv p5, rv b1053, iv 5, iv 3, rv c1225, iv ed, iv 2] [])) rfl ?_
        obtain ⟨cl1280, Ar1280, qk1280, S1280, Ng1280, H1280, G1280⟩ := id f1267
        obtain ⟨T1280, h1280, X1280, e1280, W1280, st1280⟩ := stC X1267 hx hZ e1267 Ar1280 (j := (2 : Int32)) (inb_of S1280 ⟨by decide, by decide⟩) (g := (mkF m 174 #[iv p0, iv p1, iv p2, iv p3, iv p4, iv p5, rv b1053, iv 5, iv 3, rv c1225, iv ed, iv 2] [(.int ((p1 &&& 255).toUInt32.toUInt16.toUInt32.toInt32)), (.int 2), (.ref b1053)])) rfl rfl (D at_174)
        have W1280 : Wr h1267 h1280 b1053 ((2 : Int32)).toNatClampNeg (.int (p1 &&& 255)) := Eq.mp (congrArg (fun z => Wr h1267 h1280 b1053 ((2 : Int32)).toNatClampNeg (Value.int z)) (own_c255 p1)) W1280
        have f1282 : Exa Z h1267 b1053 "[C" := (Exa.wr W1267 f1269)
        have O1283 := Old0.wr O1270 W1280 g_b1053
        have C1281 := CHr.trans C1268 (CHr.wr W1280 (Safe.exa hZ.alike f1282 (by decide) (by decide)) C1268.1)
        have hk := Nat.le_trans hk (Keep.of_wr W1280).1
        have f1280 : Arv Z h1280 b1053 k1053 .char (6 : Int32) [(.int (r_1227 &&& 255)), (.int (r_1233 &&& 255)), (.int (p1 &&& 255)), (.int (r_1252 &&& 255)), (.int (r_1262 &&& 255)), (.int 0)] (.int 0) := Arv.set Ar1280 qk1280 S1280 Ng1280 H1280 G1280 (v := (.int (p1 &&& 255))) (own_f255 p1) W1280 2 rfl (Nat.le_of_ble_eq_true rfl)
        have N1280 := Fr.snoc X1280 N1267 g_b1053
        refine GoS.of (T' := T1280) (f' := (mkF m 283 #[iv p0, iv p1, iv p2, iv p3, iv p4, iv p5, rv b1053, iv 5, iv 3, rv c1225, iv ed, iv 2] [])) (fun _ k => XS.aload X1267.here hx rfl (D at_164) rfl rfl (XS.iload X1267.here hx rfl (D at_166) rfl (XS.iloadN X1267.here hx rfl (D at_168) rfl (XS.sipush X1267.here hx rfl (D at_169) (XS.iand X1267.here hx rfl (D at_172) rfl (XS.i2c X1267.here hx rfl (D at_173) rfl (st1280 _ (XS.goto X1280.here hx rfl (pc0 := 175) (pc' := 216) rfl (D at_175) (by decide) (by decide) (XS.goto X1280.here hx rfl (pc0 := 216) (pc' := 283) rfl (D at_216) (by decide) (by decide) k))))))))) ?_
        exact rm_t5 hw G p0 p1 p2 p3 p4 p5 (b1053) (k1053) (r_1227) (r_1233) (p1) (r_1252) (r_1262) ((0 : Int32)) (One.val rfl) (One.val rfl) (One.val rfl) (One.val rfl) hx hby hml hown hret hlk hZ hS hk  C1281 e1280 (Stand.more X1280 (by decide) (by decide)) N1280 O1283 f1280 
      | 3, _ =>
        refine GoS.cast (f' := (mkF m 164 #[iv p0, iv p1, iv p2, iv p3, iv p4, iv p5, rv b1053, iv 5, iv 3, rv c1225, iv ed, iv 3] [])) rfl ?_
        obtain ⟨cl1284, Ar1284, qk1284, S1284, Ng1284, H1284, G1284⟩ := id f1267
        obtain ⟨T1284, h1284, X1284, e1284, W1284, st1284⟩ := stC X1267 hx hZ e1267 Ar1284 (j := (3 : Int32)) (inb_of S1284 ⟨by decide, by decide⟩) (g := (mkF m 174 #[iv p0, iv p1, iv p2, iv p3, iv p4, iv p5, rv b1053, iv 5, iv 3, rv c1225, iv ed, iv 3] [(.int ((p1 &&& 255).toUInt32.toUInt16.toUInt32.toInt32)), (.int 3), (.ref b1053)])) rfl rfl (D at_174)
        have W1284 : Wr h1267 h1284 b1053 ((3 : Int32)).toNatClampNeg (.int (p1 &&& 255)) := Eq.mp (congrArg (fun z => Wr h1267 h1284 b1053 ((3 : Int32)).toNatClampNeg (Value.int z)) (own_c255 p1)) W1284
        have f1286 : Exa Z h1267 b1053 "[C" := (Exa.wr W1267 f1269)
        have O1287 := Old0.wr O1270 W1284 g_b1053
        have C1285 := CHr.trans C1268 (CHr.wr W1284 (Safe.exa hZ.alike f1286 (by decide) (by decide)) C1268.1)
        have hk := Nat.le_trans hk (Keep.of_wr W1284).1
        have f1284 : Arv Z h1284 b1053 k1053 .char (6 : Int32) [(.int (r_1227 &&& 255)), (.int (r_1233 &&& 255)), (.int (r_1242 &&& 255)), (.int (p1 &&& 255)), (.int (r_1262 &&& 255)), (.int 0)] (.int 0) := Arv.set Ar1284 qk1284 S1284 Ng1284 H1284 G1284 (v := (.int (p1 &&& 255))) (own_f255 p1) W1284 3 rfl (Nat.le_of_ble_eq_true rfl)
        have N1284 := Fr.snoc X1284 N1267 g_b1053
        refine GoS.of (T' := T1284) (f' := (mkF m 283 #[iv p0, iv p1, iv p2, iv p3, iv p4, iv p5, rv b1053, iv 5, iv 3, rv c1225, iv ed, iv 3] [])) (fun _ k => XS.aload X1267.here hx rfl (D at_164) rfl rfl (XS.iload X1267.here hx rfl (D at_166) rfl (XS.iloadN X1267.here hx rfl (D at_168) rfl (XS.sipush X1267.here hx rfl (D at_169) (XS.iand X1267.here hx rfl (D at_172) rfl (XS.i2c X1267.here hx rfl (D at_173) rfl (st1284 _ (XS.goto X1284.here hx rfl (pc0 := 175) (pc' := 216) rfl (D at_175) (by decide) (by decide) (XS.goto X1284.here hx rfl (pc0 := 216) (pc' := 283) rfl (D at_216) (by decide) (by decide) k))))))))) ?_
        exact rm_t5 hw G p0 p1 p2 p3 p4 p5 (b1053) (k1053) (r_1227) (r_1233) (r_1242) (p1) (r_1262) ((0 : Int32)) (One.val rfl) (One.val rfl) (One.val rfl) (One.val rfl) hx hby hml hown hret hlk hZ hS hk  C1285 e1284 (Stand.more X1284 (by decide) (by decide)) N1284 O1287 f1284 
      | 4, _ =>
        refine GoS.cast (f' := (mkF m 164 #[iv p0, iv p1, iv p2, iv p3, iv p4, iv p5, rv b1053, iv 5, iv 3, rv c1225, iv ed, iv 4] [])) rfl ?_
        obtain ⟨cl1288, Ar1288, qk1288, S1288, Ng1288, H1288, G1288⟩ := id f1267
        obtain ⟨T1288, h1288, X1288, e1288, W1288, st1288⟩ := stC X1267 hx hZ e1267 Ar1288 (j := (4 : Int32)) (inb_of S1288 ⟨by decide, by decide⟩) (g := (mkF m 174 #[iv p0, iv p1, iv p2, iv p3, iv p4, iv p5, rv b1053, iv 5, iv 3, rv c1225, iv ed, iv 4] [(.int ((p1 &&& 255).toUInt32.toUInt16.toUInt32.toInt32)), (.int 4), (.ref b1053)])) rfl rfl (D at_174)
        have W1288 : Wr h1267 h1288 b1053 ((4 : Int32)).toNatClampNeg (.int (p1 &&& 255)) := Eq.mp (congrArg (fun z => Wr h1267 h1288 b1053 ((4 : Int32)).toNatClampNeg (Value.int z)) (own_c255 p1)) W1288
        have f1290 : Exa Z h1267 b1053 "[C" := (Exa.wr W1267 f1269)
        have O1291 := Old0.wr O1270 W1288 g_b1053
        have C1289 := CHr.trans C1268 (CHr.wr W1288 (Safe.exa hZ.alike f1290 (by decide) (by decide)) C1268.1)
        have hk := Nat.le_trans hk (Keep.of_wr W1288).1
        have f1288 : Arv Z h1288 b1053 k1053 .char (6 : Int32) [(.int (r_1227 &&& 255)), (.int (r_1233 &&& 255)), (.int (r_1242 &&& 255)), (.int (r_1252 &&& 255)), (.int (p1 &&& 255)), (.int 0)] (.int 0) := Arv.set Ar1288 qk1288 S1288 Ng1288 H1288 G1288 (v := (.int (p1 &&& 255))) (own_f255 p1) W1288 4 rfl (Nat.le_of_ble_eq_true rfl)
        have N1288 := Fr.snoc X1288 N1267 g_b1053
        refine GoS.of (T' := T1288) (f' := (mkF m 283 #[iv p0, iv p1, iv p2, iv p3, iv p4, iv p5, rv b1053, iv 5, iv 3, rv c1225, iv ed, iv 4] [])) (fun _ k => XS.aload X1267.here hx rfl (D at_164) rfl rfl (XS.iload X1267.here hx rfl (D at_166) rfl (XS.iloadN X1267.here hx rfl (D at_168) rfl (XS.sipush X1267.here hx rfl (D at_169) (XS.iand X1267.here hx rfl (D at_172) rfl (XS.i2c X1267.here hx rfl (D at_173) rfl (st1288 _ (XS.goto X1288.here hx rfl (pc0 := 175) (pc' := 216) rfl (D at_175) (by decide) (by decide) (XS.goto X1288.here hx rfl (pc0 := 216) (pc' := 283) rfl (D at_216) (by decide) (by decide) k))))))))) ?_
        exact rm_t5 hw G p0 p1 p2 p3 p4 p5 (b1053) (k1053) (r_1227) (r_1233) (r_1242) (r_1252) (p1) ((0 : Int32)) (One.val rfl) (One.val rfl) (One.val rfl) (One.val rfl) hx hby hml hown hret hlk hZ hS hk  C1289 e1288 (Stand.more X1288 (by decide) (by decide)) N1288 O1291 f1288 
      | n + 5, h => exact absurd h (by omega)
    · skip
      refine GoS.of (T' := T1267) (f' := (mkF m 181 #[iv p0, iv p1, iv p2, iv p3, iv p4, iv p5, rv b1053, iv 5, iv 3, rv c1225, iv ed, .unset] [(.int 2), (.int ed)])) (fun _ k => XS.icmpYes X1267.here hx rfl (pc0 := 149) (pc' := 178) rfl (D at_149) rfl (feq hc1271).2 (by decide) (by decide) (XS.iload X1267.here hx rfl (D at_178) rfl (XS.iconst X1267.here hx rfl (D at_180) k))) ?_
      by_cases hc1292 : ed = (2 : Int32)
      · skip
        refine GoS.of (T' := T1267) (f' := (mkF m 283 #[iv p0, iv p1, iv p2, iv p3, iv p4, iv p5, rv b1053, iv 4, iv 3, rv c1225, iv ed, .unset] [])) (fun _ k => XS.icmpNo X1267.here hx rfl (D at_181) rfl (teq hc1292).2 (XS.iload X1267.here hx rfl (D at_184) rfl (XS.iconst X1267.here hx rfl (D at_186) (XS.isub X1267.here hx rfl (D at_187) rfl (XS.istore X1267.here hx rfl (D at_188) rfl (l' := #[iv p0, iv p1, iv p2, iv p3, iv p4, iv p5, rv b1053, iv 4, iv 3, rv c1225, iv ed, .unset]) rfl (XS.goto X1267.here hx rfl (pc0 := 190) (pc' := 216) rfl (D at_190) (by decide) (by decide) (XS.goto X1267.here hx rfl (pc0 := 216) (pc' := 283) rfl (D at_216) (by decide) (by decide) k))))))) ?_
        exact rm_t4 hw G p0 p1 p2 p3 p4 p5 (b1053) (k1053) (r_1227) (r_1233) (r_1242) (r_1252) (r_1262) ((0 : Int32)) (One.val rfl) (One.val rfl) (One.val rfl) (One.u) hx hby hml hown hret hlk hZ hS hk  C1268 e1267 (Stand.more X1267 (by decide) (by decide)) N1267 O1270 f1267 
      · skip
        refine GoS.of (T' := T1267) (f' := (mkF m 196 #[iv p0, iv p1, iv p2, iv p3, iv p4, iv p5, rv b1053, iv 5, iv 3, rv c1225, iv ed, .unset] [(.int 3), (.int ed)])) (fun _ k => XS.icmpYes X1267.here hx rfl (pc0 := 181) (pc' := 193) rfl (D at_181) rfl (feq hc1292).2 (by decide) (by decide) (XS.iload X1267.here hx rfl (D at_193) rfl (XS.iconst X1267.here hx rfl (D at_195) k))) ?_
        by_cases hc1293 : ed = (3 : Int32)
        · skip
          obtain ⟨cl1294, Ar1294, qk1294, S1294, Ng1294, H1294, G1294⟩ := id f1267
          obtain ⟨T1294, h1294, X1294, e1294, W1294, st1294⟩ := stC X1267 hx hZ e1267 Ar1294 (j := (5 : Int32)) (inb_of S1294 ⟨by decide, by decide⟩) (g := (mkF m 209 #[iv p0, iv p1, iv p2, iv p3, iv p4, iv p5, rv b1053, iv 5, iv 3, rv c1225, iv ed, .unset] [(.int ((p1 &&& 255).toUInt32.toUInt16.toUInt32.toInt32)), (.int 5), (.ref b1053)])) rfl rfl (D at_209)
          have W1294 : Wr h1267 h1294 b1053 ((5 : Int32)).toNatClampNeg (.int (p1 &&& 255)) := Eq.mp (congrArg (fun z => Wr h1267 h1294 b1053 ((5 : Int32)).toNatClampNeg (Value.int z)) (own_c255 p1)) W1294
          have f1296 : Exa Z h1267 b1053 "[C" := (Exa.wr W1267 f1269)
          have O1297 := Old0.wr O1270 W1294 g_b1053
          have C1295 := CHr.trans C1268 (CHr.wr W1294 (Safe.exa hZ.alike f1296 (by decide) (by decide)) C1268.1)
          have hk := Nat.le_trans hk (Keep.of_wr W1294).1
          have f1294 : Arv Z h1294 b1053 k1053 .char (6 : Int32) [(.int (r_1227 &&& 255)), (.int (r_1233 &&& 255)), (.int (r_1242 &&& 255)), (.int (r_1252 &&& 255)), (.int (r_1262 &&& 255)), (.int (p1 &&& 255))] (.int 0) := Arv.set Ar1294 qk1294 S1294 Ng1294 H1294 G1294 (v := (.int (p1 &&& 255))) (own_f255 p1) W1294 5 rfl (Nat.le_of_ble_eq_true rfl)
          have N1294 := Fr.snoc X1294 N1267 g_b1053
          refine GoS.of (T' := T1294) (f' := (mkF m 283 #[iv p0, iv p1, iv p2, iv p3, iv p4, iv p5, rv b1053, iv 6, iv 3, rv c1225, iv ed, .unset] [])) (fun _ k => XS.icmpNo X1267.here hx rfl (D at_196) rfl (teq hc1293).2 (XS.aload X1267.here hx rfl (D at_199) rfl rfl (XS.iload X1267.here hx rfl (D at_201) rfl (XS.iloadN X1267.here hx rfl (D at_203) rfl (XS.sipush X1267.here hx rfl (D at_204) (XS.iand X1267.here hx rfl (D at_207) rfl (XS.i2c X1267.here hx rfl (D at_208) rfl (st1294 _ (XS.iload X1294.here hx rfl (D at_210) rfl (XS.iconst X1294.here hx rfl (D at_212) (XS.iadd X1294.here hx rfl (D at_213) rfl (XS.istore X1294.here hx rfl (D at_214) rfl (l' := #[iv p0, iv p1, iv p2, iv p3, iv p4, iv p5, rv b1053, iv 6, iv 3, rv c1225, iv ed, .unset]) rfl (XS.goto X1294.here hx rfl (pc0 := 216) (pc' := 283) rfl (D at_216) (by decide) (by decide) k))))))))))))) ?_
          exact rm_t6 hw G p0 p1 p2 p3 p4 p5 (b1053) (k1053) (r_1227) (r_1233) (r_1242) (r_1252) (r_1262) (p1) (One.val rfl) (One.val rfl) (One.val rfl) (One.u) hx hby hml hown hret hlk hZ hS hk  C1295 e1294 (Stand.more X1294 (by decide) (by decide)) N1294 O1297 f1294 
        · skip
          refine GoS.of (T' := T1267) (f' := (mkF m 283 #[iv p0, iv p1, iv p2, iv p3, iv p4, iv p5, rv b1053, iv 5, iv 3, rv c1225, iv ed, .unset] [])) (fun _ k => XS.icmpYes X1267.here hx rfl (pc0 := 196) (pc' := 216) rfl (D at_196) rfl (feq hc1293).2 (by decide) (by decide) (XS.goto X1267.here hx rfl (pc0 := 216) (pc' := 283) rfl (D at_216) (by decide) (by decide) k)) ?_
          exact rm_t5 hw G p0 p1 p2 p3 p4 p5 (b1053) (k1053) (r_1227) (r_1233) (r_1242) (r_1252) (r_1262) ((0 : Int32)) (One.val rfl) (One.val rfl) (One.val rfl) (One.u) hx hby hml hown hret hlk hZ hS hk  C1268 e1267 (Stand.more X1267 (by decide) (by decide)) N1267 O1270 f1267 
  | 4, _ =>
    refine GoS.cast (f' := (mkF m 16 #[iv p0, iv p1, iv p2, iv p3, iv p4, iv p5, rv b1053, .unset, iv 4, .unset, .unset, .unset] [])) rfl ?_
    refine GoS.of (T' := T1053) (f' := (mkF m 65 #[iv p0, iv p1, iv p2, iv p3, iv p4, iv p5, rv b1053, .unset, iv 4, .unset, .unset, .unset] [])) (fun _ k => XS.iload X1053.here hx rfl (D at_16) rfl (XS.iconst X1053.here hx rfl (D at_18) (XS.icmpNo X1053.here hx rfl (D at_19) rfl (tlt (by decide : (4 : Int32) < (5 : Int32))).2.1 (XS.iload X1053.here hx rfl (D at_22) rfl (XS.ifYes X1053.here hx rfl (pc0 := 24) (pc' := 32) rfl (D at_24) rfl ((if0 _ _).trans (feq (by decide : ¬ ((4 : Int32) = (0 : Int32)))).2) (by decide) (by decide) (XS.iload X1053.here hx rfl (D at_32) rfl (XS.iconst X1053.here hx rfl (D at_34) (XS.icmpYes X1053.here hx rfl (pc0 := 35) (pc' := 43) rfl (D at_35) rfl (feq (by decide : ¬ ((4 : Int32) = (1 : Int32)))).2 (by decide) (by decide) (XS.iload X1053.here hx rfl (D at_43) rfl (XS.iconst X1053.here hx rfl (D at_45) (XS.icmpYes X1053.here hx rfl (pc0 := 46) (pc' := 54) rfl (D at_46) rfl (feq (by decide : ¬ ((4 : Int32) = (2 : Int32)))).2 (by decide) (by decide) (XS.iload X1053.here hx rfl (D at_54) rfl (XS.iconst X1053.here hx rfl (D at_56) (XS.icmpYes X1053.here hx rfl (pc0 := 57) (pc' := 65) rfl (D at_57) rfl (feq (by decide : ¬ ((4 : Int32) = (3 : Int32)))).2 (by decide) (by decide) k)))))))))))))) ?_
    have sp1303_b1053 : Safe Z own_EL s.vm h1053 b1053 := (Safe.exa hZ.alike A1053 (by decide) (by decide))
    obtain ⟨c1303, T1303, h1303, k11303, v1303, kc1303, X1303, e1303, E1303, hS, hk1303, hZ, hown, A1303, Fc1303, Fv1303, V1303, -, -, Cq1303, -, sn1303, st1303⟩ := ldcCH X1053 hx hZ hown (own_w hw (i := 106) rfl) (own_wS hw) e1053 hS hk hEL (by decide) C1054.1 (vs := [(.int 109), (.int 97), (.int 112)]) (z := (3 : Int32)) ⟨by decide +kernel, by decide +kernel⟩ (by decide) rfl (g := (mkF m 65 #[iv p0, iv p1, iv p2, iv p3, iv p4, iv p5, rv b1053, .unset, iv 4, .unset, .unset, .unset] [])) rfl (D at_65) (n := 12) (by decide +kernel) (by decide) (by decide) (by decide)
    have O1303 := Old0.ext O1055 E1303
    have C1303 := CHr.trans C1054 Cq1303
    have hk := hk1303
    have sf1303_b1053 : Safe Z own_EL T1303.vm h1303 b1053 := CHr.safe Cq1303 A1053.lt sp1303_b1053
    have ne_b1053_c1303 : b1053 ≠ c1303 := (sn1303 b1053 sf1303_b1053).1
    have ne_b1053_v1303 : b1053 ≠ v1303 := (sn1303 b1053 sf1303_b1053).2
    obtain ⟨T1304, v1304, L1304, X1304, q1304, st1304⟩ := callVi X1303 hx hZ (y := own_m36) (z := own_m36) hown (own_w hw (i := 9) rfl) (own_w hw (i := 10) rfl) (notFace_of_selects (args := #[]) (mvT hZ (own_w hw (i := 12) rfl))) (own_w hw (i := 12) rfl) (own_w hw (i := 11) rfl) (own_w hw (i := 13) rfl) (own_w hw (i := 2) rfl) (by decide) (rm_len hw G c1303 v1303 kc1303 ((3 : Int32)) (([(109 : Int32), (97 : Int32), (112 : Int32)] : List Int32)) h1303 O1303 A1303 Fv1303 Fc1303 V1303 (by first | decide | assumption | omega)) e1303 (W := 0) (by decide) (by decide) (by decide) (by decide) A1303 (g := (mkF m 71 #[iv p0, iv p1, iv p2, iv p3, iv p4, iv p5, rv b1053, .unset, iv 4, rv c1303, .unset, .unset] [(.ref c1303)])) rfl (by rw [hml]; rfl) (argsL := []) (rest := []) (lenOf pd49 rfl) rfl rfl (Nat.le_of_eq rfl) (D at_71)
    obtain ⟨rfl, e1304, rfl⟩ := q1304
    have N1304 := Fr.app N0 (Fr.nil _)
    obtain ⟨T1305, v1305, L1305, X1305, q1305, st1305⟩ := callVi X1304 hx hZ (y := own_m33) (z := own_m33) hown (own_w hw (i := 22) rfl) (own_w hw (i := 23) rfl) (notFace_of_selects (args := #[]) (mvT hZ (own_w hw (i := 25) rfl))) (own_w hw (i := 25) rfl) (own_w hw (i := 24) rfl) (own_w hw (i := 26) rfl) (own_w hw (i := 2) rfl) (by decide) (rm_ch hw G c1303 ((0 : Int32)) v1303 kc1303 ((3 : Int32)) (([(109 : Int32), (97 : Int32), (112 : Int32)] : List Int32)) h1303 O1303 (by first | decide | assumption | omega) (by first | decide | assumption | omega) A1303 Fv1303 Fc1303 V1303) e1304 (W := 2) (by decide) (by decide) (by decide) (by decide) A1303 (g := (mkF m 82 #[iv p0, iv p1, iv p2, iv p3, iv p4, iv p5, rv b1053, iv 3, iv 4, rv c1303, .unset, .unset] [(.int 0), (.ref c1303), (.int 0), (.ref b1053)])) rfl (by rw [hml]; rfl) (argsL := [(.int 0)]) (rest := [(.int 0), (.ref b1053)]) (lenOf pd50 rfl) rfl rfl (Nat.le_of_eq rfl) (D at_82)
    obtain ⟨r_1305, rfl, e1305, rfl⟩ := q1305
    have N1305 := Fr.app N1304 (Fr.nil _)
    have f1307 : Arv Z h1303 b1053 k1053 .char (6 : Int32) [(.int 0), (.int 0), (.int 0), (.int 0), (.int 0), (.int 0)] (.int 0) := (Arv.ext f1056 E1303)
    obtain ⟨cl1306, Ar1306, qk1306, S1306, Ng1306, H1306, G1306⟩ := id f1307
    obtain ⟨T1306, h1306, X1306, e1306, W1306, st1306⟩ := stC X1305 hx hZ e1305 Ar1306 (j := (0 : Int32)) (inb_of S1306 ⟨by decide, by decide⟩) (g := (mkF m 85 #[iv p0, iv p1, iv p2, iv p3, iv p4, iv p5, rv b1053, iv 3, iv 4, rv c1303, .unset, .unset] [(.int (r_1305 &&& 255)), (.int 0), (.ref b1053)])) rfl rfl (D at_85)
    have W1306 : Wr h1303 h1306 b1053 ((0 : Int32)).toNatClampNeg (.int (r_1305 &&& 255)) := Eq.mp (congrArg (fun z => Wr h1303 h1306 b1053 ((0 : Int32)).toNatClampNeg (Value.int z)) (i2c_mask r_1305)) W1306
    have f1309 : Exa Z h1303 b1053 "[C" := (Exa.ext E1303 A1053)
    have O1310 := Old0.wr O1303 W1306 g_b1053
    have C1308 := CHr.trans C1303 (CHr.wr W1306 (Safe.exa hZ.alike f1309 (by decide) (by decide)) C1303.1)
    have hk := Nat.le_trans hk (Keep.of_wr W1306).1
    have f1306 : Arv Z h1306 b1053 k1053 .char (6 : Int32) [(.int (r_1305 &&& 255)), (.int 0), (.int 0), (.int 0), (.int 0), (.int 0)] (.int 0) := Arv.set Ar1306 qk1306 S1306 Ng1306 H1306 G1306 (v := (.int (r_1305 &&& 255))) (own_f255 r_1305) W1306 0 rfl (Nat.le_of_ble_eq_true rfl)
    have N1306 := Fr.snoc X1306 N1305 g_b1053
    have f1312 : Exa Z h1306 c1303 "java/lang/String" := (Exa.wr W1306 A1303)
    have f1313 : Fld Z h1306 c1303 "java/lang/String" "value" "[B" (.ref v1303) := (Fld.other W1306 Fv1303 (Or.inl (Ne.symm ne_b1053_c1303)))
    have f1314 : Fld Z h1306 c1303 "java/lang/String" "coder" "B" (.int 0) := (Fld.other W1306 Fc1303 (Or.inl (Ne.symm ne_b1053_c1303)))
    have f1315 : Arv Z h1306 v1303 kc1303 .byte (3 : Int32) [(.int 109), (.int 97), (.int 112)] (.int 0) := (Arv.other V1303 W1306 (Ne.symm ne_b1053_v1303))
    obtain ⟨T1311, v1311, L1311, X1311, q1311, st1311⟩ := callVi X1306 hx hZ (y := own_m33) (z := own_m33) hown (own_w hw (i := 22) rfl) (own_w hw (i := 23) rfl) (notFace_of_selects (args := #[]) (mvT hZ (own_w hw (i := 25) rfl))) (own_w hw (i := 25) rfl) (own_w hw (i := 24) rfl) (own_w hw (i := 26) rfl) (own_w hw (i := 2) rfl) (by decide) (rm_ch hw G c1303 ((1 : Int32)) v1303 kc1303 ((3 : Int32)) (([(109 : Int32), (97 : Int32), (112 : Int32)] : List Int32)) h1306 O1310 (by first | decide | assumption | omega) (by first | decide | assumption | omega) f1312 f1313 f1314 f1315) e1306 (W := 2) (by decide) (by decide) (by decide) (by decide) f1312 (g := (mkF m 92 #[iv p0, iv p1, iv p2, iv p3, iv p4, iv p5, rv b1053, iv 3, iv 4, rv c1303, .unset, .unset] [(.int 1), (.ref c1303), (.int 1), (.ref b1053)])) rfl (by rw [hml]; rfl) (argsL := [(.int 1)]) (rest := [(.int 1), (.ref b1053)]) (lenOf pd50 rfl) rfl rfl (Nat.le_of_eq rfl) (D at_92)
    obtain ⟨r_1311, rfl, e1311, rfl⟩ := q1311
    have N1311 := Fr.app N1306 (Fr.nil _)
    obtain ⟨cl1316, Ar1316, qk1316, S1316, Ng1316, H1316, G1316⟩ := id f1306
    obtain ⟨T1316, h1316, X1316, e1316, W1316, st1316⟩ := stC X1311 hx hZ e1311 Ar1316 (j := (1 : Int32)) (inb_of S1316 ⟨by decide, by decide⟩) (g := (mkF m 95 #[iv p0, iv p1, iv p2, iv p3, iv p4, iv p5, rv b1053, iv 3, iv 4, rv c1303, .unset, .unset] [(.int (r_1311 &&& 255)), (.int 1), (.ref b1053)])) rfl rfl (D at_95)
    have W1316 : Wr h1306 h1316 b1053 ((1 : Int32)).toNatClampNeg (.int (r_1311 &&& 255)) := Eq.mp (congrArg (fun z => Wr h1306 h1316 b1053 ((1 : Int32)).toNatClampNeg (Value.int z)) (i2c_mask r_1311)) W1316
    have f1318 : Exa Z h1306 b1053 "[C" := (Exa.wr W1306 f1309)
    have O1319 := Old0.wr O1310 W1316 g_b1053
    have C1317 := CHr.trans C1308 (CHr.wr W1316 (Safe.exa hZ.alike f1318 (by decide) (by decide)) C1308.1)
    have hk := Nat.le_trans hk (Keep.of_wr W1316).1
    have f1316 : Arv Z h1316 b1053 k1053 .char (6 : Int32) [(.int (r_1305 &&& 255)), (.int (r_1311 &&& 255)), (.int 0), (.int 0), (.int 0), (.int 0)] (.int 0) := Arv.set Ar1316 qk1316 S1316 Ng1316 H1316 G1316 (v := (.int (r_1311 &&& 255))) (own_f255 r_1311) W1316 1 rfl (Nat.le_of_ble_eq_true rfl)
    have N1316 := Fr.snoc X1316 N1311 g_b1053
    have f1321 : Exa Z h1316 c1303 "java/lang/String" := (Exa.wr W1316 f1312)
    have f1322 : Fld Z h1316 c1303 "java/lang/String" "value" "[B" (.ref v1303) := (Fld.other W1316 f1313 (Or.inl (Ne.symm ne_b1053_c1303)))
    have f1323 : Fld Z h1316 c1303 "java/lang/String" "coder" "B" (.int 0) := (Fld.other W1316 f1314 (Or.inl (Ne.symm ne_b1053_c1303)))
    have f1324 : Arv Z h1316 v1303 kc1303 .byte (3 : Int32) [(.int 109), (.int 97), (.int 112)] (.int 0) := (Arv.other f1315 W1316 (Ne.symm ne_b1053_v1303))
    obtain ⟨T1320, v1320, L1320, X1320, q1320, st1320⟩ := callVi X1316 hx hZ (y := own_m33) (z := own_m33) hown (own_w hw (i := 22) rfl) (own_w hw (i := 23) rfl) (notFace_of_selects (args := #[]) (mvT hZ (own_w hw (i := 25) rfl))) (own_w hw (i := 25) rfl) (own_w hw (i := 24) rfl) (own_w hw (i := 26) rfl) (own_w hw (i := 2) rfl) (by decide) (rm_ch hw G c1303 ((2 : Int32)) v1303 kc1303 ((3 : Int32)) (([(109 : Int32), (97 : Int32), (112 : Int32)] : List Int32)) h1316 O1319 (by first | decide | assumption | omega) (by first | decide | assumption | omega) f1321 f1322 f1323 f1324) e1316 (W := 2) (by decide) (by decide) (by decide) (by decide) f1321 (g := (mkF m 102 #[iv p0, iv p1, iv p2, iv p3, iv p4, iv p5, rv b1053, iv 3, iv 4, rv c1303, .unset, .unset] [(.int 2), (.ref c1303), (.int 2), (.ref b1053)])) rfl (by rw [hml]; rfl) (argsL := [(.int 2)]) (rest := [(.int 2), (.ref b1053)]) (lenOf pd50 rfl) rfl rfl (Nat.le_of_eq rfl) (D at_102)
    obtain ⟨r_1320, rfl, e1320, rfl⟩ := q1320
    have N1320 := Fr.app N1316 (Fr.nil _)
    obtain ⟨cl1325, Ar1325, qk1325, S1325, Ng1325, H1325, G1325⟩ := id f1316
    obtain ⟨T1325, h1325, X1325, e1325, W1325, st1325⟩ := stC X1320 hx hZ e1320 Ar1325 (j := (2 : Int32)) (inb_of S1325 ⟨by decide, by decide⟩) (g := (mkF m 105 #[iv p0, iv p1, iv p2, iv p3, iv p4, iv p5, rv b1053, iv 3, iv 4, rv c1303, .unset, .unset] [(.int (r_1320 &&& 255)), (.int 2), (.ref b1053)])) rfl rfl (D at_105)
    have W1325 : Wr h1316 h1325 b1053 ((2 : Int32)).toNatClampNeg (.int (r_1320 &&& 255)) := Eq.mp (congrArg (fun z => Wr h1316 h1325 b1053 ((2 : Int32)).toNatClampNeg (Value.int z)) (i2c_mask r_1320)) W1325
    have f1327 : Exa Z h1316 b1053 "[C" := (Exa.wr W1316 f1318)
    have O1328 := Old0.wr O1319 W1325 g_b1053
    have C1326 := CHr.trans C1317 (CHr.wr W1325 (Safe.exa hZ.alike f1327 (by decide) (by decide)) C1317.1)
    have hk := Nat.le_trans hk (Keep.of_wr W1325).1
    have f1325 : Arv Z h1325 b1053 k1053 .char (6 : Int32) [(.int (r_1305 &&& 255)), (.int (r_1311 &&& 255)), (.int (r_1320 &&& 255)), (.int 0), (.int 0), (.int 0)] (.int 0) := Arv.set Ar1325 qk1325 S1325 Ng1325 H1325 G1325 (v := (.int (r_1320 &&& 255))) (own_f255 r_1320) W1325 2 rfl (Nat.le_of_ble_eq_true rfl)
    have N1325 := Fr.snoc X1325 N1320 g_b1053
    refine GoS.of (T' := T1325) (f' := (mkF m 108 #[iv p0, iv p1, iv p2, iv p3, iv p4, iv p5, rv b1053, iv 3, iv 4, rv c1303, .unset, .unset] [(.int 3)])) (fun _ k => st1303 _ (XS.astore X1303.here hx rfl (D at_67) rfl rfl (l' := #[iv p0, iv p1, iv p2, iv p3, iv p4, iv p5, rv b1053, .unset, iv 4, rv c1303, .unset, .unset]) rfl (XS.aload X1303.here hx rfl (D at_69) rfl rfl (st1304 _ (XS.istore X1304.here hx rfl (D at_74) rfl (l' := #[iv p0, iv p1, iv p2, iv p3, iv p4, iv p5, rv b1053, iv 3, iv 4, rv c1303, .unset, .unset]) rfl (XS.aload X1304.here hx rfl (D at_76) rfl rfl (XS.iconst X1304.here hx rfl (D at_78) (XS.aload X1304.here hx rfl (D at_79) rfl rfl (XS.iconst X1304.here hx rfl (D at_81) (st1305 _ (st1306 _ (XS.aload X1306.here hx rfl (D at_86) rfl rfl (XS.iconst X1306.here hx rfl (D at_88) (XS.aload X1306.here hx rfl (D at_89) rfl rfl (XS.iconst X1306.here hx rfl (D at_91) (st1311 _ (st1316 _ (XS.aload X1316.here hx rfl (D at_96) rfl rfl (XS.iconst X1316.here hx rfl (D at_98) (XS.aload X1316.here hx rfl (D at_99) rfl rfl (XS.iconst X1316.here hx rfl (D at_101) (st1320 _ (st1325 _ (XS.iload X1325.here hx rfl (D at_106) rfl k)))))))))))))))))))))))) ?_
    refine GoS.of (T' := T1325) (f' := (mkF m 144 #[iv p0, iv p1, iv p2, iv p3, iv p4, iv p5, rv b1053, iv 3, iv 4, rv c1303, .unset, .unset] [(.int (((p0.toUInt32 >>> ((8 : Int32) &&& 31).toUInt32).toInt32) &&& (3 : Int32)))])) (fun _ k => XS.iconst X1325.here hx rfl (D at_108) (XS.icmpYes X1325.here hx rfl (pc0 := 109) (pc' := 122) rfl (D at_109) rfl (flt (by decide : ¬ ((3 : Int32) < (3 : Int32)))).2.2.2 (by decide) (by decide) (XS.iload X1325.here hx rfl (D at_122) rfl (XS.iconst X1325.here hx rfl (D at_124) (XS.icmpYes X1325.here hx rfl (pc0 := 125) (pc' := 138) rfl (D at_125) rfl (flt (by decide : ¬ ((4 : Int32) < (3 : Int32)))).2.2.2 (by decide) (by decide) (XS.iloadN X1325.here hx rfl (D at_138) rfl (XS.bipush X1325.here hx rfl (D at_139) (XS.iushr X1325.here hx rfl (D at_141) rfl (XS.iconst X1325.here hx rfl (D at_142) (XS.iand X1325.here hx rfl (D at_143) rfl k)))))))))) ?_
    generalize hed : ((((p0.toUInt32 >>> ((8 : Int32) &&& 31).toUInt32).toInt32) &&& (3 : Int32)) : Int32) = ed
    refine GoS.of (T' := T1325) (f' := (mkF m 149 #[iv p0, iv p1, iv p2, iv p3, iv p4, iv p5, rv b1053, iv 3, iv 4, rv c1303, iv ed, .unset] [(.int 1), (.int ed)])) (fun _ k => XS.istore X1325.here hx rfl (D at_144) rfl (l' := #[iv p0, iv p1, iv p2, iv p3, iv p4, iv p5, rv b1053, iv 3, iv 4, rv c1303, iv ed, .unset]) rfl (XS.iload X1325.here hx rfl (D at_146) rfl (XS.iconst X1325.here hx rfl (D at_148) k))) ?_
    by_cases hc1331 : ed = (1 : Int32)
    · skip
      refine GoS.of (T' := T1325) (f' := (mkF m 159 #[iv p0, iv p1, iv p2, iv p3, iv p4, iv p5, rv b1053, iv 3, iv 4, rv c1303, iv ed, .unset] [(.int (((p0.toUInt32 >>> ((10 : Int32) &&& 31).toUInt32).toInt32) &&& (7 : Int32)))])) (fun _ k => XS.icmpNo X1325.here hx rfl (D at_149) rfl (teq hc1331).2 (XS.iloadN X1325.here hx rfl (D at_152) rfl (XS.bipush X1325.here hx rfl (D at_153) (XS.iushr X1325.here hx rfl (D at_155) rfl (XS.bipush X1325.here hx rfl (D at_156) (XS.iand X1325.here hx rfl (D at_158) rfl k)))))) ?_
      generalize hpq : ((((p0.toUInt32 >>> ((10 : Int32) &&& 31).toUInt32).toInt32) &&& (7 : Int32)) : Int32) = pq
      obtain ⟨j, hj, hje⟩ := own_mod pq (hpq ▸ own_and0 _ _ (by decide)) (3 : Int32) 3 (by decide) (by decide)
      refine GoS.of (T' := T1325) (f' := (mkF m 164 #[iv p0, iv p1, iv p2, iv p3, iv p4, iv p5, rv b1053, iv 3, iv 4, rv c1303, iv ed, iv (pq % (3 : Int32))] [])) (fun _ k => XS.iload X1325.here hx rfl (D at_159) rfl (iremM X1325 hx rfl (D at_161) rfl (by decide) (XS.istore X1325.here hx rfl (D at_162) rfl (l' := #[iv p0, iv p1, iv p2, iv p3, iv p4, iv p5, rv b1053, iv 3, iv 4, rv c1303, iv ed, iv (pq % (3 : Int32))]) rfl k))) ?_
      rw [hje]
      match j, hj with
      | 0, _ =>
        refine GoS.cast (f' := (mkF m 164 #[iv p0, iv p1, iv p2, iv p3, iv p4, iv p5, rv b1053, iv 3, iv 4, rv c1303, iv ed, iv 0] [])) rfl ?_
        obtain ⟨cl1332, Ar1332, qk1332, S1332, Ng1332, H1332, G1332⟩ := id f1325
        obtain ⟨T1332, h1332, X1332, e1332, W1332, st1332⟩ := stC X1325 hx hZ e1325 Ar1332 (j := (0 : Int32)) (inb_of S1332 ⟨by decide, by decide⟩) (g := (mkF m 174 #[iv p0, iv p1, iv p2, iv p3, iv p4, iv p5, rv b1053, iv 3, iv 4, rv c1303, iv ed, iv 0] [(.int ((p1 &&& 255).toUInt32.toUInt16.toUInt32.toInt32)), (.int 0), (.ref b1053)])) rfl rfl (D at_174)
        have W1332 : Wr h1325 h1332 b1053 ((0 : Int32)).toNatClampNeg (.int (p1 &&& 255)) := Eq.mp (congrArg (fun z => Wr h1325 h1332 b1053 ((0 : Int32)).toNatClampNeg (Value.int z)) (own_c255 p1)) W1332
        have f1334 : Exa Z h1325 b1053 "[C" := (Exa.wr W1325 f1327)
        have O1335 := Old0.wr O1328 W1332 g_b1053
        have C1333 := CHr.trans C1326 (CHr.wr W1332 (Safe.exa hZ.alike f1334 (by decide) (by decide)) C1326.1)
        have hk := Nat.le_trans hk (Keep.of_wr W1332).1
        have f1332 : Arv Z h1332 b1053 k1053 .char (6 : Int32) [(.int (p1 &&& 255)), (.int (r_1311 &&& 255)), (.int (r_1320 &&& 255)), (.int 0), (.int 0), (.int 0)] (.int 0) := Arv.set Ar1332 qk1332 S1332 Ng1332 H1332 G1332 (v := (.int (p1 &&& 255))) (own_f255 p1) W1332 0 rfl (Nat.le_of_ble_eq_true rfl)
        have N1332 := Fr.snoc X1332 N1325 g_b1053
        refine GoS.of (T' := T1332) (f' := (mkF m 283 #[iv p0, iv p1, iv p2, iv p3, iv p4, iv p5, rv b1053, iv 3, iv 4, rv c1303, iv ed, iv 0] [])) (fun _ k => XS.aload X1325.here hx rfl (D at_164) rfl rfl (XS.iload X1325.here hx rfl (D at_166) rfl (XS.iloadN X1325.here hx rfl (D at_168) rfl (XS.sipush X1325.here hx rfl (D at_169) (XS.iand X1325.here hx rfl (D at_172) rfl (XS.i2c X1325.here hx rfl (D at_173) rfl (st1332 _ (XS.goto X1332.here hx rfl (pc0 := 175) (pc' := 216) rfl (D at_175) (by decide) (by decide) (XS.goto X1332.here hx rfl (pc0 := 216) (pc' := 283) rfl (D at_216) (by decide) (by decide) k))))))))) ?_
        exact rm_t3 hw G p0 p1 p2 p3 p4 p5 (b1053) (k1053) (p1) (r_1311) (r_1320) ((0 : Int32)) ((0 : Int32)) ((0 : Int32)) (One.val rfl) (One.val rfl) (One.val rfl) (One.val rfl) hx hby hml hown hret hlk hZ hS hk  C1333 e1332 (Stand.more X1332 (by decide) (by decide)) N1332 O1335 f1332 
      | 1, _ =>
        refine GoS.cast (f' := (mkF m 164 #[iv p0, iv p1, iv p2, iv p3, iv p4, iv p5, rv b1053, iv 3, iv 4, rv c1303, iv ed, iv 1] [])) rfl ?_
        obtain ⟨cl1336, Ar1336, qk1336, S1336, Ng1336, H1336, G1336⟩ := id f1325
        obtain ⟨T1336, h1336, X1336, e1336, W1336, st1336⟩ := stC X1325 hx hZ e1325 Ar1336 (j := (1 : Int32)) (inb_of S1336 ⟨by decide, by decide⟩) (g := (mkF m 174 #[iv p0, iv p1, iv p2, iv p3, iv p4, iv p5, rv b1053, iv 3, iv 4, rv c1303, iv ed, iv 1] [(.int ((p1 &&& 255).toUInt32.toUInt16.toUInt32.toInt32)), (.int 1), (.ref b1053)])) rfl rfl (D at_174)
        have W1336 : Wr h1325 h1336 b1053 ((1 : Int32)).toNatClampNeg (.int (p1 &&& 255)) := Eq.mp (congrArg (fun z => Wr h1325 h1336 b1053 ((1 : Int32)).toNatClampNeg (Value.int z)) (own_c255 p1)) W1336
        have f1338 : Exa Z h1325 b1053 "[C" := (Exa.wr W1325 f1327)
        have O1339 := Old0.wr O1328 W1336 g_b1053
        have C1337 := CHr.trans C1326 (CHr.wr W1336 (Safe.exa hZ.alike f1338 (by decide) (by decide)) C1326.1)
        have hk := Nat.le_trans hk (Keep.of_wr W1336).1
        have f1336 : Arv Z h1336 b1053 k1053 .char (6 : Int32) [(.int (r_1305 &&& 255)), (.int (p1 &&& 255)), (.int (r_1320 &&& 255)), (.int 0), (.int 0), (.int 0)] (.int 0) := Arv.set Ar1336 qk1336 S1336 Ng1336 H1336 G1336 (v := (.int (p1 &&& 255))) (own_f255 p1) W1336 1 rfl (Nat.le_of_ble_eq_true rfl)
        have N1336 := Fr.snoc X1336 N1325 g_b1053
        refine GoS.of (T' := T1336) (f' := (mkF m 283 #[iv p0, iv p1, iv p2, iv p3, iv p4, iv p5, rv b1053, iv 3, iv 4, rv c1303, iv ed, iv 1] [])) (fun _ k => XS.aload X1325.here hx rfl (D at_164) rfl rfl (XS.iload X1325.here hx rfl (D at_166) rfl (XS.iloadN X1325.here hx rfl (D at_168) rfl (XS.sipush X1325.here hx rfl (D at_169) (XS.iand X1325.here hx rfl (D at_172) rfl (XS.i2c X1325.here hx rfl (D at_173) rfl (st1336 _ (XS.goto X1336.here hx rfl (pc0 := 175) (pc' := 216) rfl (D at_175) (by decide) (by decide) (XS.goto X1336.here hx rfl (pc0 := 216) (pc' := 283) rfl (D at_216) (by decide) (by decide) k))))))))) ?_
        exact rm_t3 hw G p0 p1 p2 p3 p4 p5 (b1053) (k1053) (r_1305) (p1) (r_1320) ((0 : Int32)) ((0 : Int32)) ((0 : Int32)) (One.val rfl) (One.val rfl) (One.val rfl) (One.val rfl) hx hby hml hown hret hlk hZ hS hk  C1337 e1336 (Stand.more X1336 (by decide) (by decide)) N1336 O1339 f1336 
      | 2, _ =>
        refine GoS.cast (f' := (mkF m 164 #[iv p0, iv p1, iv p2, iv p3, iv p4, iv p5, rv b1053, iv 3, iv 4, rv c1303, iv ed, iv 2] [])) rfl ?_
        obtain ⟨cl1340, Ar1340, qk1340, S1340, Ng1340, H1340, G1340⟩ := id f1325
        obtain ⟨T1340, h1340, X1340, e1340, W1340, st1340⟩ := stC X1325 hx hZ e1325 Ar1340 (j := (2 : Int32)) (inb_of S1340 ⟨by decide, by decide⟩) (g := (mkF m 174 #[iv p0, iv p1, iv p2, iv p3, iv p4, iv p5, rv b1053, iv 3, iv 4, rv c1303, iv ed, iv 2] [(.int ((p1 &&& 255).toUInt32.toUInt16.toUInt32.toInt32)), (.int 2), (.ref b1053)])) rfl rfl (D at_174)
        have W1340 : Wr h1325 h1340 b1053 ((2 : Int32)).toNatClampNeg (.int (p1 &&& 255)) := Eq.mp (congrArg (fun z => Wr h1325 h1340 b1053 ((2 : Int32)).toNatClampNeg (Value.int z)) (own_c255 p1)) W1340
        have f1342 : Exa Z h1325 b1053 "[C" := (Exa.wr W1325 f1327)
        have O1343 := Old0.wr O1328 W1340 g_b1053
        have C1341 := CHr.trans C1326 (CHr.wr W1340 (Safe.exa hZ.alike f1342 (by decide) (by decide)) C1326.1)
        have hk := Nat.le_trans hk (Keep.of_wr W1340).1
        have f1340 : Arv Z h1340 b1053 k1053 .char (6 : Int32) [(.int (r_1305 &&& 255)), (.int (r_1311 &&& 255)), (.int (p1 &&& 255)), (.int 0), (.int 0), (.int 0)] (.int 0) := Arv.set Ar1340 qk1340 S1340 Ng1340 H1340 G1340 (v := (.int (p1 &&& 255))) (own_f255 p1) W1340 2 rfl (Nat.le_of_ble_eq_true rfl)
        have N1340 := Fr.snoc X1340 N1325 g_b1053
        refine GoS.of (T' := T1340) (f' := (mkF m 283 #[iv p0, iv p1, iv p2, iv p3, iv p4, iv p5, rv b1053, iv 3, iv 4, rv c1303, iv ed, iv 2] [])) (fun _ k => XS.aload X1325.here hx rfl (D at_164) rfl rfl (XS.iload X1325.here hx rfl (D at_166) rfl (XS.iloadN X1325.here hx rfl (D at_168) rfl (XS.sipush X1325.here hx rfl (D at_169) (XS.iand X1325.here hx rfl (D at_172) rfl (XS.i2c X1325.here hx rfl (D at_173) rfl (st1340 _ (XS.goto X1340.here hx rfl (pc0 := 175) (pc' := 216) rfl (D at_175) (by decide) (by decide) (XS.goto X1340.here hx rfl (pc0 := 216) (pc' := 283) rfl (D at_216) (by decide) (by decide) k))))))))) ?_
        exact rm_t3 hw G p0 p1 p2 p3 p4 p5 (b1053) (k1053) (r_1305) (r_1311) (p1) ((0 : Int32)) ((0 : Int32)) ((0 : Int32)) (One.val rfl) (One.val rfl) (One.val rfl) (One.val rfl) hx hby hml hown hret hlk hZ hS hk  C1341 e1340 (Stand.more X1340 (by decide) (by decide)) N1340 O1343 f1340 
      | n + 3, h => exact absurd h (by omega)
    · skip
      refine GoS.of (T' := T1325) (f' := (mkF m 181 #[iv p0, iv p1, iv p2, iv p3, iv p4, iv p5, rv b1053, iv 3, iv 4, rv c1303, iv ed, .unset] [(.int 2), (.int ed)])) (fun _ k => XS.icmpYes X1325.here hx rfl (pc0 := 149) (pc' := 178) rfl (D at_149) rfl (feq hc1331).2 (by decide) (by decide) (XS.iload X1325.here hx rfl (D at_178) rfl (XS.iconst X1325.here hx rfl (D at_180) k))) ?_
      by_cases hc1344 : ed = (2 : Int32)
      · skip
        refine GoS.of (T' := T1325) (f' := (mkF m 283 #[iv p0, iv p1, iv p2, iv p3, iv p4, iv p5, rv b1053, iv 2, iv 4, rv c1303, iv ed, .unset] [])) (fun _ k => XS.icmpNo X1325.here hx rfl (D at_181) rfl (teq hc1344).2 (XS.iload X1325.here hx rfl (D at_184) rfl (XS.iconst X1325.here hx rfl (D at_186) (XS.isub X1325.here hx rfl (D at_187) rfl (XS.istore X1325.here hx rfl (D at_188) rfl (l' := #[iv p0, iv p1, iv p2, iv p3, iv p4, iv p5, rv b1053, iv 2, iv 4, rv c1303, iv ed, .unset]) rfl (XS.goto X1325.here hx rfl (pc0 := 190) (pc' := 216) rfl (D at_190) (by decide) (by decide) (XS.goto X1325.here hx rfl (pc0 := 216) (pc' := 283) rfl (D at_216) (by decide) (by decide) k))))))) ?_
        exact rm_t2 hw G p0 p1 p2 p3 p4 p5 (b1053) (k1053) (r_1305) (r_1311) (r_1320) ((0 : Int32)) ((0 : Int32)) ((0 : Int32)) (One.val rfl) (One.val rfl) (One.val rfl) (One.u) hx hby hml hown hret hlk hZ hS hk  C1326 e1325 (Stand.more X1325 (by decide) (by decide)) N1325 O1328 f1325 
      · skip
        refine GoS.of (T' := T1325) (f' := (mkF m 196 #[iv p0, iv p1, iv p2, iv p3, iv p4, iv p5, rv b1053, iv 3, iv 4, rv c1303, iv ed, .unset] [(.int 3), (.int ed)])) (fun _ k => XS.icmpYes X1325.here hx rfl (pc0 := 181) (pc' := 193) rfl (D at_181) rfl (feq hc1344).2 (by decide) (by decide) (XS.iload X1325.here hx rfl (D at_193) rfl (XS.iconst X1325.here hx rfl (D at_195) k))) ?_
        by_cases hc1345 : ed = (3 : Int32)
        · skip
          obtain ⟨cl1346, Ar1346, qk1346, S1346, Ng1346, H1346, G1346⟩ := id f1325
          obtain ⟨T1346, h1346, X1346, e1346, W1346, st1346⟩ := stC X1325 hx hZ e1325 Ar1346 (j := (3 : Int32)) (inb_of S1346 ⟨by decide, by decide⟩) (g := (mkF m 209 #[iv p0, iv p1, iv p2, iv p3, iv p4, iv p5, rv b1053, iv 3, iv 4, rv c1303, iv ed, .unset] [(.int ((p1 &&& 255).toUInt32.toUInt16.toUInt32.toInt32)), (.int 3), (.ref b1053)])) rfl rfl (D at_209)
          have W1346 : Wr h1325 h1346 b1053 ((3 : Int32)).toNatClampNeg (.int (p1 &&& 255)) := Eq.mp (congrArg (fun z => Wr h1325 h1346 b1053 ((3 : Int32)).toNatClampNeg (Value.int z)) (own_c255 p1)) W1346
          have f1348 : Exa Z h1325 b1053 "[C" := (Exa.wr W1325 f1327)
          have O1349 := Old0.wr O1328 W1346 g_b1053
          have C1347 := CHr.trans C1326 (CHr.wr W1346 (Safe.exa hZ.alike f1348 (by decide) (by decide)) C1326.1)
          have hk := Nat.le_trans hk (Keep.of_wr W1346).1
          have f1346 : Arv Z h1346 b1053 k1053 .char (6 : Int32) [(.int (r_1305 &&& 255)), (.int (r_1311 &&& 255)), (.int (r_1320 &&& 255)), (.int (p1 &&& 255)), (.int 0), (.int 0)] (.int 0) := Arv.set Ar1346 qk1346 S1346 Ng1346 H1346 G1346 (v := (.int (p1 &&& 255))) (own_f255 p1) W1346 3 rfl (Nat.le_of_ble_eq_true rfl)
          have N1346 := Fr.snoc X1346 N1325 g_b1053
          refine GoS.of (T' := T1346) (f' := (mkF m 283 #[iv p0, iv p1, iv p2, iv p3, iv p4, iv p5, rv b1053, iv 4, iv 4, rv c1303, iv ed, .unset] [])) (fun _ k => XS.icmpNo X1325.here hx rfl (D at_196) rfl (teq hc1345).2 (XS.aload X1325.here hx rfl (D at_199) rfl rfl (XS.iload X1325.here hx rfl (D at_201) rfl (XS.iloadN X1325.here hx rfl (D at_203) rfl (XS.sipush X1325.here hx rfl (D at_204) (XS.iand X1325.here hx rfl (D at_207) rfl (XS.i2c X1325.here hx rfl (D at_208) rfl (st1346 _ (XS.iload X1346.here hx rfl (D at_210) rfl (XS.iconst X1346.here hx rfl (D at_212) (XS.iadd X1346.here hx rfl (D at_213) rfl (XS.istore X1346.here hx rfl (D at_214) rfl (l' := #[iv p0, iv p1, iv p2, iv p3, iv p4, iv p5, rv b1053, iv 4, iv 4, rv c1303, iv ed, .unset]) rfl (XS.goto X1346.here hx rfl (pc0 := 216) (pc' := 283) rfl (D at_216) (by decide) (by decide) k))))))))))))) ?_
          exact rm_t4 hw G p0 p1 p2 p3 p4 p5 (b1053) (k1053) (r_1305) (r_1311) (r_1320) (p1) ((0 : Int32)) ((0 : Int32)) (One.val rfl) (One.val rfl) (One.val rfl) (One.u) hx hby hml hown hret hlk hZ hS hk  C1347 e1346 (Stand.more X1346 (by decide) (by decide)) N1346 O1349 f1346 
        · skip
          refine GoS.of (T' := T1325) (f' := (mkF m 283 #[iv p0, iv p1, iv p2, iv p3, iv p4, iv p5, rv b1053, iv 3, iv 4, rv c1303, iv ed, .unset] [])) (fun _ k => XS.icmpYes X1325.here hx rfl (pc0 := 196) (pc' := 216) rfl (D at_196) rfl (feq hc1345).2 (by decide) (by decide) (XS.goto X1325.here hx rfl (pc0 := 216) (pc' := 283) rfl (D at_216) (by decide) (by decide) k)) ?_
          exact rm_t3 hw G p0 p1 p2 p3 p4 p5 (b1053) (k1053) (r_1305) (r_1311) (r_1320) ((0 : Int32)) ((0 : Int32)) ((0 : Int32)) (One.val rfl) (One.val rfl) (One.val rfl) (One.u) hx hby hml hown hret hlk hZ hS hk  C1326 e1325 (Stand.more X1325 (by decide) (by decide)) N1325 O1328 f1325 
  | 5, _ =>
    refine GoS.cast (f' := (mkF m 16 #[iv p0, iv p1, iv p2, iv p3, iv p4, iv p5, rv b1053, .unset, iv 5, .unset, .unset, .unset] [])) rfl ?_
    refine GoS.of (T' := T1053) (f' := (mkF m 226 #[iv p0, iv p1, iv p2, iv p3, iv p4, iv p5, rv b1053, .unset, iv 5, .unset, .unset, .unset] [(.int (((p0.toUInt32 >>> ((8 : Int32) &&& 31).toUInt32).toInt32) &&& (7 : Int32)))])) (fun _ k => XS.iload X1053.here hx rfl (D at_16) rfl (XS.iconst X1053.here hx rfl (D at_18) (XS.icmpYes X1053.here hx rfl (pc0 := 19) (pc' := 219) rfl (D at_19) rfl (flt (by decide : ¬ ((5 : Int32) < (5 : Int32)))).2.1 (by decide) (by decide) (XS.iloadN X1053.here hx rfl (D at_219) rfl (XS.bipush X1053.here hx rfl (D at_220) (XS.iushr X1053.here hx rfl (D at_222) rfl (XS.bipush X1053.here hx rfl (D at_223) (XS.iand X1053.here hx rfl (D at_225) rfl k)))))))) ?_
    generalize hpz : ((((p0.toUInt32 >>> ((8 : Int32) &&& 31).toUInt32).toInt32) &&& (7 : Int32)) : Int32) = pz
    obtain ⟨j, hj, hje⟩ := own_mod pz (hpz ▸ own_and0 _ _ (by decide)) 6 6 (by decide) (by decide)
    refine GoS.of (T' := T1053) (f' := (mkF m 231 #[iv p0, iv p1, iv p2, iv p3, iv p4, iv p5, rv b1053, iv (pz % (6 : Int32)), iv 5, .unset, .unset, .unset] [])) (fun _ k => XS.bipush X1053.here hx rfl (D at_226) (iremM X1053 hx rfl (D at_228) rfl (by decide) (XS.istore X1053.here hx rfl (D at_229) rfl (l' := #[iv p0, iv p1, iv p2, iv p3, iv p4, iv p5, rv b1053, iv (pz % (6 : Int32)), iv 5, .unset, .unset, .unset]) rfl k))) ?_
    rw [hje]
    match j, hj with
    | 0, _ =>
      refine GoS.cast (f' := (mkF m 231 #[iv p0, iv p1, iv p2, iv p3, iv p4, iv p5, rv b1053, iv 0, iv 5, .unset, .unset, .unset] [])) rfl ?_
      obtain ⟨cl1351, Ar1351, qk1351, S1351, Ng1351, H1351, G1351⟩ := id f1056
      obtain ⟨T1351, h1351, X1351, e1351, W1351, st1351⟩ := stC X1053 hx hZ e1053 Ar1351 (j := (0 : Int32)) (inb_of S1351 ⟨by decide, by decide⟩) (g := (mkF m 240 #[iv p0, iv p1, iv p2, iv p3, iv p4, iv p5, rv b1053, iv 0, iv 5, .unset, .unset, .unset] [(.int ((p1 &&& 255).toUInt32.toUInt16.toUInt32.toInt32)), (.int 0), (.ref b1053)])) rfl rfl (D at_240)
      have W1351 : Wr h1053 h1351 b1053 ((0 : Int32)).toNatClampNeg (.int (p1 &&& 255)) := Eq.mp (congrArg (fun z => Wr h1053 h1351 b1053 ((0 : Int32)).toNatClampNeg (Value.int z)) (own_c255 p1)) W1351
      have O1353 := Old0.wr O1055 W1351 g_b1053
      have C1352 := CHr.trans C1054 (CHr.wr W1351 (Safe.exa hZ.alike A1053 (by decide) (by decide)) C1054.1)
      have hk := Nat.le_trans hk (Keep.of_wr W1351).1
      have f1351 : Arv Z h1351 b1053 k1053 .char (6 : Int32) [(.int (p1 &&& 255)), (.int 0), (.int 0), (.int 0), (.int 0), (.int 0)] (.int 0) := Arv.set Ar1351 qk1351 S1351 Ng1351 H1351 G1351 (v := (.int (p1 &&& 255))) (own_f255 p1) W1351 0 rfl (Nat.le_of_ble_eq_true rfl)
      have N1351 := Fr.snoc X1351 N0 g_b1053
      obtain ⟨cl1354, Ar1354, qk1354, S1354, Ng1354, H1354, G1354⟩ := id f1351
      obtain ⟨T1354, h1354, X1354, e1354, W1354, st1354⟩ := stC X1351 hx hZ e1351 Ar1354 (j := (1 : Int32)) (inb_of S1354 ⟨by decide, by decide⟩) (g := (mkF m 250 #[iv p0, iv p1, iv p2, iv p3, iv p4, iv p5, rv b1053, iv 0, iv 5, .unset, .unset, .unset] [(.int ((p2 &&& 255).toUInt32.toUInt16.toUInt32.toInt32)), (.int 1), (.ref b1053)])) rfl rfl (D at_250)
      have W1354 : Wr h1351 h1354 b1053 ((1 : Int32)).toNatClampNeg (.int (p2 &&& 255)) := Eq.mp (congrArg (fun z => Wr h1351 h1354 b1053 ((1 : Int32)).toNatClampNeg (Value.int z)) (own_c255 p2)) W1354
      have f1356 : Exa Z h1351 b1053 "[C" := (Exa.wr W1351 A1053)
      have O1357 := Old0.wr O1353 W1354 g_b1053
      have C1355 := CHr.trans C1352 (CHr.wr W1354 (Safe.exa hZ.alike f1356 (by decide) (by decide)) C1352.1)
      have hk := Nat.le_trans hk (Keep.of_wr W1354).1
      have f1354 : Arv Z h1354 b1053 k1053 .char (6 : Int32) [(.int (p1 &&& 255)), (.int (p2 &&& 255)), (.int 0), (.int 0), (.int 0), (.int 0)] (.int 0) := Arv.set Ar1354 qk1354 S1354 Ng1354 H1354 G1354 (v := (.int (p2 &&& 255))) (own_f255 p2) W1354 1 rfl (Nat.le_of_ble_eq_true rfl)
      have N1354 := Fr.snoc X1354 N1351 g_b1053
      obtain ⟨cl1358, Ar1358, qk1358, S1358, Ng1358, H1358, G1358⟩ := id f1354
      obtain ⟨T1358, h1358, X1358, e1358, W1358, st1358⟩ := stC X1354 hx hZ e1354 Ar1358 (j := (2 : Int32)) (inb_of S1358 ⟨by decide, by decide⟩) (g := (mkF m 260 #[iv p0, iv p1, iv p2, iv p3, iv p4, iv p5, rv b1053, iv 0, iv 5, .unset, .unset, .unset] [(.int ((p3 &&& 255).toUInt32.toUInt16.toUInt32.toInt32)), (.int 2), (.ref b1053)])) rfl rfl (D at_260)
      have W1358 : Wr h1354 h1358 b1053 ((2 : Int32)).toNatClampNeg (.int (p3 &&& 255)) := Eq.mp (congrArg (fun z => Wr h1354 h1358 b1053 ((2 : Int32)).toNatClampNeg (Value.int z)) (own_c255 p3)) W1358
      have f1360 : Exa Z h1354 b1053 "[C" := (Exa.wr W1354 f1356)
      have O1361 := Old0.wr O1357 W1358 g_b1053
      have C1359 := CHr.trans C1355 (CHr.wr W1358 (Safe.exa hZ.alike f1360 (by decide) (by decide)) C1355.1)
      have hk := Nat.le_trans hk (Keep.of_wr W1358).1
      have f1358 : Arv Z h1358 b1053 k1053 .char (6 : Int32) [(.int (p1 &&& 255)), (.int (p2 &&& 255)), (.int (p3 &&& 255)), (.int 0), (.int 0), (.int 0)] (.int 0) := Arv.set Ar1358 qk1358 S1358 Ng1358 H1358 G1358 (v := (.int (p3 &&& 255))) (own_f255 p3) W1358 2 rfl (Nat.le_of_ble_eq_true rfl)
      have N1358 := Fr.snoc X1358 N1354 g_b1053
      refine GoS.of (T' := T1358) (f' := (mkF m 266 #[iv p0, iv p1, iv p2, iv p3, iv p4, iv p5, rv b1053, iv 0, iv 5, .unset, .unset, .unset] [(.int p4), (.int 3), (.ref b1053)])) (fun _ k => XS.aload X1053.here hx rfl (D at_231) rfl rfl (XS.iconst X1053.here hx rfl (D at_233) (XS.iloadN X1053.here hx rfl (D at_234) rfl (XS.sipush X1053.here hx rfl (D at_235) (XS.iand X1053.here hx rfl (D at_238) rfl (XS.i2c X1053.here hx rfl (D at_239) rfl (st1351 _ (XS.aload X1351.here hx rfl (D at_241) rfl rfl (XS.iconst X1351.here hx rfl (D at_243) (XS.iloadN X1351.here hx rfl (D at_244) rfl (XS.sipush X1351.here hx rfl (D at_245) (XS.iand X1351.here hx rfl (D at_248) rfl (XS.i2c X1351.here hx rfl (D at_249) rfl (st1354 _ (XS.aload X1354.here hx rfl (D at_251) rfl rfl (XS.iconst X1354.here hx rfl (D at_253) (XS.iloadN X1354.here hx rfl (D at_254) rfl (XS.sipush X1354.here hx rfl (D at_255) (XS.iand X1354.here hx rfl (D at_258) rfl (XS.i2c X1354.here hx rfl (D at_259) rfl (st1358 _ (XS.aload X1358.here hx rfl (D at_261) rfl rfl (XS.iconst X1358.here hx rfl (D at_263) (XS.iload X1358.here hx rfl (D at_264) rfl k)))))))))))))))))))))))) ?_
      obtain ⟨cl1362, Ar1362, qk1362, S1362, Ng1362, H1362, G1362⟩ := id f1358
      obtain ⟨T1362, h1362, X1362, e1362, W1362, st1362⟩ := stC X1358 hx hZ e1358 Ar1362 (j := (3 : Int32)) (inb_of S1362 ⟨by decide, by decide⟩) (g := (mkF m 271 #[iv p0, iv p1, iv p2, iv p3, iv p4, iv p5, rv b1053, iv 0, iv 5, .unset, .unset, .unset] [(.int ((p4 &&& 255).toUInt32.toUInt16.toUInt32.toInt32)), (.int 3), (.ref b1053)])) rfl rfl (D at_271)
      have W1362 : Wr h1358 h1362 b1053 ((3 : Int32)).toNatClampNeg (.int (p4 &&& 255)) := Eq.mp (congrArg (fun z => Wr h1358 h1362 b1053 ((3 : Int32)).toNatClampNeg (Value.int z)) (own_c255 p4)) W1362
      have f1364 : Exa Z h1358 b1053 "[C" := (Exa.wr W1358 f1360)
      have O1365 := Old0.wr O1361 W1362 g_b1053
      have C1363 := CHr.trans C1359 (CHr.wr W1362 (Safe.exa hZ.alike f1364 (by decide) (by decide)) C1359.1)
      have hk := Nat.le_trans hk (Keep.of_wr W1362).1
      have f1362 : Arv Z h1362 b1053 k1053 .char (6 : Int32) [(.int (p1 &&& 255)), (.int (p2 &&& 255)), (.int (p3 &&& 255)), (.int (p4 &&& 255)), (.int 0), (.int 0)] (.int 0) := Arv.set Ar1362 qk1362 S1362 Ng1362 H1362 G1362 (v := (.int (p4 &&& 255))) (own_f255 p4) W1362 3 rfl (Nat.le_of_ble_eq_true rfl)
      have N1362 := Fr.snoc X1362 N1358 g_b1053
      obtain ⟨cl1366, Ar1366, qk1366, S1366, Ng1366, H1366, G1366⟩ := id f1362
      obtain ⟨T1366, h1366, X1366, e1366, W1366, st1366⟩ := stC X1362 hx hZ e1362 Ar1366 (j := (4 : Int32)) (inb_of S1366 ⟨by decide, by decide⟩) (g := (mkF m 282 #[iv p0, iv p1, iv p2, iv p3, iv p4, iv p5, rv b1053, iv 0, iv 5, .unset, .unset, .unset] [(.int ((p5 &&& 255).toUInt32.toUInt16.toUInt32.toInt32)), (.int 4), (.ref b1053)])) rfl rfl (D at_282)
      have W1366 : Wr h1362 h1366 b1053 ((4 : Int32)).toNatClampNeg (.int (p5 &&& 255)) := Eq.mp (congrArg (fun z => Wr h1362 h1366 b1053 ((4 : Int32)).toNatClampNeg (Value.int z)) (own_c255 p5)) W1366
      have f1368 : Exa Z h1362 b1053 "[C" := (Exa.wr W1362 f1364)
      have O1369 := Old0.wr O1365 W1366 g_b1053
      have C1367 := CHr.trans C1363 (CHr.wr W1366 (Safe.exa hZ.alike f1368 (by decide) (by decide)) C1363.1)
      have hk := Nat.le_trans hk (Keep.of_wr W1366).1
      have f1366 : Arv Z h1366 b1053 k1053 .char (6 : Int32) [(.int (p1 &&& 255)), (.int (p2 &&& 255)), (.int (p3 &&& 255)), (.int (p4 &&& 255)), (.int (p5 &&& 255)), (.int 0)] (.int 0) := Arv.set Ar1366 qk1366 S1366 Ng1366 H1366 G1366 (v := (.int (p5 &&& 255))) (own_f255 p5) W1366 4 rfl (Nat.le_of_ble_eq_true rfl)
      have N1366 := Fr.snoc X1366 N1362 g_b1053
      refine GoS.of (T' := T1366) (f' := (mkF m 283 #[iv p0, iv p1, iv p2, iv p3, iv p4, iv p5, rv b1053, iv 0, iv 5, .unset, .unset, .unset] [])) (fun _ k => XS.sipush X1358.here hx rfl (D at_266) (XS.iand X1358.here hx rfl (D at_269) rfl (XS.i2c X1358.here hx rfl (D at_270) rfl (st1362 _ (XS.aload X1362.here hx rfl (D at_272) rfl rfl (XS.iconst X1362.here hx rfl (D at_274) (XS.iload X1362.here hx rfl (D at_275) rfl (XS.sipush X1362.here hx rfl (D at_277) (XS.iand X1362.here hx rfl (D at_280) rfl (XS.i2c X1362.here hx rfl (D at_281) rfl (st1366 _ k))))))))))) ?_
      exact rm_t0 hw G p0 p1 p2 p3 p4 p5 (b1053) (k1053) (p1) (p2) (p3) (p4) (p5) ((0 : Int32)) (One.val rfl) (One.u) (One.u) (One.u) hx hby hml hown hret hlk hZ hS hk  C1367 e1366 (Stand.more X1366 (by decide) (by decide)) N1366 O1369 f1366 
    | 1, _ =>
      refine GoS.cast (f' := (mkF m 231 #[iv p0, iv p1, iv p2, iv p3, iv p4, iv p5, rv b1053, iv 1, iv 5, .unset, .unset, .unset] [])) rfl ?_
      obtain ⟨cl1370, Ar1370, qk1370, S1370, Ng1370, H1370, G1370⟩ := id f1056
      obtain ⟨T1370, h1370, X1370, e1370, W1370, st1370⟩ := stC X1053 hx hZ e1053 Ar1370 (j := (0 : Int32)) (inb_of S1370 ⟨by decide, by decide⟩) (g := (mkF m 240 #[iv p0, iv p1, iv p2, iv p3, iv p4, iv p5, rv b1053, iv 1, iv 5, .unset, .unset, .unset] [(.int ((p1 &&& 255).toUInt32.toUInt16.toUInt32.toInt32)), (.int 0), (.ref b1053)])) rfl rfl (D at_240)
      have W1370 : Wr h1053 h1370 b1053 ((0 : Int32)).toNatClampNeg (.int (p1 &&& 255)) := Eq.mp (congrArg (fun z => Wr h1053 h1370 b1053 ((0 : Int32)).toNatClampNeg (Value.int z)) (own_c255 p1)) W1370
      have O1372 := Old0.wr O1055 W1370 g_b1053
      have C1371 := CHr.trans C1054 (CHr.wr W1370 (Safe.exa hZ.alike A1053 (by decide) (by decide)) C1054.1)
      have hk := Nat.le_trans hk (Keep.of_wr W1370).1
      have f1370 : Arv Z h1370 b1053 k1053 .char (6 : Int32) [(.int (p1 &&& 255)), (.int 0), (.int 0), (.int 0), (.int 0), (.int 0)] (.int 0) := Arv.set Ar1370 qk1370 S1370 Ng1370 H1370 G1370 (v := (.int (p1 &&& 255))) (own_f255 p1) W1370 0 rfl (Nat.le_of_ble_eq_true rfl)
      have N1370 := Fr.snoc X1370 N0 g_b1053
      obtain ⟨cl1373, Ar1373, qk1373, S1373, Ng1373, H1373, G1373⟩ := id f1370
      obtain ⟨T1373, h1373, X1373, e1373, W1373, st1373⟩ := stC X1370 hx hZ e1370 Ar1373 (j := (1 : Int32)) (inb_of S1373 ⟨by decide, by decide⟩) (g := (mkF m 250 #[iv p0, iv p1, iv p2, iv p3, iv p4, iv p5, rv b1053, iv 1, iv 5, .unset, .unset, .unset] [(.int ((p2 &&& 255).toUInt32.toUInt16.toUInt32.toInt32)), (.int 1), (.ref b1053)])) rfl rfl (D at_250)
      have W1373 : Wr h1370 h1373 b1053 ((1 : Int32)).toNatClampNeg (.int (p2 &&& 255)) := Eq.mp (congrArg (fun z => Wr h1370 h1373 b1053 ((1 : Int32)).toNatClampNeg (Value.int z)) (own_c255 p2)) W1373
      have f1375 : Exa Z h1370 b1053 "[C" := (Exa.wr W1370 A1053)
      have O1376 := Old0.wr O1372 W1373 g_b1053
      have C1374 := CHr.trans C1371 (CHr.wr W1373 (Safe.exa hZ.alike f1375 (by decide) (by decide)) C1371.1)
      have hk := Nat.le_trans hk (Keep.of_wr W1373).1
      have f1373 : Arv Z h1373 b1053 k1053 .char (6 : Int32) [(.int (p1 &&& 255)), (.int (p2 &&& 255)), (.int 0), (.int 0), (.int 0), (.int 0)] (.int 0) := Arv.set Ar1373 qk1373 S1373 Ng1373 H1373 G1373 (v := (.int (p2 &&& 255))) (own_f255 p2) W1373 1 rfl (Nat.le_of_ble_eq_true rfl)
      have N1373 := Fr.snoc X1373 N1370 g_b1053
      obtain ⟨cl1377, Ar1377, qk1377, S1377, Ng1377, H1377, G1377⟩ := id f1373
      obtain ⟨T1377, h1377, X1377, e1377, W1377, st1377⟩ := stC X1373 hx hZ e1373 Ar1377 (j := (2 : Int32)) (inb_of S1377 ⟨by decide, by decide⟩) (g := (mkF m 260 #[iv p0, iv p1, iv p2, iv p3, iv p4, iv p5, rv b1053, iv 1, iv 5, .unset, .unset, .unset] [(.int ((p3 &&& 255).toUInt32.toUInt16.toUInt32.toInt32)), (.int 2), (.ref b1053)])) rfl rfl (D at_260)
      have W1377 : Wr h1373 h1377 b1053 ((2 : Int32)).toNatClampNeg (.int (p3 &&& 255)) := Eq.mp (congrArg (fun z => Wr h1373 h1377 b1053 ((2 : Int32)).toNatClampNeg (Value.int z)) (own_c255 p3)) W1377
      have f1379 : Exa Z h1373 b1053 "[C" := (Exa.wr W1373 f1375)
      have O1380 := Old0.wr O1376 W1377 g_b1053
      have C1378 := CHr.trans C1374 (CHr.wr W1377 (Safe.exa hZ.alike f1379 (by decide) (by decide)) C1374.1)
      have hk := Nat.le_trans hk (Keep.of_wr W1377).1
      have f1377 : Arv Z h1377 b1053 k1053 .char (6 : Int32) [(.int (p1 &&& 255)), (.int (p2 &&& 255)), (.int (p3 &&& 255)), (.int 0), (.int 0), (.int 0)] (.int 0) := Arv.set Ar1377 qk1377 S1377 Ng1377 H1377 G1377 (v := (.int (p3 &&& 255))) (own_f255 p3) W1377 2 rfl (Nat.le_of_ble_eq_true rfl)
      have N1377 := Fr.snoc X1377 N1373 g_b1053
      refine GoS.of (T' := T1377) (f' := (mkF m 266 #[iv p0, iv p1, iv p2, iv p3, iv p4, iv p5, rv b1053, iv 1, iv 5, .unset, .unset, .unset] [(.int p4), (.int 3), (.ref b1053)])) (fun _ k => XS.aload X1053.here hx rfl (D at_231) rfl rfl (XS.iconst X1053.here hx rfl (D at_233) (XS.iloadN X1053.here hx rfl (D at_234) rfl (XS.sipush X1053.here hx rfl (D at_235) (XS.iand X1053.here hx rfl (D at_238) rfl (XS.i2c X1053.here hx rfl (D at_239) rfl (st1370 _ (XS.aload X1370.here hx rfl (D at_241) rfl rfl (XS.iconst X1370.here hx rfl (D at_243) (XS.iloadN X1370.here hx rfl (D at_244) rfl (XS.sipush X1370.here hx rfl (D at_245) (XS.iand X1370.here hx rfl (D at_248) rfl (XS.i2c X1370.here hx rfl (D at_249) rfl (st1373 _ (XS.aload X1373.here hx rfl (D at_251) rfl rfl (XS.iconst X1373.here hx rfl (D at_253) (XS.iloadN X1373.here hx rfl (D at_254) rfl (XS.sipush X1373.here hx rfl (D at_255) (XS.iand X1373.here hx rfl (D at_258) rfl (XS.i2c X1373.here hx rfl (D at_259) rfl (st1377 _ (XS.aload X1377.here hx rfl (D at_261) rfl rfl (XS.iconst X1377.here hx rfl (D at_263) (XS.iload X1377.here hx rfl (D at_264) rfl k)))))))))))))))))))))))) ?_
      obtain ⟨cl1381, Ar1381, qk1381, S1381, Ng1381, H1381, G1381⟩ := id f1377
      obtain ⟨T1381, h1381, X1381, e1381, W1381, st1381⟩ := stC X1377 hx hZ e1377 Ar1381 (j := (3 : Int32)) (inb_of S1381 ⟨by decide, by decide⟩) (g := (mkF m 271 #[iv p0, iv p1, iv p2, iv p3, iv p4, iv p5, rv b1053, iv 1, iv 5, .unset, .unset, .unset] [(.int ((p4 &&& 255).toUInt32.toUInt16.toUInt32.toInt32)), (.int 3), (.ref b1053)])) rfl rfl (D at_271)
      have W1381 : Wr h1377 h1381 b1053 ((3 : Int32)).toNatClampNeg (.int (p4 &&& 255)) := Eq.mp (congrArg (fun z => Wr h1377 h1381 b1053 ((3 : Int32)).toNatClampNeg (Value.int z)) (own_c255 p4)) W1381
      have f1383 : Exa Z h1377 b1053 "[C" := (Exa.wr W1377 f1379)
      have O1384 := Old0.wr O1380 W1381 g_b1053
      have C1382 := CHr.trans C1378 (CHr.wr W1381 (Safe.exa hZ.alike f1383 (by decide) (by decide)) C1378.1)
      have hk := Nat.le_trans hk (Keep.of_wr W1381).1
      have f1381 : Arv Z h1381 b1053 k1053 .char (6 : Int32) [(.int (p1 &&& 255)), (.int (p2 &&& 255)), (.int (p3 &&& 255)), (.int (p4 &&& 255)), (.int 0), (.int 0)] (.int 0) := Arv.set Ar1381 qk1381 S1381 Ng1381 H1381 G1381 (v := (.int (p4 &&& 255))) (own_f255 p4) W1381 3 rfl (Nat.le_of_ble_eq_true rfl)
      have N1381 := Fr.snoc X1381 N1377 g_b1053
      obtain ⟨cl1385, Ar1385, qk1385, S1385, Ng1385, H1385, G1385⟩ := id f1381
      obtain ⟨T1385, h1385, X1385, e1385, W1385, st1385⟩ := stC X1381 hx hZ e1381 Ar1385 (j := (4 : Int32)) (inb_of S1385 ⟨by decide, by decide⟩) (g := (mkF m 282 #[iv p0, iv p1, iv p2, iv p3, iv p4, iv p5, rv b1053, iv 1, iv 5, .unset, .unset, .unset] [(.int ((p5 &&& 255).toUInt32.toUInt16.toUInt32.toInt32)), (.int 4), (.ref b1053)])) rfl rfl (D at_282)
      have W1385 : Wr h1381 h1385 b1053 ((4 : Int32)).toNatClampNeg (.int (p5 &&& 255)) := Eq.mp (congrArg (fun z => Wr h1381 h1385 b1053 ((4 : Int32)).toNatClampNeg (Value.int z)) (own_c255 p5)) W1385
      have f1387 : Exa Z h1381 b1053 "[C" := (Exa.wr W1381 f1383)
      have O1388 := Old0.wr O1384 W1385 g_b1053
      have C1386 := CHr.trans C1382 (CHr.wr W1385 (Safe.exa hZ.alike f1387 (by decide) (by decide)) C1382.1)
      have hk := Nat.le_trans hk (Keep.of_wr W1385).1
      have f1385 : Arv Z h1385 b1053 k1053 .char (6 : Int32) [(.int (p1 &&& 255)), (.int (p2 &&& 255)), (.int (p3 &&& 255)), (.int (p4 &&& 255)), (.int (p5 &&& 255)), (.int 0)] (.int 0) := Arv.set Ar1385 qk1385 S1385 Ng1385 H1385 G1385 (v := (.int (p5 &&& 255))) (own_f255 p5) W1385 4 rfl (Nat.le_of_ble_eq_true rfl)
      have N1385 := Fr.snoc X1385 N1381 g_b1053
      refine GoS.of (T' := T1385) (f' := (mkF m 283 #[iv p0, iv p1, iv p2, iv p3, iv p4, iv p5, rv b1053, iv 1, iv 5, .unset, .unset, .unset] [])) (fun _ k => XS.sipush X1377.here hx rfl (D at_266) (XS.iand X1377.here hx rfl (D at_269) rfl (XS.i2c X1377.here hx rfl (D at_270) rfl (st1381 _ (XS.aload X1381.here hx rfl (D at_272) rfl rfl (XS.iconst X1381.here hx rfl (D at_274) (XS.iload X1381.here hx rfl (D at_275) rfl (XS.sipush X1381.here hx rfl (D at_277) (XS.iand X1381.here hx rfl (D at_280) rfl (XS.i2c X1381.here hx rfl (D at_281) rfl (st1385 _ k))))))))))) ?_
      exact rm_t1 hw G p0 p1 p2 p3 p4 p5 (b1053) (k1053) (p1) (p2) (p3) (p4) (p5) ((0 : Int32)) (One.val rfl) (One.u) (One.u) (One.u) hx hby hml hown hret hlk hZ hS hk  C1386 e1385 (Stand.more X1385 (by decide) (by decide)) N1385 O1388 f1385 
    | 2, _ =>
      refine GoS.cast (f' := (mkF m 231 #[iv p0, iv p1, iv p2, iv p3, iv p4, iv p5, rv b1053, iv 2, iv 5, .unset, .unset, .unset] [])) rfl ?_
      obtain ⟨cl1389, Ar1389, qk1389, S1389, Ng1389, H1389, G1389⟩ := id f1056
      obtain ⟨T1389, h1389, X1389, e1389, W1389, st1389⟩ := stC X1053 hx hZ e1053 Ar1389 (j := (0 : Int32)) (inb_of S1389 ⟨by decide, by decide⟩) (g := (mkF m 240 #[iv p0, iv p1, iv p2, iv p3, iv p4, iv p5, rv b1053, iv 2, iv 5, .unset, .unset, .unset] [(.int ((p1 &&& 255).toUInt32.toUInt16.toUInt32.toInt32)), (.int 0), (.ref b1053)])) rfl rfl (D at_240)
      have W1389 : Wr h1053 h1389 b1053 ((0 : Int32)).toNatClampNeg (.int (p1 &&& 255)) := Eq.mp (congrArg (fun z => Wr h1053 h1389 b1053 ((0 : Int32)).toNatClampNeg (Value.int z)) (own_c255 p1)) W1389
      have O1391 := Old0.wr O1055 W1389 g_b1053
      have C1390 := CHr.trans C1054 (CHr.wr W1389 (Safe.exa hZ.alike A1053 (by decide) (by decide)) C1054.1)
      have hk := Nat.le_trans hk (Keep.of_wr W1389).1
      have f1389 : Arv Z h1389 b1053 k1053 .char (6 : Int32) [(.int (p1 &&& 255)), (.int 0), (.int 0), (.int 0), (.int 0), (.int 0)] (.int 0) := Arv.set Ar1389 qk1389 S1389 Ng1389 H1389 G1389 (v := (.int (p1 &&& 255))) (own_f255 p1) W1389 0 rfl (Nat.le_of_ble_eq_true rfl)
      have N1389 := Fr.snoc X1389 N0 g_b1053
      obtain ⟨cl1392, Ar1392, qk1392, S1392, Ng1392, H1392, G1392⟩ := id f1389
      obtain ⟨T1392, h1392, X1392, e1392, W1392, st1392⟩ := stC X1389 hx hZ e1389 Ar1392 (j := (1 : Int32)) (inb_of S1392 ⟨by decide, by decide⟩) (g := (mkF m 250 #[iv p0, iv p1, iv p2, iv p3, iv p4, iv p5, rv b1053, iv 2, iv 5, .unset, .unset, .unset] [(.int ((p2 &&& 255).toUInt32.toUInt16.toUInt32.toInt32)), (.int 1), (.ref b1053)])) rfl rfl (D at_250)
      have W1392 : Wr h1389 h1392 b1053 ((1 : Int32)).toNatClampNeg (.int (p2 &&& 255)) := Eq.mp (congrArg (fun z => Wr h1389 h1392 b1053 ((1 : Int32)).toNatClampNeg (Value.int z)) (own_c255 p2)) W1392
      have f1394 : Exa Z h1389 b1053 "[C" := (Exa.wr W1389 A1053)
      have O1395 := Old0.wr O1391 W1392 g_b1053
      have C1393 := CHr.trans C1390 (CHr.wr W1392 (Safe.exa hZ.alike f1394 (by decide) (by decide)) C1390.1)
      have hk := Nat.le_trans hk (Keep.of_wr W1392).1
      have f1392 : Arv Z h1392 b1053 k1053 .char (6 : Int32) [(.int (p1 &&& 255)), (.int (p2 &&& 255)), (.int 0), (.int 0), (.int 0), (.int 0)] (.int 0) := Arv.set Ar1392 qk1392 S1392 Ng1392 H1392 G1392 (v := (.int (p2 &&& 255))) (own_f255 p2) W1392 1 rfl (Nat.le_of_ble_eq_true rfl)
      have N1392 := Fr.snoc X1392 N1389 g_b1053
      obtain ⟨cl1396, Ar1396, qk1396, S1396, Ng1396, H1396, G1396⟩ := id f1392
      obtain ⟨T1396, h1396, X1396, e1396, W1396, st1396⟩ := stC X1392 hx hZ e1392 Ar1396 (j := (2 : Int32)) (inb_of S1396 ⟨by decide, by decide⟩) (g := (mkF m 260 #[iv p0, iv p1, iv p2, iv p3, iv p4, iv p5, rv b1053, iv 2, iv 5, .unset, .unset, .unset] [(.int ((p3 &&& 255).toUInt32.toUInt16.toUInt32.toInt32)), (.int 2), (.ref b1053)])) rfl rfl (D at_260)
      have W1396 : Wr h1392 h1396 b1053 ((2 : Int32)).toNatClampNeg (.int (p3 &&& 255)) := Eq.mp (congrArg (fun z => Wr h1392 h1396 b1053 ((2 : Int32)).toNatClampNeg (Value.int z)) (own_c255 p3)) W1396
      have f1398 : Exa Z h1392 b1053 "[C" := (Exa.wr W1392 f1394)
      have O1399 := Old0.wr O1395 W1396 g_b1053
      have C1397 := CHr.trans C1393 (CHr.wr W1396 (Safe.exa hZ.alike f1398 (by decide) (by decide)) C1393.1)
      have hk := Nat.le_trans hk (Keep.of_wr W1396).1
      have f1396 : Arv Z h1396 b1053 k1053 .char (6 : Int32) [(.int (p1 &&& 255)), (.int (p2 &&& 255)), (.int (p3 &&& 255)), (.int 0), (.int 0), (.int 0)] (.int 0) := Arv.set Ar1396 qk1396 S1396 Ng1396 H1396 G1396 (v := (.int (p3 &&& 255))) (own_f255 p3) W1396 2 rfl (Nat.le_of_ble_eq_true rfl)
      have N1396 := Fr.snoc X1396 N1392 g_b1053
      refine GoS.of (T' := T1396) (f' := (mkF m 266 #[iv p0, iv p1, iv p2, iv p3, iv p4, iv p5, rv b1053, iv 2, iv 5, .unset, .unset, .unset] [(.int p4), (.int 3), (.ref b1053)])) (fun _ k => XS.aload X1053.here hx rfl (D at_231) rfl rfl (XS.iconst X1053.here hx rfl (D at_233) (XS.iloadN X1053.here hx rfl (D at_234) rfl (XS.sipush X1053.here hx rfl (D at_235) (XS.iand X1053.here hx rfl (D at_238) rfl (XS.i2c X1053.here hx rfl (D at_239) rfl (st1389 _ (XS.aload X1389.here hx rfl (D at_241) rfl rfl (XS.iconst X1389.here hx rfl (D at_243) (XS.iloadN X1389.here hx rfl (D at_244) rfl (XS.sipush X1389.here hx rfl (D at_245) (XS.iand X1389.here hx rfl (D at_248) rfl (XS.i2c X1389.here hx rfl (D at_249) rfl (st1392 _ (XS.aload X1392.here hx rfl (D at_251) rfl rfl (XS.iconst X1392.here hx rfl (D at_253) (XS.iloadN X1392.here hx rfl (D at_254) rfl (XS.sipush X1392.here hx rfl (D at_255) (XS.iand X1392.here hx rfl (D at_258) rfl (XS.i2c X1392.here hx rfl (D at_259) rfl (st1396 _ (XS.aload X1396.here hx rfl (D at_261) rfl rfl (XS.iconst X1396.here hx rfl (D at_263) (XS.iload X1396.here hx rfl (D at_264) rfl k)))))))))))))))))))))))) ?_
      obtain ⟨cl1400, Ar1400, qk1400, S1400, Ng1400, H1400, G1400⟩ := id f1396
      obtain ⟨T1400, h1400, X1400, e1400, W1400, st1400⟩ := stC X1396 hx hZ e1396 Ar1400 (j := (3 : Int32)) (inb_of S1400 ⟨by decide, by decide⟩) (g := (mkF m 271 #[iv p0, iv p1, iv p2, iv p3, iv p4, iv p5, rv b1053, iv 2, iv 5, .unset, .unset, .unset] [(.int ((p4 &&& 255).toUInt32.toUInt16.toUInt32.toInt32)), (.int 3), (.ref b1053)])) rfl rfl (D at_271)
      have W1400 : Wr h1396 h1400 b1053 ((3 : Int32)).toNatClampNeg (.int (p4 &&& 255)) := Eq.mp (congrArg (fun z => Wr h1396 h1400 b1053 ((3 : Int32)).toNatClampNeg (Value.int z)) (own_c255 p4)) W1400
      have f1402 : Exa Z h1396 b1053 "[C" := (Exa.wr W1396 f1398)
      have O1403 := Old0.wr O1399 W1400 g_b1053
      have C1401 := CHr.trans C1397 (CHr.wr W1400 (Safe.exa hZ.alike f1402 (by decide) (by decide)) C1397.1)
      have hk := Nat.le_trans hk (Keep.of_wr W1400).1
      have f1400 : Arv Z h1400 b1053 k1053 .char (6 : Int32) [(.int (p1 &&& 255)), (.int (p2 &&& 255)), (.int (p3 &&& 255)), (.int (p4 &&& 255)), (.int 0), (.int 0)] (.int 0) := Arv.set Ar1400 qk1400 S1400 Ng1400 H1400 G1400 (v := (.int (p4 &&& 255))) (own_f255 p4) W1400 3 rfl (Nat.le_of_ble_eq_true rfl)
      have N1400 := Fr.snoc X1400 N1396 g_b1053
      obtain ⟨cl1404, Ar1404, qk1404, S1404, Ng1404, H1404, G1404⟩ := id f1400
      obtain ⟨T1404, h1404, X1404, e1404, W1404, st1404⟩ := stC X1400 hx hZ e1400 Ar1404 (j := (4 : Int32)) (inb_of S1404 ⟨by decide, by decide⟩) (g := (mkF m 282 #[iv p0, iv p1, iv p2, iv p3, iv p4, iv p5, rv b1053, iv 2, iv 5, .unset, .unset, .unset] [(.int ((p5 &&& 255).toUInt32.toUInt16.toUInt32.toInt32)), (.int 4), (.ref b1053)])) rfl rfl (D at_282)
      have W1404 : Wr h1400 h1404 b1053 ((4 : Int32)).toNatClampNeg (.int (p5 &&& 255)) := Eq.mp (congrArg (fun z => Wr h1400 h1404 b1053 ((4 : Int32)).toNatClampNeg (Value.int z)) (own_c255 p5)) W1404
      have f1406 : Exa Z h1400 b1053 "[C" := (Exa.wr W1400 f1402)
      have O1407 := Old0.wr O1403 W1404 g_b1053
      have C1405 := CHr.trans C1401 (CHr.wr W1404 (Safe.exa hZ.alike f1406 (by decide) (by decide)) C1401.1)
      have hk := Nat.le_trans hk (Keep.of_wr W1404).1
      have f1404 : Arv Z h1404 b1053 k1053 .char (6 : Int32) [(.int (p1 &&& 255)), (.int (p2 &&& 255)), (.int (p3 &&& 255)), (.int (p4 &&& 255)), (.int (p5 &&& 255)), (.int 0)] (.int 0) := Arv.set Ar1404 qk1404 S1404 Ng1404 H1404 G1404 (v := (.int (p5 &&& 255))) (own_f255 p5) W1404 4 rfl (Nat.le_of_ble_eq_true rfl)
      have N1404 := Fr.snoc X1404 N1400 g_b1053
      refine GoS.of (T' := T1404) (f' := (mkF m 283 #[iv p0, iv p1, iv p2, iv p3, iv p4, iv p5, rv b1053, iv 2, iv 5, .unset, .unset, .unset] [])) (fun _ k => XS.sipush X1396.here hx rfl (D at_266) (XS.iand X1396.here hx rfl (D at_269) rfl (XS.i2c X1396.here hx rfl (D at_270) rfl (st1400 _ (XS.aload X1400.here hx rfl (D at_272) rfl rfl (XS.iconst X1400.here hx rfl (D at_274) (XS.iload X1400.here hx rfl (D at_275) rfl (XS.sipush X1400.here hx rfl (D at_277) (XS.iand X1400.here hx rfl (D at_280) rfl (XS.i2c X1400.here hx rfl (D at_281) rfl (st1404 _ k))))))))))) ?_
      exact rm_t2 hw G p0 p1 p2 p3 p4 p5 (b1053) (k1053) (p1) (p2) (p3) (p4) (p5) ((0 : Int32)) (One.val rfl) (One.u) (One.u) (One.u) hx hby hml hown hret hlk hZ hS hk  C1405 e1404 (Stand.more X1404 (by decide) (by decide)) N1404 O1407 f1404 
    | 3, _ =>
      refine GoS.cast (f' := (mkF m 231 #[iv p0, iv p1, iv p2, iv p3, iv p4, iv p5, rv b1053, iv 3, iv 5, .unset, .unset, .unset] [])) rfl ?_
      obtain ⟨cl1408, Ar1408, qk1408, S1408, Ng1408, H1408, G1408⟩ := id f1056
      obtain ⟨T1408, h1408, X1408, e1408, W1408, st1408⟩ := stC X1053 hx hZ e1053 Ar1408 (j := (0 : Int32)) (inb_of S1408 ⟨by decide, by decide⟩) (g := (mkF m 240 #[iv p0, iv p1, iv p2, iv p3, iv p4, iv p5, rv b1053, iv 3, iv 5, .unset, .unset, .unset] [(.int ((p1 &&& 255).toUInt32.toUInt16.toUInt32.toInt32)), (.int 0), (.ref b1053)])) rfl rfl (D at_240)
      have W1408 : Wr h1053 h1408 b1053 ((0 : Int32)).toNatClampNeg (.int (p1 &&& 255)) := Eq.mp (congrArg (fun z => Wr h1053 h1408 b1053 ((0 : Int32)).toNatClampNeg (Value.int z)) (own_c255 p1)) W1408
      have O1410 := Old0.wr O1055 W1408 g_b1053
      have C1409 := CHr.trans C1054 (CHr.wr W1408 (Safe.exa hZ.alike A1053 (by decide) (by decide)) C1054.1)
      have hk := Nat.le_trans hk (Keep.of_wr W1408).1
      have f1408 : Arv Z h1408 b1053 k1053 .char (6 : Int32) [(.int (p1 &&& 255)), (.int 0), (.int 0), (.int 0), (.int 0), (.int 0)] (.int 0) := Arv.set Ar1408 qk1408 S1408 Ng1408 H1408 G1408 (v := (.int (p1 &&& 255))) (own_f255 p1) W1408 0 rfl (Nat.le_of_ble_eq_true rfl)
      have N1408 := Fr.snoc X1408 N0 g_b1053
      obtain ⟨cl1411, Ar1411, qk1411, S1411, Ng1411, H1411, G1411⟩ := id f1408
      obtain ⟨T1411, h1411, X1411, e1411, W1411, st1411⟩ := stC X1408 hx hZ e1408 Ar1411 (j := (1 : Int32)) (inb_of S1411 ⟨by decide, by decide⟩) (g := (mkF m 250 #[iv p0, iv p1, iv p2, iv p3, iv p4, iv p5, rv b1053, iv 3, iv 5, .unset, .unset, .unset] [(.int ((p2 &&& 255).toUInt32.toUInt16.toUInt32.toInt32)), (.int 1), (.ref b1053)])) rfl rfl (D at_250)
      have W1411 : Wr h1408 h1411 b1053 ((1 : Int32)).toNatClampNeg (.int (p2 &&& 255)) := Eq.mp (congrArg (fun z => Wr h1408 h1411 b1053 ((1 : Int32)).toNatClampNeg (Value.int z)) (own_c255 p2)) W1411
      have f1413 : Exa Z h1408 b1053 "[C" := (Exa.wr W1408 A1053)
      have O1414 := Old0.wr O1410 W1411 g_b1053
      have C1412 := CHr.trans C1409 (CHr.wr W1411 (Safe.exa hZ.alike f1413 (by decide) (by decide)) C1409.1)
      have hk := Nat.le_trans hk (Keep.of_wr W1411).1
      have f1411 : Arv Z h1411 b1053 k1053 .char (6 : Int32) [(.int (p1 &&& 255)), (.int (p2 &&& 255)), (.int 0), (.int 0), (.int 0), (.int 0)] (.int 0) := Arv.set Ar1411 qk1411 S1411 Ng1411 H1411 G1411 (v := (.int (p2 &&& 255))) (own_f255 p2) W1411 1 rfl (Nat.le_of_ble_eq_true rfl)
      have N1411 := Fr.snoc X1411 N1408 g_b1053
      obtain ⟨cl1415, Ar1415, qk1415, S1415, Ng1415, H1415, G1415⟩ := id f1411
      obtain ⟨T1415, h1415, X1415, e1415, W1415, st1415⟩ := stC X1411 hx hZ e1411 Ar1415 (j := (2 : Int32)) (inb_of S1415 ⟨by decide, by decide⟩) (g := (mkF m 260 #[iv p0, iv p1, iv p2, iv p3, iv p4, iv p5, rv b1053, iv 3, iv 5, .unset, .unset, .unset] [(.int ((p3 &&& 255).toUInt32.toUInt16.toUInt32.toInt32)), (.int 2), (.ref b1053)])) rfl rfl (D at_260)
      have W1415 : Wr h1411 h1415 b1053 ((2 : Int32)).toNatClampNeg (.int (p3 &&& 255)) := Eq.mp (congrArg (fun z => Wr h1411 h1415 b1053 ((2 : Int32)).toNatClampNeg (Value.int z)) (own_c255 p3)) W1415
      have f1417 : Exa Z h1411 b1053 "[C" := (Exa.wr W1411 f1413)
      have O1418 := Old0.wr O1414 W1415 g_b1053
      have C1416 := CHr.trans C1412 (CHr.wr W1415 (Safe.exa hZ.alike f1417 (by decide) (by decide)) C1412.1)
      have hk := Nat.le_trans hk (Keep.of_wr W1415).1
      have f1415 : Arv Z h1415 b1053 k1053 .char (6 : Int32) [(.int (p1 &&& 255)), (.int (p2 &&& 255)), (.int (p3 &&& 255)), (.int 0), (.int 0), (.int 0)] (.int 0) := Arv.set Ar1415 qk1415 S1415 Ng1415 H1415 G1415 (v := (.int (p3 &&& 255))) (own_f255 p3) W1415 2 rfl (Nat.le_of_ble_eq_true rfl)
      have N1415 := Fr.snoc X1415 N1411 g_b1053
      refine GoS.of (T' := T1415) (f' := (mkF m 266 #[iv p0, iv p1, iv p2, iv p3, iv p4, iv p5, rv b1053, iv 3, iv 5, .unset, .unset, .unset] [(.int p4), (.int 3), (.ref b1053)])) (fun _ k => XS.aload X1053.here hx rfl (D at_231) rfl rfl (XS.iconst X1053.here hx rfl (D at_233) (XS.iloadN X1053.here hx rfl (D at_234) rfl (XS.sipush X1053.here hx rfl (D at_235) (XS.iand X1053.here hx rfl (D at_238) rfl (XS.i2c X1053.here hx rfl (D at_239) rfl (st1408 _ (XS.aload X1408.here hx rfl (D at_241) rfl rfl (XS.iconst X1408.here hx rfl (D at_243) (XS.iloadN X1408.here hx rfl (D at_244) rfl (XS.sipush X1408.here hx rfl (D at_245) (XS.iand X1408.here hx rfl (D at_248) rfl (XS.i2c X1408.here hx rfl (D at_249) rfl (st1411 _ (XS.aload X1411.here hx rfl (D at_251) rfl rfl (XS.iconst X1411.here hx rfl (D at_253) (XS.iloadN X1411.here hx rfl (D at_254) rfl (XS.sipush X1411.here hx rfl (D at_255) (XS.iand X1411.here hx rfl (D at_258) rfl (XS.i2c X1411.here hx rfl (D at_259) rfl (st1415 _ (XS.aload X1415.here hx rfl (D at_261) rfl rfl (XS.iconst X1415.here hx rfl (D at_263) (XS.iload X1415.here hx rfl (D at_264) rfl k)))))))))))))))))))))))) ?_
      obtain ⟨cl1419, Ar1419, qk1419, S1419, Ng1419, H1419, G1419⟩ := id f1415
      obtain ⟨T1419, h1419, X1419, e1419, W1419, st1419⟩ := stC X1415 hx hZ e1415 Ar1419 (j := (3 : Int32)) (inb_of S1419 ⟨by decide, by decide⟩) (g := (mkF m 271 #[iv p0, iv p1, iv p2, iv p3, iv p4, iv p5, rv b1053, iv 3, iv 5, .unset, .unset, .unset] [(.int ((p4 &&& 255).toUInt32.toUInt16.toUInt32.toInt32)), (.int 3), (.ref b1053)])) rfl rfl (D at_271)
      have W1419 : Wr h1415 h1419 b1053 ((3 : Int32)).toNatClampNeg (.int (p4 &&& 255)) := Eq.mp (congrArg (fun z => Wr h1415 h1419 b1053 ((3 : Int32)).toNatClampNeg (Value.int z)) (own_c255 p4)) W1419
      have f1421 : Exa Z h1415 b1053 "[C" := (Exa.wr W1415 f1417)
      have O1422 := Old0.wr O1418 W1419 g_b1053
      have C1420 := CHr.trans C1416 (CHr.wr W1419 (Safe.exa hZ.alike f1421 (by decide) (by decide)) C1416.1)
      have hk := Nat.le_trans hk (Keep.of_wr W1419).1
      have f1419 : Arv Z h1419 b1053 k1053 .char (6 : Int32) [(.int (p1 &&& 255)), (.int (p2 &&& 255)), (.int (p3 &&& 255)), (.int (p4 &&& 255)), (.int 0), (.int 0)] (.int 0) := Arv.set Ar1419 qk1419 S1419 Ng1419 H1419 G1419 (v := (.int (p4 &&& 255))) (own_f255 p4) W1419 3 rfl (Nat.le_of_ble_eq_true rfl)
      have N1419 := Fr.snoc X1419 N1415 g_b1053
      obtain ⟨cl1423, Ar1423, qk1423, S1423, Ng1423, H1423, G1423⟩ := id f1419
      obtain ⟨T1423, h1423, X1423, e1423, W1423, st1423⟩ := stC X1419 hx hZ e1419 Ar1423 (j := (4 : Int32)) (inb_of S1423 ⟨by decide, by decide⟩) (g := (mkF m 282 #[iv p0, iv p1, iv p2, iv p3, iv p4, iv p5, rv b1053, iv 3, iv 5, .unset, .unset, .unset] [(.int ((p5 &&& 255).toUInt32.toUInt16.toUInt32.toInt32)), (.int 4), (.ref b1053)])) rfl rfl (D at_282)
      have W1423 : Wr h1419 h1423 b1053 ((4 : Int32)).toNatClampNeg (.int (p5 &&& 255)) := Eq.mp (congrArg (fun z => Wr h1419 h1423 b1053 ((4 : Int32)).toNatClampNeg (Value.int z)) (own_c255 p5)) W1423
      have f1425 : Exa Z h1419 b1053 "[C" := (Exa.wr W1419 f1421)
      have O1426 := Old0.wr O1422 W1423 g_b1053
      have C1424 := CHr.trans C1420 (CHr.wr W1423 (Safe.exa hZ.alike f1425 (by decide) (by decide)) C1420.1)
      have hk := Nat.le_trans hk (Keep.of_wr W1423).1
      have f1423 : Arv Z h1423 b1053 k1053 .char (6 : Int32) [(.int (p1 &&& 255)), (.int (p2 &&& 255)), (.int (p3 &&& 255)), (.int (p4 &&& 255)), (.int (p5 &&& 255)), (.int 0)] (.int 0) := Arv.set Ar1423 qk1423 S1423 Ng1423 H1423 G1423 (v := (.int (p5 &&& 255))) (own_f255 p5) W1423 4 rfl (Nat.le_of_ble_eq_true rfl)
      have N1423 := Fr.snoc X1423 N1419 g_b1053
      refine GoS.of (T' := T1423) (f' := (mkF m 283 #[iv p0, iv p1, iv p2, iv p3, iv p4, iv p5, rv b1053, iv 3, iv 5, .unset, .unset, .unset] [])) (fun _ k => XS.sipush X1415.here hx rfl (D at_266) (XS.iand X1415.here hx rfl (D at_269) rfl (XS.i2c X1415.here hx rfl (D at_270) rfl (st1419 _ (XS.aload X1419.here hx rfl (D at_272) rfl rfl (XS.iconst X1419.here hx rfl (D at_274) (XS.iload X1419.here hx rfl (D at_275) rfl (XS.sipush X1419.here hx rfl (D at_277) (XS.iand X1419.here hx rfl (D at_280) rfl (XS.i2c X1419.here hx rfl (D at_281) rfl (st1423 _ k))))))))))) ?_
      exact rm_t3 hw G p0 p1 p2 p3 p4 p5 (b1053) (k1053) (p1) (p2) (p3) (p4) (p5) ((0 : Int32)) (One.val rfl) (One.u) (One.u) (One.u) hx hby hml hown hret hlk hZ hS hk  C1424 e1423 (Stand.more X1423 (by decide) (by decide)) N1423 O1426 f1423 
    | 4, _ =>
      refine GoS.cast (f' := (mkF m 231 #[iv p0, iv p1, iv p2, iv p3, iv p4, iv p5, rv b1053, iv 4, iv 5, .unset, .unset, .unset] [])) rfl ?_
      obtain ⟨cl1427, Ar1427, qk1427, S1427, Ng1427, H1427, G1427⟩ := id f1056
      obtain ⟨T1427, h1427, X1427, e1427, W1427, st1427⟩ := stC X1053 hx hZ e1053 Ar1427 (j := (0 : Int32)) (inb_of S1427 ⟨by decide, by decide⟩) (g := (mkF m 240 #[iv p0, iv p1, iv p2, iv p3, iv p4, iv p5, rv b1053, iv 4, iv 5, .unset, .unset, .unset] [(.int ((p1 &&& 255).toUInt32.toUInt16.toUInt32.toInt32)), (.int 0), (.ref b1053)])) rfl rfl (D at_240)
      have W1427 : Wr h1053 h1427 b1053 ((0 : Int32)).toNatClampNeg (.int (p1 &&& 255)) := Eq.mp (congrArg (fun z => Wr h1053 h1427 b1053 ((0 : Int32)).toNatClampNeg (Value.int z)) (own_c255 p1)) W1427
      have O1429 := Old0.wr O1055 W1427 g_b1053
      have C1428 := CHr.trans C1054 (CHr.wr W1427 (Safe.exa hZ.alike A1053 (by decide) (by decide)) C1054.1)
      have hk := Nat.le_trans hk (Keep.of_wr W1427).1
      have f1427 : Arv Z h1427 b1053 k1053 .char (6 : Int32) [(.int (p1 &&& 255)), (.int 0), (.int 0), (.int 0), (.int 0), (.int 0)] (.int 0) := Arv.set Ar1427 qk1427 S1427 Ng1427 H1427 G1427 (v := (.int (p1 &&& 255))) (own_f255 p1) W1427 0 rfl (Nat.le_of_ble_eq_true rfl)
      have N1427 := Fr.snoc X1427 N0 g_b1053
      obtain ⟨cl1430, Ar1430, qk1430, S1430, Ng1430, H1430, G1430⟩ := id f1427
      obtain ⟨T1430, h1430, X1430, e1430, W1430, st1430⟩ := stC X1427 hx hZ e1427 Ar1430 (j := (1 : Int32)) (inb_of S1430 ⟨by decide, by decide⟩) (g := (mkF m 250 #[iv p0, iv p1, iv p2, iv p3, iv p4, iv p5, rv b1053, iv 4, iv 5, .unset, .unset, .unset] [(.int ((p2 &&& 255).toUInt32.toUInt16.toUInt32.toInt32)), (.int 1), (.ref b1053)])) rfl rfl (D at_250)
      have W1430 : Wr h1427 h1430 b1053 ((1 : Int32)).toNatClampNeg (.int (p2 &&& 255)) := Eq.mp (congrArg (fun z => Wr h1427 h1430 b1053 ((1 : Int32)).toNatClampNeg (Value.int z)) (own_c255 p2)) W1430
      have f1432 : Exa Z h1427 b1053 "[C" := (Exa.wr W1427 A1053)
      have O1433 := Old0.wr O1429 W1430 g_b1053
      have C1431 := CHr.trans C1428 (CHr.wr W1430 (Safe.exa hZ.alike f1432 (by decide) (by decide)) C1428.1)
      have hk := Nat.le_trans hk (Keep.of_wr W1430).1
      have f1430 : Arv Z h1430 b1053 k1053 .char (6 : Int32) [(.int (p1 &&& 255)), (.int (p2 &&& 255)), (.int 0), (.int 0), (.int 0), (.int 0)] (.int 0) := Arv.set Ar1430 qk1430 S1430 Ng1430 H1430 G1430 (v := (.int (p2 &&& 255))) (own_f255 p2) W1430 1 rfl (Nat.le_of_ble_eq_true rfl)
      have N1430 := Fr.snoc X1430 N1427 g_b1053
      obtain ⟨cl1434, Ar1434, qk1434, S1434, Ng1434, H1434, G1434⟩ := id f1430
      obtain ⟨T1434, h1434, X1434, e1434, W1434, st1434⟩ := stC X1430 hx hZ e1430 Ar1434 (j := (2 : Int32)) (inb_of S1434 ⟨by decide, by decide⟩) (g := (mkF m 260 #[iv p0, iv p1, iv p2, iv p3, iv p4, iv p5, rv b1053, iv 4, iv 5, .unset, .unset, .unset] [(.int ((p3 &&& 255).toUInt32.toUInt16.toUInt32.toInt32)), (.int 2), (.ref b1053)])) rfl rfl (D at_260)
      have W1434 : Wr h1430 h1434 b1053 ((2 : Int32)).toNatClampNeg (.int (p3 &&& 255)) := Eq.mp (congrArg (fun z => Wr h1430 h1434 b1053 ((2 : Int32)).toNatClampNeg (Value.int z)) (own_c255 p3)) W1434
      have f1436 : Exa Z h1430 b1053 "[C" := (Exa.wr W1430 f1432)
      have O1437 := Old0.wr O1433 W1434 g_b1053
      have C1435 := CHr.trans C1431 (CHr.wr W1434 (Safe.exa hZ.alike f1436 (by decide) (by decide)) C1431.1)
      have hk := Nat.le_trans hk (Keep.of_wr W1434).1
      have f1434 : Arv Z h1434 b1053 k1053 .char (6 : Int32) [(.int (p1 &&& 255)), (.int (p2 &&& 255)), (.int (p3 &&& 255)), (.int 0), (.int 0), (.int 0)] (.int 0) := Arv.set Ar1434 qk1434 S1434 Ng1434 H1434 G1434 (v := (.int (p3 &&& 255))) (own_f255 p3) W1434 2 rfl (Nat.le_of_ble_eq_true rfl)
      have N1434 := Fr.snoc X1434 N1430 g_b1053
      refine GoS.of (T' := T1434) (f' := (mkF m 266 #[iv p0, iv p1, iv p2, iv p3, iv p4, iv p5, rv b1053, iv 4, iv 5, .unset, .unset, .unset] [(.int p4), (.int 3), (.ref b1053)])) (fun _ k => XS.aload X1053.here hx rfl (D at_231) rfl rfl (XS.iconst X1053.here hx rfl (D at_233) (XS.iloadN X1053.here hx rfl (D at_234) rfl (XS.sipush X1053.here hx rfl (D at_235) (XS.iand X1053.here hx rfl (D at_238) rfl (XS.i2c X1053.here hx rfl (D at_239) rfl (st1427 _ (XS.aload X1427.here hx rfl (D at_241) rfl rfl (XS.iconst X1427.here hx rfl (D at_243) (XS.iloadN X1427.here hx rfl (D at_244) rfl (XS.sipush X1427.here hx rfl (D at_245) (XS.iand X1427.here hx rfl (D at_248) rfl (XS.i2c X1427.here hx rfl (D at_249) rfl (st1430 _ (XS.aload X1430.here hx rfl (D at_251) rfl rfl (XS.iconst X1430.here hx rfl (D at_253) (XS.iloadN X1430.here hx rfl (D at_254) rfl (XS.sipush X1430.here hx rfl (D at_255) (XS.iand X1430.here hx rfl (D at_258) rfl (XS.i2c X1430.here hx rfl (D at_259) rfl (st1434 _ (XS.aload X1434.here hx rfl (D at_261) rfl rfl (XS.iconst X1434.here hx rfl (D at_263) (XS.iload X1434.here hx rfl (D at_264) rfl k)))))))))))))))))))))))) ?_
      obtain ⟨cl1438, Ar1438, qk1438, S1438, Ng1438, H1438, G1438⟩ := id f1434
      obtain ⟨T1438, h1438, X1438, e1438, W1438, st1438⟩ := stC X1434 hx hZ e1434 Ar1438 (j := (3 : Int32)) (inb_of S1438 ⟨by decide, by decide⟩) (g := (mkF m 271 #[iv p0, iv p1, iv p2, iv p3, iv p4, iv p5, rv b1053, iv 4, iv 5, .unset, .unset, .unset] [(.int ((p4 &&& 255).toUInt32.toUInt16.toUInt32.toInt32)), (.int 3), (.ref b1053)])) rfl rfl (D at_271)
      have W1438 : Wr h1434 h1438 b1053 ((3 : Int32)).toNatClampNeg (.int (p4 &&& 255)) := Eq.mp (congrArg (fun z => Wr h1434 h1438 b1053 ((3 : Int32)).toNatClampNeg (Value.int z)) (own_c255 p4)) W1438
      have f1440 : Exa Z h1434 b1053 "[C" := (Exa.wr W1434 f1436)
      have O1441 := Old0.wr O1437 W1438 g_b1053
      have C1439 := CHr.trans C1435 (CHr.wr W1438 (Safe.exa hZ.alike f1440 (by decide) (by decide)) C1435.1)
      have hk := Nat.le_trans hk (Keep.of_wr W1438).1
      have f1438 : Arv Z h1438 b1053 k1053 .char (6 : Int32) [(.int (p1 &&& 255)), (.int (p2 &&& 255)), (.int (p3 &&& 255)), (.int (p4 &&& 255)), (.int 0), (.int 0)] (.int 0) := Arv.set Ar1438 qk1438 S1438 Ng1438 H1438 G1438 (v := (.int (p4 &&& 255))) (own_f255 p4) W1438 3 rfl (Nat.le_of_ble_eq_true rfl)
      have N1438 := Fr.snoc X1438 N1434 g_b1053
      obtain ⟨cl1442, Ar1442, qk1442, S1442, Ng1442, H1442, G1442⟩ := id f1438
      obtain ⟨T1442, h1442, X1442, e1442, W1442, st1442⟩ := stC X1438 hx hZ e1438 Ar1442 (j := (4 : Int32)) (inb_of S1442 ⟨by decide, by decide⟩) (g := (mkF m 282 #[iv p0, iv p1, iv p2, iv p3, iv p4, iv p5, rv b1053, iv 4, iv 5, .unset, .unset, .unset] [(.int ((p5 &&& 255).toUInt32.toUInt16.toUInt32.toInt32)), (.int 4), (.ref b1053)])) rfl rfl (D at_282)
      have W1442 : Wr h1438 h1442 b1053 ((4 : Int32)).toNatClampNeg (.int (p5 &&& 255)) := Eq.mp (congrArg (fun z => Wr h1438 h1442 b1053 ((4 : Int32)).toNatClampNeg (Value.int z)) (own_c255 p5)) W1442
      have f1444 : Exa Z h1438 b1053 "[C" := (Exa.wr W1438 f1440)
      have O1445 := Old0.wr O1441 W1442 g_b1053
      have C1443 := CHr.trans C1439 (CHr.wr W1442 (Safe.exa hZ.alike f1444 (by decide) (by decide)) C1439.1)
      have hk := Nat.le_trans hk (Keep.of_wr W1442).1
      have f1442 : Arv Z h1442 b1053 k1053 .char (6 : Int32) [(.int (p1 &&& 255)), (.int (p2 &&& 255)), (.int (p3 &&& 255)), (.int (p4 &&& 255)), (.int (p5 &&& 255)), (.int 0)] (.int 0) := Arv.set Ar1442 qk1442 S1442 Ng1442 H1442 G1442 (v := (.int (p5 &&& 255))) (own_f255 p5) W1442 4 rfl (Nat.le_of_ble_eq_true rfl)
      have N1442 := Fr.snoc X1442 N1438 g_b1053
      refine GoS.of (T' := T1442) (f' := (mkF m 283 #[iv p0, iv p1, iv p2, iv p3, iv p4, iv p5, rv b1053, iv 4, iv 5, .unset, .unset, .unset] [])) (fun _ k => XS.sipush X1434.here hx rfl (D at_266) (XS.iand X1434.here hx rfl (D at_269) rfl (XS.i2c X1434.here hx rfl (D at_270) rfl (st1438 _ (XS.aload X1438.here hx rfl (D at_272) rfl rfl (XS.iconst X1438.here hx rfl (D at_274) (XS.iload X1438.here hx rfl (D at_275) rfl (XS.sipush X1438.here hx rfl (D at_277) (XS.iand X1438.here hx rfl (D at_280) rfl (XS.i2c X1438.here hx rfl (D at_281) rfl (st1442 _ k))))))))))) ?_
      exact rm_t4 hw G p0 p1 p2 p3 p4 p5 (b1053) (k1053) (p1) (p2) (p3) (p4) (p5) ((0 : Int32)) (One.val rfl) (One.u) (One.u) (One.u) hx hby hml hown hret hlk hZ hS hk  C1443 e1442 (Stand.more X1442 (by decide) (by decide)) N1442 O1445 f1442 
    | 5, _ =>
      refine GoS.cast (f' := (mkF m 231 #[iv p0, iv p1, iv p2, iv p3, iv p4, iv p5, rv b1053, iv 5, iv 5, .unset, .unset, .unset] [])) rfl ?_
      obtain ⟨cl1446, Ar1446, qk1446, S1446, Ng1446, H1446, G1446⟩ := id f1056
      obtain ⟨T1446, h1446, X1446, e1446, W1446, st1446⟩ := stC X1053 hx hZ e1053 Ar1446 (j := (0 : Int32)) (inb_of S1446 ⟨by decide, by decide⟩) (g := (mkF m 240 #[iv p0, iv p1, iv p2, iv p3, iv p4, iv p5, rv b1053, iv 5, iv 5, .unset, .unset, .unset] [(.int ((p1 &&& 255).toUInt32.toUInt16.toUInt32.toInt32)), (.int 0), (.ref b1053)])) rfl rfl (D at_240)
      have W1446 : Wr h1053 h1446 b1053 ((0 : Int32)).toNatClampNeg (.int (p1 &&& 255)) := Eq.mp (congrArg (fun z => Wr h1053 h1446 b1053 ((0 : Int32)).toNatClampNeg (Value.int z)) (own_c255 p1)) W1446
      have O1448 := Old0.wr O1055 W1446 g_b1053
      have C1447 := CHr.trans C1054 (CHr.wr W1446 (Safe.exa hZ.alike A1053 (by decide) (by decide)) C1054.1)
      have hk := Nat.le_trans hk (Keep.of_wr W1446).1
      have f1446 : Arv Z h1446 b1053 k1053 .char (6 : Int32) [(.int (p1 &&& 255)), (.int 0), (.int 0), (.int 0), (.int 0), (.int 0)] (.int 0) := Arv.set Ar1446 qk1446 S1446 Ng1446 H1446 G1446 (v := (.int (p1 &&& 255))) (own_f255 p1) W1446 0 rfl (Nat.le_of_ble_eq_true rfl)
      have N1446 := Fr.snoc X1446 N0 g_b1053
      obtain ⟨cl1449, Ar1449, qk1449, S1449, Ng1449, H1449, G1449⟩ := id f1446
      obtain ⟨T1449, h1449, X1449, e1449, W1449, st1449⟩ := stC X1446 hx hZ e1446 Ar1449 (j := (1 : Int32)) (inb_of S1449 ⟨by decide, by decide⟩) (g := (mkF m 250 #[iv p0, iv p1, iv p2, iv p3, iv p4, iv p5, rv b1053, iv 5, iv 5, .unset, .unset, .unset] [(.int ((p2 &&& 255).toUInt32.toUInt16.toUInt32.toInt32)), (.int 1), (.ref b1053)])) rfl rfl (D at_250)
      have W1449 : Wr h1446 h1449 b1053 ((1 : Int32)).toNatClampNeg (.int (p2 &&& 255)) := Eq.mp (congrArg (fun z => Wr h1446 h1449 b1053 ((1 : Int32)).toNatClampNeg (Value.int z)) (own_c255 p2)) W1449
      have f1451 : Exa Z h1446 b1053 "[C" := (Exa.wr W1446 A1053)
      have O1452 := Old0.wr O1448 W1449 g_b1053
      have C1450 := CHr.trans C1447 (CHr.wr W1449 (Safe.exa hZ.alike f1451 (by decide) (by decide)) C1447.1)
      have hk := Nat.le_trans hk (Keep.of_wr W1449).1
      have f1449 : Arv Z h1449 b1053 k1053 .char (6 : Int32) [(.int (p1 &&& 255)), (.int (p2 &&& 255)), (.int 0), (.int 0), (.int 0), (.int 0)] (.int 0) := Arv.set Ar1449 qk1449 S1449 Ng1449 H1449 G1449 (v := (.int (p2 &&& 255))) (own_f255 p2) W1449 1 rfl (Nat.le_of_ble_eq_true rfl)
      have N1449 := Fr.snoc X1449 N1446 g_b1053
      obtain ⟨cl1453, Ar1453, qk1453, S1453, Ng1453, H1453, G1453⟩ := id f1449
      obtain ⟨T1453, h1453, X1453, e1453, W1453, st1453⟩ := stC X1449 hx hZ e1449 Ar1453 (j := (2 : Int32)) (inb_of S1453 ⟨by decide, by decide⟩) (g := (mkF m 260 #[iv p0, iv p1, iv p2, iv p3, iv p4, iv p5, rv b1053, iv 5, iv 5, .unset, .unset, .unset] [(.int ((p3 &&& 255).toUInt32.toUInt16.toUInt32.toInt32)), (.int 2), (.ref b1053)])) rfl rfl (D at_260)
      have W1453 : Wr h1449 h1453 b1053 ((2 : Int32)).toNatClampNeg (.int (p3 &&& 255)) := Eq.mp (congrArg (fun z => Wr h1449 h1453 b1053 ((2 : Int32)).toNatClampNeg (Value.int z)) (own_c255 p3)) W1453
      have f1455 : Exa Z h1449 b1053 "[C" := (Exa.wr W1449 f1451)
      have O1456 := Old0.wr O1452 W1453 g_b1053
      have C1454 := CHr.trans C1450 (CHr.wr W1453 (Safe.exa hZ.alike f1455 (by decide) (by decide)) C1450.1)
      have hk := Nat.le_trans hk (Keep.of_wr W1453).1
      have f1453 : Arv Z h1453 b1053 k1053 .char (6 : Int32) [(.int (p1 &&& 255)), (.int (p2 &&& 255)), (.int (p3 &&& 255)), (.int 0), (.int 0), (.int 0)] (.int 0) := Arv.set Ar1453 qk1453 S1453 Ng1453 H1453 G1453 (v := (.int (p3 &&& 255))) (own_f255 p3) W1453 2 rfl (Nat.le_of_ble_eq_true rfl)
      have N1453 := Fr.snoc X1453 N1449 g_b1053
      refine GoS.of (T' := T1453) (f' := (mkF m 266 #[iv p0, iv p1, iv p2, iv p3, iv p4, iv p5, rv b1053, iv 5, iv 5, .unset, .unset, .unset] [(.int p4), (.int 3), (.ref b1053)])) (fun _ k => XS.aload X1053.here hx rfl (D at_231) rfl rfl (XS.iconst X1053.here hx rfl (D at_233) (XS.iloadN X1053.here hx rfl (D at_234) rfl (XS.sipush X1053.here hx rfl (D at_235) (XS.iand X1053.here hx rfl (D at_238) rfl (XS.i2c X1053.here hx rfl (D at_239) rfl (st1446 _ (XS.aload X1446.here hx rfl (D at_241) rfl rfl (XS.iconst X1446.here hx rfl (D at_243) (XS.iloadN X1446.here hx rfl (D at_244) rfl (XS.sipush X1446.here hx rfl (D at_245) (XS.iand X1446.here hx rfl (D at_248) rfl (XS.i2c X1446.here hx rfl (D at_249) rfl (st1449 _ (XS.aload X1449.here hx rfl (D at_251) rfl rfl (XS.iconst X1449.here hx rfl (D at_253) (XS.iloadN X1449.here hx rfl (D at_254) rfl (XS.sipush X1449.here hx rfl (D at_255) (XS.iand X1449.here hx rfl (D at_258) rfl (XS.i2c X1449.here hx rfl (D at_259) rfl (st1453 _ (XS.aload X1453.here hx rfl (D at_261) rfl rfl (XS.iconst X1453.here hx rfl (D at_263) (XS.iload X1453.here hx rfl (D at_264) rfl k)))))))))))))))))))))))) ?_
      obtain ⟨cl1457, Ar1457, qk1457, S1457, Ng1457, H1457, G1457⟩ := id f1453
      obtain ⟨T1457, h1457, X1457, e1457, W1457, st1457⟩ := stC X1453 hx hZ e1453 Ar1457 (j := (3 : Int32)) (inb_of S1457 ⟨by decide, by decide⟩) (g := (mkF m 271 #[iv p0, iv p1, iv p2, iv p3, iv p4, iv p5, rv b1053, iv 5, iv 5, .unset, .unset, .unset] [(.int ((p4 &&& 255).toUInt32.toUInt16.toUInt32.toInt32)), (.int 3), (.ref b1053)])) rfl rfl (D at_271)
      have W1457 : Wr h1453 h1457 b1053 ((3 : Int32)).toNatClampNeg (.int (p4 &&& 255)) := Eq.mp (congrArg (fun z => Wr h1453 h1457 b1053 ((3 : Int32)).toNatClampNeg (Value.int z)) (own_c255 p4)) W1457
      have f1459 : Exa Z h1453 b1053 "[C" := (Exa.wr W1453 f1455)
      have O1460 := Old0.wr O1456 W1457 g_b1053
      have C1458 := CHr.trans C1454 (CHr.wr W1457 (Safe.exa hZ.alike f1459 (by decide) (by decide)) C1454.1)
      have hk := Nat.le_trans hk (Keep.of_wr W1457).1
      have f1457 : Arv Z h1457 b1053 k1053 .char (6 : Int32) [(.int (p1 &&& 255)), (.int (p2 &&& 255)), (.int (p3 &&& 255)), (.int (p4 &&& 255)), (.int 0), (.int 0)] (.int 0) := Arv.set Ar1457 qk1457 S1457 Ng1457 H1457 G1457 (v := (.int (p4 &&& 255))) (own_f255 p4) W1457 3 rfl (Nat.le_of_ble_eq_true rfl)
      have N1457 := Fr.snoc X1457 N1453 g_b1053
      obtain ⟨cl1461, Ar1461, qk1461, S1461, Ng1461, H1461, G1461⟩ := id f1457
      obtain ⟨T1461, h1461, X1461, e1461, W1461, st1461⟩ := stC X1457 hx hZ e1457 Ar1461 (j := (4 : Int32)) (inb_of S1461 ⟨by decide, by decide⟩) (g := (mkF m 282 #[iv p0, iv p1, iv p2, iv p3, iv p4, iv p5, rv b1053, iv 5, iv 5, .unset, .unset, .unset] [(.int ((p5 &&& 255).toUInt32.toUInt16.toUInt32.toInt32)), (.int 4), (.ref b1053)])) rfl rfl (D at_282)
      have W1461 : Wr h1457 h1461 b1053 ((4 : Int32)).toNatClampNeg (.int (p5 &&& 255)) := Eq.mp (congrArg (fun z => Wr h1457 h1461 b1053 ((4 : Int32)).toNatClampNeg (Value.int z)) (own_c255 p5)) W1461
      have f1463 : Exa Z h1457 b1053 "[C" := (Exa.wr W1457 f1459)
      have O1464 := Old0.wr O1460 W1461 g_b1053
      have C1462 := CHr.trans C1458 (CHr.wr W1461 (Safe.exa hZ.alike f1463 (by decide) (by decide)) C1458.1)
      have hk := Nat.le_trans hk (Keep.of_wr W1461).1
      have f1461 : Arv Z h1461 b1053 k1053 .char (6 : Int32) [(.int (p1 &&& 255)), (.int (p2 &&& 255)), (.int (p3 &&& 255)), (.int (p4 &&& 255)), (.int (p5 &&& 255)), (.int 0)] (.int 0) := Arv.set Ar1461 qk1461 S1461 Ng1461 H1461 G1461 (v := (.int (p5 &&& 255))) (own_f255 p5) W1461 4 rfl (Nat.le_of_ble_eq_true rfl)
      have N1461 := Fr.snoc X1461 N1457 g_b1053
      refine GoS.of (T' := T1461) (f' := (mkF m 283 #[iv p0, iv p1, iv p2, iv p3, iv p4, iv p5, rv b1053, iv 5, iv 5, .unset, .unset, .unset] [])) (fun _ k => XS.sipush X1453.here hx rfl (D at_266) (XS.iand X1453.here hx rfl (D at_269) rfl (XS.i2c X1453.here hx rfl (D at_270) rfl (st1457 _ (XS.aload X1457.here hx rfl (D at_272) rfl rfl (XS.iconst X1457.here hx rfl (D at_274) (XS.iload X1457.here hx rfl (D at_275) rfl (XS.sipush X1457.here hx rfl (D at_277) (XS.iand X1457.here hx rfl (D at_280) rfl (XS.i2c X1457.here hx rfl (D at_281) rfl (st1461 _ k))))))))))) ?_
      exact rm_t5 hw G p0 p1 p2 p3 p4 p5 (b1053) (k1053) (p1) (p2) (p3) (p4) (p5) ((0 : Int32)) (One.val rfl) (One.u) (One.u) (One.u) hx hby hml hown hret hlk hZ hS hk  C1462 e1461 (Stand.more X1461 (by decide) (by decide)) N1461 O1464 f1461 
    | n + 6, h => exact absurd h (by omega)
  | n + 6, h => exact absurd h (by omega)
set_option maxRecDepth 65536 in
set_option maxHeartbeats 40000000 in
theorem comes_1 {Post : Tables → Env → Array Value → State → Outcome → State → Prop} (hpost : ∀ tb e args s v u, (limb_1_1.after args s (.returned v) u = true ∧ limb_1_2.after args s (.returned v) u = true ∧ True) → ReturnedEndW s (.returned v) u (Jvm.fieldLocs frame_1_writes args s ++ Jvm.arrayLocs frame_1_arrays args s ++ Jvm.staticLocs frame_1_statics s) 32 6336 → Post tb e args s (.returned v) u) :
    ArmFor flags0 classFile x code maxLocals ret World_1 tables_1 room_1 Calls_1 rest_1 Pre_1 Post := by
  intro l hfl _ _ p e ha hc hk s m args below hf hA hF happ hP
  obtain ⟨hcalls, hrest, hpre⟩ := hP
  obtain ⟨-, -, -, hnamed, -, -, -, hat⟩ := (Spec.applies_iff hf).mp happ
  obtain ⟨hg, hn⟩ := and_e (Cond.before_iff.mp (show (Jvm.Cond.and given_1 narrow_1).before args s = true from hpre))
  obtain ⟨ga0, gb0⟩ := and_e hg
  obtain ⟨ga1, gb1⟩ := and_e gb0
  obtain ⟨ga2, gb2⟩ := and_e gb1
  obtain ⟨ga3, gb3⟩ := and_e gb2
  obtain ⟨ga4, gb4⟩ := and_e gb3
  obtain ⟨ga5, gb5⟩ := and_e gb4
  obtain ⟨w0, w1, w2, w3, w4, w5, rfl⟩ : ∃ w0 w1 w2 w3 w4 w5 : Value, args = #[w0, w1, w2, w3, w4, w5] := by
    have hs : args.size = 6 := by simpa [Cond.value, given_1] using ga0
    obtain ⟨L⟩ := args
    match L, hs with
    | [w0, w1, w2, w3, w4, w5], _ => exact ⟨w0, w1, w2, w3, w4, w5, rfl⟩
  have hw := fun d (hd : d ∈ tables_1) => atoms_spec (ws := Jvm.Cond.code x code maxLocals ret :: tables_1) hat d (List.mem_cons_of_mem _ hd)
  have hfit : Fit s := fun {y c} hc i hi => by
    obtain ⟨ha, rfl⟩ := Array.getElem?_eq_some_iff.mp hc
    have q := List.all_eq_true.mp ((Array.all_eq_true_iff_forall_mem.mp hF) _ (Array.getElem_mem ha)) i (List.mem_range.mpr hi)
    simpa [Array.getElem?_eq_getElem hi] using q
  obtain ⟨hsets, hown0⟩ := atoms_of _ (rest_1_c_eq ▸ (show rest_1_c.before _ s = true from hrest))
  obtain ⟨i0, ei0⟩ := is_v ga1
  obtain rfl : w0 = (.int i0) := Option.some.inj ei0
  obtain ⟨i1, ei1⟩ := is_v ga2
  obtain rfl : w1 = (.int i1) := Option.some.inj ei1
  obtain ⟨i2, ei2⟩ := is_v ga3
  obtain rfl : w2 = (.int i2) := Option.some.inj ei2
  obtain ⟨i3, ei3⟩ := is_v ga4
  obtain rfl : w3 = (.int i3) := Option.some.inj ei3
  obtain ⟨i4, ei4⟩ := is_v ga5
  obtain rfl : w4 = (.int i4) := Option.some.inj ei4
  obtain ⟨i5, ei5⟩ := is_v gb5
  obtain rfl : w5 = (.int i5) := Option.some.inj ei5
  obtain ⟨na1, nb1⟩ := and_e hn
  obtain ⟨s__VALUES, ev_s__VALUES⟩ := arr_v na1
  have S__VALUES : Sta s s.heap "com/example/cascade_mapper/cascademapper/model/CollectionForm" "$VALUES" "[Lcom/example/cascade_mapper/cascademapper/model/CollectionForm;" (.ref s__VALUES) := Sta.start ev_s__VALUES (Or.inl (own_w hw (i := 90) rfl))
  obtain ⟨cl_s__VALUES, A_s__VALUES⟩ := Arr.start ev_s__VALUES na1
  obtain ⟨na2, nb2⟩ := and_e nb1
  have E_s__VALUES : Exa s s.heap s__VALUES "[Lcom/example/cascade_mapper/cascademapper/model/CollectionForm;" := Exa.start ev_s__VALUES na2
  obtain ⟨na3, nb3⟩ := and_e nb2
  have ev3 := eqI_v na3
  obtain ⟨na5, nb5⟩ := and_e nb3
  obtain ⟨s_SET, ev_s_SET⟩ := exa_v na5
  have S_SET : Sta s s.heap "com/example/cascade_mapper/cascademapper/model/CollectionForm" "SET" "Lcom/example/cascade_mapper/cascademapper/model/CollectionForm;" (.ref s_SET) := Sta.start ev_s_SET (Or.inr ⟨(own_w hw (i := 71) rfl), (own_w hw (i := 85) rfl)⟩)
  have E_s_SET : Exa s s.heap s_SET "com/example/cascade_mapper/cascademapper/model/CollectionForm" := Exa.start ev_s_SET na5
  obtain ⟨na6, nb6⟩ := and_e nb5
  have ev6 := eqR_v ev_s_SET na6
  obtain ⟨na8, nb8⟩ := and_e nb6
  obtain ⟨s_LIST, ev_s_LIST⟩ := exa_v na8
  have S_LIST : Sta s s.heap "com/example/cascade_mapper/cascademapper/model/CollectionForm" "LIST" "Lcom/example/cascade_mapper/cascademapper/model/CollectionForm;" (.ref s_LIST) := Sta.start ev_s_LIST (Or.inr ⟨(own_w hw (i := 71) rfl), (own_w hw (i := 86) rfl)⟩)
  have E_s_LIST : Exa s s.heap s_LIST "com/example/cascade_mapper/cascademapper/model/CollectionForm" := Exa.start ev_s_LIST na8
  obtain ⟨na9, nb9⟩ := and_e nb8
  have ev9 := eqR_v ev_s_LIST na9
  obtain ⟨na11, nb11⟩ := and_e nb9
  obtain ⟨s_BAG, ev_s_BAG⟩ := exa_v na11
  have S_BAG : Sta s s.heap "com/example/cascade_mapper/cascademapper/model/CollectionForm" "BAG" "Lcom/example/cascade_mapper/cascademapper/model/CollectionForm;" (.ref s_BAG) := Sta.start ev_s_BAG (Or.inr ⟨(own_w hw (i := 71) rfl), (own_w hw (i := 87) rfl)⟩)
  have E_s_BAG : Exa s s.heap s_BAG "com/example/cascade_mapper/cascademapper/model/CollectionForm" := Exa.start ev_s_BAG na11
  obtain ⟨na12, nb12⟩ := and_e nb11
  have ev12 := eqR_v ev_s_BAG na12
  obtain ⟨na14, nb14⟩ := and_e nb12
  obtain ⟨s_IDBAG, ev_s_IDBAG⟩ := exa_v na14
  have S_IDBAG : Sta s s.heap "com/example/cascade_mapper/cascademapper/model/CollectionForm" "IDBAG" "Lcom/example/cascade_mapper/cascademapper/model/CollectionForm;" (.ref s_IDBAG) := Sta.start ev_s_IDBAG (Or.inr ⟨(own_w hw (i := 71) rfl), (own_w hw (i := 88) rfl)⟩)
  have E_s_IDBAG : Exa s s.heap s_IDBAG "com/example/cascade_mapper/cascademapper/model/CollectionForm" := Exa.start ev_s_IDBAG na14
  obtain ⟨na15, nb15⟩ := and_e nb14
  have ev15 := eqR_v ev_s_IDBAG na15
  obtain ⟨na17, nb17⟩ := and_e nb15
  obtain ⟨s_MAP, ev_s_MAP⟩ := exa_v na17
  have S_MAP : Sta s s.heap "com/example/cascade_mapper/cascademapper/model/CollectionForm" "MAP" "Lcom/example/cascade_mapper/cascademapper/model/CollectionForm;" (.ref s_MAP) := Sta.start ev_s_MAP (Or.inr ⟨(own_w hw (i := 71) rfl), (own_w hw (i := 89) rfl)⟩)
  have E_s_MAP : Exa s s.heap s_MAP "com/example/cascade_mapper/cascademapper/model/CollectionForm" := Exa.start ev_s_MAP na17
  obtain ⟨na18, nb18⟩ := and_e nb17
  have ev18 := eqR_v ev_s_MAP na18
  obtain ⟨na20, nb20⟩ := and_e nb18
  obtain ⟨s_SET_elementName, ev_s_SET_elementName⟩ := exa_v na20
  have F_s_SET_elementName : Fld s s.heap s_SET "com/example/cascade_mapper/cascademapper/model/CollectionForm" "elementName" "Ljava/lang/String;" (.ref s_SET_elementName) := Fld.start ((fld_at ev_s_SET).symm.trans ev_s_SET_elementName)
  have E_s_SET_elementName : Exa s s.heap s_SET_elementName "java/lang/String" := Exa.start ev_s_SET_elementName na20
  obtain ⟨na21, nb21⟩ := and_e nb20
  have ev21 := eqI_v na21
  have F_s_SET_elementName_coder : Fld s s.heap s_SET_elementName "java/lang/String" "coder" "B" (.int (0 : Int32)) := Fld.start ((fld_at ev_s_SET_elementName).symm.trans ev21)
  obtain ⟨na23, nb23⟩ := and_e nb21
  obtain ⟨s_SET_elementName_value, ev_s_SET_elementName_value⟩ := arr_v na23
  have F_s_SET_elementName_value : Fld s s.heap s_SET_elementName "java/lang/String" "value" "[B" (.ref s_SET_elementName_value) := Fld.start ((fld_at ev_s_SET_elementName).symm.trans ev_s_SET_elementName_value)
  obtain ⟨cl_s_SET_elementName_value, A_s_SET_elementName_value⟩ := Arr.start ev_s_SET_elementName_value na23
  obtain ⟨na24, nb24⟩ := and_e nb23
  have ev24 := eqI_v na24
  obtain ⟨na26, nb26⟩ := and_e nb24
  have ev26 := eqI_v na26
  obtain ⟨na28, nb28⟩ := and_e nb26
  have ev28 := eqI_v na28
  obtain ⟨na30, nb30⟩ := and_e nb28
  have ev30 := eqI_v na30
  obtain ⟨na32, nb32⟩ := and_e nb30
  obtain ⟨s_LIST_elementName, ev_s_LIST_elementName⟩ := exa_v na32
  have F_s_LIST_elementName : Fld s s.heap s_LIST "com/example/cascade_mapper/cascademapper/model/CollectionForm" "elementName" "Ljava/lang/String;" (.ref s_LIST_elementName) := Fld.start ((fld_at ev_s_LIST).symm.trans ev_s_LIST_elementName)
  have E_s_LIST_elementName : Exa s s.heap s_LIST_elementName "java/lang/String" := Exa.start ev_s_LIST_elementName na32
  obtain ⟨na33, nb33⟩ := and_e nb32
  have ev33 := eqI_v na33
  have F_s_LIST_elementName_coder : Fld s s.heap s_LIST_elementName "java/lang/String" "coder" "B" (.int (0 : Int32)) := Fld.start ((fld_at ev_s_LIST_elementName).symm.trans ev33)
  obtain ⟨na35, nb35⟩ := and_e nb33
  obtain ⟨s_LIST_elementName_value, ev_s_LIST_elementName_value⟩ := arr_v na35
  have F_s_LIST_elementName_value : Fld s s.heap s_LIST_elementName "java/lang/String" "value" "[B" (.ref s_LIST_elementName_value) := Fld.start ((fld_at ev_s_LIST_elementName).symm.trans ev_s_LIST_elementName_value)
  obtain ⟨cl_s_LIST_elementName_value, A_s_LIST_elementName_value⟩ := Arr.start ev_s_LIST_elementName_value na35
  obtain ⟨na36, nb36⟩ := and_e nb35
  have ev36 := eqI_v na36
  obtain ⟨na38, nb38⟩ := and_e nb36
  obtain ⟨s_BAG_elementName, ev_s_BAG_elementName⟩ := exa_v na38
  have F_s_BAG_elementName : Fld s s.heap s_BAG "com/example/cascade_mapper/cascademapper/model/CollectionForm" "elementName" "Ljava/lang/String;" (.ref s_BAG_elementName) := Fld.start ((fld_at ev_s_BAG).symm.trans ev_s_BAG_elementName)
  have E_s_BAG_elementName : Exa s s.heap s_BAG_elementName "java/lang/String" := Exa.start ev_s_BAG_elementName na38
  obtain ⟨na39, nb39⟩ := and_e nb38
  have ev39 := eqI_v na39
  have F_s_BAG_elementName_coder : Fld s s.heap s_BAG_elementName "java/lang/String" "coder" "B" (.int (0 : Int32)) := Fld.start ((fld_at ev_s_BAG_elementName).symm.trans ev39)
  obtain ⟨na41, nb41⟩ := and_e nb39
  obtain ⟨s_BAG_elementName_value, ev_s_BAG_elementName_value⟩ := arr_v na41
  have F_s_BAG_elementName_value : Fld s s.heap s_BAG_elementName "java/lang/String" "value" "[B" (.ref s_BAG_elementName_value) := Fld.start ((fld_at ev_s_BAG_elementName).symm.trans ev_s_BAG_elementName_value)
  obtain ⟨cl_s_BAG_elementName_value, A_s_BAG_elementName_value⟩ := Arr.start ev_s_BAG_elementName_value na41
  obtain ⟨na42, nb42⟩ := and_e nb41
  have ev42 := eqI_v na42
  obtain ⟨na44, nb44⟩ := and_e nb42
  have ev44 := eqI_v na44
  obtain ⟨na46, nb46⟩ := and_e nb44
  obtain ⟨s_IDBAG_elementName, ev_s_IDBAG_elementName⟩ := exa_v na46
  have F_s_IDBAG_elementName : Fld s s.heap s_IDBAG "com/example/cascade_mapper/cascademapper/model/CollectionForm" "elementName" "Ljava/lang/String;" (.ref s_IDBAG_elementName) := Fld.start ((fld_at ev_s_IDBAG).symm.trans ev_s_IDBAG_elementName)
  have E_s_IDBAG_elementName : Exa s s.heap s_IDBAG_elementName "java/lang/String" := Exa.start ev_s_IDBAG_elementName na46
  obtain ⟨na47, nb47⟩ := and_e nb46
  have ev47 := eqI_v na47
  have F_s_IDBAG_elementName_coder : Fld s s.heap s_IDBAG_elementName "java/lang/String" "coder" "B" (.int (0 : Int32)) := Fld.start ((fld_at ev_s_IDBAG_elementName).symm.trans ev47)
  obtain ⟨na49, nb49⟩ := and_e nb47
  obtain ⟨s_IDBAG_elementName_value, ev_s_IDBAG_elementName_value⟩ := arr_v na49
  have F_s_IDBAG_elementName_value : Fld s s.heap s_IDBAG_elementName "java/lang/String" "value" "[B" (.ref s_IDBAG_elementName_value) := Fld.start ((fld_at ev_s_IDBAG_elementName).symm.trans ev_s_IDBAG_elementName_value)
  obtain ⟨cl_s_IDBAG_elementName_value, A_s_IDBAG_elementName_value⟩ := Arr.start ev_s_IDBAG_elementName_value na49
  obtain ⟨na50, nb50⟩ := and_e nb49
  have ev50 := eqI_v na50
  obtain ⟨na52, nb52⟩ := and_e nb50
  obtain ⟨s_MAP_elementName, ev_s_MAP_elementName⟩ := exa_v na52
  have F_s_MAP_elementName : Fld s s.heap s_MAP "com/example/cascade_mapper/cascademapper/model/CollectionForm" "elementName" "Ljava/lang/String;" (.ref s_MAP_elementName) := Fld.start ((fld_at ev_s_MAP).symm.trans ev_s_MAP_elementName)
  have E_s_MAP_elementName : Exa s s.heap s_MAP_elementName "java/lang/String" := Exa.start ev_s_MAP_elementName na52
  obtain ⟨na53, nb53⟩ := and_e nb52
  have ev53 := eqI_v na53
  have F_s_MAP_elementName_coder : Fld s s.heap s_MAP_elementName "java/lang/String" "coder" "B" (.int (0 : Int32)) := Fld.start ((fld_at ev_s_MAP_elementName).symm.trans ev53)
  obtain ⟨na55, nb55⟩ := and_e nb53
  obtain ⟨s_MAP_elementName_value, ev_s_MAP_elementName_value⟩ := arr_v na55
  have F_s_MAP_elementName_value : Fld s s.heap s_MAP_elementName "java/lang/String" "value" "[B" (.ref s_MAP_elementName_value) := Fld.start ((fld_at ev_s_MAP_elementName).symm.trans ev_s_MAP_elementName_value)
  obtain ⟨cl_s_MAP_elementName_value, A_s_MAP_elementName_value⟩ := Arr.start ev_s_MAP_elementName_value na55
  obtain ⟨na56, nb56⟩ := and_e nb55
  have ev56 := eqI_v na56
  obtain ⟨na58, nb58⟩ := and_e nb56
  have ev58 := eqI_v na58
  obtain ⟨na60, nb60⟩ := and_e nb58
  have ev60 := eqI_v na60
  obtain ⟨na62, nb62⟩ := and_e nb60
  have ev62 := eqI_v na62
  obtain ⟨na64, nb64⟩ := and_e nb62
  have ev64 := eqI_v na64
  obtain ⟨na66, nb66⟩ := and_e nb64
  have ev66 := eqI_v na66
  obtain ⟨na68, nb68⟩ := and_e nb66
  have ev68 := eqI_v na68
  obtain ⟨na70, nb70⟩ := and_e nb68
  have ev70 := eqI_v na70
  obtain ⟨na72, nb72⟩ := and_e nb70
  have ev72 := eqI_v na72
  obtain ⟨na74, nb74⟩ := and_e nb72
  have ev74 := eqI_v na74
  obtain ⟨na76, nb76⟩ := and_e nb74
  have ev76 := eqI_v na76
  obtain ⟨na78, nb78⟩ := and_e nb76
  have ev78 := eqI_v na78
  obtain ⟨na80, nb80⟩ := and_e nb78
  have ev80 := eqI_v na80
  obtain ⟨na82, nb82⟩ := and_e nb80
  have ev82 := eqI_v na82
  have ev83 := eqI_v nb82
  have js1 := Cond.before_iff.mp (hsets _ (List.mem_of_getElem? (i := 1) rfl))
  obtain ⟨s_COMPACT_STRINGS, ev_s_COMPACT_STRINGS⟩ := is_v js1
  have S_COMPACT_STRINGS : Sta s s.heap "java/lang/String" "COMPACT_STRINGS" "Z" (.int s_COMPACT_STRINGS) := Sta.start ev_s_COMPACT_STRINGS (Or.inl (hsets _ (List.mem_of_getElem? (i := 0) rfl)))
  have js2 := Cond.before_iff.mp (hsets _ (List.mem_of_getElem? (i := 2) rfl))
  have hne_s_COMPACT_STRINGS_0 : ¬ (s_COMPACT_STRINGS = (0 : Int32)) := neI_v ev_s_COMPACT_STRINGS js2
  obtain ⟨hl_s__VALUES, hz_s__VALUES⟩ := own_len ev_s__VALUES A_s__VALUES ev3
  have H_s__VALUES : HasL cl_s__VALUES 0 [(.ref s_SET), (.ref s_LIST), (.ref s_BAG), (.ref s_IDBAG), (.ref s_MAP)] := ⟨own_el ev_s__VALUES A_s__VALUES ev6, own_el ev_s__VALUES A_s__VALUES ev9, own_el ev_s__VALUES A_s__VALUES ev12, own_el ev_s__VALUES A_s__VALUES ev15, own_el ev_s__VALUES A_s__VALUES ev18, trivial⟩
  have V_s__VALUES : Arv s s.heap s__VALUES cl_s__VALUES.cls (.object "com/example/cascade_mapper/cascademapper/model/CollectionForm") (5 : Int32) [(.ref s_SET), (.ref s_LIST), (.ref s_BAG), (.ref s_IDBAG), (.ref s_MAP)] .null := Arv.start hfit A_s__VALUES hl_s__VALUES hz_s__VALUES (by decide) rfl H_s__VALUES
  obtain ⟨hl_s_SET_elementName_value, hz_s_SET_elementName_value⟩ := own_len ev_s_SET_elementName_value A_s_SET_elementName_value ev24
  have H_s_SET_elementName_value : HasL cl_s_SET_elementName_value 0 [(.int (115 : Int32)), (.int (101 : Int32)), (.int (116 : Int32))] := ⟨own_el ev_s_SET_elementName_value A_s_SET_elementName_value ev26, own_el ev_s_SET_elementName_value A_s_SET_elementName_value ev28, own_el ev_s_SET_elementName_value A_s_SET_elementName_value ev30, trivial⟩
  have V_s_SET_elementName_value : Arv s s.heap s_SET_elementName_value cl_s_SET_elementName_value.cls .byte (3 : Int32) [(.int (115 : Int32)), (.int (101 : Int32)), (.int (116 : Int32))] (.int (0 : Int32)) := Arv.start hfit A_s_SET_elementName_value hl_s_SET_elementName_value hz_s_SET_elementName_value (by decide) rfl H_s_SET_elementName_value
  obtain ⟨hl_s_LIST_elementName_value, hz_s_LIST_elementName_value⟩ := own_len ev_s_LIST_elementName_value A_s_LIST_elementName_value ev36
  have H_s_LIST_elementName_value : HasL cl_s_LIST_elementName_value 0 [(.int (108 : Int32)), (.int (105 : Int32)), (.int (115 : Int32)), (.int (116 : Int32))] := ⟨own_el ev_s_LIST_elementName_value A_s_LIST_elementName_value ev64, own_el ev_s_LIST_elementName_value A_s_LIST_elementName_value ev66, own_el ev_s_LIST_elementName_value A_s_LIST_elementName_value ev68, own_el ev_s_LIST_elementName_value A_s_LIST_elementName_value ev70, trivial⟩
  have V_s_LIST_elementName_value : Arv s s.heap s_LIST_elementName_value cl_s_LIST_elementName_value.cls .byte (4 : Int32) [(.int (108 : Int32)), (.int (105 : Int32)), (.int (115 : Int32)), (.int (116 : Int32))] (.int (0 : Int32)) := Arv.start hfit A_s_LIST_elementName_value hl_s_LIST_elementName_value hz_s_LIST_elementName_value (by decide) rfl H_s_LIST_elementName_value
  obtain ⟨hl_s_BAG_elementName_value, hz_s_BAG_elementName_value⟩ := own_len ev_s_BAG_elementName_value A_s_BAG_elementName_value ev42
  have H_s_BAG_elementName_value : HasL cl_s_BAG_elementName_value 0 [(.int (98 : Int32)), (.int (97 : Int32)), (.int (103 : Int32))] := ⟨own_el ev_s_BAG_elementName_value A_s_BAG_elementName_value ev44, own_el ev_s_BAG_elementName_value A_s_BAG_elementName_value ev72, own_el ev_s_BAG_elementName_value A_s_BAG_elementName_value ev74, trivial⟩
  have V_s_BAG_elementName_value : Arv s s.heap s_BAG_elementName_value cl_s_BAG_elementName_value.cls .byte (3 : Int32) [(.int (98 : Int32)), (.int (97 : Int32)), (.int (103 : Int32))] (.int (0 : Int32)) := Arv.start hfit A_s_BAG_elementName_value hl_s_BAG_elementName_value hz_s_BAG_elementName_value (by decide) rfl H_s_BAG_elementName_value
  obtain ⟨hl_s_IDBAG_elementName_value, hz_s_IDBAG_elementName_value⟩ := own_len ev_s_IDBAG_elementName_value A_s_IDBAG_elementName_value ev50
  have H_s_IDBAG_elementName_value : HasL cl_s_IDBAG_elementName_value 0 [(.int (105 : Int32)), (.int (100 : Int32)), (.int (98 : Int32)), (.int (97 : Int32)), (.int (103 : Int32))] := ⟨own_el ev_s_IDBAG_elementName_value A_s_IDBAG_elementName_value ev76, own_el ev_s_IDBAG_elementName_value A_s_IDBAG_elementName_value ev78, own_el ev_s_IDBAG_elementName_value A_s_IDBAG_elementName_value ev80, own_el ev_s_IDBAG_elementName_value A_s_IDBAG_elementName_value ev82, own_el ev_s_IDBAG_elementName_value A_s_IDBAG_elementName_value ev83, trivial⟩
  have V_s_IDBAG_elementName_value : Arv s s.heap s_IDBAG_elementName_value cl_s_IDBAG_elementName_value.cls .byte (5 : Int32) [(.int (105 : Int32)), (.int (100 : Int32)), (.int (98 : Int32)), (.int (97 : Int32)), (.int (103 : Int32))] (.int (0 : Int32)) := Arv.start hfit A_s_IDBAG_elementName_value hl_s_IDBAG_elementName_value hz_s_IDBAG_elementName_value (by decide) rfl H_s_IDBAG_elementName_value
  obtain ⟨hl_s_MAP_elementName_value, hz_s_MAP_elementName_value⟩ := own_len ev_s_MAP_elementName_value A_s_MAP_elementName_value ev56
  have H_s_MAP_elementName_value : HasL cl_s_MAP_elementName_value 0 [(.int (109 : Int32)), (.int (97 : Int32)), (.int (112 : Int32))] := ⟨own_el ev_s_MAP_elementName_value A_s_MAP_elementName_value ev58, own_el ev_s_MAP_elementName_value A_s_MAP_elementName_value ev60, own_el ev_s_MAP_elementName_value A_s_MAP_elementName_value ev62, trivial⟩
  have V_s_MAP_elementName_value : Arv s s.heap s_MAP_elementName_value cl_s_MAP_elementName_value.cls .byte (3 : Int32) [(.int (109 : Int32)), (.int (97 : Int32)), (.int (112 : Int32))] (.int (0 : Int32)) := Arv.start hfit A_s_MAP_elementName_value hl_s_MAP_elementName_value hz_s_MAP_elementName_value (by decide) rfl H_s_MAP_elementName_value
  obtain ⟨s_SIO, ev_SIO, hr_SIO⟩ := isR_v (Cond.before_iff.mp (hsets _ (List.mem_of_getElem? (i := 8) rfl)))
  have S_SIO : Sta s s.heap "jdk/internal/util/Preconditions" "SIOOBE_FORMATTER" "Ljava/util/function/BiFunction;" s_SIO := Sta.start ev_SIO (Or.inl (hsets _ (List.mem_of_getElem? (i := 7) rfl)))
  have R_SIO : s_SIO = .null ∨ ∃ fa, s_SIO = .ref fa := ref_cases hr_SIO
  have hCH : CHv s own_EL s.vm s.heap := CHv.start (own_EW hw) (fun p hp => hcalls.1 p hp) (hsets _ (List.mem_of_getElem? (i := 2) rfl)) (own_w hw (i := 4) rfl) (own_w hw (i := 3) rfl)
  obtain ⟨n, o, h1, h2, h3, _, L, rfl, ⟨rfl, N⟩, -, hq⟩ := rm_law hw (A := fun n => ([s__VALUES, s_SET, s_LIST, s_BAG, s_IDBAG, s_MAP, s_SET_elementName, s_SET_elementName_value, s_LIST_elementName, s_LIST_elementName_value, s_BAG_elementName, s_BAG_elementName_value, s_IDBAG_elementName, s_IDBAG_elementName_value, s_MAP_elementName, s_MAP_elementName_value] : List Addr).getD n 0) (KC := fun n => ([cl_s__VALUES, cl_s_SET_elementName_value, cl_s_LIST_elementName_value, cl_s_BAG_elementName_value, cl_s_IDBAG_elementName_value, cl_s_MAP_elementName_value] : List Cell).getD n cl_s__VALUES) (IC := fun n => ([s_COMPACT_STRINGS] : List Int32).getD n 0) (VC := fun n => ([s_SIO] : List Value).getD n .null) ⟨S__VALUES, E_s__VALUES, S_SET, E_s_SET, S_LIST, E_s_LIST, S_BAG, E_s_BAG, S_IDBAG, E_s_IDBAG, S_MAP, E_s_MAP, F_s_SET_elementName, E_s_SET_elementName, F_s_SET_elementName_coder, F_s_SET_elementName_value, F_s_LIST_elementName, E_s_LIST_elementName, F_s_LIST_elementName_coder, F_s_LIST_elementName_value, F_s_BAG_elementName, E_s_BAG_elementName, F_s_BAG_elementName_coder, F_s_BAG_elementName_value, F_s_IDBAG_elementName, E_s_IDBAG_elementName, F_s_IDBAG_elementName_coder, F_s_IDBAG_elementName_value, F_s_MAP_elementName, E_s_MAP_elementName, F_s_MAP_elementName_coder, F_s_MAP_elementName_value, S_COMPACT_STRINGS, hne_s_COMPACT_STRINGS_0, V_s__VALUES, V_s_SET_elementName_value, V_s_LIST_elementName_value, V_s_BAG_elementName_value, V_s_IDBAG_elementName_value, V_s_MAP_elementName_value, S_SIO, R_SIO⟩ i0 i1 i2 i3 i4 i5 s.heap ext_rfl tables_1 p e ha hc hk s m _ below hf ((Spec.applies_iff_loose hf).mp happ).1 ⟨rfl, State.Warmed39.refl s, rfl, hCH⟩ trivial
  refine ⟨n, _, h1, h2, h3, hpost _ _ _ _ _ _ ⟨Cond.after_iff.mpr rfl, Cond.after_iff.mpr (eq_i res_at (Term.int_eval (1)) rfl), trivial⟩ ⟨hq.1, hq.2.1, hq.2.2.1, (hq.2.2.2.sift fun y hy => Or.inr (N y hy)).mono (by decide) (by decide)⟩⟩
theorem main_1_1 : Claimed_1_1 := comes_1 fun _ _ _ _ _ _ h hF => ⟨h.1, hF⟩
theorem main_1_2 : Claimed_1_2 := comes_1 fun _ _ _ _ _ _ h hF => ⟨h.2.1, hF⟩
end Jvm.Pilot.@@N@@
namespace Jvm.Pilot.@@N@@
open Jvm Jvm.ClassFile Sem Op Lib Jvm.Free Jvm.Stand Jvm.Pilot.@@N@@.Jvm.D
/-! MADE BY PROGRAM (witnessworld.py) out of the Statement's table words and the real class files: 22 classes; the members and pool entries that the words name. The judged class is class 1, her method 1. -/
namespace start1
open Jvm.ClassFile
def u (s : String) : CpInfo := .utf8 (stringToUtf16 s)
/-- a pool by its gaps: so many unusable entries, then the entry; so many at the end -/
def gap : Nat → List CpInfo → List CpInfo
  | 0, r => r
  | n + 1, r => .unusable :: gap n r
def poolList (es : List (Nat × CpInfo)) (last : Nat) : List CpInfo := es.foldr (fun e r => gap e.1 (e.2 :: r)) (gap last [])
def pool (es : List (Nat × CpInfo)) (last : Nat) : Array CpInfo := ⟨poolList es last⟩
def fileOf (pool : Array CpInfo) (this : Nat) (attrs : Array Attribute := #[]) (ms : Array MethodInfo := #[]) (fl : Nat := 33) (sup : Nat := 0) (ifs : Array Nat := #[]) (fds : Array FieldInfo := #[]) : ClassFile where
  minorVersion := 0
  majorVersion := 65
  constantPool := pool
  accessFlags := fl
  thisClass := this
  superClass := sup
  interfaces := ifs
  fields := fds
  methods := ms
  attributes := attrs
def plain (name : String) (sup : Option ClassId) : Class where
  name := name
  kind := .ordinary
  loader := none
  accessFlags := 33
  super := sup
  interfaces := #[]
  cf := none
  fields := #[]
  methods := #[]
  instanceTypes := #[]
  staticTypes := #[]
  resolved := #[]
  callSites := []
  init := .initialized
  statics := none
  mirror := none

def pool0 : Array CpInfo := pool [(5, u "<init>"), (0, u "()V"), (1, .class_ 10), (1, u "java/lang/Object"), (85, u "clone"), (0, u "()Ljava/lang/Object;")] 26

def k0c0 : Code := { maxStack := 0, maxLocals := 1, code := object_method_1_code, exceptionTable := #[], attributes := #[] }
def k0m0 : Method := { name := "<init>", desc := "()V", sig := { parameters := [], returnType := none }, accessFlags := 1, code := some k0c0 }
def k0m1 : Method := { name := "clone", desc := "()Ljava/lang/Object;", sig := { parameters := [], returnType := some (.object "java/lang/Object") }, accessFlags := 260, code := none }
/-- java/lang/Object -/
def k0 : Class := { plain "java/lang/Object" none with
  accessFlags := 33
  interfaces := #[]
  cf := some (fileOf pool0 8 #[] #[{ accessFlags := 1, nameIndex := 5, descriptorIndex := 6, attributes := #[] }, { accessFlags := 260, nameIndex := 96, descriptorIndex := 97, attributes := #[] }] 33 0 #[] #[])
  fields := #[]
  methods := #[k0m0, k0m1]
  instanceTypes := #[]
  staticTypes := #[]
  resolved := Array.replicate 124 none
  statics := none }

def pool1 : Array CpInfo := pool [(2, .class_ 4), (1, u "java/lang/Object"), (0, u "<init>"), (0, u "()V"), (0, .string 8), (0, u "set"), (0, .string 10), (0, u "list"), (0, .string 12), (0, u "bag"), (0, .string 14), (0, u "idbag"), (0, .string 16), (0, u "map"), (0, .methodref 18 19), (0, .class_ 20), (0, .nameAndType 21 22), (0, u "java/lang/String"), (0, u "length"), (0, u "()I"), (0, .methodref 18 24), (0, .nameAndType 25 26), (0, u "charAt"), (0, u "(I)C"), (0, .methodref 28 29), (0, .class_ 30), (0, .nameAndType 31 32), (0, u "com/example/cascade_mapper/cascademapper/model/CollectionFormNamedPinLaw"), (0, u "make"), (0, u "([CI)Ljava/lang/String;"), (0, .methodref 34 35), (0, .class_ 36), (0, .nameAndType 37 38), (0, u "com/example/cascade_mapper/cascademapper/model/CollectionForm"), (0, u "named"), (0, u "(Ljava/lang/String;)Lcom/example/cascade_mapper/cascademapper/model/CollectionForm;"), (0, .methodref 18 40), (0, .nameAndType 41 42), (0, u "equals"), (0, u "(Ljava/lang/Object;)Z"), (0, .fieldref 34 44), (0, .nameAndType 45 46), (0, u "SET"), (0, u "Lcom/example/cascade_mapper/cascademapper/model/CollectionForm;"), (0, .fieldref 34 48), (0, .nameAndType 49 46), (0, u "LIST"), (0, .fieldref 34 51), (0, .nameAndType 52 46), (0, u "BAG"), (0, .fieldref 34 54), (0, .nameAndType 55 46), (0, u "IDBAG"), (0, .fieldref 34 57), (0, .nameAndType 58 46), (0, u "MAP"), (0, .methodref 18 60), (0, .nameAndType 5 61), (0, u "([C)V"), (2, u "law"), (0, u "(IIIIII)Z")] 5

def k1m0 : Method := { name := "<init>", desc := "()V", sig := { parameters := [], returnType := none }, accessFlags := 1, code := none }
def k1c1 : Code := { maxStack := 4, maxLocals := 12, code := code, exceptionTable := #[], attributes := #[] }
def k1m1 : Method := { name := "law", desc := "(IIIIII)Z", sig := { parameters := [.int, .int, .int, .int, .int, .int], returnType := some .boolean }, accessFlags := 9, code := some k1c1 }
def k1c2 : Code := { maxStack := 7, maxLocals := 2, code := method_3_code, exceptionTable := #[], attributes := #[] }
def k1m2 : Method := { name := "make", desc := "([CI)Ljava/lang/String;", sig := { parameters := [(.array .char), .int], returnType := some (.object "java/lang/String") }, accessFlags := 10, code := some k1c2 }
/-- com/example/cascade_mapper/cascademapper/model/CollectionFormNamedPinLaw -/
def k1 : Class := { plain "com/example/cascade_mapper/cascademapper/model/CollectionFormNamedPinLaw" (some 0) with
  accessFlags := 49
  interfaces := #[]
  cf := some (fileOf pool1 28 #[] #[{ accessFlags := 1, nameIndex := 5, descriptorIndex := 6, attributes := #[] }, { accessFlags := 9, nameIndex := 64, descriptorIndex := 65, attributes := #[] }, { accessFlags := 10, nameIndex := 31, descriptorIndex := 32, attributes := #[] }] 49 2 #[] #[])
  fields := #[]
  methods := #[k1m0, k1m1, k1m2]
  instanceTypes := #[]
  staticTypes := #[]
  resolved := Array.replicate 71 none
  statics := none }

def pool2 : Array CpInfo := pool [(1, .class_ 2), (0, u "java/io/Serializable"), (0, .class_ 4), (0, u "java/lang/Object")] 2

/-- java/io/Serializable -/
def k2 : Class := { plain "java/io/Serializable" (some 0) with
  accessFlags := 1537
  interfaces := #[]
  cf := some (fileOf pool2 1 #[] #[] 1537 3 #[] #[])
  fields := #[]
  methods := #[]
  instanceTypes := #[]
  staticTypes := #[]
  resolved := Array.replicate 7 none
  statics := none }

def pool3 : Array CpInfo := pool [(1, .class_ 2), (0, u "java/lang/Comparable"), (0, .class_ 4), (0, u "java/lang/Object")] 7

/-- java/lang/Comparable -/
def k3 : Class := { plain "java/lang/Comparable" (some 0) with
  accessFlags := 1537
  interfaces := #[]
  cf := some (fileOf pool3 1 #[] #[] 1537 3 #[] #[])
  fields := #[]
  methods := #[]
  instanceTypes := #[]
  staticTypes := #[]
  resolved := Array.replicate 12 none
  statics := none }

def pool4 : Array CpInfo := pool [(2, .class_ 4), (1, u "java/lang/CharSequence"), (42, .class_ 48), (0, u "java/lang/CharSequence$1CodePointIterator"), (10, .class_ 60), (0, u "java/lang/CharSequence$1CharIterator"), (5, .class_ 67), (0, u "java/lang/Object")] 63

/-- java/lang/CharSequence -/
def k4 : Class := { plain "java/lang/CharSequence" (some 0) with
  accessFlags := 1537
  interfaces := #[]
  cf := some (fileOf pool4 2 #[.nestMembers #[47, 59]] #[] 1537 66 #[] #[])
  fields := #[]
  methods := #[]
  instanceTypes := #[]
  staticTypes := #[]
  resolved := Array.replicate 131 none
  statics := none }

def pool5 : Array CpInfo := pool [(1, .class_ 2), (0, u "java/lang/constant/Constable"), (0, .class_ 4), (0, u "java/lang/Object")] 6

/-- java/lang/constant/Constable -/
def k5 : Class := { plain "java/lang/constant/Constable" (some 0) with
  accessFlags := 1537
  interfaces := #[]
  cf := some (fileOf pool5 1 #[] #[] 1537 3 #[] #[])
  fields := #[]
  methods := #[]
  instanceTypes := #[]
  staticTypes := #[]
  resolved := Array.replicate 11 none
  statics := none }

def pool6 : Array CpInfo := pool [(1, .class_ 2), (0, u "java/lang/constant/ConstantDesc"), (0, .class_ 4), (0, u "java/lang/Object")] 32

/-- java/lang/constant/ConstantDesc -/
def k6 : Class := { plain "java/lang/constant/ConstantDesc" (some 0) with
  accessFlags := 1537
  interfaces := #[]
  cf := some (fileOf pool6 1 #[] #[] 1537 3 #[] #[])
  fields := #[]
  methods := #[]
  instanceTypes := #[]
  staticTypes := #[]
  resolved := Array.replicate 37 none
  statics := none }

def pool7 : Array CpInfo := pool [(1, .methodref 2 3), (0, .class_ 4), (0, .nameAndType 5 6), (0, u "java/lang/Object"), (0, u "<init>"), (0, u "()V"), (0, .string 8), (0, u ""), (0, .fieldref 10 11), (0, .class_ 12), (0, .nameAndType 13 14), (0, u "java/lang/String"), (0, u "value"), (0, u "[B"), (0, .fieldref 10 16), (0, .nameAndType 17 18), (0, u "coder"), (0, u "B"), (2, u "hash"), (0, u "I"), (2, u "hashIsZero"), (0, u "Z"), (0, .methodref 10 28), (0, .nameAndType 5 29), (0, u "([CIILjava/lang/Void;)V"), (8, .fieldref 10 39), (0, .nameAndType 40 26), (0, u "COMPACT_STRINGS"), (1, .class_ 44), (1, u "java/lang/StringUTF16"), (0, u "compress"), (1, .methodref 42 48), (0, .nameAndType 49 50), (0, u "coderFromArrayLen"), (0, u "([BI)B"), (56, .class_ 109), (1, u "java/lang/StringLatin1"), (32, u "()Z"), (34, .methodref 42 178), (0, .nameAndType 45 179), (0, u "([CII)[B"), (154, u "()I"), (0, .methodref 10 336), (0, .nameAndType 17 337), (0, u "()B"), (25, u "([BI)C"), (27, u "(II)V"), (35, u "(I)C"), (64, .methodref 10 493), (0, .nameAndType 494 142), (0, u "isLatin1"), (0, .methodref 107 496), (0, .nameAndType 497 363), (0, u "charAt"), (3, u "checkIndex"), (5, u "length"), (33, .methodref 107 542), (0, .nameAndType 543 544), (0, u "equals"), (0, u "([B[B)Z"), (28, u "(Ljava/lang/Object;)Z"), (1, .class_ 576), (0, u "java/lang/CharSequence"), (22, u "CASE_INSENSITIVE_ORDER"), (0, u "Ljava/util/Comparator;"), (409, u "([C)V"), (42, .fieldref 1054 1055), (0, .class_ 1056), (0, .nameAndType 1057 1058), (0, u "jdk/internal/util/Preconditions"), (0, u "SIOOBE_FORMATTER"), (0, u "Ljava/util/function/BiFunction;"), (0, .methodref 1054 1060), (0, .nameAndType 501 1061), (0, u "(IILjava/util/function/BiFunction;)I"), (39, u "serialPersistentFields"), (0, u "[Ljava/io/ObjectStreamField;"), (0, .class_ 1104), (0, u "java/lang/String$CaseInsensitiveComparator"), (1, .class_ 1107), (0, u "java/io/Serializable"), (0, .class_ 1109), (0, u "java/lang/Comparable"), (0, .class_ 1111), (0, u "java/lang/constant/Constable"), (0, .class_ 1113), (0, u "java/lang/constant/ConstantDesc"), (2, u "serialVersionUID"), (0, u "J"), (3, u "REPL"), (0, u "C"), (2, u "LATIN1"), (1, u "UTF16")] 323

def k7m0 : Method := { name := "<init>", desc := "()V", sig := { parameters := [], returnType := none }, accessFlags := 1, code := none }
def k7c1 : Code := { maxStack := 5, maxLocals := 2, code := jdk_42_method_3_code, exceptionTable := #[], attributes := #[] }
def k7m1 : Method := { name := "<init>", desc := "([C)V", sig := { parameters := [(.array .char)], returnType := none }, accessFlags := 1, code := some k7c1 }
def k7c2 : Code := { maxStack := 2, maxLocals := 1, code := jdk_42_method_54_code, exceptionTable := #[], attributes := #[] }
def k7m2 : Method := { name := "length", desc := "()I", sig := { parameters := [], returnType := some .int }, accessFlags := 1, code := some k7c2 }
def k7c3 : Code := { maxStack := 2, maxLocals := 2, code := jdk_42_method_56_code, exceptionTable := #[], attributes := #[] }
def k7m3 : Method := { name := "charAt", desc := "(I)C", sig := { parameters := [.int], returnType := some .char }, accessFlags := 1, code := some k7c3 }
def k7c4 : Code := { maxStack := 2, maxLocals := 3, code := jdk_42_method_66_code, exceptionTable := #[], attributes := #[] }
def k7m4 : Method := { name := "equals", desc := "(Ljava/lang/Object;)Z", sig := { parameters := [(.object "java/lang/Object")], returnType := some .boolean }, accessFlags := 1, code := some k7c4 }
def k7c5 : Code := { maxStack := 4, maxLocals := 6, code := jdk_42_method_149_code, exceptionTable := #[], attributes := #[] }
def k7m5 : Method := { name := "<init>", desc := "([CIILjava/lang/Void;)V", sig := { parameters := [(.array .char), .int, .int, (.object "java/lang/Void")], returnType := none }, accessFlags := 2, code := some k7c5 }
def k7c6 : Code := { maxStack := 1, maxLocals := 1, code := jdk_42_method_152_code, exceptionTable := #[], attributes := #[] }
def k7m6 : Method := { name := "coder", desc := "()B", sig := { parameters := [], returnType := some .byte }, accessFlags := 0, code := some k7c6 }
def k7c7 : Code := { maxStack := 1, maxLocals := 1, code := jdk_42_method_154_code, exceptionTable := #[], attributes := #[] }
def k7m7 : Method := { name := "isLatin1", desc := "()Z", sig := { parameters := [], returnType := some .boolean }, accessFlags := 0, code := some k7c7 }
def k7c8 : Code := { maxStack := 3, maxLocals := 2, code := jdk_42_method_155_code, exceptionTable := #[], attributes := #[] }
def k7m8 : Method := { name := "checkIndex", desc := "(II)V", sig := { parameters := [.int, .int], returnType := none }, accessFlags := 8, code := some k7c8 }
/-- java/lang/String -/
def k7 : Class := { plain "java/lang/String" (some 0) with
  accessFlags := 49
  interfaces := #[2, 3, 4, 5, 6]
  cf := some (fileOf pool7 10 #[.nestMembers #[1103]] #[{ accessFlags := 1, nameIndex := 5, descriptorIndex := 6, attributes := #[] }, { accessFlags := 1, nameIndex := 5, descriptorIndex := 1010, attributes := #[] }, { accessFlags := 1, nameIndex := 507, descriptorIndex := 334, attributes := #[] }, { accessFlags := 1, nameIndex := 497, descriptorIndex := 427, attributes := #[] }, { accessFlags := 1, nameIndex := 543, descriptorIndex := 573, attributes := #[] }, { accessFlags := 2, nameIndex := 5, descriptorIndex := 29, attributes := #[] }, { accessFlags := 0, nameIndex := 17, descriptorIndex := 337, attributes := #[] }, { accessFlags := 0, nameIndex := 494, descriptorIndex := 142, attributes := #[] }, { accessFlags := 8, nameIndex := 501, descriptorIndex := 391, attributes := #[] }] 49 2 #[1106, 1108, 575, 1110, 1112] #[{ accessFlags := 18, nameIndex := 13, descriptorIndex := 14, attributes := #[] }, { accessFlags := 18, nameIndex := 17, descriptorIndex := 18, attributes := #[] }, { accessFlags := 2, nameIndex := 21, descriptorIndex := 22, attributes := #[] }, { accessFlags := 2, nameIndex := 25, descriptorIndex := 26, attributes := #[] }, { accessFlags := 26, nameIndex := 1116, descriptorIndex := 1117, attributes := #[] }, { accessFlags := 24, nameIndex := 40, descriptorIndex := 26, attributes := #[] }, { accessFlags := 26, nameIndex := 1101, descriptorIndex := 1102, attributes := #[] }, { accessFlags := 26, nameIndex := 1121, descriptorIndex := 1122, attributes := #[] }, { accessFlags := 25, nameIndex := 599, descriptorIndex := 600, attributes := #[] }, { accessFlags := 24, nameIndex := 1125, descriptorIndex := 18, attributes := #[] }, { accessFlags := 24, nameIndex := 1127, descriptorIndex := 18, attributes := #[] }])
  fields := #[{ name := "value", type := (.array .byte), accessFlags := 18, slot := 0, constantValue := 0 }, { name := "coder", type := .byte, accessFlags := 18, slot := 1, constantValue := 0 }, { name := "hash", type := .int, accessFlags := 2, slot := 2, constantValue := 0 }, { name := "hashIsZero", type := .boolean, accessFlags := 2, slot := 3, constantValue := 0 }, { name := "serialVersionUID", type := .long, accessFlags := 26, slot := 0, constantValue := 0 }, { name := "COMPACT_STRINGS", type := .boolean, accessFlags := 24, slot := 1, constantValue := 0 }, { name := "serialPersistentFields", type := (.array (.object "java/io/ObjectStreamField")), accessFlags := 26, slot := 2, constantValue := 0 }, { name := "REPL", type := .char, accessFlags := 26, slot := 3, constantValue := 0 }, { name := "CASE_INSENSITIVE_ORDER", type := (.object "java/util/Comparator"), accessFlags := 25, slot := 4, constantValue := 0 }, { name := "LATIN1", type := .byte, accessFlags := 24, slot := 5, constantValue := 0 }, { name := "UTF16", type := .byte, accessFlags := 24, slot := 6, constantValue := 0 }]
  methods := #[k7m0, k7m1, k7m2, k7m3, k7m4, k7m5, k7m6, k7m7, k7m8]
  instanceTypes := #[(.array .byte), .byte, .int, .boolean]
  staticTypes := #[.long, .boolean, (.array (.object "java/io/ObjectStreamField")), .char, (.object "java/util/Comparator"), .byte, .byte]
  resolved := Array.replicate 1451 none
  statics := some 0 }

def pool8 : Array CpInfo := pool [(1, .class_ 2), (0, u "java/lang/String"), (1, .class_ 6), (1, u "java/lang/Object"), (0, u "<init>"), (0, u "()V"), (0, .methodref 1 10), (0, .nameAndType 11 12), (0, u "checkIndex"), (0, u "(II)V"), (1, .class_ 16), (1, u "java/lang/StringLatin1"), (36, u "([BI)C"), (67, u "$assertionsDisabled"), (0, u "Z"), (98, .class_ 223), (1, u "java/lang/StringLatin1$LinesSpliterator"), (28, u "charAt"), (28, u "equals"), (0, u "([B[B)Z"), (107, .class_ 391), (0, u "java/lang/StringLatin1$CharsSpliterator")] 3

def k8m0 : Method := { name := "<init>", desc := "()V", sig := { parameters := [], returnType := none }, accessFlags := 0, code := none }
def k8c1 : Code := { maxStack := 2, maxLocals := 2, code := jdk_43_method_2_code, exceptionTable := #[], attributes := #[] }
def k8m1 : Method := { name := "charAt", desc := "([BI)C", sig := { parameters := [(.array .byte), .int], returnType := some .char }, accessFlags := 9, code := some k8c1 }
def k8c2 : Code := { maxStack := 3, maxLocals := 3, code := jdk_43_method_13_code, exceptionTable := #[], attributes := #[] }
def k8m2 : Method := { name := "equals", desc := "([B[B)Z", sig := { parameters := [(.array .byte), (.array .byte)], returnType := some .boolean }, accessFlags := 9, code := some k8c2 }
/-- java/lang/StringLatin1 -/
def k8 : Class := { plain "java/lang/StringLatin1" (some 0) with
  accessFlags := 48
  interfaces := #[]
  cf := some (fileOf pool8 14 #[.nestMembers #[390, 221]] #[{ accessFlags := 0, nameIndex := 7, descriptorIndex := 8, attributes := #[] }, { accessFlags := 9, nameIndex := 252, descriptorIndex := 53, attributes := #[] }, { accessFlags := 9, nameIndex := 281, descriptorIndex := 282, attributes := #[] }] 48 4 #[] #[{ accessFlags := 4120, nameIndex := 121, descriptorIndex := 122, attributes := #[] }])
  fields := #[{ name := "$assertionsDisabled", type := .boolean, accessFlags := 4120, slot := 0, constantValue := 0 }]
  methods := #[k8m0, k8m1, k8m2]
  instanceTypes := #[]
  staticTypes := #[.boolean]
  resolved := Array.replicate 395 none
  statics := none }

def pool9 : Array CpInfo := pool [(2, .class_ 4), (1, u "java/lang/Object"), (0, u "<init>"), (0, u "()V"), (17, .class_ 26), (1, u "jdk/internal/util/Preconditions"), (6, u "checkIndex"), (21, .class_ 56), (0, u "jdk/internal/util/Preconditions$4"), (57, .class_ 115), (0, u "jdk/internal/util/Preconditions$1"), (7, u "SIOOBE_FORMATTER"), (0, u "Ljava/util/function/BiFunction;"), (0, .class_ 126), (0, u "jdk/internal/util/Preconditions$2"), (3, u "AIOOBE_FORMATTER"), (0, .class_ 132), (0, u "jdk/internal/util/Preconditions$3"), (3, u "IOOBE_FORMATTER"), (41, u "(IILjava/util/function/BiFunction;)I")] 15

def k9m0 : Method := { name := "<init>", desc := "()V", sig := { parameters := [], returnType := none }, accessFlags := 1, code := none }
def k9c1 : Code := { maxStack := 3, maxLocals := 3, code := jdk_41_method_11_code, exceptionTable := #[], attributes := #[] }
def k9m1 : Method := { name := "checkIndex", desc := "(IILjava/util/function/BiFunction;)I", sig := { parameters := [.int, .int, (.object "java/util/function/BiFunction")], returnType := some .int }, accessFlags := 9, code := some k9c1 }
/-- jdk/internal/util/Preconditions -/
def k9 : Class := { plain "jdk/internal/util/Preconditions" (some 0) with
  accessFlags := 33
  interfaces := #[]
  cf := some (fileOf pool9 24 #[.nestMembers #[55, 131, 125, 114]] #[{ accessFlags := 1, nameIndex := 5, descriptorIndex := 6, attributes := #[] }, { accessFlags := 9, nameIndex := 33, descriptorIndex := 178, attributes := #[] }] 33 2 #[] #[{ accessFlags := 25, nameIndex := 123, descriptorIndex := 124, attributes := #[] }, { accessFlags := 25, nameIndex := 130, descriptorIndex := 124, attributes := #[] }, { accessFlags := 25, nameIndex := 136, descriptorIndex := 124, attributes := #[] }])
  fields := #[{ name := "SIOOBE_FORMATTER", type := (.object "java/util/function/BiFunction"), accessFlags := 25, slot := 0, constantValue := 0 }, { name := "AIOOBE_FORMATTER", type := (.object "java/util/function/BiFunction"), accessFlags := 25, slot := 1, constantValue := 0 }, { name := "IOOBE_FORMATTER", type := (.object "java/util/function/BiFunction"), accessFlags := 25, slot := 2, constantValue := 0 }]
  methods := #[k9m0, k9m1]
  instanceTypes := #[]
  staticTypes := #[(.object "java/util/function/BiFunction"), (.object "java/util/function/BiFunction"), (.object "java/util/function/BiFunction")]
  resolved := Array.replicate 194 none
  statics := some 1 }

def pool10 : Array CpInfo := pool [(6, .class_ 8), (1, u "java/lang/Object"), (0, u "<init>"), (0, u "()V"), (1, .class_ 14), (1, u "java/lang/StringUTF16"), (31, u "$assertionsDisabled"), (0, u "Z"), (13, u "HI_BYTE_SHIFT"), (0, u "I"), (2, u "LO_BYTE_SHIFT"), (49, .methodref 12 116), (0, .nameAndType 117 118), (0, u "compress"), (0, u "([CI[BII)I"), (3, u "([CII)[B"), (138, u "coderFromArrayLen"), (0, u "([BI)B"), (106, .class_ 371), (1, u "java/lang/StringUTF16$LinesSpliterator"), (58, u "MAX_LENGTH"), (196, .class_ 628), (0, u "java/lang/StringUTF16$CodePointsSpliterator"), (0, .class_ 630), (0, u "java/lang/StringUTF16$CharsSpliterator")] 4

def k10m0 : Method := { name := "<init>", desc := "()V", sig := { parameters := [], returnType := none }, accessFlags := 0, code := none }
def k10c1 : Code := { maxStack := 2, maxLocals := 2, code := jdk_52_method_15_code, exceptionTable := #[], attributes := #[] }
def k10m1 : Method := { name := "coderFromArrayLen", desc := "([BI)B", sig := { parameters := [(.array .byte), .int], returnType := some .byte }, accessFlags := 8, code := some k10c1 }
def k10c2 : Code := { maxStack := 5, maxLocals := 6, code := jdk_52_method_16_code, exceptionTable := #[], attributes := #[] }
def k10m2 : Method := { name := "compress", desc := "([CII)[B", sig := { parameters := [(.array .char), .int, .int], returnType := some (.array .byte) }, accessFlags := 9, code := some k10c2 }
def k10c3 : Code := { maxStack := 3, maxLocals := 7, code := jdk_52_method_21_code, exceptionTable := #[], attributes := #[] }
def k10m3 : Method := { name := "compress", desc := "([CI[BII)I", sig := { parameters := [(.array .char), .int, (.array .byte), .int, .int], returnType := some .int }, accessFlags := 9, code := some k10c3 }
/-- java/lang/StringUTF16 -/
def k10 : Class := { plain "java/lang/StringUTF16" (some 0) with
  accessFlags := 48
  interfaces := #[]
  cf := some (fileOf pool10 12 #[.nestMembers #[627, 629, 369]] #[{ accessFlags := 0, nameIndex := 9, descriptorIndex := 10, attributes := #[] }, { accessFlags := 8, nameIndex := 261, descriptorIndex := 262, attributes := #[] }, { accessFlags := 9, nameIndex := 117, descriptorIndex := 122, attributes := #[] }, { accessFlags := 9, nameIndex := 117, descriptorIndex := 118, attributes := #[] }] 48 6 #[] #[{ accessFlags := 26, nameIndex := 61, descriptorIndex := 62, attributes := #[] }, { accessFlags := 26, nameIndex := 65, descriptorIndex := 62, attributes := #[] }, { accessFlags := 24, nameIndex := 430, descriptorIndex := 62, attributes := #[] }, { accessFlags := 4120, nameIndex := 46, descriptorIndex := 47, attributes := #[] }])
  fields := #[{ name := "HI_BYTE_SHIFT", type := .int, accessFlags := 26, slot := 0, constantValue := 0 }, { name := "LO_BYTE_SHIFT", type := .int, accessFlags := 26, slot := 1, constantValue := 0 }, { name := "MAX_LENGTH", type := .int, accessFlags := 24, slot := 2, constantValue := 0 }, { name := "$assertionsDisabled", type := .boolean, accessFlags := 4120, slot := 3, constantValue := 0 }]
  methods := #[k10m0, k10m1, k10m2, k10m3]
  instanceTypes := #[]
  staticTypes := #[.int, .int, .int, .boolean]
  resolved := Array.replicate 635 none
  statics := none }

def pool11 : Array CpInfo := pool [(2, .class_ 4), (1, u "java/lang/Enum"), (0, u "name"), (0, u "Ljava/lang/String;"), (2, u "ordinal"), (0, u "I"), (1, .class_ 14), (1, u "java/lang/Object"), (4, u "hash"), (86, .class_ 108), (1, u "java/lang/Enum$EnumDesc"), (2, .class_ 112), (0, u "java/lang/constant/Constable"), (0, .class_ 114), (0, u "java/lang/Comparable"), (0, .class_ 116), (0, u "java/io/Serializable")] 87

/-- java/lang/Enum -/
def k11 : Class := { plain "java/lang/Enum" (some 0) with
  accessFlags := 1057
  interfaces := #[5, 3, 2]
  cf := some (fileOf pool11 2 #[.nestMembers #[106]] #[] 1057 12 #[111, 113, 115] #[{ accessFlags := 18, nameIndex := 5, descriptorIndex := 6, attributes := #[] }, { accessFlags := 18, nameIndex := 9, descriptorIndex := 10, attributes := #[] }, { accessFlags := 2, nameIndex := 19, descriptorIndex := 10, attributes := #[] }])
  fields := #[{ name := "name", type := (.object "java/lang/String"), accessFlags := 18, slot := 0, constantValue := 0 }, { name := "ordinal", type := .int, accessFlags := 18, slot := 1, constantValue := 0 }, { name := "hash", type := .int, accessFlags := 2, slot := 2, constantValue := 0 }]
  methods := #[]
  instanceTypes := #[(.object "java/lang/String"), .int, .int]
  staticTypes := #[]
  resolved := Array.replicate 204 none
  statics := none }

def pool12 : Array CpInfo := pool [(1, .class_ 2), (0, u "com/example/cascade_mapper/cascademapper/model/CollectionForm"), (2, u "SET"), (0, u "Lcom/example/cascade_mapper/cascademapper/model/CollectionForm;"), (2, u "LIST"), (2, u "BAG"), (2, u "IDBAG"), (2, u "MAP"), (0, .fieldref 1 20), (0, .nameAndType 21 22), (0, u "$VALUES"), (0, u "[Lcom/example/cascade_mapper/cascademapper/model/CollectionForm;"), (0, .methodref 24 25), (0, .class_ 22), (0, .nameAndType 26 27), (0, u "clone"), (0, u "()Ljava/lang/Object;"), (1, .class_ 31), (1, u "java/lang/Enum"), (6, .fieldref 1 39), (0, .nameAndType 40 41), (0, u "elementName"), (0, u "Ljava/lang/String;"), (0, .methodref 1 43), (0, .nameAndType 44 45), (0, u "values"), (0, u "()[Lcom/example/cascade_mapper/cascademapper/model/CollectionForm;"), (0, .methodref 47 48), (0, .class_ 49), (0, .nameAndType 50 51), (0, u "java/lang/String"), (0, u "equals"), (0, u "(Ljava/lang/Object;)Z"), (23, u "(Ljava/lang/String;)Lcom/example/cascade_mapper/cascademapper/model/CollectionForm;"), (4, u "named")] 6

def k12c0 : Code := { maxStack := 1, maxLocals := 0, code := prog_70_method_1_code, exceptionTable := #[], attributes := #[] }
def k12m0 : Method := { name := "values", desc := "()[Lcom/example/cascade_mapper/cascademapper/model/CollectionForm;", sig := { parameters := [], returnType := some (.array (.object "com/example/cascade_mapper/cascademapper/model/CollectionForm")) }, accessFlags := 9, code := some k12c0 }
def k12c1 : Code := { maxStack := 2, maxLocals := 6, code := prog_70_method_5_code, exceptionTable := #[], attributes := #[] }
def k12m1 : Method := { name := "named", desc := "(Ljava/lang/String;)Lcom/example/cascade_mapper/cascademapper/model/CollectionForm;", sig := { parameters := [(.object "java/lang/String")], returnType := some (.object "com/example/cascade_mapper/cascademapper/model/CollectionForm") }, accessFlags := 8, code := some k12c1 }
/-- com/example/cascade_mapper/cascademapper/model/CollectionForm -/
def k12 : Class := { plain "com/example/cascade_mapper/cascademapper/model/CollectionForm" (some 11) with
  accessFlags := 16433
  interfaces := #[]
  cf := some (fileOf pool12 1 #[] #[{ accessFlags := 9, nameIndex := 44, descriptorIndex := 45, attributes := #[] }, { accessFlags := 8, nameIndex := 80, descriptorIndex := 75, attributes := #[] }] 16433 29 #[] #[{ accessFlags := 16409, nameIndex := 5, descriptorIndex := 6, attributes := #[] }, { accessFlags := 16409, nameIndex := 9, descriptorIndex := 6, attributes := #[] }, { accessFlags := 16409, nameIndex := 12, descriptorIndex := 6, attributes := #[] }, { accessFlags := 16409, nameIndex := 15, descriptorIndex := 6, attributes := #[] }, { accessFlags := 16409, nameIndex := 18, descriptorIndex := 6, attributes := #[] }, { accessFlags := 18, nameIndex := 40, descriptorIndex := 41, attributes := #[] }, { accessFlags := 4122, nameIndex := 21, descriptorIndex := 22, attributes := #[] }])
  fields := #[{ name := "SET", type := (.object "com/example/cascade_mapper/cascademapper/model/CollectionForm"), accessFlags := 16409, slot := 0, constantValue := 0 }, { name := "LIST", type := (.object "com/example/cascade_mapper/cascademapper/model/CollectionForm"), accessFlags := 16409, slot := 1, constantValue := 0 }, { name := "BAG", type := (.object "com/example/cascade_mapper/cascademapper/model/CollectionForm"), accessFlags := 16409, slot := 2, constantValue := 0 }, { name := "IDBAG", type := (.object "com/example/cascade_mapper/cascademapper/model/CollectionForm"), accessFlags := 16409, slot := 3, constantValue := 0 }, { name := "MAP", type := (.object "com/example/cascade_mapper/cascademapper/model/CollectionForm"), accessFlags := 16409, slot := 4, constantValue := 0 }, { name := "elementName", type := (.object "java/lang/String"), accessFlags := 18, slot := 3, constantValue := 0 }, { name := "$VALUES", type := (.array (.object "com/example/cascade_mapper/cascademapper/model/CollectionForm")), accessFlags := 4122, slot := 5, constantValue := 0 }]
  methods := #[k12m0, k12m1]
  instanceTypes := #[(.object "java/lang/String"), .int, .int, (.object "java/lang/String")]
  staticTypes := #[(.object "com/example/cascade_mapper/cascademapper/model/CollectionForm"), (.object "com/example/cascade_mapper/cascademapper/model/CollectionForm"), (.object "com/example/cascade_mapper/cascademapper/model/CollectionForm"), (.object "com/example/cascade_mapper/cascademapper/model/CollectionForm"), (.object "com/example/cascade_mapper/cascademapper/model/CollectionForm"), (.array (.object "com/example/cascade_mapper/cascademapper/model/CollectionForm"))]
  resolved := Array.replicate 87 none
  statics := some 2 }

def pool13 : Array CpInfo := pool [(1, .class_ 2), (0, u "java/lang/Cloneable"), (0, .class_ 4), (0, u "java/lang/Object")] 2

/-- java/lang/Cloneable -/
def k13 : Class := { plain "java/lang/Cloneable" (some 0) with
  accessFlags := 1537
  interfaces := #[]
  cf := some (fileOf pool13 1 #[] #[] 1537 3 #[] #[])
  fields := #[]
  methods := #[]
  instanceTypes := #[]
  staticTypes := #[]
  resolved := Array.replicate 7 none
  statics := none }

def pool14 : Array CpInfo := pool [(9, u "<init>"), (6, .class_ 18), (1, u "java/lang/Object"), (0, u "()V"), (1, .class_ 23), (1, u "jdk/internal/util/ArraysSupport"), (0, u "LOG2_ARRAY_LONG_INDEX_SCALE"), (0, u "I"), (2, u "U"), (0, u "Ljdk/internal/misc/Unsafe;"), (8, u "BIG_ENDIAN"), (0, u "Z"), (8, u "LOG2_BYTE_BIT_SIZE"), (4, u "LOG2_ARRAY_INT_INDEX_SCALE"), (54, u "JLA"), (0, u "Ljdk/internal/access/JavaLangAccess;"), (11, u "LOG2_ARRAY_BOOLEAN_INDEX_SCALE"), (9, u "LOG2_ARRAY_BYTE_INDEX_SCALE"), (5, u "LOG2_ARRAY_CHAR_INDEX_SCALE"), (5, u "LOG2_ARRAY_SHORT_INDEX_SCALE"), (18, u "LOG2_ARRAY_FLOAT_INDEX_SCALE"), (24, u "LOG2_ARRAY_DOUBLE_INDEX_SCALE"), (89, u "T_BOOLEAN"), (2, u "T_CHAR"), (1, u "T_FLOAT"), (1, u "T_DOUBLE"), (1, u "T_BYTE"), (1, u "T_SHORT"), (1, u "T_INT"), (1, u "T_LONG"), (1, u "SOFT_MAX_ARRAY_LENGTH")] 83

def k14m0 : Method := { name := "<init>", desc := "()V", sig := { parameters := [], returnType := none }, accessFlags := 2, code := none }
/-- jdk/internal/util/ArraysSupport -/
def k14 : Class := { plain "jdk/internal/util/ArraysSupport" (some 0) with
  accessFlags := 33
  interfaces := #[]
  cf := some (fileOf pool14 21 #[] #[{ accessFlags := 2, nameIndex := 9, descriptorIndex := 19, attributes := #[] }] 33 16 #[] #[{ accessFlags := 24, nameIndex := 28, descriptorIndex := 29, attributes := #[] }, { accessFlags := 26, nameIndex := 38, descriptorIndex := 39, attributes := #[] }, { accessFlags := 25, nameIndex := 121, descriptorIndex := 25, attributes := #[] }, { accessFlags := 25, nameIndex := 131, descriptorIndex := 25, attributes := #[] }, { accessFlags := 25, nameIndex := 137, descriptorIndex := 25, attributes := #[] }, { accessFlags := 25, nameIndex := 143, descriptorIndex := 25, attributes := #[] }, { accessFlags := 25, nameIndex := 53, descriptorIndex := 25, attributes := #[] }, { accessFlags := 25, nameIndex := 24, descriptorIndex := 25, attributes := #[] }, { accessFlags := 25, nameIndex := 162, descriptorIndex := 25, attributes := #[] }, { accessFlags := 25, nameIndex := 187, descriptorIndex := 25, attributes := #[] }, { accessFlags := 26, nameIndex := 48, descriptorIndex := 25, attributes := #[] }, { accessFlags := 25, nameIndex := 277, descriptorIndex := 25, attributes := #[] }, { accessFlags := 25, nameIndex := 280, descriptorIndex := 25, attributes := #[] }, { accessFlags := 25, nameIndex := 282, descriptorIndex := 25, attributes := #[] }, { accessFlags := 25, nameIndex := 284, descriptorIndex := 25, attributes := #[] }, { accessFlags := 25, nameIndex := 286, descriptorIndex := 25, attributes := #[] }, { accessFlags := 25, nameIndex := 288, descriptorIndex := 25, attributes := #[] }, { accessFlags := 25, nameIndex := 290, descriptorIndex := 25, attributes := #[] }, { accessFlags := 25, nameIndex := 292, descriptorIndex := 25, attributes := #[] }, { accessFlags := 26, nameIndex := 108, descriptorIndex := 109, attributes := #[] }, { accessFlags := 25, nameIndex := 294, descriptorIndex := 25, attributes := #[] }])
  fields := #[{ name := "U", type := (.object "jdk/internal/misc/Unsafe"), accessFlags := 24, slot := 0, constantValue := 0 }, { name := "BIG_ENDIAN", type := .boolean, accessFlags := 26, slot := 1, constantValue := 0 }, { name := "LOG2_ARRAY_BOOLEAN_INDEX_SCALE", type := .int, accessFlags := 25, slot := 2, constantValue := 0 }, { name := "LOG2_ARRAY_BYTE_INDEX_SCALE", type := .int, accessFlags := 25, slot := 3, constantValue := 0 }, { name := "LOG2_ARRAY_CHAR_INDEX_SCALE", type := .int, accessFlags := 25, slot := 4, constantValue := 0 }, { name := "LOG2_ARRAY_SHORT_INDEX_SCALE", type := .int, accessFlags := 25, slot := 5, constantValue := 0 }, { name := "LOG2_ARRAY_INT_INDEX_SCALE", type := .int, accessFlags := 25, slot := 6, constantValue := 0 }, { name := "LOG2_ARRAY_LONG_INDEX_SCALE", type := .int, accessFlags := 25, slot := 7, constantValue := 0 }, { name := "LOG2_ARRAY_FLOAT_INDEX_SCALE", type := .int, accessFlags := 25, slot := 8, constantValue := 0 }, { name := "LOG2_ARRAY_DOUBLE_INDEX_SCALE", type := .int, accessFlags := 25, slot := 9, constantValue := 0 }, { name := "LOG2_BYTE_BIT_SIZE", type := .int, accessFlags := 26, slot := 10, constantValue := 0 }, { name := "T_BOOLEAN", type := .int, accessFlags := 25, slot := 11, constantValue := 0 }, { name := "T_CHAR", type := .int, accessFlags := 25, slot := 12, constantValue := 0 }, { name := "T_FLOAT", type := .int, accessFlags := 25, slot := 13, constantValue := 0 }, { name := "T_DOUBLE", type := .int, accessFlags := 25, slot := 14, constantValue := 0 }, { name := "T_BYTE", type := .int, accessFlags := 25, slot := 15, constantValue := 0 }, { name := "T_SHORT", type := .int, accessFlags := 25, slot := 16, constantValue := 0 }, { name := "T_INT", type := .int, accessFlags := 25, slot := 17, constantValue := 0 }, { name := "T_LONG", type := .int, accessFlags := 25, slot := 18, constantValue := 0 }, { name := "JLA", type := (.object "jdk/internal/access/JavaLangAccess"), accessFlags := 26, slot := 19, constantValue := 0 }, { name := "SOFT_MAX_ARRAY_LENGTH", type := .int, accessFlags := 25, slot := 20, constantValue := 0 }]
  methods := #[k14m0]
  instanceTypes := #[]
  staticTypes := #[(.object "jdk/internal/misc/Unsafe"), .boolean, .int, .int, .int, .int, .int, .int, .int, .int, .int, .int, .int, .int, .int, .int, .int, .int, .int, (.object "jdk/internal/access/JavaLangAccess"), .int]
  resolved := Array.replicate 378 none
  statics := none }

/-- the primitive byte -/
def k15 : Class := { plain "byte" none with kind := .primitive 'B', accessFlags := 0x411 }
/-- [B -/
def k16 : Class := { plain "[B" (some 0) with kind := .array 15 .byte, interfaces := #[13, 2], accessFlags := 1041 }

/-- the primitive char -/
def k17 : Class := { plain "char" none with kind := .primitive 'C', accessFlags := 0x411 }
/-- [C -/
def k18 : Class := { plain "[C" (some 0) with kind := .array 17 .char, interfaces := #[13, 2], accessFlags := 1041 }

/-- the primitive int -/
def k19 : Class := { plain "int" none with kind := .primitive 'I', accessFlags := 0x411 }
/-- [I -/
def k20 : Class := { plain "[I" (some 0) with kind := .array 19 .int, interfaces := #[13, 2], accessFlags := 1041 }

/-- [Lcom/example/cascade_mapper/cascademapper/model/CollectionForm; -/
def k21 : Class := { plain "[Lcom/example/cascade_mapper/cascademapper/model/CollectionForm;" (some 0) with kind := .array 12 (.object "com/example/cascade_mapper/cascademapper/model/CollectionForm"), interfaces := #[13, 2], accessFlags := 1041 }

def heap : Heap := #[{ cls := 7, slots := #[.long 0, .int 1, .null, .int 0, .null, .int 0, .int 0], vm := .statics 7 },
  { cls := 9, slots := #[.null, .null, .null], vm := .statics 9 },
  { cls := 12, slots := #[.ref 4, .ref 5, .ref 6, .ref 7, .ref 8, .ref 3], vm := .statics 12 },
  { cls := 21, slots := #[.ref 4, .ref 5, .ref 6, .ref 7, .ref 8], vm := .none },
  { cls := 12, slots := #[.null, .int 0, .int 0, .ref 9], vm := .none },
  { cls := 12, slots := #[.null, .int 1, .int 0, .ref 10], vm := .none },
  { cls := 12, slots := #[.null, .int 2, .int 0, .ref 11], vm := .none },
  { cls := 12, slots := #[.null, .int 3, .int 0, .ref 12], vm := .none },
  { cls := 12, slots := #[.null, .int 4, .int 0, .ref 13], vm := .none },
  { cls := 7, slots := #[.ref 14, .int 0, .int 0, .int 0], vm := .none },
  { cls := 7, slots := #[.ref 15, .int 0, .int 0, .int 0], vm := .none },
  { cls := 7, slots := #[.ref 16, .int 0, .int 0, .int 0], vm := .none },
  { cls := 7, slots := #[.ref 17, .int 0, .int 0, .int 0], vm := .none },
  { cls := 7, slots := #[.ref 18, .int 0, .int 0, .int 0], vm := .none },
  { cls := 16, slots := #[.int 115, .int 101, .int 116], vm := .none },
  { cls := 16, slots := #[.int 108, .int 105, .int 115, .int 116], vm := .none },
  { cls := 16, slots := #[.int 98, .int 97, .int 103], vm := .none },
  { cls := 16, slots := #[.int 105, .int 100, .int 98, .int 97, .int 103], vm := .none },
  { cls := 16, slots := #[.int 109, .int 97, .int 112], vm := .none }]
def classes : Array Class := #[k0, k1, k2, k3, k4, k5, k6, k7, k8, k9, k10, k11, k12, k13, k14, k15, k16, k17, k18, k19, k20, k21]
def interned : List (Array UInt16 × Addr) := []
def slotsUsed : Nat := 79
def theMethod : MethodId := ⟨1, 1⟩
def args0 : Array Value := #[.int 0, .int 1, .int 2, .int 3, .int 4, .int 5]
def aboutOver (below : List Frame) : State where
  vm := { classes := classes, interned := interned.toArray }
  heap := heap
  slotsUsed := slotsUsed
  threads := #[{ frames := .invoking theMethod args0 :: below }]
def below0 : List Frame := [.native { method := ⟨0, 0⟩, args := #[] }]
def about1 : State := aboutOver below0
def p0 : Program := .bare "" "" ""
def e0 : Env := launch0.env 0 0 0
theorem w_frames : about1.frames = Frame.invoking theMethod args0 :: below0 := rfl
set_option maxRecDepth 65536 in
theorem w_args : argsFit about1.vm theMethod args0 = true := by decide +kernel
set_option maxRecDepth 65536 in
theorem w_heap : heapFits about1 = true := by decide +kernel
set_option maxRecDepth 65536 in
theorem w_runnable : about1.curStatus? = some .runnable := by decide +kernel
set_option maxRecDepth 65536 in
theorem w_alone : about1.alone = true := by decide +kernel
set_option maxRecDepth 65536 in
theorem w_named : about1.methodNamed? x = some theMethod := by decide +kernel
set_option maxRecDepth 65536 in
theorem w_hears : about1.hears theMethod below0 = true := by decide +kernel
set_option maxRecDepth 65536 in
theorem w_ripe : about1.ripe theMethod args0 below0 = true := by decide +kernel
theorem w_running : about1.status = .running := rfl
set_option maxRecDepth 65536 in
theorem w_room : about1.hasRoom e0.platform room_1 = true :=
  launch0.hasRoom_least _ room_1 (by decide +kernel) (by decide +kernel) (by decide +kernel) (by decide +kernel) (by decide +kernel) (by decide +kernel)
theorem allAtoms_all (ts : List Jvm.Cond) (a : Array Jvm.Value) (st : Jvm.State) : (allAtoms ts).before a st = ts.all (fun c => c.before a st) := by
  induction ts with
  | nil => rfl
  | cons c t ih =>
    show (Jvm.Cond.and c (allAtoms t)).before a st = _
    rw [Jvm.Cond.before_and, ih, List.all_cons]
def words1 : List Jvm.Cond := Jvm.Cond.code x code maxLocals ret :: tables_1
/-- a 'code' word, met by the world's own term for the bytes: nothing is compared byte by byte -/
theorem code_word {y : MethodName} {bytes : ByteArray} {mx : Nat} {rt : Option FieldType} {a : Array Value} {s : State} {m : MethodId} {meth : Method} {c : Code} (h1 : s.methodNamed? y = some m) (h2 : s.vm.method? m = some meth) (h3 : meth.code = some c) (h4 : c.code = bytes)
    (h5 : (c.maxLocals == mx && c.exceptionTable.isEmpty && decide (c.maxStack ≤ mostOperands) && decide (meth.sig.returnType = rt) && !meth.locks && decide (parseMethodDescriptor y.desc = some meth.sig)) = true) : (Jvm.Cond.code y bytes mx rt).before a s = true := by
  simp only [Bool.and_eq_true, beq_iff_eq, Bool.not_eq_true', decide_eq_true_eq] at h5
  obtain ⟨⟨⟨⟨⟨g1, g2⟩, g3⟩, g4⟩, g5⟩, g6⟩ := h5
  simp [Cond.before, Cond.holds, Cond.value, h1, h2, h3, h4, g1, g2, g3, g4, g5, g6]
def isCode : Jvm.Cond → Bool
  | .code _ _ _ _ => true
  | _ => false
theorem all_split {L : List Jvm.Cond} {P : Jvm.Cond → Bool} (h1 : L.all (fun c => isCode c || P c) = true) (h2 : ∀ c ∈ L.filter isCode, P c = true) : L.all P = true := by
  refine List.all_eq_true.mpr fun c hc => ?_
  have h := List.all_eq_true.mp h1 c hc
  rcases Bool.eq_false_or_eq_true (isCode c) with hi | hi
  · exact h2 c (List.mem_filter.mpr ⟨hc, hi⟩)
  · simpa [hi] using h
set_option maxRecDepth 65536 in
theorem w_c0 : (Jvm.Cond.code x code maxLocals ret).before args0 about1 = true := code_word (m := ⟨1, 1⟩) (meth := k1m1) (c := k1c1) (by decide +kernel) rfl rfl rfl (by decide +kernel)
set_option maxRecDepth 65536 in
theorem w_c1 : (Jvm.Cond.code ({ cls := "java/lang/String", name := "length", desc := "()I" } : Jvm.MethodName) jdk_42_method_54_code (1 : Nat) (Option.some Jvm.ClassFile.FieldType.int)).before args0 about1 = true := code_word (m := ⟨7, 2⟩) (meth := k7m2) (c := k7c2) (by decide +kernel) rfl rfl rfl (by decide +kernel)
set_option maxRecDepth 65536 in
theorem w_c2 : (Jvm.Cond.code ({ cls := "java/lang/String", name := "coder", desc := "()B" } : Jvm.MethodName) jdk_42_method_152_code (1 : Nat) (Option.some Jvm.ClassFile.FieldType.byte)).before args0 about1 = true := code_word (m := ⟨7, 6⟩) (meth := k7m6) (c := k7c6) (by decide +kernel) rfl rfl rfl (by decide +kernel)
set_option maxRecDepth 65536 in
theorem w_c3 : (Jvm.Cond.code ({ cls := "java/lang/String", name := "charAt", desc := "(I)C" } : Jvm.MethodName) jdk_42_method_56_code (2 : Nat) (Option.some Jvm.ClassFile.FieldType.char)).before args0 about1 = true := code_word (m := ⟨7, 3⟩) (meth := k7m3) (c := k7c3) (by decide +kernel) rfl rfl rfl (by decide +kernel)
set_option maxRecDepth 65536 in
theorem w_c4 : (Jvm.Cond.code ({ cls := "java/lang/String", name := "isLatin1", desc := "()Z" } : Jvm.MethodName) jdk_42_method_154_code (1 : Nat) (Option.some Jvm.ClassFile.FieldType.boolean)).before args0 about1 = true := code_word (m := ⟨7, 7⟩) (meth := k7m7) (c := k7c7) (by decide +kernel) rfl rfl rfl (by decide +kernel)
set_option maxRecDepth 65536 in
theorem w_c5 : (Jvm.Cond.code ({ cls := "java/lang/StringLatin1", name := "charAt", desc := "([BI)C" } : Jvm.MethodName) jdk_43_method_2_code (2 : Nat) (Option.some Jvm.ClassFile.FieldType.char)).before args0 about1 = true := code_word (m := ⟨8, 1⟩) (meth := k8m1) (c := k8c1) (by decide +kernel) rfl rfl rfl (by decide +kernel)
set_option maxRecDepth 65536 in
theorem w_c6 : (Jvm.Cond.code ({ cls := "java/lang/String", name := "checkIndex", desc := "(II)V" } : Jvm.MethodName) jdk_42_method_155_code (2 : Nat) (Option.none : Option Jvm.ClassFile.FieldType)).before args0 about1 = true := code_word (m := ⟨7, 8⟩) (meth := k7m8) (c := k7c8) (by decide +kernel) rfl rfl rfl (by decide +kernel)
set_option maxRecDepth 65536 in
theorem w_c7 : (Jvm.Cond.code ({ cls := "jdk/internal/util/Preconditions", name := "checkIndex", desc := "(IILjava/util/function/BiFunction;)I" } : Jvm.MethodName) jdk_41_method_11_code (3 : Nat) (Option.some Jvm.ClassFile.FieldType.int)).before args0 about1 = true := code_word (m := ⟨9, 1⟩) (meth := k9m1) (c := k9c1) (by decide +kernel) rfl rfl rfl (by decide +kernel)
set_option maxRecDepth 65536 in
theorem w_c8 : (Jvm.Cond.code ({ cls := "com/example/cascade_mapper/cascademapper/model/CollectionFormNamedPinLaw", name := "make", desc := "([CI)Ljava/lang/String;" } : Jvm.MethodName) method_3_code (2 : Nat) (Option.some (Jvm.ClassFile.FieldType.object "java/lang/String"))).before args0 about1 = true := code_word (m := ⟨1, 2⟩) (meth := k1m2) (c := k1c2) (by decide +kernel) rfl rfl rfl (by decide +kernel)
set_option maxRecDepth 65536 in
theorem w_c9 : (Jvm.Cond.code ({ cls := "java/lang/String", name := "<init>", desc := "([C)V" } : Jvm.MethodName) jdk_42_method_3_code (2 : Nat) (Option.none : Option Jvm.ClassFile.FieldType)).before args0 about1 = true := code_word (m := ⟨7, 1⟩) (meth := k7m1) (c := k7c1) (by decide +kernel) rfl rfl rfl (by decide +kernel)
set_option maxRecDepth 65536 in
theorem w_c10 : (Jvm.Cond.code ({ cls := "java/lang/String", name := "<init>", desc := "([CIILjava/lang/Void;)V" } : Jvm.MethodName) jdk_42_method_149_code (6 : Nat) (Option.none : Option Jvm.ClassFile.FieldType)).before args0 about1 = true := code_word (m := ⟨7, 5⟩) (meth := k7m5) (c := k7c5) (by decide +kernel) rfl rfl rfl (by decide +kernel)
set_option maxRecDepth 65536 in
theorem w_c11 : (Jvm.Cond.code ({ cls := "java/lang/Object", name := "<init>", desc := "()V" } : Jvm.MethodName) object_method_1_code (1 : Nat) (Option.none : Option Jvm.ClassFile.FieldType)).before args0 about1 = true := code_word (m := ⟨0, 0⟩) (meth := k0m0) (c := k0c0) (by decide +kernel) rfl rfl rfl (by decide +kernel)
set_option maxRecDepth 65536 in
theorem w_c12 : (Jvm.Cond.code ({ cls := "java/lang/StringUTF16", name := "compress", desc := "([CII)[B" } : Jvm.MethodName) jdk_52_method_16_code (6 : Nat) (Option.some (Jvm.ClassFile.FieldType.array Jvm.ClassFile.FieldType.byte))).before args0 about1 = true := code_word (m := ⟨10, 2⟩) (meth := k10m2) (c := k10c2) (by decide +kernel) rfl rfl rfl (by decide +kernel)
set_option maxRecDepth 65536 in
theorem w_c13 : (Jvm.Cond.code ({ cls := "java/lang/StringUTF16", name := "compress", desc := "([CI[BII)I" } : Jvm.MethodName) jdk_52_method_21_code (7 : Nat) (Option.some Jvm.ClassFile.FieldType.int)).before args0 about1 = true := code_word (m := ⟨10, 3⟩) (meth := k10m3) (c := k10c3) (by decide +kernel) rfl rfl rfl (by decide +kernel)
set_option maxRecDepth 65536 in
theorem w_c14 : (Jvm.Cond.code ({ cls := "java/lang/StringUTF16", name := "coderFromArrayLen", desc := "([BI)B" } : Jvm.MethodName) jdk_52_method_15_code (2 : Nat) (Option.some Jvm.ClassFile.FieldType.byte)).before args0 about1 = true := code_word (m := ⟨10, 1⟩) (meth := k10m1) (c := k10c1) (by decide +kernel) rfl rfl rfl (by decide +kernel)
set_option maxRecDepth 65536 in
theorem w_c15 : (Jvm.Cond.code ({ cls := "com/example/cascade_mapper/cascademapper/model/CollectionForm", name := "named", desc := "(Ljava/lang/String;)Lcom/example/cascade_mapper/cascademapper/model/CollectionForm;" } : Jvm.MethodName) prog_70_method_5_code (6 : Nat) (Option.some (Jvm.ClassFile.FieldType.object "com/example/cascade_mapper/cascademapper/model/CollectionForm"))).before args0 about1 = true := code_word (m := ⟨12, 1⟩) (meth := k12m1) (c := k12c1) (by decide +kernel) rfl rfl rfl (by decide +kernel)
set_option maxRecDepth 65536 in
theorem w_c16 : (Jvm.Cond.code ({ cls := "com/example/cascade_mapper/cascademapper/model/CollectionForm", name := "values", desc := "()[Lcom/example/cascade_mapper/cascademapper/model/CollectionForm;" } : Jvm.MethodName) prog_70_method_1_code (0 : Nat) (Option.some (Jvm.ClassFile.FieldType.array (Jvm.ClassFile.FieldType.object "com/example/cascade_mapper/cascademapper/model/CollectionForm")))).before args0 about1 = true := code_word (m := ⟨12, 0⟩) (meth := k12m0) (c := k12c0) (by decide +kernel) rfl rfl rfl (by decide +kernel)
set_option maxRecDepth 65536 in
theorem w_c17 : (Jvm.Cond.code ({ cls := "java/lang/String", name := "equals", desc := "(Ljava/lang/Object;)Z" } : Jvm.MethodName) jdk_42_method_66_code (3 : Nat) (Option.some Jvm.ClassFile.FieldType.boolean)).before args0 about1 = true := code_word (m := ⟨7, 4⟩) (meth := k7m4) (c := k7c4) (by decide +kernel) rfl rfl rfl (by decide +kernel)
set_option maxRecDepth 65536 in
theorem w_c18 : (Jvm.Cond.code ({ cls := "java/lang/StringLatin1", name := "equals", desc := "([B[B)Z" } : Jvm.MethodName) jdk_43_method_13_code (3 : Nat) (Option.some Jvm.ClassFile.FieldType.boolean)).before args0 about1 = true := code_word (m := ⟨8, 2⟩) (meth := k8m2) (c := k8c2) (by decide +kernel) rfl rfl rfl (by decide +kernel)
def codes1 : List Jvm.Cond := [Jvm.Cond.code x code maxLocals ret, Jvm.Cond.code ({ cls := "java/lang/String", name := "length", desc := "()I" } : Jvm.MethodName) jdk_42_method_54_code (1 : Nat) (Option.some Jvm.ClassFile.FieldType.int), Jvm.Cond.code ({ cls := "java/lang/String", name := "coder", desc := "()B" } : Jvm.MethodName) jdk_42_method_152_code (1 : Nat) (Option.some Jvm.ClassFile.FieldType.byte), Jvm.Cond.code ({ cls := "java/lang/String", name := "charAt", desc := "(I)C" } : Jvm.MethodName) jdk_42_method_56_code (2 : Nat) (Option.some Jvm.ClassFile.FieldType.char), Jvm.Cond.code ({ cls := "java/lang/String", name := "isLatin1", desc := "()Z" } : Jvm.MethodName) jdk_42_method_154_code (1 : Nat) (Option.some Jvm.ClassFile.FieldType.boolean), Jvm.Cond.code ({ cls := "java/lang/StringLatin1", name := "charAt", desc := "([BI)C" } : Jvm.MethodName) jdk_43_method_2_code (2 : Nat) (Option.some Jvm.ClassFile.FieldType.char), Jvm.Cond.code ({ cls := "java/lang/String", name := "checkIndex", desc := "(II)V" } : Jvm.MethodName) jdk_42_method_155_code (2 : Nat) (Option.none : Option Jvm.ClassFile.FieldType), Jvm.Cond.code ({ cls := "jdk/internal/util/Preconditions", name := "checkIndex", desc := "(IILjava/util/function/BiFunction;)I" } : Jvm.MethodName) jdk_41_method_11_code (3 : Nat) (Option.some Jvm.ClassFile.FieldType.int), Jvm.Cond.code ({ cls := "com/example/cascade_mapper/cascademapper/model/CollectionFormNamedPinLaw", name := "make", desc := "([CI)Ljava/lang/String;" } : Jvm.MethodName) method_3_code (2 : Nat) (Option.some (Jvm.ClassFile.FieldType.object "java/lang/String")), Jvm.Cond.code ({ cls := "java/lang/String", name := "<init>", desc := "([C)V" } : Jvm.MethodName) jdk_42_method_3_code (2 : Nat) (Option.none : Option Jvm.ClassFile.FieldType), Jvm.Cond.code ({ cls := "java/lang/String", name := "<init>", desc := "([CIILjava/lang/Void;)V" } : Jvm.MethodName) jdk_42_method_149_code (6 : Nat) (Option.none : Option Jvm.ClassFile.FieldType), Jvm.Cond.code ({ cls := "java/lang/Object", name := "<init>", desc := "()V" } : Jvm.MethodName) object_method_1_code (1 : Nat) (Option.none : Option Jvm.ClassFile.FieldType), Jvm.Cond.code ({ cls := "java/lang/StringUTF16", name := "compress", desc := "([CII)[B" } : Jvm.MethodName) jdk_52_method_16_code (6 : Nat) (Option.some (Jvm.ClassFile.FieldType.array Jvm.ClassFile.FieldType.byte)), Jvm.Cond.code ({ cls := "java/lang/StringUTF16", name := "compress", desc := "([CI[BII)I" } : Jvm.MethodName) jdk_52_method_21_code (7 : Nat) (Option.some Jvm.ClassFile.FieldType.int), Jvm.Cond.code ({ cls := "java/lang/StringUTF16", name := "coderFromArrayLen", desc := "([BI)B" } : Jvm.MethodName) jdk_52_method_15_code (2 : Nat) (Option.some Jvm.ClassFile.FieldType.byte), Jvm.Cond.code ({ cls := "com/example/cascade_mapper/cascademapper/model/CollectionForm", name := "named", desc := "(Ljava/lang/String;)Lcom/example/cascade_mapper/cascademapper/model/CollectionForm;" } : Jvm.MethodName) prog_70_method_5_code (6 : Nat) (Option.some (Jvm.ClassFile.FieldType.object "com/example/cascade_mapper/cascademapper/model/CollectionForm")), Jvm.Cond.code ({ cls := "com/example/cascade_mapper/cascademapper/model/CollectionForm", name := "values", desc := "()[Lcom/example/cascade_mapper/cascademapper/model/CollectionForm;" } : Jvm.MethodName) prog_70_method_1_code (0 : Nat) (Option.some (Jvm.ClassFile.FieldType.array (Jvm.ClassFile.FieldType.object "com/example/cascade_mapper/cascademapper/model/CollectionForm"))), Jvm.Cond.code ({ cls := "java/lang/String", name := "equals", desc := "(Ljava/lang/Object;)Z" } : Jvm.MethodName) jdk_42_method_66_code (3 : Nat) (Option.some Jvm.ClassFile.FieldType.boolean), Jvm.Cond.code ({ cls := "java/lang/StringLatin1", name := "equals", desc := "([B[B)Z" } : Jvm.MethodName) jdk_43_method_13_code (3 : Nat) (Option.some Jvm.ClassFile.FieldType.boolean)]
set_option maxRecDepth 65536 in
theorem codes_eq : words1.filter isCode = codes1 := rfl
theorem w_codes : ∀ c ∈ words1.filter isCode, c.before args0 about1 = true := by
  rw [codes_eq]
  intro c hc
  simp only [codes1, List.mem_cons, List.not_mem_nil, or_false] at hc
  rcases hc with rfl | rfl | rfl | rfl | rfl | rfl | rfl | rfl | rfl | rfl | rfl | rfl | rfl | rfl | rfl | rfl | rfl | rfl | rfl
  · exact w_c0
  · exact w_c1
  · exact w_c2
  · exact w_c3
  · exact w_c4
  · exact w_c5
  · exact w_c6
  · exact w_c7
  · exact w_c8
  · exact w_c9
  · exact w_c10
  · exact w_c11
  · exact w_c12
  · exact w_c13
  · exact w_c14
  · exact w_c15
  · exact w_c16
  · exact w_c17
  · exact w_c18
set_option maxRecDepth 65536 in
theorem w_t1 : (words1.take 24).all (fun c => isCode c || c.before args0 about1) = true := by decide +kernel
set_option maxRecDepth 65536 in
theorem w_t2 : ((words1.drop 24).take 24).all (fun c => isCode c || c.before args0 about1) = true := by decide +kernel
set_option maxRecDepth 65536 in
theorem w_t3 : (((words1.drop 24).drop 24).take 24).all (fun c => isCode c || c.before args0 about1) = true := by decide +kernel
set_option maxRecDepth 65536 in
theorem w_t4 : ((((words1.drop 24).drop 24).drop 24).take 24).all (fun c => isCode c || c.before args0 about1) = true := by decide +kernel
set_option maxRecDepth 65536 in
theorem w_t5 : ((((words1.drop 24).drop 24).drop 24).drop 24).all (fun c => isCode c || c.before args0 about1) = true := by decide +kernel
theorem w_tables : (allAtoms (Jvm.Cond.code x code maxLocals ret :: tables_1)).before args0 about1 = true := by
  rw [allAtoms_all]
  show words1.all (fun c => c.before args0 about1) = true
  refine all_split ?_ w_codes
  rw [← List.take_append_drop 24 words1, List.all_append, w_t1, ← List.take_append_drop 24 (words1.drop 24), List.all_append, w_t2, ← List.take_append_drop 24 ((words1.drop 24).drop 24), List.all_append, w_t3, ← List.take_append_drop 24 (((words1.drop 24).drop 24).drop 24), List.all_append, w_t4, w_t5]
  rfl
set_option maxRecDepth 65536 in
theorem w_rest : rest_1_c.before args0 about1 = true := by decide +kernel
set_option maxRecDepth 65536 in
theorem w_case : (Jvm.Cond.and given_1 narrow_1).before args0 about1 = true := by decide +kernel
set_option maxRecDepth 65536 in
theorem w_consts : constsHeld consts_1 about1 := Jvm.Lit.constsHeldB_iff.mp (by decide +kernel)
theorem w_applies : (headSpec (Jvm.Cond.code x code maxLocals ret :: tables_1) room_1).applies x e0.platform about1 = true :=
  (Spec.applies_iff w_frames).mpr ⟨w_running, w_runnable, w_alone, w_named, w_hears, w_ripe, w_room, w_tables⟩
theorem atStart : AtStart classFile x code maxLocals ret World_1 tables_1 room_1 Calls_1 rest_1 Pre_1 launch0 p0 e0 about1 theMethod args0 below0 :=
  ⟨lists_1, trivial, launch0.admits_env _ _ _, launch0.least_env, fairChoices_fair.cas, fairChoices_fair.clock, w_frames, w_args, w_heap, w_applies, ⟨w_consts, trivial⟩, w_rest, w_case⟩
end start1
theorem witness_1 : WitnessClaimed_1 := ⟨start1.p0, start1.e0, start1.about1, start1.theMethod, start1.args0, start1.below0, start1.atStart⟩
end Jvm.Pilot.@@N@@
