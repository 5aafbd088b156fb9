import JvmDerived
import JvmDerived.Pilot.@@N@@Statement
import JvmDerived.Pilot.@@N@@Code
set_option linter.unusedVariables false
set_option linter.unusedSimpArgs false
namespace Jvm.Pilot.@@N@@
open Jvm Jvm.ClassFile Sem Op Lib Jvm.Free Jvm.Stand Jvm.LawKit Jvm.RoadKit Bundle Jvm.Pilot.@@N@@.Jvm.D

/-! ## own kit: a walk as a tree -/
section OwnKit
variable {p : Program} {l : Launch} {e : Env} {R : Room} {s : State} {m : MethodId} {args : Array Value} {below : List Frame} {meth : Method} {c : Code} {T T' : State} {locs : List Loc} {cells slots : Nat} {Q : Option Value → Heap → List Loc → Prop} {f f' : JFrame} {Z : State} {a0 : Array Value} {h h' : Heap}
/-- from here the body comes to its return, and Q holds there -/
def Go (p : Program) (e : Env) (s : State) (below : List Frame) (R : Room) (Q : Option Value → Heap → List Loc → Prop) (T : State) (f : JFrame) : Prop :=
  ∃ s₂ o, Steps p.tables e below (T.setTop f) s₂ ∧ s₂.status = .running ∧ Ended s₂ below o ∧ ∃ v L, o = .returned v ∧ Q v s₂.heap L ∧ FrameEnd s o s₂ L R.cells R.slots
theorem Go.of (k : ∀ t, Steps p.tables e below (T'.setTop f') t → Steps p.tables e below (T.setTop f) t) (G : Go p e s below R Q T' f') : Go p e s below R Q T f := by
  obtain ⟨s2, o, h1, h2⟩ := G
  exact ⟨s2, o, k _ h1, h2⟩
theorem Go.cast (q : f = f') (G : Go p e s below R Q T f') : Go p e s below R Q T f := q ▸ G
theorem Go.retO (X : Stand p l e R s m args below meth c T locs cells slots) (hx : p.tables.exec = Jvm.exec) (hlk : meth.locks = false) {pc : Nat} {Ls : Array Slot} {w : Value} {t : FieldType} {i : Instr} {rest : List Value} (hret : meth.sig.returnType = some t) (hn : narrow t w = w)
    (hi : (i = .ireturn ∧ (t = .int ∨ t = .boolean ∨ t = .byte ∨ t = .char ∨ t = .short) ∧ ∃ z, w = .int z) ∨ (i = .lreturn ∧ t = .long ∧ ∃ z, w = .long z) ∨ (i = .dreturn ∧ t = .double ∧ ∃ z, w = .double z) ∨ (i = .freturn ∧ t = .float ∧ ∃ z, w = .float z) ∨ (i = .areturn ∧ t.isReference = true ∧ w.isRef = true))
    (hd : decode c.code pc = .ok (i, 1)) (hc : cells ≤ R.cells) (hs : slots ≤ R.slots) (hq : Q (some w) T.heap locs) : Go p e s below R Q T (mkF m pc Ls (w :: rest)) := by
  obtain ⟨fs, hr, hrun, hended, hW, hsame⟩ := X.leave (v := some w) (fun h => by rw [hret] at h; cases h) hlk
  exact ⟨_, _, retOut X hx hret hn hi hd hr, hrun, hended, _, _, rfl, hq, ⟨_, rfl⟩, hW, hsame.mono hc hs⟩
theorem Go.retI (X : Stand p l e R s m args below meth c T locs cells slots) (hx : p.tables.exec = Jvm.exec) (hlk : meth.locks = false) (hret : meth.sig.returnType = some .int) {pc : Nat} {Ls : Array Slot} {z : Int32} {rest : List Value}
    (hd : decode c.code pc = .ok (.ireturn, 1)) (hc : cells ≤ R.cells) (hs : slots ≤ R.slots) (hq : Q (some (.int z)) T.heap locs) : Go p e s below R Q T (mkF m pc Ls (.int z :: rest)) :=
  Go.retO X hx hlk hret rfl (Or.inl ⟨rfl, Or.inl rfl, _, rfl⟩) hd hc hs hq
theorem Go.retJ (X : Stand p l e R s m args below meth c T locs cells slots) (hx : p.tables.exec = Jvm.exec) (hlk : meth.locks = false) (hret : meth.sig.returnType = some .long) {pc : Nat} {Ls : Array Slot} {z : Int64} {rest : List Value}
    (hd : decode c.code pc = .ok (.lreturn, 1)) (hc : cells ≤ R.cells) (hs : slots ≤ R.slots) (hq : Q (some (.long z)) T.heap locs) : Go p e s below R Q T (mkF m pc Ls (.long z :: rest)) :=
  Go.retO X hx hlk hret rfl (Or.inr (Or.inl ⟨rfl, rfl, _, rfl⟩)) hd hc hs hq
theorem Go.retD (X : Stand p l e R s m args below meth c T locs cells slots) (hx : p.tables.exec = Jvm.exec) (hlk : meth.locks = false) (hret : meth.sig.returnType = some .double) {pc : Nat} {Ls : Array Slot} {z : UInt64} {rest : List Value}
    (hd : decode c.code pc = .ok (.dreturn, 1)) (hc : cells ≤ R.cells) (hs : slots ≤ R.slots) (hq : Q (some (.double z)) T.heap locs) : Go p e s below R Q T (mkF m pc Ls (.double z :: rest)) :=
  Go.retO X hx hlk hret rfl (Or.inr (Or.inr (Or.inl ⟨rfl, rfl, _, rfl⟩))) hd hc hs hq
theorem Go.retA (X : Stand p l e R s m args below meth c T locs cells slots) (hx : p.tables.exec = Jvm.exec) (hlk : meth.locks = false) {t : FieldType} (hret : meth.sig.returnType = some t) (ht : t.isReference = true) {pc : Nat} {Ls : Array Slot} {w : Value} {rest : List Value}
    (hw : w.isRef = true) (hd : decode c.code pc = .ok (.areturn, 1)) (hc : cells ≤ R.cells) (hs : slots ≤ R.slots) (hq : Q (some w) T.heap locs) : Go p e s below R Q T (mkF m pc Ls (w :: rest)) :=
  Go.retO X hx hlk hret (by cases t <;> first | (cases ht; done) | rfl) (Or.inr (Or.inr (Or.inr (Or.inr ⟨rfl, ht, hw⟩)))) hd hc hs hq
theorem Go.retB (X : Stand p l e R s m args below meth c T locs cells slots) (hx : p.tables.exec = Jvm.exec) (hlk : meth.locks = false) {t : FieldType} (hret : meth.sig.returnType = some t) (ht : t = .boolean ∨ t = .byte ∨ t = .char ∨ t = .short) {pc : Nat} {Ls : Array Slot} {z : Int32} {rest : List Value}
    (hd : decode c.code pc = .ok (.ireturn, 1)) (hc : cells ≤ R.cells) (hs : slots ≤ R.slots) {z' : Int32} (hz : nar t z = z') (hq : Q (some (.int z')) T.heap locs) : Go p e s below R Q T (mkF m pc Ls (.int z :: rest)) := by
  subst hz
  obtain ⟨fs, hr, hrun, hended, hW, hsame⟩ := X.leave (v := some (.int (nar t z))) (fun h => by rw [hret] at h; cases h) hlk
  exact ⟨_, _, retN X hx hret ht hd hr, hrun, hended, _, _, rfl, hq, ⟨_, rfl⟩, hW, hsame.mono hc hs⟩
theorem Go.retV (X : Stand p l e R s m args below meth c T locs cells slots) (hx : p.tables.exec = Jvm.exec) (hlk : meth.locks = false) (hret : meth.sig.returnType = none) {pc : Nat} {Ls : Array Slot}
    (hd : decode c.code pc = .ok (.return_, 1)) (hc : cells ≤ R.cells) (hs : slots ≤ R.slots) (hq : Q none T.heap locs) : Go p e s below R Q T (mkF m pc Ls []) := by
  obtain ⟨fs, hr, hrun, hended, hW, hsame⟩ := X.leave (v := none) (fun _ => rfl) hlk
  exact ⟨_, _, X.returnOut hx hret hd hr, hrun, hended, _, _, rfl, hq, ⟨_, rfl⟩, hW, hsame.mono hc hs⟩
/-- a body's contract: handed as', over the heap h, it returns and Q holds -/
def Ok (l : Launch) (Z : State) (y : MethodName) (bytes : ByteArray) (maxL : Nat) (ret : Option FieldType) (rm : Room) (as' : Array Value) (h : Heap) (Q : Option Value → Heap → List Loc → Prop) : Prop :=
  ∀ ws : List Jvm.Cond, MetFree l y (head1 (Jvm.Cond.code y bytes maxL ret :: ws) rm) (fun a U => a = as' ∧ Z.Warmed39 U.vm ∧ U.heap = h) (fun _ _ _ _ _ => True) (fun _ U o U' => ∃ v L, o = .returned v ∧ Q v U'.heap L ∧ FrameEnd U o U' L rm.cells rm.slots)
theorem Ok.mk {y : MethodName} {bytes : ByteArray} {maxL : Nat} {ret : Option FieldType} {rm : Room} {as' : Array Value} (hn : plainFor y = true)
    (k : ∀ p e s m below meth c s₁, p.tables.exec = Jvm.exec → c.code = bytes → c.maxLocals = maxL → s.vm.findClass y.cls = some m.cls → meth.name = y.name → meth.sig.returnType = ret → meth.locks = false → Z.Warmed39 s.vm → s₁.heap = h → Stand p l e rm s m as' below meth c s₁ [] 0 0 → Go p e s below rm Q s₁ (entryFrame m as' maxL)) :
    Ok l Z y bytes maxL ret rm as' h Q := by
  intro ws
  refine MetFree.of_bodySF hn hisR ?_
  intro p e s m args below meth c s₁ Bd hml0 hP hK
  obtain ⟨rfl, hZ, hh⟩ := hP
  exact k p e s m below meth c s₁ Bd.exec Bd.bytes hml0 (findClass_of_methodNamed Bd.named) (name_of_methodNamed Bd.named Bd.method).1 Bd.returns Bd.notSynchronized hZ (by rw [← hh, Bd.state]; rfl) (Stand.of_body Bd)
theorem callSt (X : Stand p l e R s m args below meth c T locs cells slots) (hx : p.tables.exec = Jvm.exec) (hZ : Z.Warmed39 s.vm) {own : String} {index : Nat} {y : MethodName} {bytes : ByteArray} {maxL : Nat} {ret : Option FieldType} {rm : Room} {as' : Array Value}
    (hown : s.vm.findClass own = some m.cls) (w1 : (Jvm.Cond.methodLink own index y).before a0 Z = true) (w2 : (Jvm.Cond.static y).before a0 Z = true) (w3 : (Jvm.Cond.initialized y.cls).before a0 Z = true) (w4 : (Jvm.Cond.code y bytes maxL ret).before a0 Z = true)
    (hy : y.cls ≠ "java/lang/invoke/MethodHandle" ∧ y.cls ≠ "java/lang/invoke/VarHandle") (hM : Ok l Z y bytes maxL ret rm as' h Q) (eT : T.heap = h) {W : Nat} (hf : rm.frames + 1 ≤ R.frames) (hl : W + (maxL + 11) + rm.locals ≤ R.locals) (hc : cells + rm.cells ≤ R.cells) (hs : slots + rm.slots ≤ R.slots)
    {g : JFrame} (hg : g.method = m) (hsize : g.locals.size = c.maxLocals) {argsL rest : List Value} (hlen : ∀ sig, parseMethodDescriptor y.desc = some sig → argsL.length = sig.parameters.length) (has : argsL.toArray = as')
    (hstack : g.stack = argsL.reverse ++ rest) (hW : 2 * g.monitorRoom + (rest.map fun v => v.category).sum ≤ W) (hd : decode c.code g.pc = .ok (.invokestatic index, 3)) :
    ∃ T' v L, Stand p l e R s m args below meth c T' (locs ++ L) (cells + rm.cells) (slots + rm.slots) ∧ Q v T'.heap L ∧ ∀ t, Steps p.tables e below (T'.setTop { g with pc := g.pc + 3, stack := v.toList ++ rest }) t → Steps p.tables e below (T.setTop g) t := by
  subst has
  obtain ⟨v, _, ⟨T1, L1, k1, n1⟩, -, X1, ⟨Lc, hQ, l1, y1, z1⟩, st⟩ := Jvm.LawKit.callS X hx (y := y) hown (mvT hZ w1) (mvT hZ w2) (mvT hZ w3) (mvT hZ w4) hy (backOf (W := W) (hM []) hZ w4 w3 hf hl) hg hsize hlen hstack hW hd (fun _ _ => ⟨rfl, eT, hc, hs⟩)
  dsimp only [Pt.U, Pt.locs, Pt.cells, Pt.slots] at X1 l1 y1 z1 st hQ
  subst l1 y1 z1
  exact ⟨T1, v, Lc, X1, hQ, st⟩
theorem callNew (X : Stand p l e R s m args below meth c T locs cells slots) (hx : p.tables.exec = Jvm.exec) (hZ : Z.Warmed39 s.vm) {own : String} {index : Nat} {y : MethodName} {bytes : ByteArray} {maxL : Nat} {rm : Room} {as' : Array Value} (hy1 : y.name = "<init>")
    (hown : s.vm.findClass own = some m.cls) (w1 : (Jvm.Cond.methodLink own index y).before a0 Z = true) (w2 : (Jvm.Cond.instanceMethod y).before a0 Z = true) (w3 : (Jvm.Cond.initialized y.cls).before a0 Z = true) (w4 : (Jvm.Cond.code y bytes maxL none).before a0 Z = true)
    (hy : y.cls ≠ "java/lang/invoke/MethodHandle" ∧ y.cls ≠ "java/lang/invoke/VarHandle") (hM : Ok l Z y bytes maxL none rm as' h Q) (eT : T.heap = h) {W : Nat} (hf : rm.frames + 1 ≤ R.frames) (hl : W + (maxL + 11) + rm.locals ≤ R.locals) (hc : cells + rm.cells ≤ R.cells) (hs : slots + rm.slots ≤ R.slots)
    {g : JFrame} (hg : g.method = m) (hsize : g.locals.size = c.maxLocals) {a : Addr} {argsL rest : List Value} (hlen : ∀ sig, parseMethodDescriptor y.desc = some sig → argsL.length = sig.parameters.length) (has : (.ref a :: argsL).toArray = as')
    (hstack : g.stack = argsL.reverse ++ .ref a :: rest) (hW : 2 * g.monitorRoom + (rest.map fun v => v.category).sum ≤ W) (hd : decode c.code g.pc = .ok (.invokespecial index, 3)) :
    ∃ T' v L, Stand p l e R s m args below meth c T' (locs ++ L) (cells + rm.cells) (slots + rm.slots) ∧ Q v T'.heap L ∧ ∀ t, Steps p.tables e below (T'.setTop { g with pc := g.pc + 3, stack := v.toList ++ rest }) t → Steps p.tables e below (T.setTop g) t := by
  subst has
  obtain ⟨v, _, ⟨T1, L1, k1, n1⟩, -, X1, ⟨Lc, hQ, l1, y1, z1⟩, st⟩ := X.specialBack hx (y := y) hy1 hown (mvT hZ w1) (mvT hZ w2) (mvT hZ w4) hy (backOf (W := W) (hM []) hZ w4 w3 hf hl) hg hsize (Steps.refl _) (a := a) hlen hstack hW hd (fun _ _ => ⟨rfl, eT, hc, hs⟩)
  dsimp only [Pt.U, Pt.locs, Pt.cells, Pt.slots] at X1 l1 y1 z1 st hQ
  subst l1 y1 z1
  exact ⟨T1, v, Lc, X1, hQ, fun t k => st.trans k⟩
theorem callVi (X : Stand p l e R s m args below meth c T locs cells slots) (hx : p.tables.exec = Jvm.exec) (hZ : Z.Warmed39 s.vm) {own C : String} {index : Nat} {y z : MethodName} {bytes : ByteArray} {maxL : Nat} {ret : Option FieldType} {rm : Room} {as' : Array Value}
    (hown : s.vm.findClass own = some m.cls) (w1 : (Jvm.Cond.methodLink own index y).before a0 Z = true) (w2 : (Jvm.Cond.declares y).before a0 Z = true) (nf : NotFace s y) (w3 : (Jvm.Cond.selects C y z).before a0 Z = true) (w4 : (Jvm.Cond.instanceMethod z).before a0 Z = true) (w5 : (Jvm.Cond.code z bytes maxL ret).before a0 Z = true) (w6 : (Jvm.Cond.initialized z.cls).before a0 Z = true)
    (hy : y.cls ≠ "java/lang/invoke/MethodHandle" ∧ y.cls ≠ "java/lang/invoke/VarHandle") (hM : Ok l Z z bytes maxL ret rm as' h Q) (eT : T.heap = h) {W : Nat} (hf : rm.frames + 1 ≤ R.frames) (hl : W + (maxL + 11) + rm.locals ≤ R.locals) (hc : cells + rm.cells ≤ R.cells) (hs : slots + rm.slots ≤ R.slots)
    {a : Addr} (E : Exa Z h a C) {g : JFrame} (hg : g.method = m) (hsize : g.locals.size = c.maxLocals) {argsL rest : List Value} (hlen : ∀ sig, parseMethodDescriptor y.desc = some sig → argsL.length = sig.parameters.length) (has : (.ref a :: argsL).toArray = as')
    (hstack : g.stack = argsL.reverse ++ .ref a :: rest) (hW : 2 * g.monitorRoom + (rest.map fun v => v.category).sum ≤ W) (hd : decode c.code g.pc = .ok (.invokevirtual index, 3)) :
    ∃ T' v L, Stand p l e R s m args below meth c T' (locs ++ L) (cells + rm.cells) (slots + rm.slots) ∧ Q v T'.heap L ∧ ∀ t, Steps p.tables e below (T'.setTop { g with pc := g.pc + 3, stack := v.toList ++ rest }) t → Steps p.tables e below (T.setTop g) t := by
  subst has
  obtain ⟨cq, kq, qa, qb, qc⟩ := isOf hZ eT E
  obtain ⟨v, _, ⟨T1, L1, k1, n1⟩, -, X1, ⟨Lc, hQ, l1, y1, z1⟩, st⟩ := X.virtualBack hx (y := y) (z := z) hown (mvT hZ w1) (mvT hZ w2) nf (mvT hZ w3) (mvT hZ w4) hy (backOf (W := W) (hM []) hZ w5 w6 hf hl) qa qc hg hsize (Steps.refl _) hlen hstack hW hd (fun _ _ => ⟨rfl, eT, hc, hs⟩)
  dsimp only [Pt.U, Pt.locs, Pt.cells, Pt.slots] at X1 l1 y1 z1 st hQ
  subst l1 y1 z1
  exact ⟨T1, v, Lc, X1, hQ, fun t k => st.trans k⟩
/-- a new object at the address a: a fresh name for the heap's end -/
theorem newOb (X : Stand p l e R s m args below meth c T locs cells slots) (hx : p.tables.exec = Jvm.exec) (hZ : Z.Warmed39 s.vm) {own C : String} {index n : Nat} (hown : s.vm.findClass own = some m.cls) (w : (Jvm.Cond.classLink own index C).before a0 Z = true) (wi : (Jvm.Cond.instantiable C n).before a0 Z = true) (wz : (Jvm.Cond.initialized C).before a0 Z = true) (eT : T.heap = h)
    {g : JFrame} (hg : g.method = m) (hd : decode c.code g.pc = .ok (.new index, 3)) (hc : cells + 1 ≤ R.cells) (hl : slots + n ≤ R.slots) :
    ∃ T' h' a, a = h.size ∧ Stand p l e R s m args below meth c T' locs (cells + 1) (slots + n) ∧ T'.heap = h' ∧ Ext h h' ∧ Exa Z h' a C ∧ (∀ {O nm d : String} {ty : FieldType}, Laid Z a0 C O nm d → parseFieldDescriptor d = some ty → Fld Z h' a O nm d (defaultValue ty)) ∧
      ∀ t, Steps p.tables e below (T'.setTop { g with pc := g.pc + 3, stack := .ref a :: g.stack }) t → Steps p.tables e below (T.setTop g) t := by
  obtain ⟨T2, h2, X2, e2, E2, A2, D2, -, st2⟩ := newO X hx hZ hown w wi wz eT hg hd hc hl
  exact ⟨T2, h2, h.size, rfl, X2, e2, E2, A2, D2, st2⟩
theorem Old0.keep {ws : List Addr} (X : Ext Z.heap h) (K : Keep h h' ws) (q : ∀ x ∈ ws, Z.heap.size ≤ x) : Ext Z.heap h' := (Old.keep (n0 := Z.heap.size) ⟨rfl, X⟩ K q).2
theorem Old0.wr {a : Addr} {sl : Nat} {v : Value} (X : Ext Z.heap h) (W : Wr h h' a sl v) (q : Z.heap.size ≤ a) : Ext Z.heap h' := (Old.wr (n0 := Z.heap.size) ⟨rfl, X⟩ W q).2
theorem Old0.ext (X : Ext Z.heap h) (E : Ext h h') : Ext Z.heap h' := (Old.ext (n0 := Z.heap.size) ⟨rfl, X⟩ E).2
theorem ext_rfl : Ext h h := ⟨Nat.le_refl _, fun _ _ q => q⟩
theorem eqI_v {first : State} {o : Option Outcome} {idx : List Nat} {a : Term} {k : Int32} (q : (Jvm.Cond.eq a (.int k)).value args first o s idx = some true) : a.eval args first o idx s = some (.int k) := by
  cases ha : a.eval args first o idx s with
  | none => simp [Jvm.Cond.value, ha] at q
  | some x => cases x <;> simp [Jvm.Cond.value, ha, Term.eval] at q ⊢; exact q
theorem eqJ_v {first : State} {o : Option Outcome} {idx : List Nat} {a : Term} {k : Int64} (q : (Jvm.Cond.eq a (.long k)).value args first o s idx = some true) : a.eval args first o idx s = some (.long k) := by
  cases ha : a.eval args first o idx s with
  | none => simp [Jvm.Cond.value, ha] at q
  | some x => cases x <;> simp [Jvm.Cond.value, ha, Term.eval] at q ⊢; exact q
theorem neI_v {first : State} {o : Option Outcome} {idx : List Nat} {a : Term} {x k : Int32} (ha : a.eval args first o idx s = some (.int x)) (q : (Jvm.Cond.not (.eq a (.int k))).value args first o s idx = some true) : ¬ x = k := by
  have q' := not_v q
  intro e
  subst e
  simp [Jvm.Cond.value, ha, Term.eval] at q'
theorem neR_v {first : State} {o : Option Outcome} {idx : List Nat} {a b : Term} {x y : Addr} (ha : a.eval args first o idx s = some (.ref x)) (hb : b.eval args first o idx s = some (.ref y)) (q : (Jvm.Cond.not (.eq a b)).value args first o s idx = some true) : ¬ x = y := by
  have q' := not_v q
  intro e
  subst e
  simp [Jvm.Cond.value, ha, hb] at q'
theorem eqR_v {first : State} {o : Option Outcome} {idx : List Nat} {a b : Term} {x : Addr} (hb : b.eval args first o idx s = some (.ref x)) (q : (Jvm.Cond.eq a b).value args first o s idx = some true) : a.eval args first o idx s = some (.ref x) := by
  cases ha : a.eval args first o idx s with
  | none => simp [Jvm.Cond.value, ha] at q
  | some x => cases x <;> simp [Jvm.Cond.value, ha, hb] at q ⊢; exact q
theorem callPr (X : Stand p l e R s m args below meth c T locs cells slots) (hx : p.tables.exec = Jvm.exec) (hZ : Z.Warmed39 s.vm) {own : String} {index : Nat} {y : MethodName} {bytes : ByteArray} {maxL : Nat} {ret : Option FieldType} {rm : Room} {as' : Array Value}
    (hown : s.vm.findClass own = some m.cls) (w1 : (Jvm.Cond.methodLink own index y).before a0 Z = true) (w2 : (Jvm.Cond.instanceMethod y).before a0 Z = true) (w3 : (Jvm.Cond.selects y.cls y y).before a0 Z = true) (w4 : (Jvm.Cond.privateMethod y).before a0 Z = true) (w5 : (Jvm.Cond.initialized y.cls).before a0 Z = true) (w6 : (Jvm.Cond.code y bytes maxL ret).before a0 Z = true)
    (hy : y.cls ≠ "java/lang/invoke/MethodHandle" ∧ y.cls ≠ "java/lang/invoke/VarHandle") (hM : Ok l Z y bytes maxL ret rm as' h Q) (eT : T.heap = h) {W : Nat} (hf : rm.frames + 1 ≤ R.frames) (hl : W + (maxL + 11) + rm.locals ≤ R.locals) (hc : cells + rm.cells ≤ R.cells) (hs : slots + rm.slots ≤ R.slots)
    {C : String} {a : Addr} (E : Exa Z h a C) {g : JFrame} (hg : g.method = m) (hsize : g.locals.size = c.maxLocals) {argsL rest : List Value} (hlen : ∀ sig, parseMethodDescriptor y.desc = some sig → argsL.length = sig.parameters.length) (has : (.ref a :: argsL).toArray = as')
    (hstack : g.stack = argsL.reverse ++ .ref a :: rest) (hW : 2 * g.monitorRoom + (rest.map fun v => v.category).sum ≤ W) (hd : decode c.code g.pc = .ok (.invokevirtual index, 3)) :
    ∃ T' v L, Stand p l e R s m args below meth c T' (locs ++ L) (cells + rm.cells) (slots + rm.slots) ∧ Q v T'.heap L ∧ ∀ t, Steps p.tables e below (T'.setTop { g with pc := g.pc + 3, stack := v.toList ++ rest }) t → Steps p.tables e below (T.setTop g) t := by
  subst has
  obtain ⟨cq, q1, q2⟩ := E.cell
  obtain ⟨v, _, ⟨T1, L1, k1, n1⟩, -, X1, ⟨Lc, hQ, l1, y1, z1⟩, st⟩ := X.privateBack hx (y := y) hown (mvT hZ w1) (mvT hZ w2) (mvT hZ w3) (Cond.privateMethod_at (mvP hZ w4 (args := #[]))) (mvT hZ w6) hy (backOf (W := W) (hM []) hZ w6 w5 hf hl) hg hsize (Steps.refl _) (a := a) (by rw [eT]; exact q1) q2 hlen hstack hW hd (fun _ _ => ⟨rfl, eT, hc, hs⟩)
  dsimp only [Pt.U, Pt.locs, Pt.cells, Pt.slots] at X1 l1 y1 z1 st hQ
  subst l1 y1 z1
  exact ⟨T1, v, Lc, X1, hQ, fun t k => st.trans k⟩
theorem callIf (X : Stand p l e R s m args below meth c T locs cells slots) (hx : p.tables.exec = Jvm.exec) (hZ : Z.Warmed39 s.vm) {own C : String} {index count : Nat} {xi y : MethodName} {bytes : ByteArray} {maxL : Nat} {ret : Option FieldType} {rm : Room} {as' : Array Value}
    (hown : s.vm.findClass own = some m.cls) (w1 : (Jvm.Cond.methodLink own index xi).before a0 Z = true) (w2 : (Jvm.Cond.declares xi).before a0 Z = true) (w3 : (Jvm.Cond.interfaceMethod xi.cls xi.cls xi.name xi.desc).before args s = true) (w4 : (Jvm.Cond.selects C xi y).before a0 Z = true) (w5 : (Jvm.Cond.instanceMethod y).before a0 Z = true) (w6 : (Jvm.Cond.publicMethod y).before a0 Z = true) (w7 : (Jvm.Cond.unhidden C xi.name xi.desc).before a0 Z = true) (w8 : (Jvm.Cond.castable C xi.cls).before a0 Z = true) (w9 : (Jvm.Cond.code y bytes maxL ret).before a0 Z = true) (w10 : (Jvm.Cond.initialized y.cls).before a0 Z = true)
    (hy : xi.cls ≠ "java/lang/invoke/MethodHandle" ∧ xi.cls ≠ "java/lang/invoke/VarHandle") (hM : Ok l Z y bytes maxL ret rm as' h Q) (eT : T.heap = h) {W : Nat} (hf : rm.frames + 1 ≤ R.frames) (hl : W + (maxL + 11) + rm.locals ≤ R.locals) (hc : cells + rm.cells ≤ R.cells) (hs : slots + rm.slots ≤ R.slots)
    {a : Addr} (E : Exa Z h a C) {g : JFrame} (hg : g.method = m) (hsize : g.locals.size = c.maxLocals) {argsL rest : List Value} (hlen : ∀ sig, parseMethodDescriptor xi.desc = some sig → argsL.length = sig.parameters.length) (has : (.ref a :: argsL).toArray = as')
    (hstack : g.stack = argsL.reverse ++ .ref a :: rest) (hW : 2 * g.monitorRoom + (rest.map fun v => v.category).sum ≤ W) (hd : decode c.code g.pc = .ok (.invokeinterface index count, 5)) :
    ∃ T' v L, Stand p l e R s m args below meth c T' (locs ++ L) (cells + rm.cells) (slots + rm.slots) ∧ Q v T'.heap L ∧ ∀ t, Steps p.tables e below (T'.setTop { g with pc := g.pc + 5, stack := v.toList ++ rest }) t → Steps p.tables e below (T.setTop g) t := by
  subst has
  obtain ⟨cq, kq, qa, qb, qc⟩ := isOf hZ eT E
  obtain ⟨v, _, ⟨T1, L1, k1, n1⟩, -, X1, ⟨Lc, hQ, l1, y1, z1⟩, st⟩ := X.interfaceBack hx (xi := xi) (y := y) hown (mvT hZ w1) (mvT hZ w2) w3 (mvT hZ w4) (mvT hZ w5) (mvT hZ w6) (mvT hZ w7) (mvT hZ w8) hy (backOf (W := W) (hM []) hZ w9 w10 hf hl) qa qb qc hg hsize (Steps.refl _) hlen hstack hW hd (fun _ _ => ⟨rfl, eT, hc, hs⟩)
  dsimp only [Pt.U, Pt.locs, Pt.cells, Pt.slots] at X1 l1 y1 z1 st hQ
  subst l1 y1 z1
  exact ⟨T1, v, Lc, X1, hQ, fun t k => st.trans k⟩
theorem newAr (X : Stand p l e R s m args below meth c T locs cells slots) (hx : p.tables.exec = Jvm.exec) (hZ : Z.Warmed39 s.vm) {aty : ArrayType} (w : (Jvm.Cond.arrayClass (newarray.typeOf aty)).before a0 Z = true) (eT : T.heap = h) {g : JFrame} (hg : g.method = m) (hd : decode c.code g.pc = .ok (.newarray aty, 2)) {n : Int32} {rest : List Value} (hs : g.stack = .int n :: rest)
    (hn : ¬ n < 0) {cap : Nat} (hcap : n.toNatClampNeg ≤ cap) (hb : cap * 8 ≤ 536870912) (hc : cells + 1 ≤ R.cells) (hl : slots + cap ≤ R.slots) {ad : String} (had : "[" ++ (newarray.typeOf aty).toString = ad) :
    ∃ T' h' k a, a = h.size ∧ Stand p l e R s m args below meth c T' locs (cells + 1) (slots + cap) ∧ T'.heap = h' ∧ Ext h h' ∧ Arv Z h' a k (newarray.typeOf aty) n [] (defaultValue (newarray.typeOf aty)) ∧ Exa Z h' a ad ∧
      ∀ t, Steps p.tables e below (T'.setTop { g with pc := g.pc + 2, stack := .ref a :: rest }) t → Steps p.tables e below (T.setTop g) t := by
  obtain ⟨T2, h2, k, X2, e2, E2, A2, B2, st2⟩ := newPE X hx hZ w eT hg hd hs hn hcap hb hc hl had
  exact ⟨T2, h2, k, h.size, rfl, X2, e2, E2, Arv.new A2 hn, B2, st2⟩
theorem newRr (X : Stand p l e R s m args below meth c T locs cells slots) (hx : p.tables.exec = Jvm.exec) (hZ : Z.Warmed39 s.vm) {own C : String} {index : Nat} (hown : s.vm.findClass own = some m.cls) (w1 : (Jvm.Cond.classLink own index C).before a0 Z = true) (w2 : (Jvm.Cond.arrayOver (.object C)).before a0 Z = true)
    (eT : T.heap = h) {g : JFrame} (hg : g.method = m) (hd : decode c.code g.pc = .ok (.anewarray index, 3)) {n : Int32} {rest : List Value} (hs : g.stack = .int n :: rest) (hn : ¬ n < 0) {cap : Nat} (hcap : n.toNatClampNeg ≤ cap) (hb : cap * 8 ≤ 536870912) (hc : cells + 1 ≤ R.cells) (hl : slots + cap ≤ R.slots) {ad : String} (had : "[" ++ (FieldType.object C).toString = ad) :
    ∃ T' h' k a, a = h.size ∧ Stand p l e R s m args below meth c T' locs (cells + 1) (slots + cap) ∧ T'.heap = h' ∧ Ext h h' ∧ Arv Z h' a k (.object C) n [] .null ∧ Exa Z h' a ad ∧ Ovr Z k C ∧
      ∀ t, Steps p.tables e below (T'.setTop { g with pc := g.pc + 3, stack := .ref a :: rest }) t → Steps p.tables e below (T.setTop g) t := by
  obtain ⟨T2, h2, k, X2, e2, E2, A2, B2, O2, st2⟩ := newRE X hx hZ hown w1 w2 eT hg hd hs hn hcap hb hc hl had
  exact ⟨T2, h2, k, h.size, rfl, X2, e2, E2, Arv.new A2 hn, B2, O2, st2⟩
theorem own_len {t : Term} {a : Addr} {cl : Cell} {ty : FieldType} {k : Int32} (ev : t.eval args s none [] s = some (.ref a)) (A : Arr s s.heap a cl ty) (q : (Term.length t).eval args s none [] s = some (.int k)) : cl.slots.size < 2 ^ 31 ∧ cl.slots.size.toInt32 = k := by
  have ha := Arr.fin (U := s) (Vm.Alike.refl _) A
  simp only [Term.eval, ev] at q
  simp at q
  rw [ha] at q
  simp only [Option.bind_some] at q
  split at q
  · rename_i hlt
    simp only [Option.some.injEq, Value.int.injEq] at q
    exact ⟨hlt, q⟩
  · cases q
theorem own_el {t : Term} {a : Addr} {cl : Cell} {ty : FieldType} {j : Int32} {v : Value} (ev : t.eval args s none [] s = some (.ref a)) (A : Arr s s.heap a cl ty) (q : (Term.elem t (.int j)).eval args s none [] s = some v) : cl.slots[j.toNatClampNeg]? = some v :=
  (elem_in q ev rfl A.1).2
theorem cloneV (X : Stand p l e R s m args below meth c T locs cells slots) (hx : p.tables.exec = Jvm.exec) (hZ : Z.Warmed39 s.vm) {own ad : String} {index : Nat} (hown : s.vm.findClass own = some m.cls)
    (w1 : (Jvm.Cond.methodLink own index ⟨ad, "clone", "()Ljava/lang/Object;"⟩).before a0 Z = true) (w2 : (Jvm.Cond.sameMethod ad "java/lang/Object" "clone" "()Ljava/lang/Object;").before a0 Z = true) (w3 : (Jvm.Cond.native ⟨"java/lang/Object", "clone", "()Ljava/lang/Object;"⟩).before a0 Z = true)
    (w4 : (Jvm.Cond.instanceMethod ⟨"java/lang/Object", "clone", "()Ljava/lang/Object;"⟩).before a0 Z = true) (w5 : (Jvm.Cond.selects ad ⟨ad, "clone", "()Ljava/lang/Object;"⟩ ⟨"java/lang/Object", "clone", "()Ljava/lang/Object;"⟩).before a0 Z = true) (w6 : (Jvm.Cond.castable ad "java/lang/Cloneable").before a0 Z = true)
    (eT : T.heap = h) {b : Addr} {k : ClassId} {ty : FieldType} {z : Int32} {vs : List Value} {dv : Value} (F : Arv Z h b k ty z vs dv) (E : Exa Z h b ad) {g : JFrame} (hg : g.method = m) (hsize : g.locals.size = c.maxLocals) {rest : List Value} (hst : g.stack = .ref b :: rest) (hd : decode c.code g.pc = .ok (.invokevirtual index, 3))
    (hf : 1 ≤ R.frames) {W cap : Nat} (hW : 2 * g.monitorRoom + (rest.map fun v => v.category).sum ≤ W) (hl : W + 14 ≤ R.locals) (hcap : z.toNatClampNeg ≤ cap) (hc : cells + 1 ≤ R.cells) (hsl : slots + cap ≤ R.slots) :
    ∃ T' h' a, a = h.size ∧ Stand p l e R s m args below meth c T' locs (cells + 1) (slots + cap) ∧ T'.heap = h' ∧ Ext h h' ∧ Arv Z h' a k ty z vs dv ∧ Exa Z h' a ad ∧
      ∀ t, Steps p.tables e below (T'.setTop { g with pc := g.pc + 3, stack := .ref a :: rest }) t → Steps p.tables e below (T.setTop g) t := by
  obtain ⟨T2, h2, X2, e2, E2, A2, B2, st2⟩ := cloneH X hx hZ hown w1 w2 w3 w4 w5 w6 eT F.arh E hg hsize hst hd hf hW hl hcap hc hsl
  exact ⟨T2, h2, h.size, rfl, X2, e2, E2, A2, B2, st2⟩
end OwnKit
theorem nf_mate {s : State} {args : Array Value} {C : String} {y y' : MethodName} (hsel : (Jvm.Cond.selects C y' y').before args s = true) (hc : y'.cls = y.cls) : NotFace s y := fun r0 h0 => by
  obtain ⟨c2, r2, m2, q1, q2, q3, q4, kP, hkP, hkPi⟩ := Cond.selects_spec hsel
  have h1 := findClass_of_methodNamed h0
  have h2 := findClass_of_methodNamed q3
  rw [hc, h1] at h2
  exact ⟨kP, (Option.some.inj h2) ▸ hkP, hkPi⟩
/-! ## own kit, string constants: the tables may have been warmed by an interned text -/
section OwnKitS
variable {p : Program} {l : Launch} {e : Env} {R : Room} {s : State} {m : MethodId} {args : Array Value} {below : List Frame} {meth : Method} {c : Code} {T T' : State} {locs : List Loc} {cells slots : Nat} {Q : Option Value → Heap → List Loc → Prop} {f f' : JFrame} {Z : State} {a0 : Array Value} {h h' : Heap} {EL : List (String × Nat)} {vm0 : Vm} {k0 : Nat}
def GoS (p : Program) (e : Env) (s : State) (below : List Frame) (R : Room) (Z : State) (EL : List (String × Nat)) (Q : Option Value → Heap → List Loc → Prop) (T : State) (f : JFrame) : Prop :=
  ∃ s₂ o, Steps p.tables e below (T.setTop f) s₂ ∧ s₂.status = .running ∧ Ended s₂ below o ∧ ∃ v L, o = .returned v ∧ Q v s₂.heap L ∧ CHr Z EL s.vm s.heap s₂.vm s₂.heap ∧ ReturnedEndW s o s₂ L R.cells R.slots
theorem GoS.of (k : ∀ t, Steps p.tables e below (T'.setTop f') t → Steps p.tables e below (T.setTop f) t) (G : GoS p e s below R Z EL Q T' f') : GoS p e s below R Z EL Q T f := by
  obtain ⟨s2, o, h1, h2⟩ := G
  exact ⟨s2, o, k _ h1, h2⟩
theorem GoS.cast (q : f = f') (G : GoS p e s below R Z EL Q T f') : GoS p e s below R Z EL Q T f := q ▸ G
theorem GoS.fin (X : Stand p l e R (s.setVm vm0) m args below meth c T locs cells slots) (hlk : meth.locks = false) (hS : s.Since vm0 k0) (hk : k0 ≤ h.size) (hZ : Z.Warmed39 vm0) (hEL : EW Z a0 EL) (C : CHr Z EL s.vm s.heap vm0 h) (eT : T.heap = h) {v : Option Value} (hv : meth.sig.returnType = none → v = none) (hc : cells ≤ R.cells) (hs : slots ≤ R.slots) (hq : Q v T.heap locs)
    (step : ∀ fs, (∀ (f : JFrame) (acts : List Action), f.method = m → f.locked = none → f.entered = [] → (doReturn e (T.setTop f) acts v).1 = T.setFrames fs) → Steps p.tables e below (T.setTop f) (T.setFrames fs)) : GoS p e s below R Z EL Q T f := by
  subst eT
  obtain ⟨fs, hr, hrun, hended, hW⟩ := X.leaveW hS hk hv hlk
  have A := CHv.at X hZ hEL C.1
  exact ⟨_, _, step fs hr, hrun, hended, v, locs, rfl, hq, C.trans A, hW.1, hW.2.1, hW.2.2.1, hW.2.2.2.mono hc hs⟩
theorem GoS.retO (X : Stand p l e R (s.setVm vm0) m args below meth c T locs cells slots) (hx : p.tables.exec = Jvm.exec) (hlk : meth.locks = false) (hS : s.Since vm0 k0) (hk : k0 ≤ h.size) (hZ : Z.Warmed39 vm0) (hEL : EW Z a0 EL) (C : CHr Z EL s.vm s.heap vm0 h) (eT : T.heap = h) {pc : Nat} {Ls : Array Slot} {w : Value} {t : FieldType} {i : Instr} {rest : List Value} (hret : meth.sig.returnType = some t) (hn : narrow t w = w)
    (hi : (i = .ireturn ∧ (t = .int ∨ t = .boolean ∨ t = .byte ∨ t = .char ∨ t = .short) ∧ ∃ z, w = .int z) ∨ (i = .lreturn ∧ t = .long ∧ ∃ z, w = .long z) ∨ (i = .dreturn ∧ t = .double ∧ ∃ z, w = .double z) ∨ (i = .freturn ∧ t = .float ∧ ∃ z, w = .float z) ∨ (i = .areturn ∧ t.isReference = true ∧ w.isRef = true))
    (hd : decode c.code pc = .ok (i, 1)) (hc : cells ≤ R.cells) (hs : slots ≤ R.slots) (hq : Q (some w) T.heap locs) : GoS p e s below R Z EL Q T (mkF m pc Ls (w :: rest)) :=
  GoS.fin X hlk hS hk hZ hEL C eT (fun h => by rw [hret] at h; cases h) hc hs hq (fun fs hr => retOut X hx hret hn hi hd hr)
theorem GoS.retI (X : Stand p l e R (s.setVm vm0) m args below meth c T locs cells slots) (hx : p.tables.exec = Jvm.exec) (hlk : meth.locks = false) (hS : s.Since vm0 k0) (hk : k0 ≤ h.size) (hZ : Z.Warmed39 vm0) (hEL : EW Z a0 EL) (C : CHr Z EL s.vm s.heap vm0 h) (eT : T.heap = h) (hret : meth.sig.returnType = some .int) {pc : Nat} {Ls : Array Slot} {z : Int32} {rest : List Value}
    (hd : decode c.code pc = .ok (.ireturn, 1)) (hc : cells ≤ R.cells) (hs : slots ≤ R.slots) (hq : Q (some (.int z)) T.heap locs) : GoS p e s below R Z EL Q T (mkF m pc Ls (.int z :: rest)) :=
  GoS.retO X hx hlk hS hk hZ hEL C eT hret rfl (Or.inl ⟨rfl, Or.inl rfl, _, rfl⟩) hd hc hs hq
theorem GoS.retA (X : Stand p l e R (s.setVm vm0) m args below meth c T locs cells slots) (hx : p.tables.exec = Jvm.exec) (hlk : meth.locks = false) (hS : s.Since vm0 k0) (hk : k0 ≤ h.size) (hZ : Z.Warmed39 vm0) (hEL : EW Z a0 EL) (C : CHr Z EL s.vm s.heap vm0 h) (eT : T.heap = h) {t : FieldType} (hret : meth.sig.returnType = some t) (ht : t.isReference = true) {pc : Nat} {Ls : Array Slot} {w : Value} {rest : List Value}
    (hw : w.isRef = true) (hd : decode c.code pc = .ok (.areturn, 1)) (hc : cells ≤ R.cells) (hs : slots ≤ R.slots) (hq : Q (some w) T.heap locs) : GoS p e s below R Z EL Q T (mkF m pc Ls (w :: rest)) :=
  GoS.retO X hx hlk hS hk hZ hEL C eT hret (by cases t <;> first | (cases ht; done) | rfl) (Or.inr (Or.inr (Or.inr (Or.inr ⟨rfl, ht, hw⟩)))) hd hc hs hq
theorem GoS.retB (X : Stand p l e R (s.setVm vm0) m args below meth c T locs cells slots) (hx : p.tables.exec = Jvm.exec) (hlk : meth.locks = false) (hS : s.Since vm0 k0) (hk : k0 ≤ h.size) (hZ : Z.Warmed39 vm0) (hEL : EW Z a0 EL) (C : CHr Z EL s.vm s.heap vm0 h) (eT : T.heap = h) {t : FieldType} (hret : meth.sig.returnType = some t) (ht : t = .boolean ∨ t = .byte ∨ t = .char ∨ t = .short) {pc : Nat} {Ls : Array Slot} {z : Int32} {rest : List Value}
    (hd : decode c.code pc = .ok (.ireturn, 1)) (hc : cells ≤ R.cells) (hs : slots ≤ R.slots) {z' : Int32} (hz : nar t z = z') (hq : Q (some (.int z')) T.heap locs) : GoS p e s below R Z EL Q T (mkF m pc Ls (.int z :: rest)) := by
  subst hz
  exact GoS.fin X hlk hS hk hZ hEL C eT (fun h => by rw [hret] at h; cases h) hc hs hq (fun fs hr => retN X hx hret ht hd hr)
theorem GoS.retV (X : Stand p l e R (s.setVm vm0) m args below meth c T locs cells slots) (hx : p.tables.exec = Jvm.exec) (hlk : meth.locks = false) (hS : s.Since vm0 k0) (hk : k0 ≤ h.size) (hZ : Z.Warmed39 vm0) (hEL : EW Z a0 EL) (C : CHr Z EL s.vm s.heap vm0 h) (eT : T.heap = h) (hret : meth.sig.returnType = none) {pc : Nat} {Ls : Array Slot}
    (hd : decode c.code pc = .ok (.return_, 1)) (hc : cells ≤ R.cells) (hs : slots ≤ R.slots) (hq : Q none T.heap locs) : GoS p e s below R Z EL Q T (mkF m pc Ls []) :=
  GoS.fin X hlk hS hk hZ hEL C eT (fun _ => rfl) hc hs hq (fun fs hr => X.returnOut hx hret hd hr)
def OkS (l : Launch) (Z : State) (EL : List (String × Nat)) (y : MethodName) (bytes : ByteArray) (maxL : Nat) (ret : Option FieldType) (rm : Room) (as' : Array Value) (h : Heap) (Q : Option Value → Heap → List Loc → Prop) : Prop :=
  ∀ ws : List Jvm.Cond, MetFree l y (head1 (Jvm.Cond.code y bytes maxL ret :: ws) rm) (fun a U => a = as' ∧ Z.Warmed39 U.vm ∧ U.heap = h ∧ CHv Z EL U.vm h) (fun _ _ _ _ _ => True) (fun _ U o U' => ∃ v L, o = .returned v ∧ Q v U'.heap L ∧ CHr Z EL U.vm U.heap U'.vm U'.heap ∧ ReturnedEndW U o U' L rm.cells rm.slots)
theorem OkS.mk {y : MethodName} {bytes : ByteArray} {maxL : Nat} {ret : Option FieldType} {rm : Room} {as' : Array Value} (hn : plainFor y = true)
    (k : ∀ p e s m below meth c s₁, p.tables.exec = Jvm.exec → c.code = bytes → c.maxLocals = maxL → s.vm.findClass y.cls = some m.cls → meth.name = y.name → meth.sig.returnType = ret → meth.locks = false → Z.Warmed39 s.vm → s₁.heap = h → CHr Z EL s.vm s.heap s.vm h → s.Since s.vm 0 → Stand p l e rm (s.setVm s.vm) m as' below meth c s₁ [] 0 0 → GoS p e s below rm Z EL Q s₁ (entryFrame m as' maxL)) :
    OkS l Z EL y bytes maxL ret rm as' h Q := by
  intro ws
  refine MetFree.of_bodySF hn hisR ?_
  intro p e s m args below meth c s₁ Bd hml0 hP hK
  obtain ⟨rfl, hZ, hh, hC⟩ := hP
  exact k p e s m below meth c s₁ Bd.exec Bd.bytes hml0 (findClass_of_methodNamed Bd.named) (name_of_methodNamed Bd.named Bd.method).1 Bd.returns Bd.notSynchronized hZ (by rw [← hh, Bd.state]; rfl) (by rw [hh]; exact CHr.refl hC) ((State.WarmedH.refl s).since 0) (Stand.of_body Bd)
theorem callStS (X : Stand p l e R (s.setVm vm0) m args below meth c T locs cells slots) (hx : p.tables.exec = Jvm.exec) (hZ : Z.Warmed39 vm0) {own : String} {index : Nat} {y : MethodName} {bytes : ByteArray} {maxL : Nat} {ret : Option FieldType} {rm : Room} {as' : Array Value}
    (hS : s.Since vm0 k0) (hk : k0 ≤ h.size) (hEL : EW Z a0 EL) (H : CHv Z EL vm0 h)
    (hown : vm0.findClass own = some m.cls) (w1 : (Jvm.Cond.methodLink own index y).before a0 Z = true) (w2 : (Jvm.Cond.static y).before a0 Z = true) (w3 : (Jvm.Cond.initialized y.cls).before a0 Z = true) (w4 : (Jvm.Cond.code y bytes maxL ret).before a0 Z = true)
    (hy : y.cls ≠ "java/lang/invoke/MethodHandle" ∧ y.cls ≠ "java/lang/invoke/VarHandle") (hM : OkS l Z EL y bytes maxL ret rm as' h Q) (eT : T.heap = h) {W : Nat} (hf : rm.frames + 1 ≤ R.frames) (hl : W + (maxL + 11) + rm.locals ≤ R.locals) (hc : cells + rm.cells ≤ R.cells) (hs : slots + rm.slots ≤ R.slots)
    {g : JFrame} (hg : g.method = m) (hsize : g.locals.size = c.maxLocals) {argsL rest : List Value} (hlen : ∀ sig, parseMethodDescriptor y.desc = some sig → argsL.length = sig.parameters.length) (has : argsL.toArray = as')
    (hstack : g.stack = argsL.reverse ++ rest) (hW : 2 * g.monitorRoom + (rest.map fun v => v.category).sum ≤ W) (hd : decode c.code g.pc = .ok (.invokestatic index, 3)) :
    ∃ T' v L, Stand p l e R (s.setVm T'.vm) m args below meth c T' (locs ++ L) (cells + rm.cells) (slots + rm.slots) ∧ Q v T'.heap L ∧ s.Since T'.vm T'.heap.size ∧ h.size ≤ T'.heap.size ∧ Z.Warmed39 T'.vm ∧ T'.vm.findClass own = some m.cls ∧ CHr Z EL vm0 h T'.vm T'.heap ∧ ∀ t, Steps p.tables e below (T'.setTop { g with pc := g.pc + 3, stack := v.toList ++ rest }) t → Steps p.tables e below (T.setTop g) t := by
  subst has
  subst eT
  obtain ⟨v, _, ⟨T1, L1, k1, n1⟩, -, X1, S1, g1, ⟨Lc, hQ, l1, y1, z1, c1⟩, st⟩ := callSS X hx (y := y) hown (mvT (s := s.setVm vm0) hZ w1) (mvT (s := s.setVm vm0) hZ w2) (mvT (s := s.setVm vm0) hZ w3) (mvT (s := s.setVm vm0) hZ w4) hy (backOfSH (W := W) (hM []) hZ w4 w3 hf hl hEL H) hg hsize hlen hstack hW hd (fun _ _ => ⟨rfl, rfl, hc, hs⟩)
  dsimp only [Pt.U, Pt.locs, Pt.cells, Pt.slots] at X1 l1 y1 z1 st hQ S1 g1 c1
  subst l1 y1 z1
  exact ⟨T1, v, Lc, X1, hQ, foldS hS hk S1 g1, g1, State.Warmed39.trans (t := s.setVm vm0) hZ S1.1, by rw [S1.1.alike.findClass]; exact hown, c1, fun t k => st.trans k⟩
theorem callNewS (X : Stand p l e R (s.setVm vm0) m args below meth c T locs cells slots) (hx : p.tables.exec = Jvm.exec) (hZ : Z.Warmed39 vm0) {own : String} {index : Nat} {y : MethodName} {bytes : ByteArray} {maxL : Nat} {rm : Room} {as' : Array Value} (hy1 : y.name = "<init>")
    (hS : s.Since vm0 k0) (hk : k0 ≤ h.size) (hEL : EW Z a0 EL) (H : CHv Z EL vm0 h)
    (hown : vm0.findClass own = some m.cls) (w1 : (Jvm.Cond.methodLink own index y).before a0 Z = true) (w2 : (Jvm.Cond.instanceMethod y).before a0 Z = true) (w3 : (Jvm.Cond.initialized y.cls).before a0 Z = true) (w4 : (Jvm.Cond.code y bytes maxL none).before a0 Z = true)
    (hy : y.cls ≠ "java/lang/invoke/MethodHandle" ∧ y.cls ≠ "java/lang/invoke/VarHandle") (hM : OkS l Z EL y bytes maxL none rm as' h Q) (eT : T.heap = h) {W : Nat} (hf : rm.frames + 1 ≤ R.frames) (hl : W + (maxL + 11) + rm.locals ≤ R.locals) (hc : cells + rm.cells ≤ R.cells) (hs : slots + rm.slots ≤ R.slots)
    {g : JFrame} (hg : g.method = m) (hsize : g.locals.size = c.maxLocals) {a : Addr} {argsL rest : List Value} (hlen : ∀ sig, parseMethodDescriptor y.desc = some sig → argsL.length = sig.parameters.length) (has : (.ref a :: argsL).toArray = as')
    (hstack : g.stack = argsL.reverse ++ .ref a :: rest) (hW : 2 * g.monitorRoom + (rest.map fun v => v.category).sum ≤ W) (hd : decode c.code g.pc = .ok (.invokespecial index, 3)) :
    ∃ T' v L, Stand p l e R (s.setVm T'.vm) m args below meth c T' (locs ++ L) (cells + rm.cells) (slots + rm.slots) ∧ Q v T'.heap L ∧ s.Since T'.vm T'.heap.size ∧ h.size ≤ T'.heap.size ∧ Z.Warmed39 T'.vm ∧ T'.vm.findClass own = some m.cls ∧ CHr Z EL vm0 h T'.vm T'.heap ∧ ∀ t, Steps p.tables e below (T'.setTop { g with pc := g.pc + 3, stack := v.toList ++ rest }) t → Steps p.tables e below (T.setTop g) t := by
  subst has
  subst eT
  obtain ⟨v, _, ⟨T1, L1, k1, n1⟩, -, X1, S1, g1, ⟨Lc, hQ, l1, y1, z1, c1⟩, st⟩ := X.specialBackS hx (y := y) hy1 hown (mvT (s := s.setVm vm0) hZ w1) (mvT (s := s.setVm vm0) hZ w2) (mvT (s := s.setVm vm0) hZ w4) hy (backOfSH (W := W) (hM []) hZ w4 w3 hf hl hEL H) hg hsize (Steps.refl _) (a := a) hlen hstack hW hd (fun _ _ => ⟨rfl, rfl, hc, hs⟩)
  dsimp only [Pt.U, Pt.locs, Pt.cells, Pt.slots] at X1 l1 y1 z1 st hQ S1 g1 c1
  subst l1 y1 z1
  exact ⟨T1, v, Lc, X1, hQ, foldS hS hk S1 g1, g1, State.Warmed39.trans (t := s.setVm vm0) hZ S1.1, by rw [S1.1.alike.findClass]; exact hown, c1, fun t k => st.trans k⟩
theorem callViS (X : Stand p l e R (s.setVm vm0) m args below meth c T locs cells slots) (hx : p.tables.exec = Jvm.exec) (hZ : Z.Warmed39 vm0) {own C : String} {index : Nat} {y z : MethodName} {bytes : ByteArray} {maxL : Nat} {ret : Option FieldType} {rm : Room} {as' : Array Value}
    (hS : s.Since vm0 k0) (hk : k0 ≤ h.size) (hEL : EW Z a0 EL) (H : CHv Z EL vm0 h)
    (hown : vm0.findClass own = some m.cls) (w1 : (Jvm.Cond.methodLink own index y).before a0 Z = true) (w2 : (Jvm.Cond.declares y).before a0 Z = true) (nf : NotFace (s.setVm vm0) y) (w3 : (Jvm.Cond.selects C y z).before a0 Z = true) (w4 : (Jvm.Cond.instanceMethod z).before a0 Z = true) (w5 : (Jvm.Cond.code z bytes maxL ret).before a0 Z = true) (w6 : (Jvm.Cond.initialized z.cls).before a0 Z = true)
    (hy : y.cls ≠ "java/lang/invoke/MethodHandle" ∧ y.cls ≠ "java/lang/invoke/VarHandle") (hM : OkS l Z EL z bytes maxL ret rm as' h Q) (eT : T.heap = h) {W : Nat} (hf : rm.frames + 1 ≤ R.frames) (hl : W + (maxL + 11) + rm.locals ≤ R.locals) (hc : cells + rm.cells ≤ R.cells) (hs : slots + rm.slots ≤ R.slots)
    {a : Addr} (E : Exa Z h a C) {g : JFrame} (hg : g.method = m) (hsize : g.locals.size = c.maxLocals) {argsL rest : List Value} (hlen : ∀ sig, parseMethodDescriptor y.desc = some sig → argsL.length = sig.parameters.length) (has : (.ref a :: argsL).toArray = as')
    (hstack : g.stack = argsL.reverse ++ .ref a :: rest) (hW : 2 * g.monitorRoom + (rest.map fun v => v.category).sum ≤ W) (hd : decode c.code g.pc = .ok (.invokevirtual index, 3)) :
    ∃ T' v L, Stand p l e R (s.setVm T'.vm) m args below meth c T' (locs ++ L) (cells + rm.cells) (slots + rm.slots) ∧ Q v T'.heap L ∧ s.Since T'.vm T'.heap.size ∧ h.size ≤ T'.heap.size ∧ Z.Warmed39 T'.vm ∧ T'.vm.findClass own = some m.cls ∧ CHr Z EL vm0 h T'.vm T'.heap ∧ ∀ t, Steps p.tables e below (T'.setTop { g with pc := g.pc + 3, stack := v.toList ++ rest }) t → Steps p.tables e below (T.setTop g) t := by
  subst has
  subst eT
  obtain ⟨cq, kq, qa, qb, qc⟩ := isOf (s := s.setVm vm0) hZ rfl E
  obtain ⟨v, _, ⟨T1, L1, k1, n1⟩, -, X1, S1, g1, ⟨Lc, hQ, l1, y1, z1, c1⟩, st⟩ := X.virtualBackS hx (y := y) (z := z) hown (mvT (s := s.setVm vm0) hZ w1) (mvT (s := s.setVm vm0) hZ w2) nf (mvT (s := s.setVm vm0) hZ w3) (mvT (s := s.setVm vm0) hZ w4) hy (backOfSH (W := W) (hM []) hZ w5 w6 hf hl hEL H) qa qc hg hsize (Steps.refl _) hlen hstack hW hd (fun _ _ => ⟨rfl, rfl, hc, hs⟩)
  dsimp only [Pt.U, Pt.locs, Pt.cells, Pt.slots] at X1 l1 y1 z1 st hQ S1 g1 c1
  subst l1 y1 z1
  exact ⟨T1, v, Lc, X1, hQ, foldS hS hk S1 g1, g1, State.Warmed39.trans (t := s.setVm vm0) hZ S1.1, by rw [S1.1.alike.findClass]; exact hown, c1, fun t k => st.trans k⟩
open Jvm.Free.SB Jvm.Free.SBG in
theorem own_safeNull {x : Addr} {vm : Vm} (hal : Z.vm.Alike vm) (E : Exa Z h x "java/lang/String") (F : Fld Z h x "java/lang/String" "value" "[B" .null) : Safe Z EL vm h x := fun B => by
  obtain ⟨cell, k, e1, e2, e3, -, -⟩ := E
  obtain ⟨p, -, u, a, -, q, -, G, rfl | rfl⟩ := B
  · have hh := (show h[q.sa]? = some q.sC from G.ha)
    obtain ⟨cell', cf, k', i, f, f1, f2, f3, f4, f5, f6, f7⟩ := F
    cases hh.symm.trans f1
    obtain ⟨cS, ⟨⟨s1, s2, s3, ⟨cv, kv, iv, s4, s4'⟩, s5, s6, s7, s8, r⟩, -⟩, -⟩ := G
    obtain ⟨kv', z4⟩ := ff_back (U := Wst Z vm h) hal s4
    cases f2.symm.trans z4
    rw [s8] at f7; cases f7
  · cases (show h[q.sd]? = some q.SA from G.hd).symm.trans e1
    obtain ⟨cS, -, -, fB, -⟩ := G
    have fB : vm.findClass "[B" = some q.SA.cls := fB
    rw [hal.findClass] at fB
    obtain ⟨k1, q1, q2⟩ := Vm.findClass_spec fB
    obtain ⟨k2, q3, q4⟩ := Vm.findClass_spec e2
    cases q1.symm.trans q3
    exact absurd (q2.symm.trans q4) (by decide)
end OwnKitS
theorem own_c255 (x : Int32) : nar .char (x &&& 255).toUInt32.toUInt16.toUInt32.toInt32 = x &&& 255 := by
  rw [i2c_mask]
  exact i2c_mask x
theorem own_f255 (x : Int32) : fits .char (.int (x &&& 255)) = true := by
  rw [← own_c255]
  exact fits_nar_char _
theorem own_b8 (x : Int32) : nar .byte x.toInt8.toInt32 = x.toInt8.toInt32 := by
  show x.toInt8.toInt32.toInt8.toInt32 = _
  rw [Int8.toInt8_toInt32]
theorem own_le255 (x : Int32) : ¬ ((255 : Int32) < (x &&& (255 : Int32))) := by
  have h1 := c_mask x 255 8 (by decide) (by decide)
  rw [Int32.lt_iff_toInt_lt, h1]
  show ¬ (255 : Int) < _
  omega
def own_Ctx (Z : State) (A : Nat → Addr) (KC : Nat → Cell) (IC : Nat → Int32) (VC : Nat → Value) : Prop :=
  (Sta Z Z.heap "com/example/patient_courier/patientcourier/NameRule" "TOPIC" "Lcom/example/patient_courier/patientcourier/NameRule;" (.ref (A 0))) ∧
  (Exa Z Z.heap (A 0) "com/example/patient_courier/patientcourier/NameRule") ∧
  (Fld Z Z.heap (A 0) "com/example/patient_courier/patientcourier/NameRule" "minLength" "I" (.int (3 : Int32))) ∧
  (Fld Z Z.heap (A 0) "com/example/patient_courier/patientcourier/NameRule" "maxLength" "I" (.int (50 : Int32))) ∧
  (Sta Z Z.heap "com/example/patient_courier/patientcourier/NameRule" "SUBSCRIPTION" "Lcom/example/patient_courier/patientcourier/NameRule;" (.ref (A 1))) ∧
  (Exa Z Z.heap (A 1) "com/example/patient_courier/patientcourier/NameRule") ∧
  (Fld Z Z.heap (A 1) "com/example/patient_courier/patientcourier/NameRule" "minLength" "I" (.int (3 : Int32))) ∧
  (Fld Z Z.heap (A 1) "com/example/patient_courier/patientcourier/NameRule" "maxLength" "I" (.int (64 : Int32))) ∧
  (Sta Z Z.heap "java/lang/String" "COMPACT_STRINGS" "Z" (.int (IC 0))) ∧
  (¬ ((IC 0) = (0 : Int32))) ∧
  (Sta Z Z.heap "java/lang/StringUTF16" "$assertionsDisabled" "Z" (.int (1 : Int32))) ∧
  (Sta Z Z.heap "java/lang/StringUTF16" "HI_BYTE_SHIFT" "I" (.int (0 : Int32))) ∧
  (Sta Z Z.heap "java/lang/StringUTF16" "LO_BYTE_SHIFT" "I" (.int (8 : Int32))) ∧
  (Sta Z Z.heap "jdk/internal/util/Preconditions" "SIOOBE_FORMATTER" "Ljava/util/function/BiFunction;" (VC 0)) ∧
  ((VC 0) = .null ∨ ∃ fa, (VC 0) = .ref fa)
theorem own_w {Z : State} {a0 : Array Value} (hw : ∀ d ∈ tables_1, d.before a0 Z = true) {i : Nat} {d : Jvm.Cond} (h : tables_1[i]? = some d) : d.before a0 Z = true := hw d (List.mem_of_getElem? h)
def own_EL : List (String × Nat) := [("java/lang/String", 7)]
theorem own_EW {Z : State} {a0 : Array Value} (hw : ∀ d ∈ tables_1, d.before a0 Z = true) : EW Z a0 own_EL := (EW.cons (own_w hw (i := 88) rfl) (by decide +kernel) EW.nil)
theorem own_wS {Z : State} {a0 : Array Value} (hw : ∀ d ∈ tables_1, d.before a0 Z = true) : ∀ a ∈ Bundle.stringAtoms, a.before a0 Z = true := by
  intro a ha
  simp only [Bundle.stringAtoms, List.mem_cons, List.not_mem_nil, or_false] at ha
  rcases ha with rfl | rfl | rfl | rfl | rfl | rfl | rfl
  · exact (own_w hw (i := 12) rfl)
  · exact (own_w hw (i := 11) rfl)
  · exact (own_w hw (i := 28) rfl)
  · exact (own_w hw (i := 38) rfl)
  · exact (own_w hw (i := 36) rfl)
  · exact (own_w hw (i := 89) rfl)
  · exact (own_w hw (i := 90) rfl)
def own_fn (n : Nat) (f : Nat → Int32) : List Value := (List.range n).map fun j => Value.int (f j)
theorem own_fnlen (n : Nat) (f : Nat → Int32) : (own_fn n f).length = n := by
  unfold own_fn
  rw [List.length_map, List.length_range]
theorem own_fnin {n : Nat} (f : Nat → Int32) {j : Nat} (h : j < n) : (own_fn n f)[j]? = some (.int (f j)) := by
  unfold own_fn
  rw [List.getElem?_map, List.getElem?_range h]
  rfl
theorem own_fnout {n : Nat} (f : Nat → Int32) {j : Nat} (h : ¬ j < n) : (own_fn n f)[j]? = none := by
  unfold own_fn
  rw [List.getElem?_map, List.getElem?_eq_none (by rw [List.length_range]; omega)]
  rfl
theorem own_fnat {n : Nat} (f : Nat → Int32) {j : Nat} (h : j < n) : (own_fn n f).getD j (.int (0 : Int32)) = .int (f j) := by
  rw [List.getD_eq_getElem?_getD, own_fnin f h]
  rfl
def own_up (f : Nat → Int32) (i : Nat) (x : Int32) : Nat → Int32 := fun j => if j = i then x else f j
theorem own_fnset (n : Nat) (f : Nat → Int32) (i : Nat) (x : Int32) : (own_fn n f).set i (.int x) = own_fn n (own_up f i x) := by
  apply List.ext_getElem?
  intro t
  rw [List.getElem?_set]
  by_cases h : t < n
  · rw [own_fnin _ h, own_fnin _ h, own_fnlen]
    unfold own_up
    by_cases e : i = t
    · subst e
      rw [if_pos rfl, if_pos h, if_pos rfl]
    · rw [if_neg e, if_neg (fun q => e q.symm)]
  · rw [own_fnout _ h, own_fnout _ h, own_fnlen]
    by_cases e : i = t
    · subst e
      rw [if_pos rfl, if_neg h]
    · rw [if_neg e]
theorem own_fnext {n : Nat} {f g : Nat → Int32} (h : ∀ j, j < n → f j = g j) : own_fn n f = own_fn n g := by
  apply List.ext_getElem?
  intro t
  by_cases q : t < n
  · rw [own_fnin _ q, own_fnin _ q, h t q]
  · rw [own_fnout _ q, own_fnout _ q]
theorem own_fn0 (n : Nat) (f : Nat → Int32) (hf : ∀ j, f j = 0) (i : Nat) : (own_fn n f).getD i (.int (0 : Int32)) = ([] : List Value).getD i (.int (0 : Int32)) := by
  by_cases h : i < n
  · rw [own_fnat _ h, hf]
    rfl
  · rw [List.getD_eq_getElem?_getD, own_fnout _ h]
    rfl
theorem own_fnz (n : Nat) (f : Nat → Int32) (hf : ∀ j, f j = 0) (i : Nat) : (own_fn n f).getD i (.int (0 : Int32)) = (List.replicate n (Value.int (0 : Int32))).getD i (.int (0 : Int32)) := by
  rw [own_fn0 n f hf]
  exact (pad_rep [] (.int (0 : Int32)) n i).symm
theorem own_upA {Z : State} {h : Heap} {a : Addr} {k : ClassId} {ty : FieldType} {z : Int32} {n i : Nat} {f : Nat → Int32} {x : Int32} {dv : Value} (A : Arv Z h a k ty z ((own_fn n f).set i (.int x)) dv) : Arv Z h a k ty z (own_fn n (own_up f i x)) dv := own_fnset n f i x ▸ A
theorem own_exA {Z : State} {h : Heap} {a : Addr} {k : ClassId} {ty : FieldType} {z : Int32} {n : Nat} {f g : Nat → Int32} {dv : Value} (A : Arv Z h a k ty z (own_fn n f) dv) (e : ∀ j, j < n → f j = g j) : Arv Z h a k ty z (own_fn n g) dv := own_fnext e ▸ A
/-! numbers -/
theorem own_nneg {i : Int32} (h : 0 ≤ i.toInt) : ¬ i < 0 := fun q => by
  have := Int32.lt_iff_toInt_lt.mp q
  rw [show (0 : Int32).toInt = 0 from rfl] at this
  omega
theorem own_ltN {i n : Int32} {f : Nat} (h : i.toInt + (f + 1 : Nat) = n.toInt) : i < n := Int32.lt_iff_toInt_lt.mpr (by omega)
theorem own_geN {i n : Int32} (h : i.toInt + (0 : Nat) = n.toInt) : ¬ i < n := fun q => by
  have := Int32.lt_iff_toInt_lt.mp q
  omega
theorem own_ieq {i n : Int32} (h : i.toInt + (0 : Nat) = n.toInt) : i = n := Int32.toInt_inj.mp (by omega)
theorem own_incN {i n : Int32} {f : Nat} (h0 : 0 ≤ i.toInt) (h : i.toInt + (f + 1 : Nat) = n.toInt) : (i + 1).toInt = i.toInt + 1 := by
  have r1 := rng32 i
  have r2 := rng32 n
  have r3 := rng32 (i + 1)
  have q := c_iadd i 1
  rw [show (1 : Int32).toInt = 1 from rfl] at q
  omega
theorem own_hi1 {i n : Int32} {f : Nat} (h0 : 0 ≤ i.toInt) (h : i.toInt + (f + 1 : Nat) = n.toInt) : 0 ≤ (i + 1).toInt := by rw [own_incN h0 h]; omega
theorem own_hf1 {i n : Int32} {f : Nat} (h0 : 0 ≤ i.toInt) (h : i.toInt + (f + 1 : Nat) = n.toInt) : (i + 1).toInt + f = n.toInt := by rw [own_incN h0 h]; omega
theorem own_tn (i : Int32) : i.toNatClampNeg = i.toInt.toNat := rfl
theorem own_nS {i n : Int32} {f : Nat} (h0 : 0 ≤ i.toInt) (h : i.toInt + (f + 1 : Nat) = n.toInt) : (i + 1).toNatClampNeg = i.toNatClampNeg + 1 := by
  rw [own_tn, own_tn, own_incN h0 h]
  omega
theorem own_kN {i n : Int32} {f N : Nat} (h0 : 0 ≤ i.toInt) (h : i.toInt + (f + 1 : Nat) = n.toInt) (hn : n.toInt = N) : i.toNatClampNeg < N := by
  rw [own_tn]
  omega
theorem own_hn0 {n : Int32} {N : Nat} (h : n.toInt = N) : (0 : Int32).toInt + (N : Nat) = n.toInt := by
  rw [show (0 : Int32).toInt = 0 from rfl]
  omega
theorem own_nN {n : Int32} {N : Nat} (h : n.toInt = N) : n.toNatClampNeg = N := by
  rw [own_tn]
  omega
theorem own_nnN {n : Int32} {N : Nat} (h : n.toInt = N) : ¬ n < 0 := own_nneg (by omega)
theorem own_ltt {n a b : Int32} (h : n < a) (q : a ≤ b) : n < b := Int32.lt_iff_toInt_lt.mpr (by have := Int32.lt_iff_toInt_lt.mp h; have := Int32.le_iff_toInt_le.mp q; omega)
theorem own_nlt {n a b : Int32} (h : ¬ n < a) (q : b ≤ a) : ¬ n < b := fun z => h (own_ltt z q)
/-! chars -/
def own_ch (x : Int32) : Prop := 0 ≤ x.toInt ∧ x.toInt ≤ 65535
theorem own_chi (x : Int32) : own_ch (x.toUInt32.toUInt16.toUInt32.toInt32) := by
  have := c_i2c x
  unfold own_ch
  omega
theorem own_narch {x : Int32} (h : own_ch x) : nar .char x = x := by
  show x.toUInt32.toUInt16.toUInt32.toInt32 = x
  have q := c_i2c x
  unfold own_ch at h
  exact Int32.toInt_inj.mp (by omega)
theorem own_fitch {x : Int32} (h : own_ch x) : fits .char (.int x) = true := own_narch h ▸ fits_nar_char x
abbrev own_lob (x : Int32) : Int32 := (x >>> ((0 : Int32) &&& 31)).toInt8.toInt32
abbrev own_hib (x : Int32) : Int32 := (x >>> ((8 : Int32) &&& 31)).toInt8.toInt32
abbrev own_gc (a b : Int32) : Int32 := (((a &&& (255 : Int32)) <<< ((0 : Int32) &&& 31)) ||| ((b &&& (255 : Int32)) <<< ((8 : Int32) &&& 31))).toUInt32.toUInt16.toUInt32.toInt32
theorem own_gcx {x : Int32} (h : own_ch x) : own_gc (own_lob x) (own_hib x) = x := by
  unfold own_ch at h
  have a1 := c_ishr x 0 0 (by decide)
  have a2 := c_ishr x 8 8 (by decide)
  have b1 : ((own_lob x).toInt - (x >>> ((0 : Int32) &&& 31)).toInt) % 256 = 0 ∧ -128 ≤ (own_lob x).toInt ∧ (own_lob x).toInt < 128 := c_i2b (x >>> ((0 : Int32) &&& 31))
  have b2 : ((own_hib x).toInt - (x >>> ((8 : Int32) &&& 31)).toInt) % 256 = 0 ∧ -128 ≤ (own_hib x).toInt ∧ (own_hib x).toInt < 128 := c_i2b (x >>> ((8 : Int32) &&& 31))
  have m1 := c_mask (own_lob x) 255 8 (by decide) (by decide)
  have m2 := c_mask (own_hib x) 255 8 (by decide) (by decide)
  have s1 := c_ishl (own_lob x &&& (255 : Int32)) 0 0 (by decide)
  have s2 := c_ishl (own_hib x &&& (255 : Int32)) 8 8 (by decide)
  have r1 := rng32 ((own_lob x &&& (255 : Int32)) <<< ((0 : Int32) &&& 31))
  have r2 := rng32 ((own_hib x &&& (255 : Int32)) <<< ((8 : Int32) &&& 31))
  simp only [Nat.reducePow] at a1 a2 m1 m2 s1 s2
  have e1 : ((own_lob x &&& (255 : Int32)) <<< ((0 : Int32) &&& 31)).toInt = x.toInt % 256 := by omega
  have e2 : ((own_hib x &&& (255 : Int32)) <<< ((8 : Int32) &&& 31)).toInt = x.toInt / 256 * 256 := by omega
  have o := c_or' ((own_lob x &&& (255 : Int32)) <<< ((0 : Int32) &&& 31)) ((own_hib x &&& (255 : Int32)) <<< ((8 : Int32) &&& 31)) 8 (by decide) 256 rfl (by omega) (by omega) (by omega)
  have r3 := rng32 (((own_lob x &&& (255 : Int32)) <<< ((0 : Int32) &&& 31)) ||| ((own_hib x &&& (255 : Int32)) <<< ((8 : Int32) &&& 31)))
  have c := c_i2c (((own_lob x &&& (255 : Int32)) <<< ((0 : Int32) &&& 31)) ||| ((own_hib x &&& (255 : Int32)) <<< ((8 : Int32) &&& 31)))
  apply Int32.toInt_inj.mp
  show (((own_lob x &&& (255 : Int32)) <<< ((0 : Int32) &&& 31)) ||| ((own_hib x &&& (255 : Int32)) <<< ((8 : Int32) &&& 31))).toUInt32.toUInt16.toUInt32.toInt32.toInt = x.toInt
  omega
theorem own_narc (x : Int32) : nar .char x.toUInt32.toUInt16.toUInt32.toInt32 = x.toUInt32.toUInt16.toUInt32.toInt32 := own_narch (own_chi x)
theorem own_l1x {x : Int32} (h : own_ch x) (q : ¬ (255 : Int32) < x) : (x.toInt8.toInt32 &&& (255 : Int32)).toUInt32.toUInt16.toUInt32.toInt32 = x := by
  unfold own_ch at h
  have q' : ¬ (255 : Int) < x.toInt := fun z => q (Int32.lt_iff_toInt_lt.mpr z)
  have b1 := c_i2b x
  have m1 := c_mask (x.toInt8.toInt32) 255 8 (by decide) (by decide)
  simp only [Nat.reducePow] at m1
  have c := c_i2c (x.toInt8.toInt32 &&& (255 : Int32))
  exact Int32.toInt_inj.mp (by omega)
/-! the bytes -/
def own_pb (c : Nat → Int32) (i : Nat) : Nat → Int32 := fun j => if j < i then (c j).toInt8.toInt32 else 0
theorem own_pb0 (c : Nat → Int32) (j : Nat) : own_pb c 0 j = 0 := if_neg (Nat.not_lt_zero j)
theorem own_pbS (c : Nat → Int32) (i j : Nat) : own_up (own_pb c i) i ((c i).toInt8.toInt32) j = own_pb c (i + 1) j := by
  unfold own_up own_pb
  by_cases e : j = i
  · subst e
    rw [if_pos rfl, if_pos (Nat.lt_succ_self j)]
  · by_cases q : j < i
    · rw [if_neg e, if_pos q, if_pos (by omega)]
    · rw [if_neg e, if_neg q, if_neg (by omega)]
def own_ub (c : Nat → Int32) : Nat → Int32 := fun j => if j % 2 = 0 then own_lob (c (j / 2)) else own_hib (c (j / 2))
def own_put (g : Nat → Int32) (i : Nat) (x : Int32) : Nat → Int32 := own_up (own_up g (2 * i) (own_lob x)) (2 * i + 1) (own_hib x)
def own_pu (c : Nat → Int32) (i : Nat) : Nat → Int32 := fun j => if j < 2 * i then own_ub c j else 0
theorem own_pu0 (c : Nat → Int32) (j : Nat) : own_pu c 0 j = 0 := if_neg (Nat.not_lt_zero j)
theorem own_ub0 (c : Nat → Int32) (i : Nat) : own_ub c (2 * i) = own_lob (c i) := by
  unfold own_ub
  rw [if_pos (by omega), show (2 * i) / 2 = i by omega]
theorem own_ub1 (c : Nat → Int32) (i : Nat) : own_ub c (2 * i + 1) = own_hib (c i) := by
  unfold own_ub
  rw [if_neg (by omega), show (2 * i + 1) / 2 = i by omega]
theorem own_puS (c : Nat → Int32) (i j : Nat) : own_put (own_pu c i) i (c i) j = own_pu c (i + 1) j := by
  unfold own_put own_up own_pu
  by_cases e : j = 2 * i + 1
  · subst e
    rw [if_pos rfl, if_pos (by omega), own_ub1]
  · by_cases e2 : j = 2 * i
    · subst e2
      rw [if_neg e, if_pos rfl, if_pos (by omega), own_ub0]
    · by_cases q : j < 2 * i
      · rw [if_neg e, if_neg e2, if_pos q, if_pos (by omega)]
      · rw [if_neg e, if_neg e2, if_neg q, if_neg (by omega)]
/-! twice an index -/
abbrev own_d (i : Int32) : Int32 := i <<< ((1 : Int32) &&& 31)
theorem own_dbl {i : Int32} (h0 : 0 ≤ i.toInt) (h : i.toInt ≤ 65) : (i <<< ((1 : Int32) &&& 31)).toInt = 2 * i.toInt := by
  have s1 := c_ishl i 1 1 (by decide)
  have r1 := rng32 (i <<< ((1 : Int32) &&& 31))
  simp only [Nat.reducePow] at s1
  omega
theorem own_dbl1 {i : Int32} (h0 : 0 ≤ i.toInt) (h : i.toInt ≤ 65) : ((i <<< ((1 : Int32) &&& 31)) + (1 : Int32)).toInt = 2 * i.toInt + 1 := by
  have s1 := own_dbl h0 h
  have q := c_iadd (i <<< ((1 : Int32) &&& 31)) 1
  have r1 := rng32 ((i <<< ((1 : Int32) &&& 31)) + (1 : Int32))
  rw [show (1 : Int32).toInt = 1 from rfl] at q
  omega
theorem own_dn {i : Int32} (h0 : 0 ≤ i.toInt) (h : i.toInt ≤ 65) : (i <<< ((1 : Int32) &&& 31)).toNatClampNeg = 2 * i.toNatClampNeg := by
  rw [own_tn, own_tn, own_dbl h0 h]
  omega
theorem own_dn1 {i : Int32} (h0 : 0 ≤ i.toInt) (h : i.toInt ≤ 65) : ((i <<< ((1 : Int32) &&& 31)) + (1 : Int32)).toNatClampNeg = 2 * i.toNatClampNeg + 1 := by
  rw [own_tn, own_tn, own_dbl1 h0 h]
  omega
theorem own_d0 {i : Int32} (h0 : 0 ≤ i.toInt) (h : i.toInt ≤ 65) : ¬ (i <<< ((1 : Int32) &&& 31)) < 0 := own_nneg (by rw [own_dbl h0 h]; omega)
theorem own_d01 {i : Int32} (h0 : 0 ≤ i.toInt) (h : i.toInt ≤ 65) : ¬ ((i <<< ((1 : Int32) &&& 31)) + (1 : Int32)) < 0 := own_nneg (by rw [own_dbl1 h0 h]; omega)
theorem own_dlt {i b : Int32} {M : Nat} (h0 : 0 ≤ i.toInt) (h : i.toInt ≤ 65) (hb : b.toInt = M) (q : 2 * i.toInt + 1 < M) : (i <<< ((1 : Int32) &&& 31)) < b := Int32.lt_iff_toInt_lt.mpr (by rw [own_dbl h0 h]; omega)
theorem own_dlt1 {i b : Int32} {M : Nat} (h0 : 0 ≤ i.toInt) (h : i.toInt ≤ 65) (hb : b.toInt = M) (q : 2 * i.toInt + 1 < M) : ((i <<< ((1 : Int32) &&& 31)) + (1 : Int32)) < b := Int32.lt_iff_toInt_lt.mpr (by rw [own_dbl1 h0 h]; omega)
theorem own_dM {i : Int32} {M : Nat} (h0 : 0 ≤ i.toInt) (q : 2 * i.toInt + 1 < M) : 2 * i.toNatClampNeg < M := by rw [own_tn]; omega
theorem own_dM1 {i : Int32} {M : Nat} (h0 : 0 ≤ i.toInt) (q : 2 * i.toInt + 1 < M) : 2 * i.toNatClampNeg + 1 < M := by rw [own_tn]; omega
/-! what compress says -/
def own_cr (N : Nat) (c : Nat → Int32) (r : Int32) : Prop := (r.toInt = N ∧ ∀ j, j < N → ¬ (255 : Int32) < c j) ∨ (0 ≤ r.toInt ∧ r.toInt < N ∧ (255 : Int32) < c r.toNatClampNeg)
def own_k3 (N : Nat) (c : Nat → Int32) (n b : Int32) (M : Nat) (g : Nat → Int32) : Prop := (b = n ∧ M = N ∧ ∀ j, j < N → ¬ (255 : Int32) < c j ∧ g j = (c j).toInt8.toInt32) ∨ (b.toInt = 2 * N ∧ M = 2 * N ∧ ∀ j, j < 2 * N → g j = own_ub c j)
theorem own_k3a {N : Nat} {c : Nat → Int32} {n r : Int32} (hn : n.toInt = N) (h : own_cr N c r) (e : r = n) : own_k3 N c n n N (own_pb c r.toNatClampNeg) := by
  subst e
  rcases h with ⟨h1, h2⟩ | ⟨h1, h2, h3⟩
  · refine Or.inl ⟨rfl, rfl, fun j hj => ⟨h2 j hj, ?_⟩⟩
    unfold own_pb
    rw [if_pos (by rw [own_nN h1]; exact hj)]
  · omega
theorem own_cr2 {N : Nat} {c : Nat → Int32} {n r : Int32} (hn : n.toInt = N) (h : own_cr N c r) (e : ¬ r = n) : 0 ≤ r.toInt ∧ r.toInt < N ∧ (255 : Int32) < c r.toNatClampNeg := by
  rcases h with ⟨h1, h2⟩ | h
  · exact absurd (Int32.toInt_inj.mp (by omega)) e
  · exact h
theorem own_gcg {N : Nat} {c g : Nat → Int32} {r : Int32} (hc : ∀ j, own_ch (c j)) (hg : ∀ j, j < 2 * N → g j = own_ub c j) (h0 : 0 ≤ r.toInt) (h : r.toInt < N) : own_gc (g (2 * r.toNatClampNeg)) (g (2 * r.toNatClampNeg + 1)) = c r.toNatClampNeg := by
  have q : r.toNatClampNeg < N := by rw [own_tn]; omega
  rw [hg _ (by omega), hg _ (by omega), own_ub0, own_ub1]
  exact own_gcx (hc _)
/-! the coder -/
abbrev own_cdr (n b : Int32) : Int32 := (((n - b).toUInt32 >>> ((31 : Int32) &&& 31).toUInt32).toInt32).toInt8.toInt32
theorem own_cdrb (n b : Int32) : narrow .byte (.int (own_cdr n b)) = .int (own_cdr n b) := congrArg Value.int (own_b8 (((n - b).toUInt32 >>> ((31 : Int32) &&& 31).toUInt32).toInt32))
theorem own_cdrf (n b : Int32) : fits .byte (.int (own_cdr n b)) = true := fits_nar_byte (((n - b).toUInt32 >>> ((31 : Int32) &&& 31).toUInt32).toInt32)
def own_k4 (N : Nat) (c : Nat → Int32) (n b : Int32) (M : Nat) (g : Nat → Int32) (cd : Int32) : Prop := (cd = 0 ∧ b = n ∧ M = N ∧ ∀ j, j < N → ¬ (255 : Int32) < c j ∧ g j = (c j).toInt8.toInt32) ∨ (cd = 1 ∧ b.toInt = 2 * N ∧ M = 2 * N ∧ ∀ j, j < 2 * N → g j = own_ub c j)
theorem own_k34 {N : Nat} {c : Nat → Int32} {n b : Int32} {M : Nat} {g : Nat → Int32} (hn : n.toInt = N) (hN : N ≤ 65) (h1 : 0 < N) (h : own_k3 N c n b M g) : own_k4 N c n b M g (own_cdr n b) := by
  rcases h with ⟨rfl, h⟩ | ⟨hb, h⟩
  · refine Or.inl ⟨?_, rfl, h⟩
    show (((b - b).toUInt32 >>> ((31 : Int32) &&& 31).toUInt32).toInt32).toInt8.toInt32 = 0
    rw [Int32.sub_self]
    decide
  · refine Or.inr ⟨?_, hb, h⟩
    have a := c_isub n b
    have r := rng32 (n - b)
    have u := c_iushr (n - b) 31 31 (by decide) (by decide)
    have e : ((n - b).toUInt32 >>> ((31 : Int32) &&& 31).toUInt32).toInt32 = 1 := by
      apply Int32.toInt_inj.mp
      rw [u, show (1 : Int32).toInt = 1 from rfl, show ((2 ^ 31 : Nat) : Int) = 2147483648 from rfl]
      omega
    show (((n - b).toUInt32 >>> ((31 : Int32) &&& 31).toUInt32).toInt32).toInt8.toInt32 = 1
    rw [e]
    decide
theorem own_k4b {N : Nat} {c : Nat → Int32} {n b : Int32} {M : Nat} {g : Nat → Int32} {cd : Int32} (h : own_k4 N c n b M g cd) : nar .byte cd = cd := by
  rcases h with ⟨rfl, h⟩ | ⟨rfl, h⟩ <;> decide
theorem own_k4l {N : Nat} {c : Nat → Int32} {n b : Int32} {M : Nat} {g : Nat → Int32} {cd : Int32} (hn : n.toInt = N) (h : own_k4 N c n b M g cd) : b >>> (cd &&& 31) = n := by
  rcases h with ⟨rfl, rfl, h⟩ | ⟨rfl, hb, h⟩
  · apply Int32.toInt_inj.mp
    rw [c_ishr b 0 0 (by decide), show ((2 ^ 0 : Nat) : Int) = 1 from rfl]
    omega
  · apply Int32.toInt_inj.mp
    rw [c_ishr b 1 1 (by decide), show ((2 ^ 1 : Nat) : Int) = 2 from rfl]
    omega
theorem own_k4M {N : Nat} {c : Nat → Int32} {n b : Int32} {M : Nat} {g : Nat → Int32} {cd : Int32} (hn : n.toInt = N) (h : own_k4 N c n b M g cd) : b.toInt = M := by
  rcases h with ⟨-, rfl, rfl, -⟩ | ⟨-, hb, rfl, -⟩ <;> omega
theorem own_k40 {N : Nat} {c : Nat → Int32} {n b : Int32} {M : Nat} {g : Nat → Int32} {cd : Int32} (h : own_k4 N c n b M g cd) (e : cd = 0) : b = n ∧ M = N ∧ ∀ j, j < N → ¬ (255 : Int32) < c j ∧ g j = (c j).toInt8.toInt32 := by
  rcases h with ⟨-, h⟩ | ⟨q, h⟩
  · exact h
  · rw [e] at q
    exact absurd q (by decide)
theorem own_k41 {N : Nat} {c : Nat → Int32} {n b : Int32} {M : Nat} {g : Nat → Int32} {cd : Int32} (h : own_k4 N c n b M g cd) (e : ¬ cd = 0) : b.toInt = 2 * N ∧ M = 2 * N ∧ ∀ j, j < 2 * N → g j = own_ub c j := by
  rcases h with ⟨q, h⟩ | ⟨q, h⟩
  · exact absurd q e
  · exact h
/-! names -/
def own_nm (x : Int32) : Int32 := if (¬ x < 97 ∧ ¬ 122 < x) ∨ (¬ x < 65 ∧ ¬ 90 < x) ∨ (¬ x < 48 ∧ ¬ 57 < x) ∨ x = 45 then 1 else 0
def own_ar (N : Nat) (c : Nat → Int32) (n mx r : Int32) : Prop := (r = 1 ∧ ¬ n < 3 ∧ ¬ mx < n ∧ ∀ j, j < N → own_nm (c j) = 1) ∨ (r = 0 ∧ (n < 3 ∨ mx < n ∨ ∃ j, j < N ∧ own_nm (c j) = 0))
theorem own_nm01 (x : Int32) : own_nm x = 0 ∨ own_nm x = 1 := by
  unfold own_nm
  split
  · exact Or.inr rfl
  · exact Or.inl rfl
theorem own_ar1 {N : Nat} {c : Nat → Int32} {n mx r : Int32} (h : own_ar N c n mx r) (h1 : ¬ n < 3) (h2 : ¬ mx < n) (h3 : ∀ j, j < N → own_nm (c j) = 1) : r = 1 := by
  rcases h with h | ⟨-, h | h | ⟨j, hj, h⟩⟩
  · exact h.1
  · exact absurd h h1
  · exact absurd h h2
  · rw [h3 j hj] at h
    exact absurd h (by decide)
theorem own_ar0 {N : Nat} {c : Nat → Int32} {n mx r : Int32} (h : own_ar N c n mx r) (q : n < 3 ∨ mx < n ∨ ∃ j, j < N ∧ own_nm (c j) = 0) : r = 0 := by
  rcases h with ⟨-, h1, h2, h3⟩ | h
  · rcases q with q | q | ⟨j, hj, q⟩
    · exact absurd q h1
    · exact absurd q h2
    · rw [h3 j hj] at q
      exact absurd q (by decide)
  · exact h.1
theorem own_all1 {c : Nat → Int32} {i : Nat} (h : ∀ j, j < i → own_nm (c j) = 1) (q : own_nm (c i) = 1) : ∀ j, j < i + 1 → own_nm (c j) = 1 := fun j hj => by
  by_cases e : j = i
  · rw [e]; exact q
  · exact h j (by omega)
theorem own_ge3 {n : Int32} {N : Nat} (hn : n.toInt = N) (h : ¬ n < 3) : 3 ≤ N := by
  have : ¬ n.toInt < 3 := fun q => h (Int32.lt_iff_toInt_lt.mpr q)
  omega
theorem own_ge1 {n : Int32} {N : Nat} (hn : n.toInt = N) (h : ¬ n < 1) : 0 < N := by
  have : ¬ n.toInt < 1 := fun q => h (Int32.lt_iff_toInt_lt.mpr q)
  omega
theorem own_z1 {n : Int32} {N : Nat} (hn : n.toInt = N) (h : n < 1) : n = 0 := by
  have : n.toInt < 1 := Int32.lt_iff_toInt_lt.mp h
  exact Int32.toInt_inj.mp (by rw [show (0 : Int32).toInt = 0 from rfl]; omega)
theorem own_n0 {n : Int32} {N : Nat} (hn : n.toInt = N) (h : 0 < N) : ¬ n = 0 := fun e => by
  subst e
  rw [show (0 : Int32).toInt = 0 from rfl] at hn
  omega
theorem own_nm0 {x : Int32} (h : ¬ own_nm x = 0) : own_nm x = 1 := (own_nm01 x).elim (fun q => absurd q h) id
/-! the law's array -/
def own_lc (f a b d : Int32) (N i : Nat) : Nat → Int32 := own_up (own_up (own_up (fun _ => f) 0 a) (N - 1) b) i d
theorem own_upch {g : Nat → Int32} {i : Nat} {x : Int32} (h : ∀ j, own_ch (g j)) (q : own_ch x) : ∀ j, own_ch (own_up g i x j) := fun j => by
  unfold own_up
  split
  · exact q
  · exact h j
theorem own_lcall {f a b d : Int32} {N i : Nat} (h1 : own_nm a = 1) (h2 : own_nm b = 1) (h3 : own_nm d = 1) (h4 : N < 4 ∨ own_nm f = 1) (hi : 0 < i) (hiN : i < N - 1) : ∀ j, j < N → own_nm (own_lc f a b d N i j) = 1 := fun j hj => by
  unfold own_lc own_up
  split
  · exact h3
  · split
    · exact h2
    · split
      · exact h1
      · rcases h4 with h4 | h4
        · omega
        · exact h4
theorem own_lca {f a b d : Int32} {N i : Nat} (h : own_nm a = 0) (hi : 0 < i) (hiN : i < N - 1) : ∃ j, j < N ∧ own_nm (own_lc f a b d N i j) = 0 := ⟨0, by omega, by
  unfold own_lc own_up
  rw [if_neg (by omega), if_neg (by omega), if_pos rfl]
  exact h⟩
theorem own_lcb {f a b d : Int32} {N i : Nat} (h : own_nm b = 0) (hi : 0 < i) (hiN : i < N - 1) : ∃ j, j < N ∧ own_nm (own_lc f a b d N i j) = 0 := ⟨N - 1, by omega, by
  unfold own_lc own_up
  rw [if_neg (by omega), if_pos rfl]
  exact h⟩
theorem own_lcd {f a b d : Int32} {N i : Nat} (h : own_nm d = 0) (hi : 0 < i) (hiN : i < N - 1) : ∃ j, j < N ∧ own_nm (own_lc f a b d N i j) = 0 := ⟨i, by omega, by
  unfold own_lc own_up
  rw [if_pos rfl]
  exact h⟩
theorem own_lcf {f a b d : Int32} {N i : Nat} (h : own_nm f = 0) (hN : ¬ N < 4) (hi : 0 < i) (hiN : i < N - 1) : ∃ j, j < N ∧ own_nm (own_lc f a b d N i j) = 0 := by
  by_cases e : i = 1
  · refine ⟨2, by omega, ?_⟩
    unfold own_lc own_up
    rw [if_neg (by omega), if_neg (by omega), if_neg (by omega)]
    exact h
  · refine ⟨1, by omega, ?_⟩
    unfold own_lc own_up
    rw [if_neg (by omega), if_neg (by omega), if_neg (by omega)]
    exact h
theorem own_lt4 {n : Int32} {N : Nat} (hn : n.toInt = N) (h : n < 4) : N < 4 := by
  have : n.toInt < 4 := Int32.lt_iff_toInt_lt.mp h
  omega
theorem own_nlt4 {n : Int32} {N : Nat} (hn : n.toInt = N) (h : ¬ n < 4) : ¬ N < 4 := fun q => h (Int32.lt_iff_toInt_lt.mpr (by rw [show (4 : Int32).toInt = 4 from rfl]; omega))
/-! the drawn place -/
theorem own_n2 {n : Int32} {N : Nat} (hn : n.toInt = N) (h : 3 ≤ N) (hN : N ≤ 65) : (n - (2 : Int32)).toInt = N - 2 := by
  have a := c_isub n 2
  have r := rng32 (n - 2)
  rw [show (2 : Int32).toInt = 2 from rfl] at a
  omega
theorem own_n1 {n : Int32} {N : Nat} (hn : n.toInt = N) (h : 1 ≤ N) (hN : N ≤ 65) : (n - (1 : Int32)).toInt = N - 1 := by
  have a := c_isub n 1
  have r := rng32 (n - 1)
  rw [show (1 : Int32).toInt = 1 from rfl] at a
  omega
theorem own_n2z {n : Int32} {N : Nat} (hn : n.toInt = N) (h : 3 ≤ N) (hN : N ≤ 65) : (n - (2 : Int32)) ≠ 0 := fun e => by
  have q := own_n2 hn h hN
  rw [e, show (0 : Int32).toInt = 0 from rfl] at q
  omega
theorem own_mid {p n : Int32} {N : Nat} (hn : n.toInt = N) (h : 3 ≤ N) (hN : N ≤ 65) : 1 ≤ ((1 : Int32) + (((p.toUInt32 >>> ((1 : Int32) &&& 31).toUInt32).toInt32) % (n - (2 : Int32)))).toInt ∧ ((1 : Int32) + (((p.toUInt32 >>> ((1 : Int32) &&& 31).toUInt32).toInt32) % (n - (2 : Int32)))).toInt < N - 1 := by
  have q := own_n2 hn h hN
  have u := c_iushr p 1 1 (by decide) (by decide)
  have rp := rng32 p
  rw [show ((2 ^ 1 : Nat) : Int) = 2 from rfl] at u
  generalize ((p.toUInt32 >>> ((1 : Int32) &&& 31).toUInt32).toInt32) = y at u ⊢
  have v := (c_iremV y (n - 2)).1 (by omega) (by omega)
  have a := c_iadd 1 (y % (n - 2))
  have r := rng32 (1 + y % (n - 2))
  rw [show (1 : Int32).toInt = 1 from rfl] at a
  omega
theorem own_leS {cs : Nat → Int32} {i : Nat} (h : ∀ j, j < i → ¬ (255 : Int32) < cs j) (q : ¬ (255 : Int32) < cs i) : ∀ j, j < i + 1 → ¬ (255 : Int32) < cs j := fun j hj => by
  by_cases e : j = i
  · rw [e]; exact q
  · exact h j (by omega)
theorem own_le0 (cs : Nat → Int32) : ∀ j, j < (0 : Int32).toNatClampNeg → ¬ (255 : Int32) < cs j := fun j hj => by
  rw [show (0 : Int32).toNatClampNeg = 0 from rfl] at hj
  omega
theorem own_al0 (cs : Nat → Int32) : ∀ j, j < (0 : Int32).toNatClampNeg → own_nm (cs j) = 1 := fun j hj => by
  rw [show (0 : Int32).toNatClampNeg = 0 from rfl] at hj
  omega
theorem own_crz {N : Nat} {cs : Nat → Int32} {i n : Int32} (hn : n.toInt = N) (hi : 0 ≤ i.toInt) (hf : i.toInt + (0 : Nat) = n.toInt) (hle : ∀ j, j < i.toNatClampNeg → ¬ (255 : Int32) < cs j) : own_cr N cs i :=
  Or.inl ⟨by omega, fun j hj => hle j (by rw [own_tn]; omega)⟩
theorem own_crs {N f : Nat} {cs : Nat → Int32} {i n : Int32} (hn : n.toInt = N) (hi : 0 ≤ i.toInt) (hf : i.toInt + (f + 1 : Nat) = n.toInt) (q : (255 : Int32) < cs i.toNatClampNeg) : own_cr N cs i :=
  Or.inr ⟨hi, by omega, q⟩
theorem own_puz {N : Nat} {cs : Nat → Int32} {i n : Int32} (hn : n.toInt = N) (hi : 0 ≤ i.toInt) (hf : i.toInt + (0 : Nat) = n.toInt) : ∀ j, j < 2 * N → own_pu cs i.toNatClampNeg j = own_ub cs j := fun j hj => if_pos (by rw [own_tn]; omega)
theorem own_allz {N : Nat} {cs : Nat → Int32} {i n : Int32} (hn : n.toInt = N) (hi : 0 ≤ i.toInt) (hf : i.toInt + (0 : Nat) = n.toInt) (h : ∀ j, j < i.toNatClampNeg → own_nm (cs j) = 1) : ∀ j, j < N → own_nm (cs j) = 1 := fun j hj => h j (by rw [own_tn]; omega)
theorem own_putA {Z : State} {h : Heap} {a : Addr} {k : ClassId} {ty : FieldType} {z : Int32} {n i : Nat} {g : Nat → Int32} {x : Int32} {dv : Value} (A : Arv Z h a k ty z (((own_fn n g).set (2 * i) (.int (own_lob x))).set (2 * i + 1) (.int (own_hib x))) dv) : Arv Z h a k ty z (own_fn n (own_put g i x)) dv := by
  rw [own_fnset, own_fnset] at A
  exact A
theorem own_big {n : Int32} {N : Nat} (hn : n.toInt = N) (h : N ≤ 65) : n < (1073741823 : Int32) := Int32.lt_iff_toInt_lt.mpr (by rw [show (1073741823 : Int32).toInt = 1073741823 from rfl]; omega)
theorem own_0N {n : Int32} {N : Nat} (hn : n.toInt = N) : 0 ≤ n.toInt := by omega
theorem own_65 {n : Int32} {N : Nat} (hn : n.toInt = N) (h : N ≤ 65) : n.toInt ≤ 65 := by omega
theorem own_ult {i b : Int32} {M : Nat} (hb : b.toInt = M) (q : 2 * i.toInt + 1 < M) : i < (b >>> ((1 : Int32) &&& 31)) := Int32.lt_iff_toInt_lt.mpr (by rw [c_ishr b 1 1 (by decide), show ((2 ^ 1 : Nat) : Int) = 2 from rfl]; omega)
theorem own_iN {i n : Int32} {N : Nat} (hn : n.toInt = N) (h0 : ¬ i < 0) (h : i < n) : i.toNatClampNeg < N := by
  have a : ¬ i.toInt < 0 := fun q => h0 (Int32.lt_iff_toInt_lt.mpr q)
  have b := Int32.lt_iff_toInt_lt.mp h
  rw [own_tn]
  omega
theorem own_i0 {i : Int32} (h0 : ¬ i < 0) : 0 ≤ i.toInt := by
  have a : ¬ i.toInt < 0 := fun q => h0 (Int32.lt_iff_toInt_lt.mpr q)
  omega
theorem own_iz {i n : Int32} {N : Nat} (hn : n.toInt = N) (h : i < n) : i.toInt < N := by
  have b := Int32.lt_iff_toInt_lt.mp h
  omega
theorem own_i65 {i n : Int32} {N : Nat} (hn : n.toInt = N) (hN : N ≤ 65) (h : i < n) : i.toInt ≤ 65 := by
  have b := Int32.lt_iff_toInt_lt.mp h
  omega
theorem own_i2 {i n : Int32} {N M : Nat} (hn : n.toInt = N) (hM : M = 2 * N) (h : i < n) : 2 * i.toInt + 1 < M := by
  have b := Int32.lt_iff_toInt_lt.mp h
  omega
theorem own_nm1 {x : Int32} (h : (¬ x < 97 ∧ ¬ 122 < x) ∨ (¬ x < 65 ∧ ¬ 90 < x) ∨ (¬ x < 48 ∧ ¬ 57 < x) ∨ x = 45) : (1 : Int32) = own_nm x := (if_pos h).symm
theorem own_nmz {x : Int32} (h : ¬ ((¬ x < 97 ∧ ¬ 122 < x) ∨ (¬ x < 65 ∧ ¬ 90 < x) ∨ (¬ x < 48 ∧ ¬ 57 < x) ∨ x = 45)) : (0 : Int32) = own_nm x := (if_neg h).symm
theorem own_pos {n : Int32} (h : ¬ n < 1) : (0 : Int32) < n := by
  have a : ¬ n.toInt < 1 := fun q => h (Int32.lt_iff_toInt_lt.mpr q)
  exact Int32.lt_iff_toInt_lt.mpr (by rw [show (0 : Int32).toInt = 0 from rfl]; omega)
theorem own_n1i {n : Int32} {N : Nat} (hn : n.toInt = N) (h : 1 ≤ N) (hN : N ≤ 65) : ¬ (n - (1 : Int32)) < 0 ∧ (n - (1 : Int32)) < n ∧ (n - (1 : Int32)).toNatClampNeg = N - 1 := by
  have q := own_n1 hn h hN
  refine ⟨own_nneg (by omega), Int32.lt_iff_toInt_lt.mpr (by omega), ?_⟩
  rw [own_tn, q]
  omega
theorem own_mid2 {q n : Int32} {N : Nat} (hn : n.toInt = N) (hq : 1 ≤ q.toInt ∧ q.toInt < N - 1) : ¬ q < 0 ∧ q < n ∧ q.toNatClampNeg < N ∧ 0 < q.toNatClampNeg ∧ q.toNatClampNeg < N - 1 := by
  refine ⟨own_nneg (by omega), Int32.lt_iff_toInt_lt.mpr (by omega), ?_⟩
  rw [own_tn]
  omega
theorem own_t65 {i n : Int32} {f N : Nat} (hf : i.toInt + (f + 1 : Nat) = n.toInt) (hn : n.toInt = N) (hN : N ≤ 65) : i.toInt ≤ 65 := by omega
theorem own_tbn {n : Int32} {N : Nat} (hn : n.toInt = N) (hN : N ≤ 65) : (n <<< ((1 : Int32) &&& 31)).toInt = ((2 * N : Nat) : Int) := by
  rw [own_dbl (own_0N hn) (own_65 hn hN)]
  omega
theorem own_tm {i n : Int32} {f N : Nat} (hf : i.toInt + (f + 1 : Nat) = n.toInt) (hn : n.toInt = N) : 2 * i.toInt + 1 < ((2 * N : Nat) : Int) := by omega
theorem own_q65 {r : Int32} {N : Nat} (h : r.toInt < N) (hN : N ≤ 65) : r.toInt ≤ 65 := by omega
theorem own_qm {r : Int32} {N : Nat} (h : r.toInt < N) : 2 * r.toInt + 1 < ((2 * N : Nat) : Int) := by omega
/-! an array filled store by store -/
def own_fl (f : Int32) (i : Nat) : Nat → Int32 := fun j => if j < i then f else 0
theorem own_fl0 (f : Int32) (j : Nat) : own_fl f 0 j = 0 := if_neg (Nat.not_lt_zero j)
theorem own_flS (f : Int32) (i j : Nat) : own_up (own_fl f i) i f j = own_fl f (i + 1) j := by
  unfold own_up own_fl
  by_cases e : j = i
  · subst e
    rw [if_pos rfl, if_pos (Nat.lt_succ_self j)]
  · by_cases q : j < i
    · rw [if_neg e, if_pos q, if_pos (by omega)]
    · rw [if_neg e, if_neg q, if_neg (by omega)]
def own_pc (b i : Nat) : Nat := if i ≤ 6 then b + 4 * i else b + 24 + 5 * (i - 6)
abbrev own_pat (code : ByteArray) (b i : Nat) : Prop := decode code (own_pc b i) = .ok (.dup, 1) ∧ (if i < 6 then decode code (own_pc b i + 1) = .ok (.iconst (i : Int), 1) ∧ decode code (own_pc b i + 1 + 1) = .ok (.iload_n 1, 1) ∧ decode code (own_pc b i + 1 + 1 + 1) = .ok (.castore, 1) else decode code (own_pc b i + 1) = .ok (.bipush (i : Int), 2) ∧ decode code (own_pc b i + 1 + 2) = .ok (.iload_n 1, 1) ∧ decode code (own_pc b i + 1 + 2 + 1) = .ok (.castore, 1))
theorem own_lit32 : ∀ i : Nat, i < 65 → (Int32.ofInt (i : Int)).toInt = i := by decide +kernel
theorem own_lit8 : ∀ i : Nat, i < 65 → (Int8.ofInt (i : Int)).toInt32.toInt = i := by decide +kernel
section OwnFill
variable {p : Program} {l : Launch} {e : Env} {R : Room} {s : State} {m : MethodId} {args : Array Value} {below : List Frame} {meth : Method} {c : Code} {cells slots : Nat} {Q : Option Value → Heap → List Loc → Prop} {Z : State} {h0 : Heap} {ws : List Addr}
theorem own_fill {code : ByteArray} {b N : Nat} {f n z : Int32} {a : Addr} {ka : ClassId} (hx : p.tables.exec = Jvm.exec) (hby : c.code = code) (hZ : Z.Warmed39 s.vm) (hN : n.toInt = N) (h65 : N ≤ 65) (hf : own_ch f) (pat : ∀ i, i < N → own_pat code b i) (ga : Z.heap.size ≤ a) (za : h0.size ≤ a)
    (k : ∀ (T' : State) (h' : Heap) (locs' : List Loc), T'.heap = h' → Stand p l e R s m args below meth c T' locs' cells slots → Fr Z.heap.size locs' → Keep h0 h' ws → Ext Z.heap h' → Arv Z h' a ka .char n (own_fn N (fun _ => f)) (.int (0 : Int32)) → Go p e s below R Q T' (mkF m (own_pc b N) #[iv z, iv f] [.ref a])) :
    ∀ (g i : Nat), i + g = N → ∀ (T : State) (h : Heap) (locs : List Loc), T.heap = h → Stand p l e R s m args below meth c T locs cells slots → Fr Z.heap.size locs → Keep h0 h ws → Ext Z.heap h → Arv Z h a ka .char n (own_fn N (own_fl f i)) (.int (0 : Int32)) → Go p e s below R Q T (mkF m (own_pc b i) #[iv z, iv f] [.ref a]) := by
  intro g
  induction g with
  | zero =>
    intro i hi T h locs eT X Nn K O A
    obtain rfl : i = N := by omega
    exact k T h locs eT X Nn K O (own_exA A fun j hj => if_pos hj)
  | succ g ih =>
    intro i hi T h locs eT X Nn K O A
    have hiN : i < N := by omega
    have D := @hb _ _ hby
    have key : ∀ j : Int32, j.toInt = i → ∀ pc4 : Nat, decode c.code pc4 = .ok (.castore, 1) → own_pc b (i + 1) = pc4 + 1 → ∃ T1, Go p e s below R Q T1 (mkF m (pc4 + 1) #[iv z, iv f] [.ref a]) ∧ ∀ t, Steps p.tables e below (T1.setTop (mkF m (pc4 + 1) #[iv z, iv f] [.ref a])) t → Steps p.tables e below (T.setTop (mkF m pc4 #[iv z, iv f] [.int f, .int j, .ref a, .ref a])) t := by
      intro j hj pc4 d4 en
      obtain ⟨cl1, Ar, qk, Sz, Ng, H, G⟩ := id A
      obtain ⟨T1, h1, X1, e1, W1, st1⟩ := stC X hx hZ eT Ar (j := j) (x := f) (inb_of Sz ⟨own_nneg (by omega), Int32.lt_iff_toInt_lt.mpr (by omega)⟩) (g := (mkF m pc4 #[iv z, iv f] [.int f, .int j, .ref a, .ref a])) rfl rfl d4
      rw [own_narch hf] at W1
      have A1 := Arv.set Ar qk Sz Ng H G (v := .int f) (own_fitch hf) W1 i (by rw [own_tn]; omega) (by rw [own_fnlen]; exact hiN)
      refine ⟨T1, ?_, st1⟩
      have q := ih (i + 1) (by omega) T1 h1 _ e1 X1 (Fr.snoc X1 Nn ga) (Keep.wr K W1 (Or.inr za)) (Old0.wr O W1 ga) (own_exA (own_upA A1) fun j _ => own_flS f i j)
      rw [en] at q
      exact q
    obtain ⟨d1, d2⟩ := pat i hiN
    by_cases q : i < 6
    · rw [if_pos q] at d2
      obtain ⟨d2, d3, d4⟩ := d2
      obtain ⟨T1, G1, st1⟩ := key (Int32.ofInt (i : Int)) (own_lit32 i (by omega)) (own_pc b i + 1 + 1 + 1) (D d4) (by unfold own_pc; rw [if_pos (by omega), if_pos (by omega)]; omega)
      exact Go.of (fun _ kk => XS.dup X.here hx rfl (D d1) rfl rfl (XS.iconst X.here hx rfl (D d2) (XS.iloadN X.here hx rfl (D d3) rfl (st1 _ kk)))) G1
    · rw [if_neg q] at d2
      obtain ⟨d2, d3, d4⟩ := d2
      obtain ⟨T1, G1, st1⟩ := key ((Int8.ofInt (i : Int)).toInt32) (own_lit8 i (by omega)) (own_pc b i + 1 + 2 + 1) (D d4) (by unfold own_pc; rw [if_neg (by omega)]; by_cases q6 : i = 6 <;> first | (rw [if_pos (by omega)]; omega) | (rw [if_neg (by omega)]; omega))
      exact Go.of (fun _ kk => XS.dup X.here hx rfl (D d1) rfl rfl (XS.bipush X.here hx rfl (D d2) (XS.iloadN X.here hx rfl (D d3) rfl (st1 _ kk)))) G1
end OwnFill

abbrev own_m0 : MethodName := (⟨"java/lang/StringUTF16", "compress", "([CI[BII)I"⟩ : MethodName)
theorem d5_3 : decode jdk_52_method_21_code 3 = .ok (.iload 5, 2) := by decide +kernel
theorem d5_5 : decode jdk_52_method_21_code 5 = .ok (.iload 4, 2) := by decide +kernel
theorem d5_7 : decode jdk_52_method_21_code 7 = .ok (.if_icmp .ge 37, 3) := by decide +kernel
theorem d5_44 : decode jdk_52_method_21_code 44 = .ok (.iload 4, 2) := by decide +kernel
theorem d5_46 : decode jdk_52_method_21_code 46 = .ok (.ireturn, 1) := by decide +kernel
theorem d5_10 : decode jdk_52_method_21_code 10 = .ok (.aload_n 0, 1) := by decide +kernel
theorem d5_11 : decode jdk_52_method_21_code 11 = .ok (.iload_n 1, 1) := by decide +kernel
theorem d5_12 : decode jdk_52_method_21_code 12 = .ok (.caload, 1) := by decide +kernel
theorem d5_13 : decode jdk_52_method_21_code 13 = .ok (.istore 6, 2) := by decide +kernel
theorem d5_15 : decode jdk_52_method_21_code 15 = .ok (.iload 6, 2) := by decide +kernel
theorem d5_17 : decode jdk_52_method_21_code 17 = .ok (.sipush 255, 3) := by decide +kernel
theorem d5_20 : decode jdk_52_method_21_code 20 = .ok (.if_icmp .le 6, 3) := by decide +kernel
theorem d5_23 : decode jdk_52_method_21_code 23 = .ok (.iload 5, 2) := by decide +kernel
theorem d5_25 : decode jdk_52_method_21_code 25 = .ok (.ireturn, 1) := by decide +kernel
theorem d5_26 : decode jdk_52_method_21_code 26 = .ok (.aload_n 2, 1) := by decide +kernel
theorem d5_27 : decode jdk_52_method_21_code 27 = .ok (.iload_n 3, 1) := by decide +kernel
theorem d5_28 : decode jdk_52_method_21_code 28 = .ok (.iload 6, 2) := by decide +kernel
theorem d5_30 : decode jdk_52_method_21_code 30 = .ok (.i2b, 1) := by decide +kernel
theorem d5_31 : decode jdk_52_method_21_code 31 = .ok (.bastore, 1) := by decide +kernel
theorem d5_32 : decode jdk_52_method_21_code 32 = .ok (.iinc 1 1, 3) := by decide +kernel
theorem d5_35 : decode jdk_52_method_21_code 35 = .ok (.iinc 3 1, 3) := by decide +kernel
theorem d5_38 : decode jdk_52_method_21_code 38 = .ok (.iinc 5 1, 3) := by decide +kernel
theorem d5_41 : decode jdk_52_method_21_code 41 = .ok (.goto (-38), 3) := by decide +kernel
set_option maxRecDepth 65536 in
set_option maxHeartbeats 40000000 in
theorem rm_c5L {l : Launch} {Z : State} {a0 : Array Value} {A : Nat → Addr} {KC : Nat → Cell} {IC : Nat → Int32} {VC : Nat → Value} (hw : ∀ d ∈ tables_1, d.before a0 Z = true) (G : own_Ctx Z A KC IC VC) {p : Program} {e : Env} {s : State} {m : MethodId} {below : List Frame} {meth : Method} {c : Code} {h0 : Heap} (sa : Addr) (da : Addr) (n : Int32) (ks : ClassId) (kd : ClassId) (N : Nat) (cs : Nat → Int32) (prem0 : n.toInt = N) (prem1 : N ≤ 65) (prem2 : ∀ j, own_ch (cs j)) (prem5 : Z.heap.size ≤ da) (prem6 : sa ≠ da)
    (hx : p.tables.exec = Jvm.exec) (hby : c.code = jdk_52_method_21_code) (hml : c.maxLocals = 7) (hown : s.vm.findClass "java/lang/StringUTF16" = some m.cls) (hret : meth.sig.returnType = (some .int)) (hlk : meth.locks = false) (hZ : Z.Warmed39 s.vm) :
    ∀ (fuel : Nat) (i : Int32) (s6 : Slot) (T0 : State) (h1 : Heap) (locs0 : List Loc) (hi : 0 ≤ i.toInt) (hf : i.toInt + (fuel : Nat) = n.toInt) (h_s6 : One s6) (hle : ∀ j, j < i.toNatClampNeg → ¬ (255 : Int32) < cs j) (e0 : T0.heap = h1) (X0 : Stand p l e ({ frames := 0, cells := 0, slots := 0, locals := 0 } : Room) s m #[(.ref sa), (.int (0 : Int32)), (.ref da), (.int (0 : Int32)), (.int n)] below meth c T0 locs0 0 0) (N0 : Fr Z.heap.size locs0) (K0 : Keep h0 h1 [da]) (O0 : Ext Z.heap h1) (lf0 : Arv Z h1 sa ks .char n (own_fn N cs) (.int (0 : Int32))) (lf1 : Arv Z h1 da kd .byte n (own_fn N (own_pb cs i.toNatClampNeg)) (.int (0 : Int32))),
      Go p e s below ({ frames := 0, cells := 0, slots := 0, locals := 0 } : Room) (fun v h L => ∃ r : Int32, v = some (.int r) ∧ (Fr Z.heap.size L) ∧ (Keep h0 h [da]) ∧ (Arv Z h da kd .byte n (own_fn N (own_pb cs r.toNatClampNeg)) (.int (0 : Int32))) ∧ (own_cr N cs r)) T0 (mkF m 3 #[rv sa, iv i, rv da, iv i, iv n, iv i, s6] []) := by
  have D := @hb _ _ hby
  intro fuel
  induction fuel with
  | zero =>
    intro i s6 T0 h1 locs0 hi hf h_s6 hle e0 X0 N0 K0 O0 lf0 lf1
    have hc1 : ¬ (i < n) := own_geN hf
    refine Go.of (T' := T0) (f' := (mkF m 46 #[rv sa, iv i, rv da, iv i, iv n, iv i, s6] [(.int n)])) (fun _ k => XS.iload X0.here hx rfl (D d5_3) rfl (XS.iload X0.here hx rfl (D d5_5) rfl (XS.icmpYes X0.here hx rfl (pc0 := 7) (pc' := 44) rfl (D d5_7) rfl (flt hc1).2.1 (by decide) (by decide) (XS.iload X0.here hx rfl (D d5_44) rfl k)))) ?_
    exact Go.retI X0 hx hlk hret (D d5_46) (by decide) (by decide) (by rw [e0]; exact ⟨i, congrArg (fun z => some (Value.int z)) (own_ieq hf).symm, N0, K0, lf1, own_crz prem0 hi hf hle⟩)
  | succ fuel ih =>
    intro i s6 T0 h1 locs0 hi hf h_s6 hle e0 X0 N0 K0 O0 lf0 lf1
    have hc2 : i < n := own_ltN hf
    obtain ⟨cl3, Ar3, qk3, S3, Ng3, H3, G3⟩ := id lf0
    have hin3 := inb_of (j := i) S3 ⟨own_nneg hi, own_ltN hf⟩
    refine Go.of (T' := T0) (f' := (mkF m 20 #[rv sa, iv i, rv da, iv i, iv n, iv i, iv (cs i.toNatClampNeg)] [(.int 255), (.int (cs i.toNatClampNeg))])) (fun _ k => XS.iload X0.here hx rfl (D d5_3) rfl (XS.iload X0.here hx rfl (D d5_5) rfl (XS.icmpNo X0.here hx rfl (D d5_7) rfl (tlt hc2).2.1 (XS.aloadN X0.here hx rfl (D d5_10) rfl rfl (XS.iloadN X0.here hx rfl (D d5_11) rfl (X0.caload hx (j := i) (v := (.int (cs i.toNatClampNeg))) (by rw [e0]; exact Ar3.1) (State.isArrayOf_alike hZ.alike Ar3.2.1) Ar3.2.2 hin3 (H3.at hin3 (own_fnat _ (own_kN hi hf prem0))) (g := (mkF m 12 #[rv sa, iv i, rv da, iv i, iv n, iv i, s6] [(.int i), (.ref sa)])) rfl rfl (D d5_12) _ (XS.istore X0.here hx rfl (D d5_13) rfl (l' := #[rv sa, iv i, rv da, iv i, iv n, iv i, iv (cs i.toNatClampNeg)]) (XS.store1 (o := s6) rfl h_s6 rfl) (XS.iload X0.here hx rfl (D d5_15) rfl (XS.sipush X0.here hx rfl (D d5_17) k))))))))) ?_
    by_cases hc4 : (255 : Int32) < (cs i.toNatClampNeg)
    · skip
      refine Go.of (T' := T0) (f' := (mkF m 25 #[rv sa, iv i, rv da, iv i, iv n, iv i, iv (cs i.toNatClampNeg)] [(.int i)])) (fun _ k => XS.icmpNo X0.here hx rfl (D d5_20) rfl (tlt hc4).2.2.2 (XS.iload X0.here hx rfl (D d5_23) rfl k)) ?_
      exact Go.retI X0 hx hlk hret (D d5_25) (by decide) (by decide) (by rw [e0]; exact ⟨i, rfl, N0, K0, lf1, own_crs prem0 hi hf hc4⟩)
    · skip
      obtain ⟨cl5, Ar5, qk5, S5, Ng5, H5, G5⟩ := id lf1
      obtain ⟨T5, h5, X5, e5, W5, st5⟩ := stB X0 hx hZ e0 Ar5 (j := i) (inb_of S5 ⟨own_nneg hi, own_ltN hf⟩) (g := (mkF m 31 #[rv sa, iv i, rv da, iv i, iv n, iv i, iv (cs i.toNatClampNeg)] [(.int ((cs i.toNatClampNeg).toInt8.toInt32)), (.int i), (.ref da)])) rfl rfl (D d5_31)
      have W5 : Wr h1 h5 da (i).toNatClampNeg (.int ((cs i.toNatClampNeg).toInt8.toInt32)) := Eq.mp (congrArg (fun z => Wr h1 h5 da (i).toNatClampNeg (Value.int z)) (own_b8 (cs i.toNatClampNeg))) W5
      have O6 := Old0.wr O0 W5 prem5
      have K6 := Keep.wr K0 W5 (Or.inl (List.mem_of_getElem? (i := 0) rfl))
      have f5 : Arv Z h5 da kd .byte n ((own_fn N (own_pb cs i.toNatClampNeg)).set i.toNatClampNeg (.int ((cs i.toNatClampNeg).toInt8.toInt32))) (.int 0) := Arv.set Ar5 qk5 S5 Ng5 H5 G5 (v := (.int ((cs i.toNatClampNeg).toInt8.toInt32))) (fits_nar_byte _) W5 i.toNatClampNeg rfl (by rw [own_fnlen]; exact own_kN hi hf prem0)
      have N5 := Fr.snoc X5 N0 prem5
      have f7 : Arv Z h5 sa ks .char n (own_fn N cs) (.int 0) := (Arv.other lf0 W5 prem6)
      refine Go.of (T' := T5) (f' := (mkF m 3 #[rv sa, iv (i + (1 : Int32)), rv da, iv (i + (1 : Int32)), iv n, iv (i + (1 : Int32)), iv (cs i.toNatClampNeg)] [])) (fun _ k => XS.icmpYes X0.here hx rfl (pc0 := 20) (pc' := 26) rfl (D d5_20) rfl (flt hc4).2.2.2 (by decide) (by decide) (XS.aloadN X0.here hx rfl (D d5_26) rfl rfl (XS.iloadN X0.here hx rfl (D d5_27) rfl (XS.iload X0.here hx rfl (D d5_28) rfl (XS.i2b X0.here hx rfl (D d5_30) rfl (st5 _ (XS.iinc X5.here hx rfl (D d5_32) rfl (l' := #[rv sa, iv (i + (1 : Int32)), rv da, iv i, iv n, iv i, iv (cs i.toNatClampNeg)]) rfl (XS.iinc X5.here hx rfl (D d5_35) rfl (l' := #[rv sa, iv (i + (1 : Int32)), rv da, iv (i + (1 : Int32)), iv n, iv i, iv (cs i.toNatClampNeg)]) rfl (XS.iinc X5.here hx rfl (D d5_38) rfl (l' := #[rv sa, iv (i + (1 : Int32)), rv da, iv (i + (1 : Int32)), iv n, iv (i + (1 : Int32)), iv (cs i.toNatClampNeg)]) rfl (XS.goto X5.here hx rfl (pc0 := 41) (pc' := 3) rfl (D d5_41) (by decide) (by decide) k)))))))))) ?_
      exact ih ((i + (1 : Int32))) (iv (cs i.toNatClampNeg)) T5 h5 _ (own_hi1 hi hf) (own_hf1 hi hf) (Or.inr ⟨_, rfl, rfl⟩) (by rw [own_nS hi hf]; exact own_leS hle hc4) e5 X5 N5 K6 O6 (f7) (by rw [own_nS hi hf]; exact own_exA (own_upA f5) (fun j _ => own_pbS cs _ j))
theorem d5_0 : decode jdk_52_method_21_code 0 = .ok (.iconst 0, 1) := by decide +kernel
theorem d5_1 : decode jdk_52_method_21_code 1 = .ok (.istore 5, 2) := by decide +kernel
theorem ef_rm_c5 (m : MethodId) (sa : Addr) (da : Addr) (n : Int32) : entryFrame m #[(.ref sa), (.int (0 : Int32)), (.ref da), (.int (0 : Int32)), (.int n)] 7 = mkF m 0 #[rv sa, iv (0 : Int32), rv da, iv (0 : Int32), iv n, .unset, .unset] [] := by first | (simp [entryFrame, mkF, argsToLocals, Value.category]; done) | rfl
theorem pn1 : plainFor (⟨"java/lang/StringUTF16", "compress", "([CI[BII)I"⟩ : MethodName) = true := by first | exact plainFor_of_name (by first | (simp [plainName, overriddenIn]; done) | decide +kernel) | decide +kernel
set_option maxRecDepth 65536 in
set_option maxHeartbeats 40000000 in
theorem rm_c5 {l : Launch} {Z : State} {a0 : Array Value} {A : Nat → Addr} {KC : Nat → Cell} {IC : Nat → Int32} {VC : Nat → Value} (hw : ∀ d ∈ tables_1, d.before a0 Z = true) (G : own_Ctx Z A KC IC VC) (sa : Addr) (da : Addr) (n : Int32) (ks : ClassId) (kd : ClassId) (N : Nat) (cs : Nat → Int32) (h0 : Heap) (O0 : Ext Z.heap h0) (prem0 : n.toInt = N) (prem1 : N ≤ 65) (prem2 : ∀ j, own_ch (cs j)) (prem3 : Arv Z h0 sa ks .char n (own_fn N cs) (.int (0 : Int32))) (prem4 : Arv Z h0 da kd .byte n (own_fn N (own_pb cs 0)) (.int (0 : Int32))) (prem5 : Z.heap.size ≤ da) (prem6 : sa ≠ da) :
    Ok l Z own_m0 jdk_52_method_21_code 7 (some .int) ({ frames := 0, cells := 0, slots := 0, locals := 0 } : Room) #[(.ref sa), (.int (0 : Int32)), (.ref da), (.int (0 : Int32)), (.int n)] h0
      (fun v h L => ∃ r : Int32, v = some (.int r) ∧ (Fr Z.heap.size L) ∧ (Keep h0 h [da]) ∧ (Arv Z h da kd .byte n (own_fn N (own_pb cs r.toNatClampNeg)) (.int (0 : Int32))) ∧ (own_cr N cs r)) := by
  refine Ok.mk pn1 ?_
  intro p e s m below meth c T0 hx hby hml hown hnm hret hlk hZ e0 X0
  refine Go.cast (ef_rm_c5 m sa da n) ?_
  have D := @hb _ _ hby
  have N0 := Fr.nil Z.heap.size
  have K0 : Keep h0 h0 [da] := Keep.refl _ _
  refine Go.of (T' := T0) (f' := (mkF m 3 #[rv sa, iv 0, rv da, iv 0, iv n, iv 0, .unset] [])) (fun _ k => XS.iconst X0.here hx rfl (D d5_0) (XS.istore X0.here hx rfl (D d5_1) rfl (l' := #[rv sa, iv 0, rv da, iv 0, iv n, iv 0, .unset]) rfl k)) ?_
  exact rm_c5L hw G sa da n ks kd N cs prem0 prem1 prem2 prem5 prem6 hx hby hml hown hret hlk hZ N 0 .unset T0 h0 _ (by decide) (own_hn0 prem0) (Or.inl rfl) (own_le0 cs) e0 X0 N0 K0 O0 prem3 prem4
theorem d19_0 : decode jdk_52_method_3_code 0 = .ok (.iload_n 0, 1) := by decide +kernel
theorem d19_1 : decode jdk_52_method_3_code 1 = .ok (.ifCond .ge 11, 3) := by decide +kernel
theorem d19_12 : decode jdk_52_method_3_code 12 = .ok (.iload_n 0, 1) := by decide +kernel
theorem d19_13 : decode jdk_52_method_3_code 13 = .ok (.ldc 20, 2) := by decide +kernel
theorem d19_15 : decode jdk_52_method_3_code 15 = .ok (.if_icmp .lt 40, 3) := by decide +kernel
theorem d19_55 : decode jdk_52_method_3_code 55 = .ok (.iload_n 0, 1) := by decide +kernel
theorem d19_56 : decode jdk_52_method_3_code 56 = .ok (.iconst 1, 1) := by decide +kernel
theorem d19_57 : decode jdk_52_method_3_code 57 = .ok (.ishl, 1) := by decide +kernel
theorem d19_58 : decode jdk_52_method_3_code 58 = .ok (.ireturn, 1) := by decide +kernel
abbrev own_m2 : MethodName := (⟨"java/lang/StringUTF16", "newBytesLength", "(I)I"⟩ : MethodName)
theorem ef_rm_nbl (m : MethodId) (n : Int32) : entryFrame m #[(.int n)] 1 = mkF m 0 #[iv n] [] := by first | (simp [entryFrame, mkF, argsToLocals, Value.category]; done) | rfl
theorem pn3 : plainFor (⟨"java/lang/StringUTF16", "newBytesLength", "(I)I"⟩ : MethodName) = true := by first | exact plainFor_of_name (by first | (simp [plainName, overriddenIn]; done) | decide +kernel) | decide +kernel
set_option maxRecDepth 65536 in
set_option maxHeartbeats 40000000 in
theorem rm_nbl {l : Launch} {Z : State} {a0 : Array Value} {A : Nat → Addr} {KC : Nat → Cell} {IC : Nat → Int32} {VC : Nat → Value} (hw : ∀ d ∈ tables_1, d.before a0 Z = true) (G : own_Ctx Z A KC IC VC) (n : Int32) (N : Nat) (h0 : Heap) (O0 : Ext Z.heap h0) (prem0 : n.toInt = N) (prem1 : N ≤ 65) :
    Ok l Z own_m2 jdk_52_method_3_code 1 (some .int) ({ frames := 0, cells := 0, slots := 0, locals := 0 } : Room) #[(.int n)] h0
      (fun v h L => v = some (.int (n <<< ((1 : Int32) &&& 31))) ∧ (h = h0) ∧ (L = [])) := by
  refine Ok.mk pn3 ?_
  intro p e s m below meth c T0 hx hby hml hown hnm hret hlk hZ e0 X0
  refine Go.cast (ef_rm_nbl m n) ?_
  have D := @hb _ _ hby
  have N0 := Fr.nil Z.heap.size
  have K0 : Keep h0 h0 [] := Keep.refl _ _
  have hc8 : ¬ (n < (0 : Int32)) := own_nnN prem0
  have hc9 : n < (1073741823 : Int32) := own_big prem0 prem1
  refine Go.of (T' := T0) (f' := (mkF m 58 #[iv n] [(.int (n <<< ((1 : Int32) &&& 31)))])) (fun _ k => XS.iloadN X0.here hx rfl (D d19_0) rfl (XS.ifYes X0.here hx rfl (pc0 := 1) (pc' := 12) rfl (D d19_1) rfl ((if0 _ _).trans (flt hc8).2.1) (by decide) (by decide) (XS.iloadN X0.here hx rfl (D d19_12) rfl (X0.ldcInt hx hown (mvT hZ (own_w hw (i := 100) rfl)) (g := (mkF m 13 #[iv n] [(.int n)])) rfl (D d19_13) _ (XS.icmpYes X0.here hx rfl (pc0 := 15) (pc' := 55) rfl (D d19_15) rfl (tlt hc9).1 (by decide) (by decide) (XS.iloadN X0.here hx rfl (D d19_55) rfl (XS.iconst X0.here hx rfl (D d19_56) (XS.ishl X0.here hx rfl (D d19_57) rfl k)))))))) ?_
  exact Go.retI X0 hx hlk hret (D d19_58) (by decide) (by decide) (by rw [e0]; exact ⟨rfl, rfl, by simp⟩)
theorem d18_0 : decode jdk_52_method_2_code 0 = .ok (.iload_n 0, 1) := by decide +kernel
theorem d18_1 : decode jdk_52_method_2_code 1 = .ok (.invokestatic 11, 3) := by decide +kernel
theorem pd4 : parseMethodDescriptor "(I)I" = some ⟨[.int], some .int⟩ := by decide +kernel
theorem d18_4 : decode jdk_52_method_2_code 4 = .ok (.newarray .byte, 2) := by decide +kernel
theorem d18_6 : decode jdk_52_method_2_code 6 = .ok (.areturn, 1) := by decide +kernel
abbrev own_m5 : MethodName := (⟨"java/lang/StringUTF16", "newBytesFor", "(I)[B"⟩ : MethodName)
theorem ef_rm_nbf (m : MethodId) (n : Int32) : entryFrame m #[(.int n)] 1 = mkF m 0 #[iv n] [] := by first | (simp [entryFrame, mkF, argsToLocals, Value.category]; done) | rfl
theorem pn6 : plainFor (⟨"java/lang/StringUTF16", "newBytesFor", "(I)[B"⟩ : MethodName) = true := by first | exact plainFor_of_name (by first | (simp [plainName, overriddenIn]; done) | decide +kernel) | decide +kernel
set_option maxRecDepth 65536 in
set_option maxHeartbeats 40000000 in
theorem rm_nbf {l : Launch} {Z : State} {a0 : Array Value} {A : Nat → Addr} {KC : Nat → Cell} {IC : Nat → Int32} {VC : Nat → Value} (hw : ∀ d ∈ tables_1, d.before a0 Z = true) (G : own_Ctx Z A KC IC VC) (n : Int32) (N : Nat) (h0 : Heap) (O0 : Ext Z.heap h0) (prem0 : n.toInt = N) (prem1 : N ≤ 65) :
    Ok l Z own_m5 jdk_52_method_2_code 1 (some (.array .byte)) ({ frames := 1, cells := 1, slots := 130, locals := 12 } : Room) #[(.int n)] h0
      (fun v h L => ∃ vb : Addr, ∃ kb : ClassId, v = some (.ref vb) ∧ (Fr Z.heap.size L) ∧ (Keep h0 h []) ∧ (h0.size ≤ vb) ∧ (Arv Z h vb kb .byte (n <<< ((1 : Int32) &&& 31)) [] (.int (0 : Int32)))) := by
  refine Ok.mk pn6 ?_
  intro p e s m below meth c T0 hx hby hml hown hnm hret hlk hZ e0 X0
  refine Go.cast (ef_rm_nbf m n) ?_
  have D := @hb _ _ hby
  have N0 := Fr.nil Z.heap.size
  have K0 : Keep h0 h0 [] := Keep.refl _ _
  obtain ⟨T10, v10, L10, X10, q10, st10⟩ := callSt X0 hx hZ (y := own_m2) hown (own_w hw (i := 97) rfl) (own_w hw (i := 98) rfl) (own_w hw (i := 26) rfl) (own_w hw (i := 99) rfl) (by decide) (rm_nbl hw G n N h0 O0 (prem0) (prem1)) e0 (W := 0) (by decide) (by decide) (by decide) (by decide) (g := (mkF m 1 #[iv n] [(.int n)])) rfl (by rw [hml]; rfl) (argsL := [(.int n)]) (rest := []) (lenOf pd4 rfl) rfl rfl (Nat.le_of_eq rfl) (D d18_1)
  obtain ⟨rfl, e10, rfl⟩ := q10
  have N10 := Fr.app N0 (Fr.nil _)
  obtain ⟨T11, h11, k11, b11, q11, X11, e11, E11, V11, A11, st11⟩ := newAr X10 hx hZ (own_w hw (i := 28) rfl) e10 (g := (mkF m 4 #[iv n] [(.int (n <<< ((1 : Int32) &&& 31)))])) rfl (D d18_4) rfl (own_d0 (own_0N prem0) (own_65 prem0 prem1)) (cap := 130) (by rw [own_dn (own_0N prem0) (own_65 prem0 prem1), own_nN prem0]; omega) (by decide) (by decide) (by decide) (ad := "[B") (by decide)
  have O12 := Old0.ext O0 E11
  have K12 := Keep.ext K0 E11
  have g_b11 : Z.heap.size ≤ b11 := q11 ▸ O0.1
  have z_b11 : h0.size ≤ b11 := q11 ▸ K0.1
  refine Go.of (T' := T11) (f' := (mkF m 6 #[iv n] [(.ref b11)])) (fun _ k => XS.iloadN X0.here hx rfl (D d18_0) rfl (st10 _ (st11 _ k))) ?_
  exact Go.retA X11 hx hlk hret rfl rfl (D d18_6) (by decide) (by decide) (by rw [e11]; exact ⟨b11, k11, rfl, N10, K12, z_b11, V11⟩)
theorem d20_0 : decode jdk_52_method_4_code 0 = .ok (.getstatic 44, 3) := by decide +kernel
theorem d20_3 : decode jdk_52_method_4_code 3 = .ok (.ifCond .ne 25, 3) := by decide +kernel
theorem d20_28 : decode jdk_52_method_4_code 28 = .ok (.iload_n 1, 1) := by decide +kernel
theorem d20_29 : decode jdk_52_method_4_code 29 = .ok (.iconst 1, 1) := by decide +kernel
theorem d20_30 : decode jdk_52_method_4_code 30 = .ok (.ishl, 1) := by decide +kernel
theorem d20_31 : decode jdk_52_method_4_code 31 = .ok (.istore_n 1, 1) := by decide +kernel
theorem d20_32 : decode jdk_52_method_4_code 32 = .ok (.aload_n 0, 1) := by decide +kernel
theorem d20_33 : decode jdk_52_method_4_code 33 = .ok (.iload_n 1, 1) := by decide +kernel
theorem d20_34 : decode jdk_52_method_4_code 34 = .ok (.iinc 1 1, 3) := by decide +kernel
theorem d20_37 : decode jdk_52_method_4_code 37 = .ok (.iload_n 2, 1) := by decide +kernel
theorem d20_38 : decode jdk_52_method_4_code 38 = .ok (.getstatic 59, 3) := by decide +kernel
theorem d20_41 : decode jdk_52_method_4_code 41 = .ok (.ishr, 1) := by decide +kernel
theorem d20_42 : decode jdk_52_method_4_code 42 = .ok (.i2b, 1) := by decide +kernel
theorem d20_43 : decode jdk_52_method_4_code 43 = .ok (.bastore, 1) := by decide +kernel
theorem d20_44 : decode jdk_52_method_4_code 44 = .ok (.aload_n 0, 1) := by decide +kernel
theorem d20_45 : decode jdk_52_method_4_code 45 = .ok (.iload_n 1, 1) := by decide +kernel
theorem d20_46 : decode jdk_52_method_4_code 46 = .ok (.iload_n 2, 1) := by decide +kernel
theorem d20_47 : decode jdk_52_method_4_code 47 = .ok (.getstatic 63, 3) := by decide +kernel
theorem d20_50 : decode jdk_52_method_4_code 50 = .ok (.ishr, 1) := by decide +kernel
theorem d20_51 : decode jdk_52_method_4_code 51 = .ok (.i2b, 1) := by decide +kernel
theorem d20_52 : decode jdk_52_method_4_code 52 = .ok (.bastore, 1) := by decide +kernel
theorem d20_53 : decode jdk_52_method_4_code 53 = .ok (.return_, 1) := by decide +kernel
abbrev own_m7 : MethodName := (⟨"java/lang/StringUTF16", "putChar", "([BII)V"⟩ : MethodName)
theorem ef_rm_putc (m : MethodId) (db : Addr) (i : Int32) (xx : Int32) : entryFrame m #[(.ref db), (.int i), (.int xx)] 3 = mkF m 0 #[rv db, iv i, iv xx] [] := by first | (simp [entryFrame, mkF, argsToLocals, Value.category]; done) | rfl
theorem pn8 : plainFor (⟨"java/lang/StringUTF16", "putChar", "([BII)V"⟩ : MethodName) = true := by first | exact plainFor_of_name (by first | (simp [plainName, overriddenIn]; done) | decide +kernel) | decide +kernel
set_option maxRecDepth 65536 in
set_option maxHeartbeats 40000000 in
theorem rm_putc {l : Launch} {Z : State} {a0 : Array Value} {A : Nat → Addr} {KC : Nat → Cell} {IC : Nat → Int32} {VC : Nat → Value} (hw : ∀ d ∈ tables_1, d.before a0 Z = true) (G : own_Ctx Z A KC IC VC) (db : Addr) (i : Int32) (xx : Int32) (kb : ClassId) (bn : Int32) (M : Nat) (gs : Nat → Int32) (h0 : Heap) (O0 : Ext Z.heap h0) (prem0 : 0 ≤ i.toInt) (prem1 : i.toInt ≤ 65) (prem2 : bn.toInt = M) (prem3 : 2 * i.toInt + 1 < M) (prem4 : Arv Z h0 db kb .byte bn (own_fn M gs) (.int (0 : Int32))) (prem5 : Z.heap.size ≤ db) :
    Ok l Z own_m7 jdk_52_method_4_code 3 none ({ frames := 0, cells := 0, slots := 0, locals := 0 } : Room) #[(.ref db), (.int i), (.int xx)] h0
      (fun v h L => v = none ∧ (Fr Z.heap.size L) ∧ (Keep h0 h [db]) ∧ (Arv Z h db kb .byte bn (own_fn M (own_put gs i.toNatClampNeg xx)) (.int (0 : Int32)))) := by
  refine Ok.mk pn8 ?_
  intro p e s m below meth c T0 hx hby hml hown hnm hret hlk hZ e0 X0
  refine Go.cast (ef_rm_putc m db i xx) ?_
  obtain ⟨-, -, -, -, -, -, -, -, -, -, S__assertionsDisabled, S_HI_BYTE_SHIFT, S_LO_BYTE_SHIFT, -⟩ := id G
  have D := @hb _ _ hby
  have N0 := Fr.nil Z.heap.size
  have K0 : Keep h0 h0 [db] := Keep.refl _ _
  obtain ⟨T13, X13, e13, st13⟩ := getS2 X0 hx hZ hown (host := "") (Or.inl (own_w hw (i := 104) rfl)) Via.refl e0 (Sta.ext O0 S__assertionsDisabled) (g := (mkF m 0 #[rv db, iv i, iv xx] [])) rfl (D d20_0)
  obtain ⟨T15, X15, e15, st15⟩ := getS2 X13 hx hZ hown (host := "") (Or.inl (own_w hw (i := 105) rfl)) Via.refl e13 (Sta.ext O0 S_HI_BYTE_SHIFT) (g := (mkF m 38 #[rv db, iv ((i <<< ((1 : Int32) &&& 31)) + (1 : Int32)), iv xx] [(.int xx), (.int (i <<< ((1 : Int32) &&& 31))), (.ref db)])) rfl (D d20_38)
  obtain ⟨cl16, Ar16, qk16, S16, Ng16, H16, G16⟩ := id prem4
  obtain ⟨T16, h16, X16, e16, W16, st16⟩ := stB X15 hx hZ e15 Ar16 (j := (i <<< ((1 : Int32) &&& 31))) (inb_of S16 ⟨own_d0 prem0 prem1, own_dlt prem0 prem1 prem2 prem3⟩) (g := (mkF m 43 #[rv db, iv ((i <<< ((1 : Int32) &&& 31)) + (1 : Int32)), iv xx] [(.int ((xx >>> ((0 : Int32) &&& 31)).toInt8.toInt32)), (.int (i <<< ((1 : Int32) &&& 31))), (.ref db)])) rfl rfl (D d20_43)
  have W16 : Wr h0 h16 db ((i <<< ((1 : Int32) &&& 31))).toNatClampNeg (.int ((xx >>> ((0 : Int32) &&& 31)).toInt8.toInt32)) := Eq.mp (congrArg (fun z => Wr h0 h16 db ((i <<< ((1 : Int32) &&& 31))).toNatClampNeg (Value.int z)) (own_b8 (xx >>> ((0 : Int32) &&& 31)))) W16
  have O17 := Old0.wr O0 W16 prem5
  have K17 := Keep.wr K0 W16 (Or.inl (List.mem_of_getElem? (i := 0) rfl))
  have f16 : Arv Z h16 db kb .byte bn ((own_fn M gs).set (2 * i.toNatClampNeg) (.int ((xx >>> ((0 : Int32) &&& 31)).toInt8.toInt32))) (.int 0) := Arv.set Ar16 qk16 S16 Ng16 H16 G16 (v := (.int ((xx >>> ((0 : Int32) &&& 31)).toInt8.toInt32))) (fits_nar_byte _) W16 (2 * i.toNatClampNeg) (own_dn prem0 prem1) (by rw [own_fnlen]; exact own_dM prem0 prem3)
  have N16 := Fr.snoc X16 N0 prem5
  obtain ⟨T18, X18, e18, st18⟩ := getS2 X16 hx hZ hown (host := "") (Or.inl (own_w hw (i := 106) rfl)) Via.refl e16 (Sta.ext O17 S_LO_BYTE_SHIFT) (g := (mkF m 47 #[rv db, iv ((i <<< ((1 : Int32) &&& 31)) + (1 : Int32)), iv xx] [(.int xx), (.int ((i <<< ((1 : Int32) &&& 31)) + (1 : Int32))), (.ref db)])) rfl (D d20_47)
  obtain ⟨cl19, Ar19, qk19, S19, Ng19, H19, G19⟩ := id f16
  obtain ⟨T19, h19, X19, e19, W19, st19⟩ := stB X18 hx hZ e18 Ar19 (j := ((i <<< ((1 : Int32) &&& 31)) + (1 : Int32))) (inb_of S19 ⟨own_d01 prem0 prem1, own_dlt1 prem0 prem1 prem2 prem3⟩) (g := (mkF m 52 #[rv db, iv ((i <<< ((1 : Int32) &&& 31)) + (1 : Int32)), iv xx] [(.int ((xx >>> ((8 : Int32) &&& 31)).toInt8.toInt32)), (.int ((i <<< ((1 : Int32) &&& 31)) + (1 : Int32))), (.ref db)])) rfl rfl (D d20_52)
  have W19 : Wr h16 h19 db (((i <<< ((1 : Int32) &&& 31)) + (1 : Int32))).toNatClampNeg (.int ((xx >>> ((8 : Int32) &&& 31)).toInt8.toInt32)) := Eq.mp (congrArg (fun z => Wr h16 h19 db (((i <<< ((1 : Int32) &&& 31)) + (1 : Int32))).toNatClampNeg (Value.int z)) (own_b8 (xx >>> ((8 : Int32) &&& 31)))) W19
  have O20 := Old0.wr O17 W19 prem5
  have K20 := Keep.wr K17 W19 (Or.inl (List.mem_of_getElem? (i := 0) rfl))
  have f19 : Arv Z h19 db kb .byte bn (((own_fn M gs).set (2 * i.toNatClampNeg) (.int ((xx >>> ((0 : Int32) &&& 31)).toInt8.toInt32))).set (2 * i.toNatClampNeg + 1) (.int ((xx >>> ((8 : Int32) &&& 31)).toInt8.toInt32))) (.int 0) := Arv.set Ar19 qk19 S19 Ng19 H19 G19 (v := (.int ((xx >>> ((8 : Int32) &&& 31)).toInt8.toInt32))) (fits_nar_byte _) W19 (2 * i.toNatClampNeg + 1) (own_dn1 prem0 prem1) (by rw [List.length_set, own_fnlen]; exact own_dM1 prem0 prem3)
  have N19 := Fr.snoc X19 N16 prem5
  have fpc : Arv Z h19 db kb .byte bn (own_fn M (own_put gs i.toNatClampNeg xx)) (.int 0) := own_putA f19
  refine Go.of (T' := T19) (f' := (mkF m 53 #[rv db, iv ((i <<< ((1 : Int32) &&& 31)) + (1 : Int32)), iv xx] [])) (fun _ k => st13 _ (XS.ifYes X13.here hx rfl (pc0 := 3) (pc' := 28) rfl (D d20_3) rfl ((if0 _ _).trans (feq (by decide : ¬ ((1 : Int32) = (0 : Int32)))).2) (by decide) (by decide) (XS.iloadN X13.here hx rfl (D d20_28) rfl (XS.iconst X13.here hx rfl (D d20_29) (XS.ishl X13.here hx rfl (D d20_30) rfl (XS.istoreN X13.here hx rfl (D d20_31) rfl (l' := #[rv db, iv (i <<< ((1 : Int32) &&& 31)), iv xx]) rfl (XS.aloadN X13.here hx rfl (D d20_32) rfl rfl (XS.iloadN X13.here hx rfl (D d20_33) rfl (XS.iinc X13.here hx rfl (D d20_34) rfl (l' := #[rv db, iv ((i <<< ((1 : Int32) &&& 31)) + (1 : Int32)), iv xx]) rfl (XS.iloadN X13.here hx rfl (D d20_37) rfl (st15 _ (XS.ishr X15.here hx rfl (D d20_41) rfl (XS.i2b X15.here hx rfl (D d20_42) rfl (st16 _ (XS.aloadN X16.here hx rfl (D d20_44) rfl rfl (XS.iloadN X16.here hx rfl (D d20_45) rfl (XS.iloadN X16.here hx rfl (D d20_46) rfl (st18 _ (XS.ishr X18.here hx rfl (D d20_50) rfl (XS.i2b X18.here hx rfl (D d20_51) rfl (st19 _ k))))))))))))))))))))) ?_
  exact Go.retV X19 hx hlk hret (D d20_53) (by decide) (by decide) (by rw [e19]; exact ⟨rfl, N19, K20, fpc⟩)
theorem d21_0 : decode jdk_52_method_5_code 0 = .ok (.getstatic 44, 3) := by decide +kernel
theorem d21_3 : decode jdk_52_method_5_code 3 = .ok (.ifCond .ne 25, 3) := by decide +kernel
theorem d21_28 : decode jdk_52_method_5_code 28 = .ok (.iload_n 1, 1) := by decide +kernel
theorem d21_29 : decode jdk_52_method_5_code 29 = .ok (.iconst 1, 1) := by decide +kernel
theorem d21_30 : decode jdk_52_method_5_code 30 = .ok (.ishl, 1) := by decide +kernel
theorem d21_31 : decode jdk_52_method_5_code 31 = .ok (.istore_n 1, 1) := by decide +kernel
theorem d21_32 : decode jdk_52_method_5_code 32 = .ok (.aload_n 0, 1) := by decide +kernel
theorem d21_33 : decode jdk_52_method_5_code 33 = .ok (.iload_n 1, 1) := by decide +kernel
theorem d21_34 : decode jdk_52_method_5_code 34 = .ok (.iinc 1 1, 3) := by decide +kernel
theorem d21_37 : decode jdk_52_method_5_code 37 = .ok (.baload, 1) := by decide +kernel
theorem d21_38 : decode jdk_52_method_5_code 38 = .ok (.sipush 255, 3) := by decide +kernel
theorem d21_41 : decode jdk_52_method_5_code 41 = .ok (.iand, 1) := by decide +kernel
theorem d21_42 : decode jdk_52_method_5_code 42 = .ok (.getstatic 59, 3) := by decide +kernel
theorem d21_45 : decode jdk_52_method_5_code 45 = .ok (.ishl, 1) := by decide +kernel
theorem d21_46 : decode jdk_52_method_5_code 46 = .ok (.aload_n 0, 1) := by decide +kernel
theorem d21_47 : decode jdk_52_method_5_code 47 = .ok (.iload_n 1, 1) := by decide +kernel
theorem d21_48 : decode jdk_52_method_5_code 48 = .ok (.baload, 1) := by decide +kernel
theorem d21_49 : decode jdk_52_method_5_code 49 = .ok (.sipush 255, 3) := by decide +kernel
theorem d21_52 : decode jdk_52_method_5_code 52 = .ok (.iand, 1) := by decide +kernel
theorem d21_53 : decode jdk_52_method_5_code 53 = .ok (.getstatic 63, 3) := by decide +kernel
theorem d21_56 : decode jdk_52_method_5_code 56 = .ok (.ishl, 1) := by decide +kernel
theorem d21_57 : decode jdk_52_method_5_code 57 = .ok (.ior, 1) := by decide +kernel
theorem d21_58 : decode jdk_52_method_5_code 58 = .ok (.i2c, 1) := by decide +kernel
theorem d21_59 : decode jdk_52_method_5_code 59 = .ok (.ireturn, 1) := by decide +kernel
abbrev own_m9 : MethodName := (⟨"java/lang/StringUTF16", "getChar", "([BI)C"⟩ : MethodName)
theorem ef_rm_gch (m : MethodId) (db : Addr) (i : Int32) : entryFrame m #[(.ref db), (.int i)] 2 = mkF m 0 #[rv db, iv i] [] := by first | (simp [entryFrame, mkF, argsToLocals, Value.category]; done) | rfl
theorem pn10 : plainFor (⟨"java/lang/StringUTF16", "getChar", "([BI)C"⟩ : MethodName) = true := by first | exact plainFor_of_name (by first | (simp [plainName, overriddenIn]; done) | decide +kernel) | decide +kernel
set_option maxRecDepth 65536 in
set_option maxHeartbeats 40000000 in
theorem rm_gch {l : Launch} {Z : State} {a0 : Array Value} {A : Nat → Addr} {KC : Nat → Cell} {IC : Nat → Int32} {VC : Nat → Value} (hw : ∀ d ∈ tables_1, d.before a0 Z = true) (G : own_Ctx Z A KC IC VC) (db : Addr) (i : Int32) (kb : ClassId) (bn : Int32) (M : Nat) (gs : Nat → Int32) (h0 : Heap) (O0 : Ext Z.heap h0) (prem0 : 0 ≤ i.toInt) (prem1 : i.toInt ≤ 65) (prem2 : bn.toInt = M) (prem3 : 2 * i.toInt + 1 < M) (prem4 : Arv Z h0 db kb .byte bn (own_fn M gs) (.int (0 : Int32))) :
    Ok l Z own_m9 jdk_52_method_5_code 2 (some .char) ({ frames := 0, cells := 0, slots := 0, locals := 0 } : Room) #[(.ref db), (.int i)] h0
      (fun v h L => v = some (.int (own_gc (gs (2 * i.toNatClampNeg)) (gs (2 * i.toNatClampNeg + 1)))) ∧ (h = h0) ∧ (L = [])) := by
  refine Ok.mk pn10 ?_
  intro p e s m below meth c T0 hx hby hml hown hnm hret hlk hZ e0 X0
  refine Go.cast (ef_rm_gch m db i) ?_
  obtain ⟨-, -, -, -, -, -, -, -, -, -, S__assertionsDisabled, S_HI_BYTE_SHIFT, S_LO_BYTE_SHIFT, -⟩ := id G
  have D := @hb _ _ hby
  have N0 := Fr.nil Z.heap.size
  have K0 : Keep h0 h0 [] := Keep.refl _ _
  obtain ⟨T21, X21, e21, st21⟩ := getS2 X0 hx hZ hown (host := "") (Or.inl (own_w hw (i := 104) rfl)) Via.refl e0 (Sta.ext O0 S__assertionsDisabled) (g := (mkF m 0 #[rv db, iv i] [])) rfl (D d21_0)
  obtain ⟨cl23, Ar23, qk23, S23, Ng23, H23, G23⟩ := id prem4
  have hin23 := inb_of (j := (i <<< ((1 : Int32) &&& 31))) S23 ⟨own_d0 prem0 prem1, own_dlt prem0 prem1 prem2 prem3⟩
  obtain ⟨T24, X24, e24, st24⟩ := getS2 X21 hx hZ hown (host := "") (Or.inl (own_w hw (i := 105) rfl)) Via.refl e21 (Sta.ext O0 S_HI_BYTE_SHIFT) (g := (mkF m 42 #[rv db, iv ((i <<< ((1 : Int32) &&& 31)) + (1 : Int32))] [(.int ((gs (2 * i.toNatClampNeg)) &&& 255))])) rfl (D d21_42)
  obtain ⟨cl25, Ar25, qk25, S25, Ng25, H25, G25⟩ := id prem4
  have hin25 := inb_of (j := ((i <<< ((1 : Int32) &&& 31)) + (1 : Int32))) S25 ⟨own_d01 prem0 prem1, own_dlt1 prem0 prem1 prem2 prem3⟩
  obtain ⟨T26, X26, e26, st26⟩ := getS2 X24 hx hZ hown (host := "") (Or.inl (own_w hw (i := 106) rfl)) Via.refl e24 (Sta.ext O0 S_LO_BYTE_SHIFT) (g := (mkF m 53 #[rv db, iv ((i <<< ((1 : Int32) &&& 31)) + (1 : Int32))] [(.int ((gs (2 * i.toNatClampNeg + 1)) &&& 255)), (.int (((gs (2 * i.toNatClampNeg)) &&& 255) <<< ((0 : Int32) &&& 31)))])) rfl (D d21_53)
  refine Go.of (T' := T26) (f' := (mkF m 59 #[rv db, iv ((i <<< ((1 : Int32) &&& 31)) + (1 : Int32))] [(.int (((((gs (2 * i.toNatClampNeg)) &&& 255) <<< ((0 : Int32) &&& 31)) ||| (((gs (2 * i.toNatClampNeg + 1)) &&& 255) <<< ((8 : Int32) &&& 31))).toUInt32.toUInt16.toUInt32.toInt32))])) (fun _ k => st21 _ (XS.ifYes X21.here hx rfl (pc0 := 3) (pc' := 28) rfl (D d21_3) rfl ((if0 _ _).trans (feq (by decide : ¬ ((1 : Int32) = (0 : Int32)))).2) (by decide) (by decide) (XS.iloadN X21.here hx rfl (D d21_28) rfl (XS.iconst X21.here hx rfl (D d21_29) (XS.ishl X21.here hx rfl (D d21_30) rfl (XS.istoreN X21.here hx rfl (D d21_31) rfl (l' := #[rv db, iv (i <<< ((1 : Int32) &&& 31))]) rfl (XS.aloadN X21.here hx rfl (D d21_32) rfl rfl (XS.iloadN X21.here hx rfl (D d21_33) rfl (XS.iinc X21.here hx rfl (D d21_34) rfl (l' := #[rv db, iv ((i <<< ((1 : Int32) &&& 31)) + (1 : Int32))]) rfl (X21.baloadBytes hx (j := (i <<< ((1 : Int32) &&& 31))) (v := (.int (gs (2 * i.toNatClampNeg)))) (by rw [e21]; exact Ar23.1) (State.isArrayOf_alike hZ.alike Ar23.2.1) Ar23.2.2 hin23 (H23.at hin23 (by rw [own_dn prem0 prem1]; exact own_fnat _ (own_dM prem0 prem3))) (g := (mkF m 37 #[rv db, iv ((i <<< ((1 : Int32) &&& 31)) + (1 : Int32))] [(.int (i <<< ((1 : Int32) &&& 31))), (.ref db)])) rfl rfl (D d21_37) _ (XS.sipush X21.here hx rfl (D d21_38) (XS.iand X21.here hx rfl (D d21_41) rfl (st24 _ (XS.ishl X24.here hx rfl (D d21_45) rfl (XS.aloadN X24.here hx rfl (D d21_46) rfl rfl (XS.iloadN X24.here hx rfl (D d21_47) rfl (X24.baloadBytes hx (j := ((i <<< ((1 : Int32) &&& 31)) + (1 : Int32))) (v := (.int (gs (2 * i.toNatClampNeg + 1)))) (by rw [e24]; exact Ar25.1) (State.isArrayOf_alike hZ.alike Ar25.2.1) Ar25.2.2 hin25 (H25.at hin25 (by rw [own_dn1 prem0 prem1]; exact own_fnat _ (own_dM1 prem0 prem3))) (g := (mkF m 48 #[rv db, iv ((i <<< ((1 : Int32) &&& 31)) + (1 : Int32))] [(.int ((i <<< ((1 : Int32) &&& 31)) + (1 : Int32))), (.ref db), (.int (((gs (2 * i.toNatClampNeg)) &&& 255) <<< ((0 : Int32) &&& 31)))])) rfl rfl (D d21_48) _ (XS.sipush X24.here hx rfl (D d21_49) (XS.iand X24.here hx rfl (D d21_52) rfl (st26 _ (XS.ishl X26.here hx rfl (D d21_56) rfl (XS.ior X26.here hx rfl (D d21_57) rfl (XS.i2c X26.here hx rfl (D d21_58) rfl k))))))))))))))))))))))) ?_
  exact Go.retB X26 hx hlk hret (by simp) (D d21_59) (by decide) (by decide) (own_narc _) (by rw [e26]; exact ⟨rfl, rfl, by simp⟩)
abbrev own_m11 : MethodName := (⟨"java/lang/StringUTF16", "toBytes", "([CII)[B"⟩ : MethodName)
theorem d17_8 : decode jdk_52_method_14_code 8 = .ok (.iload 4, 2) := by decide +kernel
theorem d17_10 : decode jdk_52_method_14_code 10 = .ok (.iload_n 2, 1) := by decide +kernel
theorem d17_11 : decode jdk_52_method_14_code 11 = .ok (.if_icmp .ge 21, 3) := by decide +kernel
theorem d17_32 : decode jdk_52_method_14_code 32 = .ok (.aload_n 3, 1) := by decide +kernel
theorem d17_33 : decode jdk_52_method_14_code 33 = .ok (.areturn, 1) := by decide +kernel
theorem d17_14 : decode jdk_52_method_14_code 14 = .ok (.aload_n 3, 1) := by decide +kernel
theorem d17_15 : decode jdk_52_method_14_code 15 = .ok (.iload 4, 2) := by decide +kernel
theorem d17_17 : decode jdk_52_method_14_code 17 = .ok (.aload_n 0, 1) := by decide +kernel
theorem d17_18 : decode jdk_52_method_14_code 18 = .ok (.iload_n 1, 1) := by decide +kernel
theorem d17_19 : decode jdk_52_method_14_code 19 = .ok (.caload, 1) := by decide +kernel
theorem d17_20 : decode jdk_52_method_14_code 20 = .ok (.invokestatic 111, 3) := by decide +kernel
theorem pd12 : parseMethodDescriptor "([BII)V" = some ⟨[(.array .byte), .int, .int], none⟩ := by decide +kernel
theorem d17_23 : decode jdk_52_method_14_code 23 = .ok (.iinc 1 1, 3) := by decide +kernel
theorem d17_26 : decode jdk_52_method_14_code 26 = .ok (.iinc 4 1, 3) := by decide +kernel
theorem d17_29 : decode jdk_52_method_14_code 29 = .ok (.goto (-21), 3) := by decide +kernel
set_option maxRecDepth 65536 in
set_option maxHeartbeats 40000000 in
theorem rm_tbL {l : Launch} {Z : State} {a0 : Array Value} {A : Nat → Addr} {KC : Nat → Cell} {IC : Nat → Int32} {VC : Nat → Value} (hw : ∀ d ∈ tables_1, d.before a0 Z = true) (G : own_Ctx Z A KC IC VC) {p : Program} {e : Env} {s : State} {m : MethodId} {below : List Frame} {meth : Method} {c : Code} {h0 : Heap} (sa : Addr) (n : Int32) (ks : ClassId) (N : Nat) (cs : Nat → Int32) (prem0 : n.toInt = N) (prem1 : N ≤ 65) (prem2 : ∀ j, own_ch (cs j))
    (hx : p.tables.exec = Jvm.exec) (hby : c.code = jdk_52_method_14_code) (hml : c.maxLocals = 5) (hown : s.vm.findClass "java/lang/StringUTF16" = some m.cls) (hret : meth.sig.returnType = (some (.array .byte))) (hlk : meth.locks = false) (hZ : Z.Warmed39 s.vm) :
    ∀ (fuel : Nat) (i : Int32) (db : Addr) (kb : ClassId) (T0 : State) (h1 : Heap) (locs0 : List Loc) (hi : 0 ≤ i.toInt) (hf : i.toInt + (fuel : Nat) = n.toInt) (g_db : Z.heap.size ≤ db) (z_db : h0.size ≤ db) (ne_sa_db : sa ≠ db) (e0 : T0.heap = h1) (X0 : Stand p l e ({ frames := 2, cells := 1, slots := 130, locals := 24 } : Room) s m #[(.ref sa), (.int (0 : Int32)), (.int n)] below meth c T0 locs0 1 130) (N0 : Fr Z.heap.size locs0) (K0 : Keep h0 h1 []) (O0 : Ext Z.heap h1) (lf0 : Arv Z h1 sa ks .char n (own_fn N cs) (.int (0 : Int32))) (lf1 : Arv Z h1 db kb .byte (n <<< ((1 : Int32) &&& 31)) (own_fn (2 * N) (own_pu cs i.toNatClampNeg)) (.int (0 : Int32))),
      Go p e s below ({ frames := 2, cells := 1, slots := 130, locals := 24 } : Room) (fun v h L => ∃ db : Addr, ∃ kb : ClassId, ∃ gs : Nat → Int32, v = some (.ref db) ∧ (Fr Z.heap.size L) ∧ (Keep h0 h []) ∧ (h0.size ≤ db) ∧ (Arv Z h db kb .byte (n <<< ((1 : Int32) &&& 31)) (own_fn (2 * N) gs) (.int (0 : Int32))) ∧ (∀ j, j < 2 * N → gs j = own_ub cs j)) T0 (mkF m 8 #[rv sa, iv i, iv n, rv db, iv i] []) := by
  have D := @hb _ _ hby
  intro fuel
  induction fuel with
  | zero =>
    intro i db kb T0 h1 locs0 hi hf g_db z_db ne_sa_db e0 X0 N0 K0 O0 lf0 lf1
    have hc27 : ¬ (i < n) := own_geN hf
    refine Go.of (T' := T0) (f' := (mkF m 33 #[rv sa, iv i, iv n, rv db, iv i] [(.ref db)])) (fun _ k => XS.iload X0.here hx rfl (D d17_8) rfl (XS.iloadN X0.here hx rfl (D d17_10) rfl (XS.icmpYes X0.here hx rfl (pc0 := 11) (pc' := 32) rfl (D d17_11) rfl (flt hc27).2.1 (by decide) (by decide) (XS.aloadN X0.here hx rfl (D d17_32) rfl rfl k)))) ?_
    exact Go.retA X0 hx hlk hret rfl rfl (D d17_33) (by decide) (by decide) (by rw [e0]; exact ⟨db, kb, (own_pu cs i.toNatClampNeg), rfl, N0, K0, z_db, lf1, own_puz prem0 hi hf⟩)
  | succ fuel ih =>
    intro i db kb T0 h1 locs0 hi hf g_db z_db ne_sa_db e0 X0 N0 K0 O0 lf0 lf1
    have hc28 : i < n := own_ltN hf
    obtain ⟨cl29, Ar29, qk29, S29, Ng29, H29, G29⟩ := id lf0
    have hin29 := inb_of (j := i) S29 ⟨own_nneg hi, own_ltN hf⟩
    obtain ⟨T30, v30, L30, X30, q30, st30⟩ := callSt X0 hx hZ (y := own_m7) hown (own_w hw (i := 101) rfl) (own_w hw (i := 102) rfl) (own_w hw (i := 26) rfl) (own_w hw (i := 103) rfl) (by decide) (rm_putc hw G db i ((cs i.toNatClampNeg)) kb ((n <<< ((1 : Int32) &&& 31))) ((2 * N)) ((own_pu cs i.toNatClampNeg)) h1 O0 (hi) (own_t65 hf prem0 prem1) (own_tbn prem0 prem1) (own_tm hf prem0) lf1 g_db) e0 (W := 0) (by decide) (by decide) (by decide) (by decide) (g := (mkF m 20 #[rv sa, iv i, iv n, rv db, iv i] [(.int (cs i.toNatClampNeg)), (.int i), (.ref db)])) rfl (by rw [hml]; rfl) (argsL := [(.ref db), (.int i), (.int (cs i.toNatClampNeg))]) (rest := []) (lenOf pd12 rfl) rfl rfl (Nat.le_of_eq rfl) (D d17_20)
    obtain ⟨rfl, N30q, K30q, p30_0⟩ := q30
    have N30 := Fr.app N0 N30q
    have O31 := Old0.keep O0 K30q (allS g_db all0)
    have K31 := Keep.trans K0 K30q (allS (Or.inr z_db) all0)
    have f32 : Arv Z T30.heap sa ks .char n (own_fn N cs) (.int 0) := (Arv.keep lf0 K30q (ninS ne_sa_db nin0))
    refine Go.of (T' := T30) (f' := (mkF m 8 #[rv sa, iv (i + (1 : Int32)), iv n, rv db, iv (i + (1 : Int32))] [])) (fun _ k => XS.iload X0.here hx rfl (D d17_8) rfl (XS.iloadN X0.here hx rfl (D d17_10) rfl (XS.icmpNo X0.here hx rfl (D d17_11) rfl (tlt hc28).2.1 (XS.aloadN X0.here hx rfl (D d17_14) rfl rfl (XS.iload X0.here hx rfl (D d17_15) rfl (XS.aloadN X0.here hx rfl (D d17_17) rfl rfl (XS.iloadN X0.here hx rfl (D d17_18) rfl (X0.caload hx (j := i) (v := (.int (cs i.toNatClampNeg))) (by rw [e0]; exact Ar29.1) (State.isArrayOf_alike hZ.alike Ar29.2.1) Ar29.2.2 hin29 (H29.at hin29 (own_fnat _ (own_kN hi hf prem0))) (g := (mkF m 19 #[rv sa, iv i, iv n, rv db, iv i] [(.int i), (.ref sa), (.int i), (.ref db)])) rfl rfl (D d17_19) _ (st30 _ (XS.iinc X30.here hx rfl (D d17_23) rfl (l' := #[rv sa, iv (i + (1 : Int32)), iv n, rv db, iv i]) rfl (XS.iinc X30.here hx rfl (D d17_26) rfl (l' := #[rv sa, iv (i + (1 : Int32)), iv n, rv db, iv (i + (1 : Int32))]) rfl (XS.goto X30.here hx rfl (pc0 := 29) (pc' := 8) rfl (D d17_29) (by decide) (by decide) k)))))))))))) ?_
    exact ih ((i + (1 : Int32))) (db) (kb) T30 T30.heap _ (own_hi1 hi hf) (own_hf1 hi hf) (g_db) (z_db) (ne_sa_db) rfl X30 N30 K31 O31 (f32) (by rw [own_nS hi hf]; exact own_exA p30_0 (fun j _ => own_puS cs _ j))

theorem d17_0 : decode jdk_52_method_14_code 0 = .ok (.iload_n 2, 1) := by decide +kernel
theorem d17_1 : decode jdk_52_method_14_code 1 = .ok (.invokestatic 107, 3) := by decide +kernel
theorem pd13 : parseMethodDescriptor "(I)[B" = some ⟨[.int], some (.array .byte)⟩ := by decide +kernel
theorem d17_4 : decode jdk_52_method_14_code 4 = .ok (.astore_n 3, 1) := by decide +kernel
theorem d17_5 : decode jdk_52_method_14_code 5 = .ok (.iconst 0, 1) := by decide +kernel
theorem d17_6 : decode jdk_52_method_14_code 6 = .ok (.istore 4, 2) := by decide +kernel
theorem ef_rm_tb (m : MethodId) (sa : Addr) (n : Int32) : entryFrame m #[(.ref sa), (.int (0 : Int32)), (.int n)] 5 = mkF m 0 #[rv sa, iv (0 : Int32), iv n, .unset, .unset] [] := by first | (simp [entryFrame, mkF, argsToLocals, Value.category]; done) | rfl
theorem pn14 : plainFor (⟨"java/lang/StringUTF16", "toBytes", "([CII)[B"⟩ : MethodName) = true := by first | exact plainFor_of_name (by first | (simp [plainName, overriddenIn]; done) | decide +kernel) | decide +kernel
set_option maxRecDepth 65536 in
set_option maxHeartbeats 40000000 in
theorem rm_tb {l : Launch} {Z : State} {a0 : Array Value} {A : Nat → Addr} {KC : Nat → Cell} {IC : Nat → Int32} {VC : Nat → Value} (hw : ∀ d ∈ tables_1, d.before a0 Z = true) (G : own_Ctx Z A KC IC VC) (sa : Addr) (n : Int32) (ks : ClassId) (N : Nat) (cs : Nat → Int32) (h0 : Heap) (O0 : Ext Z.heap h0) (prem0 : n.toInt = N) (prem1 : N ≤ 65) (prem2 : ∀ j, own_ch (cs j)) (prem3 : Arv Z h0 sa ks .char n (own_fn N cs) (.int (0 : Int32))) :
    Ok l Z own_m11 jdk_52_method_14_code 5 (some (.array .byte)) ({ frames := 2, cells := 1, slots := 130, locals := 24 } : Room) #[(.ref sa), (.int (0 : Int32)), (.int n)] h0
      (fun v h L => ∃ db : Addr, ∃ kb : ClassId, ∃ gs : Nat → Int32, v = some (.ref db) ∧ (Fr Z.heap.size L) ∧ (Keep h0 h []) ∧ (h0.size ≤ db) ∧ (Arv Z h db kb .byte (n <<< ((1 : Int32) &&& 31)) (own_fn (2 * N) gs) (.int (0 : Int32))) ∧ (∀ j, j < 2 * N → gs j = own_ub cs j)) := by
  refine Ok.mk pn14 ?_
  intro p e s m below meth c T0 hx hby hml hown hnm hret hlk hZ e0 X0
  refine Go.cast (ef_rm_tb m sa n) ?_
  have D := @hb _ _ hby
  have N0 := Fr.nil Z.heap.size
  have K0 : Keep h0 h0 [] := Keep.refl _ _
  obtain ⟨T33, v33, L33, X33, q33, st33⟩ := callSt X0 hx hZ (y := own_m5) hown (own_w hw (i := 94) rfl) (own_w hw (i := 95) rfl) (own_w hw (i := 26) rfl) (own_w hw (i := 96) rfl) (by decide) (rm_nbf hw G n N h0 O0 (prem0) (prem1)) e0 (W := 0) (by decide) (by decide) (by decide) (by decide) (g := (mkF m 1 #[rv sa, iv 0, iv n, .unset, .unset] [(.int n)])) rfl (by rw [hml]; rfl) (argsL := [(.int n)]) (rest := []) (lenOf pd13 rfl) rfl rfl (Nat.le_of_eq rfl) (D d17_1)
  obtain ⟨vb_33, kb_33, rfl, N33q, K33q, p33_0, p33_1⟩ := q33
  have N33 := Fr.app N0 N33q
  have O34 := Old0.keep O0 K33q all0
  have K34 := Keep.trans K0 K33q all0
  have z_vb_33 : h0.size ≤ vb_33 := Nat.le_trans K0.1 p33_0
  have g_vb_33 : Z.heap.size ≤ vb_33 := Nat.le_trans O0.1 p33_0
  have ne_sa_vb_33 : sa ≠ vb_33 := Nat.ne_of_lt (Nat.lt_of_lt_of_le prem3.lt p33_0)
  have fz35 : Arv Z T33.heap vb_33 kb_33 .byte (n <<< ((1 : Int32) &&& 31)) (own_fn (2 * N) (own_pu cs 0)) (.int 0) := Arv.pad p33_1 (own_fn0 (2 * N) _ (own_pu0 cs))
  refine Go.of (T' := T33) (f' := (mkF m 8 #[rv sa, iv 0, iv n, rv vb_33, iv 0] [])) (fun _ k => XS.iloadN X0.here hx rfl (D d17_0) rfl (st33 _ (XS.astoreN X33.here hx rfl (D d17_4) rfl rfl (l' := #[rv sa, iv 0, iv n, rv vb_33, .unset]) rfl (XS.iconst X33.here hx rfl (D d17_5) (XS.istore X33.here hx rfl (D d17_6) rfl (l' := #[rv sa, iv 0, iv n, rv vb_33, iv 0]) rfl k))))) ?_
  have f36 : Arv Z T33.heap sa ks .char n (own_fn N cs) (.int 0) := (Arv.keep prem3 K33q nin0)
  exact rm_tbL hw G sa n ks N cs prem0 prem1 prem2 hx hby hml hown hret hlk hZ N 0 vb_33 kb_33 T33 T33.heap _ (by decide) (own_hn0 prem0) g_vb_33 z_vb_33 ne_sa_vb_33 rfl X33 N33 K34 O34 f36 fz35
theorem d4_0 : decode jdk_52_method_16_code 0 = .ok (.iload_n 2, 1) := by decide +kernel
theorem d4_1 : decode jdk_52_method_16_code 1 = .ok (.newarray .byte, 2) := by decide +kernel
theorem d4_3 : decode jdk_52_method_16_code 3 = .ok (.astore_n 3, 1) := by decide +kernel
theorem d4_4 : decode jdk_52_method_16_code 4 = .ok (.aload_n 0, 1) := by decide +kernel
theorem d4_5 : decode jdk_52_method_16_code 5 = .ok (.iload_n 1, 1) := by decide +kernel
theorem d4_6 : decode jdk_52_method_16_code 6 = .ok (.aload_n 3, 1) := by decide +kernel
theorem d4_7 : decode jdk_52_method_16_code 7 = .ok (.iconst 0, 1) := by decide +kernel
theorem d4_8 : decode jdk_52_method_16_code 8 = .ok (.iload_n 2, 1) := by decide +kernel
theorem d4_9 : decode jdk_52_method_16_code 9 = .ok (.invokestatic 115, 3) := by decide +kernel
theorem pd15 : parseMethodDescriptor "([CI[BII)I" = some ⟨[(.array .char), .int, (.array .byte), .int, .int], some .int⟩ := by decide +kernel
theorem d4_12 : decode jdk_52_method_16_code 12 = .ok (.istore 4, 2) := by decide +kernel
theorem d4_14 : decode jdk_52_method_16_code 14 = .ok (.iload 4, 2) := by decide +kernel
theorem d4_16 : decode jdk_52_method_16_code 16 = .ok (.iload_n 2, 1) := by decide +kernel
theorem d4_17 : decode jdk_52_method_16_code 17 = .ok (.if_icmp .eq 40, 3) := by decide +kernel
theorem d4_57 : decode jdk_52_method_16_code 57 = .ok (.aload_n 3, 1) := by decide +kernel
theorem d4_58 : decode jdk_52_method_16_code 58 = .ok (.areturn, 1) := by decide +kernel
theorem d4_20 : decode jdk_52_method_16_code 20 = .ok (.aload_n 0, 1) := by decide +kernel
theorem d4_21 : decode jdk_52_method_16_code 21 = .ok (.iload_n 1, 1) := by decide +kernel
theorem d4_22 : decode jdk_52_method_16_code 22 = .ok (.iload_n 2, 1) := by decide +kernel
theorem d4_23 : decode jdk_52_method_16_code 23 = .ok (.invokestatic 119, 3) := by decide +kernel
theorem pd16 : parseMethodDescriptor "([CII)[B" = some ⟨[(.array .char), .int, .int], some (.array .byte)⟩ := by decide +kernel
theorem d4_26 : decode jdk_52_method_16_code 26 = .ok (.astore 5, 2) := by decide +kernel
theorem d4_28 : decode jdk_52_method_16_code 28 = .ok (.aload 5, 2) := by decide +kernel
theorem d4_30 : decode jdk_52_method_16_code 30 = .ok (.iload 4, 2) := by decide +kernel
theorem d4_32 : decode jdk_52_method_16_code 32 = .ok (.invokestatic 71, 3) := by decide +kernel
theorem pd17 : parseMethodDescriptor "([BI)C" = some ⟨[(.array .byte), .int], some .char⟩ := by decide +kernel
theorem d4_35 : decode jdk_52_method_16_code 35 = .ok (.sipush 255, 3) := by decide +kernel
theorem d4_38 : decode jdk_52_method_16_code 38 = .ok (.if_icmp .gt 16, 3) := by decide +kernel
theorem d4_54 : decode jdk_52_method_16_code 54 = .ok (.aload 5, 2) := by decide +kernel
theorem d4_56 : decode jdk_52_method_16_code 56 = .ok (.areturn, 1) := by decide +kernel
abbrev own_m18 : MethodName := (⟨"java/lang/StringUTF16", "compress", "([CII)[B"⟩ : MethodName)
theorem ef_rm_c3 (m : MethodId) (sa : Addr) (n : Int32) : entryFrame m #[(.ref sa), (.int (0 : Int32)), (.int n)] 6 = mkF m 0 #[rv sa, iv (0 : Int32), iv n, .unset, .unset, .unset] [] := by first | (simp [entryFrame, mkF, argsToLocals, Value.category]; done) | rfl
theorem pn19 : plainFor (⟨"java/lang/StringUTF16", "compress", "([CII)[B"⟩ : MethodName) = true := by first | exact plainFor_of_name (by first | (simp [plainName, overriddenIn]; done) | decide +kernel) | decide +kernel
set_option maxRecDepth 65536 in
set_option maxHeartbeats 40000000 in
theorem rm_c3 {l : Launch} {Z : State} {a0 : Array Value} {A : Nat → Addr} {KC : Nat → Cell} {IC : Nat → Int32} {VC : Nat → Value} (hw : ∀ d ∈ tables_1, d.before a0 Z = true) (G : own_Ctx Z A KC IC VC) (sa : Addr) (n : Int32) (ks : ClassId) (N : Nat) (cs : Nat → Int32) (h0 : Heap) (O0 : Ext Z.heap h0) (prem0 : n.toInt = N) (prem1 : N ≤ 65) (prem2 : ∀ j, own_ch (cs j)) (prem3 : Arv Z h0 sa ks .char n (own_fn N cs) (.int (0 : Int32))) :
    Ok l Z own_m18 jdk_52_method_16_code 6 (some (.array .byte)) ({ frames := 3, cells := 2, slots := 195, locals := 40 } : Room) #[(.ref sa), (.int (0 : Int32)), (.int n)] h0
      (fun v h L => ∃ da : Addr, ∃ kd : ClassId, ∃ bn : Int32, ∃ M : Nat, ∃ gs : Nat → Int32, v = some (.ref da) ∧ (Fr Z.heap.size L) ∧ (Keep h0 h []) ∧ (h0.size ≤ da) ∧ (Arv Z h da kd .byte bn (own_fn M gs) (.int (0 : Int32))) ∧ (own_k3 N cs n bn M gs)) := by
  refine Ok.mk pn19 ?_
  intro p e s m below meth c T0 hx hby hml hown hnm hret hlk hZ e0 X0
  refine Go.cast (ef_rm_c3 m sa n) ?_
  have D := @hb _ _ hby
  have N0 := Fr.nil Z.heap.size
  have K0 : Keep h0 h0 [] := Keep.refl _ _
  obtain ⟨T37, h37, k37, b37, q37, X37, e37, E37, V37, A37, st37⟩ := newAr X0 hx hZ (own_w hw (i := 28) rfl) e0 (g := (mkF m 1 #[rv sa, iv 0, iv n, .unset, .unset, .unset] [(.int n)])) rfl (D d4_1) rfl (own_nnN prem0) (cap := 65) (by rw [own_nN prem0]; exact prem1) (by decide) (by decide) (by decide) (ad := "[B") (by decide)
  have O38 := Old0.ext O0 E37
  have K38 := Keep.ext K0 E37
  have g_b37 : Z.heap.size ≤ b37 := q37 ▸ O0.1
  have z_b37 : h0.size ≤ b37 := q37 ▸ K0.1
  have ne_sa_b37 : sa ≠ b37 := q37 ▸ Nat.ne_of_lt prem3.lt
  have fz39 : Arv Z h37 b37 k37 .byte n (own_fn N (own_pb cs 0)) (.int 0) := Arv.pad V37 (own_fn0 N _ (own_pb0 cs))
  have f41 : Arv Z h37 sa ks .char n (own_fn N cs) (.int 0) := (Arv.ext prem3 E37)
  obtain ⟨T40, v40, L40, X40, q40, st40⟩ := callSt X37 hx hZ (y := own_m0) hown (own_w hw (i := 29) rfl) (own_w hw (i := 30) rfl) (own_w hw (i := 26) rfl) (own_w hw (i := 31) rfl) (by decide) (rm_c5 hw G sa b37 n ks k37 N cs h37 O38 (prem0) (prem1) (prem2) f41 fz39 g_b37 ne_sa_b37) e37 (W := 0) (by decide) (by decide) (by decide) (by decide) (g := (mkF m 9 #[rv sa, iv 0, iv n, rv b37, .unset, .unset] [(.int n), (.int 0), (.ref b37), (.int 0), (.ref sa)])) rfl (by rw [hml]; rfl) (argsL := [(.ref sa), (.int 0), (.ref b37), (.int 0), (.int n)]) (rest := []) (lenOf pd15 rfl) rfl rfl (Nat.le_of_eq rfl) (D d4_9)
  obtain ⟨r_40, rfl, N40q, K40q, p40_0, p40_1⟩ := q40
  have N40 := Fr.app N0 N40q
  have O42 := Old0.keep O38 K40q (allS g_b37 all0)
  have K42 := Keep.trans K38 K40q (allS (Or.inr z_b37) all0)
  refine Go.of (T' := T40) (f' := (mkF m 17 #[rv sa, iv 0, iv n, rv b37, iv r_40, .unset] [(.int n), (.int r_40)])) (fun _ k => XS.iloadN X0.here hx rfl (D d4_0) rfl (st37 _ (XS.astoreN X37.here hx rfl (D d4_3) rfl rfl (l' := #[rv sa, iv 0, iv n, rv b37, .unset, .unset]) rfl (XS.aloadN X37.here hx rfl (D d4_4) rfl rfl (XS.iloadN X37.here hx rfl (D d4_5) rfl (XS.aloadN X37.here hx rfl (D d4_6) rfl rfl (XS.iconst X37.here hx rfl (D d4_7) (XS.iloadN X37.here hx rfl (D d4_8) rfl (st40 _ (XS.istore X40.here hx rfl (D d4_12) rfl (l' := #[rv sa, iv 0, iv n, rv b37, iv r_40, .unset]) rfl (XS.iload X40.here hx rfl (D d4_14) rfl (XS.iloadN X40.here hx rfl (D d4_16) rfl k)))))))))))) ?_
  by_cases hc43 : r_40 = n
  · skip
    refine Go.of (T' := T40) (f' := (mkF m 58 #[rv sa, iv 0, iv n, rv b37, iv r_40, .unset] [(.ref b37)])) (fun _ k => XS.icmpYes X40.here hx rfl (pc0 := 17) (pc' := 57) rfl (D d4_17) rfl (teq hc43).1 (by decide) (by decide) (XS.aloadN X40.here hx rfl (D d4_57) rfl rfl k)) ?_
    exact Go.retA X40 hx hlk hret rfl rfl (D d4_58) (by decide) (by decide) ⟨b37, k37, n, N, (own_pb cs r_40.toNatClampNeg), rfl, N40, K42, z_b37, p40_0, own_k3a prem0 p40_1 hc43⟩
  · skip
    have f45 : Arv Z T40.heap sa ks .char n (own_fn N cs) (.int 0) := (Arv.keep f41 K40q (ninS ne_sa_b37 nin0))
    have f46 : Exa Z T40.heap b37 "[B" := (Exa.keep A37 K40q)
    obtain ⟨T44, v44, L44, X44, q44, st44⟩ := callSt X40 hx hZ (y := own_m11) hown (own_w hw (i := 91) rfl) (own_w hw (i := 92) rfl) (own_w hw (i := 26) rfl) (own_w hw (i := 93) rfl) (by decide) (rm_tb hw G sa n ks N cs T40.heap O42 (prem0) (prem1) (prem2) f45) rfl (W := 0) (by decide) (by decide) (by decide) (by decide) (g := (mkF m 23 #[rv sa, iv 0, iv n, rv b37, iv r_40, .unset] [(.int n), (.int 0), (.ref sa)])) rfl (by rw [hml]; rfl) (argsL := [(.ref sa), (.int 0), (.int n)]) (rest := []) (lenOf pd16 rfl) rfl rfl (Nat.le_of_eq rfl) (D d4_23)
    obtain ⟨db_44, kb_44, gs_44, rfl, N44q, K44q, p44_0, p44_1, p44_2⟩ := q44
    have N44 := Fr.app N40 N44q
    have O47 := Old0.keep O42 K44q all0
    have K47 := Keep.trans K42 K44q all0
    have z_db_44 : h0.size ≤ db_44 := Nat.le_trans K42.1 p44_0
    have g_db_44 : Z.heap.size ≤ db_44 := Nat.le_trans O42.1 p44_0
    have ne_sa_db_44 : sa ≠ db_44 := Nat.ne_of_lt (Nat.lt_of_lt_of_le f45.lt p44_0)
    have ne_b37_db_44 : b37 ≠ db_44 := Nat.ne_of_lt (Nat.lt_of_lt_of_le f46.lt p44_0)
    obtain ⟨T48, v48, L48, X48, q48, st48⟩ := callSt X44 hx hZ (y := own_m9) hown (own_w hw (i := 107) rfl) (own_w hw (i := 108) rfl) (own_w hw (i := 26) rfl) (own_w hw (i := 109) rfl) (by decide) (rm_gch hw G db_44 r_40 kb_44 ((n <<< ((1 : Int32) &&& 31))) ((2 * N)) gs_44 T44.heap O47 ((own_cr2 prem0 p40_1 hc43).1) (own_q65 (own_cr2 prem0 p40_1 hc43).2.1 prem1) (own_tbn prem0 prem1) (own_qm (own_cr2 prem0 p40_1 hc43).2.1) p44_1) rfl (W := 0) (by decide) (by decide) (by decide) (by decide) (g := (mkF m 32 #[rv sa, iv 0, iv n, rv b37, iv r_40, rv db_44] [(.int r_40), (.ref db_44)])) rfl (by rw [hml]; rfl) (argsL := [(.ref db_44), (.int r_40)]) (rest := []) (lenOf pd17 rfl) rfl rfl (Nat.le_of_eq rfl) (D d4_32)
    obtain ⟨rfl, e48, rfl⟩ := q48
    have N48 := Fr.app N44 (Fr.nil _)
    have hc49 : (255 : Int32) < (own_gc (gs_44 (2 * r_40.toNatClampNeg)) (gs_44 (2 * r_40.toNatClampNeg + 1))) := by rw [own_gcg prem2 p44_2 (own_cr2 prem0 p40_1 hc43).1 (own_cr2 prem0 p40_1 hc43).2.1]; exact (own_cr2 prem0 p40_1 hc43).2.2
    refine Go.of (T' := T48) (f' := (mkF m 56 #[rv sa, iv 0, iv n, rv b37, iv r_40, rv db_44] [(.ref db_44)])) (fun _ k => XS.icmpNo X40.here hx rfl (D d4_17) rfl (feq hc43).1 (XS.aloadN X40.here hx rfl (D d4_20) rfl rfl (XS.iloadN X40.here hx rfl (D d4_21) rfl (XS.iloadN X40.here hx rfl (D d4_22) rfl (st44 _ (XS.astore X44.here hx rfl (D d4_26) rfl rfl (l' := #[rv sa, iv 0, iv n, rv b37, iv r_40, rv db_44]) rfl (XS.aload X44.here hx rfl (D d4_28) rfl rfl (XS.iload X44.here hx rfl (D d4_30) rfl (st48 _ (XS.sipush X48.here hx rfl (D d4_35) (XS.icmpYes X48.here hx rfl (pc0 := 38) (pc' := 54) rfl (D d4_38) rfl (tlt hc49).2.2.1 (by decide) (by decide) (XS.aload X48.here hx rfl (D d4_54) rfl rfl k)))))))))))) ?_
    exact Go.retA X48 hx hlk hret rfl rfl (D d4_56) (by decide) (by decide) (by rw [e48]; exact ⟨db_44, kb_44, (n <<< ((1 : Int32) &&& 31)), (2 * N), gs_44, rfl, N48, K47, z_db_44, p44_1, Or.inr ⟨own_tbn prem0 prem1, rfl, p44_2⟩⟩)
theorem d6_0 : decode jdk_52_method_15_code 0 = .ok (.iload_n 1, 1) := by decide +kernel
theorem d6_1 : decode jdk_52_method_15_code 1 = .ok (.aload_n 0, 1) := by decide +kernel
theorem d6_2 : decode jdk_52_method_15_code 2 = .ok (.arraylength, 1) := by decide +kernel
theorem d6_3 : decode jdk_52_method_15_code 3 = .ok (.isub, 1) := by decide +kernel
theorem d6_4 : decode jdk_52_method_15_code 4 = .ok (.bipush 31, 2) := by decide +kernel
theorem d6_6 : decode jdk_52_method_15_code 6 = .ok (.iushr, 1) := by decide +kernel
theorem d6_7 : decode jdk_52_method_15_code 7 = .ok (.i2b, 1) := by decide +kernel
theorem d6_8 : decode jdk_52_method_15_code 8 = .ok (.ireturn, 1) := by decide +kernel
abbrev own_m20 : MethodName := (⟨"java/lang/StringUTF16", "coderFromArrayLen", "([BI)B"⟩ : MethodName)
theorem ef_rm_cfal (m : MethodId) (da : Addr) (n : Int32) : entryFrame m #[(.ref da), (.int n)] 2 = mkF m 0 #[rv da, iv n] [] := by first | (simp [entryFrame, mkF, argsToLocals, Value.category]; done) | rfl
theorem pn21 : plainFor (⟨"java/lang/StringUTF16", "coderFromArrayLen", "([BI)B"⟩ : MethodName) = true := by first | exact plainFor_of_name (by first | (simp [plainName, overriddenIn]; done) | decide +kernel) | decide +kernel
set_option maxRecDepth 65536 in
set_option maxHeartbeats 40000000 in
theorem rm_cfal {l : Launch} {Z : State} {a0 : Array Value} {A : Nat → Addr} {KC : Nat → Cell} {IC : Nat → Int32} {VC : Nat → Value} (hw : ∀ d ∈ tables_1, d.before a0 Z = true) (G : own_Ctx Z A KC IC VC) (da : Addr) (n : Int32) (kd : ClassId) (bn : Int32) (vs : List Value) (h0 : Heap) (O0 : Ext Z.heap h0) (prem0 : Arv Z h0 da kd .byte bn vs (.int (0 : Int32))) :
    Ok l Z own_m20 jdk_52_method_15_code 2 (some .byte) ({ frames := 0, cells := 0, slots := 0, locals := 0 } : Room) #[(.ref da), (.int n)] h0
      (fun v h L => v = some (.int (own_cdr n bn)) ∧ (h = h0) ∧ (L = [])) := by
  refine Ok.mk pn21 ?_
  intro p e s m below meth c T0 hx hby hml hown hnm hret hlk hZ e0 X0
  refine Go.cast (ef_rm_cfal m da n) ?_
  have D := @hb _ _ hby
  have N0 := Fr.nil Z.heap.size
  have K0 : Keep h0 h0 [] := Keep.refl _ _
  obtain ⟨cl50, Ar50, qk50, S50, Ng50, H50, G50⟩ := id prem0
  refine Go.of (T' := T0) (f' := (mkF m 8 #[rv da, iv n] [(.int ((((n - bn).toUInt32 >>> ((31 : Int32) &&& 31).toUInt32).toInt32).toInt8.toInt32))])) (fun _ k => XS.iloadN X0.here hx rfl (D d6_0) rfl (XS.aloadN X0.here hx rfl (D d6_1) rfl rfl (X0.arraylength hx (by rw [e0]; exact Ar50.1) (State.isArrayOf_alike hZ.alike Ar50.2.1) (g := (mkF m 2 #[rv da, iv n] [(.ref da), (.int n)])) rfl rfl (D d6_2) _ (by rw [len_of S50 Ng50]; exact (XS.isub X0.here hx rfl (D d6_3) rfl (XS.bipush X0.here hx rfl (D d6_4) (XS.iushr X0.here hx rfl (D d6_6) rfl (XS.i2b X0.here hx rfl (D d6_7) rfl k)))))))) ?_
  exact Go.retB X0 hx hlk hret (by simp) (D d6_8) (by decide) (by decide) (own_b8 _) (by rw [e0]; exact ⟨rfl, rfl, by simp⟩)
theorem d2_0 : decode jdk_42_method_149_code 0 = .ok (.aload_n 0, 1) := by decide +kernel
theorem d2_1 : decode jdk_42_method_149_code 1 = .ok (.invokespecial 1, 3) := by decide +kernel
theorem d2_4 : decode jdk_42_method_149_code 4 = .ok (.iload_n 3, 1) := by decide +kernel
theorem d2_5 : decode jdk_42_method_149_code 5 = .ok (.ifCond .ne 22, 3) := by decide +kernel
theorem d2_27 : decode jdk_42_method_149_code 27 = .ok (.getstatic 38, 3) := by decide +kernel
theorem d2_30 : decode jdk_42_method_149_code 30 = .ok (.ifCond .eq 28, 3) := by decide +kernel
theorem d2_33 : decode jdk_42_method_149_code 33 = .ok (.aload_n 1, 1) := by decide +kernel
theorem d2_34 : decode jdk_42_method_149_code 34 = .ok (.iload_n 2, 1) := by decide +kernel
theorem d2_35 : decode jdk_42_method_149_code 35 = .ok (.iload_n 3, 1) := by decide +kernel
theorem d2_36 : decode jdk_42_method_149_code 36 = .ok (.invokestatic 177, 3) := by decide +kernel
theorem d2_39 : decode jdk_42_method_149_code 39 = .ok (.astore 5, 2) := by decide +kernel
theorem d2_41 : decode jdk_42_method_149_code 41 = .ok (.aload_n 0, 1) := by decide +kernel
theorem d2_42 : decode jdk_42_method_149_code 42 = .ok (.aload 5, 2) := by decide +kernel
theorem d2_44 : decode jdk_42_method_149_code 44 = .ok (.iload_n 3, 1) := by decide +kernel
theorem d2_45 : decode jdk_42_method_149_code 45 = .ok (.invokestatic 47, 3) := by decide +kernel
theorem pd22 : parseMethodDescriptor "([BI)B" = some ⟨[(.array .byte), .int], some .byte⟩ := by decide +kernel
theorem d2_48 : decode jdk_42_method_149_code 48 = .ok (.putfield 15, 3) := by decide +kernel
theorem d2_51 : decode jdk_42_method_149_code 51 = .ok (.aload_n 0, 1) := by decide +kernel
theorem d2_52 : decode jdk_42_method_149_code 52 = .ok (.aload 5, 2) := by decide +kernel
theorem d2_54 : decode jdk_42_method_149_code 54 = .ok (.putfield 9, 3) := by decide +kernel
theorem d2_57 : decode jdk_42_method_149_code 57 = .ok (.return_, 1) := by decide +kernel
abbrev own_m23 : MethodName := (⟨"java/lang/String", "<init>", "([CIILjava/lang/Void;)V"⟩ : MethodName)
theorem ef_rm_s4 (m : MethodId) (so : Addr) (sa : Addr) (n : Int32) : entryFrame m #[(.ref so), (.ref sa), (.int (0 : Int32)), (.int n), .null] 6 = mkF m 0 #[rv so, rv sa, iv (0 : Int32), iv n, .val .null, .unset] [] := by first | (simp [entryFrame, mkF, argsToLocals, Value.category]; done) | rfl
theorem pn24 : plainFor (⟨"java/lang/String", "<init>", "([CIILjava/lang/Void;)V"⟩ : MethodName) = true := by first | exact plainFor_of_name (by first | (simp [plainName, overriddenIn]; done) | decide +kernel) | decide +kernel
set_option maxRecDepth 65536 in
set_option maxHeartbeats 40000000 in
theorem rm_s4 {l : Launch} {Z : State} {a0 : Array Value} {A : Nat → Addr} {KC : Nat → Cell} {IC : Nat → Int32} {VC : Nat → Value} (hw : ∀ d ∈ tables_1, d.before a0 Z = true) (G : own_Ctx Z A KC IC VC) (so : Addr) (sa : Addr) (n : Int32) (ks : ClassId) (N : Nat) (cs : Nat → Int32) (h0 : Heap) (O0 : Ext Z.heap h0) (prem0 : n.toInt = N) (prem1 : N ≤ 65) (prem2 : ∀ j, own_ch (cs j)) (prem3 : 0 < N) (prem4 : Exa Z h0 so "java/lang/String") (prem5 : Fld Z h0 so "java/lang/String" "value" "[B" .null) (prem6 : Fld Z h0 so "java/lang/String" "coder" "B" (.int (0 : Int32))) (prem7 : Z.heap.size ≤ so) (prem8 : Arv Z h0 sa ks .char n (own_fn N cs) (.int (0 : Int32))) (prem9 : so ≠ sa) :
    Ok l Z own_m23 jdk_42_method_149_code 6 none ({ frames := 4, cells := 2, slots := 195, locals := 57 } : Room) #[(.ref so), (.ref sa), (.int (0 : Int32)), (.int n), .null] h0
      (fun v h L => ∃ da : Addr, ∃ kd : ClassId, ∃ bn : Int32, ∃ M : Nat, ∃ gs : Nat → Int32, ∃ cd : Int32, v = none ∧ (Fr Z.heap.size L) ∧ (Keep h0 h [so]) ∧ (h0.size ≤ da) ∧ (Fld Z h so "java/lang/String" "value" "[B" (.ref da)) ∧ (Fld Z h so "java/lang/String" "coder" "B" (.int cd)) ∧ (Arv Z h da kd .byte bn (own_fn M gs) (.int (0 : Int32))) ∧ (own_k4 N cs n bn M gs cd)) := by
  refine Ok.mk pn24 ?_
  intro p e s m below meth c T0 hx hby hml hown hnm hret hlk hZ e0 X0
  refine Go.cast (ef_rm_s4 m so sa n) ?_
  obtain ⟨-, -, -, -, -, -, -, -, S_COMPACT_STRINGS, hne_s_COMPACT_STRINGS_0, -⟩ := id G
  have D := @hb _ _ hby
  have N0 := Fr.nil Z.heap.size
  have K0 : Keep h0 h0 [so] := Keep.refl _ _
  obtain ⟨T51, X51, e51, st51⟩ := initO X0 hx hZ hown (own_w hw (i := 20) rfl) (own_w hw (i := 21) rfl) (own_w hw (i := 22) rfl) e0 (g := (mkF m 1 #[rv so, rv sa, iv 0, iv n, .val .null, .unset] [(.ref so)])) rfl (by rw [hml]; rfl) rfl (D d2_1) (by decide) (W := 0) (Nat.le_of_eq rfl) (by decide)
  have hc52 : ¬ (n = (0 : Int32)) := own_n0 prem0 prem3
  obtain ⟨T53, X53, e53, st53⟩ := getS2 X51 hx hZ hown (host := "") (Or.inl (own_w hw (i := 23) rfl)) Via.refl e51 (Sta.ext O0 S_COMPACT_STRINGS) (g := (mkF m 27 #[rv so, rv sa, iv 0, iv n, .val .null, .unset] [])) rfl (D d2_27)
  have hc54 : ¬ ((IC 0) = (0 : Int32)) := hne_s_COMPACT_STRINGS_0
  obtain ⟨T55, v55, L55, X55, q55, st55⟩ := callSt X53 hx hZ (y := own_m18) hown (own_w hw (i := 24) rfl) (own_w hw (i := 25) rfl) (own_w hw (i := 26) rfl) (own_w hw (i := 27) rfl) (by decide) (rm_c3 hw G sa n ks N cs h0 O0 (prem0) (prem1) (prem2) prem8) e53 (W := 0) (by decide) (by decide) (by decide) (by decide) (g := (mkF m 36 #[rv so, rv sa, iv 0, iv n, .val .null, .unset] [(.int n), (.int 0), (.ref sa)])) rfl (by rw [hml]; rfl) (argsL := [(.ref sa), (.int 0), (.int n)]) (rest := []) (lenOf pd16 rfl) rfl rfl (Nat.le_of_eq rfl) (D d2_36)
  obtain ⟨da_55, kd_55, bn_55, M_55, gs_55, rfl, N55q, K55q, p55_0, p55_1, p55_2⟩ := q55
  have N55 := Fr.app N0 N55q
  have O56 := Old0.keep O0 K55q all0
  have K56 := Keep.trans K0 K55q all0
  have z_da_55 : h0.size ≤ da_55 := Nat.le_trans K0.1 p55_0
  have g_da_55 : Z.heap.size ≤ da_55 := Nat.le_trans O0.1 p55_0
  have ne_so_da_55 : so ≠ da_55 := Nat.ne_of_lt (Nat.lt_of_lt_of_le prem4.lt p55_0)
  have ne_sa_da_55 : sa ≠ da_55 := Nat.ne_of_lt (Nat.lt_of_lt_of_le prem8.lt p55_0)
  obtain ⟨T57, v57, L57, X57, q57, st57⟩ := callSt X55 hx hZ (y := own_m20) hown (own_w hw (i := 32) rfl) (own_w hw (i := 33) rfl) (own_w hw (i := 26) rfl) (own_w hw (i := 34) rfl) (by decide) (rm_cfal hw G da_55 n kd_55 bn_55 ((own_fn M_55 gs_55)) T55.heap O56 p55_1) rfl (W := 1) (by decide) (by decide) (by decide) (by decide) (g := (mkF m 45 #[rv so, rv sa, iv 0, iv n, .val .null, rv da_55] [(.int n), (.ref da_55), (.ref so)])) rfl (by rw [hml]; rfl) (argsL := [(.ref da_55), (.int n)]) (rest := [(.ref so)]) (lenOf pd22 rfl) rfl rfl (Nat.le_of_eq rfl) (D d2_45)
  obtain ⟨rfl, e57, rfl⟩ := q57
  have N57 := Fr.app N55 (Fr.nil _)
  have f59 : Exa Z T55.heap so "java/lang/String" := (Exa.keep prem4 K55q)
  have f60 : Fld Z T55.heap so "java/lang/String" "coder" "B" (.int 0) := (Fld.keep prem6 K55q nin0)
  obtain ⟨T58, h58, X58, e58, W58, st58⟩ := putFN X57 hx hZ hown (own_w hw (i := 35) rfl) Via.refl e57 f60 f59 (Or.inr ⟨(own_w hw (i := 36) rfl), rfl, hnm⟩) (own_w hw (i := 11) rfl) (ty := .byte) (v' := (.int (own_cdr n bn_55))) (by decide) (own_cdrb _ _) (own_cdrf _ _) (g := (mkF m 48 #[rv so, rv sa, iv 0, iv n, .val .null, rv da_55] [(.int (own_cdr n bn_55)), (.ref so)])) rfl rfl (D d2_48)
  have O61 := Old0.wr O56 W58 prem7
  have K61 := Keep.wr K56 W58 (Or.inl (List.mem_of_getElem? (i := 0) rfl))
  have N58 := Fr.snoc X58 N57 prem7
  have f58 : Fld Z h58 so "java/lang/String" "coder" "B" (.int (own_cdr n bn_55)) := Fld.same W58 f60
  have f63 : Exa Z h58 so "java/lang/String" := (Exa.wr W58 f59)
  have f64 : Fld Z h58 so "java/lang/String" "value" "[B" .null := (Fld.other W58 (Fld.keep prem5 K55q nin0) (Or.inr (slot_ne (Or.inr (own_w hw (i := 38) rfl)) (Or.inr (own_w hw (i := 36) rfl)) (by decide) (t := (.array .byte)) (t' := .byte) (by decide) (by decide))))
  obtain ⟨T62, h62, X62, e62, W62, st62⟩ := putF X58 hx hZ hown (host := "") (Or.inl (own_w hw (i := 37) rfl)) Via.refl e58 f64 f63 (Or.inr ⟨(own_w hw (i := 38) rfl), rfl, hnm⟩) (own_w hw (i := 11) rfl) (ty := (.array .byte)) (by decide) rfl rfl (g := (mkF m 54 #[rv so, rv sa, iv 0, iv n, .val .null, rv da_55] [(.ref da_55), (.ref so)])) rfl rfl (D d2_54)
  have O65 := Old0.wr O61 W62 prem7
  have K65 := Keep.wr K61 W62 (Or.inl (List.mem_of_getElem? (i := 0) rfl))
  have N62 := Fr.snoc X62 N58 prem7
  have f62 : Fld Z h62 so "java/lang/String" "value" "[B" (.ref da_55) := Fld.same W62 f64
  have f66 : Fld Z h62 so "java/lang/String" "coder" "B" (.int (own_cdr n bn_55)) := (Fld.other W62 f58 (Or.inr (slot_ne (Or.inr (own_w hw (i := 36) rfl)) (Or.inr (own_w hw (i := 38) rfl)) (by decide) (t := .byte) (t' := (.array .byte)) (by decide) (by decide))))
  have f67 : Arv Z h62 da_55 kd_55 .byte bn_55 (own_fn M_55 gs_55) (.int 0) := (Arv.other (Arv.other p55_1 W58 (Ne.symm ne_so_da_55)) W62 (Ne.symm ne_so_da_55))
  refine Go.of (T' := T62) (f' := (mkF m 57 #[rv so, rv sa, iv 0, iv n, .val .null, rv da_55] [])) (fun _ k => XS.aloadN X0.here hx rfl (D d2_0) rfl rfl (st51 _ (XS.iloadN X51.here hx rfl (D d2_4) rfl (XS.ifYes X51.here hx rfl (pc0 := 5) (pc' := 27) rfl (D d2_5) rfl ((if0 _ _).trans (feq hc52).2) (by decide) (by decide) (st53 _ (XS.ifNo X53.here hx rfl (D d2_30) rfl ((if0 _ _).trans (feq hc54).1) (XS.aloadN X53.here hx rfl (D d2_33) rfl rfl (XS.iloadN X53.here hx rfl (D d2_34) rfl (XS.iloadN X53.here hx rfl (D d2_35) rfl (st55 _ (XS.astore X55.here hx rfl (D d2_39) rfl rfl (l' := #[rv so, rv sa, iv 0, iv n, .val .null, rv da_55]) rfl (XS.aloadN X55.here hx rfl (D d2_41) rfl rfl (XS.aload X55.here hx rfl (D d2_42) rfl rfl (XS.iloadN X55.here hx rfl (D d2_44) rfl (st57 _ (st58 _ (XS.aloadN X58.here hx rfl (D d2_51) rfl rfl (XS.aload X58.here hx rfl (D d2_52) rfl rfl (st62 _ k))))))))))))))))))) ?_
  exact Go.retV X62 hx hlk hret (D d2_57) (by decide) (by decide) (by rw [e62]; exact ⟨da_55, kd_55, bn_55, M_55, gs_55, (own_cdr n bn_55), rfl, N62, K65, z_da_55, f62, f66, f67, own_k34 prem0 prem1 prem3 p55_2⟩)
theorem d1_0 : decode jdk_42_method_3_code 0 = .ok (.aload_n 0, 1) := by decide +kernel
theorem d1_1 : decode jdk_42_method_3_code 1 = .ok (.aload_n 1, 1) := by decide +kernel
theorem d1_2 : decode jdk_42_method_3_code 2 = .ok (.iconst 0, 1) := by decide +kernel
theorem d1_3 : decode jdk_42_method_3_code 3 = .ok (.aload_n 1, 1) := by decide +kernel
theorem d1_4 : decode jdk_42_method_3_code 4 = .ok (.arraylength, 1) := by decide +kernel
theorem d1_5 : decode jdk_42_method_3_code 5 = .ok (.aconst_null, 1) := by decide +kernel
theorem d1_6 : decode jdk_42_method_3_code 6 = .ok (.invokespecial 27, 3) := by decide +kernel
theorem pd25 : parseMethodDescriptor "([CIILjava/lang/Void;)V" = some ⟨[(.array .char), .int, .int, (.object "java/lang/Void")], none⟩ := by decide +kernel
theorem d1_9 : decode jdk_42_method_3_code 9 = .ok (.return_, 1) := by decide +kernel
abbrev own_m26 : MethodName := (⟨"java/lang/String", "<init>", "([C)V"⟩ : MethodName)
theorem ef_rm_str (m : MethodId) (so : Addr) (sa : Addr) : entryFrame m #[(.ref so), (.ref sa)] 2 = mkF m 0 #[rv so, rv sa] [] := by first | (simp [entryFrame, mkF, argsToLocals, Value.category]; done) | rfl
theorem pn27 : plainFor (⟨"java/lang/String", "<init>", "([C)V"⟩ : MethodName) = true := by first | exact plainFor_of_name (by first | (simp [plainName, overriddenIn]; done) | decide +kernel) | decide +kernel
set_option maxRecDepth 65536 in
set_option maxHeartbeats 40000000 in
theorem rm_str {l : Launch} {Z : State} {a0 : Array Value} {A : Nat → Addr} {KC : Nat → Cell} {IC : Nat → Int32} {VC : Nat → Value} (hw : ∀ d ∈ tables_1, d.before a0 Z = true) (G : own_Ctx Z A KC IC VC) (so : Addr) (sa : Addr) (n : Int32) (ks : ClassId) (N : Nat) (cs : Nat → Int32) (h0 : Heap) (O0 : Ext Z.heap h0) (prem0 : n.toInt = N) (prem1 : N ≤ 65) (prem2 : ∀ j, own_ch (cs j)) (prem3 : 0 < N) (prem4 : Exa Z h0 so "java/lang/String") (prem5 : Fld Z h0 so "java/lang/String" "value" "[B" .null) (prem6 : Fld Z h0 so "java/lang/String" "coder" "B" (.int (0 : Int32))) (prem7 : Z.heap.size ≤ so) (prem8 : Arv Z h0 sa ks .char n (own_fn N cs) (.int (0 : Int32))) (prem9 : so ≠ sa) :
    Ok l Z own_m26 jdk_42_method_3_code 2 none ({ frames := 5, cells := 2, slots := 195, locals := 74 } : Room) #[(.ref so), (.ref sa)] h0
      (fun v h L => ∃ da : Addr, ∃ kd : ClassId, ∃ bn : Int32, ∃ M : Nat, ∃ gs : Nat → Int32, ∃ cd : Int32, v = none ∧ (Fr Z.heap.size L) ∧ (Keep h0 h [so]) ∧ (h0.size ≤ da) ∧ (Fld Z h so "java/lang/String" "value" "[B" (.ref da)) ∧ (Fld Z h so "java/lang/String" "coder" "B" (.int cd)) ∧ (Arv Z h da kd .byte bn (own_fn M gs) (.int (0 : Int32))) ∧ (own_k4 N cs n bn M gs cd)) := by
  refine Ok.mk pn27 ?_
  intro p e s m below meth c T0 hx hby hml hown hnm hret hlk hZ e0 X0
  refine Go.cast (ef_rm_str m so sa) ?_
  have D := @hb _ _ hby
  have N0 := Fr.nil Z.heap.size
  have K0 : Keep h0 h0 [so] := Keep.refl _ _
  obtain ⟨cl68, Ar68, qk68, S68, Ng68, H68, G68⟩ := id prem8
  obtain ⟨T69, v69, L69, X69, q69, st69⟩ := callNew X0 hx hZ (y := own_m23) rfl hown (own_w hw (i := 16) rfl) (own_w hw (i := 17) rfl) (own_w hw (i := 12) rfl) (own_w hw (i := 19) rfl) (by decide) (rm_s4 hw G so sa n ks N cs h0 O0 (prem0) (prem1) (prem2) (prem3) prem4 prem5 prem6 prem7 prem8 prem9) e0 (W := 0) (by decide) (by decide) (by decide) (by decide) (g := (mkF m 6 #[rv so, rv sa] [.null, (.int n), (.int 0), (.ref sa), (.ref so)])) rfl (by rw [hml]; rfl) (a := so) (argsL := [(.ref sa), (.int 0), (.int n), .null]) (rest := []) (lenOf pd25 rfl) rfl rfl (Nat.le_of_eq rfl) (D d1_6)
  obtain ⟨da_69, kd_69, bn_69, M_69, gs_69, cd_69, rfl, N69q, K69q, p69_0, p69_1, p69_2, p69_3, p69_4⟩ := q69
  have N69 := Fr.app N0 N69q
  have O70 := Old0.keep O0 K69q (allS prem7 all0)
  have K70 := Keep.trans K0 K69q (allS (Or.inl (List.mem_of_getElem? (i := 0) rfl)) all0)
  have z_da_69 : h0.size ≤ da_69 := Nat.le_trans K0.1 p69_0
  have g_da_69 : Z.heap.size ≤ da_69 := Nat.le_trans O0.1 p69_0
  have ne_so_da_69 : so ≠ da_69 := Nat.ne_of_lt (Nat.lt_of_lt_of_le prem4.lt p69_0)
  have ne_sa_da_69 : sa ≠ da_69 := Nat.ne_of_lt (Nat.lt_of_lt_of_le prem8.lt p69_0)
  refine Go.of (T' := T69) (f' := (mkF m 9 #[rv so, rv sa] [])) (fun _ k => XS.aloadN X0.here hx rfl (D d1_0) rfl rfl (XS.aloadN X0.here hx rfl (D d1_1) rfl rfl (XS.iconst X0.here hx rfl (D d1_2) (XS.aloadN X0.here hx rfl (D d1_3) rfl rfl (X0.arraylength hx (by rw [e0]; exact Ar68.1) (State.isArrayOf_alike hZ.alike Ar68.2.1) (g := (mkF m 4 #[rv so, rv sa] [(.ref sa), (.int 0), (.ref sa), (.ref so)])) rfl rfl (D d1_4) _ (by rw [len_of S68 Ng68]; exact (XS.aconstNull X0.here hx rfl (D d1_5) (st69 _ k)))))))) ?_
  exact Go.retV X69 hx hlk hret (D d1_9) (by decide) (by decide) ⟨da_69, kd_69, bn_69, M_69, gs_69, cd_69, rfl, N69, K70, z_da_69, p69_1, p69_2, p69_3, p69_4⟩
theorem d2_8 : decode jdk_42_method_149_code 8 = .ok (.aload_n 0, 1) := by decide +kernel
theorem d2_9 : decode jdk_42_method_149_code 9 = .ok (.ldc 7, 2) := by decide +kernel
theorem d2_11 : decode jdk_42_method_149_code 11 = .ok (.getfield 9, 3) := by decide +kernel
theorem d2_14 : decode jdk_42_method_149_code 14 = .ok (.putfield 9, 3) := by decide +kernel
theorem d2_17 : decode jdk_42_method_149_code 17 = .ok (.aload_n 0, 1) := by decide +kernel
theorem d2_18 : decode jdk_42_method_149_code 18 = .ok (.ldc 7, 2) := by decide +kernel
theorem d2_20 : decode jdk_42_method_149_code 20 = .ok (.getfield 15, 3) := by decide +kernel
theorem d2_23 : decode jdk_42_method_149_code 23 = .ok (.putfield 15, 3) := by decide +kernel
theorem d2_26 : decode jdk_42_method_149_code 26 = .ok (.return_, 1) := by decide +kernel
theorem ef_rm_s4z (m : MethodId) (so : Addr) (sa : Addr) (n : Int32) : entryFrame m #[(.ref so), (.ref sa), (.int (0 : Int32)), (.int n), .null] 6 = mkF m 0 #[rv so, rv sa, iv (0 : Int32), iv n, .val .null, .unset] [] := by first | (simp [entryFrame, mkF, argsToLocals, Value.category]; done) | rfl
set_option maxRecDepth 65536 in
set_option maxHeartbeats 40000000 in
theorem rm_s4z {l : Launch} {Z : State} {a0 : Array Value} {A : Nat → Addr} {KC : Nat → Cell} {IC : Nat → Int32} {VC : Nat → Value} (hw : ∀ d ∈ tables_1, d.before a0 Z = true) (G : own_Ctx Z A KC IC VC) (so : Addr) (sa : Addr) (n : Int32)  (h0 : Heap) (O0 : Ext Z.heap h0) (prem0 : n = 0) (prem1 : Exa Z h0 so "java/lang/String") (prem2 : Fld Z h0 so "java/lang/String" "value" "[B" .null) (prem3 : Fld Z h0 so "java/lang/String" "coder" "B" (.int (0 : Int32))) (prem4 : Z.heap.size ≤ so) :
    OkS l Z own_EL own_m23 jdk_42_method_149_code 6 none ({ frames := 1, cells := 4, slots := 8, locals := 12 } : Room) #[(.ref so), (.ref sa), (.int (0 : Int32)), (.int n), .null] h0
      (fun v h L => ∃ da : Addr, ∃ kd : ClassId, v = none ∧ (Fr Z.heap.size L) ∧ (Keep h0 h [so]) ∧ (Fld Z h so "java/lang/String" "value" "[B" (.ref da)) ∧ (Fld Z h so "java/lang/String" "coder" "B" (.int (0 : Int32))) ∧ (Arv Z h da kd .byte (0 : Int32) [] (.int (0 : Int32)))) := by
  refine OkS.mk pn24 ?_
  intro p e s m below meth c T0 hx hby hml hown hnm hret hlk hZ e0 C0 hS X0
  have hk := Nat.zero_le h0.size
  have hEL := own_EW hw
  refine GoS.cast (ef_rm_s4z m so sa n) ?_
  have D := @hb _ _ hby
  have N0 := Fr.nil Z.heap.size
  have K0 : Keep h0 h0 [so] := Keep.refl _ _
  obtain ⟨T71, X71, e71, st71⟩ := initO X0 hx hZ hown (own_w hw (i := 20) rfl) (own_w hw (i := 21) rfl) (own_w hw (i := 22) rfl) e0 (g := (mkF m 1 #[rv so, rv sa, iv 0, iv n, .val .null, .unset] [(.ref so)])) rfl (by rw [hml]; rfl) rfl (D d2_1) (by decide) (W := 0) (Nat.le_of_eq rfl) (by decide)
  have hc72 : n = (0 : Int32) := prem0
  refine GoS.of (T' := T71) (f' := (mkF m 9 #[rv so, rv sa, iv 0, iv n, .val .null, .unset] [(.ref so)])) (fun _ k => XS.aloadN X0.here hx rfl (D d2_0) rfl rfl (st71 _ (XS.iloadN X71.here hx rfl (D d2_4) rfl (XS.ifNo X71.here hx rfl (D d2_5) rfl ((if0 _ _).trans (teq hc72).2) (XS.aloadN X71.here hx rfl (D d2_8) rfl rfl k))))) ?_
  have sf74 : Safe Z own_EL s.vm h0 so := own_safeNull hZ.alike prem1 prem2
  have sp73_so : Safe Z own_EL s.vm h0 so := sf74
  obtain ⟨c73, T73, h73, k173, v73, kc73, X73, e73, E73, hS, hk73, hZ, hown, A73, Fc73, Fv73, V73, -, -, Cq73, -, sn73, st73⟩ := ldcCH X71 hx hZ hown (own_w hw (i := 88) rfl) (own_wS hw) e71 hS hk hEL (by decide) C0.1 (vs := []) (z := (0 : Int32)) ⟨by decide +kernel, by decide +kernel⟩ (by decide) rfl (g := (mkF m 9 #[rv so, rv sa, iv 0, iv n, .val .null, .unset] [(.ref so)])) rfl (D d2_9) (n := 0) (by decide +kernel) (by decide) (by decide) (by decide)
  have O73 := Old0.ext O0 E73
  have K73 := Keep.ext K0 E73
  have C73 := CHr.trans C0 Cq73
  have hk := hk73
  have sf73_so : Safe Z own_EL T73.vm h73 so := CHr.safe Cq73 prem1.lt sp73_so
  have ne_so_c73 : so ≠ c73 := (sn73 so sf73_so).1
  have ne_so_v73 : so ≠ v73 := (sn73 so sf73_so).2
  obtain ⟨T75, X75, e75, st75⟩ := getF X73 hx hZ hown (host := "") (Or.inl (own_w hw (i := 37) rfl)) Via.refl e73 Fv73 (g := (mkF m 11 #[rv so, rv sa, iv 0, iv n, .val .null, .unset] [(.ref c73), (.ref so)])) rfl rfl (D d2_11)
  have f77 : Exa Z h73 so "java/lang/String" := (Exa.ext E73 prem1)
  have f78 : Fld Z h73 so "java/lang/String" "value" "[B" .null := (Fld.ext E73 prem2)
  obtain ⟨T76, h76, X76, e76, W76, st76⟩ := putF X75 hx hZ hown (host := "") (Or.inl (own_w hw (i := 37) rfl)) Via.refl e75 f78 f77 (Or.inr ⟨(own_w hw (i := 38) rfl), rfl, hnm⟩) (own_w hw (i := 11) rfl) (ty := (.array .byte)) (by decide) rfl rfl (g := (mkF m 14 #[rv so, rv sa, iv 0, iv n, .val .null, .unset] [(.ref v73), (.ref so)])) rfl rfl (D d2_14)
  have O80 := Old0.wr O73 W76 prem4
  have K80 := Keep.wr K73 W76 (Or.inl (List.mem_of_getElem? (i := 0) rfl))
  have C79 := CHr.trans C73 (CHr.wr W76 sf73_so C73.1)
  have hk := Nat.le_trans hk (Keep.of_wr W76).1
  have N76 := Fr.snoc X76 N0 prem4
  have f76 : Fld Z h76 so "java/lang/String" "value" "[B" (.ref v73) := Fld.same W76 f78
  refine GoS.of (T' := T76) (f' := (mkF m 18 #[rv so, rv sa, iv 0, iv n, .val .null, .unset] [(.ref so)])) (fun _ k => st73 _ (st75 _ (st76 _ (XS.aloadN X76.here hx rfl (D d2_17) rfl rfl k)))) ?_
  have sf82 : Safe Z own_EL T73.vm h76 so := (Safe.wr W76 sf73_so C73.1 sf73_so)
  have f83 : Exa Z h76 so "java/lang/String" := (Exa.wr W76 f77)
  have sp81_so : Safe Z own_EL T73.vm h76 so := sf82
  obtain ⟨c81, T81, h81, k181, v81, kc81, X81, e81, E81, hS, hk81, hZ, hown, A81, Fc81, Fv81, V81, -, -, Cq81, -, sn81, st81⟩ := ldcCH X76 hx hZ hown (own_w hw (i := 88) rfl) (own_wS hw) e76 hS hk hEL (by decide) C79.1 (vs := []) (z := (0 : Int32)) ⟨by decide +kernel, by decide +kernel⟩ (by decide) rfl (g := (mkF m 18 #[rv so, rv sa, iv 0, iv n, .val .null, .unset] [(.ref so)])) rfl (D d2_18) (n := 0) (by decide +kernel) (by decide) (by decide) (by decide)
  have O81 := Old0.ext O80 E81
  have K81 := Keep.ext K80 E81
  have C81 := CHr.trans C79 Cq81
  have hk := hk81
  have sf81_so : Safe Z own_EL T81.vm h81 so := CHr.safe Cq81 f83.lt sp81_so
  have ne_so_c81 : so ≠ c81 := (sn81 so sf81_so).1
  have ne_so_v81 : so ≠ v81 := (sn81 so sf81_so).2
  obtain ⟨T84, X84, e84, st84⟩ := getF X81 hx hZ hown (host := "") (Or.inl (own_w hw (i := 35) rfl)) Via.refl e81 Fc81 (g := (mkF m 20 #[rv so, rv sa, iv 0, iv n, .val .null, .unset] [(.ref c81), (.ref so)])) rfl rfl (D d2_20)
  have f86 : Exa Z h81 so "java/lang/String" := (Exa.ext E81 f83)
  have f87 : Fld Z h81 so "java/lang/String" "coder" "B" (.int 0) := (Fld.ext E81 (Fld.other W76 (Fld.ext E73 prem3) (Or.inr (slot_ne (Or.inr (own_w hw (i := 36) rfl)) (Or.inr (own_w hw (i := 38) rfl)) (by decide) (t := .byte) (t' := (.array .byte)) (by decide) (by decide)))))
  obtain ⟨T85, h85, X85, e85, W85, st85⟩ := putFN X84 hx hZ hown (own_w hw (i := 35) rfl) Via.refl e84 f87 f86 (Or.inr ⟨(own_w hw (i := 36) rfl), rfl, hnm⟩) (own_w hw (i := 11) rfl) (ty := .byte) (v' := (.int 0)) (by decide) rfl rfl (g := (mkF m 23 #[rv so, rv sa, iv 0, iv n, .val .null, .unset] [(.int 0), (.ref so)])) rfl rfl (D d2_23)
  have O89 := Old0.wr O81 W85 prem4
  have K89 := Keep.wr K81 W85 (Or.inl (List.mem_of_getElem? (i := 0) rfl))
  have C88 := CHr.trans C81 (CHr.wr W85 sf81_so C81.1)
  have hk := Nat.le_trans hk (Keep.of_wr W85).1
  have N85 := Fr.snoc X85 N76 prem4
  have f85 : Fld Z h85 so "java/lang/String" "coder" "B" (.int 0) := Fld.same W85 f87
  have f90 : Fld Z h85 so "java/lang/String" "value" "[B" (.ref v73) := (Fld.other W85 (Fld.ext E81 f76) (Or.inr (slot_ne (Or.inr (own_w hw (i := 38) rfl)) (Or.inr (own_w hw (i := 36) rfl)) (by decide) (t := (.array .byte)) (t' := .byte) (by decide) (by decide))))
  have f91 : Arv Z h85 v73 kc73 .byte (0 : Int32) [] (.int 0) := (Arv.other (Arv.ext (Arv.other V73 W76 (Ne.symm ne_so_v73)) E81) W85 (Ne.symm ne_so_v73))
  refine GoS.of (T' := T85) (f' := (mkF m 26 #[rv so, rv sa, iv 0, iv n, .val .null, .unset] [])) (fun _ k => st81 _ (st84 _ (st85 _ k))) ?_
  exact GoS.retV X85 hx hlk hS hk hZ hEL C88 e85 hret (D d2_26) (by decide) (by decide) (by rw [e85]; exact ⟨v73, kc73, rfl, N85, K89, f90, f85, f91⟩)
theorem ef_rm_strz (m : MethodId) (so : Addr) (sa : Addr) : entryFrame m #[(.ref so), (.ref sa)] 2 = mkF m 0 #[rv so, rv sa] [] := by first | (simp [entryFrame, mkF, argsToLocals, Value.category]; done) | rfl
set_option maxRecDepth 65536 in
set_option maxHeartbeats 40000000 in
theorem rm_strz {l : Launch} {Z : State} {a0 : Array Value} {A : Nat → Addr} {KC : Nat → Cell} {IC : Nat → Int32} {VC : Nat → Value} (hw : ∀ d ∈ tables_1, d.before a0 Z = true) (G : own_Ctx Z A KC IC VC) (so : Addr) (sa : Addr) (n : Int32) (ks : ClassId) (N : Nat) (cs : Nat → Int32) (h0 : Heap) (O0 : Ext Z.heap h0) (prem0 : n = 0) (prem1 : Exa Z h0 so "java/lang/String") (prem2 : Fld Z h0 so "java/lang/String" "value" "[B" .null) (prem3 : Fld Z h0 so "java/lang/String" "coder" "B" (.int (0 : Int32))) (prem4 : Z.heap.size ≤ so) (prem5 : Arv Z h0 sa ks .char n (own_fn N cs) (.int (0 : Int32))) :
    OkS l Z own_EL own_m26 jdk_42_method_3_code 2 none ({ frames := 2, cells := 4, slots := 8, locals := 29 } : Room) #[(.ref so), (.ref sa)] h0
      (fun v h L => ∃ da : Addr, ∃ kd : ClassId, v = none ∧ (Fr Z.heap.size L) ∧ (Keep h0 h [so]) ∧ (Fld Z h so "java/lang/String" "value" "[B" (.ref da)) ∧ (Fld Z h so "java/lang/String" "coder" "B" (.int (0 : Int32))) ∧ (Arv Z h da kd .byte (0 : Int32) [] (.int (0 : Int32)))) := by
  refine OkS.mk pn27 ?_
  intro p e s m below meth c T0 hx hby hml hown hnm hret hlk hZ e0 C0 hS X0
  have hk := Nat.zero_le h0.size
  have hEL := own_EW hw
  refine GoS.cast (ef_rm_strz m so sa) ?_
  have D := @hb _ _ hby
  have N0 := Fr.nil Z.heap.size
  have K0 : Keep h0 h0 [so] := Keep.refl _ _
  obtain ⟨cl92, Ar92, qk92, S92, Ng92, H92, G92⟩ := id prem5
  refine GoS.of (T' := T0) (f' := (mkF m 6 #[rv so, rv sa] [.null, (.int n), (.int 0), (.ref sa), (.ref so)])) (fun _ k => XS.aloadN X0.here hx rfl (D d1_0) rfl rfl (XS.aloadN X0.here hx rfl (D d1_1) rfl rfl (XS.iconst X0.here hx rfl (D d1_2) (XS.aloadN X0.here hx rfl (D d1_3) rfl rfl (X0.arraylength hx (by rw [e0]; exact Ar92.1) (State.isArrayOf_alike hZ.alike Ar92.2.1) (g := (mkF m 4 #[rv so, rv sa] [(.ref sa), (.int 0), (.ref sa), (.ref so)])) rfl rfl (D d1_4) _ (by rw [len_of S92 Ng92]; exact (XS.aconstNull X0.here hx rfl (D d1_5) k))))))) ?_
  obtain ⟨T93, v93, L93, X93, q93, hS, hg93, hZ, hown, Cq93, st93⟩ := callNewS X0 hx hZ (y := own_m23) rfl hS hk hEL C0.1 hown (own_w hw (i := 16) rfl) (own_w hw (i := 17) rfl) (own_w hw (i := 12) rfl) (own_w hw (i := 19) rfl) (by decide) (rm_s4z hw G so sa n  h0 O0 (prem0) prem1 prem2 prem3 prem4) e0 (W := 0) (by decide) (by decide) (by decide) (by decide) (g := (mkF m 6 #[rv so, rv sa] [.null, (.int n), (.int 0), (.ref sa), (.ref so)])) rfl (by rw [hml]; rfl) (a := so) (argsL := [(.ref sa), (.int 0), (.int n), .null]) (rest := []) (lenOf pd25 rfl) rfl rfl (Nat.le_of_eq rfl) (D d1_6)
  obtain ⟨da_93, kd_93, rfl, N93q, K93q, p93_0, p93_1, p93_2⟩ := q93
  have N93 := Fr.app N0 N93q
  have O94 := Old0.keep O0 K93q (allS prem4 all0)
  have K94 := Keep.trans K0 K93q (allS (Or.inl (List.mem_of_getElem? (i := 0) rfl)) all0)
  have C93 := CHr.trans C0 Cq93
  have hk := Nat.le_refl T93.heap.size
  refine GoS.of (T' := T93) (f' := (mkF m 9 #[rv so, rv sa] [])) (fun _ k => st93 _ k) ?_
  exact GoS.retV X93 hx hlk hS hk hZ hEL C93 rfl hret (D d1_9) (by decide) (by decide) ⟨da_93, kd_93, rfl, N93, K94, p93_0, p93_1, p93_2⟩
theorem d9_0 : decode jdk_42_method_152_code 0 = .ok (.getstatic 38, 3) := by decide +kernel
theorem d9_3 : decode jdk_42_method_152_code 3 = .ok (.ifCond .eq 10, 3) := by decide +kernel
theorem d9_6 : decode jdk_42_method_152_code 6 = .ok (.aload_n 0, 1) := by decide +kernel
theorem d9_7 : decode jdk_42_method_152_code 7 = .ok (.getfield 15, 3) := by decide +kernel
theorem d9_10 : decode jdk_42_method_152_code 10 = .ok (.goto 4, 3) := by decide +kernel
theorem d9_14 : decode jdk_42_method_152_code 14 = .ok (.ireturn, 1) := by decide +kernel
abbrev own_m28 : MethodName := (⟨"java/lang/String", "coder", "()B"⟩ : MethodName)
theorem ef_rm_cod (m : MethodId) (so : Addr) : entryFrame m #[(.ref so)] 1 = mkF m 0 #[rv so] [] := by first | (simp [entryFrame, mkF, argsToLocals, Value.category]; done) | rfl
theorem pn29 : plainFor (⟨"java/lang/String", "coder", "()B"⟩ : MethodName) = true := by first | exact plainFor_of_name (by first | (simp [plainName, overriddenIn]; done) | decide +kernel) | decide +kernel
set_option maxRecDepth 65536 in
set_option maxHeartbeats 40000000 in
theorem rm_cod {l : Launch} {Z : State} {a0 : Array Value} {A : Nat → Addr} {KC : Nat → Cell} {IC : Nat → Int32} {VC : Nat → Value} (hw : ∀ d ∈ tables_1, d.before a0 Z = true) (G : own_Ctx Z A KC IC VC) (so : Addr) (cd : Int32) (h0 : Heap) (O0 : Ext Z.heap h0) (prem0 : Fld Z h0 so "java/lang/String" "coder" "B" (.int cd)) (prem1 : nar .byte cd = cd) :
    Ok l Z own_m28 jdk_42_method_152_code 1 (some .byte) ({ frames := 0, cells := 0, slots := 0, locals := 0 } : Room) #[(.ref so)] h0
      (fun v h L => v = some (.int cd) ∧ (h = h0) ∧ (L = [])) := by
  refine Ok.mk pn29 ?_
  intro p e s m below meth c T0 hx hby hml hown hnm hret hlk hZ e0 X0
  refine Go.cast (ef_rm_cod m so) ?_
  obtain ⟨-, -, -, -, -, -, -, -, S_COMPACT_STRINGS, hne_s_COMPACT_STRINGS_0, -⟩ := id G
  have D := @hb _ _ hby
  have N0 := Fr.nil Z.heap.size
  have K0 : Keep h0 h0 [] := Keep.refl _ _
  obtain ⟨T95, X95, e95, st95⟩ := getS2 X0 hx hZ hown (host := "") (Or.inl (own_w hw (i := 23) rfl)) Via.refl e0 (Sta.ext O0 S_COMPACT_STRINGS) (g := (mkF m 0 #[rv so] [])) rfl (D d9_0)
  have hc96 : ¬ ((IC 0) = (0 : Int32)) := hne_s_COMPACT_STRINGS_0
  obtain ⟨T97, X97, e97, st97⟩ := getF X95 hx hZ hown (host := "") (Or.inl (own_w hw (i := 35) rfl)) Via.refl e95 prem0 (g := (mkF m 7 #[rv so] [(.ref so)])) rfl rfl (D d9_7)
  refine Go.of (T' := T97) (f' := (mkF m 14 #[rv so] [(.int cd)])) (fun _ k => st95 _ (XS.ifNo X95.here hx rfl (D d9_3) rfl ((if0 _ _).trans (feq hc96).1) (XS.aloadN X95.here hx rfl (D d9_6) rfl rfl (st97 _ (XS.goto X97.here hx rfl (pc0 := 10) (pc' := 14) rfl (D d9_10) (by decide) (by decide) k))))) ?_
  exact Go.retB X97 hx hlk hret (by simp) (D d9_14) (by decide) (by decide) prem1 (by rw [e97]; exact ⟨rfl, rfl, by simp⟩)
theorem d8_0 : decode jdk_42_method_54_code 0 = .ok (.aload_n 0, 1) := by decide +kernel
theorem d8_1 : decode jdk_42_method_54_code 1 = .ok (.getfield 9, 3) := by decide +kernel
theorem d8_4 : decode jdk_42_method_54_code 4 = .ok (.arraylength, 1) := by decide +kernel
theorem d8_5 : decode jdk_42_method_54_code 5 = .ok (.aload_n 0, 1) := by decide +kernel
theorem d8_6 : decode jdk_42_method_54_code 6 = .ok (.invokevirtual 335, 3) := by decide +kernel
theorem pd30 : parseMethodDescriptor "()B" = some ⟨[], some .byte⟩ := by decide +kernel
theorem d8_9 : decode jdk_42_method_54_code 9 = .ok (.ishr, 1) := by decide +kernel
theorem d8_10 : decode jdk_42_method_54_code 10 = .ok (.ireturn, 1) := by decide +kernel
abbrev own_m31 : MethodName := (⟨"java/lang/String", "length", "()I"⟩ : MethodName)
theorem ef_rm_len (m : MethodId) (so : Addr) : entryFrame m #[(.ref so)] 1 = mkF m 0 #[rv so] [] := by first | (simp [entryFrame, mkF, argsToLocals, Value.category]; done) | rfl
theorem pn32 : plainFor (⟨"java/lang/String", "length", "()I"⟩ : MethodName) = true := by first | exact plainFor_of_name (by first | (simp [plainName, overriddenIn]; done) | decide +kernel) | decide +kernel
set_option maxRecDepth 65536 in
set_option maxHeartbeats 40000000 in
theorem rm_len {l : Launch} {Z : State} {a0 : Array Value} {A : Nat → Addr} {KC : Nat → Cell} {IC : Nat → Int32} {VC : Nat → Value} (hw : ∀ d ∈ tables_1, d.before a0 Z = true) (G : own_Ctx Z A KC IC VC) (so : Addr) (da : Addr) (kd : ClassId) (bn : Int32) (M : Nat) (gs : Nat → Int32) (cd : Int32) (n : Int32) (h0 : Heap) (O0 : Ext Z.heap h0) (prem0 : Exa Z h0 so "java/lang/String") (prem1 : Fld Z h0 so "java/lang/String" "value" "[B" (.ref da)) (prem2 : Fld Z h0 so "java/lang/String" "coder" "B" (.int cd)) (prem3 : Arv Z h0 da kd .byte bn (own_fn M gs) (.int (0 : Int32))) (prem4 : nar .byte cd = cd) (prem5 : bn >>> (cd &&& 31) = n) :
    Ok l Z own_m31 jdk_42_method_54_code 1 (some .int) ({ frames := 1, cells := 0, slots := 0, locals := 13 } : Room) #[(.ref so)] h0
      (fun v h L => v = some (.int n) ∧ (h = h0) ∧ (L = [])) := by
  refine Ok.mk pn32 ?_
  intro p e s m below meth c T0 hx hby hml hown hnm hret hlk hZ e0 X0
  refine Go.cast (ef_rm_len m so) ?_
  have D := @hb _ _ hby
  have N0 := Fr.nil Z.heap.size
  have K0 : Keep h0 h0 [] := Keep.refl _ _
  obtain ⟨T98, X98, e98, st98⟩ := getF X0 hx hZ hown (host := "") (Or.inl (own_w hw (i := 37) rfl)) Via.refl e0 prem1 (g := (mkF m 1 #[rv so] [(.ref so)])) rfl rfl (D d8_1)
  obtain ⟨cl99, Ar99, qk99, S99, Ng99, H99, G99⟩ := id prem3
  obtain ⟨T100, v100, L100, X100, q100, st100⟩ := callVi X98 hx hZ (y := own_m28) (z := own_m28) hown (own_w hw (i := 49) rfl) (own_w hw (i := 50) rfl) (notFace_of_selects (args := #[]) (mvT hZ (own_w hw (i := 52) rfl))) (own_w hw (i := 52) rfl) (own_w hw (i := 51) rfl) (own_w hw (i := 53) rfl) (own_w hw (i := 12) rfl) (by decide) (rm_cod hw G so cd h0 O0 prem2 (prem4)) e98 (W := 1) (by decide) (by decide) (by decide) (by decide) prem0 (g := (mkF m 6 #[rv so] [(.ref so), (.int bn)])) rfl (by rw [hml]; rfl) (argsL := []) (rest := [(.int bn)]) (lenOf pd30 rfl) rfl rfl (Nat.le_of_eq rfl) (D d8_6)
  obtain ⟨rfl, e100, rfl⟩ := q100
  have N100 := Fr.app N0 (Fr.nil _)
  refine Go.of (T' := T100) (f' := (mkF m 10 #[rv so] [(.int (bn >>> (cd &&& 31)))])) (fun _ k => XS.aloadN X0.here hx rfl (D d8_0) rfl rfl (st98 _ (X98.arraylength hx (by rw [e98]; exact Ar99.1) (State.isArrayOf_alike hZ.alike Ar99.2.1) (g := (mkF m 4 #[rv so] [(.ref da)])) rfl rfl (D d8_4) _ (by rw [len_of S99 Ng99]; exact (XS.aloadN X98.here hx rfl (D d8_5) rfl rfl (st100 _ (XS.ishr X100.here hx rfl (D d8_9) rfl k))))))) ?_
  exact Go.retI X100 hx hlk hret (D d8_10) (by decide) (by decide) (by rw [e100]; exact ⟨by rw [prem5], rfl, by simp⟩)
theorem d11_0 : decode jdk_42_method_154_code 0 = .ok (.getstatic 38, 3) := by decide +kernel
theorem d11_3 : decode jdk_42_method_154_code 3 = .ok (.ifCond .eq 14, 3) := by decide +kernel
theorem d11_6 : decode jdk_42_method_154_code 6 = .ok (.aload_n 0, 1) := by decide +kernel
theorem d11_7 : decode jdk_42_method_154_code 7 = .ok (.getfield 15, 3) := by decide +kernel
theorem d11_10 : decode jdk_42_method_154_code 10 = .ok (.ifCond .ne 7, 3) := by decide +kernel
theorem d11_13 : decode jdk_42_method_154_code 13 = .ok (.iconst 1, 1) := by decide +kernel
theorem d11_14 : decode jdk_42_method_154_code 14 = .ok (.goto 4, 3) := by decide +kernel
theorem d11_18 : decode jdk_42_method_154_code 18 = .ok (.ireturn, 1) := by decide +kernel
abbrev own_m33 : MethodName := (⟨"java/lang/String", "isLatin1", "()Z"⟩ : MethodName)
theorem ef_rm_il1 (m : MethodId) (so : Addr) : entryFrame m #[(.ref so)] 1 = mkF m 0 #[rv so] [] := by first | (simp [entryFrame, mkF, argsToLocals, Value.category]; done) | rfl
theorem pn34 : plainFor (⟨"java/lang/String", "isLatin1", "()Z"⟩ : MethodName) = true := by first | exact plainFor_of_name (by first | (simp [plainName, overriddenIn]; done) | decide +kernel) | decide +kernel
set_option maxRecDepth 65536 in
set_option maxHeartbeats 40000000 in
theorem rm_il1 {l : Launch} {Z : State} {a0 : Array Value} {A : Nat → Addr} {KC : Nat → Cell} {IC : Nat → Int32} {VC : Nat → Value} (hw : ∀ d ∈ tables_1, d.before a0 Z = true) (G : own_Ctx Z A KC IC VC) (so : Addr) (cd : Int32) (h0 : Heap) (O0 : Ext Z.heap h0) (prem0 : Fld Z h0 so "java/lang/String" "coder" "B" (.int cd)) (prem1 : cd = 0) :
    Ok l Z own_m33 jdk_42_method_154_code 1 (some .boolean) ({ frames := 0, cells := 0, slots := 0, locals := 0 } : Room) #[(.ref so)] h0
      (fun v h L => v = some (.int (1 : Int32)) ∧ (h = h0) ∧ (L = [])) := by
  refine Ok.mk pn34 ?_
  intro p e s m below meth c T0 hx hby hml hown hnm hret hlk hZ e0 X0
  refine Go.cast (ef_rm_il1 m so) ?_
  obtain ⟨-, -, -, -, -, -, -, -, S_COMPACT_STRINGS, hne_s_COMPACT_STRINGS_0, -⟩ := id G
  have D := @hb _ _ hby
  have N0 := Fr.nil Z.heap.size
  have K0 : Keep h0 h0 [] := Keep.refl _ _
  obtain ⟨T101, X101, e101, st101⟩ := getS2 X0 hx hZ hown (host := "") (Or.inl (own_w hw (i := 23) rfl)) Via.refl e0 (Sta.ext O0 S_COMPACT_STRINGS) (g := (mkF m 0 #[rv so] [])) rfl (D d11_0)
  have hc102 : ¬ ((IC 0) = (0 : Int32)) := hne_s_COMPACT_STRINGS_0
  obtain ⟨T103, X103, e103, st103⟩ := getF X101 hx hZ hown (host := "") (Or.inl (own_w hw (i := 35) rfl)) Via.refl e101 prem0 (g := (mkF m 7 #[rv so] [(.ref so)])) rfl rfl (D d11_7)
  have hc104 : cd = (0 : Int32) := prem1
  refine Go.of (T' := T103) (f' := (mkF m 18 #[rv so] [(.int 1)])) (fun _ k => st101 _ (XS.ifNo X101.here hx rfl (D d11_3) rfl ((if0 _ _).trans (feq hc102).1) (XS.aloadN X101.here hx rfl (D d11_6) rfl rfl (st103 _ (XS.ifNo X103.here hx rfl (D d11_10) rfl ((if0 _ _).trans (teq hc104).2) (XS.iconst X103.here hx rfl (D d11_13) (XS.goto X103.here hx rfl (pc0 := 14) (pc' := 18) rfl (D d11_14) (by decide) (by decide) k))))))) ?_
  exact Go.retB X103 hx hlk hret (by simp) (D d11_18) (by decide) (by decide) (z' := (1 : Int32)) rfl (by rw [e103]; exact ⟨rfl, rfl, by simp⟩)
theorem d11_17 : decode jdk_42_method_154_code 17 = .ok (.iconst 0, 1) := by decide +kernel
theorem ef_rm_il0 (m : MethodId) (so : Addr) : entryFrame m #[(.ref so)] 1 = mkF m 0 #[rv so] [] := by first | (simp [entryFrame, mkF, argsToLocals, Value.category]; done) | rfl
set_option maxRecDepth 65536 in
set_option maxHeartbeats 40000000 in
theorem rm_il0 {l : Launch} {Z : State} {a0 : Array Value} {A : Nat → Addr} {KC : Nat → Cell} {IC : Nat → Int32} {VC : Nat → Value} (hw : ∀ d ∈ tables_1, d.before a0 Z = true) (G : own_Ctx Z A KC IC VC) (so : Addr) (cd : Int32) (h0 : Heap) (O0 : Ext Z.heap h0) (prem0 : Fld Z h0 so "java/lang/String" "coder" "B" (.int cd)) (prem1 : ¬ cd = 0) :
    Ok l Z own_m33 jdk_42_method_154_code 1 (some .boolean) ({ frames := 0, cells := 0, slots := 0, locals := 0 } : Room) #[(.ref so)] h0
      (fun v h L => v = some (.int (0 : Int32)) ∧ (h = h0) ∧ (L = [])) := by
  refine Ok.mk pn34 ?_
  intro p e s m below meth c T0 hx hby hml hown hnm hret hlk hZ e0 X0
  refine Go.cast (ef_rm_il0 m so) ?_
  obtain ⟨-, -, -, -, -, -, -, -, S_COMPACT_STRINGS, hne_s_COMPACT_STRINGS_0, -⟩ := id G
  have D := @hb _ _ hby
  have N0 := Fr.nil Z.heap.size
  have K0 : Keep h0 h0 [] := Keep.refl _ _
  obtain ⟨T105, X105, e105, st105⟩ := getS2 X0 hx hZ hown (host := "") (Or.inl (own_w hw (i := 23) rfl)) Via.refl e0 (Sta.ext O0 S_COMPACT_STRINGS) (g := (mkF m 0 #[rv so] [])) rfl (D d11_0)
  have hc106 : ¬ ((IC 0) = (0 : Int32)) := hne_s_COMPACT_STRINGS_0
  obtain ⟨T107, X107, e107, st107⟩ := getF X105 hx hZ hown (host := "") (Or.inl (own_w hw (i := 35) rfl)) Via.refl e105 prem0 (g := (mkF m 7 #[rv so] [(.ref so)])) rfl rfl (D d11_7)
  have hc108 : ¬ (cd = (0 : Int32)) := prem1
  refine Go.of (T' := T107) (f' := (mkF m 18 #[rv so] [(.int 0)])) (fun _ k => st105 _ (XS.ifNo X105.here hx rfl (D d11_3) rfl ((if0 _ _).trans (feq hc106).1) (XS.aloadN X105.here hx rfl (D d11_6) rfl rfl (st107 _ (XS.ifYes X107.here hx rfl (pc0 := 10) (pc' := 17) rfl (D d11_10) rfl ((if0 _ _).trans (feq hc108).2) (by decide) (by decide) (XS.iconst X107.here hx rfl (D d11_17) k)))))) ?_
  exact Go.retB X107 hx hlk hret (by simp) (D d11_18) (by decide) (by decide) (z' := (0 : Int32)) rfl (by rw [e107]; exact ⟨rfl, rfl, by simp⟩)
theorem d14_0 : decode jdk_41_method_11_code 0 = .ok (.iload_n 0, 1) := by decide +kernel
theorem d14_1 : decode jdk_41_method_11_code 1 = .ok (.ifCond .lt 8, 3) := by decide +kernel
theorem d14_4 : decode jdk_41_method_11_code 4 = .ok (.iload_n 0, 1) := by decide +kernel
theorem d14_5 : decode jdk_41_method_11_code 5 = .ok (.iload_n 1, 1) := by decide +kernel
theorem d14_6 : decode jdk_41_method_11_code 6 = .ok (.if_icmp .lt 10, 3) := by decide +kernel
theorem d14_16 : decode jdk_41_method_11_code 16 = .ok (.iload_n 0, 1) := by decide +kernel
theorem d14_17 : decode jdk_41_method_11_code 17 = .ok (.ireturn, 1) := by decide +kernel
abbrev own_m35 : MethodName := (⟨"jdk/internal/util/Preconditions", "checkIndex", "(IILjava/util/function/BiFunction;)I"⟩ : MethodName)
theorem ef_rm_pcir (m : MethodId) (i : Int32) (n : Int32) (fa : Addr) : entryFrame m #[(.int i), (.int n), (.ref fa)] 3 = mkF m 0 #[iv i, iv n, rv fa] [] := by first | (simp [entryFrame, mkF, argsToLocals, Value.category]; done) | rfl
theorem pn36 : plainFor (⟨"jdk/internal/util/Preconditions", "checkIndex", "(IILjava/util/function/BiFunction;)I"⟩ : MethodName) = true := by first | exact plainFor_of_name (by first | (simp [plainName, overriddenIn]; done) | decide +kernel) | decide +kernel
set_option maxRecDepth 65536 in
set_option maxHeartbeats 40000000 in
theorem rm_pcir {l : Launch} {Z : State} {a0 : Array Value} {A : Nat → Addr} {KC : Nat → Cell} {IC : Nat → Int32} {VC : Nat → Value} (hw : ∀ d ∈ tables_1, d.before a0 Z = true) (G : own_Ctx Z A KC IC VC) (i : Int32) (n : Int32) (fa : Addr)  (h0 : Heap) (O0 : Ext Z.heap h0) (prem0 : ¬ (i < (0 : Int32))) (prem1 : i < n) :
    Ok l Z own_m35 jdk_41_method_11_code 3 (some .int) ({ frames := 0, cells := 0, slots := 0, locals := 0 } : Room) #[(.int i), (.int n), (.ref fa)] h0
      (fun v h L => v = some (.int i) ∧ (h = h0) ∧ (L = [])) := by
  refine Ok.mk pn36 ?_
  intro p e s m below meth c T0 hx hby hml hown hnm hret hlk hZ e0 X0
  refine Go.cast (ef_rm_pcir m i n fa) ?_
  have D := @hb _ _ hby
  have N0 := Fr.nil Z.heap.size
  have K0 : Keep h0 h0 [] := Keep.refl _ _
  have hc109 : ¬ (i < (0 : Int32)) := prem0
  have hc110 : i < n := prem1
  refine Go.of (T' := T0) (f' := (mkF m 17 #[iv i, iv n, rv fa] [(.int i)])) (fun _ k => XS.iloadN X0.here hx rfl (D d14_0) rfl (XS.ifNo X0.here hx rfl (D d14_1) rfl ((if0 _ _).trans (flt hc109).1) (XS.iloadN X0.here hx rfl (D d14_4) rfl (XS.iloadN X0.here hx rfl (D d14_5) rfl (XS.icmpYes X0.here hx rfl (pc0 := 6) (pc' := 16) rfl (D d14_6) rfl (tlt hc110).1 (by decide) (by decide) (XS.iloadN X0.here hx rfl (D d14_16) rfl k)))))) ?_
  exact Go.retI X0 hx hlk hret (D d14_17) (by decide) (by decide) (by rw [e0]; exact ⟨rfl, rfl, by simp⟩)
theorem ef_rm_pcin (m : MethodId) (i : Int32) (n : Int32) : entryFrame m #[(.int i), (.int n), .null] 3 = mkF m 0 #[iv i, iv n, .val .null] [] := by first | (simp [entryFrame, mkF, argsToLocals, Value.category]; done) | rfl
set_option maxRecDepth 65536 in
set_option maxHeartbeats 40000000 in
theorem rm_pcin {l : Launch} {Z : State} {a0 : Array Value} {A : Nat → Addr} {KC : Nat → Cell} {IC : Nat → Int32} {VC : Nat → Value} (hw : ∀ d ∈ tables_1, d.before a0 Z = true) (G : own_Ctx Z A KC IC VC) (i : Int32) (n : Int32)  (h0 : Heap) (O0 : Ext Z.heap h0) (prem0 : ¬ (i < (0 : Int32))) (prem1 : i < n) :
    Ok l Z own_m35 jdk_41_method_11_code 3 (some .int) ({ frames := 0, cells := 0, slots := 0, locals := 0 } : Room) #[(.int i), (.int n), .null] h0
      (fun v h L => v = some (.int i) ∧ (h = h0) ∧ (L = [])) := by
  refine Ok.mk pn36 ?_
  intro p e s m below meth c T0 hx hby hml hown hnm hret hlk hZ e0 X0
  refine Go.cast (ef_rm_pcin m i n) ?_
  have D := @hb _ _ hby
  have N0 := Fr.nil Z.heap.size
  have K0 : Keep h0 h0 [] := Keep.refl _ _
  have hc111 : ¬ (i < (0 : Int32)) := prem0
  have hc112 : i < n := prem1
  refine Go.of (T' := T0) (f' := (mkF m 17 #[iv i, iv n, .val .null] [(.int i)])) (fun _ k => XS.iloadN X0.here hx rfl (D d14_0) rfl (XS.ifNo X0.here hx rfl (D d14_1) rfl ((if0 _ _).trans (flt hc111).1) (XS.iloadN X0.here hx rfl (D d14_4) rfl (XS.iloadN X0.here hx rfl (D d14_5) rfl (XS.icmpYes X0.here hx rfl (pc0 := 6) (pc' := 16) rfl (D d14_6) rfl (tlt hc112).1 (by decide) (by decide) (XS.iloadN X0.here hx rfl (D d14_16) rfl k)))))) ?_
  exact Go.retI X0 hx hlk hret (D d14_17) (by decide) (by decide) (by rw [e0]; exact ⟨rfl, rfl, by simp⟩)
theorem d13_0 : decode jdk_42_method_155_code 0 = .ok (.iload_n 0, 1) := by decide +kernel
theorem d13_1 : decode jdk_42_method_155_code 1 = .ok (.iload_n 1, 1) := by decide +kernel
theorem d13_2 : decode jdk_42_method_155_code 2 = .ok (.getstatic 1053, 3) := by decide +kernel
theorem d13_5 : decode jdk_42_method_155_code 5 = .ok (.invokestatic 1059, 3) := by decide +kernel
theorem pd37 : parseMethodDescriptor "(IILjava/util/function/BiFunction;)I" = some ⟨[.int, .int, (.object "java/util/function/BiFunction")], some .int⟩ := by decide +kernel
theorem d13_8 : decode jdk_42_method_155_code 8 = .ok (.pop, 1) := by decide +kernel
theorem d13_9 : decode jdk_42_method_155_code 9 = .ok (.return_, 1) := by decide +kernel
abbrev own_m38 : MethodName := (⟨"java/lang/String", "checkIndex", "(II)V"⟩ : MethodName)
theorem ef_rm_sci (m : MethodId) (i : Int32) (n : Int32) : entryFrame m #[(.int i), (.int n)] 2 = mkF m 0 #[iv i, iv n] [] := by first | (simp [entryFrame, mkF, argsToLocals, Value.category]; done) | rfl
theorem pn39 : plainFor (⟨"java/lang/String", "checkIndex", "(II)V"⟩ : MethodName) = true := by first | exact plainFor_of_name (by first | (simp [plainName, overriddenIn]; done) | decide +kernel) | decide +kernel
set_option maxRecDepth 65536 in
set_option maxHeartbeats 40000000 in
theorem rm_sci {l : Launch} {Z : State} {a0 : Array Value} {A : Nat → Addr} {KC : Nat → Cell} {IC : Nat → Int32} {VC : Nat → Value} (hw : ∀ d ∈ tables_1, d.before a0 Z = true) (G : own_Ctx Z A KC IC VC) (i : Int32) (n : Int32)  (h0 : Heap) (O0 : Ext Z.heap h0) (prem0 : ¬ (i < (0 : Int32))) (prem1 : i < n) :
    Ok l Z own_m38 jdk_42_method_155_code 2 none ({ frames := 1, cells := 0, slots := 0, locals := 14 } : Room) #[(.int i), (.int n)] h0
      (fun v h L => v = none ∧ (h = h0) ∧ (L = [])) := by
  refine Ok.mk pn39 ?_
  intro p e s m below meth c T0 hx hby hml hown hnm hret hlk hZ e0 X0
  refine Go.cast (ef_rm_sci m i n) ?_
  obtain ⟨-, -, -, -, -, -, -, -, -, -, -, -, -, S_SIO, R_SIO⟩ := id G
  have D := @hb _ _ hby
  have N0 := Fr.nil Z.heap.size
  have K0 : Keep h0 h0 [] := Keep.refl _ _
  rcases R_SIO with hF | ⟨fa, hF⟩
  · rw [hF] at S_SIO
    obtain ⟨T113, X113, e113, st113⟩ := getS2 X0 hx hZ hown (host := "") (Or.inl (own_w hw (i := 75) rfl)) Via.refl e0 (Sta.ext O0 S_SIO) (g := (mkF m 2 #[iv i, iv n] [(.int n), (.int i)])) rfl (D d13_2)
    obtain ⟨T114, v114, L114, X114, q114, st114⟩ := callSt X113 hx hZ (y := own_m35) hown (own_w hw (i := 77) rfl) (own_w hw (i := 78) rfl) (own_w hw (i := 76) rfl) (own_w hw (i := 79) rfl) (by decide) (rm_pcin hw G i n  h0 O0 (prem0) (prem1)) e113 (W := 0) (by decide) (by decide) (by decide) (by decide) (g := (mkF m 5 #[iv i, iv n] [.null, (.int n), (.int i)])) rfl (by rw [hml]; rfl) (argsL := [(.int i), (.int n), .null]) (rest := []) (lenOf pd37 rfl) rfl rfl (Nat.le_of_eq rfl) (D d13_5)
    obtain ⟨rfl, e114, rfl⟩ := q114
    have N114 := Fr.app N0 (Fr.nil _)
    refine Go.of (T' := T114) (f' := (mkF m 9 #[iv i, iv n] [])) (fun _ k => XS.iloadN X0.here hx rfl (D d13_0) rfl (XS.iloadN X0.here hx rfl (D d13_1) rfl (st113 _ (st114 _ (XT.pop X114.here hx rfl (D d13_8) rfl rfl k))))) ?_
    exact Go.retV X114 hx hlk hret (D d13_9) (by decide) (by decide) (by rw [e114]; exact ⟨rfl, rfl, by simp⟩)
  · rw [hF] at S_SIO
    obtain ⟨T115, X115, e115, st115⟩ := getS2 X0 hx hZ hown (host := "") (Or.inl (own_w hw (i := 75) rfl)) Via.refl e0 (Sta.ext O0 S_SIO) (g := (mkF m 2 #[iv i, iv n] [(.int n), (.int i)])) rfl (D d13_2)
    obtain ⟨T116, v116, L116, X116, q116, st116⟩ := callSt X115 hx hZ (y := own_m35) hown (own_w hw (i := 77) rfl) (own_w hw (i := 78) rfl) (own_w hw (i := 76) rfl) (own_w hw (i := 79) rfl) (by decide) (rm_pcir hw G i n fa  h0 O0 (prem0) (prem1)) e115 (W := 0) (by decide) (by decide) (by decide) (by decide) (g := (mkF m 5 #[iv i, iv n] [(.ref fa), (.int n), (.int i)])) rfl (by rw [hml]; rfl) (argsL := [(.int i), (.int n), (.ref fa)]) (rest := []) (lenOf pd37 rfl) rfl rfl (Nat.le_of_eq rfl) (D d13_5)
    obtain ⟨rfl, e116, rfl⟩ := q116
    have N116 := Fr.app N0 (Fr.nil _)
    refine Go.of (T' := T116) (f' := (mkF m 9 #[iv i, iv n] [])) (fun _ k => XS.iloadN X0.here hx rfl (D d13_0) rfl (XS.iloadN X0.here hx rfl (D d13_1) rfl (st115 _ (st116 _ (XT.pop X116.here hx rfl (D d13_8) rfl rfl k))))) ?_
    exact Go.retV X116 hx hlk hret (D d13_9) (by decide) (by decide) (by rw [e116]; exact ⟨rfl, rfl, by simp⟩)
theorem d12_0 : decode jdk_43_method_2_code 0 = .ok (.iload_n 1, 1) := by decide +kernel
theorem d12_1 : decode jdk_43_method_2_code 1 = .ok (.aload_n 0, 1) := by decide +kernel
theorem d12_2 : decode jdk_43_method_2_code 2 = .ok (.arraylength, 1) := by decide +kernel
theorem d12_3 : decode jdk_43_method_2_code 3 = .ok (.invokestatic 9, 3) := by decide +kernel
theorem pd40 : parseMethodDescriptor "(II)V" = some ⟨[.int, .int], none⟩ := by decide +kernel
theorem d12_6 : decode jdk_43_method_2_code 6 = .ok (.aload_n 0, 1) := by decide +kernel
theorem d12_7 : decode jdk_43_method_2_code 7 = .ok (.iload_n 1, 1) := by decide +kernel
theorem d12_8 : decode jdk_43_method_2_code 8 = .ok (.baload, 1) := by decide +kernel
theorem d12_9 : decode jdk_43_method_2_code 9 = .ok (.sipush 255, 3) := by decide +kernel
theorem d12_12 : decode jdk_43_method_2_code 12 = .ok (.iand, 1) := by decide +kernel
theorem d12_13 : decode jdk_43_method_2_code 13 = .ok (.i2c, 1) := by decide +kernel
theorem d12_14 : decode jdk_43_method_2_code 14 = .ok (.ireturn, 1) := by decide +kernel
abbrev own_m41 : MethodName := (⟨"java/lang/StringLatin1", "charAt", "([BI)C"⟩ : MethodName)
theorem ef_rm_l1c (m : MethodId) (da : Addr) (i : Int32) : entryFrame m #[(.ref da), (.int i)] 2 = mkF m 0 #[rv da, iv i] [] := by first | (simp [entryFrame, mkF, argsToLocals, Value.category]; done) | rfl
theorem pn42 : plainFor (⟨"java/lang/StringLatin1", "charAt", "([BI)C"⟩ : MethodName) = true := by first | exact plainFor_of_name (by first | (simp [plainName, overriddenIn]; done) | decide +kernel) | decide +kernel
set_option maxRecDepth 65536 in
set_option maxHeartbeats 40000000 in
theorem rm_l1c {l : Launch} {Z : State} {a0 : Array Value} {A : Nat → Addr} {KC : Nat → Cell} {IC : Nat → Int32} {VC : Nat → Value} (hw : ∀ d ∈ tables_1, d.before a0 Z = true) (G : own_Ctx Z A KC IC VC) (da : Addr) (i : Int32) (kd : ClassId) (n : Int32) (M : Nat) (gs : Nat → Int32) (xx : Int32) (h0 : Heap) (O0 : Ext Z.heap h0) (prem0 : ¬ (i < (0 : Int32))) (prem1 : i < n) (prem2 : Arv Z h0 da kd .byte n (own_fn M gs) (.int (0 : Int32))) (prem3 : i.toNatClampNeg < M) (prem4 : ((gs i.toNatClampNeg) &&& (255 : Int32)).toUInt32.toUInt16.toUInt32.toInt32 = xx) :
    Ok l Z own_m41 jdk_43_method_2_code 2 (some .char) ({ frames := 2, cells := 0, slots := 0, locals := 27 } : Room) #[(.ref da), (.int i)] h0
      (fun v h L => v = some (.int xx) ∧ (h = h0) ∧ (L = [])) := by
  refine Ok.mk pn42 ?_
  intro p e s m below meth c T0 hx hby hml hown hnm hret hlk hZ e0 X0
  refine Go.cast (ef_rm_l1c m da i) ?_
  have D := @hb _ _ hby
  have N0 := Fr.nil Z.heap.size
  have K0 : Keep h0 h0 [] := Keep.refl _ _
  obtain ⟨cl117, Ar117, qk117, S117, Ng117, H117, G117⟩ := id prem2
  obtain ⟨T118, v118, L118, X118, q118, st118⟩ := callSt X0 hx hZ (y := own_m38) hown (own_w hw (i := 72) rfl) (own_w hw (i := 73) rfl) (own_w hw (i := 12) rfl) (own_w hw (i := 74) rfl) (by decide) (rm_sci hw G i n  h0 O0 (prem0) (prem1)) e0 (W := 0) (by decide) (by decide) (by decide) (by decide) (g := (mkF m 3 #[rv da, iv i] [(.int n), (.int i)])) rfl (by rw [hml]; rfl) (argsL := [(.int i), (.int n)]) (rest := []) (lenOf pd40 rfl) rfl rfl (Nat.le_of_eq rfl) (D d12_3)
  obtain ⟨rfl, e118, rfl⟩ := q118
  have N118 := Fr.app N0 (Fr.nil _)
  obtain ⟨cl119, Ar119, qk119, S119, Ng119, H119, G119⟩ := id prem2
  have hin119 := inb_of (j := i) S119 ⟨prem0, prem1⟩
  refine Go.of (T' := T118) (f' := (mkF m 14 #[rv da, iv i] [(.int (((gs i.toNatClampNeg) &&& 255).toUInt32.toUInt16.toUInt32.toInt32))])) (fun _ k => XS.iloadN X0.here hx rfl (D d12_0) rfl (XS.aloadN X0.here hx rfl (D d12_1) rfl rfl (X0.arraylength hx (by rw [e0]; exact Ar117.1) (State.isArrayOf_alike hZ.alike Ar117.2.1) (g := (mkF m 2 #[rv da, iv i] [(.ref da), (.int i)])) rfl rfl (D d12_2) _ (by rw [len_of S117 Ng117]; exact (st118 _ (XS.aloadN X118.here hx rfl (D d12_6) rfl rfl (XS.iloadN X118.here hx rfl (D d12_7) rfl (X118.baloadBytes hx (j := i) (v := (.int (gs i.toNatClampNeg))) (by rw [e118]; exact Ar119.1) (State.isArrayOf_alike hZ.alike Ar119.2.1) Ar119.2.2 hin119 (H119.at hin119 (own_fnat _ prem3)) (g := (mkF m 8 #[rv da, iv i] [(.int i), (.ref da)])) rfl rfl (D d12_8) _ (XS.sipush X118.here hx rfl (D d12_9) (XS.iand X118.here hx rfl (D d12_12) rfl (XS.i2c X118.here hx rfl (D d12_13) rfl k))))))))))) ?_
  exact Go.retB X118 hx hlk hret (by simp) (D d12_14) (by decide) (by decide) (z' := xx) ((own_narc _).trans prem4) (by rw [e118]; exact ⟨rfl, rfl, by simp⟩)
theorem d24_0 : decode jdk_52_method_6_code 0 = .ok (.aload_n 0, 1) := by decide +kernel
theorem d24_1 : decode jdk_52_method_6_code 1 = .ok (.arraylength, 1) := by decide +kernel
theorem d24_2 : decode jdk_52_method_6_code 2 = .ok (.iconst 1, 1) := by decide +kernel
theorem d24_3 : decode jdk_52_method_6_code 3 = .ok (.ishr, 1) := by decide +kernel
theorem d24_4 : decode jdk_52_method_6_code 4 = .ok (.ireturn, 1) := by decide +kernel
abbrev own_m43 : MethodName := (⟨"java/lang/StringUTF16", "length", "([B)I"⟩ : MethodName)
theorem ef_rm_ulen (m : MethodId) (db : Addr) : entryFrame m #[(.ref db)] 1 = mkF m 0 #[rv db] [] := by first | (simp [entryFrame, mkF, argsToLocals, Value.category]; done) | rfl
theorem pn44 : plainFor (⟨"java/lang/StringUTF16", "length", "([B)I"⟩ : MethodName) = true := by first | exact plainFor_of_name (by first | (simp [plainName, overriddenIn]; done) | decide +kernel) | decide +kernel
set_option maxRecDepth 65536 in
set_option maxHeartbeats 40000000 in
theorem rm_ulen {l : Launch} {Z : State} {a0 : Array Value} {A : Nat → Addr} {KC : Nat → Cell} {IC : Nat → Int32} {VC : Nat → Value} (hw : ∀ d ∈ tables_1, d.before a0 Z = true) (G : own_Ctx Z A KC IC VC) (db : Addr) (kb : ClassId) (bn : Int32) (vs : List Value) (h0 : Heap) (O0 : Ext Z.heap h0) (prem0 : Arv Z h0 db kb .byte bn vs (.int (0 : Int32))) :
    Ok l Z own_m43 jdk_52_method_6_code 1 (some .int) ({ frames := 0, cells := 0, slots := 0, locals := 0 } : Room) #[(.ref db)] h0
      (fun v h L => v = some (.int (bn >>> ((1 : Int32) &&& 31))) ∧ (h = h0) ∧ (L = [])) := by
  refine Ok.mk pn44 ?_
  intro p e s m below meth c T0 hx hby hml hown hnm hret hlk hZ e0 X0
  refine Go.cast (ef_rm_ulen m db) ?_
  have D := @hb _ _ hby
  have N0 := Fr.nil Z.heap.size
  have K0 : Keep h0 h0 [] := Keep.refl _ _
  obtain ⟨cl120, Ar120, qk120, S120, Ng120, H120, G120⟩ := id prem0
  refine Go.of (T' := T0) (f' := (mkF m 4 #[rv db] [(.int (bn >>> ((1 : Int32) &&& 31)))])) (fun _ k => XS.aloadN X0.here hx rfl (D d24_0) rfl rfl (X0.arraylength hx (by rw [e0]; exact Ar120.1) (State.isArrayOf_alike hZ.alike Ar120.2.1) (g := (mkF m 1 #[rv db] [(.ref db)])) rfl rfl (D d24_1) _ (by rw [len_of S120 Ng120]; exact (XS.iconst X0.here hx rfl (D d24_2) (XS.ishr X0.here hx rfl (D d24_3) rfl k))))) ?_
  exact Go.retI X0 hx hlk hret (D d24_4) (by decide) (by decide) (by rw [e0]; exact ⟨rfl, rfl, by simp⟩)
theorem d23_0 : decode jdk_52_method_91_code 0 = .ok (.iload_n 0, 1) := by decide +kernel
theorem d23_1 : decode jdk_52_method_91_code 1 = .ok (.aload_n 1, 1) := by decide +kernel
theorem d23_2 : decode jdk_52_method_91_code 2 = .ok (.invokestatic 48, 3) := by decide +kernel
theorem pd45 : parseMethodDescriptor "([B)I" = some ⟨[(.array .byte)], some .int⟩ := by decide +kernel
theorem d23_5 : decode jdk_52_method_91_code 5 = .ok (.invokestatic 414, 3) := by decide +kernel
theorem d23_8 : decode jdk_52_method_91_code 8 = .ok (.return_, 1) := by decide +kernel
abbrev own_m46 : MethodName := (⟨"java/lang/StringUTF16", "checkIndex", "(I[B)V"⟩ : MethodName)
theorem ef_rm_uci (m : MethodId) (i : Int32) (db : Addr) : entryFrame m #[(.int i), (.ref db)] 2 = mkF m 0 #[iv i, rv db] [] := by first | (simp [entryFrame, mkF, argsToLocals, Value.category]; done) | rfl
theorem pn47 : plainFor (⟨"java/lang/StringUTF16", "checkIndex", "(I[B)V"⟩ : MethodName) = true := by first | exact plainFor_of_name (by first | (simp [plainName, overriddenIn]; done) | decide +kernel) | decide +kernel
set_option maxRecDepth 65536 in
set_option maxHeartbeats 40000000 in
theorem rm_uci {l : Launch} {Z : State} {a0 : Array Value} {A : Nat → Addr} {KC : Nat → Cell} {IC : Nat → Int32} {VC : Nat → Value} (hw : ∀ d ∈ tables_1, d.before a0 Z = true) (G : own_Ctx Z A KC IC VC) (i : Int32) (db : Addr) (kb : ClassId) (bn : Int32) (M : Nat) (gs : Nat → Int32) (h0 : Heap) (O0 : Ext Z.heap h0) (prem0 : 0 ≤ i.toInt) (prem1 : i.toInt ≤ 65) (prem2 : bn.toInt = M) (prem3 : 2 * i.toInt + 1 < M) (prem4 : Arv Z h0 db kb .byte bn (own_fn M gs) (.int (0 : Int32))) :
    Ok l Z own_m46 jdk_52_method_91_code 2 none ({ frames := 2, cells := 0, slots := 0, locals := 27 } : Room) #[(.int i), (.ref db)] h0
      (fun v h L => v = none ∧ (h = h0) ∧ (L = [])) := by
  refine Ok.mk pn47 ?_
  intro p e s m below meth c T0 hx hby hml hown hnm hret hlk hZ e0 X0
  refine Go.cast (ef_rm_uci m i db) ?_
  have D := @hb _ _ hby
  have N0 := Fr.nil Z.heap.size
  have K0 : Keep h0 h0 [] := Keep.refl _ _
  obtain ⟨T121, v121, L121, X121, q121, st121⟩ := callSt X0 hx hZ (y := own_m43) hown (own_w hw (i := 116) rfl) (own_w hw (i := 117) rfl) (own_w hw (i := 26) rfl) (own_w hw (i := 118) rfl) (by decide) (rm_ulen hw G db kb bn ((own_fn M gs)) h0 O0 prem4) e0 (W := 1) (by decide) (by decide) (by decide) (by decide) (g := (mkF m 2 #[iv i, rv db] [(.ref db), (.int i)])) rfl (by rw [hml]; rfl) (argsL := [(.ref db)]) (rest := [(.int i)]) (lenOf pd45 rfl) rfl rfl (Nat.le_of_eq rfl) (D d23_2)
  obtain ⟨rfl, e121, rfl⟩ := q121
  have N121 := Fr.app N0 (Fr.nil _)
  obtain ⟨T122, v122, L122, X122, q122, st122⟩ := callSt X121 hx hZ (y := own_m38) hown (own_w hw (i := 119) rfl) (own_w hw (i := 73) rfl) (own_w hw (i := 12) rfl) (own_w hw (i := 74) rfl) (by decide) (rm_sci hw G i ((bn >>> ((1 : Int32) &&& 31)))  h0 O0 (own_nneg prem0) (own_ult prem2 prem3)) e121 (W := 0) (by decide) (by decide) (by decide) (by decide) (g := (mkF m 5 #[iv i, rv db] [(.int (bn >>> ((1 : Int32) &&& 31))), (.int i)])) rfl (by rw [hml]; rfl) (argsL := [(.int i), (.int (bn >>> ((1 : Int32) &&& 31)))]) (rest := []) (lenOf pd40 rfl) rfl rfl (Nat.le_of_eq rfl) (D d23_5)
  obtain ⟨rfl, e122, rfl⟩ := q122
  have N122 := Fr.app N121 (Fr.nil _)
  refine Go.of (T' := T122) (f' := (mkF m 8 #[iv i, rv db] [])) (fun _ k => XS.iloadN X0.here hx rfl (D d23_0) rfl (XS.aloadN X0.here hx rfl (D d23_1) rfl rfl (st121 _ (st122 _ k)))) ?_
  exact Go.retV X122 hx hlk hret (D d23_8) (by decide) (by decide) (by rw [e122]; exact ⟨rfl, rfl, by simp⟩)
theorem d22_0 : decode jdk_52_method_83_code 0 = .ok (.iload_n 1, 1) := by decide +kernel
theorem d22_1 : decode jdk_52_method_83_code 1 = .ok (.aload_n 0, 1) := by decide +kernel
theorem d22_2 : decode jdk_52_method_83_code 2 = .ok (.invokestatic 67, 3) := by decide +kernel
theorem pd48 : parseMethodDescriptor "(I[B)V" = some ⟨[.int, (.array .byte)], none⟩ := by decide +kernel
theorem d22_5 : decode jdk_52_method_83_code 5 = .ok (.aload_n 0, 1) := by decide +kernel
theorem d22_6 : decode jdk_52_method_83_code 6 = .ok (.iload_n 1, 1) := by decide +kernel
theorem d22_7 : decode jdk_52_method_83_code 7 = .ok (.invokestatic 71, 3) := by decide +kernel
theorem d22_10 : decode jdk_52_method_83_code 10 = .ok (.ireturn, 1) := by decide +kernel
abbrev own_m49 : MethodName := (⟨"java/lang/StringUTF16", "charAt", "([BI)C"⟩ : MethodName)
theorem ef_rm_uch (m : MethodId) (db : Addr) (i : Int32) : entryFrame m #[(.ref db), (.int i)] 2 = mkF m 0 #[rv db, iv i] [] := by first | (simp [entryFrame, mkF, argsToLocals, Value.category]; done) | rfl
theorem pn50 : plainFor (⟨"java/lang/StringUTF16", "charAt", "([BI)C"⟩ : MethodName) = true := by first | exact plainFor_of_name (by first | (simp [plainName, overriddenIn]; done) | decide +kernel) | decide +kernel
set_option maxRecDepth 65536 in
set_option maxHeartbeats 40000000 in
theorem rm_uch {l : Launch} {Z : State} {a0 : Array Value} {A : Nat → Addr} {KC : Nat → Cell} {IC : Nat → Int32} {VC : Nat → Value} (hw : ∀ d ∈ tables_1, d.before a0 Z = true) (G : own_Ctx Z A KC IC VC) (db : Addr) (i : Int32) (kb : ClassId) (bn : Int32) (M : Nat) (gs : Nat → Int32) (h0 : Heap) (O0 : Ext Z.heap h0) (prem0 : 0 ≤ i.toInt) (prem1 : i.toInt ≤ 65) (prem2 : bn.toInt = M) (prem3 : 2 * i.toInt + 1 < M) (prem4 : Arv Z h0 db kb .byte bn (own_fn M gs) (.int (0 : Int32))) :
    Ok l Z own_m49 jdk_52_method_83_code 2 (some .char) ({ frames := 3, cells := 0, slots := 0, locals := 40 } : Room) #[(.ref db), (.int i)] h0
      (fun v h L => v = some (.int (own_gc (gs (2 * i.toNatClampNeg)) (gs (2 * i.toNatClampNeg + 1)))) ∧ (h = h0) ∧ (L = [])) := by
  refine Ok.mk pn50 ?_
  intro p e s m below meth c T0 hx hby hml hown hnm hret hlk hZ e0 X0
  refine Go.cast (ef_rm_uch m db i) ?_
  have D := @hb _ _ hby
  have N0 := Fr.nil Z.heap.size
  have K0 : Keep h0 h0 [] := Keep.refl _ _
  obtain ⟨T123, v123, L123, X123, q123, st123⟩ := callSt X0 hx hZ (y := own_m46) hown (own_w hw (i := 113) rfl) (own_w hw (i := 114) rfl) (own_w hw (i := 26) rfl) (own_w hw (i := 115) rfl) (by decide) (rm_uci hw G i db kb bn M gs h0 O0 (prem0) (prem1) (prem2) (prem3) prem4) e0 (W := 0) (by decide) (by decide) (by decide) (by decide) (g := (mkF m 2 #[rv db, iv i] [(.ref db), (.int i)])) rfl (by rw [hml]; rfl) (argsL := [(.int i), (.ref db)]) (rest := []) (lenOf pd48 rfl) rfl rfl (Nat.le_of_eq rfl) (D d22_2)
  obtain ⟨rfl, e123, rfl⟩ := q123
  have N123 := Fr.app N0 (Fr.nil _)
  obtain ⟨T124, v124, L124, X124, q124, st124⟩ := callSt X123 hx hZ (y := own_m9) hown (own_w hw (i := 107) rfl) (own_w hw (i := 108) rfl) (own_w hw (i := 26) rfl) (own_w hw (i := 109) rfl) (by decide) (rm_gch hw G db i kb bn M gs h0 O0 (prem0) (prem1) (prem2) (prem3) prem4) e123 (W := 0) (by decide) (by decide) (by decide) (by decide) (g := (mkF m 7 #[rv db, iv i] [(.int i), (.ref db)])) rfl (by rw [hml]; rfl) (argsL := [(.ref db), (.int i)]) (rest := []) (lenOf pd17 rfl) rfl rfl (Nat.le_of_eq rfl) (D d22_7)
  obtain ⟨rfl, e124, rfl⟩ := q124
  have N124 := Fr.app N123 (Fr.nil _)
  refine Go.of (T' := T124) (f' := (mkF m 10 #[rv db, iv i] [(.int (own_gc (gs (2 * i.toNatClampNeg)) (gs (2 * i.toNatClampNeg + 1))))])) (fun _ k => XS.iloadN X0.here hx rfl (D d22_0) rfl (XS.aloadN X0.here hx rfl (D d22_1) rfl rfl (st123 _ (XS.aloadN X123.here hx rfl (D d22_5) rfl rfl (XS.iloadN X123.here hx rfl (D d22_6) rfl (st124 _ k)))))) ?_
  exact Go.retB X124 hx hlk hret (by simp) (D d22_10) (by decide) (by decide) (own_narc _) (by rw [e124]; exact ⟨rfl, rfl, by simp⟩)
theorem d10_0 : decode jdk_42_method_56_code 0 = .ok (.aload_n 0, 1) := by decide +kernel
theorem d10_1 : decode jdk_42_method_56_code 1 = .ok (.invokevirtual 492, 3) := by decide +kernel
theorem pd51 : parseMethodDescriptor "()Z" = some ⟨[], some .boolean⟩ := by decide +kernel
theorem d10_4 : decode jdk_42_method_56_code 4 = .ok (.ifCond .eq 12, 3) := by decide +kernel
theorem d10_7 : decode jdk_42_method_56_code 7 = .ok (.aload_n 0, 1) := by decide +kernel
theorem d10_8 : decode jdk_42_method_56_code 8 = .ok (.getfield 9, 3) := by decide +kernel
theorem d10_11 : decode jdk_42_method_56_code 11 = .ok (.iload_n 1, 1) := by decide +kernel
theorem d10_12 : decode jdk_42_method_56_code 12 = .ok (.invokestatic 495, 3) := by decide +kernel
theorem d10_15 : decode jdk_42_method_56_code 15 = .ok (.ireturn, 1) := by decide +kernel
theorem d10_16 : decode jdk_42_method_56_code 16 = .ok (.aload_n 0, 1) := by decide +kernel
theorem d10_17 : decode jdk_42_method_56_code 17 = .ok (.getfield 9, 3) := by decide +kernel
theorem d10_20 : decode jdk_42_method_56_code 20 = .ok (.iload_n 1, 1) := by decide +kernel
theorem d10_21 : decode jdk_42_method_56_code 21 = .ok (.invokestatic 498, 3) := by decide +kernel
theorem d10_24 : decode jdk_42_method_56_code 24 = .ok (.ireturn, 1) := by decide +kernel
abbrev own_m52 : MethodName := (⟨"java/lang/String", "charAt", "(I)C"⟩ : MethodName)
theorem ef_rm_ch (m : MethodId) (so : Addr) (i : Int32) : entryFrame m #[(.ref so), (.int i)] 2 = mkF m 0 #[rv so, iv i] [] := by first | (simp [entryFrame, mkF, argsToLocals, Value.category]; done) | rfl
theorem pn53 : plainFor (⟨"java/lang/String", "charAt", "(I)C"⟩ : MethodName) = true := by first | exact plainFor_of_name (by first | (simp [plainName, overriddenIn]; done) | decide +kernel) | decide +kernel
set_option maxRecDepth 65536 in
set_option maxHeartbeats 40000000 in
theorem rm_ch {l : Launch} {Z : State} {a0 : Array Value} {A : Nat → Addr} {KC : Nat → Cell} {IC : Nat → Int32} {VC : Nat → Value} (hw : ∀ d ∈ tables_1, d.before a0 Z = true) (G : own_Ctx Z A KC IC VC) (so : Addr) (i : Int32) (da : Addr) (kd : ClassId) (bn : Int32) (M : Nat) (gs : Nat → Int32) (cd : Int32) (n : Int32) (N : Nat) (cs : Nat → Int32) (h0 : Heap) (O0 : Ext Z.heap h0) (prem0 : ¬ (i < (0 : Int32))) (prem1 : i < n) (prem2 : n.toInt = N) (prem3 : N ≤ 65) (prem4 : ∀ j, own_ch (cs j)) (prem5 : own_k4 N cs n bn M gs cd) (prem6 : Exa Z h0 so "java/lang/String") (prem7 : Fld Z h0 so "java/lang/String" "value" "[B" (.ref da)) (prem8 : Fld Z h0 so "java/lang/String" "coder" "B" (.int cd)) (prem9 : Arv Z h0 da kd .byte bn (own_fn M gs) (.int (0 : Int32))) :
    Ok l Z own_m52 jdk_42_method_56_code 2 (some .char) ({ frames := 4, cells := 0, slots := 0, locals := 53 } : Room) #[(.ref so), (.int i)] h0
      (fun v h L => v = some (.int (cs i.toNatClampNeg)) ∧ (h = h0) ∧ (L = [])) := by
  refine Ok.mk pn53 ?_
  intro p e s m below meth c T0 hx hby hml hown hnm hret hlk hZ e0 X0
  refine Go.cast (ef_rm_ch m so i) ?_
  have D := @hb _ _ hby
  have N0 := Fr.nil Z.heap.size
  have K0 : Keep h0 h0 [] := Keep.refl _ _
  by_cases hcd : cd = 0
  · obtain ⟨e1, e2, e3⟩ := own_k40 prem5 hcd
    obtain ⟨T125, v125, L125, X125, q125, st125⟩ := callVi X0 hx hZ (y := own_m33) (z := own_m33) hown (own_w hw (i := 63) rfl) (own_w hw (i := 64) rfl) (notFace_of_selects (args := #[]) (mvT hZ (own_w hw (i := 66) rfl))) (own_w hw (i := 66) rfl) (own_w hw (i := 65) rfl) (own_w hw (i := 67) rfl) (own_w hw (i := 12) rfl) (by decide) (rm_il1 hw G so cd h0 O0 prem8 (hcd)) e0 (W := 0) (by decide) (by decide) (by decide) (by decide) prem6 (g := (mkF m 1 #[rv so, iv i] [(.ref so)])) rfl (by rw [hml]; rfl) (argsL := []) (rest := []) (lenOf pd51 rfl) rfl rfl (Nat.le_of_eq rfl) (D d10_1)
    obtain ⟨rfl, e125, rfl⟩ := q125
    have N125 := Fr.app N0 (Fr.nil _)
    obtain ⟨T127, X127, e127, st127⟩ := getF X125 hx hZ hown (host := "") (Or.inl (own_w hw (i := 37) rfl)) Via.refl e125 prem7 (g := (mkF m 8 #[rv so, iv i] [(.ref so)])) rfl rfl (D d10_8)
    obtain ⟨T128, v128, L128, X128, q128, st128⟩ := callSt X127 hx hZ (y := own_m41) hown (own_w hw (i := 68) rfl) (own_w hw (i := 69) rfl) (own_w hw (i := 70) rfl) (own_w hw (i := 71) rfl) (by decide) (rm_l1c hw G da i kd bn M gs ((cs i.toNatClampNeg)) h0 O0 (prem0) (by rw [e1]; exact prem1) prem9 (by rw [e2]; exact (own_iN prem2 prem0 prem1)) (by rw [(e3 _ (own_iN prem2 prem0 prem1)).2]; exact own_l1x (prem4 _) (e3 _ (own_iN prem2 prem0 prem1)).1)) e127 (W := 0) (by decide) (by decide) (by decide) (by decide) (g := (mkF m 12 #[rv so, iv i] [(.int i), (.ref da)])) rfl (by rw [hml]; rfl) (argsL := [(.ref da), (.int i)]) (rest := []) (lenOf pd17 rfl) rfl rfl (Nat.le_of_eq rfl) (D d10_12)
    obtain ⟨rfl, e128, rfl⟩ := q128
    have N128 := Fr.app N125 (Fr.nil _)
    refine Go.of (T' := T128) (f' := (mkF m 15 #[rv so, iv i] [(.int (cs i.toNatClampNeg))])) (fun _ k => XS.aloadN X0.here hx rfl (D d10_0) rfl rfl (st125 _ (XS.ifNo X125.here hx rfl (D d10_4) rfl ((if0 _ _).trans (feq (by decide : ¬ ((1 : Int32) = (0 : Int32)))).1) (XS.aloadN X125.here hx rfl (D d10_7) rfl rfl (st127 _ (XS.iloadN X127.here hx rfl (D d10_11) rfl (st128 _ k))))))) ?_
    exact Go.retB X128 hx hlk hret (by simp) (D d10_15) (by decide) (by decide) (own_narch (prem4 _)) (by rw [e128]; exact ⟨rfl, rfl, by simp⟩)
  · obtain ⟨e1, e2, e3⟩ := own_k41 prem5 hcd
    obtain ⟨T129, v129, L129, X129, q129, st129⟩ := callVi X0 hx hZ (y := own_m33) (z := own_m33) hown (own_w hw (i := 63) rfl) (own_w hw (i := 64) rfl) (notFace_of_selects (args := #[]) (mvT hZ (own_w hw (i := 66) rfl))) (own_w hw (i := 66) rfl) (own_w hw (i := 65) rfl) (own_w hw (i := 67) rfl) (own_w hw (i := 12) rfl) (by decide) (rm_il0 hw G so cd h0 O0 prem8 (hcd)) e0 (W := 0) (by decide) (by decide) (by decide) (by decide) prem6 (g := (mkF m 1 #[rv so, iv i] [(.ref so)])) rfl (by rw [hml]; rfl) (argsL := []) (rest := []) (lenOf pd51 rfl) rfl rfl (Nat.le_of_eq rfl) (D d10_1)
    obtain ⟨rfl, e129, rfl⟩ := q129
    have N129 := Fr.app N0 (Fr.nil _)
    obtain ⟨T131, X131, e131, st131⟩ := getF X129 hx hZ hown (host := "") (Or.inl (own_w hw (i := 37) rfl)) Via.refl e129 prem7 (g := (mkF m 17 #[rv so, iv i] [(.ref so)])) rfl rfl (D d10_17)
    obtain ⟨T132, v132, L132, X132, q132, st132⟩ := callSt X131 hx hZ (y := own_m49) hown (own_w hw (i := 110) rfl) (own_w hw (i := 111) rfl) (own_w hw (i := 26) rfl) (own_w hw (i := 112) rfl) (by decide) (rm_uch hw G da i kd bn M gs h0 O0 (own_i0 prem0) (own_i65 prem2 prem3 prem1) (by rw [e2]; exact e1) (own_i2 prem2 e2 prem1) prem9) e131 (W := 0) (by decide) (by decide) (by decide) (by decide) (g := (mkF m 21 #[rv so, iv i] [(.int i), (.ref da)])) rfl (by rw [hml]; rfl) (argsL := [(.ref da), (.int i)]) (rest := []) (lenOf pd17 rfl) rfl rfl (Nat.le_of_eq rfl) (D d10_21)
    obtain ⟨rfl, e132, rfl⟩ := q132
    have N132 := Fr.app N129 (Fr.nil _)
    refine Go.of (T' := T132) (f' := (mkF m 24 #[rv so, iv i] [(.int (own_gc (gs (2 * i.toNatClampNeg)) (gs (2 * i.toNatClampNeg + 1))))])) (fun _ k => XS.aloadN X0.here hx rfl (D d10_0) rfl rfl (st129 _ (XS.ifYes X129.here hx rfl (pc0 := 4) (pc' := 16) rfl (D d10_4) rfl ((if0 _ _).trans (teq (by decide : (0 : Int32) = (0 : Int32))).1) (by decide) (by decide) (XS.aloadN X129.here hx rfl (D d10_16) rfl rfl (st131 _ (XS.iloadN X131.here hx rfl (D d10_20) rfl (st132 _ k))))))) ?_
    exact Go.retB X132 hx hlk hret (by simp) (D d10_24) (by decide) (by decide) (z' := (cs i.toNatClampNeg)) (by rw [own_gcg prem4 e3 (own_i0 prem0) (own_iz prem2 prem1)]; exact own_narch (prem4 _)) (by rw [e132]; exact ⟨rfl, rfl, by simp⟩)
theorem d15_0 : decode prog_10_method_6_code 0 = .ok (.iload_n 0, 1) := by decide +kernel
theorem d15_1 : decode prog_10_method_6_code 1 = .ok (.bipush 97, 2) := by decide +kernel
theorem d15_3 : decode prog_10_method_6_code 3 = .ok (.if_icmp .lt 9, 3) := by decide +kernel
theorem d15_12 : decode prog_10_method_6_code 12 = .ok (.iload_n 0, 1) := by decide +kernel
theorem d15_13 : decode prog_10_method_6_code 13 = .ok (.bipush 65, 2) := by decide +kernel
theorem d15_15 : decode prog_10_method_6_code 15 = .ok (.if_icmp .lt 9, 3) := by decide +kernel
theorem d15_24 : decode prog_10_method_6_code 24 = .ok (.iload_n 0, 1) := by decide +kernel
theorem d15_25 : decode prog_10_method_6_code 25 = .ok (.bipush 48, 2) := by decide +kernel
theorem d15_27 : decode prog_10_method_6_code 27 = .ok (.if_icmp .lt 9, 3) := by decide +kernel
theorem d15_36 : decode prog_10_method_6_code 36 = .ok (.iload_n 0, 1) := by decide +kernel
theorem d15_37 : decode prog_10_method_6_code 37 = .ok (.bipush 45, 2) := by decide +kernel
theorem d15_39 : decode prog_10_method_6_code 39 = .ok (.if_icmp .ne 7, 3) := by decide +kernel
theorem d15_42 : decode prog_10_method_6_code 42 = .ok (.iconst 1, 1) := by decide +kernel
theorem d15_43 : decode prog_10_method_6_code 43 = .ok (.goto 4, 3) := by decide +kernel
theorem d15_47 : decode prog_10_method_6_code 47 = .ok (.ireturn, 1) := by decide +kernel
theorem d15_46 : decode prog_10_method_6_code 46 = .ok (.iconst 0, 1) := by decide +kernel
theorem d15_30 : decode prog_10_method_6_code 30 = .ok (.iload_n 0, 1) := by decide +kernel
theorem d15_31 : decode prog_10_method_6_code 31 = .ok (.bipush 57, 2) := by decide +kernel
theorem d15_33 : decode prog_10_method_6_code 33 = .ok (.if_icmp .le 9, 3) := by decide +kernel
theorem d15_18 : decode prog_10_method_6_code 18 = .ok (.iload_n 0, 1) := by decide +kernel
theorem d15_19 : decode prog_10_method_6_code 19 = .ok (.bipush 90, 2) := by decide +kernel
theorem d15_21 : decode prog_10_method_6_code 21 = .ok (.if_icmp .le 21, 3) := by decide +kernel
theorem d15_6 : decode prog_10_method_6_code 6 = .ok (.iload_n 0, 1) := by decide +kernel
theorem d15_7 : decode prog_10_method_6_code 7 = .ok (.bipush 122, 2) := by decide +kernel
theorem d15_9 : decode prog_10_method_6_code 9 = .ok (.if_icmp .le 33, 3) := by decide +kernel
abbrev own_m54 : MethodName := (⟨"com/example/patient_courier/patientcourier/NameRule", "isNameCharacter", "(C)Z"⟩ : MethodName)
theorem ef_rm_isn (m : MethodId) (xx : Int32) : entryFrame m #[(.int xx)] 1 = mkF m 0 #[iv xx] [] := by first | (simp [entryFrame, mkF, argsToLocals, Value.category]; done) | rfl
theorem pn55 : plainFor (⟨"com/example/patient_courier/patientcourier/NameRule", "isNameCharacter", "(C)Z"⟩ : MethodName) = true := by first | exact plainFor_of_name (by first | (simp [plainName, overriddenIn]; done) | decide +kernel) | decide +kernel
set_option maxRecDepth 65536 in
set_option maxHeartbeats 40000000 in
theorem rm_isn {l : Launch} {Z : State} {a0 : Array Value} {A : Nat → Addr} {KC : Nat → Cell} {IC : Nat → Int32} {VC : Nat → Value} (hw : ∀ d ∈ tables_1, d.before a0 Z = true) (G : own_Ctx Z A KC IC VC) (xx : Int32)  (h0 : Heap) (O0 : Ext Z.heap h0)  :
    Ok l Z own_m54 prog_10_method_6_code 1 (some .boolean) ({ frames := 0, cells := 0, slots := 0, locals := 0 } : Room) #[(.int xx)] h0
      (fun v h L => v = some (.int (own_nm xx)) ∧ (h = h0) ∧ (L = [])) := by
  refine Ok.mk pn55 ?_
  intro p e s m below meth c T0 hx hby hml hown hnm hret hlk hZ e0 X0
  refine Go.cast (ef_rm_isn m xx) ?_
  have D := @hb _ _ hby
  have N0 := Fr.nil Z.heap.size
  have K0 : Keep h0 h0 [] := Keep.refl _ _
  refine Go.of (T' := T0) (f' := (mkF m 3 #[iv xx] [(.int 97), (.int xx)])) (fun _ k => XS.iloadN X0.here hx rfl (D d15_0) rfl (XS.bipush X0.here hx rfl (D d15_1) k)) ?_
  by_cases hc133 : xx < (97 : Int32)
  · skip
    refine Go.of (T' := T0) (f' := (mkF m 15 #[iv xx] [(.int 65), (.int xx)])) (fun _ k => XS.icmpYes X0.here hx rfl (pc0 := 3) (pc' := 12) rfl (D d15_3) rfl (tlt hc133).1 (by decide) (by decide) (XS.iloadN X0.here hx rfl (D d15_12) rfl (XS.bipush X0.here hx rfl (D d15_13) k))) ?_
    by_cases hc134 : xx < (65 : Int32)
    · skip
      refine Go.of (T' := T0) (f' := (mkF m 27 #[iv xx] [(.int 48), (.int xx)])) (fun _ k => XS.icmpYes X0.here hx rfl (pc0 := 15) (pc' := 24) rfl (D d15_15) rfl (tlt hc134).1 (by decide) (by decide) (XS.iloadN X0.here hx rfl (D d15_24) rfl (XS.bipush X0.here hx rfl (D d15_25) k))) ?_
      by_cases hc135 : xx < (48 : Int32)
      · skip
        refine Go.of (T' := T0) (f' := (mkF m 39 #[iv xx] [(.int 45), (.int xx)])) (fun _ k => XS.icmpYes X0.here hx rfl (pc0 := 27) (pc' := 36) rfl (D d15_27) rfl (tlt hc135).1 (by decide) (by decide) (XS.iloadN X0.here hx rfl (D d15_36) rfl (XS.bipush X0.here hx rfl (D d15_37) k))) ?_
        by_cases hc136 : xx = (45 : Int32)
        · skip
          refine Go.of (T' := T0) (f' := (mkF m 47 #[iv xx] [(.int 1)])) (fun _ k => XS.icmpNo X0.here hx rfl (D d15_39) rfl (teq hc136).2 (XS.iconst X0.here hx rfl (D d15_42) (XS.goto X0.here hx rfl (pc0 := 43) (pc' := 47) rfl (D d15_43) (by decide) (by decide) k))) ?_
          exact Go.retB X0 hx hlk hret (by simp) (D d15_47) (by decide) (by decide) (z' := (1 : Int32)) rfl (by rw [e0]; exact ⟨congrArg (fun z => some (Value.int z)) (own_nm1 (Or.inr (Or.inr (Or.inr hc136)))), rfl, by simp⟩)
        · skip
          refine Go.of (T' := T0) (f' := (mkF m 47 #[iv xx] [(.int 0)])) (fun _ k => XS.icmpYes X0.here hx rfl (pc0 := 39) (pc' := 46) rfl (D d15_39) rfl (feq hc136).2 (by decide) (by decide) (XS.iconst X0.here hx rfl (D d15_46) k)) ?_
          exact Go.retB X0 hx hlk hret (by simp) (D d15_47) (by decide) (by decide) (z' := (0 : Int32)) rfl (by rw [e0]; exact ⟨congrArg (fun z => some (Value.int z)) (own_nmz (fun q => q.elim (fun z => z.1 hc133) (fun q => q.elim (fun z => z.1 hc134) (fun q => q.elim (fun z => z.1 hc135) (fun z => hc136 z))))), rfl, by simp⟩)
      · skip
        refine Go.of (T' := T0) (f' := (mkF m 33 #[iv xx] [(.int 57), (.int xx)])) (fun _ k => XS.icmpNo X0.here hx rfl (D d15_27) rfl (flt hc135).1 (XS.iloadN X0.here hx rfl (D d15_30) rfl (XS.bipush X0.here hx rfl (D d15_31) k))) ?_
        by_cases hc137 : (57 : Int32) < xx
        · skip
          refine Go.of (T' := T0) (f' := (mkF m 39 #[iv xx] [(.int 45), (.int xx)])) (fun _ k => XS.icmpNo X0.here hx rfl (D d15_33) rfl (tlt hc137).2.2.2 (XS.iloadN X0.here hx rfl (D d15_36) rfl (XS.bipush X0.here hx rfl (D d15_37) k))) ?_
          by_cases hc138 : xx = (45 : Int32)
          · skip
            refine Go.of (T' := T0) (f' := (mkF m 47 #[iv xx] [(.int 1)])) (fun _ k => XS.icmpNo X0.here hx rfl (D d15_39) rfl (teq hc138).2 (XS.iconst X0.here hx rfl (D d15_42) (XS.goto X0.here hx rfl (pc0 := 43) (pc' := 47) rfl (D d15_43) (by decide) (by decide) k))) ?_
            exact Go.retB X0 hx hlk hret (by simp) (D d15_47) (by decide) (by decide) (z' := (1 : Int32)) rfl (by rw [e0]; exact ⟨congrArg (fun z => some (Value.int z)) (own_nm1 (Or.inr (Or.inr (Or.inr hc138)))), rfl, by simp⟩)
          · skip
            refine Go.of (T' := T0) (f' := (mkF m 47 #[iv xx] [(.int 0)])) (fun _ k => XS.icmpYes X0.here hx rfl (pc0 := 39) (pc' := 46) rfl (D d15_39) rfl (feq hc138).2 (by decide) (by decide) (XS.iconst X0.here hx rfl (D d15_46) k)) ?_
            exact Go.retB X0 hx hlk hret (by simp) (D d15_47) (by decide) (by decide) (z' := (0 : Int32)) rfl (by rw [e0]; exact ⟨congrArg (fun z => some (Value.int z)) (own_nmz (fun q => q.elim (fun z => z.1 hc133) (fun q => q.elim (fun z => z.1 hc134) (fun q => q.elim (fun z => z.2 hc137) (fun z => hc138 z))))), rfl, by simp⟩)
        · skip
          refine Go.of (T' := T0) (f' := (mkF m 47 #[iv xx] [(.int 1)])) (fun _ k => XS.icmpYes X0.here hx rfl (pc0 := 33) (pc' := 42) rfl (D d15_33) rfl (flt hc137).2.2.2 (by decide) (by decide) (XS.iconst X0.here hx rfl (D d15_42) (XS.goto X0.here hx rfl (pc0 := 43) (pc' := 47) rfl (D d15_43) (by decide) (by decide) k))) ?_
          exact Go.retB X0 hx hlk hret (by simp) (D d15_47) (by decide) (by decide) (z' := (1 : Int32)) rfl (by rw [e0]; exact ⟨congrArg (fun z => some (Value.int z)) (own_nm1 (Or.inr (Or.inr (Or.inl ⟨hc135, hc137⟩)))), rfl, by simp⟩)
    · skip
      refine Go.of (T' := T0) (f' := (mkF m 21 #[iv xx] [(.int 90), (.int xx)])) (fun _ k => XS.icmpNo X0.here hx rfl (D d15_15) rfl (flt hc134).1 (XS.iloadN X0.here hx rfl (D d15_18) rfl (XS.bipush X0.here hx rfl (D d15_19) k))) ?_
      by_cases hc139 : (90 : Int32) < xx
      · skip
        refine Go.of (T' := T0) (f' := (mkF m 27 #[iv xx] [(.int 48), (.int xx)])) (fun _ k => XS.icmpNo X0.here hx rfl (D d15_21) rfl (tlt hc139).2.2.2 (XS.iloadN X0.here hx rfl (D d15_24) rfl (XS.bipush X0.here hx rfl (D d15_25) k))) ?_
        by_cases hc140 : xx < (48 : Int32)
        · skip
          refine Go.of (T' := T0) (f' := (mkF m 39 #[iv xx] [(.int 45), (.int xx)])) (fun _ k => XS.icmpYes X0.here hx rfl (pc0 := 27) (pc' := 36) rfl (D d15_27) rfl (tlt hc140).1 (by decide) (by decide) (XS.iloadN X0.here hx rfl (D d15_36) rfl (XS.bipush X0.here hx rfl (D d15_37) k))) ?_
          by_cases hc141 : xx = (45 : Int32)
          · skip
            refine Go.of (T' := T0) (f' := (mkF m 47 #[iv xx] [(.int 1)])) (fun _ k => XS.icmpNo X0.here hx rfl (D d15_39) rfl (teq hc141).2 (XS.iconst X0.here hx rfl (D d15_42) (XS.goto X0.here hx rfl (pc0 := 43) (pc' := 47) rfl (D d15_43) (by decide) (by decide) k))) ?_
            exact Go.retB X0 hx hlk hret (by simp) (D d15_47) (by decide) (by decide) (z' := (1 : Int32)) rfl (by rw [e0]; exact ⟨congrArg (fun z => some (Value.int z)) (own_nm1 (Or.inr (Or.inr (Or.inr hc141)))), rfl, by simp⟩)
          · skip
            refine Go.of (T' := T0) (f' := (mkF m 47 #[iv xx] [(.int 0)])) (fun _ k => XS.icmpYes X0.here hx rfl (pc0 := 39) (pc' := 46) rfl (D d15_39) rfl (feq hc141).2 (by decide) (by decide) (XS.iconst X0.here hx rfl (D d15_46) k)) ?_
            exact Go.retB X0 hx hlk hret (by simp) (D d15_47) (by decide) (by decide) (z' := (0 : Int32)) rfl (by rw [e0]; exact ⟨congrArg (fun z => some (Value.int z)) (own_nmz (fun q => q.elim (fun z => z.1 hc133) (fun q => q.elim (fun z => z.2 hc139) (fun q => q.elim (fun z => z.1 hc140) (fun z => hc141 z))))), rfl, by simp⟩)
        · skip
          refine Go.of (T' := T0) (f' := (mkF m 33 #[iv xx] [(.int 57), (.int xx)])) (fun _ k => XS.icmpNo X0.here hx rfl (D d15_27) rfl (flt hc140).1 (XS.iloadN X0.here hx rfl (D d15_30) rfl (XS.bipush X0.here hx rfl (D d15_31) k))) ?_
          by_cases hc142 : (57 : Int32) < xx
          · skip
            refine Go.of (T' := T0) (f' := (mkF m 39 #[iv xx] [(.int 45), (.int xx)])) (fun _ k => XS.icmpNo X0.here hx rfl (D d15_33) rfl (tlt hc142).2.2.2 (XS.iloadN X0.here hx rfl (D d15_36) rfl (XS.bipush X0.here hx rfl (D d15_37) k))) ?_
            by_cases hc143 : xx = (45 : Int32)
            · skip
              refine Go.of (T' := T0) (f' := (mkF m 47 #[iv xx] [(.int 1)])) (fun _ k => XS.icmpNo X0.here hx rfl (D d15_39) rfl (teq hc143).2 (XS.iconst X0.here hx rfl (D d15_42) (XS.goto X0.here hx rfl (pc0 := 43) (pc' := 47) rfl (D d15_43) (by decide) (by decide) k))) ?_
              exact Go.retB X0 hx hlk hret (by simp) (D d15_47) (by decide) (by decide) (z' := (1 : Int32)) rfl (by rw [e0]; exact ⟨congrArg (fun z => some (Value.int z)) (own_nm1 (Or.inr (Or.inr (Or.inr hc143)))), rfl, by simp⟩)
            · skip
              refine Go.of (T' := T0) (f' := (mkF m 47 #[iv xx] [(.int 0)])) (fun _ k => XS.icmpYes X0.here hx rfl (pc0 := 39) (pc' := 46) rfl (D d15_39) rfl (feq hc143).2 (by decide) (by decide) (XS.iconst X0.here hx rfl (D d15_46) k)) ?_
              exact Go.retB X0 hx hlk hret (by simp) (D d15_47) (by decide) (by decide) (z' := (0 : Int32)) rfl (by rw [e0]; exact ⟨congrArg (fun z => some (Value.int z)) (own_nmz (fun q => q.elim (fun z => z.1 hc133) (fun q => q.elim (fun z => z.2 hc139) (fun q => q.elim (fun z => z.2 hc142) (fun z => hc143 z))))), rfl, by simp⟩)
          · skip
            refine Go.of (T' := T0) (f' := (mkF m 47 #[iv xx] [(.int 1)])) (fun _ k => XS.icmpYes X0.here hx rfl (pc0 := 33) (pc' := 42) rfl (D d15_33) rfl (flt hc142).2.2.2 (by decide) (by decide) (XS.iconst X0.here hx rfl (D d15_42) (XS.goto X0.here hx rfl (pc0 := 43) (pc' := 47) rfl (D d15_43) (by decide) (by decide) k))) ?_
            exact Go.retB X0 hx hlk hret (by simp) (D d15_47) (by decide) (by decide) (z' := (1 : Int32)) rfl (by rw [e0]; exact ⟨congrArg (fun z => some (Value.int z)) (own_nm1 (Or.inr (Or.inr (Or.inl ⟨hc140, hc142⟩)))), rfl, by simp⟩)
      · skip
        refine Go.of (T' := T0) (f' := (mkF m 47 #[iv xx] [(.int 1)])) (fun _ k => XS.icmpYes X0.here hx rfl (pc0 := 21) (pc' := 42) rfl (D d15_21) rfl (flt hc139).2.2.2 (by decide) (by decide) (XS.iconst X0.here hx rfl (D d15_42) (XS.goto X0.here hx rfl (pc0 := 43) (pc' := 47) rfl (D d15_43) (by decide) (by decide) k))) ?_
        exact Go.retB X0 hx hlk hret (by simp) (D d15_47) (by decide) (by decide) (z' := (1 : Int32)) rfl (by rw [e0]; exact ⟨congrArg (fun z => some (Value.int z)) (own_nm1 (Or.inr (Or.inl ⟨hc134, hc139⟩))), rfl, by simp⟩)
  · skip
    refine Go.of (T' := T0) (f' := (mkF m 9 #[iv xx] [(.int 122), (.int xx)])) (fun _ k => XS.icmpNo X0.here hx rfl (D d15_3) rfl (flt hc133).1 (XS.iloadN X0.here hx rfl (D d15_6) rfl (XS.bipush X0.here hx rfl (D d15_7) k))) ?_
    by_cases hc144 : (122 : Int32) < xx
    · skip
      refine Go.of (T' := T0) (f' := (mkF m 15 #[iv xx] [(.int 65), (.int xx)])) (fun _ k => XS.icmpNo X0.here hx rfl (D d15_9) rfl (tlt hc144).2.2.2 (XS.iloadN X0.here hx rfl (D d15_12) rfl (XS.bipush X0.here hx rfl (D d15_13) k))) ?_
      by_cases hc145 : xx < (65 : Int32)
      · skip
        refine Go.of (T' := T0) (f' := (mkF m 27 #[iv xx] [(.int 48), (.int xx)])) (fun _ k => XS.icmpYes X0.here hx rfl (pc0 := 15) (pc' := 24) rfl (D d15_15) rfl (tlt hc145).1 (by decide) (by decide) (XS.iloadN X0.here hx rfl (D d15_24) rfl (XS.bipush X0.here hx rfl (D d15_25) k))) ?_
        by_cases hc146 : xx < (48 : Int32)
        · skip
          refine Go.of (T' := T0) (f' := (mkF m 39 #[iv xx] [(.int 45), (.int xx)])) (fun _ k => XS.icmpYes X0.here hx rfl (pc0 := 27) (pc' := 36) rfl (D d15_27) rfl (tlt hc146).1 (by decide) (by decide) (XS.iloadN X0.here hx rfl (D d15_36) rfl (XS.bipush X0.here hx rfl (D d15_37) k))) ?_
          by_cases hc147 : xx = (45 : Int32)
          · skip
            refine Go.of (T' := T0) (f' := (mkF m 47 #[iv xx] [(.int 1)])) (fun _ k => XS.icmpNo X0.here hx rfl (D d15_39) rfl (teq hc147).2 (XS.iconst X0.here hx rfl (D d15_42) (XS.goto X0.here hx rfl (pc0 := 43) (pc' := 47) rfl (D d15_43) (by decide) (by decide) k))) ?_
            exact Go.retB X0 hx hlk hret (by simp) (D d15_47) (by decide) (by decide) (z' := (1 : Int32)) rfl (by rw [e0]; exact ⟨congrArg (fun z => some (Value.int z)) (own_nm1 (Or.inr (Or.inr (Or.inr hc147)))), rfl, by simp⟩)
          · skip
            refine Go.of (T' := T0) (f' := (mkF m 47 #[iv xx] [(.int 0)])) (fun _ k => XS.icmpYes X0.here hx rfl (pc0 := 39) (pc' := 46) rfl (D d15_39) rfl (feq hc147).2 (by decide) (by decide) (XS.iconst X0.here hx rfl (D d15_46) k)) ?_
            exact Go.retB X0 hx hlk hret (by simp) (D d15_47) (by decide) (by decide) (z' := (0 : Int32)) rfl (by rw [e0]; exact ⟨congrArg (fun z => some (Value.int z)) (own_nmz (fun q => q.elim (fun z => z.2 hc144) (fun q => q.elim (fun z => z.1 hc145) (fun q => q.elim (fun z => z.1 hc146) (fun z => hc147 z))))), rfl, by simp⟩)
        · skip
          refine Go.of (T' := T0) (f' := (mkF m 33 #[iv xx] [(.int 57), (.int xx)])) (fun _ k => XS.icmpNo X0.here hx rfl (D d15_27) rfl (flt hc146).1 (XS.iloadN X0.here hx rfl (D d15_30) rfl (XS.bipush X0.here hx rfl (D d15_31) k))) ?_
          by_cases hc148 : (57 : Int32) < xx
          · skip
            refine Go.of (T' := T0) (f' := (mkF m 39 #[iv xx] [(.int 45), (.int xx)])) (fun _ k => XS.icmpNo X0.here hx rfl (D d15_33) rfl (tlt hc148).2.2.2 (XS.iloadN X0.here hx rfl (D d15_36) rfl (XS.bipush X0.here hx rfl (D d15_37) k))) ?_
            by_cases hc149 : xx = (45 : Int32)
            · skip
              refine Go.of (T' := T0) (f' := (mkF m 47 #[iv xx] [(.int 1)])) (fun _ k => XS.icmpNo X0.here hx rfl (D d15_39) rfl (teq hc149).2 (XS.iconst X0.here hx rfl (D d15_42) (XS.goto X0.here hx rfl (pc0 := 43) (pc' := 47) rfl (D d15_43) (by decide) (by decide) k))) ?_
              exact Go.retB X0 hx hlk hret (by simp) (D d15_47) (by decide) (by decide) (z' := (1 : Int32)) rfl (by rw [e0]; exact ⟨congrArg (fun z => some (Value.int z)) (own_nm1 (Or.inr (Or.inr (Or.inr hc149)))), rfl, by simp⟩)
            · skip
              refine Go.of (T' := T0) (f' := (mkF m 47 #[iv xx] [(.int 0)])) (fun _ k => XS.icmpYes X0.here hx rfl (pc0 := 39) (pc' := 46) rfl (D d15_39) rfl (feq hc149).2 (by decide) (by decide) (XS.iconst X0.here hx rfl (D d15_46) k)) ?_
              exact Go.retB X0 hx hlk hret (by simp) (D d15_47) (by decide) (by decide) (z' := (0 : Int32)) rfl (by rw [e0]; exact ⟨congrArg (fun z => some (Value.int z)) (own_nmz (fun q => q.elim (fun z => z.2 hc144) (fun q => q.elim (fun z => z.1 hc145) (fun q => q.elim (fun z => z.2 hc148) (fun z => hc149 z))))), rfl, by simp⟩)
          · skip
            refine Go.of (T' := T0) (f' := (mkF m 47 #[iv xx] [(.int 1)])) (fun _ k => XS.icmpYes X0.here hx rfl (pc0 := 33) (pc' := 42) rfl (D d15_33) rfl (flt hc148).2.2.2 (by decide) (by decide) (XS.iconst X0.here hx rfl (D d15_42) (XS.goto X0.here hx rfl (pc0 := 43) (pc' := 47) rfl (D d15_43) (by decide) (by decide) k))) ?_
            exact Go.retB X0 hx hlk hret (by simp) (D d15_47) (by decide) (by decide) (z' := (1 : Int32)) rfl (by rw [e0]; exact ⟨congrArg (fun z => some (Value.int z)) (own_nm1 (Or.inr (Or.inr (Or.inl ⟨hc146, hc148⟩)))), rfl, by simp⟩)
      · skip
        refine Go.of (T' := T0) (f' := (mkF m 21 #[iv xx] [(.int 90), (.int xx)])) (fun _ k => XS.icmpNo X0.here hx rfl (D d15_15) rfl (flt hc145).1 (XS.iloadN X0.here hx rfl (D d15_18) rfl (XS.bipush X0.here hx rfl (D d15_19) k))) ?_
        by_cases hc150 : (90 : Int32) < xx
        · skip
          refine Go.of (T' := T0) (f' := (mkF m 27 #[iv xx] [(.int 48), (.int xx)])) (fun _ k => XS.icmpNo X0.here hx rfl (D d15_21) rfl (tlt hc150).2.2.2 (XS.iloadN X0.here hx rfl (D d15_24) rfl (XS.bipush X0.here hx rfl (D d15_25) k))) ?_
          by_cases hc151 : xx < (48 : Int32)
          · skip
            refine Go.of (T' := T0) (f' := (mkF m 39 #[iv xx] [(.int 45), (.int xx)])) (fun _ k => XS.icmpYes X0.here hx rfl (pc0 := 27) (pc' := 36) rfl (D d15_27) rfl (tlt hc151).1 (by decide) (by decide) (XS.iloadN X0.here hx rfl (D d15_36) rfl (XS.bipush X0.here hx rfl (D d15_37) k))) ?_
            by_cases hc152 : xx = (45 : Int32)
            · skip
              refine Go.of (T' := T0) (f' := (mkF m 47 #[iv xx] [(.int 1)])) (fun _ k => XS.icmpNo X0.here hx rfl (D d15_39) rfl (teq hc152).2 (XS.iconst X0.here hx rfl (D d15_42) (XS.goto X0.here hx rfl (pc0 := 43) (pc' := 47) rfl (D d15_43) (by decide) (by decide) k))) ?_
              exact Go.retB X0 hx hlk hret (by simp) (D d15_47) (by decide) (by decide) (z' := (1 : Int32)) rfl (by rw [e0]; exact ⟨congrArg (fun z => some (Value.int z)) (own_nm1 (Or.inr (Or.inr (Or.inr hc152)))), rfl, by simp⟩)
            · skip
              refine Go.of (T' := T0) (f' := (mkF m 47 #[iv xx] [(.int 0)])) (fun _ k => XS.icmpYes X0.here hx rfl (pc0 := 39) (pc' := 46) rfl (D d15_39) rfl (feq hc152).2 (by decide) (by decide) (XS.iconst X0.here hx rfl (D d15_46) k)) ?_
              exact Go.retB X0 hx hlk hret (by simp) (D d15_47) (by decide) (by decide) (z' := (0 : Int32)) rfl (by rw [e0]; exact ⟨congrArg (fun z => some (Value.int z)) (own_nmz (fun q => q.elim (fun z => z.2 hc144) (fun q => q.elim (fun z => z.2 hc150) (fun q => q.elim (fun z => z.1 hc151) (fun z => hc152 z))))), rfl, by simp⟩)
          · skip
            refine Go.of (T' := T0) (f' := (mkF m 33 #[iv xx] [(.int 57), (.int xx)])) (fun _ k => XS.icmpNo X0.here hx rfl (D d15_27) rfl (flt hc151).1 (XS.iloadN X0.here hx rfl (D d15_30) rfl (XS.bipush X0.here hx rfl (D d15_31) k))) ?_
            by_cases hc153 : (57 : Int32) < xx
            · skip
              refine Go.of (T' := T0) (f' := (mkF m 39 #[iv xx] [(.int 45), (.int xx)])) (fun _ k => XS.icmpNo X0.here hx rfl (D d15_33) rfl (tlt hc153).2.2.2 (XS.iloadN X0.here hx rfl (D d15_36) rfl (XS.bipush X0.here hx rfl (D d15_37) k))) ?_
              by_cases hc154 : xx = (45 : Int32)
              · skip
                refine Go.of (T' := T0) (f' := (mkF m 47 #[iv xx] [(.int 1)])) (fun _ k => XS.icmpNo X0.here hx rfl (D d15_39) rfl (teq hc154).2 (XS.iconst X0.here hx rfl (D d15_42) (XS.goto X0.here hx rfl (pc0 := 43) (pc' := 47) rfl (D d15_43) (by decide) (by decide) k))) ?_
                exact Go.retB X0 hx hlk hret (by simp) (D d15_47) (by decide) (by decide) (z' := (1 : Int32)) rfl (by rw [e0]; exact ⟨congrArg (fun z => some (Value.int z)) (own_nm1 (Or.inr (Or.inr (Or.inr hc154)))), rfl, by simp⟩)
              · skip
                refine Go.of (T' := T0) (f' := (mkF m 47 #[iv xx] [(.int 0)])) (fun _ k => XS.icmpYes X0.here hx rfl (pc0 := 39) (pc' := 46) rfl (D d15_39) rfl (feq hc154).2 (by decide) (by decide) (XS.iconst X0.here hx rfl (D d15_46) k)) ?_
                exact Go.retB X0 hx hlk hret (by simp) (D d15_47) (by decide) (by decide) (z' := (0 : Int32)) rfl (by rw [e0]; exact ⟨congrArg (fun z => some (Value.int z)) (own_nmz (fun q => q.elim (fun z => z.2 hc144) (fun q => q.elim (fun z => z.2 hc150) (fun q => q.elim (fun z => z.2 hc153) (fun z => hc154 z))))), rfl, by simp⟩)
            · skip
              refine Go.of (T' := T0) (f' := (mkF m 47 #[iv xx] [(.int 1)])) (fun _ k => XS.icmpYes X0.here hx rfl (pc0 := 33) (pc' := 42) rfl (D d15_33) rfl (flt hc153).2.2.2 (by decide) (by decide) (XS.iconst X0.here hx rfl (D d15_42) (XS.goto X0.here hx rfl (pc0 := 43) (pc' := 47) rfl (D d15_43) (by decide) (by decide) k))) ?_
              exact Go.retB X0 hx hlk hret (by simp) (D d15_47) (by decide) (by decide) (z' := (1 : Int32)) rfl (by rw [e0]; exact ⟨congrArg (fun z => some (Value.int z)) (own_nm1 (Or.inr (Or.inr (Or.inl ⟨hc151, hc153⟩)))), rfl, by simp⟩)
        · skip
          refine Go.of (T' := T0) (f' := (mkF m 47 #[iv xx] [(.int 1)])) (fun _ k => XS.icmpYes X0.here hx rfl (pc0 := 21) (pc' := 42) rfl (D d15_21) rfl (flt hc150).2.2.2 (by decide) (by decide) (XS.iconst X0.here hx rfl (D d15_42) (XS.goto X0.here hx rfl (pc0 := 43) (pc' := 47) rfl (D d15_43) (by decide) (by decide) k))) ?_
          exact Go.retB X0 hx hlk hret (by simp) (D d15_47) (by decide) (by decide) (z' := (1 : Int32)) rfl (by rw [e0]; exact ⟨congrArg (fun z => some (Value.int z)) (own_nm1 (Or.inr (Or.inl ⟨hc145, hc150⟩))), rfl, by simp⟩)
    · skip
      refine Go.of (T' := T0) (f' := (mkF m 47 #[iv xx] [(.int 1)])) (fun _ k => XS.icmpYes X0.here hx rfl (pc0 := 9) (pc' := 42) rfl (D d15_9) rfl (flt hc144).2.2.2 (by decide) (by decide) (XS.iconst X0.here hx rfl (D d15_42) (XS.goto X0.here hx rfl (pc0 := 43) (pc' := 47) rfl (D d15_43) (by decide) (by decide) k))) ?_
      exact Go.retB X0 hx hlk hret (by simp) (D d15_47) (by decide) (by decide) (z' := (1 : Int32)) rfl (by rw [e0]; exact ⟨congrArg (fun z => some (Value.int z)) (own_nm1 (Or.inl ⟨hc133, hc144⟩)), rfl, by simp⟩)
theorem d16_0 : decode method_3_code 0 = .ok (.iload_n 0, 1) := by decide +kernel
theorem d16_1 : decode method_3_code 1 = .ok (.bipush 45, 2) := by decide +kernel
theorem d16_3 : decode method_3_code 3 = .ok (.if_icmp .ne 5, 3) := by decide +kernel
theorem d16_6 : decode method_3_code 6 = .ok (.iconst 1, 1) := by decide +kernel
theorem d16_7 : decode method_3_code 7 = .ok (.ireturn, 1) := by decide +kernel
theorem d16_8 : decode method_3_code 8 = .ok (.bipush 48, 2) := by decide +kernel
theorem d16_10 : decode method_3_code 10 = .ok (.iload_n 0, 1) := by decide +kernel
theorem d16_11 : decode method_3_code 11 = .ok (.if_icmp .gt 11, 3) := by decide +kernel
theorem d16_22 : decode method_3_code 22 = .ok (.bipush 65, 2) := by decide +kernel
theorem d16_24 : decode method_3_code 24 = .ok (.iload_n 0, 1) := by decide +kernel
theorem d16_25 : decode method_3_code 25 = .ok (.if_icmp .gt 11, 3) := by decide +kernel
theorem d16_36 : decode method_3_code 36 = .ok (.bipush 97, 2) := by decide +kernel
theorem d16_38 : decode method_3_code 38 = .ok (.iload_n 0, 1) := by decide +kernel
theorem d16_39 : decode method_3_code 39 = .ok (.if_icmp .gt 13, 3) := by decide +kernel
theorem d16_52 : decode method_3_code 52 = .ok (.iconst 0, 1) := by decide +kernel
theorem d16_53 : decode method_3_code 53 = .ok (.ireturn, 1) := by decide +kernel
theorem d16_42 : decode method_3_code 42 = .ok (.iload_n 0, 1) := by decide +kernel
theorem d16_43 : decode method_3_code 43 = .ok (.bipush 122, 2) := by decide +kernel
theorem d16_45 : decode method_3_code 45 = .ok (.if_icmp .gt 7, 3) := by decide +kernel
theorem d16_48 : decode method_3_code 48 = .ok (.iconst 1, 1) := by decide +kernel
theorem d16_49 : decode method_3_code 49 = .ok (.goto 4, 3) := by decide +kernel
theorem d16_28 : decode method_3_code 28 = .ok (.iload_n 0, 1) := by decide +kernel
theorem d16_29 : decode method_3_code 29 = .ok (.bipush 90, 2) := by decide +kernel
theorem d16_31 : decode method_3_code 31 = .ok (.if_icmp .gt 5, 3) := by decide +kernel
theorem d16_34 : decode method_3_code 34 = .ok (.iconst 1, 1) := by decide +kernel
theorem d16_35 : decode method_3_code 35 = .ok (.ireturn, 1) := by decide +kernel
theorem d16_14 : decode method_3_code 14 = .ok (.iload_n 0, 1) := by decide +kernel
theorem d16_15 : decode method_3_code 15 = .ok (.bipush 57, 2) := by decide +kernel
theorem d16_17 : decode method_3_code 17 = .ok (.if_icmp .gt 5, 3) := by decide +kernel
theorem d16_20 : decode method_3_code 20 = .ok (.iconst 1, 1) := by decide +kernel
theorem d16_21 : decode method_3_code 21 = .ok (.ireturn, 1) := by decide +kernel
abbrev own_m56 : MethodName := (⟨"com/example/patient_courier/patientcourier/NameRuleAcceptsPinLaw", "nameChar", "(C)Z"⟩ : MethodName)
theorem ef_rm_nc (m : MethodId) (xx : Int32) : entryFrame m #[(.int xx)] 1 = mkF m 0 #[iv xx] [] := by first | (simp [entryFrame, mkF, argsToLocals, Value.category]; done) | rfl
theorem pn57 : plainFor (⟨"com/example/patient_courier/patientcourier/NameRuleAcceptsPinLaw", "nameChar", "(C)Z"⟩ : MethodName) = true := by first | exact plainFor_of_name (by first | (simp [plainName, overriddenIn]; done) | decide +kernel) | decide +kernel
set_option maxRecDepth 65536 in
set_option maxHeartbeats 40000000 in
theorem rm_nc {l : Launch} {Z : State} {a0 : Array Value} {A : Nat → Addr} {KC : Nat → Cell} {IC : Nat → Int32} {VC : Nat → Value} (hw : ∀ d ∈ tables_1, d.before a0 Z = true) (G : own_Ctx Z A KC IC VC) (xx : Int32)  (h0 : Heap) (O0 : Ext Z.heap h0)  :
    Ok l Z own_m56 method_3_code 1 (some .boolean) ({ frames := 0, cells := 0, slots := 0, locals := 0 } : Room) #[(.int xx)] h0
      (fun v h L => v = some (.int (own_nm xx)) ∧ (h = h0) ∧ (L = [])) := by
  refine Ok.mk pn57 ?_
  intro p e s m below meth c T0 hx hby hml hown hnm hret hlk hZ e0 X0
  refine Go.cast (ef_rm_nc m xx) ?_
  have D := @hb _ _ hby
  have N0 := Fr.nil Z.heap.size
  have K0 : Keep h0 h0 [] := Keep.refl _ _
  refine Go.of (T' := T0) (f' := (mkF m 3 #[iv xx] [(.int 45), (.int xx)])) (fun _ k => XS.iloadN X0.here hx rfl (D d16_0) rfl (XS.bipush X0.here hx rfl (D d16_1) k)) ?_
  by_cases hc155 : xx = (45 : Int32)
  · skip
    refine Go.of (T' := T0) (f' := (mkF m 7 #[iv xx] [(.int 1)])) (fun _ k => XS.icmpNo X0.here hx rfl (D d16_3) rfl (teq hc155).2 (XS.iconst X0.here hx rfl (D d16_6) k)) ?_
    exact Go.retB X0 hx hlk hret (by simp) (D d16_7) (by decide) (by decide) (z' := (1 : Int32)) rfl (by rw [e0]; exact ⟨congrArg (fun z => some (Value.int z)) (own_nm1 (Or.inr (Or.inr (Or.inr hc155)))), rfl, by simp⟩)
  · skip
    refine Go.of (T' := T0) (f' := (mkF m 11 #[iv xx] [(.int xx), (.int 48)])) (fun _ k => XS.icmpYes X0.here hx rfl (pc0 := 3) (pc' := 8) rfl (D d16_3) rfl (feq hc155).2 (by decide) (by decide) (XS.bipush X0.here hx rfl (D d16_8) (XS.iloadN X0.here hx rfl (D d16_10) rfl k))) ?_
    by_cases hc156 : xx < (48 : Int32)
    · skip
      refine Go.of (T' := T0) (f' := (mkF m 25 #[iv xx] [(.int xx), (.int 65)])) (fun _ k => XS.icmpYes X0.here hx rfl (pc0 := 11) (pc' := 22) rfl (D d16_11) rfl (tlt hc156).2.2.1 (by decide) (by decide) (XS.bipush X0.here hx rfl (D d16_22) (XS.iloadN X0.here hx rfl (D d16_24) rfl k))) ?_
      by_cases hc157 : xx < (65 : Int32)
      · skip
        refine Go.of (T' := T0) (f' := (mkF m 39 #[iv xx] [(.int xx), (.int 97)])) (fun _ k => XS.icmpYes X0.here hx rfl (pc0 := 25) (pc' := 36) rfl (D d16_25) rfl (tlt hc157).2.2.1 (by decide) (by decide) (XS.bipush X0.here hx rfl (D d16_36) (XS.iloadN X0.here hx rfl (D d16_38) rfl k))) ?_
        by_cases hc158 : xx < (97 : Int32)
        · skip
          refine Go.of (T' := T0) (f' := (mkF m 53 #[iv xx] [(.int 0)])) (fun _ k => XS.icmpYes X0.here hx rfl (pc0 := 39) (pc' := 52) rfl (D d16_39) rfl (tlt hc158).2.2.1 (by decide) (by decide) (XS.iconst X0.here hx rfl (D d16_52) k)) ?_
          exact Go.retB X0 hx hlk hret (by simp) (D d16_53) (by decide) (by decide) (z' := (0 : Int32)) rfl (by rw [e0]; exact ⟨congrArg (fun z => some (Value.int z)) (own_nmz (fun q => q.elim (fun z => z.1 hc158) (fun q => q.elim (fun z => z.1 hc157) (fun q => q.elim (fun z => z.1 hc156) (fun z => hc155 z))))), rfl, by simp⟩)
        · skip
          refine Go.of (T' := T0) (f' := (mkF m 45 #[iv xx] [(.int 122), (.int xx)])) (fun _ k => XS.icmpNo X0.here hx rfl (D d16_39) rfl (flt hc158).2.2.1 (XS.iloadN X0.here hx rfl (D d16_42) rfl (XS.bipush X0.here hx rfl (D d16_43) k))) ?_
          by_cases hc159 : (122 : Int32) < xx
          · skip
            refine Go.of (T' := T0) (f' := (mkF m 53 #[iv xx] [(.int 0)])) (fun _ k => XS.icmpYes X0.here hx rfl (pc0 := 45) (pc' := 52) rfl (D d16_45) rfl (tlt hc159).2.2.1 (by decide) (by decide) (XS.iconst X0.here hx rfl (D d16_52) k)) ?_
            exact Go.retB X0 hx hlk hret (by simp) (D d16_53) (by decide) (by decide) (z' := (0 : Int32)) rfl (by rw [e0]; exact ⟨congrArg (fun z => some (Value.int z)) (own_nmz (fun q => q.elim (fun z => z.2 hc159) (fun q => q.elim (fun z => z.1 hc157) (fun q => q.elim (fun z => z.1 hc156) (fun z => hc155 z))))), rfl, by simp⟩)
          · skip
            refine Go.of (T' := T0) (f' := (mkF m 53 #[iv xx] [(.int 1)])) (fun _ k => XS.icmpNo X0.here hx rfl (D d16_45) rfl (flt hc159).2.2.1 (XS.iconst X0.here hx rfl (D d16_48) (XS.goto X0.here hx rfl (pc0 := 49) (pc' := 53) rfl (D d16_49) (by decide) (by decide) k))) ?_
            exact Go.retB X0 hx hlk hret (by simp) (D d16_53) (by decide) (by decide) (z' := (1 : Int32)) rfl (by rw [e0]; exact ⟨congrArg (fun z => some (Value.int z)) (own_nm1 (Or.inl ⟨hc158, hc159⟩)), rfl, by simp⟩)
      · skip
        refine Go.of (T' := T0) (f' := (mkF m 31 #[iv xx] [(.int 90), (.int xx)])) (fun _ k => XS.icmpNo X0.here hx rfl (D d16_25) rfl (flt hc157).2.2.1 (XS.iloadN X0.here hx rfl (D d16_28) rfl (XS.bipush X0.here hx rfl (D d16_29) k))) ?_
        by_cases hc160 : (90 : Int32) < xx
        · skip
          refine Go.of (T' := T0) (f' := (mkF m 39 #[iv xx] [(.int xx), (.int 97)])) (fun _ k => XS.icmpYes X0.here hx rfl (pc0 := 31) (pc' := 36) rfl (D d16_31) rfl (tlt hc160).2.2.1 (by decide) (by decide) (XS.bipush X0.here hx rfl (D d16_36) (XS.iloadN X0.here hx rfl (D d16_38) rfl k))) ?_
          by_cases hc161 : xx < (97 : Int32)
          · skip
            refine Go.of (T' := T0) (f' := (mkF m 53 #[iv xx] [(.int 0)])) (fun _ k => XS.icmpYes X0.here hx rfl (pc0 := 39) (pc' := 52) rfl (D d16_39) rfl (tlt hc161).2.2.1 (by decide) (by decide) (XS.iconst X0.here hx rfl (D d16_52) k)) ?_
            exact Go.retB X0 hx hlk hret (by simp) (D d16_53) (by decide) (by decide) (z' := (0 : Int32)) rfl (by rw [e0]; exact ⟨congrArg (fun z => some (Value.int z)) (own_nmz (fun q => q.elim (fun z => z.1 hc161) (fun q => q.elim (fun z => z.2 hc160) (fun q => q.elim (fun z => z.1 hc156) (fun z => hc155 z))))), rfl, by simp⟩)
          · skip
            refine Go.of (T' := T0) (f' := (mkF m 45 #[iv xx] [(.int 122), (.int xx)])) (fun _ k => XS.icmpNo X0.here hx rfl (D d16_39) rfl (flt hc161).2.2.1 (XS.iloadN X0.here hx rfl (D d16_42) rfl (XS.bipush X0.here hx rfl (D d16_43) k))) ?_
            by_cases hc162 : (122 : Int32) < xx
            · skip
              refine Go.of (T' := T0) (f' := (mkF m 53 #[iv xx] [(.int 0)])) (fun _ k => XS.icmpYes X0.here hx rfl (pc0 := 45) (pc' := 52) rfl (D d16_45) rfl (tlt hc162).2.2.1 (by decide) (by decide) (XS.iconst X0.here hx rfl (D d16_52) k)) ?_
              exact Go.retB X0 hx hlk hret (by simp) (D d16_53) (by decide) (by decide) (z' := (0 : Int32)) rfl (by rw [e0]; exact ⟨congrArg (fun z => some (Value.int z)) (own_nmz (fun q => q.elim (fun z => z.2 hc162) (fun q => q.elim (fun z => z.2 hc160) (fun q => q.elim (fun z => z.1 hc156) (fun z => hc155 z))))), rfl, by simp⟩)
            · skip
              refine Go.of (T' := T0) (f' := (mkF m 53 #[iv xx] [(.int 1)])) (fun _ k => XS.icmpNo X0.here hx rfl (D d16_45) rfl (flt hc162).2.2.1 (XS.iconst X0.here hx rfl (D d16_48) (XS.goto X0.here hx rfl (pc0 := 49) (pc' := 53) rfl (D d16_49) (by decide) (by decide) k))) ?_
              exact Go.retB X0 hx hlk hret (by simp) (D d16_53) (by decide) (by decide) (z' := (1 : Int32)) rfl (by rw [e0]; exact ⟨congrArg (fun z => some (Value.int z)) (own_nm1 (Or.inl ⟨hc161, hc162⟩)), rfl, by simp⟩)
        · skip
          refine Go.of (T' := T0) (f' := (mkF m 35 #[iv xx] [(.int 1)])) (fun _ k => XS.icmpNo X0.here hx rfl (D d16_31) rfl (flt hc160).2.2.1 (XS.iconst X0.here hx rfl (D d16_34) k)) ?_
          exact Go.retB X0 hx hlk hret (by simp) (D d16_35) (by decide) (by decide) (z' := (1 : Int32)) rfl (by rw [e0]; exact ⟨congrArg (fun z => some (Value.int z)) (own_nm1 (Or.inr (Or.inl ⟨hc157, hc160⟩))), rfl, by simp⟩)
    · skip
      refine Go.of (T' := T0) (f' := (mkF m 17 #[iv xx] [(.int 57), (.int xx)])) (fun _ k => XS.icmpNo X0.here hx rfl (D d16_11) rfl (flt hc156).2.2.1 (XS.iloadN X0.here hx rfl (D d16_14) rfl (XS.bipush X0.here hx rfl (D d16_15) k))) ?_
      by_cases hc163 : (57 : Int32) < xx
      · skip
        refine Go.of (T' := T0) (f' := (mkF m 25 #[iv xx] [(.int xx), (.int 65)])) (fun _ k => XS.icmpYes X0.here hx rfl (pc0 := 17) (pc' := 22) rfl (D d16_17) rfl (tlt hc163).2.2.1 (by decide) (by decide) (XS.bipush X0.here hx rfl (D d16_22) (XS.iloadN X0.here hx rfl (D d16_24) rfl k))) ?_
        by_cases hc164 : xx < (65 : Int32)
        · skip
          refine Go.of (T' := T0) (f' := (mkF m 39 #[iv xx] [(.int xx), (.int 97)])) (fun _ k => XS.icmpYes X0.here hx rfl (pc0 := 25) (pc' := 36) rfl (D d16_25) rfl (tlt hc164).2.2.1 (by decide) (by decide) (XS.bipush X0.here hx rfl (D d16_36) (XS.iloadN X0.here hx rfl (D d16_38) rfl k))) ?_
          by_cases hc165 : xx < (97 : Int32)
          · skip
            refine Go.of (T' := T0) (f' := (mkF m 53 #[iv xx] [(.int 0)])) (fun _ k => XS.icmpYes X0.here hx rfl (pc0 := 39) (pc' := 52) rfl (D d16_39) rfl (tlt hc165).2.2.1 (by decide) (by decide) (XS.iconst X0.here hx rfl (D d16_52) k)) ?_
            exact Go.retB X0 hx hlk hret (by simp) (D d16_53) (by decide) (by decide) (z' := (0 : Int32)) rfl (by rw [e0]; exact ⟨congrArg (fun z => some (Value.int z)) (own_nmz (fun q => q.elim (fun z => z.1 hc165) (fun q => q.elim (fun z => z.1 hc164) (fun q => q.elim (fun z => z.2 hc163) (fun z => hc155 z))))), rfl, by simp⟩)
          · skip
            refine Go.of (T' := T0) (f' := (mkF m 45 #[iv xx] [(.int 122), (.int xx)])) (fun _ k => XS.icmpNo X0.here hx rfl (D d16_39) rfl (flt hc165).2.2.1 (XS.iloadN X0.here hx rfl (D d16_42) rfl (XS.bipush X0.here hx rfl (D d16_43) k))) ?_
            by_cases hc166 : (122 : Int32) < xx
            · skip
              refine Go.of (T' := T0) (f' := (mkF m 53 #[iv xx] [(.int 0)])) (fun _ k => XS.icmpYes X0.here hx rfl (pc0 := 45) (pc' := 52) rfl (D d16_45) rfl (tlt hc166).2.2.1 (by decide) (by decide) (XS.iconst X0.here hx rfl (D d16_52) k)) ?_
              exact Go.retB X0 hx hlk hret (by simp) (D d16_53) (by decide) (by decide) (z' := (0 : Int32)) rfl (by rw [e0]; exact ⟨congrArg (fun z => some (Value.int z)) (own_nmz (fun q => q.elim (fun z => z.2 hc166) (fun q => q.elim (fun z => z.1 hc164) (fun q => q.elim (fun z => z.2 hc163) (fun z => hc155 z))))), rfl, by simp⟩)
            · skip
              refine Go.of (T' := T0) (f' := (mkF m 53 #[iv xx] [(.int 1)])) (fun _ k => XS.icmpNo X0.here hx rfl (D d16_45) rfl (flt hc166).2.2.1 (XS.iconst X0.here hx rfl (D d16_48) (XS.goto X0.here hx rfl (pc0 := 49) (pc' := 53) rfl (D d16_49) (by decide) (by decide) k))) ?_
              exact Go.retB X0 hx hlk hret (by simp) (D d16_53) (by decide) (by decide) (z' := (1 : Int32)) rfl (by rw [e0]; exact ⟨congrArg (fun z => some (Value.int z)) (own_nm1 (Or.inl ⟨hc165, hc166⟩)), rfl, by simp⟩)
        · skip
          refine Go.of (T' := T0) (f' := (mkF m 31 #[iv xx] [(.int 90), (.int xx)])) (fun _ k => XS.icmpNo X0.here hx rfl (D d16_25) rfl (flt hc164).2.2.1 (XS.iloadN X0.here hx rfl (D d16_28) rfl (XS.bipush X0.here hx rfl (D d16_29) k))) ?_
          by_cases hc167 : (90 : Int32) < xx
          · skip
            refine Go.of (T' := T0) (f' := (mkF m 39 #[iv xx] [(.int xx), (.int 97)])) (fun _ k => XS.icmpYes X0.here hx rfl (pc0 := 31) (pc' := 36) rfl (D d16_31) rfl (tlt hc167).2.2.1 (by decide) (by decide) (XS.bipush X0.here hx rfl (D d16_36) (XS.iloadN X0.here hx rfl (D d16_38) rfl k))) ?_
            by_cases hc168 : xx < (97 : Int32)
            · skip
              refine Go.of (T' := T0) (f' := (mkF m 53 #[iv xx] [(.int 0)])) (fun _ k => XS.icmpYes X0.here hx rfl (pc0 := 39) (pc' := 52) rfl (D d16_39) rfl (tlt hc168).2.2.1 (by decide) (by decide) (XS.iconst X0.here hx rfl (D d16_52) k)) ?_
              exact Go.retB X0 hx hlk hret (by simp) (D d16_53) (by decide) (by decide) (z' := (0 : Int32)) rfl (by rw [e0]; exact ⟨congrArg (fun z => some (Value.int z)) (own_nmz (fun q => q.elim (fun z => z.1 hc168) (fun q => q.elim (fun z => z.2 hc167) (fun q => q.elim (fun z => z.2 hc163) (fun z => hc155 z))))), rfl, by simp⟩)
            · skip
              refine Go.of (T' := T0) (f' := (mkF m 45 #[iv xx] [(.int 122), (.int xx)])) (fun _ k => XS.icmpNo X0.here hx rfl (D d16_39) rfl (flt hc168).2.2.1 (XS.iloadN X0.here hx rfl (D d16_42) rfl (XS.bipush X0.here hx rfl (D d16_43) k))) ?_
              by_cases hc169 : (122 : Int32) < xx
              · skip
                refine Go.of (T' := T0) (f' := (mkF m 53 #[iv xx] [(.int 0)])) (fun _ k => XS.icmpYes X0.here hx rfl (pc0 := 45) (pc' := 52) rfl (D d16_45) rfl (tlt hc169).2.2.1 (by decide) (by decide) (XS.iconst X0.here hx rfl (D d16_52) k)) ?_
                exact Go.retB X0 hx hlk hret (by simp) (D d16_53) (by decide) (by decide) (z' := (0 : Int32)) rfl (by rw [e0]; exact ⟨congrArg (fun z => some (Value.int z)) (own_nmz (fun q => q.elim (fun z => z.2 hc169) (fun q => q.elim (fun z => z.2 hc167) (fun q => q.elim (fun z => z.2 hc163) (fun z => hc155 z))))), rfl, by simp⟩)
              · skip
                refine Go.of (T' := T0) (f' := (mkF m 53 #[iv xx] [(.int 1)])) (fun _ k => XS.icmpNo X0.here hx rfl (D d16_45) rfl (flt hc169).2.2.1 (XS.iconst X0.here hx rfl (D d16_48) (XS.goto X0.here hx rfl (pc0 := 49) (pc' := 53) rfl (D d16_49) (by decide) (by decide) k))) ?_
                exact Go.retB X0 hx hlk hret (by simp) (D d16_53) (by decide) (by decide) (z' := (1 : Int32)) rfl (by rw [e0]; exact ⟨congrArg (fun z => some (Value.int z)) (own_nm1 (Or.inl ⟨hc168, hc169⟩)), rfl, by simp⟩)
          · skip
            refine Go.of (T' := T0) (f' := (mkF m 35 #[iv xx] [(.int 1)])) (fun _ k => XS.icmpNo X0.here hx rfl (D d16_31) rfl (flt hc167).2.2.1 (XS.iconst X0.here hx rfl (D d16_34) k)) ?_
            exact Go.retB X0 hx hlk hret (by simp) (D d16_35) (by decide) (by decide) (z' := (1 : Int32)) rfl (by rw [e0]; exact ⟨congrArg (fun z => some (Value.int z)) (own_nm1 (Or.inr (Or.inl ⟨hc164, hc167⟩))), rfl, by simp⟩)
      · skip
        refine Go.of (T' := T0) (f' := (mkF m 21 #[iv xx] [(.int 1)])) (fun _ k => XS.icmpNo X0.here hx rfl (D d16_17) rfl (flt hc163).2.2.1 (XS.iconst X0.here hx rfl (D d16_20) k)) ?_
        exact Go.retB X0 hx hlk hret (by simp) (D d16_21) (by decide) (by decide) (z' := (1 : Int32)) rfl (by rw [e0]; exact ⟨congrArg (fun z => some (Value.int z)) (own_nm1 (Or.inr (Or.inr (Or.inl ⟨hc156, hc163⟩)))), rfl, by simp⟩)
abbrev own_m58 : MethodName := (⟨"com/example/patient_courier/patientcourier/NameRule", "accepts", "(Ljava/lang/String;)Z"⟩ : MethodName)
theorem d7_26 : decode prog_10_method_4_code 26 = .ok (.iload_n 2, 1) := by decide +kernel
theorem d7_27 : decode prog_10_method_4_code 27 = .ok (.aload_n 1, 1) := by decide +kernel
theorem d7_28 : decode prog_10_method_4_code 28 = .ok (.invokevirtual 40, 3) := by decide +kernel
theorem pd59 : parseMethodDescriptor "()I" = some ⟨[], some .int⟩ := by decide +kernel
theorem d7_31 : decode prog_10_method_4_code 31 = .ok (.if_icmp .ge 22, 3) := by decide +kernel
theorem d7_53 : decode prog_10_method_4_code 53 = .ok (.iconst 1, 1) := by decide +kernel
theorem d7_54 : decode prog_10_method_4_code 54 = .ok (.ireturn, 1) := by decide +kernel
theorem d7_34 : decode prog_10_method_4_code 34 = .ok (.aload_n 1, 1) := by decide +kernel
theorem d7_35 : decode prog_10_method_4_code 35 = .ok (.iload_n 2, 1) := by decide +kernel
theorem d7_36 : decode prog_10_method_4_code 36 = .ok (.invokevirtual 46, 3) := by decide +kernel
theorem pd60 : parseMethodDescriptor "(I)C" = some ⟨[.int], some .char⟩ := by decide +kernel
theorem d7_39 : decode prog_10_method_4_code 39 = .ok (.invokestatic 50, 3) := by decide +kernel
theorem pd61 : parseMethodDescriptor "(C)Z" = some ⟨[.char], some .boolean⟩ := by decide +kernel
theorem d7_42 : decode prog_10_method_4_code 42 = .ok (.ifCond .ne 5, 3) := by decide +kernel
theorem d7_45 : decode prog_10_method_4_code 45 = .ok (.iconst 0, 1) := by decide +kernel
theorem d7_46 : decode prog_10_method_4_code 46 = .ok (.ireturn, 1) := by decide +kernel
theorem d7_47 : decode prog_10_method_4_code 47 = .ok (.iinc 2 1, 3) := by decide +kernel
theorem d7_50 : decode prog_10_method_4_code 50 = .ok (.goto (-24), 3) := by decide +kernel
set_option maxRecDepth 65536 in
set_option maxHeartbeats 40000000 in
theorem rm_accL {l : Launch} {Z : State} {a0 : Array Value} {A : Nat → Addr} {KC : Nat → Cell} {IC : Nat → Int32} {VC : Nat → Value} (hw : ∀ d ∈ tables_1, d.before a0 Z = true) (G : own_Ctx Z A KC IC VC) {p : Program} {e : Env} {s : State} {m : MethodId} {below : List Frame} {meth : Method} {c : Code} {h0 : Heap} (ru : Addr) (so : Addr) (mx : Int32) (da : Addr) (kd : ClassId) (bn : Int32) (M : Nat) (gs : Nat → Int32) (cd : Int32) (n : Int32) (N : Nat) (cs : Nat → Int32) (prem0 : n.toInt = N) (prem1 : N ≤ 65) (prem2 : ∀ j, own_ch (cs j)) (prem3 : own_k4 N cs n bn M gs cd)
    (hx : p.tables.exec = Jvm.exec) (hby : c.code = prog_10_method_4_code) (hml : c.maxLocals = 3) (hown : s.vm.findClass "com/example/patient_courier/patientcourier/NameRule" = some m.cls) (hret : meth.sig.returnType = (some .boolean)) (hlk : meth.locks = false) (hZ : Z.Warmed39 s.vm) :
    ∀ (fuel : Nat) (i : Int32) (T0 : State) (h1 : Heap) (locs0 : List Loc) (hi : 0 ≤ i.toInt) (hf : i.toInt + (fuel : Nat) = n.toInt) (hall : ∀ j, j < i.toNatClampNeg → own_nm (cs j) = 1) (h3 : ¬ n < 3) (hm : ¬ mx < n) (e0 : T0.heap = h1) (X0 : Stand p l e ({ frames := 5, cells := 0, slots := 0, locals := 66 } : Room) s m #[(.ref ru), (.ref so)] below meth c T0 locs0 0 0) (N0 : Fr Z.heap.size locs0) (K0 : Keep h0 h1 []) (O0 : Ext Z.heap h1) (lf0 : Exa Z h1 so "java/lang/String") (lf1 : Fld Z h1 so "java/lang/String" "value" "[B" (.ref da)) (lf2 : Fld Z h1 so "java/lang/String" "coder" "B" (.int cd)) (lf3 : Arv Z h1 da kd .byte bn (own_fn M gs) (.int (0 : Int32))),
      Go p e s below ({ frames := 5, cells := 0, slots := 0, locals := 66 } : Room) (fun v h L => ∃ r : Int32, v = some (.int r) ∧ (Fr Z.heap.size L) ∧ (Keep h0 h []) ∧ (own_ar N cs n mx r)) T0 (mkF m 26 #[rv ru, rv so, iv i] []) := by
  have D := @hb _ _ hby
  intro fuel
  induction fuel with
  | zero =>
    intro i T0 h1 locs0 hi hf hall h3 hm e0 X0 N0 K0 O0 lf0 lf1 lf2 lf3
    obtain ⟨T170, v170, L170, X170, q170, st170⟩ := callVi X0 hx hZ (y := own_m31) (z := own_m31) hown (own_w hw (i := 44) rfl) (own_w hw (i := 45) rfl) (notFace_of_selects (args := #[]) (mvT hZ (own_w hw (i := 47) rfl))) (own_w hw (i := 47) rfl) (own_w hw (i := 46) rfl) (own_w hw (i := 48) rfl) (own_w hw (i := 12) rfl) (by decide) (rm_len hw G so da kd bn M gs cd n h1 O0 lf0 lf1 lf2 lf3 (own_k4b prem3) (own_k4l prem0 prem3)) e0 (W := 1) (by decide) (by decide) (by decide) (by decide) lf0 (g := (mkF m 28 #[rv ru, rv so, iv i] [(.ref so), (.int i)])) rfl (by rw [hml]; rfl) (argsL := []) (rest := [(.int i)]) (lenOf pd59 rfl) rfl rfl (Nat.le_of_eq rfl) (D d7_28)
    obtain ⟨rfl, e170, rfl⟩ := q170
    have N170 := Fr.app N0 (Fr.nil _)
    have hc171 : ¬ (i < n) := own_geN hf
    refine Go.of (T' := T170) (f' := (mkF m 54 #[rv ru, rv so, iv i] [(.int 1)])) (fun _ k => XS.iloadN X0.here hx rfl (D d7_26) rfl (XS.aloadN X0.here hx rfl (D d7_27) rfl rfl (st170 _ (XS.icmpYes X170.here hx rfl (pc0 := 31) (pc' := 53) rfl (D d7_31) rfl (flt hc171).2.1 (by decide) (by decide) (XS.iconst X170.here hx rfl (D d7_53) k))))) ?_
    exact Go.retB X170 hx hlk hret (by simp) (D d7_54) (by decide) (by decide) (z' := (1 : Int32)) rfl (by rw [e170]; exact ⟨(1 : Int32), rfl, N170, K0, Or.inl ⟨rfl, h3, hm, own_allz prem0 hi hf hall⟩⟩)
  | succ fuel ih =>
    intro i T0 h1 locs0 hi hf hall h3 hm e0 X0 N0 K0 O0 lf0 lf1 lf2 lf3
    obtain ⟨T172, v172, L172, X172, q172, st172⟩ := callVi X0 hx hZ (y := own_m31) (z := own_m31) hown (own_w hw (i := 44) rfl) (own_w hw (i := 45) rfl) (notFace_of_selects (args := #[]) (mvT hZ (own_w hw (i := 47) rfl))) (own_w hw (i := 47) rfl) (own_w hw (i := 46) rfl) (own_w hw (i := 48) rfl) (own_w hw (i := 12) rfl) (by decide) (rm_len hw G so da kd bn M gs cd n h1 O0 lf0 lf1 lf2 lf3 (own_k4b prem3) (own_k4l prem0 prem3)) e0 (W := 1) (by decide) (by decide) (by decide) (by decide) lf0 (g := (mkF m 28 #[rv ru, rv so, iv i] [(.ref so), (.int i)])) rfl (by rw [hml]; rfl) (argsL := []) (rest := [(.int i)]) (lenOf pd59 rfl) rfl rfl (Nat.le_of_eq rfl) (D d7_28)
    obtain ⟨rfl, e172, rfl⟩ := q172
    have N172 := Fr.app N0 (Fr.nil _)
    have hc173 : i < n := own_ltN hf
    obtain ⟨T174, v174, L174, X174, q174, st174⟩ := callVi X172 hx hZ (y := own_m52) (z := own_m52) hown (own_w hw (i := 58) rfl) (own_w hw (i := 59) rfl) (notFace_of_selects (args := #[]) (mvT hZ (own_w hw (i := 61) rfl))) (own_w hw (i := 61) rfl) (own_w hw (i := 60) rfl) (own_w hw (i := 62) rfl) (own_w hw (i := 12) rfl) (by decide) (rm_ch hw G so i da kd bn M gs cd n N cs h1 O0 (own_nneg hi) (own_ltN hf) (prem0) (prem1) (prem2) (prem3) lf0 lf1 lf2 lf3) e172 (W := 0) (by decide) (by decide) (by decide) (by decide) lf0 (g := (mkF m 36 #[rv ru, rv so, iv i] [(.int i), (.ref so)])) rfl (by rw [hml]; rfl) (argsL := [(.int i)]) (rest := []) (lenOf pd60 rfl) rfl rfl (Nat.le_of_eq rfl) (D d7_36)
    obtain ⟨rfl, e174, rfl⟩ := q174
    have N174 := Fr.app N172 (Fr.nil _)
    obtain ⟨T175, v175, L175, X175, q175, st175⟩ := callSt X174 hx hZ (y := own_m54) hown (own_w hw (i := 80) rfl) (own_w hw (i := 81) rfl) (own_w hw (i := 1) rfl) (own_w hw (i := 82) rfl) (by decide) (rm_isn hw G ((cs i.toNatClampNeg))  h1 O0 ) e174 (W := 0) (by decide) (by decide) (by decide) (by decide) (g := (mkF m 39 #[rv ru, rv so, iv i] [(.int (cs i.toNatClampNeg))])) rfl (by rw [hml]; rfl) (argsL := [(.int (cs i.toNatClampNeg))]) (rest := []) (lenOf pd61 rfl) rfl rfl (Nat.le_of_eq rfl) (D d7_39)
    obtain ⟨rfl, e175, rfl⟩ := q175
    have N175 := Fr.app N174 (Fr.nil _)
    refine Go.of (T' := T175) (f' := (mkF m 42 #[rv ru, rv so, iv i] [(.int (own_nm (cs i.toNatClampNeg)))])) (fun _ k => XS.iloadN X0.here hx rfl (D d7_26) rfl (XS.aloadN X0.here hx rfl (D d7_27) rfl rfl (st172 _ (XS.icmpNo X172.here hx rfl (D d7_31) rfl (tlt hc173).2.1 (XS.aloadN X172.here hx rfl (D d7_34) rfl rfl (XS.iloadN X172.here hx rfl (D d7_35) rfl (st174 _ (st175 _ k)))))))) ?_
    by_cases hc176 : (own_nm (cs i.toNatClampNeg)) = (0 : Int32)
    · skip
      refine Go.of (T' := T175) (f' := (mkF m 46 #[rv ru, rv so, iv i] [(.int 0)])) (fun _ k => XS.ifNo X175.here hx rfl (D d7_42) rfl ((if0 _ _).trans (teq hc176).2) (XS.iconst X175.here hx rfl (D d7_45) k)) ?_
      exact Go.retB X175 hx hlk hret (by simp) (D d7_46) (by decide) (by decide) (z' := (0 : Int32)) rfl (by rw [e175]; exact ⟨(0 : Int32), rfl, N175, K0, Or.inr ⟨rfl, Or.inr (Or.inr ⟨_, own_kN hi hf prem0, hc176⟩)⟩⟩)
    · skip
      refine Go.of (T' := T175) (f' := (mkF m 26 #[rv ru, rv so, iv (i + (1 : Int32))] [])) (fun _ k => XS.ifYes X175.here hx rfl (pc0 := 42) (pc' := 47) rfl (D d7_42) rfl ((if0 _ _).trans (feq hc176).2) (by decide) (by decide) (XS.iinc X175.here hx rfl (D d7_47) rfl (l' := #[rv ru, rv so, iv (i + (1 : Int32))]) rfl (XS.goto X175.here hx rfl (pc0 := 50) (pc' := 26) rfl (D d7_50) (by decide) (by decide) k))) ?_
      exact ih ((i + (1 : Int32))) T175 h1 _ (own_hi1 hi hf) (own_hf1 hi hf) (by rw [own_nS hi hf]; exact own_all1 hall (own_nm0 hc176)) (h3) (hm) e175 X175 N175 K0 O0 (lf0) (lf1) (lf2) (lf3)
theorem d7_0 : decode prog_10_method_4_code 0 = .ok (.aload_n 1, 1) := by decide +kernel
theorem d7_1 : decode prog_10_method_4_code 1 = .ok (.invokevirtual 40, 3) := by decide +kernel
theorem d7_4 : decode prog_10_method_4_code 4 = .ok (.aload_n 0, 1) := by decide +kernel
theorem d7_5 : decode prog_10_method_4_code 5 = .ok (.getfield 33, 3) := by decide +kernel
theorem d7_8 : decode prog_10_method_4_code 8 = .ok (.if_icmp .lt 14, 3) := by decide +kernel
theorem d7_22 : decode prog_10_method_4_code 22 = .ok (.iconst 0, 1) := by decide +kernel
theorem d7_23 : decode prog_10_method_4_code 23 = .ok (.ireturn, 1) := by decide +kernel
theorem d7_11 : decode prog_10_method_4_code 11 = .ok (.aload_n 1, 1) := by decide +kernel
theorem d7_12 : decode prog_10_method_4_code 12 = .ok (.invokevirtual 40, 3) := by decide +kernel
theorem d7_15 : decode prog_10_method_4_code 15 = .ok (.aload_n 0, 1) := by decide +kernel
theorem d7_16 : decode prog_10_method_4_code 16 = .ok (.getfield 37, 3) := by decide +kernel
theorem d7_19 : decode prog_10_method_4_code 19 = .ok (.if_icmp .le 5, 3) := by decide +kernel
theorem d7_24 : decode prog_10_method_4_code 24 = .ok (.iconst 0, 1) := by decide +kernel
theorem d7_25 : decode prog_10_method_4_code 25 = .ok (.istore_n 2, 1) := by decide +kernel
theorem ef_rm_acc (m : MethodId) (ru : Addr) (so : Addr) : entryFrame m #[(.ref ru), (.ref so)] 3 = mkF m 0 #[rv ru, rv so, .unset] [] := by first | (simp [entryFrame, mkF, argsToLocals, Value.category]; done) | rfl
theorem pn62 : plainFor (⟨"com/example/patient_courier/patientcourier/NameRule", "accepts", "(Ljava/lang/String;)Z"⟩ : MethodName) = true := by first | exact plainFor_of_name (by first | (simp [plainName, overriddenIn]; done) | decide +kernel) | decide +kernel
set_option maxRecDepth 65536 in
set_option maxHeartbeats 40000000 in
theorem rm_acc {l : Launch} {Z : State} {a0 : Array Value} {A : Nat → Addr} {KC : Nat → Cell} {IC : Nat → Int32} {VC : Nat → Value} (hw : ∀ d ∈ tables_1, d.before a0 Z = true) (G : own_Ctx Z A KC IC VC) (ru : Addr) (so : Addr) (mx : Int32) (da : Addr) (kd : ClassId) (bn : Int32) (M : Nat) (gs : Nat → Int32) (cd : Int32) (n : Int32) (N : Nat) (cs : Nat → Int32) (h0 : Heap) (O0 : Ext Z.heap h0) (prem0 : n.toInt = N) (prem1 : N ≤ 65) (prem2 : ∀ j, own_ch (cs j)) (prem3 : own_k4 N cs n bn M gs cd) (prem4 : Fld Z h0 ru "com/example/patient_courier/patientcourier/NameRule" "minLength" "I" (.int (3 : Int32))) (prem5 : Fld Z h0 ru "com/example/patient_courier/patientcourier/NameRule" "maxLength" "I" (.int mx)) (prem6 : Exa Z h0 so "java/lang/String") (prem7 : Fld Z h0 so "java/lang/String" "value" "[B" (.ref da)) (prem8 : Fld Z h0 so "java/lang/String" "coder" "B" (.int cd)) (prem9 : Arv Z h0 da kd .byte bn (own_fn M gs) (.int (0 : Int32))) :
    Ok l Z own_m58 prog_10_method_4_code 3 (some .boolean) ({ frames := 5, cells := 0, slots := 0, locals := 66 } : Room) #[(.ref ru), (.ref so)] h0
      (fun v h L => ∃ r : Int32, v = some (.int r) ∧ (Fr Z.heap.size L) ∧ (Keep h0 h []) ∧ (own_ar N cs n mx r)) := by
  refine Ok.mk pn62 ?_
  intro p e s m below meth c T0 hx hby hml hown hnm hret hlk hZ e0 X0
  refine Go.cast (ef_rm_acc m ru so) ?_
  have D := @hb _ _ hby
  have N0 := Fr.nil Z.heap.size
  have K0 : Keep h0 h0 [] := Keep.refl _ _
  obtain ⟨T177, v177, L177, X177, q177, st177⟩ := callVi X0 hx hZ (y := own_m31) (z := own_m31) hown (own_w hw (i := 44) rfl) (own_w hw (i := 45) rfl) (notFace_of_selects (args := #[]) (mvT hZ (own_w hw (i := 47) rfl))) (own_w hw (i := 47) rfl) (own_w hw (i := 46) rfl) (own_w hw (i := 48) rfl) (own_w hw (i := 12) rfl) (by decide) (rm_len hw G so da kd bn M gs cd n h0 O0 prem6 prem7 prem8 prem9 (own_k4b prem3) (own_k4l prem0 prem3)) e0 (W := 0) (by decide) (by decide) (by decide) (by decide) prem6 (g := (mkF m 1 #[rv ru, rv so, .unset] [(.ref so)])) rfl (by rw [hml]; rfl) (argsL := []) (rest := []) (lenOf pd59 rfl) rfl rfl (Nat.le_of_eq rfl) (D d7_1)
  obtain ⟨rfl, e177, rfl⟩ := q177
  have N177 := Fr.app N0 (Fr.nil _)
  obtain ⟨T178, X178, e178, st178⟩ := getF X177 hx hZ hown (host := "") (Or.inl (own_w hw (i := 54) rfl)) Via.refl e177 prem4 (g := (mkF m 5 #[rv ru, rv so, .unset] [(.ref ru), (.int n)])) rfl rfl (D d7_5)
  refine Go.of (T' := T178) (f' := (mkF m 8 #[rv ru, rv so, .unset] [(.int 3), (.int n)])) (fun _ k => XS.aloadN X0.here hx rfl (D d7_0) rfl rfl (st177 _ (XS.aloadN X177.here hx rfl (D d7_4) rfl rfl (st178 _ k)))) ?_
  by_cases hc179 : n < (3 : Int32)
  · skip
    refine Go.of (T' := T178) (f' := (mkF m 23 #[rv ru, rv so, .unset] [(.int 0)])) (fun _ k => XS.icmpYes X178.here hx rfl (pc0 := 8) (pc' := 22) rfl (D d7_8) rfl (tlt hc179).1 (by decide) (by decide) (XS.iconst X178.here hx rfl (D d7_22) k)) ?_
    exact Go.retB X178 hx hlk hret (by simp) (D d7_23) (by decide) (by decide) (z' := (0 : Int32)) rfl (by rw [e178]; exact ⟨(0 : Int32), rfl, N177, K0, Or.inr ⟨rfl, Or.inl hc179⟩⟩)
  · skip
    obtain ⟨T180, v180, L180, X180, q180, st180⟩ := callVi X178 hx hZ (y := own_m31) (z := own_m31) hown (own_w hw (i := 44) rfl) (own_w hw (i := 45) rfl) (notFace_of_selects (args := #[]) (mvT hZ (own_w hw (i := 47) rfl))) (own_w hw (i := 47) rfl) (own_w hw (i := 46) rfl) (own_w hw (i := 48) rfl) (own_w hw (i := 12) rfl) (by decide) (rm_len hw G so da kd bn M gs cd n h0 O0 prem6 prem7 prem8 prem9 (own_k4b prem3) (own_k4l prem0 prem3)) e178 (W := 0) (by decide) (by decide) (by decide) (by decide) prem6 (g := (mkF m 12 #[rv ru, rv so, .unset] [(.ref so)])) rfl (by rw [hml]; rfl) (argsL := []) (rest := []) (lenOf pd59 rfl) rfl rfl (Nat.le_of_eq rfl) (D d7_12)
    obtain ⟨rfl, e180, rfl⟩ := q180
    have N180 := Fr.app N177 (Fr.nil _)
    obtain ⟨T181, X181, e181, st181⟩ := getF X180 hx hZ hown (host := "") (Or.inl (own_w hw (i := 56) rfl)) Via.refl e180 prem5 (g := (mkF m 16 #[rv ru, rv so, .unset] [(.ref ru), (.int n)])) rfl rfl (D d7_16)
    refine Go.of (T' := T181) (f' := (mkF m 19 #[rv ru, rv so, .unset] [(.int mx), (.int n)])) (fun _ k => XS.icmpNo X178.here hx rfl (D d7_8) rfl (flt hc179).1 (XS.aloadN X178.here hx rfl (D d7_11) rfl rfl (st180 _ (XS.aloadN X180.here hx rfl (D d7_15) rfl rfl (st181 _ k))))) ?_
    by_cases hc182 : mx < n
    · skip
      refine Go.of (T' := T181) (f' := (mkF m 23 #[rv ru, rv so, .unset] [(.int 0)])) (fun _ k => XS.icmpNo X181.here hx rfl (D d7_19) rfl (tlt hc182).2.2.2 (XS.iconst X181.here hx rfl (D d7_22) k)) ?_
      exact Go.retB X181 hx hlk hret (by simp) (D d7_23) (by decide) (by decide) (z' := (0 : Int32)) rfl (by rw [e181]; exact ⟨(0 : Int32), rfl, N180, K0, Or.inr ⟨rfl, Or.inr (Or.inl hc182)⟩⟩)
    · skip
      refine Go.of (T' := T181) (f' := (mkF m 26 #[rv ru, rv so, iv 0] [])) (fun _ k => XS.icmpYes X181.here hx rfl (pc0 := 19) (pc' := 24) rfl (D d7_19) rfl (flt hc182).2.2.2 (by decide) (by decide) (XS.iconst X181.here hx rfl (D d7_24) (XS.istoreN X181.here hx rfl (D d7_25) rfl (l' := #[rv ru, rv so, iv 0]) rfl k))) ?_
      exact rm_accL hw G ru so mx da kd bn M gs cd n N cs prem0 prem1 prem2 prem3 hx hby hml hown hret hlk hZ N 0 T181 h0 _ (by decide) (own_hn0 prem0) (own_al0 cs) hc179 hc182 e181 X181 N180 K0 O0 prem6 prem7 prem8 prem9
theorem own_len0 : (0 : Int32) >>> ((0 : Int32) &&& 31) = 0 := by decide
theorem ef_rm_codz (m : MethodId) (so : Addr) : entryFrame m #[(.ref so)] 1 = mkF m 0 #[rv so] [] := by first | (simp [entryFrame, mkF, argsToLocals, Value.category]; done) | rfl
set_option maxRecDepth 65536 in
set_option maxHeartbeats 40000000 in
theorem rm_codz {l : Launch} {Z : State} {a0 : Array Value} {A : Nat → Addr} {KC : Nat → Cell} {IC : Nat → Int32} {VC : Nat → Value} (hw : ∀ d ∈ tables_1, d.before a0 Z = true) (G : own_Ctx Z A KC IC VC) (so : Addr)  (h0 : Heap) (O0 : Ext Z.heap h0) (prem0 : Fld Z h0 so "java/lang/String" "coder" "B" (.int (0 : Int32))) :
    Ok l Z own_m28 jdk_42_method_152_code 1 (some .byte) ({ frames := 0, cells := 0, slots := 0, locals := 0 } : Room) #[(.ref so)] h0
      (fun v h L => v = some (.int (0 : Int32)) ∧ (h = h0) ∧ (L = [])) := by
  refine Ok.mk pn29 ?_
  intro p e s m below meth c T0 hx hby hml hown hnm hret hlk hZ e0 X0
  refine Go.cast (ef_rm_codz m so) ?_
  obtain ⟨-, -, -, -, -, -, -, -, S_COMPACT_STRINGS, hne_s_COMPACT_STRINGS_0, -⟩ := id G
  have D := @hb _ _ hby
  have N0 := Fr.nil Z.heap.size
  have K0 : Keep h0 h0 [] := Keep.refl _ _
  obtain ⟨T183, X183, e183, st183⟩ := getS2 X0 hx hZ hown (host := "") (Or.inl (own_w hw (i := 23) rfl)) Via.refl e0 (Sta.ext O0 S_COMPACT_STRINGS) (g := (mkF m 0 #[rv so] [])) rfl (D d9_0)
  have hc184 : ¬ ((IC 0) = (0 : Int32)) := hne_s_COMPACT_STRINGS_0
  obtain ⟨T185, X185, e185, st185⟩ := getF X183 hx hZ hown (host := "") (Or.inl (own_w hw (i := 35) rfl)) Via.refl e183 prem0 (g := (mkF m 7 #[rv so] [(.ref so)])) rfl rfl (D d9_7)
  refine Go.of (T' := T185) (f' := (mkF m 14 #[rv so] [(.int 0)])) (fun _ k => st183 _ (XS.ifNo X183.here hx rfl (D d9_3) rfl ((if0 _ _).trans (feq hc184).1) (XS.aloadN X183.here hx rfl (D d9_6) rfl rfl (st185 _ (XS.goto X185.here hx rfl (pc0 := 10) (pc' := 14) rfl (D d9_10) (by decide) (by decide) k))))) ?_
  exact Go.retB X185 hx hlk hret (by simp) (D d9_14) (by decide) (by decide) (z' := (0 : Int32)) rfl (by rw [e185]; exact ⟨rfl, rfl, by simp⟩)
theorem ef_rm_lenz (m : MethodId) (so : Addr) : entryFrame m #[(.ref so)] 1 = mkF m 0 #[rv so] [] := by first | (simp [entryFrame, mkF, argsToLocals, Value.category]; done) | rfl
set_option maxRecDepth 65536 in
set_option maxHeartbeats 40000000 in
theorem rm_lenz {l : Launch} {Z : State} {a0 : Array Value} {A : Nat → Addr} {KC : Nat → Cell} {IC : Nat → Int32} {VC : Nat → Value} (hw : ∀ d ∈ tables_1, d.before a0 Z = true) (G : own_Ctx Z A KC IC VC) (so : Addr) (da : Addr) (kd : ClassId) (h0 : Heap) (O0 : Ext Z.heap h0) (prem0 : Exa Z h0 so "java/lang/String") (prem1 : Fld Z h0 so "java/lang/String" "value" "[B" (.ref da)) (prem2 : Fld Z h0 so "java/lang/String" "coder" "B" (.int (0 : Int32))) (prem3 : Arv Z h0 da kd .byte (0 : Int32) [] (.int (0 : Int32))) :
    Ok l Z own_m31 jdk_42_method_54_code 1 (some .int) ({ frames := 1, cells := 0, slots := 0, locals := 13 } : Room) #[(.ref so)] h0
      (fun v h L => v = some (.int (0 : Int32)) ∧ (h = h0) ∧ (L = [])) := by
  refine Ok.mk pn32 ?_
  intro p e s m below meth c T0 hx hby hml hown hnm hret hlk hZ e0 X0
  refine Go.cast (ef_rm_lenz m so) ?_
  have D := @hb _ _ hby
  have N0 := Fr.nil Z.heap.size
  have K0 : Keep h0 h0 [] := Keep.refl _ _
  obtain ⟨T186, X186, e186, st186⟩ := getF X0 hx hZ hown (host := "") (Or.inl (own_w hw (i := 37) rfl)) Via.refl e0 prem1 (g := (mkF m 1 #[rv so] [(.ref so)])) rfl rfl (D d8_1)
  obtain ⟨cl187, Ar187, qk187, S187, Ng187, H187, G187⟩ := id prem3
  obtain ⟨T188, v188, L188, X188, q188, st188⟩ := callVi X186 hx hZ (y := own_m28) (z := own_m28) hown (own_w hw (i := 49) rfl) (own_w hw (i := 50) rfl) (notFace_of_selects (args := #[]) (mvT hZ (own_w hw (i := 52) rfl))) (own_w hw (i := 52) rfl) (own_w hw (i := 51) rfl) (own_w hw (i := 53) rfl) (own_w hw (i := 12) rfl) (by decide) (rm_codz hw G so  h0 O0 prem2) e186 (W := 1) (by decide) (by decide) (by decide) (by decide) prem0 (g := (mkF m 6 #[rv so] [(.ref so), (.int 0)])) rfl (by rw [hml]; rfl) (argsL := []) (rest := [(.int 0)]) (lenOf pd30 rfl) rfl rfl (Nat.le_of_eq rfl) (D d8_6)
  obtain ⟨rfl, e188, rfl⟩ := q188
  have N188 := Fr.app N0 (Fr.nil _)
  refine Go.of (T' := T188) (f' := (mkF m 10 #[rv so] [(.int 0)])) (fun _ k => XS.aloadN X0.here hx rfl (D d8_0) rfl rfl (st186 _ (X186.arraylength hx (by rw [e186]; exact Ar187.1) (State.isArrayOf_alike hZ.alike Ar187.2.1) (g := (mkF m 4 #[rv so] [(.ref da)])) rfl rfl (D d8_4) _ (by rw [len_of S187 Ng187]; exact (XS.aloadN X186.here hx rfl (D d8_5) rfl rfl (st188 _ (XS.ishr X188.here hx rfl (D d8_9) rfl k))))))) ?_
  exact Go.retI X188 hx hlk hret (D d8_10) (by decide) (by decide) (by rw [e188]; exact ⟨rfl, rfl, by simp⟩)
theorem ef_rm_accz (m : MethodId) (ru : Addr) (so : Addr) : entryFrame m #[(.ref ru), (.ref so)] 3 = mkF m 0 #[rv ru, rv so, .unset] [] := by first | (simp [entryFrame, mkF, argsToLocals, Value.category]; done) | rfl
set_option maxRecDepth 65536 in
set_option maxHeartbeats 40000000 in
theorem rm_accz {l : Launch} {Z : State} {a0 : Array Value} {A : Nat → Addr} {KC : Nat → Cell} {IC : Nat → Int32} {VC : Nat → Value} (hw : ∀ d ∈ tables_1, d.before a0 Z = true) (G : own_Ctx Z A KC IC VC) (ru : Addr) (so : Addr) (mx : Int32) (da : Addr) (kd : ClassId) (h0 : Heap) (O0 : Ext Z.heap h0) (prem0 : Fld Z h0 ru "com/example/patient_courier/patientcourier/NameRule" "minLength" "I" (.int (3 : Int32))) (prem1 : Fld Z h0 ru "com/example/patient_courier/patientcourier/NameRule" "maxLength" "I" (.int mx)) (prem2 : Exa Z h0 so "java/lang/String") (prem3 : Fld Z h0 so "java/lang/String" "value" "[B" (.ref da)) (prem4 : Fld Z h0 so "java/lang/String" "coder" "B" (.int (0 : Int32))) (prem5 : Arv Z h0 da kd .byte (0 : Int32) [] (.int (0 : Int32))) :
    Ok l Z own_m58 prog_10_method_4_code 3 (some .boolean) ({ frames := 2, cells := 0, slots := 0, locals := 25 } : Room) #[(.ref ru), (.ref so)] h0
      (fun v h L => v = some (.int (0 : Int32)) ∧ (h = h0) ∧ (L = [])) := by
  refine Ok.mk pn62 ?_
  intro p e s m below meth c T0 hx hby hml hown hnm hret hlk hZ e0 X0
  refine Go.cast (ef_rm_accz m ru so) ?_
  have D := @hb _ _ hby
  have N0 := Fr.nil Z.heap.size
  have K0 : Keep h0 h0 [] := Keep.refl _ _
  obtain ⟨T189, v189, L189, X189, q189, st189⟩ := callVi X0 hx hZ (y := own_m31) (z := own_m31) hown (own_w hw (i := 44) rfl) (own_w hw (i := 45) rfl) (notFace_of_selects (args := #[]) (mvT hZ (own_w hw (i := 47) rfl))) (own_w hw (i := 47) rfl) (own_w hw (i := 46) rfl) (own_w hw (i := 48) rfl) (own_w hw (i := 12) rfl) (by decide) (rm_lenz hw G so da kd h0 O0 prem2 prem3 prem4 prem5) e0 (W := 0) (by decide) (by decide) (by decide) (by decide) prem2 (g := (mkF m 1 #[rv ru, rv so, .unset] [(.ref so)])) rfl (by rw [hml]; rfl) (argsL := []) (rest := []) (lenOf pd59 rfl) rfl rfl (Nat.le_of_eq rfl) (D d7_1)
  obtain ⟨rfl, e189, rfl⟩ := q189
  have N189 := Fr.app N0 (Fr.nil _)
  obtain ⟨T190, X190, e190, st190⟩ := getF X189 hx hZ hown (host := "") (Or.inl (own_w hw (i := 54) rfl)) Via.refl e189 prem0 (g := (mkF m 5 #[rv ru, rv so, .unset] [(.ref ru), (.int 0)])) rfl rfl (D d7_5)
  refine Go.of (T' := T190) (f' := (mkF m 23 #[rv ru, rv so, .unset] [(.int 0)])) (fun _ k => XS.aloadN X0.here hx rfl (D d7_0) rfl rfl (st189 _ (XS.aloadN X189.here hx rfl (D d7_4) rfl rfl (st190 _ (XS.icmpYes X190.here hx rfl (pc0 := 8) (pc' := 22) rfl (D d7_8) rfl (tlt (by decide : (0 : Int32) < (3 : Int32))).1 (by decide) (by decide) (XS.iconst X190.here hx rfl (D d7_22) k)))))) ?_
  exact Go.retB X190 hx hlk hret (by simp) (D d7_23) (by decide) (by decide) (z' := (0 : Int32)) rfl (by rw [e190]; exact ⟨rfl, rfl, by simp⟩)
theorem own_pt1 : ∀ i, i < 1 → own_pat method_4_code 16 i := by decide +kernel
theorem own_pt2 : ∀ i, i < 2 → own_pat method_4_code 29 i := by decide +kernel
theorem own_pt3 : ∀ i, i < 3 → own_pat method_4_code 46 i := by decide +kernel
theorem own_pt4 : ∀ i, i < 4 → own_pat method_4_code 67 i := by decide +kernel
theorem own_pt50 : ∀ i, i < 50 → own_pat method_4_code 93 i := by decide +kernel
theorem own_pt51 : ∀ i, i < 51 → own_pat method_4_code 348 i := by decide +kernel
theorem own_pt64 : ∀ i, i < 64 → own_pat method_4_code 608 i := by decide +kernel
theorem own_pt65 : ∀ i, i < 65 → own_pat method_4_code 927 i := by decide +kernel
theorem d0_0 : decode method_4_code 0 = .ok (.iload_n 0, 1) := by decide +kernel
theorem d0_1 : decode method_4_code 1 = .ok (.ifCond .ne 7, 3) := by decide +kernel
theorem d0_4 : decode method_4_code 4 = .ok (.iconst 0, 1) := by decide +kernel
theorem d0_5 : decode method_4_code 5 = .ok (.newarray .char, 2) := by decide +kernel
theorem d0_7 : decode method_4_code 7 = .ok (.areturn, 1) := by decide +kernel
theorem d0_8 : decode method_4_code 8 = .ok (.iload_n 0, 1) := by decide +kernel
theorem d0_9 : decode method_4_code 9 = .ok (.iconst 1, 1) := by decide +kernel
theorem d0_10 : decode method_4_code 10 = .ok (.if_icmp .ne 11, 3) := by decide +kernel
theorem d0_13 : decode method_4_code 13 = .ok (.iconst 1, 1) := by decide +kernel
theorem d0_14 : decode method_4_code 14 = .ok (.newarray .char, 2) := by decide +kernel
theorem d0_16 : decode method_4_code 16 = .ok (.dup, 1) := by decide +kernel
theorem d0_20 : decode method_4_code 20 = .ok (.areturn, 1) := by decide +kernel
theorem d0_21 : decode method_4_code 21 = .ok (.iload_n 0, 1) := by decide +kernel
theorem d0_22 : decode method_4_code 22 = .ok (.iconst 2, 1) := by decide +kernel
theorem d0_23 : decode method_4_code 23 = .ok (.if_icmp .ne 15, 3) := by decide +kernel
theorem d0_26 : decode method_4_code 26 = .ok (.iconst 2, 1) := by decide +kernel
theorem d0_27 : decode method_4_code 27 = .ok (.newarray .char, 2) := by decide +kernel
theorem d0_29 : decode method_4_code 29 = .ok (.dup, 1) := by decide +kernel
theorem d0_37 : decode method_4_code 37 = .ok (.areturn, 1) := by decide +kernel
theorem d0_38 : decode method_4_code 38 = .ok (.iload_n 0, 1) := by decide +kernel
theorem d0_39 : decode method_4_code 39 = .ok (.iconst 3, 1) := by decide +kernel
theorem d0_40 : decode method_4_code 40 = .ok (.if_icmp .ne 19, 3) := by decide +kernel
theorem d0_43 : decode method_4_code 43 = .ok (.iconst 3, 1) := by decide +kernel
theorem d0_44 : decode method_4_code 44 = .ok (.newarray .char, 2) := by decide +kernel
theorem d0_46 : decode method_4_code 46 = .ok (.dup, 1) := by decide +kernel
theorem d0_58 : decode method_4_code 58 = .ok (.areturn, 1) := by decide +kernel
theorem d0_59 : decode method_4_code 59 = .ok (.iload_n 0, 1) := by decide +kernel
theorem d0_60 : decode method_4_code 60 = .ok (.iconst 4, 1) := by decide +kernel
theorem d0_61 : decode method_4_code 61 = .ok (.if_icmp .ne 23, 3) := by decide +kernel
theorem d0_64 : decode method_4_code 64 = .ok (.iconst 4, 1) := by decide +kernel
theorem d0_65 : decode method_4_code 65 = .ok (.newarray .char, 2) := by decide +kernel
theorem d0_67 : decode method_4_code 67 = .ok (.dup, 1) := by decide +kernel
theorem d0_83 : decode method_4_code 83 = .ok (.areturn, 1) := by decide +kernel
theorem d0_84 : decode method_4_code 84 = .ok (.iload_n 0, 1) := by decide +kernel
theorem d0_85 : decode method_4_code 85 = .ok (.iconst 5, 1) := by decide +kernel
theorem d0_86 : decode method_4_code 86 = .ok (.if_icmp .ne 252, 3) := by decide +kernel
theorem d0_89 : decode method_4_code 89 = .ok (.bipush 50, 2) := by decide +kernel
theorem d0_91 : decode method_4_code 91 = .ok (.newarray .char, 2) := by decide +kernel
theorem d0_93 : decode method_4_code 93 = .ok (.dup, 1) := by decide +kernel
theorem d0_337 : decode method_4_code 337 = .ok (.areturn, 1) := by decide +kernel
theorem d0_338 : decode method_4_code 338 = .ok (.iload_n 0, 1) := by decide +kernel
theorem d0_339 : decode method_4_code 339 = .ok (.bipush 6, 2) := by decide +kernel
theorem d0_341 : decode method_4_code 341 = .ok (.if_icmp .ne 257, 3) := by decide +kernel
theorem d0_344 : decode method_4_code 344 = .ok (.bipush 51, 2) := by decide +kernel
theorem d0_346 : decode method_4_code 346 = .ok (.newarray .char, 2) := by decide +kernel
theorem d0_348 : decode method_4_code 348 = .ok (.dup, 1) := by decide +kernel
theorem d0_597 : decode method_4_code 597 = .ok (.areturn, 1) := by decide +kernel
theorem d0_598 : decode method_4_code 598 = .ok (.iload_n 0, 1) := by decide +kernel
theorem d0_599 : decode method_4_code 599 = .ok (.bipush 7, 2) := by decide +kernel
theorem d0_601 : decode method_4_code 601 = .ok (.if_icmp .ne 322, 3) := by decide +kernel
theorem d0_604 : decode method_4_code 604 = .ok (.bipush 64, 2) := by decide +kernel
theorem d0_606 : decode method_4_code 606 = .ok (.newarray .char, 2) := by decide +kernel
theorem d0_608 : decode method_4_code 608 = .ok (.dup, 1) := by decide +kernel
theorem d0_922 : decode method_4_code 922 = .ok (.areturn, 1) := by decide +kernel
theorem d0_923 : decode method_4_code 923 = .ok (.bipush 65, 2) := by decide +kernel
theorem d0_925 : decode method_4_code 925 = .ok (.newarray .char, 2) := by decide +kernel
theorem d0_927 : decode method_4_code 927 = .ok (.dup, 1) := by decide +kernel
theorem d0_1246 : decode method_4_code 1246 = .ok (.areturn, 1) := by decide +kernel
abbrev own_m63 : MethodName := (⟨"com/example/patient_courier/patientcourier/NameRuleAcceptsPinLaw", "blank", "(IC)[C"⟩ : MethodName)
theorem ef_rm_blank (m : MethodId) (zz : Int32) (ff : Int32) : entryFrame m #[(.int zz), (.int ff)] 2 = mkF m 0 #[iv zz, iv ff] [] := by first | (simp [entryFrame, mkF, argsToLocals, Value.category]; done) | rfl
theorem pn64 : plainFor (⟨"com/example/patient_courier/patientcourier/NameRuleAcceptsPinLaw", "blank", "(IC)[C"⟩ : MethodName) = true := by first | exact plainFor_of_name (by first | (simp [plainName, overriddenIn]; done) | decide +kernel) | decide +kernel
set_option maxRecDepth 65536 in
set_option maxHeartbeats 40000000 in
theorem rm_blank {l : Launch} {Z : State} {a0 : Array Value} {A : Nat → Addr} {KC : Nat → Cell} {IC : Nat → Int32} {VC : Nat → Value} (hw : ∀ d ∈ tables_1, d.before a0 Z = true) (G : own_Ctx Z A KC IC VC) (zz : Int32) (ff : Int32)  (h0 : Heap) (O0 : Ext Z.heap h0) (prem0 : own_ch ff) :
    Ok l Z own_m63 method_4_code 2 (some (.array .char)) ({ frames := 0, cells := 1, slots := 65, locals := 0 } : Room) #[(.int zz), (.int ff)] h0
      (fun v h L => ∃ va : Addr, ∃ kv : ClassId, ∃ n : Int32, ∃ N : Nat, v = some (.ref va) ∧ (Fr Z.heap.size L) ∧ (Keep h0 h []) ∧ (h0.size ≤ va) ∧ (Arv Z h va kv .char n (own_fn N (fun _ => ff)) (.int (0 : Int32))) ∧ (n.toInt = N ∧ N ≤ 65)) := by
  refine Ok.mk pn64 ?_
  intro p e s m below meth c T0 hx hby hml hown hnm hret hlk hZ e0 X0
  refine Go.cast (ef_rm_blank m zz ff) ?_
  have D := @hb _ _ hby
  have N0 := Fr.nil Z.heap.size
  have K0 : Keep h0 h0 [] := Keep.refl _ _
  refine Go.of (T' := T0) (f' := (mkF m 1 #[iv zz, iv ff] [(.int zz)])) (fun _ k => XS.iloadN X0.here hx rfl (D d0_0) rfl k) ?_
  by_cases hc192 : zz = (0 : Int32)
  · skip
    obtain ⟨T193, h193, k193, b193, q193, X193, e193, E193, V193, A193, st193⟩ := newAr X0 hx hZ (own_w hw (i := 9) rfl) e0 (g := (mkF m 5 #[iv zz, iv ff] [(.int 0)])) rfl (D d0_5) rfl (by decide) (cap := 0) (by decide) (by decide) (by decide) (by decide) (ad := "[C") (by decide)
    have O194 := Old0.ext O0 E193
    have K194 := Keep.ext K0 E193
    have g_b193 : Z.heap.size ≤ b193 := q193 ▸ O0.1
    have z_b193 : h0.size ≤ b193 := q193 ▸ K0.1
    have f195 : Arv Z h193 b193 k193 .char (0 : Int32) [] (.int 0) := Arv.pad V193 (pad_rep [] (.int 0) 0)
    have fz196 : Arv Z h193 b193 k193 .char (0 : Int32) (own_fn 0 (fun _ => ff)) (.int 0) := f195
    refine Go.of (T' := T193) (f' := (mkF m 7 #[iv zz, iv ff] [(.ref b193)])) (fun _ k => XS.ifNo X0.here hx rfl (D d0_1) rfl ((if0 _ _).trans (teq hc192).2) (XS.iconst X0.here hx rfl (D d0_4) (st193 _ k))) ?_
    exact Go.retA X193 hx hlk hret rfl rfl (D d0_7) (by decide) (by decide) (by rw [e193]; exact ⟨b193, k193, (0 : Int32), 0, rfl, N0, K194, z_b193, fz196, ⟨rfl, by decide⟩⟩)
  · skip
    refine Go.of (T' := T0) (f' := (mkF m 10 #[iv zz, iv ff] [(.int 1), (.int zz)])) (fun _ k => XS.ifYes X0.here hx rfl (pc0 := 1) (pc' := 8) rfl (D d0_1) rfl ((if0 _ _).trans (feq hc192).2) (by decide) (by decide) (XS.iloadN X0.here hx rfl (D d0_8) rfl (XS.iconst X0.here hx rfl (D d0_9) k))) ?_
    by_cases hc197 : zz = (1 : Int32)
    · skip
      obtain ⟨T198, h198, k198, b198, q198, X198, e198, E198, V198, A198, st198⟩ := newAr X0 hx hZ (own_w hw (i := 9) rfl) e0 (g := (mkF m 14 #[iv zz, iv ff] [(.int 1)])) rfl (D d0_14) rfl (by decide) (cap := 1) (by decide) (by decide) (by decide) (by decide) (ad := "[C") (by decide)
      have O199 := Old0.ext O0 E198
      have K199 := Keep.ext K0 E198
      have g_b198 : Z.heap.size ≤ b198 := q198 ▸ O0.1
      have z_b198 : h0.size ≤ b198 := q198 ▸ K0.1
      have f200 : Arv Z h198 b198 k198 .char (1 : Int32) [(.int 0)] (.int 0) := Arv.pad V198 (pad_rep [] (.int 0) 1)
      have fz201 : Arv Z h198 b198 k198 .char (1 : Int32) (own_fn 1 (own_fl ff 0)) (.int 0) := Arv.pad f200 (own_fnz 1 _ (own_fl0 ff))
      refine Go.of (T' := T198) (f' := (mkF m 16 #[iv zz, iv ff] [(.ref b198)])) (fun _ k => XS.icmpNo X0.here hx rfl (D d0_10) rfl (teq hc197).2 (XS.iconst X0.here hx rfl (D d0_13) (st198 _ k))) ?_
      refine own_fill (N := 1) (b := 16) (n := (1 : Int32)) (z := zz) hx hby hZ rfl (by decide) prem0 own_pt1 g_b198 z_b198 ?_ 1 0 rfl T198 h198 _ e198 X198 N0 K199 O199 fz201
      intro T201 h201 locs201 e201 X201 N201 K201 O201 A201
      exact Go.retA X201 hx hlk hret rfl rfl (D d0_20) (by decide) (by decide) (by rw [e201]; exact ⟨b198, k198, (1 : Int32), 1, rfl, N201, K201, z_b198, A201, ⟨rfl, by decide⟩⟩)
    · skip
      refine Go.of (T' := T0) (f' := (mkF m 23 #[iv zz, iv ff] [(.int 2), (.int zz)])) (fun _ k => XS.icmpYes X0.here hx rfl (pc0 := 10) (pc' := 21) rfl (D d0_10) rfl (feq hc197).2 (by decide) (by decide) (XS.iloadN X0.here hx rfl (D d0_21) rfl (XS.iconst X0.here hx rfl (D d0_22) k))) ?_
      by_cases hc202 : zz = (2 : Int32)
      · skip
        obtain ⟨T203, h203, k203, b203, q203, X203, e203, E203, V203, A203, st203⟩ := newAr X0 hx hZ (own_w hw (i := 9) rfl) e0 (g := (mkF m 27 #[iv zz, iv ff] [(.int 2)])) rfl (D d0_27) rfl (by decide) (cap := 2) (by decide) (by decide) (by decide) (by decide) (ad := "[C") (by decide)
        have O204 := Old0.ext O0 E203
        have K204 := Keep.ext K0 E203
        have g_b203 : Z.heap.size ≤ b203 := q203 ▸ O0.1
        have z_b203 : h0.size ≤ b203 := q203 ▸ K0.1
        have f205 : Arv Z h203 b203 k203 .char (2 : Int32) [(.int 0), (.int 0)] (.int 0) := Arv.pad V203 (pad_rep [] (.int 0) 2)
        have fz206 : Arv Z h203 b203 k203 .char (2 : Int32) (own_fn 2 (own_fl ff 0)) (.int 0) := Arv.pad f205 (own_fnz 2 _ (own_fl0 ff))
        refine Go.of (T' := T203) (f' := (mkF m 29 #[iv zz, iv ff] [(.ref b203)])) (fun _ k => XS.icmpNo X0.here hx rfl (D d0_23) rfl (teq hc202).2 (XS.iconst X0.here hx rfl (D d0_26) (st203 _ k))) ?_
        refine own_fill (N := 2) (b := 29) (n := (2 : Int32)) (z := zz) hx hby hZ rfl (by decide) prem0 own_pt2 g_b203 z_b203 ?_ 2 0 rfl T203 h203 _ e203 X203 N0 K204 O204 fz206
        intro T206 h206 locs206 e206 X206 N206 K206 O206 A206
        exact Go.retA X206 hx hlk hret rfl rfl (D d0_37) (by decide) (by decide) (by rw [e206]; exact ⟨b203, k203, (2 : Int32), 2, rfl, N206, K206, z_b203, A206, ⟨rfl, by decide⟩⟩)
      · skip
        refine Go.of (T' := T0) (f' := (mkF m 40 #[iv zz, iv ff] [(.int 3), (.int zz)])) (fun _ k => XS.icmpYes X0.here hx rfl (pc0 := 23) (pc' := 38) rfl (D d0_23) rfl (feq hc202).2 (by decide) (by decide) (XS.iloadN X0.here hx rfl (D d0_38) rfl (XS.iconst X0.here hx rfl (D d0_39) k))) ?_
        by_cases hc207 : zz = (3 : Int32)
        · skip
          obtain ⟨T208, h208, k208, b208, q208, X208, e208, E208, V208, A208, st208⟩ := newAr X0 hx hZ (own_w hw (i := 9) rfl) e0 (g := (mkF m 44 #[iv zz, iv ff] [(.int 3)])) rfl (D d0_44) rfl (by decide) (cap := 3) (by decide) (by decide) (by decide) (by decide) (ad := "[C") (by decide)
          have O209 := Old0.ext O0 E208
          have K209 := Keep.ext K0 E208
          have g_b208 : Z.heap.size ≤ b208 := q208 ▸ O0.1
          have z_b208 : h0.size ≤ b208 := q208 ▸ K0.1
          have f210 : Arv Z h208 b208 k208 .char (3 : Int32) [(.int 0), (.int 0), (.int 0)] (.int 0) := Arv.pad V208 (pad_rep [] (.int 0) 3)
          have fz211 : Arv Z h208 b208 k208 .char (3 : Int32) (own_fn 3 (own_fl ff 0)) (.int 0) := Arv.pad f210 (own_fnz 3 _ (own_fl0 ff))
          refine Go.of (T' := T208) (f' := (mkF m 46 #[iv zz, iv ff] [(.ref b208)])) (fun _ k => XS.icmpNo X0.here hx rfl (D d0_40) rfl (teq hc207).2 (XS.iconst X0.here hx rfl (D d0_43) (st208 _ k))) ?_
          refine own_fill (N := 3) (b := 46) (n := (3 : Int32)) (z := zz) hx hby hZ rfl (by decide) prem0 own_pt3 g_b208 z_b208 ?_ 3 0 rfl T208 h208 _ e208 X208 N0 K209 O209 fz211
          intro T211 h211 locs211 e211 X211 N211 K211 O211 A211
          exact Go.retA X211 hx hlk hret rfl rfl (D d0_58) (by decide) (by decide) (by rw [e211]; exact ⟨b208, k208, (3 : Int32), 3, rfl, N211, K211, z_b208, A211, ⟨rfl, by decide⟩⟩)
        · skip
          refine Go.of (T' := T0) (f' := (mkF m 61 #[iv zz, iv ff] [(.int 4), (.int zz)])) (fun _ k => XS.icmpYes X0.here hx rfl (pc0 := 40) (pc' := 59) rfl (D d0_40) rfl (feq hc207).2 (by decide) (by decide) (XS.iloadN X0.here hx rfl (D d0_59) rfl (XS.iconst X0.here hx rfl (D d0_60) k))) ?_
          by_cases hc212 : zz = (4 : Int32)
          · skip
            obtain ⟨T213, h213, k213, b213, q213, X213, e213, E213, V213, A213, st213⟩ := newAr X0 hx hZ (own_w hw (i := 9) rfl) e0 (g := (mkF m 65 #[iv zz, iv ff] [(.int 4)])) rfl (D d0_65) rfl (by decide) (cap := 4) (by decide) (by decide) (by decide) (by decide) (ad := "[C") (by decide)
            have O214 := Old0.ext O0 E213
            have K214 := Keep.ext K0 E213
            have g_b213 : Z.heap.size ≤ b213 := q213 ▸ O0.1
            have z_b213 : h0.size ≤ b213 := q213 ▸ K0.1
            have f215 : Arv Z h213 b213 k213 .char (4 : Int32) [(.int 0), (.int 0), (.int 0), (.int 0)] (.int 0) := Arv.pad V213 (pad_rep [] (.int 0) 4)
            have fz216 : Arv Z h213 b213 k213 .char (4 : Int32) (own_fn 4 (own_fl ff 0)) (.int 0) := Arv.pad f215 (own_fnz 4 _ (own_fl0 ff))
            refine Go.of (T' := T213) (f' := (mkF m 67 #[iv zz, iv ff] [(.ref b213)])) (fun _ k => XS.icmpNo X0.here hx rfl (D d0_61) rfl (teq hc212).2 (XS.iconst X0.here hx rfl (D d0_64) (st213 _ k))) ?_
            refine own_fill (N := 4) (b := 67) (n := (4 : Int32)) (z := zz) hx hby hZ rfl (by decide) prem0 own_pt4 g_b213 z_b213 ?_ 4 0 rfl T213 h213 _ e213 X213 N0 K214 O214 fz216
            intro T216 h216 locs216 e216 X216 N216 K216 O216 A216
            exact Go.retA X216 hx hlk hret rfl rfl (D d0_83) (by decide) (by decide) (by rw [e216]; exact ⟨b213, k213, (4 : Int32), 4, rfl, N216, K216, z_b213, A216, ⟨rfl, by decide⟩⟩)
          · skip
            refine Go.of (T' := T0) (f' := (mkF m 86 #[iv zz, iv ff] [(.int 5), (.int zz)])) (fun _ k => XS.icmpYes X0.here hx rfl (pc0 := 61) (pc' := 84) rfl (D d0_61) rfl (feq hc212).2 (by decide) (by decide) (XS.iloadN X0.here hx rfl (D d0_84) rfl (XS.iconst X0.here hx rfl (D d0_85) k))) ?_
            by_cases hc217 : zz = (5 : Int32)
            · skip
              obtain ⟨T218, h218, k218, b218, q218, X218, e218, E218, V218, A218, st218⟩ := newAr X0 hx hZ (own_w hw (i := 9) rfl) e0 (g := (mkF m 91 #[iv zz, iv ff] [(.int 50)])) rfl (D d0_91) rfl (by decide) (cap := 50) (by decide) (by decide) (by decide) (by decide) (ad := "[C") (by decide)
              have O219 := Old0.ext O0 E218
              have K219 := Keep.ext K0 E218
              have g_b218 : Z.heap.size ≤ b218 := q218 ▸ O0.1
              have z_b218 : h0.size ≤ b218 := q218 ▸ K0.1
              have f220 : Arv Z h218 b218 k218 .char (50 : Int32) [(.int 0), (.int 0), (.int 0), (.int 0), (.int 0), (.int 0), (.int 0), (.int 0), (.int 0), (.int 0), (.int 0), (.int 0), (.int 0), (.int 0), (.int 0), (.int 0), (.int 0), (.int 0), (.int 0), (.int 0), (.int 0), (.int 0), (.int 0), (.int 0), (.int 0), (.int 0), (.int 0), (.int 0), (.int 0), (.int 0), (.int 0), (.int 0), (.int 0), (.int 0), (.int 0), (.int 0), (.int 0), (.int 0), (.int 0), (.int 0), (.int 0), (.int 0), (.int 0), (.int 0), (.int 0), (.int 0), (.int 0), (.int 0), (.int 0), (.int 0)] (.int 0) := Arv.pad V218 (pad_rep [] (.int 0) 50)
              have fz221 : Arv Z h218 b218 k218 .char (50 : Int32) (own_fn 50 (own_fl ff 0)) (.int 0) := Arv.pad f220 (own_fnz 50 _ (own_fl0 ff))
              refine Go.of (T' := T218) (f' := (mkF m 93 #[iv zz, iv ff] [(.ref b218)])) (fun _ k => XS.icmpNo X0.here hx rfl (D d0_86) rfl (teq hc217).2 (XS.bipush X0.here hx rfl (D d0_89) (st218 _ k))) ?_
              refine own_fill (N := 50) (b := 93) (n := (50 : Int32)) (z := zz) hx hby hZ rfl (by decide) prem0 own_pt50 g_b218 z_b218 ?_ 50 0 rfl T218 h218 _ e218 X218 N0 K219 O219 fz221
              intro T221 h221 locs221 e221 X221 N221 K221 O221 A221
              exact Go.retA X221 hx hlk hret rfl rfl (D d0_337) (by decide) (by decide) (by rw [e221]; exact ⟨b218, k218, (50 : Int32), 50, rfl, N221, K221, z_b218, A221, ⟨rfl, by decide⟩⟩)
            · skip
              refine Go.of (T' := T0) (f' := (mkF m 341 #[iv zz, iv ff] [(.int 6), (.int zz)])) (fun _ k => XS.icmpYes X0.here hx rfl (pc0 := 86) (pc' := 338) rfl (D d0_86) rfl (feq hc217).2 (by decide) (by decide) (XS.iloadN X0.here hx rfl (D d0_338) rfl (XS.bipush X0.here hx rfl (D d0_339) k))) ?_
              by_cases hc222 : zz = (6 : Int32)
              · skip
                obtain ⟨T223, h223, k223, b223, q223, X223, e223, E223, V223, A223, st223⟩ := newAr X0 hx hZ (own_w hw (i := 9) rfl) e0 (g := (mkF m 346 #[iv zz, iv ff] [(.int 51)])) rfl (D d0_346) rfl (by decide) (cap := 51) (by decide) (by decide) (by decide) (by decide) (ad := "[C") (by decide)
                have O224 := Old0.ext O0 E223
                have K224 := Keep.ext K0 E223
                have g_b223 : Z.heap.size ≤ b223 := q223 ▸ O0.1
                have z_b223 : h0.size ≤ b223 := q223 ▸ K0.1
                have f225 : Arv Z h223 b223 k223 .char (51 : Int32) [(.int 0), (.int 0), (.int 0), (.int 0), (.int 0), (.int 0), (.int 0), (.int 0), (.int 0), (.int 0), (.int 0), (.int 0), (.int 0), (.int 0), (.int 0), (.int 0), (.int 0), (.int 0), (.int 0), (.int 0), (.int 0), (.int 0), (.int 0), (.int 0), (.int 0), (.int 0), (.int 0), (.int 0), (.int 0), (.int 0), (.int 0), (.int 0), (.int 0), (.int 0), (.int 0), (.int 0), (.int 0), (.int 0), (.int 0), (.int 0), (.int 0), (.int 0), (.int 0), (.int 0), (.int 0), (.int 0), (.int 0), (.int 0), (.int 0), (.int 0), (.int 0)] (.int 0) := Arv.pad V223 (pad_rep [] (.int 0) 51)
                have fz226 : Arv Z h223 b223 k223 .char (51 : Int32) (own_fn 51 (own_fl ff 0)) (.int 0) := Arv.pad f225 (own_fnz 51 _ (own_fl0 ff))
                refine Go.of (T' := T223) (f' := (mkF m 348 #[iv zz, iv ff] [(.ref b223)])) (fun _ k => XS.icmpNo X0.here hx rfl (D d0_341) rfl (teq hc222).2 (XS.bipush X0.here hx rfl (D d0_344) (st223 _ k))) ?_
                refine own_fill (N := 51) (b := 348) (n := (51 : Int32)) (z := zz) hx hby hZ rfl (by decide) prem0 own_pt51 g_b223 z_b223 ?_ 51 0 rfl T223 h223 _ e223 X223 N0 K224 O224 fz226
                intro T226 h226 locs226 e226 X226 N226 K226 O226 A226
                exact Go.retA X226 hx hlk hret rfl rfl (D d0_597) (by decide) (by decide) (by rw [e226]; exact ⟨b223, k223, (51 : Int32), 51, rfl, N226, K226, z_b223, A226, ⟨rfl, by decide⟩⟩)
              · skip
                refine Go.of (T' := T0) (f' := (mkF m 601 #[iv zz, iv ff] [(.int 7), (.int zz)])) (fun _ k => XS.icmpYes X0.here hx rfl (pc0 := 341) (pc' := 598) rfl (D d0_341) rfl (feq hc222).2 (by decide) (by decide) (XS.iloadN X0.here hx rfl (D d0_598) rfl (XS.bipush X0.here hx rfl (D d0_599) k))) ?_
                by_cases hc227 : zz = (7 : Int32)
                · skip
                  obtain ⟨T228, h228, k228, b228, q228, X228, e228, E228, V228, A228, st228⟩ := newAr X0 hx hZ (own_w hw (i := 9) rfl) e0 (g := (mkF m 606 #[iv zz, iv ff] [(.int 64)])) rfl (D d0_606) rfl (by decide) (cap := 64) (by decide) (by decide) (by decide) (by decide) (ad := "[C") (by decide)
                  have O229 := Old0.ext O0 E228
                  have K229 := Keep.ext K0 E228
                  have g_b228 : Z.heap.size ≤ b228 := q228 ▸ O0.1
                  have z_b228 : h0.size ≤ b228 := q228 ▸ K0.1
                  have f230 : Arv Z h228 b228 k228 .char (64 : Int32) [(.int 0), (.int 0), (.int 0), (.int 0), (.int 0), (.int 0), (.int 0), (.int 0), (.int 0), (.int 0), (.int 0), (.int 0), (.int 0), (.int 0), (.int 0), (.int 0), (.int 0), (.int 0), (.int 0), (.int 0), (.int 0), (.int 0), (.int 0), (.int 0), (.int 0), (.int 0), (.int 0), (.int 0), (.int 0), (.int 0), (.int 0), (.int 0), (.int 0), (.int 0), (.int 0), (.int 0), (.int 0), (.int 0), (.int 0), (.int 0), (.int 0), (.int 0), (.int 0), (.int 0), (.int 0), (.int 0), (.int 0), (.int 0), (.int 0), (.int 0), (.int 0), (.int 0), (.int 0), (.int 0), (.int 0), (.int 0), (.int 0), (.int 0), (.int 0), (.int 0), (.int 0), (.int 0), (.int 0), (.int 0)] (.int 0) := Arv.pad V228 (pad_rep [] (.int 0) 64)
                  have fz231 : Arv Z h228 b228 k228 .char (64 : Int32) (own_fn 64 (own_fl ff 0)) (.int 0) := Arv.pad f230 (own_fnz 64 _ (own_fl0 ff))
                  refine Go.of (T' := T228) (f' := (mkF m 608 #[iv zz, iv ff] [(.ref b228)])) (fun _ k => XS.icmpNo X0.here hx rfl (D d0_601) rfl (teq hc227).2 (XS.bipush X0.here hx rfl (D d0_604) (st228 _ k))) ?_
                  refine own_fill (N := 64) (b := 608) (n := (64 : Int32)) (z := zz) hx hby hZ rfl (by decide) prem0 own_pt64 g_b228 z_b228 ?_ 64 0 rfl T228 h228 _ e228 X228 N0 K229 O229 fz231
                  intro T231 h231 locs231 e231 X231 N231 K231 O231 A231
                  exact Go.retA X231 hx hlk hret rfl rfl (D d0_922) (by decide) (by decide) (by rw [e231]; exact ⟨b228, k228, (64 : Int32), 64, rfl, N231, K231, z_b228, A231, ⟨rfl, by decide⟩⟩)
                · skip
                  obtain ⟨T232, h232, k232, b232, q232, X232, e232, E232, V232, A232, st232⟩ := newAr X0 hx hZ (own_w hw (i := 9) rfl) e0 (g := (mkF m 925 #[iv zz, iv ff] [(.int 65)])) rfl (D d0_925) rfl (by decide) (cap := 65) (by decide) (by decide) (by decide) (by decide) (ad := "[C") (by decide)
                  have O233 := Old0.ext O0 E232
                  have K233 := Keep.ext K0 E232
                  have g_b232 : Z.heap.size ≤ b232 := q232 ▸ O0.1
                  have z_b232 : h0.size ≤ b232 := q232 ▸ K0.1
                  have f234 : Arv Z h232 b232 k232 .char (65 : Int32) [(.int 0), (.int 0), (.int 0), (.int 0), (.int 0), (.int 0), (.int 0), (.int 0), (.int 0), (.int 0), (.int 0), (.int 0), (.int 0), (.int 0), (.int 0), (.int 0), (.int 0), (.int 0), (.int 0), (.int 0), (.int 0), (.int 0), (.int 0), (.int 0), (.int 0), (.int 0), (.int 0), (.int 0), (.int 0), (.int 0), (.int 0), (.int 0), (.int 0), (.int 0), (.int 0), (.int 0), (.int 0), (.int 0), (.int 0), (.int 0), (.int 0), (.int 0), (.int 0), (.int 0), (.int 0), (.int 0), (.int 0), (.int 0), (.int 0), (.int 0), (.int 0), (.int 0), (.int 0), (.int 0), (.int 0), (.int 0), (.int 0), (.int 0), (.int 0), (.int 0), (.int 0), (.int 0), (.int 0), (.int 0), (.int 0)] (.int 0) := Arv.pad V232 (pad_rep [] (.int 0) 65)
                  have fz235 : Arv Z h232 b232 k232 .char (65 : Int32) (own_fn 65 (own_fl ff 0)) (.int 0) := Arv.pad f234 (own_fnz 65 _ (own_fl0 ff))
                  refine Go.of (T' := T232) (f' := (mkF m 927 #[iv zz, iv ff] [(.ref b232)])) (fun _ k => XS.icmpYes X0.here hx rfl (pc0 := 601) (pc' := 923) rfl (D d0_601) rfl (feq hc227).2 (by decide) (by decide) (XS.bipush X0.here hx rfl (D d0_923) (st232 _ k))) ?_
                  refine own_fill (N := 65) (b := 927) (n := (65 : Int32)) (z := zz) hx hby hZ rfl (by decide) prem0 own_pt65 g_b232 z_b232 ?_ 65 0 rfl T232 h232 _ e232 X232 N0 K233 O233 fz235
                  intro T235 h235 locs235 e235 X235 N235 K235 O235 A235
                  exact Go.retA X235 hx hlk hret rfl rfl (D d0_1246) (by decide) (by decide) (by rw [e235]; exact ⟨b232, k232, (65 : Int32), 65, rfl, N235, K235, z_b232, A235, ⟨rfl, by decide⟩⟩)
theorem pd65 : parseMethodDescriptor "(IC)[C" = some ⟨[.int, .char], some (.array .char)⟩ := by decide +kernel
theorem pd66 : parseMethodDescriptor "([C)V" = some ⟨[(.array .char)], none⟩ := by decide +kernel
theorem pd67 : parseMethodDescriptor "(Ljava/lang/String;)Z" = some ⟨[(.object "java/lang/String")], some .boolean⟩ := by decide +kernel
theorem ef_rm_law (m : MethodId) (p0 : Int32) (p1 : Int32) (p2 : Int32) (p3 : Int32) (p4 : Int32) (p5 : Int32) : entryFrame m #[(.int p0), (.int p1), (.int p2), (.int p3), (.int p4), (.int p5)] maxLocals = mkF m 0 #[iv p0, iv p1, iv p2, iv p3, iv p4, iv p5, .unset, .unset, .unset, .unset, .unset, .unset, .unset, .unset, .unset, .unset, .unset, .unset] [] := by first | (simp [entryFrame, mkF, argsToLocals, Value.category, maxLocals]; done) | rfl
theorem pn68 : plainFor (⟨"com/example/patient_courier/patientcourier/NameRuleAcceptsPinLaw", "law", "(IIIIII)Z"⟩ : MethodName) = true := by first | exact plainFor_of_name (by first | (simp [plainName, overriddenIn]; done) | decide +kernel) | decide +kernel
set_option maxRecDepth 65536 in
set_option maxHeartbeats 40000000 in
theorem rm_law {l : Launch} {Z : State} {a0 : Array Value} {A : Nat → Addr} {KC : Nat → Cell} {IC : Nat → Int32} {VC : Nat → Value} (hw : ∀ d ∈ tables_1, d.before a0 Z = true) (G : own_Ctx Z A KC IC VC) (p0 : Int32) (p1 : Int32) (p2 : Int32) (p3 : Int32) (p4 : Int32) (p5 : Int32)  (h0 : Heap) (O0 : Ext Z.heap h0)  :
    OkS l Z own_EL x code maxLocals ret room_1 #[(.int p0), (.int p1), (.int p2), (.int p3), (.int p4), (.int p5)] h0
      (fun v h L => v = some (.int (1 : Int32)) ∧ (Fr Z.heap.size L)) := by
  refine OkS.mk pn68 ?_
  intro p e s m below meth c T0 hx hby hml hown hnm hret hlk hZ e0 C0 hS X0
  have hk := Nat.zero_le h0.size
  have hEL := own_EW hw
  have hml : c.maxLocals = 18 := hml
  have hown : s.vm.findClass "com/example/patient_courier/patientcourier/NameRuleAcceptsPinLaw" = some m.cls := hown
  refine GoS.cast (ef_rm_law m p0 p1 p2 p3 p4 p5) ?_
  obtain ⟨S_TOPIC, E_s_TOPIC, F_s_TOPIC_minLength, F_s_TOPIC_maxLength, S_SUBSCRIPTION, E_s_SUBSCRIPTION, F_s_SUBSCRIPTION_minLength, F_s_SUBSCRIPTION_maxLength, -⟩ := id G
  have D := @hb _ _ hby
  have N0 := Fr.nil Z.heap.size
  have K0 : Keep h0 h0 [] := Keep.refl _ _
  refine GoS.of (T' := T0) (f' := (mkF m 3 #[iv p0, iv p1, iv p2, iv p3, iv p4, iv p5, .unset, .unset, .unset, .unset, .unset, .unset, .unset, .unset, .unset, .unset, .unset, .unset] [(.int (p0 &&& (1 : Int32)))])) (fun _ k => XS.iloadN X0.here hx rfl (D at_0) rfl (XS.iconst X0.here hx rfl (D at_1) (XS.iand X0.here hx rfl (D at_2) rfl k))) ?_
  by_cases hc236 : (p0 &&& (1 : Int32)) = (0 : Int32)
  · skip
    obtain ⟨T238, X238, e238, st238⟩ := getS2 X0 hx hZ hown (host := "") (Or.inl (own_w hw (i := 0) rfl)) Via.refl e0 (Sta.ext O0 S_TOPIC) (g := (mkF m 18 #[iv p0, iv p1, iv p2, iv p3, iv p4, iv p5, iv 1, .unset, .unset, .unset, .unset, .unset, .unset, .unset, .unset, .unset, .unset, .unset] [])) rfl (D at_18)
    refine GoS.of (T' := T238) (f' := (mkF m 34 #[iv p0, iv p1, iv p2, iv p3, iv p4, iv p5, iv 1, rv (A 0), .unset, .unset, .unset, .unset, .unset, .unset, .unset, .unset, .unset, .unset] [(.int ((p2 &&& (65535 : Int32)).toUInt32.toUInt16.toUInt32.toInt32))])) (fun _ k => XS.ifNo X0.here hx rfl (D at_3) rfl ((if0 _ _).trans (teq hc236).2) (XS.iconst X0.here hx rfl (D at_6) (XS.goto X0.here hx rfl (pc0 := 7) (pc' := 11) rfl (D at_7) (by decide) (by decide) (XS.istore X0.here hx rfl (D at_11) rfl (l' := #[iv p0, iv p1, iv p2, iv p3, iv p4, iv p5, iv 1, .unset, .unset, .unset, .unset, .unset, .unset, .unset, .unset, .unset, .unset, .unset]) rfl (XS.iload X0.here hx rfl (D at_13) rfl (XS.ifNo X0.here hx rfl (D at_15) rfl ((if0 _ _).trans (feq (by decide : ¬ ((1 : Int32) = (0 : Int32)))).1) (st238 _ (XS.goto X238.here hx rfl (pc0 := 21) (pc' := 27) rfl (D at_21) (by decide) (by decide) (XS.astore X238.here hx rfl (D at_27) rfl rfl (l' := #[iv p0, iv p1, iv p2, iv p3, iv p4, iv p5, iv 1, rv (A 0), .unset, .unset, .unset, .unset, .unset, .unset, .unset, .unset, .unset, .unset]) rfl (XS.iloadN X238.here hx rfl (D at_29) rfl (X238.ldcInt hx hown (mvT hZ (own_w hw (i := 3) rfl)) (g := (mkF m 30 #[iv p0, iv p1, iv p2, iv p3, iv p4, iv p5, iv 1, rv (A 0), .unset, .unset, .unset, .unset, .unset, .unset, .unset, .unset, .unset, .unset] [(.int p2)])) rfl (D at_30) _ (XS.iand X238.here hx rfl (D at_32) rfl (XS.i2c X238.here hx rfl (D at_33) rfl k))))))))))))) ?_
    generalize ef8 : (((p2 &&& (65535 : Int32)).toUInt32.toUInt16.toUInt32.toInt32) : Int32) = f8
    have ch8 : own_ch f8 := by rw [← ef8]; exact own_chi _
    refine GoS.of (T' := T238) (f' := (mkF m 41 #[iv p0, iv p1, iv p2, iv p3, iv p4, iv p5, iv 1, rv (A 0), iv f8, .unset, .unset, .unset, .unset, .unset, .unset, .unset, .unset, .unset] [(.int ((p3 &&& (65535 : Int32)).toUInt32.toUInt16.toUInt32.toInt32))])) (fun _ k => XS.istore X238.here hx rfl (D at_34) rfl (l' := #[iv p0, iv p1, iv p2, iv p3, iv p4, iv p5, iv 1, rv (A 0), iv f8, .unset, .unset, .unset, .unset, .unset, .unset, .unset, .unset, .unset]) rfl (XS.iloadN X238.here hx rfl (D at_36) rfl (X238.ldcInt hx hown (mvT hZ (own_w hw (i := 3) rfl)) (g := (mkF m 37 #[iv p0, iv p1, iv p2, iv p3, iv p4, iv p5, iv 1, rv (A 0), iv f8, .unset, .unset, .unset, .unset, .unset, .unset, .unset, .unset, .unset] [(.int p3)])) rfl (D at_37) _ (XS.iand X238.here hx rfl (D at_39) rfl (XS.i2c X238.here hx rfl (D at_40) rfl k))))) ?_
    generalize ea9 : (((p3 &&& (65535 : Int32)).toUInt32.toUInt16.toUInt32.toInt32) : Int32) = a9
    have ch9 : own_ch a9 := by rw [← ea9]; exact own_chi _
    refine GoS.of (T' := T238) (f' := (mkF m 49 #[iv p0, iv p1, iv p2, iv p3, iv p4, iv p5, iv 1, rv (A 0), iv f8, iv a9, .unset, .unset, .unset, .unset, .unset, .unset, .unset, .unset] [(.int ((p4 &&& (65535 : Int32)).toUInt32.toUInt16.toUInt32.toInt32))])) (fun _ k => XS.istore X238.here hx rfl (D at_41) rfl (l' := #[iv p0, iv p1, iv p2, iv p3, iv p4, iv p5, iv 1, rv (A 0), iv f8, iv a9, .unset, .unset, .unset, .unset, .unset, .unset, .unset, .unset]) rfl (XS.iload X238.here hx rfl (D at_43) rfl (X238.ldcInt hx hown (mvT hZ (own_w hw (i := 3) rfl)) (g := (mkF m 45 #[iv p0, iv p1, iv p2, iv p3, iv p4, iv p5, iv 1, rv (A 0), iv f8, iv a9, .unset, .unset, .unset, .unset, .unset, .unset, .unset, .unset] [(.int p4)])) rfl (D at_45) _ (XS.iand X238.here hx rfl (D at_47) rfl (XS.i2c X238.here hx rfl (D at_48) rfl k))))) ?_
    generalize eb10 : (((p4 &&& (65535 : Int32)).toUInt32.toUInt16.toUInt32.toInt32) : Int32) = b10
    have ch10 : own_ch b10 := by rw [← eb10]; exact own_chi _
    refine GoS.of (T' := T238) (f' := (mkF m 57 #[iv p0, iv p1, iv p2, iv p3, iv p4, iv p5, iv 1, rv (A 0), iv f8, iv a9, iv b10, .unset, .unset, .unset, .unset, .unset, .unset, .unset] [(.int ((p5 &&& (65535 : Int32)).toUInt32.toUInt16.toUInt32.toInt32))])) (fun _ k => XS.istore X238.here hx rfl (D at_49) rfl (l' := #[iv p0, iv p1, iv p2, iv p3, iv p4, iv p5, iv 1, rv (A 0), iv f8, iv a9, iv b10, .unset, .unset, .unset, .unset, .unset, .unset, .unset]) rfl (XS.iload X238.here hx rfl (D at_51) rfl (X238.ldcInt hx hown (mvT hZ (own_w hw (i := 3) rfl)) (g := (mkF m 53 #[iv p0, iv p1, iv p2, iv p3, iv p4, iv p5, iv 1, rv (A 0), iv f8, iv a9, iv b10, .unset, .unset, .unset, .unset, .unset, .unset, .unset] [(.int p5)])) rfl (D at_53) _ (XS.iand X238.here hx rfl (D at_55) rfl (XS.i2c X238.here hx rfl (D at_56) rfl k))))) ?_
    generalize ed11 : (((p5 &&& (65535 : Int32)).toUInt32.toUInt16.toUInt32.toInt32) : Int32) = d11
    have ch11 : own_ch d11 := by rw [← ed11]; exact own_chi _
    refine GoS.of (T' := T238) (f' := (mkF m 66 #[iv p0, iv p1, iv p2, iv p3, iv p4, iv p5, iv 1, rv (A 0), iv f8, iv a9, iv b10, iv d11, .unset, .unset, .unset, .unset, .unset, .unset] [(.int ((p1 &&& (2147483647 : Int32)) % (9 : Int32)))])) (fun _ k => XS.istore X238.here hx rfl (D at_57) rfl (l' := #[iv p0, iv p1, iv p2, iv p3, iv p4, iv p5, iv 1, rv (A 0), iv f8, iv a9, iv b10, iv d11, .unset, .unset, .unset, .unset, .unset, .unset]) rfl (XS.iloadN X238.here hx rfl (D at_59) rfl (X238.ldcInt hx hown (mvT hZ (own_w hw (i := 4) rfl)) (g := (mkF m 60 #[iv p0, iv p1, iv p2, iv p3, iv p4, iv p5, iv 1, rv (A 0), iv f8, iv a9, iv b10, iv d11, .unset, .unset, .unset, .unset, .unset, .unset] [(.int p1)])) rfl (D at_60) _ (XS.iand X238.here hx rfl (D at_62) rfl (XS.bipush X238.here hx rfl (D at_63) (iremM X238 hx rfl (D at_65) rfl (by decide) k)))))) ?_
    generalize ez9 : (((p1 &&& (2147483647 : Int32)) % (9 : Int32)) : Int32) = z9
    obtain ⟨T239, v239, L239, X239, q239, st239⟩ := callSt X238 hx hZ (y := own_m63) hown (own_w hw (i := 5) rfl) (own_w hw (i := 6) rfl) (own_w hw (i := 7) rfl) (own_w hw (i := 8) rfl) (by decide) (rm_blank hw G z9 f8  h0 O0 (ch8)) e238 (W := 0) (by decide) (by decide) (by decide) (by decide) (g := (mkF m 68 #[iv p0, iv p1, iv p2, iv p3, iv p4, iv p5, iv 1, rv (A 0), iv f8, iv a9, iv b10, iv d11, .unset, .unset, .unset, .unset, .unset, .unset] [(.int f8), (.int z9)])) rfl (by rw [hml]; rfl) (argsL := [(.int z9), (.int f8)]) (rest := []) (lenOf pd65 rfl) rfl rfl (Nat.le_of_eq rfl) (D at_68)
    obtain ⟨va_239, kv_239, n_239, N_239, rfl, N239q, K239q, p239_0, p239_1, p239_2⟩ := q239
    have N239 := Fr.app N0 N239q
    have O241 := Old0.keep O0 K239q all0
    have C240 := CHr.trans C0 (CHr.keep K239q sf0 C0.1)
    have hk := Nat.le_trans hk K239q.1
    have g_va_239 : Z.heap.size ≤ va_239 := Nat.le_trans O0.1 p239_0
    obtain ⟨hn, hN⟩ := p239_2
    obtain ⟨cl242, Ar242, qk242, S242, Ng242, H242, G242⟩ := id p239_1
    refine GoS.of (T' := T239) (f' := (mkF m 81 #[iv p0, iv p1, iv p2, iv p3, iv p4, iv p5, iv 1, rv (A 0), iv f8, iv a9, iv b10, iv d11, rv va_239, iv n_239, .unset, .unset, .unset, .unset] [(.int 1), (.int n_239)])) (fun _ k => XS.iload X238.here hx rfl (D at_66) rfl (st239 _ (XS.astore X239.here hx rfl (D at_71) rfl rfl (l' := #[iv p0, iv p1, iv p2, iv p3, iv p4, iv p5, iv 1, rv (A 0), iv f8, iv a9, iv b10, iv d11, rv va_239, .unset, .unset, .unset, .unset, .unset]) rfl (XS.aload X239.here hx rfl (D at_73) rfl rfl (X239.arraylength hx Ar242.1 (State.isArrayOf_alike hZ.alike Ar242.2.1) (g := (mkF m 75 #[iv p0, iv p1, iv p2, iv p3, iv p4, iv p5, iv 1, rv (A 0), iv f8, iv a9, iv b10, iv d11, rv va_239, .unset, .unset, .unset, .unset, .unset] [(.ref va_239)])) rfl rfl (D at_75) _ (by rw [len_of S242 Ng242]; exact (XS.istore X239.here hx rfl (D at_76) rfl (l' := #[iv p0, iv p1, iv p2, iv p3, iv p4, iv p5, iv 1, rv (A 0), iv f8, iv a9, iv b10, iv d11, rv va_239, iv n_239, .unset, .unset, .unset, .unset]) rfl (XS.iload X239.here hx rfl (D at_78) rfl (XS.iconst X239.here hx rfl (D at_80) k))))))))) ?_
    by_cases hc243 : n_239 < (1 : Int32)
    · skip
      have hc244 : n_239 < (2 : Int32) := own_ltt hc243 (by decide)
      have hc245 : n_239 < (3 : Int32) := own_ltt hc243 (by decide)
      obtain ⟨T246, h246, b246, q246, X246, e246, E246, A246, D246, st246⟩ := newOb X239 hx hZ hown (own_w hw (i := 10) rfl) (own_w hw (i := 11) rfl) (own_w hw (i := 12) rfl) rfl (g := (mkF m 128 #[iv p0, iv p1, iv p2, iv p3, iv p4, iv p5, iv 1, rv (A 0), iv f8, iv a9, iv b10, iv d11, rv va_239, iv n_239, .unset, .unset, .unset, .unset] [(.ref (A 0))])) rfl (D at_128) (by decide) (by decide)
      have O248 := Old0.ext O241 E246
      have C247 := CHr.trans C240 (CHr.ext E246 C240.1)
      have hk := Nat.le_trans hk E246.1
      have g_b246 : Z.heap.size ≤ b246 := q246 ▸ O241.1
      have ne_va_239_b246 : va_239 ≠ b246 := q246 ▸ Nat.ne_of_lt p239_1.lt
      have f249 : Fld Z h246 b246 "java/lang/String" "coder" "B" (.int 0) := D246 (Or.inr (own_w hw (i := 36) rfl)) (ty := .byte) (by decide)
      have f250 : Fld Z h246 b246 "java/lang/String" "value" "[B" .null := D246 (Or.inr (own_w hw (i := 38) rfl)) (ty := (.array .byte)) (by decide)
      have f252 : Arv Z h246 va_239 kv_239 .char n_239 (own_fn N_239 (fun _ => f8)) (.int 0) := (Arv.ext p239_1 E246)
      refine GoS.of (T' := T246) (f' := (mkF m 134 #[iv p0, iv p1, iv p2, iv p3, iv p4, iv p5, iv 1, rv (A 0), iv f8, iv a9, iv b10, iv d11, rv va_239, iv n_239, .unset, .unset, .unset, .unset] [(.ref va_239), (.ref b246), (.ref b246), (.ref (A 0))])) (fun _ k => XS.icmpYes X239.here hx rfl (pc0 := 81) (pc' := 90) rfl (D at_81) rfl (tlt hc243).1 (by decide) (by decide) (XS.iload X239.here hx rfl (D at_90) rfl (XS.iconst X239.here hx rfl (D at_92) (XS.icmpYes X239.here hx rfl (pc0 := 93) (pc' := 105) rfl (D at_93) rfl (tlt hc244).1 (by decide) (by decide) (XS.iload X239.here hx rfl (D at_105) rfl (XS.iconst X239.here hx rfl (D at_107) (XS.icmpYes X239.here hx rfl (pc0 := 108) (pc' := 126) rfl (D at_108) rfl (tlt hc245).1 (by decide) (by decide) (XS.aload X239.here hx rfl (D at_126) rfl rfl (st246 _ (XS.dup X246.here hx rfl (D at_131) rfl rfl (XS.aload X246.here hx rfl (D at_132) rfl rfl k))))))))))) ?_
      obtain ⟨T251, v251, L251, X251, q251, hS, hg251, hZ, hown, Cq251, st251⟩ := callNewS X246 hx hZ (y := own_m26) rfl hS hk hEL C247.1 hown (own_w hw (i := 13) rfl) (own_w hw (i := 14) rfl) (own_w hw (i := 12) rfl) (own_w hw (i := 15) rfl) (by decide) (rm_strz hw G b246 va_239 n_239 kv_239 N_239 ((fun _ => f8)) h246 O248 (own_z1 hn hc243) A246 f250 f249 g_b246 f252) e246 (W := 2) (by decide) (by decide) (by decide) (by decide) (g := (mkF m 134 #[iv p0, iv p1, iv p2, iv p3, iv p4, iv p5, iv 1, rv (A 0), iv f8, iv a9, iv b10, iv d11, rv va_239, iv n_239, .unset, .unset, .unset, .unset] [(.ref va_239), (.ref b246), (.ref b246), (.ref (A 0))])) rfl (by rw [hml]; rfl) (a := b246) (argsL := [(.ref va_239)]) (rest := [(.ref b246), (.ref (A 0))]) (lenOf pd66 rfl) rfl rfl (Nat.le_of_eq rfl) (D at_134)
      obtain ⟨da_251, kd_251, rfl, N251q, K251q, p251_0, p251_1, p251_2⟩ := q251
      have N251 := Fr.app N239 N251q
      have O253 := Old0.keep O248 K251q (allS g_b246 all0)
      have C251 := CHr.trans C247 Cq251
      have hk := Nat.le_refl T251.heap.size
      have f255 : Exa Z T251.heap b246 "java/lang/String" := (Exa.keep A246 K251q)
      obtain ⟨T254, v254, L254, X254, q254, st254⟩ := callVi X251 hx hZ (y := own_m58) (z := own_m58) hown (own_w hw (i := 39) rfl) (own_w hw (i := 40) rfl) (notFace_of_selects (args := #[]) (mvT hZ (own_w hw (i := 42) rfl))) (own_w hw (i := 42) rfl) (own_w hw (i := 41) rfl) (own_w hw (i := 43) rfl) (own_w hw (i := 1) rfl) (by decide) (rm_accz hw G ((A 0)) b246 ((50 : Int32)) da_251 kd_251 T251.heap O253 (Fld.ext O253 F_s_TOPIC_minLength) (Fld.ext O253 F_s_TOPIC_maxLength) f255 p251_0 p251_1 p251_2) rfl (W := 0) (by decide) (by decide) (by decide) (by decide) (Exa.ext O253 E_s_TOPIC) (g := (mkF m 137 #[iv p0, iv p1, iv p2, iv p3, iv p4, iv p5, iv 1, rv (A 0), iv f8, iv a9, iv b10, iv d11, rv va_239, iv n_239, .unset, .unset, .unset, .unset] [(.ref b246), (.ref (A 0))])) rfl (by rw [hml]; rfl) (argsL := [(.ref b246)]) (rest := []) (lenOf pd67 rfl) rfl rfl (Nat.le_of_eq rfl) (D at_137)
      obtain ⟨rfl, e254, rfl⟩ := q254
      have N254 := Fr.app N251 (Fr.nil _)
      have hc257 : n_239 < (3 : Int32) := own_ltt hc243 (by decide)
      have hc258 : n_239 < (1 : Int32) := hc243
      have hc259 : n_239 < (2 : Int32) := own_ltt hc243 (by decide)
      have hc260 : n_239 < (3 : Int32) := own_ltt hc243 (by decide)
      refine GoS.of (T' := T254) (f' := (mkF m 221 #[iv p0, iv p1, iv p2, iv p3, iv p4, iv p5, iv 1, rv (A 0), iv f8, iv a9, iv b10, iv d11, rv va_239, iv n_239, iv 0, iv 50, iv 0, .unset] [(.int 4), (.int n_239)])) (fun _ k => st251 _ (st254 _ (XS.istore X254.here hx rfl (D at_140) rfl (l' := #[iv p0, iv p1, iv p2, iv p3, iv p4, iv p5, iv 1, rv (A 0), iv f8, iv a9, iv b10, iv d11, rv va_239, iv n_239, iv 0, .unset, .unset, .unset]) rfl (XS.iload X254.here hx rfl (D at_142) rfl (XS.ifNo X254.here hx rfl (D at_144) rfl ((if0 _ _).trans (feq (by decide : ¬ ((1 : Int32) = (0 : Int32)))).1) (XS.bipush X254.here hx rfl (D at_147) (XS.goto X254.here hx rfl (pc0 := 149) (pc' := 154) rfl (D at_149) (by decide) (by decide) (XS.istore X254.here hx rfl (D at_154) rfl (l' := #[iv p0, iv p1, iv p2, iv p3, iv p4, iv p5, iv 1, rv (A 0), iv f8, iv a9, iv b10, iv d11, rv va_239, iv n_239, iv 0, iv 50, .unset, .unset]) rfl (XS.iload X254.here hx rfl (D at_156) rfl (XS.iconst X254.here hx rfl (D at_158) (XS.icmpYes X254.here hx rfl (pc0 := 159) (pc' := 173) rfl (D at_159) rfl (tlt hc257).1 (by decide) (by decide) (XS.iconst X254.here hx rfl (D at_173) (XS.istore X254.here hx rfl (D at_174) rfl (l' := #[iv p0, iv p1, iv p2, iv p3, iv p4, iv p5, iv 1, rv (A 0), iv f8, iv a9, iv b10, iv d11, rv va_239, iv n_239, iv 0, iv 50, iv 0, .unset]) rfl (XS.iload X254.here hx rfl (D at_176) rfl (XS.iconst X254.here hx rfl (D at_178) (XS.icmpYes X254.here hx rfl (pc0 := 179) (pc' := 190) rfl (D at_179) rfl (tlt hc258).1 (by decide) (by decide) (XS.iload X254.here hx rfl (D at_190) rfl (XS.iconst X254.here hx rfl (D at_192) (XS.icmpYes X254.here hx rfl (pc0 := 193) (pc' := 204) rfl (D at_193) rfl (tlt hc259).1 (by decide) (by decide) (XS.iload X254.here hx rfl (D at_204) rfl (XS.iconst X254.here hx rfl (D at_206) (XS.icmpYes X254.here hx rfl (pc0 := 207) (pc' := 218) rfl (D at_207) rfl (tlt hc260).1 (by decide) (by decide) (XS.iload X254.here hx rfl (D at_218) rfl (XS.iconst X254.here hx rfl (D at_220) k)))))))))))))))))))))))) ?_
      have hc261 : n_239 < (4 : Int32) := own_ltt hc243 (by decide)
      refine GoS.of (T' := T254) (f' := (mkF m 264 #[iv p0, iv p1, iv p2, iv p3, iv p4, iv p5, iv 1, rv (A 0), iv f8, iv a9, iv b10, iv d11, rv va_239, iv n_239, iv 0, iv 50, iv 0, iv 1] [(.int 1)])) (fun _ k => XS.icmpYes X254.here hx rfl (pc0 := 221) (pc' := 232) rfl (D at_221) rfl (tlt hc261).1 (by decide) (by decide) (XS.iconst X254.here hx rfl (D at_232) (XS.goto X254.here hx rfl (pc0 := 233) (pc' := 237) rfl (D at_233) (by decide) (by decide) (XS.istore X254.here hx rfl (D at_237) rfl (l' := #[iv p0, iv p1, iv p2, iv p3, iv p4, iv p5, iv 1, rv (A 0), iv f8, iv a9, iv b10, iv d11, rv va_239, iv n_239, iv 0, iv 50, iv 0, iv 1]) rfl (XS.iload X254.here hx rfl (D at_239) rfl (XS.iload X254.here hx rfl (D at_241) rfl (XS.ifYes X254.here hx rfl (pc0 := 243) (pc' := 255) rfl (D at_243) rfl ((if0 _ _).trans (teq (by decide : (0 : Int32) = (0 : Int32))).1) (by decide) (by decide) (XS.iconst X254.here hx rfl (D at_255) (XS.icmpNo X254.here hx rfl (D at_256) rfl (teq (by decide : (0 : Int32) = (0 : Int32))).2 (XS.iconst X254.here hx rfl (D at_259) (XS.goto X254.here hx rfl (pc0 := 260) (pc' := 264) rfl (D at_260) (by decide) (by decide) k))))))))))) ?_
      exact GoS.retB X254 hx hlk hS hk hZ hEL C251 e254 hret (by simp) (D at_264) (by decide) (by decide) (z' := (1 : Int32)) rfl ⟨rfl, N254⟩
    · skip
      obtain ⟨cl264, Ar264, qk264, S264, Ng264, H264, G264⟩ := id p239_1
      obtain ⟨T264, h264, X264, e264, W264, st264⟩ := stC X239 hx hZ rfl Ar264 (j := (0 : Int32)) (inb_of S264 ⟨by decide, own_pos hc243⟩) (g := (mkF m 89 #[iv p0, iv p1, iv p2, iv p3, iv p4, iv p5, iv 1, rv (A 0), iv f8, iv a9, iv b10, iv d11, rv va_239, iv n_239, .unset, .unset, .unset, .unset] [(.int a9), (.int 0), (.ref va_239)])) rfl rfl (D at_89)
      have W264 : Wr T239.heap h264 va_239 ((0 : Int32)).toNatClampNeg (.int a9) := Eq.mp (congrArg (fun z => Wr T239.heap h264 va_239 ((0 : Int32)).toNatClampNeg (Value.int z)) (own_narch ch9)) W264
      have O266 := Old0.wr O241 W264 g_va_239
      have C265 := CHr.trans C240 (CHr.wr W264 (Safe.arv hZ.alike p239_1 (by decide)) C240.1)
      have hk := Nat.le_trans hk (Keep.of_wr W264).1
      have f264 : Arv Z h264 va_239 kv_239 .char n_239 ((own_fn N_239 (fun _ => f8)).set 0 (.int a9)) (.int 0) := Arv.set Ar264 qk264 S264 Ng264 H264 G264 (v := (.int a9)) (own_fitch ch9) W264 0 rfl (by rw [own_fnlen]; exact own_ge1 hn hc243)
      have N264 := Fr.snoc X264 N239 g_va_239
      have fu267 : Arv Z h264 va_239 kv_239 .char n_239 (own_fn N_239 (own_up (fun _ => f8) 0 a9)) (.int 0) := own_upA f264
      refine GoS.of (T' := T264) (f' := (mkF m 93 #[iv p0, iv p1, iv p2, iv p3, iv p4, iv p5, iv 1, rv (A 0), iv f8, iv a9, iv b10, iv d11, rv va_239, iv n_239, .unset, .unset, .unset, .unset] [(.int 2), (.int n_239)])) (fun _ k => XS.icmpNo X239.here hx rfl (D at_81) rfl (flt hc243).1 (XS.aload X239.here hx rfl (D at_84) rfl rfl (XS.iconst X239.here hx rfl (D at_86) (XS.iload X239.here hx rfl (D at_87) rfl (st264 _ (XS.iload X264.here hx rfl (D at_90) rfl (XS.iconst X264.here hx rfl (D at_92) k))))))) ?_
      by_cases hc268 : n_239 < (2 : Int32)
      · skip
        have hc269 : n_239 < (3 : Int32) := own_ltt hc268 (by decide)
        obtain ⟨T270, h270, b270, q270, X270, e270, E270, A270, D270, st270⟩ := newOb X264 hx hZ hown (own_w hw (i := 10) rfl) (own_w hw (i := 11) rfl) (own_w hw (i := 12) rfl) e264 (g := (mkF m 128 #[iv p0, iv p1, iv p2, iv p3, iv p4, iv p5, iv 1, rv (A 0), iv f8, iv a9, iv b10, iv d11, rv va_239, iv n_239, .unset, .unset, .unset, .unset] [(.ref (A 0))])) rfl (D at_128) (by decide) (by decide)
        have O272 := Old0.ext O266 E270
        have C271 := CHr.trans C265 (CHr.ext E270 C265.1)
        have hk := Nat.le_trans hk E270.1
        have g_b270 : Z.heap.size ≤ b270 := q270 ▸ O266.1
        have ne_va_239_b270 : va_239 ≠ b270 := q270 ▸ Nat.ne_of_lt fu267.lt
        have f273 : Fld Z h270 b270 "java/lang/String" "coder" "B" (.int 0) := D270 (Or.inr (own_w hw (i := 36) rfl)) (ty := .byte) (by decide)
        have f274 : Fld Z h270 b270 "java/lang/String" "value" "[B" .null := D270 (Or.inr (own_w hw (i := 38) rfl)) (ty := (.array .byte)) (by decide)
        have f276 : Arv Z h270 va_239 kv_239 .char n_239 (own_fn N_239 (own_up (fun _ => f8) 0 a9)) (.int 0) := (Arv.ext fu267 E270)
        obtain ⟨T275, v275, L275, X275, q275, st275⟩ := callNew X270 hx hZ (y := own_m26) rfl hown (own_w hw (i := 13) rfl) (own_w hw (i := 14) rfl) (own_w hw (i := 12) rfl) (own_w hw (i := 15) rfl) (by decide) (rm_str hw G b270 va_239 n_239 kv_239 N_239 ((own_up (fun _ => f8) 0 a9)) h270 O272 (hn) (hN) ((own_upch (fun _ => ch8) ch9)) (own_ge1 hn hc243) A270 f274 f273 g_b270 f276 (Ne.symm ne_va_239_b270)) e270 (W := 2) (by decide) (by decide) (by decide) (by decide) (g := (mkF m 134 #[iv p0, iv p1, iv p2, iv p3, iv p4, iv p5, iv 1, rv (A 0), iv f8, iv a9, iv b10, iv d11, rv va_239, iv n_239, .unset, .unset, .unset, .unset] [(.ref va_239), (.ref b270), (.ref b270), (.ref (A 0))])) rfl (by rw [hml]; rfl) (a := b270) (argsL := [(.ref va_239)]) (rest := [(.ref b270), (.ref (A 0))]) (lenOf pd66 rfl) rfl rfl (Nat.le_of_eq rfl) (D at_134)
        obtain ⟨da_275, kd_275, bn_275, M_275, gs_275, cd_275, rfl, N275q, K275q, p275_0, p275_1, p275_2, p275_3, p275_4⟩ := q275
        have N275 := Fr.app N264 N275q
        have sf278 : Safe Z own_EL s.vm h270 b270 := (Safe.ext E270 C265.1 (Safe.new (Nat.le_of_eq q270.symm)))
        have O279 := Old0.keep O272 K275q (allS g_b270 all0)
        have C277 := CHr.trans C271 (CHr.keep K275q (sfS sf278 sf0) C271.1)
        have hk := Nat.le_trans hk K275q.1
        have g_da_275 : Z.heap.size ≤ da_275 := Nat.le_trans O272.1 p275_0
        have ne_va_239_da_275 : va_239 ≠ da_275 := Nat.ne_of_lt (Nat.lt_of_lt_of_le f276.lt p275_0)
        have ne_b270_da_275 : b270 ≠ da_275 := Nat.ne_of_lt (Nat.lt_of_lt_of_le A270.lt p275_0)
        have f281 : Exa Z T275.heap b270 "java/lang/String" := (Exa.keep A270 K275q)
        obtain ⟨T280, v280, L280, X280, q280, st280⟩ := callVi X275 hx hZ (y := own_m58) (z := own_m58) hown (own_w hw (i := 39) rfl) (own_w hw (i := 40) rfl) (notFace_of_selects (args := #[]) (mvT hZ (own_w hw (i := 42) rfl))) (own_w hw (i := 42) rfl) (own_w hw (i := 41) rfl) (own_w hw (i := 43) rfl) (own_w hw (i := 1) rfl) (by decide) (rm_acc hw G ((A 0)) b270 ((50 : Int32)) da_275 kd_275 bn_275 M_275 gs_275 cd_275 n_239 N_239 ((own_up (fun _ => f8) 0 a9)) T275.heap O279 (hn) (hN) ((own_upch (fun _ => ch8) ch9)) (p275_4) (Fld.ext O279 F_s_TOPIC_minLength) (Fld.ext O279 F_s_TOPIC_maxLength) f281 p275_1 p275_2 p275_3) rfl (W := 0) (by decide) (by decide) (by decide) (by decide) (Exa.ext O279 E_s_TOPIC) (g := (mkF m 137 #[iv p0, iv p1, iv p2, iv p3, iv p4, iv p5, iv 1, rv (A 0), iv f8, iv a9, iv b10, iv d11, rv va_239, iv n_239, .unset, .unset, .unset, .unset] [(.ref b270), (.ref (A 0))])) rfl (by rw [hml]; rfl) (argsL := [(.ref b270)]) (rest := []) (lenOf pd67 rfl) rfl rfl (Nat.le_of_eq rfl) (D at_137)
        obtain ⟨r_280, rfl, N280q, K280q, p280_0⟩ := q280
        have N280 := Fr.app N275 N280q
        have O283 := Old0.keep O279 K280q all0
        have C282 := CHr.trans C277 (CHr.keep K280q sf0 C277.1)
        have hk := Nat.le_trans hk K280q.1
        have hc285 : n_239 < (3 : Int32) := own_ltt hc268 (by decide)
        have hc286 : ¬ (n_239 < (1 : Int32)) := hc243
        refine GoS.of (T' := T280) (f' := (mkF m 182 #[iv p0, iv p1, iv p2, iv p3, iv p4, iv p5, iv 1, rv (A 0), iv f8, iv a9, iv b10, iv d11, rv va_239, iv n_239, iv r_280, iv 50, iv 0, .unset] [])) (fun _ k => XS.icmpYes X264.here hx rfl (pc0 := 93) (pc' := 105) rfl (D at_93) rfl (tlt hc268).1 (by decide) (by decide) (XS.iload X264.here hx rfl (D at_105) rfl (XS.iconst X264.here hx rfl (D at_107) (XS.icmpYes X264.here hx rfl (pc0 := 108) (pc' := 126) rfl (D at_108) rfl (tlt hc269).1 (by decide) (by decide) (XS.aload X264.here hx rfl (D at_126) rfl rfl (st270 _ (XS.dup X270.here hx rfl (D at_131) rfl rfl (XS.aload X270.here hx rfl (D at_132) rfl rfl (st275 _ (st280 _ (XS.istore X280.here hx rfl (D at_140) rfl (l' := #[iv p0, iv p1, iv p2, iv p3, iv p4, iv p5, iv 1, rv (A 0), iv f8, iv a9, iv b10, iv d11, rv va_239, iv n_239, iv r_280, .unset, .unset, .unset]) rfl (XS.iload X280.here hx rfl (D at_142) rfl (XS.ifNo X280.here hx rfl (D at_144) rfl ((if0 _ _).trans (feq (by decide : ¬ ((1 : Int32) = (0 : Int32)))).1) (XS.bipush X280.here hx rfl (D at_147) (XS.goto X280.here hx rfl (pc0 := 149) (pc' := 154) rfl (D at_149) (by decide) (by decide) (XS.istore X280.here hx rfl (D at_154) rfl (l' := #[iv p0, iv p1, iv p2, iv p3, iv p4, iv p5, iv 1, rv (A 0), iv f8, iv a9, iv b10, iv d11, rv va_239, iv n_239, iv r_280, iv 50, .unset, .unset]) rfl (XS.iload X280.here hx rfl (D at_156) rfl (XS.iconst X280.here hx rfl (D at_158) (XS.icmpYes X280.here hx rfl (pc0 := 159) (pc' := 173) rfl (D at_159) rfl (tlt hc285).1 (by decide) (by decide) (XS.iconst X280.here hx rfl (D at_173) (XS.istore X280.here hx rfl (D at_174) rfl (l' := #[iv p0, iv p1, iv p2, iv p3, iv p4, iv p5, iv 1, rv (A 0), iv f8, iv a9, iv b10, iv d11, rv va_239, iv n_239, iv r_280, iv 50, iv 0, .unset]) rfl (XS.iload X280.here hx rfl (D at_176) rfl (XS.iconst X280.here hx rfl (D at_178) (XS.icmpNo X280.here hx rfl (D at_179) rfl (flt hc286).1 k)))))))))))))))))))))))) ?_
        obtain ⟨T287, v287, L287, X287, q287, st287⟩ := callSt X280 hx hZ (y := own_m56) hown (own_w hw (i := 83) rfl) (own_w hw (i := 84) rfl) (own_w hw (i := 7) rfl) (own_w hw (i := 85) rfl) (by decide) (rm_nc hw G a9  T280.heap O283 ) rfl (W := 0) (by decide) (by decide) (by decide) (by decide) (g := (mkF m 184 #[iv p0, iv p1, iv p2, iv p3, iv p4, iv p5, iv 1, rv (A 0), iv f8, iv a9, iv b10, iv d11, rv va_239, iv n_239, iv r_280, iv 50, iv 0, .unset] [(.int a9)])) rfl (by rw [hml]; rfl) (argsL := [(.int a9)]) (rest := []) (lenOf pd61 rfl) rfl rfl (Nat.le_of_eq rfl) (D at_184)
        obtain ⟨rfl, e287, rfl⟩ := q287
        have N287 := Fr.app N280 (Fr.nil _)
        refine GoS.of (T' := T287) (f' := (mkF m 187 #[iv p0, iv p1, iv p2, iv p3, iv p4, iv p5, iv 1, rv (A 0), iv f8, iv a9, iv b10, iv d11, rv va_239, iv n_239, iv r_280, iv 50, iv 0, .unset] [(.int (own_nm a9))])) (fun _ k => XS.iload X280.here hx rfl (D at_182) rfl (st287 _ k)) ?_
        by_cases hc288 : (own_nm a9) = (0 : Int32)
        · skip
          have hc290 : r_280 = (0 : Int32) := own_ar0 p280_0 (Or.inl hc269)
          refine GoS.of (T' := T287) (f' := (mkF m 264 #[iv p0, iv p1, iv p2, iv p3, iv p4, iv p5, iv 1, rv (A 0), iv f8, iv a9, iv b10, iv d11, rv va_239, iv n_239, iv r_280, iv 50, iv 0, iv 0] [(.int 1)])) (fun _ k => XS.ifYes X287.here hx rfl (pc0 := 187) (pc' := 236) rfl (D at_187) rfl ((if0 _ _).trans (teq hc288).1) (by decide) (by decide) (XS.iconst X287.here hx rfl (D at_236) (XS.istore X287.here hx rfl (D at_237) rfl (l' := #[iv p0, iv p1, iv p2, iv p3, iv p4, iv p5, iv 1, rv (A 0), iv f8, iv a9, iv b10, iv d11, rv va_239, iv n_239, iv r_280, iv 50, iv 0, iv 0]) rfl (XS.iload X287.here hx rfl (D at_239) rfl (XS.iload X287.here hx rfl (D at_241) rfl (XS.ifYes X287.here hx rfl (pc0 := 243) (pc' := 255) rfl (D at_243) rfl ((if0 _ _).trans (teq (by decide : (0 : Int32) = (0 : Int32))).1) (by decide) (by decide) (XS.iconst X287.here hx rfl (D at_255) (XS.icmpNo X287.here hx rfl (D at_256) rfl (teq hc290).2 (XS.iconst X287.here hx rfl (D at_259) (XS.goto X287.here hx rfl (pc0 := 260) (pc' := 264) rfl (D at_260) (by decide) (by decide) k)))))))))) ?_
          exact GoS.retB X287 hx hlk hS hk hZ hEL C282 e287 hret (by simp) (D at_264) (by decide) (by decide) (z' := (1 : Int32)) rfl ⟨rfl, N287⟩
        · skip
          have hc291 : n_239 < (2 : Int32) := hc268
          have hc292 : n_239 < (3 : Int32) := own_ltt hc268 (by decide)
          have hc293 : n_239 < (4 : Int32) := own_ltt hc268 (by decide)
          have hc295 : r_280 = (0 : Int32) := own_ar0 p280_0 (Or.inl hc269)
          refine GoS.of (T' := T287) (f' := (mkF m 264 #[iv p0, iv p1, iv p2, iv p3, iv p4, iv p5, iv 1, rv (A 0), iv f8, iv a9, iv b10, iv d11, rv va_239, iv n_239, iv r_280, iv 50, iv 0, iv 1] [(.int 1)])) (fun _ k => XS.ifNo X287.here hx rfl (D at_187) rfl ((if0 _ _).trans (feq hc288).1) (XS.iload X287.here hx rfl (D at_190) rfl (XS.iconst X287.here hx rfl (D at_192) (XS.icmpYes X287.here hx rfl (pc0 := 193) (pc' := 204) rfl (D at_193) rfl (tlt hc291).1 (by decide) (by decide) (XS.iload X287.here hx rfl (D at_204) rfl (XS.iconst X287.here hx rfl (D at_206) (XS.icmpYes X287.here hx rfl (pc0 := 207) (pc' := 218) rfl (D at_207) rfl (tlt hc292).1 (by decide) (by decide) (XS.iload X287.here hx rfl (D at_218) rfl (XS.iconst X287.here hx rfl (D at_220) (XS.icmpYes X287.here hx rfl (pc0 := 221) (pc' := 232) rfl (D at_221) rfl (tlt hc293).1 (by decide) (by decide) (XS.iconst X287.here hx rfl (D at_232) (XS.goto X287.here hx rfl (pc0 := 233) (pc' := 237) rfl (D at_233) (by decide) (by decide) (XS.istore X287.here hx rfl (D at_237) rfl (l' := #[iv p0, iv p1, iv p2, iv p3, iv p4, iv p5, iv 1, rv (A 0), iv f8, iv a9, iv b10, iv d11, rv va_239, iv n_239, iv r_280, iv 50, iv 0, iv 1]) rfl (XS.iload X287.here hx rfl (D at_239) rfl (XS.iload X287.here hx rfl (D at_241) rfl (XS.ifYes X287.here hx rfl (pc0 := 243) (pc' := 255) rfl (D at_243) rfl ((if0 _ _).trans (teq (by decide : (0 : Int32) = (0 : Int32))).1) (by decide) (by decide) (XS.iconst X287.here hx rfl (D at_255) (XS.icmpNo X287.here hx rfl (D at_256) rfl (teq hc295).2 (XS.iconst X287.here hx rfl (D at_259) (XS.goto X287.here hx rfl (pc0 := 260) (pc' := 264) rfl (D at_260) (by decide) (by decide) k)))))))))))))))))))) ?_
          exact GoS.retB X287 hx hlk hS hk hZ hEL C282 e287 hret (by simp) (D at_264) (by decide) (by decide) (z' := (1 : Int32)) rfl ⟨rfl, N287⟩
      · skip
        obtain ⟨cl296, Ar296, qk296, S296, Ng296, H296, G296⟩ := id fu267
        obtain ⟨T296, h296, X296, e296, W296, st296⟩ := stC X264 hx hZ e264 Ar296 (j := (n_239 - (1 : Int32))) (inb_of S296 ⟨(own_n1i hn (own_ge1 hn hc243) hN).1, (own_n1i hn (own_ge1 hn hc243) hN).2.1⟩) (g := (mkF m 104 #[iv p0, iv p1, iv p2, iv p3, iv p4, iv p5, iv 1, rv (A 0), iv f8, iv a9, iv b10, iv d11, rv va_239, iv n_239, .unset, .unset, .unset, .unset] [(.int b10), (.int (n_239 - (1 : Int32))), (.ref va_239)])) rfl rfl (D at_104)
        have W296 : Wr h264 h296 va_239 ((n_239 - (1 : Int32))).toNatClampNeg (.int b10) := Eq.mp (congrArg (fun z => Wr h264 h296 va_239 ((n_239 - (1 : Int32))).toNatClampNeg (Value.int z)) (own_narch ch10)) W296
        have O298 := Old0.wr O266 W296 g_va_239
        have C297 := CHr.trans C265 (CHr.wr W296 (Safe.arv hZ.alike fu267 (by decide)) C265.1)
        have hk := Nat.le_trans hk (Keep.of_wr W296).1
        have f296 : Arv Z h296 va_239 kv_239 .char n_239 ((own_fn N_239 (own_up (fun _ => f8) 0 a9)).set (N_239 - 1) (.int b10)) (.int 0) := Arv.set Ar296 qk296 S296 Ng296 H296 G296 (v := (.int b10)) (own_fitch ch10) W296 (N_239 - 1) (own_n1i hn (own_ge1 hn hc243) hN).2.2 (by rw [own_fnlen]; have := own_ge1 hn hc243; omega)
        have N296 := Fr.snoc X296 N264 g_va_239
        have fu299 : Arv Z h296 va_239 kv_239 .char n_239 (own_fn N_239 (own_up (own_up (fun _ => f8) 0 a9) (N_239 - 1) b10)) (.int 0) := own_upA f296
        refine GoS.of (T' := T296) (f' := (mkF m 108 #[iv p0, iv p1, iv p2, iv p3, iv p4, iv p5, iv 1, rv (A 0), iv f8, iv a9, iv b10, iv d11, rv va_239, iv n_239, .unset, .unset, .unset, .unset] [(.int 3), (.int n_239)])) (fun _ k => XS.icmpNo X264.here hx rfl (D at_93) rfl (flt hc268).1 (XS.aload X264.here hx rfl (D at_96) rfl rfl (XS.iload X264.here hx rfl (D at_98) rfl (XS.iconst X264.here hx rfl (D at_100) (XS.isub X264.here hx rfl (D at_101) rfl (XS.iload X264.here hx rfl (D at_102) rfl (st296 _ (XS.iload X296.here hx rfl (D at_105) rfl (XS.iconst X296.here hx rfl (D at_107) k))))))))) ?_
        by_cases hc300 : n_239 < (3 : Int32)
        · skip
          obtain ⟨T301, h301, b301, q301, X301, e301, E301, A301, D301, st301⟩ := newOb X296 hx hZ hown (own_w hw (i := 10) rfl) (own_w hw (i := 11) rfl) (own_w hw (i := 12) rfl) e296 (g := (mkF m 128 #[iv p0, iv p1, iv p2, iv p3, iv p4, iv p5, iv 1, rv (A 0), iv f8, iv a9, iv b10, iv d11, rv va_239, iv n_239, .unset, .unset, .unset, .unset] [(.ref (A 0))])) rfl (D at_128) (by decide) (by decide)
          have O303 := Old0.ext O298 E301
          have C302 := CHr.trans C297 (CHr.ext E301 C297.1)
          have hk := Nat.le_trans hk E301.1
          have g_b301 : Z.heap.size ≤ b301 := q301 ▸ O298.1
          have ne_va_239_b301 : va_239 ≠ b301 := q301 ▸ Nat.ne_of_lt fu299.lt
          have f304 : Fld Z h301 b301 "java/lang/String" "coder" "B" (.int 0) := D301 (Or.inr (own_w hw (i := 36) rfl)) (ty := .byte) (by decide)
          have f305 : Fld Z h301 b301 "java/lang/String" "value" "[B" .null := D301 (Or.inr (own_w hw (i := 38) rfl)) (ty := (.array .byte)) (by decide)
          have f307 : Arv Z h301 va_239 kv_239 .char n_239 (own_fn N_239 (own_up (own_up (fun _ => f8) 0 a9) (N_239 - 1) b10)) (.int 0) := (Arv.ext fu299 E301)
          obtain ⟨T306, v306, L306, X306, q306, st306⟩ := callNew X301 hx hZ (y := own_m26) rfl hown (own_w hw (i := 13) rfl) (own_w hw (i := 14) rfl) (own_w hw (i := 12) rfl) (own_w hw (i := 15) rfl) (by decide) (rm_str hw G b301 va_239 n_239 kv_239 N_239 ((own_up (own_up (fun _ => f8) 0 a9) (N_239 - 1) b10)) h301 O303 (hn) (hN) ((own_upch (own_upch (fun _ => ch8) ch9) ch10)) (own_ge1 hn hc243) A301 f305 f304 g_b301 f307 (Ne.symm ne_va_239_b301)) e301 (W := 2) (by decide) (by decide) (by decide) (by decide) (g := (mkF m 134 #[iv p0, iv p1, iv p2, iv p3, iv p4, iv p5, iv 1, rv (A 0), iv f8, iv a9, iv b10, iv d11, rv va_239, iv n_239, .unset, .unset, .unset, .unset] [(.ref va_239), (.ref b301), (.ref b301), (.ref (A 0))])) rfl (by rw [hml]; rfl) (a := b301) (argsL := [(.ref va_239)]) (rest := [(.ref b301), (.ref (A 0))]) (lenOf pd66 rfl) rfl rfl (Nat.le_of_eq rfl) (D at_134)
          obtain ⟨da_306, kd_306, bn_306, M_306, gs_306, cd_306, rfl, N306q, K306q, p306_0, p306_1, p306_2, p306_3, p306_4⟩ := q306
          have N306 := Fr.app N296 N306q
          have sf309 : Safe Z own_EL s.vm h301 b301 := (Safe.ext E301 C297.1 (Safe.new (Nat.le_of_eq q301.symm)))
          have O310 := Old0.keep O303 K306q (allS g_b301 all0)
          have C308 := CHr.trans C302 (CHr.keep K306q (sfS sf309 sf0) C302.1)
          have hk := Nat.le_trans hk K306q.1
          have g_da_306 : Z.heap.size ≤ da_306 := Nat.le_trans O303.1 p306_0
          have ne_va_239_da_306 : va_239 ≠ da_306 := Nat.ne_of_lt (Nat.lt_of_lt_of_le f307.lt p306_0)
          have ne_b301_da_306 : b301 ≠ da_306 := Nat.ne_of_lt (Nat.lt_of_lt_of_le A301.lt p306_0)
          have f312 : Exa Z T306.heap b301 "java/lang/String" := (Exa.keep A301 K306q)
          obtain ⟨T311, v311, L311, X311, q311, st311⟩ := callVi X306 hx hZ (y := own_m58) (z := own_m58) hown (own_w hw (i := 39) rfl) (own_w hw (i := 40) rfl) (notFace_of_selects (args := #[]) (mvT hZ (own_w hw (i := 42) rfl))) (own_w hw (i := 42) rfl) (own_w hw (i := 41) rfl) (own_w hw (i := 43) rfl) (own_w hw (i := 1) rfl) (by decide) (rm_acc hw G ((A 0)) b301 ((50 : Int32)) da_306 kd_306 bn_306 M_306 gs_306 cd_306 n_239 N_239 ((own_up (own_up (fun _ => f8) 0 a9) (N_239 - 1) b10)) T306.heap O310 (hn) (hN) ((own_upch (own_upch (fun _ => ch8) ch9) ch10)) (p306_4) (Fld.ext O310 F_s_TOPIC_minLength) (Fld.ext O310 F_s_TOPIC_maxLength) f312 p306_1 p306_2 p306_3) rfl (W := 0) (by decide) (by decide) (by decide) (by decide) (Exa.ext O310 E_s_TOPIC) (g := (mkF m 137 #[iv p0, iv p1, iv p2, iv p3, iv p4, iv p5, iv 1, rv (A 0), iv f8, iv a9, iv b10, iv d11, rv va_239, iv n_239, .unset, .unset, .unset, .unset] [(.ref b301), (.ref (A 0))])) rfl (by rw [hml]; rfl) (argsL := [(.ref b301)]) (rest := []) (lenOf pd67 rfl) rfl rfl (Nat.le_of_eq rfl) (D at_137)
          obtain ⟨r_311, rfl, N311q, K311q, p311_0⟩ := q311
          have N311 := Fr.app N306 N311q
          have O314 := Old0.keep O310 K311q all0
          have C313 := CHr.trans C308 (CHr.keep K311q sf0 C308.1)
          have hk := Nat.le_trans hk K311q.1
          have hc316 : n_239 < (3 : Int32) := hc300
          have hc317 : ¬ (n_239 < (1 : Int32)) := hc243
          obtain ⟨T318, v318, L318, X318, q318, st318⟩ := callSt X311 hx hZ (y := own_m56) hown (own_w hw (i := 83) rfl) (own_w hw (i := 84) rfl) (own_w hw (i := 7) rfl) (own_w hw (i := 85) rfl) (by decide) (rm_nc hw G a9  T311.heap O314 ) rfl (W := 0) (by decide) (by decide) (by decide) (by decide) (g := (mkF m 184 #[iv p0, iv p1, iv p2, iv p3, iv p4, iv p5, iv 1, rv (A 0), iv f8, iv a9, iv b10, iv d11, rv va_239, iv n_239, iv r_311, iv 50, iv 0, .unset] [(.int a9)])) rfl (by rw [hml]; rfl) (argsL := [(.int a9)]) (rest := []) (lenOf pd61 rfl) rfl rfl (Nat.le_of_eq rfl) (D at_184)
          obtain ⟨rfl, e318, rfl⟩ := q318
          have N318 := Fr.app N311 (Fr.nil _)
          refine GoS.of (T' := T318) (f' := (mkF m 187 #[iv p0, iv p1, iv p2, iv p3, iv p4, iv p5, iv 1, rv (A 0), iv f8, iv a9, iv b10, iv d11, rv va_239, iv n_239, iv r_311, iv 50, iv 0, .unset] [(.int (own_nm a9))])) (fun _ k => XS.icmpYes X296.here hx rfl (pc0 := 108) (pc' := 126) rfl (D at_108) rfl (tlt hc300).1 (by decide) (by decide) (XS.aload X296.here hx rfl (D at_126) rfl rfl (st301 _ (XS.dup X301.here hx rfl (D at_131) rfl rfl (XS.aload X301.here hx rfl (D at_132) rfl rfl (st306 _ (st311 _ (XS.istore X311.here hx rfl (D at_140) rfl (l' := #[iv p0, iv p1, iv p2, iv p3, iv p4, iv p5, iv 1, rv (A 0), iv f8, iv a9, iv b10, iv d11, rv va_239, iv n_239, iv r_311, .unset, .unset, .unset]) rfl (XS.iload X311.here hx rfl (D at_142) rfl (XS.ifNo X311.here hx rfl (D at_144) rfl ((if0 _ _).trans (feq (by decide : ¬ ((1 : Int32) = (0 : Int32)))).1) (XS.bipush X311.here hx rfl (D at_147) (XS.goto X311.here hx rfl (pc0 := 149) (pc' := 154) rfl (D at_149) (by decide) (by decide) (XS.istore X311.here hx rfl (D at_154) rfl (l' := #[iv p0, iv p1, iv p2, iv p3, iv p4, iv p5, iv 1, rv (A 0), iv f8, iv a9, iv b10, iv d11, rv va_239, iv n_239, iv r_311, iv 50, .unset, .unset]) rfl (XS.iload X311.here hx rfl (D at_156) rfl (XS.iconst X311.here hx rfl (D at_158) (XS.icmpYes X311.here hx rfl (pc0 := 159) (pc' := 173) rfl (D at_159) rfl (tlt hc316).1 (by decide) (by decide) (XS.iconst X311.here hx rfl (D at_173) (XS.istore X311.here hx rfl (D at_174) rfl (l' := #[iv p0, iv p1, iv p2, iv p3, iv p4, iv p5, iv 1, rv (A 0), iv f8, iv a9, iv b10, iv d11, rv va_239, iv n_239, iv r_311, iv 50, iv 0, .unset]) rfl (XS.iload X311.here hx rfl (D at_176) rfl (XS.iconst X311.here hx rfl (D at_178) (XS.icmpNo X311.here hx rfl (D at_179) rfl (flt hc317).1 (XS.iload X311.here hx rfl (D at_182) rfl (st318 _ k))))))))))))))))))))))) ?_
          by_cases hc319 : (own_nm a9) = (0 : Int32)
          · skip
            have hc321 : r_311 = (0 : Int32) := own_ar0 p311_0 (Or.inl hc300)
            refine GoS.of (T' := T318) (f' := (mkF m 264 #[iv p0, iv p1, iv p2, iv p3, iv p4, iv p5, iv 1, rv (A 0), iv f8, iv a9, iv b10, iv d11, rv va_239, iv n_239, iv r_311, iv 50, iv 0, iv 0] [(.int 1)])) (fun _ k => XS.ifYes X318.here hx rfl (pc0 := 187) (pc' := 236) rfl (D at_187) rfl ((if0 _ _).trans (teq hc319).1) (by decide) (by decide) (XS.iconst X318.here hx rfl (D at_236) (XS.istore X318.here hx rfl (D at_237) rfl (l' := #[iv p0, iv p1, iv p2, iv p3, iv p4, iv p5, iv 1, rv (A 0), iv f8, iv a9, iv b10, iv d11, rv va_239, iv n_239, iv r_311, iv 50, iv 0, iv 0]) rfl (XS.iload X318.here hx rfl (D at_239) rfl (XS.iload X318.here hx rfl (D at_241) rfl (XS.ifYes X318.here hx rfl (pc0 := 243) (pc' := 255) rfl (D at_243) rfl ((if0 _ _).trans (teq (by decide : (0 : Int32) = (0 : Int32))).1) (by decide) (by decide) (XS.iconst X318.here hx rfl (D at_255) (XS.icmpNo X318.here hx rfl (D at_256) rfl (teq hc321).2 (XS.iconst X318.here hx rfl (D at_259) (XS.goto X318.here hx rfl (pc0 := 260) (pc' := 264) rfl (D at_260) (by decide) (by decide) k)))))))))) ?_
            exact GoS.retB X318 hx hlk hS hk hZ hEL C313 e318 hret (by simp) (D at_264) (by decide) (by decide) (z' := (1 : Int32)) rfl ⟨rfl, N318⟩
          · skip
            have hc322 : ¬ (n_239 < (2 : Int32)) := hc268
            obtain ⟨T323, v323, L323, X323, q323, st323⟩ := callSt X318 hx hZ (y := own_m56) hown (own_w hw (i := 83) rfl) (own_w hw (i := 84) rfl) (own_w hw (i := 7) rfl) (own_w hw (i := 85) rfl) (by decide) (rm_nc hw G b10  T311.heap O314 ) e318 (W := 0) (by decide) (by decide) (by decide) (by decide) (g := (mkF m 198 #[iv p0, iv p1, iv p2, iv p3, iv p4, iv p5, iv 1, rv (A 0), iv f8, iv a9, iv b10, iv d11, rv va_239, iv n_239, iv r_311, iv 50, iv 0, .unset] [(.int b10)])) rfl (by rw [hml]; rfl) (argsL := [(.int b10)]) (rest := []) (lenOf pd61 rfl) rfl rfl (Nat.le_of_eq rfl) (D at_198)
            obtain ⟨rfl, e323, rfl⟩ := q323
            have N323 := Fr.app N318 (Fr.nil _)
            refine GoS.of (T' := T323) (f' := (mkF m 201 #[iv p0, iv p1, iv p2, iv p3, iv p4, iv p5, iv 1, rv (A 0), iv f8, iv a9, iv b10, iv d11, rv va_239, iv n_239, iv r_311, iv 50, iv 0, .unset] [(.int (own_nm b10))])) (fun _ k => XS.ifNo X318.here hx rfl (D at_187) rfl ((if0 _ _).trans (feq hc319).1) (XS.iload X318.here hx rfl (D at_190) rfl (XS.iconst X318.here hx rfl (D at_192) (XS.icmpNo X318.here hx rfl (D at_193) rfl (flt hc322).1 (XS.iload X318.here hx rfl (D at_196) rfl (st323 _ k)))))) ?_
            by_cases hc324 : (own_nm b10) = (0 : Int32)
            · skip
              have hc326 : r_311 = (0 : Int32) := own_ar0 p311_0 (Or.inl hc300)
              refine GoS.of (T' := T323) (f' := (mkF m 264 #[iv p0, iv p1, iv p2, iv p3, iv p4, iv p5, iv 1, rv (A 0), iv f8, iv a9, iv b10, iv d11, rv va_239, iv n_239, iv r_311, iv 50, iv 0, iv 0] [(.int 1)])) (fun _ k => XS.ifYes X323.here hx rfl (pc0 := 201) (pc' := 236) rfl (D at_201) rfl ((if0 _ _).trans (teq hc324).1) (by decide) (by decide) (XS.iconst X323.here hx rfl (D at_236) (XS.istore X323.here hx rfl (D at_237) rfl (l' := #[iv p0, iv p1, iv p2, iv p3, iv p4, iv p5, iv 1, rv (A 0), iv f8, iv a9, iv b10, iv d11, rv va_239, iv n_239, iv r_311, iv 50, iv 0, iv 0]) rfl (XS.iload X323.here hx rfl (D at_239) rfl (XS.iload X323.here hx rfl (D at_241) rfl (XS.ifYes X323.here hx rfl (pc0 := 243) (pc' := 255) rfl (D at_243) rfl ((if0 _ _).trans (teq (by decide : (0 : Int32) = (0 : Int32))).1) (by decide) (by decide) (XS.iconst X323.here hx rfl (D at_255) (XS.icmpNo X323.here hx rfl (D at_256) rfl (teq hc326).2 (XS.iconst X323.here hx rfl (D at_259) (XS.goto X323.here hx rfl (pc0 := 260) (pc' := 264) rfl (D at_260) (by decide) (by decide) k)))))))))) ?_
              exact GoS.retB X323 hx hlk hS hk hZ hEL C313 e323 hret (by simp) (D at_264) (by decide) (by decide) (z' := (1 : Int32)) rfl ⟨rfl, N323⟩
            · skip
              have hc327 : n_239 < (3 : Int32) := hc300
              have hc328 : n_239 < (4 : Int32) := own_ltt hc300 (by decide)
              have hc330 : r_311 = (0 : Int32) := own_ar0 p311_0 (Or.inl hc300)
              refine GoS.of (T' := T323) (f' := (mkF m 264 #[iv p0, iv p1, iv p2, iv p3, iv p4, iv p5, iv 1, rv (A 0), iv f8, iv a9, iv b10, iv d11, rv va_239, iv n_239, iv r_311, iv 50, iv 0, iv 1] [(.int 1)])) (fun _ k => XS.ifNo X323.here hx rfl (D at_201) rfl ((if0 _ _).trans (feq hc324).1) (XS.iload X323.here hx rfl (D at_204) rfl (XS.iconst X323.here hx rfl (D at_206) (XS.icmpYes X323.here hx rfl (pc0 := 207) (pc' := 218) rfl (D at_207) rfl (tlt hc327).1 (by decide) (by decide) (XS.iload X323.here hx rfl (D at_218) rfl (XS.iconst X323.here hx rfl (D at_220) (XS.icmpYes X323.here hx rfl (pc0 := 221) (pc' := 232) rfl (D at_221) rfl (tlt hc328).1 (by decide) (by decide) (XS.iconst X323.here hx rfl (D at_232) (XS.goto X323.here hx rfl (pc0 := 233) (pc' := 237) rfl (D at_233) (by decide) (by decide) (XS.istore X323.here hx rfl (D at_237) rfl (l' := #[iv p0, iv p1, iv p2, iv p3, iv p4, iv p5, iv 1, rv (A 0), iv f8, iv a9, iv b10, iv d11, rv va_239, iv n_239, iv r_311, iv 50, iv 0, iv 1]) rfl (XS.iload X323.here hx rfl (D at_239) rfl (XS.iload X323.here hx rfl (D at_241) rfl (XS.ifYes X323.here hx rfl (pc0 := 243) (pc' := 255) rfl (D at_243) rfl ((if0 _ _).trans (teq (by decide : (0 : Int32) = (0 : Int32))).1) (by decide) (by decide) (XS.iconst X323.here hx rfl (D at_255) (XS.icmpNo X323.here hx rfl (D at_256) rfl (teq hc330).2 (XS.iconst X323.here hx rfl (D at_259) (XS.goto X323.here hx rfl (pc0 := 260) (pc' := 264) rfl (D at_260) (by decide) (by decide) k))))))))))))))))) ?_
              exact GoS.retB X323 hx hlk hS hk hZ hEL C313 e323 hret (by simp) (D at_264) (by decide) (by decide) (z' := (1 : Int32)) rfl ⟨rfl, N323⟩
        · skip
          refine GoS.of (T' := T296) (f' := (mkF m 123 #[iv p0, iv p1, iv p2, iv p3, iv p4, iv p5, iv 1, rv (A 0), iv f8, iv a9, iv b10, iv d11, rv va_239, iv n_239, .unset, .unset, .unset, .unset] [(.int ((1 : Int32) + (((p0.toUInt32 >>> ((1 : Int32) &&& 31).toUInt32).toInt32) % (n_239 - (2 : Int32))))), (.ref va_239)])) (fun _ k => XS.icmpNo X296.here hx rfl (D at_108) rfl (flt hc300).1 (XS.aload X296.here hx rfl (D at_111) rfl rfl (XS.iconst X296.here hx rfl (D at_113) (XS.iloadN X296.here hx rfl (D at_114) rfl (XS.iconst X296.here hx rfl (D at_115) (XS.iushr X296.here hx rfl (D at_116) rfl (XS.iload X296.here hx rfl (D at_117) rfl (XS.iconst X296.here hx rfl (D at_119) (XS.isub X296.here hx rfl (D at_120) rfl (iremM X296 hx rfl (D at_121) rfl (own_n2z hn (own_ge3 hn hc300) hN) (XS.iadd X296.here hx rfl (D at_122) rfl k))))))))))) ?_
          generalize eq12 : (((1 : Int32) + (((p0.toUInt32 >>> ((1 : Int32) &&& 31).toUInt32).toInt32) % (n_239 - (2 : Int32)))) : Int32) = q12
          have hq : 1 ≤ q12.toInt ∧ q12.toInt < N_239 - 1 := by rw [← eq12]; exact own_mid hn (own_ge3 hn hc300) hN
          have hq2 := own_mid2 hn hq
          obtain ⟨cl331, Ar331, qk331, S331, Ng331, H331, G331⟩ := id fu299
          obtain ⟨T331, h331, X331, e331, W331, st331⟩ := stC X296 hx hZ e296 Ar331 (j := q12) (inb_of S331 ⟨hq2.1, hq2.2.1⟩) (g := (mkF m 125 #[iv p0, iv p1, iv p2, iv p3, iv p4, iv p5, iv 1, rv (A 0), iv f8, iv a9, iv b10, iv d11, rv va_239, iv n_239, .unset, .unset, .unset, .unset] [(.int d11), (.int q12), (.ref va_239)])) rfl rfl (D at_125)
          have W331 : Wr h296 h331 va_239 (q12).toNatClampNeg (.int d11) := Eq.mp (congrArg (fun z => Wr h296 h331 va_239 (q12).toNatClampNeg (Value.int z)) (own_narch ch11)) W331
          have O333 := Old0.wr O298 W331 g_va_239
          have C332 := CHr.trans C297 (CHr.wr W331 (Safe.arv hZ.alike fu299 (by decide)) C297.1)
          have hk := Nat.le_trans hk (Keep.of_wr W331).1
          have f331 : Arv Z h331 va_239 kv_239 .char n_239 ((own_fn N_239 (own_up (own_up (fun _ => f8) 0 a9) (N_239 - 1) b10)).set q12.toNatClampNeg (.int d11)) (.int 0) := Arv.set Ar331 qk331 S331 Ng331 H331 G331 (v := (.int d11)) (own_fitch ch11) W331 q12.toNatClampNeg rfl (by rw [own_fnlen]; exact hq2.2.2.1)
          have N331 := Fr.snoc X331 N296 g_va_239
          have fu334 : Arv Z h331 va_239 kv_239 .char n_239 (own_fn N_239 (own_lc f8 a9 b10 d11 N_239 q12.toNatClampNeg)) (.int 0) := own_upA f331
          obtain ⟨T335, h335, b335, q335, X335, e335, E335, A335, D335, st335⟩ := newOb X331 hx hZ hown (own_w hw (i := 10) rfl) (own_w hw (i := 11) rfl) (own_w hw (i := 12) rfl) e331 (g := (mkF m 128 #[iv p0, iv p1, iv p2, iv p3, iv p4, iv p5, iv 1, rv (A 0), iv f8, iv a9, iv b10, iv d11, rv va_239, iv n_239, .unset, .unset, .unset, .unset] [(.ref (A 0))])) rfl (D at_128) (by decide) (by decide)
          have O337 := Old0.ext O333 E335
          have C336 := CHr.trans C332 (CHr.ext E335 C332.1)
          have hk := Nat.le_trans hk E335.1
          have g_b335 : Z.heap.size ≤ b335 := q335 ▸ O333.1
          have ne_va_239_b335 : va_239 ≠ b335 := q335 ▸ Nat.ne_of_lt fu334.lt
          have f338 : Fld Z h335 b335 "java/lang/String" "coder" "B" (.int 0) := D335 (Or.inr (own_w hw (i := 36) rfl)) (ty := .byte) (by decide)
          have f339 : Fld Z h335 b335 "java/lang/String" "value" "[B" .null := D335 (Or.inr (own_w hw (i := 38) rfl)) (ty := (.array .byte)) (by decide)
          have f341 : Arv Z h335 va_239 kv_239 .char n_239 (own_fn N_239 (own_lc f8 a9 b10 d11 N_239 q12.toNatClampNeg)) (.int 0) := (Arv.ext fu334 E335)
          obtain ⟨T340, v340, L340, X340, q340, st340⟩ := callNew X335 hx hZ (y := own_m26) rfl hown (own_w hw (i := 13) rfl) (own_w hw (i := 14) rfl) (own_w hw (i := 12) rfl) (own_w hw (i := 15) rfl) (by decide) (rm_str hw G b335 va_239 n_239 kv_239 N_239 ((own_lc f8 a9 b10 d11 N_239 q12.toNatClampNeg)) h335 O337 (hn) (hN) ((own_upch (own_upch (own_upch (fun _ => ch8) ch9) ch10) ch11)) (own_ge1 hn hc243) A335 f339 f338 g_b335 f341 (Ne.symm ne_va_239_b335)) e335 (W := 2) (by decide) (by decide) (by decide) (by decide) (g := (mkF m 134 #[iv p0, iv p1, iv p2, iv p3, iv p4, iv p5, iv 1, rv (A 0), iv f8, iv a9, iv b10, iv d11, rv va_239, iv n_239, .unset, .unset, .unset, .unset] [(.ref va_239), (.ref b335), (.ref b335), (.ref (A 0))])) rfl (by rw [hml]; rfl) (a := b335) (argsL := [(.ref va_239)]) (rest := [(.ref b335), (.ref (A 0))]) (lenOf pd66 rfl) rfl rfl (Nat.le_of_eq rfl) (D at_134)
          obtain ⟨da_340, kd_340, bn_340, M_340, gs_340, cd_340, rfl, N340q, K340q, p340_0, p340_1, p340_2, p340_3, p340_4⟩ := q340
          have N340 := Fr.app N331 N340q
          have sf343 : Safe Z own_EL s.vm h335 b335 := (Safe.ext E335 C332.1 (Safe.new (Nat.le_of_eq q335.symm)))
          have O344 := Old0.keep O337 K340q (allS g_b335 all0)
          have C342 := CHr.trans C336 (CHr.keep K340q (sfS sf343 sf0) C336.1)
          have hk := Nat.le_trans hk K340q.1
          have g_da_340 : Z.heap.size ≤ da_340 := Nat.le_trans O337.1 p340_0
          have ne_va_239_da_340 : va_239 ≠ da_340 := Nat.ne_of_lt (Nat.lt_of_lt_of_le f341.lt p340_0)
          have ne_b335_da_340 : b335 ≠ da_340 := Nat.ne_of_lt (Nat.lt_of_lt_of_le A335.lt p340_0)
          have f346 : Exa Z T340.heap b335 "java/lang/String" := (Exa.keep A335 K340q)
          obtain ⟨T345, v345, L345, X345, q345, st345⟩ := callVi X340 hx hZ (y := own_m58) (z := own_m58) hown (own_w hw (i := 39) rfl) (own_w hw (i := 40) rfl) (notFace_of_selects (args := #[]) (mvT hZ (own_w hw (i := 42) rfl))) (own_w hw (i := 42) rfl) (own_w hw (i := 41) rfl) (own_w hw (i := 43) rfl) (own_w hw (i := 1) rfl) (by decide) (rm_acc hw G ((A 0)) b335 ((50 : Int32)) da_340 kd_340 bn_340 M_340 gs_340 cd_340 n_239 N_239 ((own_lc f8 a9 b10 d11 N_239 q12.toNatClampNeg)) T340.heap O344 (hn) (hN) ((own_upch (own_upch (own_upch (fun _ => ch8) ch9) ch10) ch11)) (p340_4) (Fld.ext O344 F_s_TOPIC_minLength) (Fld.ext O344 F_s_TOPIC_maxLength) f346 p340_1 p340_2 p340_3) rfl (W := 0) (by decide) (by decide) (by decide) (by decide) (Exa.ext O344 E_s_TOPIC) (g := (mkF m 137 #[iv p0, iv p1, iv p2, iv p3, iv p4, iv p5, iv 1, rv (A 0), iv f8, iv a9, iv b10, iv d11, rv va_239, iv n_239, .unset, .unset, .unset, .unset] [(.ref b335), (.ref (A 0))])) rfl (by rw [hml]; rfl) (argsL := [(.ref b335)]) (rest := []) (lenOf pd67 rfl) rfl rfl (Nat.le_of_eq rfl) (D at_137)
          obtain ⟨r_345, rfl, N345q, K345q, p345_0⟩ := q345
          have N345 := Fr.app N340 N345q
          have O348 := Old0.keep O344 K345q all0
          have C347 := CHr.trans C342 (CHr.keep K345q sf0 C342.1)
          have hk := Nat.le_trans hk K345q.1
          have hc350 : ¬ (n_239 < (3 : Int32)) := hc300
          refine GoS.of (T' := T345) (f' := (mkF m 166 #[iv p0, iv p1, iv p2, iv p3, iv p4, iv p5, iv 1, rv (A 0), iv f8, iv a9, iv b10, iv d11, rv va_239, iv n_239, iv r_345, iv 50, .unset, .unset] [(.int 50), (.int n_239)])) (fun _ k => XS.iload X296.here hx rfl (D at_123) rfl (st331 _ (XS.aload X331.here hx rfl (D at_126) rfl rfl (st335 _ (XS.dup X335.here hx rfl (D at_131) rfl rfl (XS.aload X335.here hx rfl (D at_132) rfl rfl (st340 _ (st345 _ (XS.istore X345.here hx rfl (D at_140) rfl (l' := #[iv p0, iv p1, iv p2, iv p3, iv p4, iv p5, iv 1, rv (A 0), iv f8, iv a9, iv b10, iv d11, rv va_239, iv n_239, iv r_345, .unset, .unset, .unset]) rfl (XS.iload X345.here hx rfl (D at_142) rfl (XS.ifNo X345.here hx rfl (D at_144) rfl ((if0 _ _).trans (feq (by decide : ¬ ((1 : Int32) = (0 : Int32)))).1) (XS.bipush X345.here hx rfl (D at_147) (XS.goto X345.here hx rfl (pc0 := 149) (pc' := 154) rfl (D at_149) (by decide) (by decide) (XS.istore X345.here hx rfl (D at_154) rfl (l' := #[iv p0, iv p1, iv p2, iv p3, iv p4, iv p5, iv 1, rv (A 0), iv f8, iv a9, iv b10, iv d11, rv va_239, iv n_239, iv r_345, iv 50, .unset, .unset]) rfl (XS.iload X345.here hx rfl (D at_156) rfl (XS.iconst X345.here hx rfl (D at_158) (XS.icmpNo X345.here hx rfl (D at_159) rfl (flt hc350).1 (XS.iload X345.here hx rfl (D at_162) rfl (XS.iload X345.here hx rfl (D at_164) rfl k))))))))))))))))))) ?_
          by_cases hc351 : (50 : Int32) < n_239
          · skip
            have hc352 : ¬ (n_239 < (1 : Int32)) := hc243
            obtain ⟨T353, v353, L353, X353, q353, st353⟩ := callSt X345 hx hZ (y := own_m56) hown (own_w hw (i := 83) rfl) (own_w hw (i := 84) rfl) (own_w hw (i := 7) rfl) (own_w hw (i := 85) rfl) (by decide) (rm_nc hw G a9  T345.heap O348 ) rfl (W := 0) (by decide) (by decide) (by decide) (by decide) (g := (mkF m 184 #[iv p0, iv p1, iv p2, iv p3, iv p4, iv p5, iv 1, rv (A 0), iv f8, iv a9, iv b10, iv d11, rv va_239, iv n_239, iv r_345, iv 50, iv 0, .unset] [(.int a9)])) rfl (by rw [hml]; rfl) (argsL := [(.int a9)]) (rest := []) (lenOf pd61 rfl) rfl rfl (Nat.le_of_eq rfl) (D at_184)
            obtain ⟨rfl, e353, rfl⟩ := q353
            have N353 := Fr.app N345 (Fr.nil _)
            refine GoS.of (T' := T353) (f' := (mkF m 187 #[iv p0, iv p1, iv p2, iv p3, iv p4, iv p5, iv 1, rv (A 0), iv f8, iv a9, iv b10, iv d11, rv va_239, iv n_239, iv r_345, iv 50, iv 0, .unset] [(.int (own_nm a9))])) (fun _ k => XS.icmpYes X345.here hx rfl (pc0 := 166) (pc' := 173) rfl (D at_166) rfl (tlt hc351).2.2.1 (by decide) (by decide) (XS.iconst X345.here hx rfl (D at_173) (XS.istore X345.here hx rfl (D at_174) rfl (l' := #[iv p0, iv p1, iv p2, iv p3, iv p4, iv p5, iv 1, rv (A 0), iv f8, iv a9, iv b10, iv d11, rv va_239, iv n_239, iv r_345, iv 50, iv 0, .unset]) rfl (XS.iload X345.here hx rfl (D at_176) rfl (XS.iconst X345.here hx rfl (D at_178) (XS.icmpNo X345.here hx rfl (D at_179) rfl (flt hc352).1 (XS.iload X345.here hx rfl (D at_182) rfl (st353 _ k)))))))) ?_
            by_cases hc354 : (own_nm a9) = (0 : Int32)
            · skip
              have hc356 : r_345 = (0 : Int32) := own_ar0 p345_0 (Or.inr (Or.inl hc351))
              refine GoS.of (T' := T353) (f' := (mkF m 264 #[iv p0, iv p1, iv p2, iv p3, iv p4, iv p5, iv 1, rv (A 0), iv f8, iv a9, iv b10, iv d11, rv va_239, iv n_239, iv r_345, iv 50, iv 0, iv 0] [(.int 1)])) (fun _ k => XS.ifYes X353.here hx rfl (pc0 := 187) (pc' := 236) rfl (D at_187) rfl ((if0 _ _).trans (teq hc354).1) (by decide) (by decide) (XS.iconst X353.here hx rfl (D at_236) (XS.istore X353.here hx rfl (D at_237) rfl (l' := #[iv p0, iv p1, iv p2, iv p3, iv p4, iv p5, iv 1, rv (A 0), iv f8, iv a9, iv b10, iv d11, rv va_239, iv n_239, iv r_345, iv 50, iv 0, iv 0]) rfl (XS.iload X353.here hx rfl (D at_239) rfl (XS.iload X353.here hx rfl (D at_241) rfl (XS.ifYes X353.here hx rfl (pc0 := 243) (pc' := 255) rfl (D at_243) rfl ((if0 _ _).trans (teq (by decide : (0 : Int32) = (0 : Int32))).1) (by decide) (by decide) (XS.iconst X353.here hx rfl (D at_255) (XS.icmpNo X353.here hx rfl (D at_256) rfl (teq hc356).2 (XS.iconst X353.here hx rfl (D at_259) (XS.goto X353.here hx rfl (pc0 := 260) (pc' := 264) rfl (D at_260) (by decide) (by decide) k)))))))))) ?_
              exact GoS.retB X353 hx hlk hS hk hZ hEL C347 e353 hret (by simp) (D at_264) (by decide) (by decide) (z' := (1 : Int32)) rfl ⟨rfl, N353⟩
            · skip
              have hc357 : ¬ (n_239 < (2 : Int32)) := hc268
              obtain ⟨T358, v358, L358, X358, q358, st358⟩ := callSt X353 hx hZ (y := own_m56) hown (own_w hw (i := 83) rfl) (own_w hw (i := 84) rfl) (own_w hw (i := 7) rfl) (own_w hw (i := 85) rfl) (by decide) (rm_nc hw G b10  T345.heap O348 ) e353 (W := 0) (by decide) (by decide) (by decide) (by decide) (g := (mkF m 198 #[iv p0, iv p1, iv p2, iv p3, iv p4, iv p5, iv 1, rv (A 0), iv f8, iv a9, iv b10, iv d11, rv va_239, iv n_239, iv r_345, iv 50, iv 0, .unset] [(.int b10)])) rfl (by rw [hml]; rfl) (argsL := [(.int b10)]) (rest := []) (lenOf pd61 rfl) rfl rfl (Nat.le_of_eq rfl) (D at_198)
              obtain ⟨rfl, e358, rfl⟩ := q358
              have N358 := Fr.app N353 (Fr.nil _)
              refine GoS.of (T' := T358) (f' := (mkF m 201 #[iv p0, iv p1, iv p2, iv p3, iv p4, iv p5, iv 1, rv (A 0), iv f8, iv a9, iv b10, iv d11, rv va_239, iv n_239, iv r_345, iv 50, iv 0, .unset] [(.int (own_nm b10))])) (fun _ k => XS.ifNo X353.here hx rfl (D at_187) rfl ((if0 _ _).trans (feq hc354).1) (XS.iload X353.here hx rfl (D at_190) rfl (XS.iconst X353.here hx rfl (D at_192) (XS.icmpNo X353.here hx rfl (D at_193) rfl (flt hc357).1 (XS.iload X353.here hx rfl (D at_196) rfl (st358 _ k)))))) ?_
              by_cases hc359 : (own_nm b10) = (0 : Int32)
              · skip
                have hc361 : r_345 = (0 : Int32) := own_ar0 p345_0 (Or.inr (Or.inl hc351))
                refine GoS.of (T' := T358) (f' := (mkF m 264 #[iv p0, iv p1, iv p2, iv p3, iv p4, iv p5, iv 1, rv (A 0), iv f8, iv a9, iv b10, iv d11, rv va_239, iv n_239, iv r_345, iv 50, iv 0, iv 0] [(.int 1)])) (fun _ k => XS.ifYes X358.here hx rfl (pc0 := 201) (pc' := 236) rfl (D at_201) rfl ((if0 _ _).trans (teq hc359).1) (by decide) (by decide) (XS.iconst X358.here hx rfl (D at_236) (XS.istore X358.here hx rfl (D at_237) rfl (l' := #[iv p0, iv p1, iv p2, iv p3, iv p4, iv p5, iv 1, rv (A 0), iv f8, iv a9, iv b10, iv d11, rv va_239, iv n_239, iv r_345, iv 50, iv 0, iv 0]) rfl (XS.iload X358.here hx rfl (D at_239) rfl (XS.iload X358.here hx rfl (D at_241) rfl (XS.ifYes X358.here hx rfl (pc0 := 243) (pc' := 255) rfl (D at_243) rfl ((if0 _ _).trans (teq (by decide : (0 : Int32) = (0 : Int32))).1) (by decide) (by decide) (XS.iconst X358.here hx rfl (D at_255) (XS.icmpNo X358.here hx rfl (D at_256) rfl (teq hc361).2 (XS.iconst X358.here hx rfl (D at_259) (XS.goto X358.here hx rfl (pc0 := 260) (pc' := 264) rfl (D at_260) (by decide) (by decide) k)))))))))) ?_
                exact GoS.retB X358 hx hlk hS hk hZ hEL C347 e358 hret (by simp) (D at_264) (by decide) (by decide) (z' := (1 : Int32)) rfl ⟨rfl, N358⟩
              · skip
                have hc362 : ¬ (n_239 < (3 : Int32)) := hc300
                obtain ⟨T363, v363, L363, X363, q363, st363⟩ := callSt X358 hx hZ (y := own_m56) hown (own_w hw (i := 83) rfl) (own_w hw (i := 84) rfl) (own_w hw (i := 7) rfl) (own_w hw (i := 85) rfl) (by decide) (rm_nc hw G d11  T345.heap O348 ) e358 (W := 0) (by decide) (by decide) (by decide) (by decide) (g := (mkF m 212 #[iv p0, iv p1, iv p2, iv p3, iv p4, iv p5, iv 1, rv (A 0), iv f8, iv a9, iv b10, iv d11, rv va_239, iv n_239, iv r_345, iv 50, iv 0, .unset] [(.int d11)])) rfl (by rw [hml]; rfl) (argsL := [(.int d11)]) (rest := []) (lenOf pd61 rfl) rfl rfl (Nat.le_of_eq rfl) (D at_212)
                obtain ⟨rfl, e363, rfl⟩ := q363
                have N363 := Fr.app N358 (Fr.nil _)
                refine GoS.of (T' := T363) (f' := (mkF m 215 #[iv p0, iv p1, iv p2, iv p3, iv p4, iv p5, iv 1, rv (A 0), iv f8, iv a9, iv b10, iv d11, rv va_239, iv n_239, iv r_345, iv 50, iv 0, .unset] [(.int (own_nm d11))])) (fun _ k => XS.ifNo X358.here hx rfl (D at_201) rfl ((if0 _ _).trans (feq hc359).1) (XS.iload X358.here hx rfl (D at_204) rfl (XS.iconst X358.here hx rfl (D at_206) (XS.icmpNo X358.here hx rfl (D at_207) rfl (flt hc362).1 (XS.iload X358.here hx rfl (D at_210) rfl (st363 _ k)))))) ?_
                by_cases hc364 : (own_nm d11) = (0 : Int32)
                · skip
                  have hc366 : r_345 = (0 : Int32) := own_ar0 p345_0 (Or.inr (Or.inl hc351))
                  refine GoS.of (T' := T363) (f' := (mkF m 264 #[iv p0, iv p1, iv p2, iv p3, iv p4, iv p5, iv 1, rv (A 0), iv f8, iv a9, iv b10, iv d11, rv va_239, iv n_239, iv r_345, iv 50, iv 0, iv 0] [(.int 1)])) (fun _ k => XS.ifYes X363.here hx rfl (pc0 := 215) (pc' := 236) rfl (D at_215) rfl ((if0 _ _).trans (teq hc364).1) (by decide) (by decide) (XS.iconst X363.here hx rfl (D at_236) (XS.istore X363.here hx rfl (D at_237) rfl (l' := #[iv p0, iv p1, iv p2, iv p3, iv p4, iv p5, iv 1, rv (A 0), iv f8, iv a9, iv b10, iv d11, rv va_239, iv n_239, iv r_345, iv 50, iv 0, iv 0]) rfl (XS.iload X363.here hx rfl (D at_239) rfl (XS.iload X363.here hx rfl (D at_241) rfl (XS.ifYes X363.here hx rfl (pc0 := 243) (pc' := 255) rfl (D at_243) rfl ((if0 _ _).trans (teq (by decide : (0 : Int32) = (0 : Int32))).1) (by decide) (by decide) (XS.iconst X363.here hx rfl (D at_255) (XS.icmpNo X363.here hx rfl (D at_256) rfl (teq hc366).2 (XS.iconst X363.here hx rfl (D at_259) (XS.goto X363.here hx rfl (pc0 := 260) (pc' := 264) rfl (D at_260) (by decide) (by decide) k)))))))))) ?_
                  exact GoS.retB X363 hx hlk hS hk hZ hEL C347 e363 hret (by simp) (D at_264) (by decide) (by decide) (z' := (1 : Int32)) rfl ⟨rfl, N363⟩
                · skip
                  refine GoS.of (T' := T363) (f' := (mkF m 221 #[iv p0, iv p1, iv p2, iv p3, iv p4, iv p5, iv 1, rv (A 0), iv f8, iv a9, iv b10, iv d11, rv va_239, iv n_239, iv r_345, iv 50, iv 0, .unset] [(.int 4), (.int n_239)])) (fun _ k => XS.ifNo X363.here hx rfl (D at_215) rfl ((if0 _ _).trans (feq hc364).1) (XS.iload X363.here hx rfl (D at_218) rfl (XS.iconst X363.here hx rfl (D at_220) k))) ?_
                  by_cases hc367 : n_239 < (4 : Int32)
                  · skip
                    have hc369 : r_345 = (0 : Int32) := own_ar0 p345_0 (Or.inr (Or.inl hc351))
                    refine GoS.of (T' := T363) (f' := (mkF m 264 #[iv p0, iv p1, iv p2, iv p3, iv p4, iv p5, iv 1, rv (A 0), iv f8, iv a9, iv b10, iv d11, rv va_239, iv n_239, iv r_345, iv 50, iv 0, iv 1] [(.int 1)])) (fun _ k => XS.icmpYes X363.here hx rfl (pc0 := 221) (pc' := 232) rfl (D at_221) rfl (tlt hc367).1 (by decide) (by decide) (XS.iconst X363.here hx rfl (D at_232) (XS.goto X363.here hx rfl (pc0 := 233) (pc' := 237) rfl (D at_233) (by decide) (by decide) (XS.istore X363.here hx rfl (D at_237) rfl (l' := #[iv p0, iv p1, iv p2, iv p3, iv p4, iv p5, iv 1, rv (A 0), iv f8, iv a9, iv b10, iv d11, rv va_239, iv n_239, iv r_345, iv 50, iv 0, iv 1]) rfl (XS.iload X363.here hx rfl (D at_239) rfl (XS.iload X363.here hx rfl (D at_241) rfl (XS.ifYes X363.here hx rfl (pc0 := 243) (pc' := 255) rfl (D at_243) rfl ((if0 _ _).trans (teq (by decide : (0 : Int32) = (0 : Int32))).1) (by decide) (by decide) (XS.iconst X363.here hx rfl (D at_255) (XS.icmpNo X363.here hx rfl (D at_256) rfl (teq hc369).2 (XS.iconst X363.here hx rfl (D at_259) (XS.goto X363.here hx rfl (pc0 := 260) (pc' := 264) rfl (D at_260) (by decide) (by decide) k))))))))))) ?_
                    exact GoS.retB X363 hx hlk hS hk hZ hEL C347 e363 hret (by simp) (D at_264) (by decide) (by decide) (z' := (1 : Int32)) rfl ⟨rfl, N363⟩
                  · skip
                    obtain ⟨T370, v370, L370, X370, q370, st370⟩ := callSt X363 hx hZ (y := own_m56) hown (own_w hw (i := 83) rfl) (own_w hw (i := 84) rfl) (own_w hw (i := 7) rfl) (own_w hw (i := 85) rfl) (by decide) (rm_nc hw G f8  T345.heap O348 ) e363 (W := 0) (by decide) (by decide) (by decide) (by decide) (g := (mkF m 226 #[iv p0, iv p1, iv p2, iv p3, iv p4, iv p5, iv 1, rv (A 0), iv f8, iv a9, iv b10, iv d11, rv va_239, iv n_239, iv r_345, iv 50, iv 0, .unset] [(.int f8)])) rfl (by rw [hml]; rfl) (argsL := [(.int f8)]) (rest := []) (lenOf pd61 rfl) rfl rfl (Nat.le_of_eq rfl) (D at_226)
                    obtain ⟨rfl, e370, rfl⟩ := q370
                    have N370 := Fr.app N363 (Fr.nil _)
                    refine GoS.of (T' := T370) (f' := (mkF m 229 #[iv p0, iv p1, iv p2, iv p3, iv p4, iv p5, iv 1, rv (A 0), iv f8, iv a9, iv b10, iv d11, rv va_239, iv n_239, iv r_345, iv 50, iv 0, .unset] [(.int (own_nm f8))])) (fun _ k => XS.icmpNo X363.here hx rfl (D at_221) rfl (flt hc367).1 (XS.iload X363.here hx rfl (D at_224) rfl (st370 _ k))) ?_
                    by_cases hc371 : (own_nm f8) = (0 : Int32)
                    · skip
                      have hc373 : r_345 = (0 : Int32) := own_ar0 p345_0 (Or.inr (Or.inl hc351))
                      refine GoS.of (T' := T370) (f' := (mkF m 264 #[iv p0, iv p1, iv p2, iv p3, iv p4, iv p5, iv 1, rv (A 0), iv f8, iv a9, iv b10, iv d11, rv va_239, iv n_239, iv r_345, iv 50, iv 0, iv 0] [(.int 1)])) (fun _ k => XS.ifYes X370.here hx rfl (pc0 := 229) (pc' := 236) rfl (D at_229) rfl ((if0 _ _).trans (teq hc371).1) (by decide) (by decide) (XS.iconst X370.here hx rfl (D at_236) (XS.istore X370.here hx rfl (D at_237) rfl (l' := #[iv p0, iv p1, iv p2, iv p3, iv p4, iv p5, iv 1, rv (A 0), iv f8, iv a9, iv b10, iv d11, rv va_239, iv n_239, iv r_345, iv 50, iv 0, iv 0]) rfl (XS.iload X370.here hx rfl (D at_239) rfl (XS.iload X370.here hx rfl (D at_241) rfl (XS.ifYes X370.here hx rfl (pc0 := 243) (pc' := 255) rfl (D at_243) rfl ((if0 _ _).trans (teq (by decide : (0 : Int32) = (0 : Int32))).1) (by decide) (by decide) (XS.iconst X370.here hx rfl (D at_255) (XS.icmpNo X370.here hx rfl (D at_256) rfl (teq hc373).2 (XS.iconst X370.here hx rfl (D at_259) (XS.goto X370.here hx rfl (pc0 := 260) (pc' := 264) rfl (D at_260) (by decide) (by decide) k)))))))))) ?_
                      exact GoS.retB X370 hx hlk hS hk hZ hEL C347 e370 hret (by simp) (D at_264) (by decide) (by decide) (z' := (1 : Int32)) rfl ⟨rfl, N370⟩
                    · skip
                      have hc375 : r_345 = (0 : Int32) := own_ar0 p345_0 (Or.inr (Or.inl hc351))
                      refine GoS.of (T' := T370) (f' := (mkF m 264 #[iv p0, iv p1, iv p2, iv p3, iv p4, iv p5, iv 1, rv (A 0), iv f8, iv a9, iv b10, iv d11, rv va_239, iv n_239, iv r_345, iv 50, iv 0, iv 1] [(.int 1)])) (fun _ k => XS.ifNo X370.here hx rfl (D at_229) rfl ((if0 _ _).trans (feq hc371).1) (XS.iconst X370.here hx rfl (D at_232) (XS.goto X370.here hx rfl (pc0 := 233) (pc' := 237) rfl (D at_233) (by decide) (by decide) (XS.istore X370.here hx rfl (D at_237) rfl (l' := #[iv p0, iv p1, iv p2, iv p3, iv p4, iv p5, iv 1, rv (A 0), iv f8, iv a9, iv b10, iv d11, rv va_239, iv n_239, iv r_345, iv 50, iv 0, iv 1]) rfl (XS.iload X370.here hx rfl (D at_239) rfl (XS.iload X370.here hx rfl (D at_241) rfl (XS.ifYes X370.here hx rfl (pc0 := 243) (pc' := 255) rfl (D at_243) rfl ((if0 _ _).trans (teq (by decide : (0 : Int32) = (0 : Int32))).1) (by decide) (by decide) (XS.iconst X370.here hx rfl (D at_255) (XS.icmpNo X370.here hx rfl (D at_256) rfl (teq hc375).2 (XS.iconst X370.here hx rfl (D at_259) (XS.goto X370.here hx rfl (pc0 := 260) (pc' := 264) rfl (D at_260) (by decide) (by decide) k))))))))))) ?_
                      exact GoS.retB X370 hx hlk hS hk hZ hEL C347 e370 hret (by simp) (D at_264) (by decide) (by decide) (z' := (1 : Int32)) rfl ⟨rfl, N370⟩
          · skip
            have hc376 : ¬ (n_239 < (1 : Int32)) := hc243
            obtain ⟨T377, v377, L377, X377, q377, st377⟩ := callSt X345 hx hZ (y := own_m56) hown (own_w hw (i := 83) rfl) (own_w hw (i := 84) rfl) (own_w hw (i := 7) rfl) (own_w hw (i := 85) rfl) (by decide) (rm_nc hw G a9  T345.heap O348 ) rfl (W := 0) (by decide) (by decide) (by decide) (by decide) (g := (mkF m 184 #[iv p0, iv p1, iv p2, iv p3, iv p4, iv p5, iv 1, rv (A 0), iv f8, iv a9, iv b10, iv d11, rv va_239, iv n_239, iv r_345, iv 50, iv 1, .unset] [(.int a9)])) rfl (by rw [hml]; rfl) (argsL := [(.int a9)]) (rest := []) (lenOf pd61 rfl) rfl rfl (Nat.le_of_eq rfl) (D at_184)
            obtain ⟨rfl, e377, rfl⟩ := q377
            have N377 := Fr.app N345 (Fr.nil _)
            refine GoS.of (T' := T377) (f' := (mkF m 187 #[iv p0, iv p1, iv p2, iv p3, iv p4, iv p5, iv 1, rv (A 0), iv f8, iv a9, iv b10, iv d11, rv va_239, iv n_239, iv r_345, iv 50, iv 1, .unset] [(.int (own_nm a9))])) (fun _ k => XS.icmpNo X345.here hx rfl (D at_166) rfl (flt hc351).2.2.1 (XS.iconst X345.here hx rfl (D at_169) (XS.goto X345.here hx rfl (pc0 := 170) (pc' := 174) rfl (D at_170) (by decide) (by decide) (XS.istore X345.here hx rfl (D at_174) rfl (l' := #[iv p0, iv p1, iv p2, iv p3, iv p4, iv p5, iv 1, rv (A 0), iv f8, iv a9, iv b10, iv d11, rv va_239, iv n_239, iv r_345, iv 50, iv 1, .unset]) rfl (XS.iload X345.here hx rfl (D at_176) rfl (XS.iconst X345.here hx rfl (D at_178) (XS.icmpNo X345.here hx rfl (D at_179) rfl (flt hc376).1 (XS.iload X345.here hx rfl (D at_182) rfl (st377 _ k))))))))) ?_
            by_cases hc378 : (own_nm a9) = (0 : Int32)
            · skip
              have hc381 : r_345 = (0 : Int32) := own_ar0 p345_0 (Or.inr (Or.inr (own_lca hc378 hq2.2.2.2.1 hq2.2.2.2.2)))
              refine GoS.of (T' := T377) (f' := (mkF m 264 #[iv p0, iv p1, iv p2, iv p3, iv p4, iv p5, iv 1, rv (A 0), iv f8, iv a9, iv b10, iv d11, rv va_239, iv n_239, iv r_345, iv 50, iv 1, iv 0] [(.int 1)])) (fun _ k => XS.ifYes X377.here hx rfl (pc0 := 187) (pc' := 236) rfl (D at_187) rfl ((if0 _ _).trans (teq hc378).1) (by decide) (by decide) (XS.iconst X377.here hx rfl (D at_236) (XS.istore X377.here hx rfl (D at_237) rfl (l' := #[iv p0, iv p1, iv p2, iv p3, iv p4, iv p5, iv 1, rv (A 0), iv f8, iv a9, iv b10, iv d11, rv va_239, iv n_239, iv r_345, iv 50, iv 1, iv 0]) rfl (XS.iload X377.here hx rfl (D at_239) rfl (XS.iload X377.here hx rfl (D at_241) rfl (XS.ifNo X377.here hx rfl (D at_243) rfl ((if0 _ _).trans (feq (by decide : ¬ ((1 : Int32) = (0 : Int32)))).1) (XS.iload X377.here hx rfl (D at_246) rfl (XS.ifYes X377.here hx rfl (pc0 := 248) (pc' := 255) rfl (D at_248) rfl ((if0 _ _).trans (teq (by decide : (0 : Int32) = (0 : Int32))).1) (by decide) (by decide) (XS.iconst X377.here hx rfl (D at_255) (XS.icmpNo X377.here hx rfl (D at_256) rfl (teq hc381).2 (XS.iconst X377.here hx rfl (D at_259) (XS.goto X377.here hx rfl (pc0 := 260) (pc' := 264) rfl (D at_260) (by decide) (by decide) k)))))))))))) ?_
              exact GoS.retB X377 hx hlk hS hk hZ hEL C347 e377 hret (by simp) (D at_264) (by decide) (by decide) (z' := (1 : Int32)) rfl ⟨rfl, N377⟩
            · skip
              have hc382 : ¬ (n_239 < (2 : Int32)) := hc268
              obtain ⟨T383, v383, L383, X383, q383, st383⟩ := callSt X377 hx hZ (y := own_m56) hown (own_w hw (i := 83) rfl) (own_w hw (i := 84) rfl) (own_w hw (i := 7) rfl) (own_w hw (i := 85) rfl) (by decide) (rm_nc hw G b10  T345.heap O348 ) e377 (W := 0) (by decide) (by decide) (by decide) (by decide) (g := (mkF m 198 #[iv p0, iv p1, iv p2, iv p3, iv p4, iv p5, iv 1, rv (A 0), iv f8, iv a9, iv b10, iv d11, rv va_239, iv n_239, iv r_345, iv 50, iv 1, .unset] [(.int b10)])) rfl (by rw [hml]; rfl) (argsL := [(.int b10)]) (rest := []) (lenOf pd61 rfl) rfl rfl (Nat.le_of_eq rfl) (D at_198)
              obtain ⟨rfl, e383, rfl⟩ := q383
              have N383 := Fr.app N377 (Fr.nil _)
              refine GoS.of (T' := T383) (f' := (mkF m 201 #[iv p0, iv p1, iv p2, iv p3, iv p4, iv p5, iv 1, rv (A 0), iv f8, iv a9, iv b10, iv d11, rv va_239, iv n_239, iv r_345, iv 50, iv 1, .unset] [(.int (own_nm b10))])) (fun _ k => XS.ifNo X377.here hx rfl (D at_187) rfl ((if0 _ _).trans (feq hc378).1) (XS.iload X377.here hx rfl (D at_190) rfl (XS.iconst X377.here hx rfl (D at_192) (XS.icmpNo X377.here hx rfl (D at_193) rfl (flt hc382).1 (XS.iload X377.here hx rfl (D at_196) rfl (st383 _ k)))))) ?_
              by_cases hc384 : (own_nm b10) = (0 : Int32)
              · skip
                have hc387 : r_345 = (0 : Int32) := own_ar0 p345_0 (Or.inr (Or.inr (own_lcb hc384 hq2.2.2.2.1 hq2.2.2.2.2)))
                refine GoS.of (T' := T383) (f' := (mkF m 264 #[iv p0, iv p1, iv p2, iv p3, iv p4, iv p5, iv 1, rv (A 0), iv f8, iv a9, iv b10, iv d11, rv va_239, iv n_239, iv r_345, iv 50, iv 1, iv 0] [(.int 1)])) (fun _ k => XS.ifYes X383.here hx rfl (pc0 := 201) (pc' := 236) rfl (D at_201) rfl ((if0 _ _).trans (teq hc384).1) (by decide) (by decide) (XS.iconst X383.here hx rfl (D at_236) (XS.istore X383.here hx rfl (D at_237) rfl (l' := #[iv p0, iv p1, iv p2, iv p3, iv p4, iv p5, iv 1, rv (A 0), iv f8, iv a9, iv b10, iv d11, rv va_239, iv n_239, iv r_345, iv 50, iv 1, iv 0]) rfl (XS.iload X383.here hx rfl (D at_239) rfl (XS.iload X383.here hx rfl (D at_241) rfl (XS.ifNo X383.here hx rfl (D at_243) rfl ((if0 _ _).trans (feq (by decide : ¬ ((1 : Int32) = (0 : Int32)))).1) (XS.iload X383.here hx rfl (D at_246) rfl (XS.ifYes X383.here hx rfl (pc0 := 248) (pc' := 255) rfl (D at_248) rfl ((if0 _ _).trans (teq (by decide : (0 : Int32) = (0 : Int32))).1) (by decide) (by decide) (XS.iconst X383.here hx rfl (D at_255) (XS.icmpNo X383.here hx rfl (D at_256) rfl (teq hc387).2 (XS.iconst X383.here hx rfl (D at_259) (XS.goto X383.here hx rfl (pc0 := 260) (pc' := 264) rfl (D at_260) (by decide) (by decide) k)))))))))))) ?_
                exact GoS.retB X383 hx hlk hS hk hZ hEL C347 e383 hret (by simp) (D at_264) (by decide) (by decide) (z' := (1 : Int32)) rfl ⟨rfl, N383⟩
              · skip
                have hc388 : ¬ (n_239 < (3 : Int32)) := hc300
                obtain ⟨T389, v389, L389, X389, q389, st389⟩ := callSt X383 hx hZ (y := own_m56) hown (own_w hw (i := 83) rfl) (own_w hw (i := 84) rfl) (own_w hw (i := 7) rfl) (own_w hw (i := 85) rfl) (by decide) (rm_nc hw G d11  T345.heap O348 ) e383 (W := 0) (by decide) (by decide) (by decide) (by decide) (g := (mkF m 212 #[iv p0, iv p1, iv p2, iv p3, iv p4, iv p5, iv 1, rv (A 0), iv f8, iv a9, iv b10, iv d11, rv va_239, iv n_239, iv r_345, iv 50, iv 1, .unset] [(.int d11)])) rfl (by rw [hml]; rfl) (argsL := [(.int d11)]) (rest := []) (lenOf pd61 rfl) rfl rfl (Nat.le_of_eq rfl) (D at_212)
                obtain ⟨rfl, e389, rfl⟩ := q389
                have N389 := Fr.app N383 (Fr.nil _)
                refine GoS.of (T' := T389) (f' := (mkF m 215 #[iv p0, iv p1, iv p2, iv p3, iv p4, iv p5, iv 1, rv (A 0), iv f8, iv a9, iv b10, iv d11, rv va_239, iv n_239, iv r_345, iv 50, iv 1, .unset] [(.int (own_nm d11))])) (fun _ k => XS.ifNo X383.here hx rfl (D at_201) rfl ((if0 _ _).trans (feq hc384).1) (XS.iload X383.here hx rfl (D at_204) rfl (XS.iconst X383.here hx rfl (D at_206) (XS.icmpNo X383.here hx rfl (D at_207) rfl (flt hc388).1 (XS.iload X383.here hx rfl (D at_210) rfl (st389 _ k)))))) ?_
                by_cases hc390 : (own_nm d11) = (0 : Int32)
                · skip
                  have hc393 : r_345 = (0 : Int32) := own_ar0 p345_0 (Or.inr (Or.inr (own_lcd hc390 hq2.2.2.2.1 hq2.2.2.2.2)))
                  refine GoS.of (T' := T389) (f' := (mkF m 264 #[iv p0, iv p1, iv p2, iv p3, iv p4, iv p5, iv 1, rv (A 0), iv f8, iv a9, iv b10, iv d11, rv va_239, iv n_239, iv r_345, iv 50, iv 1, iv 0] [(.int 1)])) (fun _ k => XS.ifYes X389.here hx rfl (pc0 := 215) (pc' := 236) rfl (D at_215) rfl ((if0 _ _).trans (teq hc390).1) (by decide) (by decide) (XS.iconst X389.here hx rfl (D at_236) (XS.istore X389.here hx rfl (D at_237) rfl (l' := #[iv p0, iv p1, iv p2, iv p3, iv p4, iv p5, iv 1, rv (A 0), iv f8, iv a9, iv b10, iv d11, rv va_239, iv n_239, iv r_345, iv 50, iv 1, iv 0]) rfl (XS.iload X389.here hx rfl (D at_239) rfl (XS.iload X389.here hx rfl (D at_241) rfl (XS.ifNo X389.here hx rfl (D at_243) rfl ((if0 _ _).trans (feq (by decide : ¬ ((1 : Int32) = (0 : Int32)))).1) (XS.iload X389.here hx rfl (D at_246) rfl (XS.ifYes X389.here hx rfl (pc0 := 248) (pc' := 255) rfl (D at_248) rfl ((if0 _ _).trans (teq (by decide : (0 : Int32) = (0 : Int32))).1) (by decide) (by decide) (XS.iconst X389.here hx rfl (D at_255) (XS.icmpNo X389.here hx rfl (D at_256) rfl (teq hc393).2 (XS.iconst X389.here hx rfl (D at_259) (XS.goto X389.here hx rfl (pc0 := 260) (pc' := 264) rfl (D at_260) (by decide) (by decide) k)))))))))))) ?_
                  exact GoS.retB X389 hx hlk hS hk hZ hEL C347 e389 hret (by simp) (D at_264) (by decide) (by decide) (z' := (1 : Int32)) rfl ⟨rfl, N389⟩
                · skip
                  refine GoS.of (T' := T389) (f' := (mkF m 221 #[iv p0, iv p1, iv p2, iv p3, iv p4, iv p5, iv 1, rv (A 0), iv f8, iv a9, iv b10, iv d11, rv va_239, iv n_239, iv r_345, iv 50, iv 1, .unset] [(.int 4), (.int n_239)])) (fun _ k => XS.ifNo X389.here hx rfl (D at_215) rfl ((if0 _ _).trans (feq hc390).1) (XS.iload X389.here hx rfl (D at_218) rfl (XS.iconst X389.here hx rfl (D at_220) k))) ?_
                  by_cases hc394 : n_239 < (4 : Int32)
                  · skip
                    have hc397 : r_345 = (1 : Int32) := own_ar1 p345_0 hc300 hc351 (own_lcall (own_nm0 hc378) (own_nm0 hc384) (own_nm0 hc390) (Or.inl (own_lt4 hn hc394)) hq2.2.2.2.1 hq2.2.2.2.2)
                    refine GoS.of (T' := T389) (f' := (mkF m 264 #[iv p0, iv p1, iv p2, iv p3, iv p4, iv p5, iv 1, rv (A 0), iv f8, iv a9, iv b10, iv d11, rv va_239, iv n_239, iv r_345, iv 50, iv 1, iv 1] [(.int 1)])) (fun _ k => XS.icmpYes X389.here hx rfl (pc0 := 221) (pc' := 232) rfl (D at_221) rfl (tlt hc394).1 (by decide) (by decide) (XS.iconst X389.here hx rfl (D at_232) (XS.goto X389.here hx rfl (pc0 := 233) (pc' := 237) rfl (D at_233) (by decide) (by decide) (XS.istore X389.here hx rfl (D at_237) rfl (l' := #[iv p0, iv p1, iv p2, iv p3, iv p4, iv p5, iv 1, rv (A 0), iv f8, iv a9, iv b10, iv d11, rv va_239, iv n_239, iv r_345, iv 50, iv 1, iv 1]) rfl (XS.iload X389.here hx rfl (D at_239) rfl (XS.iload X389.here hx rfl (D at_241) rfl (XS.ifNo X389.here hx rfl (D at_243) rfl ((if0 _ _).trans (feq (by decide : ¬ ((1 : Int32) = (0 : Int32)))).1) (XS.iload X389.here hx rfl (D at_246) rfl (XS.ifNo X389.here hx rfl (D at_248) rfl ((if0 _ _).trans (feq (by decide : ¬ ((1 : Int32) = (0 : Int32)))).1) (XS.iconst X389.here hx rfl (D at_251) (XS.goto X389.here hx rfl (pc0 := 252) (pc' := 256) rfl (D at_252) (by decide) (by decide) (XS.icmpNo X389.here hx rfl (D at_256) rfl (teq hc397).2 (XS.iconst X389.here hx rfl (D at_259) (XS.goto X389.here hx rfl (pc0 := 260) (pc' := 264) rfl (D at_260) (by decide) (by decide) k)))))))))))))) ?_
                    exact GoS.retB X389 hx hlk hS hk hZ hEL C347 e389 hret (by simp) (D at_264) (by decide) (by decide) (z' := (1 : Int32)) rfl ⟨rfl, N389⟩
                  · skip
                    obtain ⟨T398, v398, L398, X398, q398, st398⟩ := callSt X389 hx hZ (y := own_m56) hown (own_w hw (i := 83) rfl) (own_w hw (i := 84) rfl) (own_w hw (i := 7) rfl) (own_w hw (i := 85) rfl) (by decide) (rm_nc hw G f8  T345.heap O348 ) e389 (W := 0) (by decide) (by decide) (by decide) (by decide) (g := (mkF m 226 #[iv p0, iv p1, iv p2, iv p3, iv p4, iv p5, iv 1, rv (A 0), iv f8, iv a9, iv b10, iv d11, rv va_239, iv n_239, iv r_345, iv 50, iv 1, .unset] [(.int f8)])) rfl (by rw [hml]; rfl) (argsL := [(.int f8)]) (rest := []) (lenOf pd61 rfl) rfl rfl (Nat.le_of_eq rfl) (D at_226)
                    obtain ⟨rfl, e398, rfl⟩ := q398
                    have N398 := Fr.app N389 (Fr.nil _)
                    refine GoS.of (T' := T398) (f' := (mkF m 229 #[iv p0, iv p1, iv p2, iv p3, iv p4, iv p5, iv 1, rv (A 0), iv f8, iv a9, iv b10, iv d11, rv va_239, iv n_239, iv r_345, iv 50, iv 1, .unset] [(.int (own_nm f8))])) (fun _ k => XS.icmpNo X389.here hx rfl (D at_221) rfl (flt hc394).1 (XS.iload X389.here hx rfl (D at_224) rfl (st398 _ k))) ?_
                    by_cases hc399 : (own_nm f8) = (0 : Int32)
                    · skip
                      have hc402 : r_345 = (0 : Int32) := own_ar0 p345_0 (Or.inr (Or.inr (own_lcf hc399 (own_nlt4 hn hc394) hq2.2.2.2.1 hq2.2.2.2.2)))
                      refine GoS.of (T' := T398) (f' := (mkF m 264 #[iv p0, iv p1, iv p2, iv p3, iv p4, iv p5, iv 1, rv (A 0), iv f8, iv a9, iv b10, iv d11, rv va_239, iv n_239, iv r_345, iv 50, iv 1, iv 0] [(.int 1)])) (fun _ k => XS.ifYes X398.here hx rfl (pc0 := 229) (pc' := 236) rfl (D at_229) rfl ((if0 _ _).trans (teq hc399).1) (by decide) (by decide) (XS.iconst X398.here hx rfl (D at_236) (XS.istore X398.here hx rfl (D at_237) rfl (l' := #[iv p0, iv p1, iv p2, iv p3, iv p4, iv p5, iv 1, rv (A 0), iv f8, iv a9, iv b10, iv d11, rv va_239, iv n_239, iv r_345, iv 50, iv 1, iv 0]) rfl (XS.iload X398.here hx rfl (D at_239) rfl (XS.iload X398.here hx rfl (D at_241) rfl (XS.ifNo X398.here hx rfl (D at_243) rfl ((if0 _ _).trans (feq (by decide : ¬ ((1 : Int32) = (0 : Int32)))).1) (XS.iload X398.here hx rfl (D at_246) rfl (XS.ifYes X398.here hx rfl (pc0 := 248) (pc' := 255) rfl (D at_248) rfl ((if0 _ _).trans (teq (by decide : (0 : Int32) = (0 : Int32))).1) (by decide) (by decide) (XS.iconst X398.here hx rfl (D at_255) (XS.icmpNo X398.here hx rfl (D at_256) rfl (teq hc402).2 (XS.iconst X398.here hx rfl (D at_259) (XS.goto X398.here hx rfl (pc0 := 260) (pc' := 264) rfl (D at_260) (by decide) (by decide) k)))))))))))) ?_
                      exact GoS.retB X398 hx hlk hS hk hZ hEL C347 e398 hret (by simp) (D at_264) (by decide) (by decide) (z' := (1 : Int32)) rfl ⟨rfl, N398⟩
                    · skip
                      have hc405 : r_345 = (1 : Int32) := own_ar1 p345_0 hc300 hc351 (own_lcall (own_nm0 hc378) (own_nm0 hc384) (own_nm0 hc390) (Or.inr (own_nm0 hc399)) hq2.2.2.2.1 hq2.2.2.2.2)
                      refine GoS.of (T' := T398) (f' := (mkF m 264 #[iv p0, iv p1, iv p2, iv p3, iv p4, iv p5, iv 1, rv (A 0), iv f8, iv a9, iv b10, iv d11, rv va_239, iv n_239, iv r_345, iv 50, iv 1, iv 1] [(.int 1)])) (fun _ k => XS.ifNo X398.here hx rfl (D at_229) rfl ((if0 _ _).trans (feq hc399).1) (XS.iconst X398.here hx rfl (D at_232) (XS.goto X398.here hx rfl (pc0 := 233) (pc' := 237) rfl (D at_233) (by decide) (by decide) (XS.istore X398.here hx rfl (D at_237) rfl (l' := #[iv p0, iv p1, iv p2, iv p3, iv p4, iv p5, iv 1, rv (A 0), iv f8, iv a9, iv b10, iv d11, rv va_239, iv n_239, iv r_345, iv 50, iv 1, iv 1]) rfl (XS.iload X398.here hx rfl (D at_239) rfl (XS.iload X398.here hx rfl (D at_241) rfl (XS.ifNo X398.here hx rfl (D at_243) rfl ((if0 _ _).trans (feq (by decide : ¬ ((1 : Int32) = (0 : Int32)))).1) (XS.iload X398.here hx rfl (D at_246) rfl (XS.ifNo X398.here hx rfl (D at_248) rfl ((if0 _ _).trans (feq (by decide : ¬ ((1 : Int32) = (0 : Int32)))).1) (XS.iconst X398.here hx rfl (D at_251) (XS.goto X398.here hx rfl (pc0 := 252) (pc' := 256) rfl (D at_252) (by decide) (by decide) (XS.icmpNo X398.here hx rfl (D at_256) rfl (teq hc405).2 (XS.iconst X398.here hx rfl (D at_259) (XS.goto X398.here hx rfl (pc0 := 260) (pc' := 264) rfl (D at_260) (by decide) (by decide) k)))))))))))))) ?_
                      exact GoS.retB X398 hx hlk hS hk hZ hEL C347 e398 hret (by simp) (D at_264) (by decide) (by decide) (z' := (1 : Int32)) rfl ⟨rfl, N398⟩
  · skip
    obtain ⟨T407, X407, e407, st407⟩ := getS2 X0 hx hZ hown (host := "") (Or.inl (own_w hw (i := 86) rfl)) Via.refl e0 (Sta.ext O0 S_SUBSCRIPTION) (g := (mkF m 24 #[iv p0, iv p1, iv p2, iv p3, iv p4, iv p5, iv 0, .unset, .unset, .unset, .unset, .unset, .unset, .unset, .unset, .unset, .unset, .unset] [])) rfl (D at_24)
    refine GoS.of (T' := T407) (f' := (mkF m 34 #[iv p0, iv p1, iv p2, iv p3, iv p4, iv p5, iv 0, rv (A 1), .unset, .unset, .unset, .unset, .unset, .unset, .unset, .unset, .unset, .unset] [(.int ((p2 &&& (65535 : Int32)).toUInt32.toUInt16.toUInt32.toInt32))])) (fun _ k => XS.ifYes X0.here hx rfl (pc0 := 3) (pc' := 10) rfl (D at_3) rfl ((if0 _ _).trans (feq hc236).2) (by decide) (by decide) (XS.iconst X0.here hx rfl (D at_10) (XS.istore X0.here hx rfl (D at_11) rfl (l' := #[iv p0, iv p1, iv p2, iv p3, iv p4, iv p5, iv 0, .unset, .unset, .unset, .unset, .unset, .unset, .unset, .unset, .unset, .unset, .unset]) rfl (XS.iload X0.here hx rfl (D at_13) rfl (XS.ifYes X0.here hx rfl (pc0 := 15) (pc' := 24) rfl (D at_15) rfl ((if0 _ _).trans (teq (by decide : (0 : Int32) = (0 : Int32))).1) (by decide) (by decide) (st407 _ (XS.astore X407.here hx rfl (D at_27) rfl rfl (l' := #[iv p0, iv p1, iv p2, iv p3, iv p4, iv p5, iv 0, rv (A 1), .unset, .unset, .unset, .unset, .unset, .unset, .unset, .unset, .unset, .unset]) rfl (XS.iloadN X407.here hx rfl (D at_29) rfl (X407.ldcInt hx hown (mvT hZ (own_w hw (i := 3) rfl)) (g := (mkF m 30 #[iv p0, iv p1, iv p2, iv p3, iv p4, iv p5, iv 0, rv (A 1), .unset, .unset, .unset, .unset, .unset, .unset, .unset, .unset, .unset, .unset] [(.int p2)])) rfl (D at_30) _ (XS.iand X407.here hx rfl (D at_32) rfl (XS.i2c X407.here hx rfl (D at_33) rfl k))))))))))) ?_
    generalize ef8 : (((p2 &&& (65535 : Int32)).toUInt32.toUInt16.toUInt32.toInt32) : Int32) = f8
    have ch8 : own_ch f8 := by rw [← ef8]; exact own_chi _
    refine GoS.of (T' := T407) (f' := (mkF m 41 #[iv p0, iv p1, iv p2, iv p3, iv p4, iv p5, iv 0, rv (A 1), iv f8, .unset, .unset, .unset, .unset, .unset, .unset, .unset, .unset, .unset] [(.int ((p3 &&& (65535 : Int32)).toUInt32.toUInt16.toUInt32.toInt32))])) (fun _ k => XS.istore X407.here hx rfl (D at_34) rfl (l' := #[iv p0, iv p1, iv p2, iv p3, iv p4, iv p5, iv 0, rv (A 1), iv f8, .unset, .unset, .unset, .unset, .unset, .unset, .unset, .unset, .unset]) rfl (XS.iloadN X407.here hx rfl (D at_36) rfl (X407.ldcInt hx hown (mvT hZ (own_w hw (i := 3) rfl)) (g := (mkF m 37 #[iv p0, iv p1, iv p2, iv p3, iv p4, iv p5, iv 0, rv (A 1), iv f8, .unset, .unset, .unset, .unset, .unset, .unset, .unset, .unset, .unset] [(.int p3)])) rfl (D at_37) _ (XS.iand X407.here hx rfl (D at_39) rfl (XS.i2c X407.here hx rfl (D at_40) rfl k))))) ?_
    generalize ea9 : (((p3 &&& (65535 : Int32)).toUInt32.toUInt16.toUInt32.toInt32) : Int32) = a9
    have ch9 : own_ch a9 := by rw [← ea9]; exact own_chi _
    refine GoS.of (T' := T407) (f' := (mkF m 49 #[iv p0, iv p1, iv p2, iv p3, iv p4, iv p5, iv 0, rv (A 1), iv f8, iv a9, .unset, .unset, .unset, .unset, .unset, .unset, .unset, .unset] [(.int ((p4 &&& (65535 : Int32)).toUInt32.toUInt16.toUInt32.toInt32))])) (fun _ k => XS.istore X407.here hx rfl (D at_41) rfl (l' := #[iv p0, iv p1, iv p2, iv p3, iv p4, iv p5, iv 0, rv (A 1), iv f8, iv a9, .unset, .unset, .unset, .unset, .unset, .unset, .unset, .unset]) rfl (XS.iload X407.here hx rfl (D at_43) rfl (X407.ldcInt hx hown (mvT hZ (own_w hw (i := 3) rfl)) (g := (mkF m 45 #[iv p0, iv p1, iv p2, iv p3, iv p4, iv p5, iv 0, rv (A 1), iv f8, iv a9, .unset, .unset, .unset, .unset, .unset, .unset, .unset, .unset] [(.int p4)])) rfl (D at_45) _ (XS.iand X407.here hx rfl (D at_47) rfl (XS.i2c X407.here hx rfl (D at_48) rfl k))))) ?_
    generalize eb10 : (((p4 &&& (65535 : Int32)).toUInt32.toUInt16.toUInt32.toInt32) : Int32) = b10
    have ch10 : own_ch b10 := by rw [← eb10]; exact own_chi _
    refine GoS.of (T' := T407) (f' := (mkF m 57 #[iv p0, iv p1, iv p2, iv p3, iv p4, iv p5, iv 0, rv (A 1), iv f8, iv a9, iv b10, .unset, .unset, .unset, .unset, .unset, .unset, .unset] [(.int ((p5 &&& (65535 : Int32)).toUInt32.toUInt16.toUInt32.toInt32))])) (fun _ k => XS.istore X407.here hx rfl (D at_49) rfl (l' := #[iv p0, iv p1, iv p2, iv p3, iv p4, iv p5, iv 0, rv (A 1), iv f8, iv a9, iv b10, .unset, .unset, .unset, .unset, .unset, .unset, .unset]) rfl (XS.iload X407.here hx rfl (D at_51) rfl (X407.ldcInt hx hown (mvT hZ (own_w hw (i := 3) rfl)) (g := (mkF m 53 #[iv p0, iv p1, iv p2, iv p3, iv p4, iv p5, iv 0, rv (A 1), iv f8, iv a9, iv b10, .unset, .unset, .unset, .unset, .unset, .unset, .unset] [(.int p5)])) rfl (D at_53) _ (XS.iand X407.here hx rfl (D at_55) rfl (XS.i2c X407.here hx rfl (D at_56) rfl k))))) ?_
    generalize ed11 : (((p5 &&& (65535 : Int32)).toUInt32.toUInt16.toUInt32.toInt32) : Int32) = d11
    have ch11 : own_ch d11 := by rw [← ed11]; exact own_chi _
    refine GoS.of (T' := T407) (f' := (mkF m 66 #[iv p0, iv p1, iv p2, iv p3, iv p4, iv p5, iv 0, rv (A 1), iv f8, iv a9, iv b10, iv d11, .unset, .unset, .unset, .unset, .unset, .unset] [(.int ((p1 &&& (2147483647 : Int32)) % (9 : Int32)))])) (fun _ k => XS.istore X407.here hx rfl (D at_57) rfl (l' := #[iv p0, iv p1, iv p2, iv p3, iv p4, iv p5, iv 0, rv (A 1), iv f8, iv a9, iv b10, iv d11, .unset, .unset, .unset, .unset, .unset, .unset]) rfl (XS.iloadN X407.here hx rfl (D at_59) rfl (X407.ldcInt hx hown (mvT hZ (own_w hw (i := 4) rfl)) (g := (mkF m 60 #[iv p0, iv p1, iv p2, iv p3, iv p4, iv p5, iv 0, rv (A 1), iv f8, iv a9, iv b10, iv d11, .unset, .unset, .unset, .unset, .unset, .unset] [(.int p1)])) rfl (D at_60) _ (XS.iand X407.here hx rfl (D at_62) rfl (XS.bipush X407.here hx rfl (D at_63) (iremM X407 hx rfl (D at_65) rfl (by decide) k)))))) ?_
    generalize ez9 : (((p1 &&& (2147483647 : Int32)) % (9 : Int32)) : Int32) = z9
    obtain ⟨T408, v408, L408, X408, q408, st408⟩ := callSt X407 hx hZ (y := own_m63) hown (own_w hw (i := 5) rfl) (own_w hw (i := 6) rfl) (own_w hw (i := 7) rfl) (own_w hw (i := 8) rfl) (by decide) (rm_blank hw G z9 f8  h0 O0 (ch8)) e407 (W := 0) (by decide) (by decide) (by decide) (by decide) (g := (mkF m 68 #[iv p0, iv p1, iv p2, iv p3, iv p4, iv p5, iv 0, rv (A 1), iv f8, iv a9, iv b10, iv d11, .unset, .unset, .unset, .unset, .unset, .unset] [(.int f8), (.int z9)])) rfl (by rw [hml]; rfl) (argsL := [(.int z9), (.int f8)]) (rest := []) (lenOf pd65 rfl) rfl rfl (Nat.le_of_eq rfl) (D at_68)
    obtain ⟨va_408, kv_408, n_408, N_408, rfl, N408q, K408q, p408_0, p408_1, p408_2⟩ := q408
    have N408 := Fr.app N0 N408q
    have O410 := Old0.keep O0 K408q all0
    have C409 := CHr.trans C0 (CHr.keep K408q sf0 C0.1)
    have hk := Nat.le_trans hk K408q.1
    have g_va_408 : Z.heap.size ≤ va_408 := Nat.le_trans O0.1 p408_0
    obtain ⟨hn, hN⟩ := p408_2
    obtain ⟨cl411, Ar411, qk411, S411, Ng411, H411, G411⟩ := id p408_1
    refine GoS.of (T' := T408) (f' := (mkF m 81 #[iv p0, iv p1, iv p2, iv p3, iv p4, iv p5, iv 0, rv (A 1), iv f8, iv a9, iv b10, iv d11, rv va_408, iv n_408, .unset, .unset, .unset, .unset] [(.int 1), (.int n_408)])) (fun _ k => XS.iload X407.here hx rfl (D at_66) rfl (st408 _ (XS.astore X408.here hx rfl (D at_71) rfl rfl (l' := #[iv p0, iv p1, iv p2, iv p3, iv p4, iv p5, iv 0, rv (A 1), iv f8, iv a9, iv b10, iv d11, rv va_408, .unset, .unset, .unset, .unset, .unset]) rfl (XS.aload X408.here hx rfl (D at_73) rfl rfl (X408.arraylength hx Ar411.1 (State.isArrayOf_alike hZ.alike Ar411.2.1) (g := (mkF m 75 #[iv p0, iv p1, iv p2, iv p3, iv p4, iv p5, iv 0, rv (A 1), iv f8, iv a9, iv b10, iv d11, rv va_408, .unset, .unset, .unset, .unset, .unset] [(.ref va_408)])) rfl rfl (D at_75) _ (by rw [len_of S411 Ng411]; exact (XS.istore X408.here hx rfl (D at_76) rfl (l' := #[iv p0, iv p1, iv p2, iv p3, iv p4, iv p5, iv 0, rv (A 1), iv f8, iv a9, iv b10, iv d11, rv va_408, iv n_408, .unset, .unset, .unset, .unset]) rfl (XS.iload X408.here hx rfl (D at_78) rfl (XS.iconst X408.here hx rfl (D at_80) k))))))))) ?_
    by_cases hc412 : n_408 < (1 : Int32)
    · skip
      have hc413 : n_408 < (2 : Int32) := own_ltt hc412 (by decide)
      have hc414 : n_408 < (3 : Int32) := own_ltt hc412 (by decide)
      obtain ⟨T415, h415, b415, q415, X415, e415, E415, A415, D415, st415⟩ := newOb X408 hx hZ hown (own_w hw (i := 10) rfl) (own_w hw (i := 11) rfl) (own_w hw (i := 12) rfl) rfl (g := (mkF m 128 #[iv p0, iv p1, iv p2, iv p3, iv p4, iv p5, iv 0, rv (A 1), iv f8, iv a9, iv b10, iv d11, rv va_408, iv n_408, .unset, .unset, .unset, .unset] [(.ref (A 1))])) rfl (D at_128) (by decide) (by decide)
      have O417 := Old0.ext O410 E415
      have C416 := CHr.trans C409 (CHr.ext E415 C409.1)
      have hk := Nat.le_trans hk E415.1
      have g_b415 : Z.heap.size ≤ b415 := q415 ▸ O410.1
      have ne_va_408_b415 : va_408 ≠ b415 := q415 ▸ Nat.ne_of_lt p408_1.lt
      have f418 : Fld Z h415 b415 "java/lang/String" "coder" "B" (.int 0) := D415 (Or.inr (own_w hw (i := 36) rfl)) (ty := .byte) (by decide)
      have f419 : Fld Z h415 b415 "java/lang/String" "value" "[B" .null := D415 (Or.inr (own_w hw (i := 38) rfl)) (ty := (.array .byte)) (by decide)
      have f421 : Arv Z h415 va_408 kv_408 .char n_408 (own_fn N_408 (fun _ => f8)) (.int 0) := (Arv.ext p408_1 E415)
      refine GoS.of (T' := T415) (f' := (mkF m 134 #[iv p0, iv p1, iv p2, iv p3, iv p4, iv p5, iv 0, rv (A 1), iv f8, iv a9, iv b10, iv d11, rv va_408, iv n_408, .unset, .unset, .unset, .unset] [(.ref va_408), (.ref b415), (.ref b415), (.ref (A 1))])) (fun _ k => XS.icmpYes X408.here hx rfl (pc0 := 81) (pc' := 90) rfl (D at_81) rfl (tlt hc412).1 (by decide) (by decide) (XS.iload X408.here hx rfl (D at_90) rfl (XS.iconst X408.here hx rfl (D at_92) (XS.icmpYes X408.here hx rfl (pc0 := 93) (pc' := 105) rfl (D at_93) rfl (tlt hc413).1 (by decide) (by decide) (XS.iload X408.here hx rfl (D at_105) rfl (XS.iconst X408.here hx rfl (D at_107) (XS.icmpYes X408.here hx rfl (pc0 := 108) (pc' := 126) rfl (D at_108) rfl (tlt hc414).1 (by decide) (by decide) (XS.aload X408.here hx rfl (D at_126) rfl rfl (st415 _ (XS.dup X415.here hx rfl (D at_131) rfl rfl (XS.aload X415.here hx rfl (D at_132) rfl rfl k))))))))))) ?_
      obtain ⟨T420, v420, L420, X420, q420, hS, hg420, hZ, hown, Cq420, st420⟩ := callNewS X415 hx hZ (y := own_m26) rfl hS hk hEL C416.1 hown (own_w hw (i := 13) rfl) (own_w hw (i := 14) rfl) (own_w hw (i := 12) rfl) (own_w hw (i := 15) rfl) (by decide) (rm_strz hw G b415 va_408 n_408 kv_408 N_408 ((fun _ => f8)) h415 O417 (own_z1 hn hc412) A415 f419 f418 g_b415 f421) e415 (W := 2) (by decide) (by decide) (by decide) (by decide) (g := (mkF m 134 #[iv p0, iv p1, iv p2, iv p3, iv p4, iv p5, iv 0, rv (A 1), iv f8, iv a9, iv b10, iv d11, rv va_408, iv n_408, .unset, .unset, .unset, .unset] [(.ref va_408), (.ref b415), (.ref b415), (.ref (A 1))])) rfl (by rw [hml]; rfl) (a := b415) (argsL := [(.ref va_408)]) (rest := [(.ref b415), (.ref (A 1))]) (lenOf pd66 rfl) rfl rfl (Nat.le_of_eq rfl) (D at_134)
      obtain ⟨da_420, kd_420, rfl, N420q, K420q, p420_0, p420_1, p420_2⟩ := q420
      have N420 := Fr.app N408 N420q
      have O422 := Old0.keep O417 K420q (allS g_b415 all0)
      have C420 := CHr.trans C416 Cq420
      have hk := Nat.le_refl T420.heap.size
      have f424 : Exa Z T420.heap b415 "java/lang/String" := (Exa.keep A415 K420q)
      obtain ⟨T423, v423, L423, X423, q423, st423⟩ := callVi X420 hx hZ (y := own_m58) (z := own_m58) hown (own_w hw (i := 39) rfl) (own_w hw (i := 40) rfl) (notFace_of_selects (args := #[]) (mvT hZ (own_w hw (i := 42) rfl))) (own_w hw (i := 42) rfl) (own_w hw (i := 41) rfl) (own_w hw (i := 43) rfl) (own_w hw (i := 1) rfl) (by decide) (rm_accz hw G ((A 1)) b415 ((64 : Int32)) da_420 kd_420 T420.heap O422 (Fld.ext O422 F_s_SUBSCRIPTION_minLength) (Fld.ext O422 F_s_SUBSCRIPTION_maxLength) f424 p420_0 p420_1 p420_2) rfl (W := 0) (by decide) (by decide) (by decide) (by decide) (Exa.ext O422 E_s_SUBSCRIPTION) (g := (mkF m 137 #[iv p0, iv p1, iv p2, iv p3, iv p4, iv p5, iv 0, rv (A 1), iv f8, iv a9, iv b10, iv d11, rv va_408, iv n_408, .unset, .unset, .unset, .unset] [(.ref b415), (.ref (A 1))])) rfl (by rw [hml]; rfl) (argsL := [(.ref b415)]) (rest := []) (lenOf pd67 rfl) rfl rfl (Nat.le_of_eq rfl) (D at_137)
      obtain ⟨rfl, e423, rfl⟩ := q423
      have N423 := Fr.app N420 (Fr.nil _)
      have hc426 : n_408 < (3 : Int32) := own_ltt hc412 (by decide)
      have hc427 : n_408 < (1 : Int32) := hc412
      have hc428 : n_408 < (2 : Int32) := own_ltt hc412 (by decide)
      have hc429 : n_408 < (3 : Int32) := own_ltt hc412 (by decide)
      have hc430 : n_408 < (4 : Int32) := own_ltt hc412 (by decide)
      refine GoS.of (T' := T423) (f' := (mkF m 232 #[iv p0, iv p1, iv p2, iv p3, iv p4, iv p5, iv 0, rv (A 1), iv f8, iv a9, iv b10, iv d11, rv va_408, iv n_408, iv 0, iv 64, iv 0, .unset] [])) (fun _ k => st420 _ (st423 _ (XS.istore X423.here hx rfl (D at_140) rfl (l' := #[iv p0, iv p1, iv p2, iv p3, iv p4, iv p5, iv 0, rv (A 1), iv f8, iv a9, iv b10, iv d11, rv va_408, iv n_408, iv 0, .unset, .unset, .unset]) rfl (XS.iload X423.here hx rfl (D at_142) rfl (XS.ifYes X423.here hx rfl (pc0 := 144) (pc' := 152) rfl (D at_144) rfl ((if0 _ _).trans (teq (by decide : (0 : Int32) = (0 : Int32))).1) (by decide) (by decide) (XS.bipush X423.here hx rfl (D at_152) (XS.istore X423.here hx rfl (D at_154) rfl (l' := #[iv p0, iv p1, iv p2, iv p3, iv p4, iv p5, iv 0, rv (A 1), iv f8, iv a9, iv b10, iv d11, rv va_408, iv n_408, iv 0, iv 64, .unset, .unset]) rfl (XS.iload X423.here hx rfl (D at_156) rfl (XS.iconst X423.here hx rfl (D at_158) (XS.icmpYes X423.here hx rfl (pc0 := 159) (pc' := 173) rfl (D at_159) rfl (tlt hc426).1 (by decide) (by decide) (XS.iconst X423.here hx rfl (D at_173) (XS.istore X423.here hx rfl (D at_174) rfl (l' := #[iv p0, iv p1, iv p2, iv p3, iv p4, iv p5, iv 0, rv (A 1), iv f8, iv a9, iv b10, iv d11, rv va_408, iv n_408, iv 0, iv 64, iv 0, .unset]) rfl (XS.iload X423.here hx rfl (D at_176) rfl (XS.iconst X423.here hx rfl (D at_178) (XS.icmpYes X423.here hx rfl (pc0 := 179) (pc' := 190) rfl (D at_179) rfl (tlt hc427).1 (by decide) (by decide) (XS.iload X423.here hx rfl (D at_190) rfl (XS.iconst X423.here hx rfl (D at_192) (XS.icmpYes X423.here hx rfl (pc0 := 193) (pc' := 204) rfl (D at_193) rfl (tlt hc428).1 (by decide) (by decide) (XS.iload X423.here hx rfl (D at_204) rfl (XS.iconst X423.here hx rfl (D at_206) (XS.icmpYes X423.here hx rfl (pc0 := 207) (pc' := 218) rfl (D at_207) rfl (tlt hc429).1 (by decide) (by decide) (XS.iload X423.here hx rfl (D at_218) rfl (XS.iconst X423.here hx rfl (D at_220) (XS.icmpYes X423.here hx rfl (pc0 := 221) (pc' := 232) rfl (D at_221) rfl (tlt hc430).1 (by decide) (by decide) k)))))))))))))))))))))))) ?_
      refine GoS.of (T' := T423) (f' := (mkF m 264 #[iv p0, iv p1, iv p2, iv p3, iv p4, iv p5, iv 0, rv (A 1), iv f8, iv a9, iv b10, iv d11, rv va_408, iv n_408, iv 0, iv 64, iv 0, iv 1] [(.int 1)])) (fun _ k => XS.iconst X423.here hx rfl (D at_232) (XS.goto X423.here hx rfl (pc0 := 233) (pc' := 237) rfl (D at_233) (by decide) (by decide) (XS.istore X423.here hx rfl (D at_237) rfl (l' := #[iv p0, iv p1, iv p2, iv p3, iv p4, iv p5, iv 0, rv (A 1), iv f8, iv a9, iv b10, iv d11, rv va_408, iv n_408, iv 0, iv 64, iv 0, iv 1]) rfl (XS.iload X423.here hx rfl (D at_239) rfl (XS.iload X423.here hx rfl (D at_241) rfl (XS.ifYes X423.here hx rfl (pc0 := 243) (pc' := 255) rfl (D at_243) rfl ((if0 _ _).trans (teq (by decide : (0 : Int32) = (0 : Int32))).1) (by decide) (by decide) (XS.iconst X423.here hx rfl (D at_255) (XS.icmpNo X423.here hx rfl (D at_256) rfl (teq (by decide : (0 : Int32) = (0 : Int32))).2 (XS.iconst X423.here hx rfl (D at_259) (XS.goto X423.here hx rfl (pc0 := 260) (pc' := 264) rfl (D at_260) (by decide) (by decide) k)))))))))) ?_
      exact GoS.retB X423 hx hlk hS hk hZ hEL C420 e423 hret (by simp) (D at_264) (by decide) (by decide) (z' := (1 : Int32)) rfl ⟨rfl, N423⟩
    · skip
      obtain ⟨cl433, Ar433, qk433, S433, Ng433, H433, G433⟩ := id p408_1
      obtain ⟨T433, h433, X433, e433, W433, st433⟩ := stC X408 hx hZ rfl Ar433 (j := (0 : Int32)) (inb_of S433 ⟨by decide, own_pos hc412⟩) (g := (mkF m 89 #[iv p0, iv p1, iv p2, iv p3, iv p4, iv p5, iv 0, rv (A 1), iv f8, iv a9, iv b10, iv d11, rv va_408, iv n_408, .unset, .unset, .unset, .unset] [(.int a9), (.int 0), (.ref va_408)])) rfl rfl (D at_89)
      have W433 : Wr T408.heap h433 va_408 ((0 : Int32)).toNatClampNeg (.int a9) := Eq.mp (congrArg (fun z => Wr T408.heap h433 va_408 ((0 : Int32)).toNatClampNeg (Value.int z)) (own_narch ch9)) W433
      have O435 := Old0.wr O410 W433 g_va_408
      have C434 := CHr.trans C409 (CHr.wr W433 (Safe.arv hZ.alike p408_1 (by decide)) C409.1)
      have hk := Nat.le_trans hk (Keep.of_wr W433).1
      have f433 : Arv Z h433 va_408 kv_408 .char n_408 ((own_fn N_408 (fun _ => f8)).set 0 (.int a9)) (.int 0) := Arv.set Ar433 qk433 S433 Ng433 H433 G433 (v := (.int a9)) (own_fitch ch9) W433 0 rfl (by rw [own_fnlen]; exact own_ge1 hn hc412)
      have N433 := Fr.snoc X433 N408 g_va_408
      have fu436 : Arv Z h433 va_408 kv_408 .char n_408 (own_fn N_408 (own_up (fun _ => f8) 0 a9)) (.int 0) := own_upA f433
      refine GoS.of (T' := T433) (f' := (mkF m 93 #[iv p0, iv p1, iv p2, iv p3, iv p4, iv p5, iv 0, rv (A 1), iv f8, iv a9, iv b10, iv d11, rv va_408, iv n_408, .unset, .unset, .unset, .unset] [(.int 2), (.int n_408)])) (fun _ k => XS.icmpNo X408.here hx rfl (D at_81) rfl (flt hc412).1 (XS.aload X408.here hx rfl (D at_84) rfl rfl (XS.iconst X408.here hx rfl (D at_86) (XS.iload X408.here hx rfl (D at_87) rfl (st433 _ (XS.iload X433.here hx rfl (D at_90) rfl (XS.iconst X433.here hx rfl (D at_92) k))))))) ?_
      by_cases hc437 : n_408 < (2 : Int32)
      · skip
        have hc438 : n_408 < (3 : Int32) := own_ltt hc437 (by decide)
        obtain ⟨T439, h439, b439, q439, X439, e439, E439, A439, D439, st439⟩ := newOb X433 hx hZ hown (own_w hw (i := 10) rfl) (own_w hw (i := 11) rfl) (own_w hw (i := 12) rfl) e433 (g := (mkF m 128 #[iv p0, iv p1, iv p2, iv p3, iv p4, iv p5, iv 0, rv (A 1), iv f8, iv a9, iv b10, iv d11, rv va_408, iv n_408, .unset, .unset, .unset, .unset] [(.ref (A 1))])) rfl (D at_128) (by decide) (by decide)
        have O441 := Old0.ext O435 E439
        have C440 := CHr.trans C434 (CHr.ext E439 C434.1)
        have hk := Nat.le_trans hk E439.1
        have g_b439 : Z.heap.size ≤ b439 := q439 ▸ O435.1
        have ne_va_408_b439 : va_408 ≠ b439 := q439 ▸ Nat.ne_of_lt fu436.lt
        have f442 : Fld Z h439 b439 "java/lang/String" "coder" "B" (.int 0) := D439 (Or.inr (own_w hw (i := 36) rfl)) (ty := .byte) (by decide)
        have f443 : Fld Z h439 b439 "java/lang/String" "value" "[B" .null := D439 (Or.inr (own_w hw (i := 38) rfl)) (ty := (.array .byte)) (by decide)
        have f445 : Arv Z h439 va_408 kv_408 .char n_408 (own_fn N_408 (own_up (fun _ => f8) 0 a9)) (.int 0) := (Arv.ext fu436 E439)
        obtain ⟨T444, v444, L444, X444, q444, st444⟩ := callNew X439 hx hZ (y := own_m26) rfl hown (own_w hw (i := 13) rfl) (own_w hw (i := 14) rfl) (own_w hw (i := 12) rfl) (own_w hw (i := 15) rfl) (by decide) (rm_str hw G b439 va_408 n_408 kv_408 N_408 ((own_up (fun _ => f8) 0 a9)) h439 O441 (hn) (hN) ((own_upch (fun _ => ch8) ch9)) (own_ge1 hn hc412) A439 f443 f442 g_b439 f445 (Ne.symm ne_va_408_b439)) e439 (W := 2) (by decide) (by decide) (by decide) (by decide) (g := (mkF m 134 #[iv p0, iv p1, iv p2, iv p3, iv p4, iv p5, iv 0, rv (A 1), iv f8, iv a9, iv b10, iv d11, rv va_408, iv n_408, .unset, .unset, .unset, .unset] [(.ref va_408), (.ref b439), (.ref b439), (.ref (A 1))])) rfl (by rw [hml]; rfl) (a := b439) (argsL := [(.ref va_408)]) (rest := [(.ref b439), (.ref (A 1))]) (lenOf pd66 rfl) rfl rfl (Nat.le_of_eq rfl) (D at_134)
        obtain ⟨da_444, kd_444, bn_444, M_444, gs_444, cd_444, rfl, N444q, K444q, p444_0, p444_1, p444_2, p444_3, p444_4⟩ := q444
        have N444 := Fr.app N433 N444q
        have sf447 : Safe Z own_EL s.vm h439 b439 := (Safe.ext E439 C434.1 (Safe.new (Nat.le_of_eq q439.symm)))
        have O448 := Old0.keep O441 K444q (allS g_b439 all0)
        have C446 := CHr.trans C440 (CHr.keep K444q (sfS sf447 sf0) C440.1)
        have hk := Nat.le_trans hk K444q.1
        have g_da_444 : Z.heap.size ≤ da_444 := Nat.le_trans O441.1 p444_0
        have ne_va_408_da_444 : va_408 ≠ da_444 := Nat.ne_of_lt (Nat.lt_of_lt_of_le f445.lt p444_0)
        have ne_b439_da_444 : b439 ≠ da_444 := Nat.ne_of_lt (Nat.lt_of_lt_of_le A439.lt p444_0)
        have f450 : Exa Z T444.heap b439 "java/lang/String" := (Exa.keep A439 K444q)
        obtain ⟨T449, v449, L449, X449, q449, st449⟩ := callVi X444 hx hZ (y := own_m58) (z := own_m58) hown (own_w hw (i := 39) rfl) (own_w hw (i := 40) rfl) (notFace_of_selects (args := #[]) (mvT hZ (own_w hw (i := 42) rfl))) (own_w hw (i := 42) rfl) (own_w hw (i := 41) rfl) (own_w hw (i := 43) rfl) (own_w hw (i := 1) rfl) (by decide) (rm_acc hw G ((A 1)) b439 ((64 : Int32)) da_444 kd_444 bn_444 M_444 gs_444 cd_444 n_408 N_408 ((own_up (fun _ => f8) 0 a9)) T444.heap O448 (hn) (hN) ((own_upch (fun _ => ch8) ch9)) (p444_4) (Fld.ext O448 F_s_SUBSCRIPTION_minLength) (Fld.ext O448 F_s_SUBSCRIPTION_maxLength) f450 p444_1 p444_2 p444_3) rfl (W := 0) (by decide) (by decide) (by decide) (by decide) (Exa.ext O448 E_s_SUBSCRIPTION) (g := (mkF m 137 #[iv p0, iv p1, iv p2, iv p3, iv p4, iv p5, iv 0, rv (A 1), iv f8, iv a9, iv b10, iv d11, rv va_408, iv n_408, .unset, .unset, .unset, .unset] [(.ref b439), (.ref (A 1))])) rfl (by rw [hml]; rfl) (argsL := [(.ref b439)]) (rest := []) (lenOf pd67 rfl) rfl rfl (Nat.le_of_eq rfl) (D at_137)
        obtain ⟨r_449, rfl, N449q, K449q, p449_0⟩ := q449
        have N449 := Fr.app N444 N449q
        have O452 := Old0.keep O448 K449q all0
        have C451 := CHr.trans C446 (CHr.keep K449q sf0 C446.1)
        have hk := Nat.le_trans hk K449q.1
        have hc454 : n_408 < (3 : Int32) := own_ltt hc437 (by decide)
        have hc455 : ¬ (n_408 < (1 : Int32)) := hc412
        refine GoS.of (T' := T449) (f' := (mkF m 184 #[iv p0, iv p1, iv p2, iv p3, iv p4, iv p5, iv 0, rv (A 1), iv f8, iv a9, iv b10, iv d11, rv va_408, iv n_408, iv r_449, iv 64, iv 0, .unset] [(.int a9)])) (fun _ k => XS.icmpYes X433.here hx rfl (pc0 := 93) (pc' := 105) rfl (D at_93) rfl (tlt hc437).1 (by decide) (by decide) (XS.iload X433.here hx rfl (D at_105) rfl (XS.iconst X433.here hx rfl (D at_107) (XS.icmpYes X433.here hx rfl (pc0 := 108) (pc' := 126) rfl (D at_108) rfl (tlt hc438).1 (by decide) (by decide) (XS.aload X433.here hx rfl (D at_126) rfl rfl (st439 _ (XS.dup X439.here hx rfl (D at_131) rfl rfl (XS.aload X439.here hx rfl (D at_132) rfl rfl (st444 _ (st449 _ (XS.istore X449.here hx rfl (D at_140) rfl (l' := #[iv p0, iv p1, iv p2, iv p3, iv p4, iv p5, iv 0, rv (A 1), iv f8, iv a9, iv b10, iv d11, rv va_408, iv n_408, iv r_449, .unset, .unset, .unset]) rfl (XS.iload X449.here hx rfl (D at_142) rfl (XS.ifYes X449.here hx rfl (pc0 := 144) (pc' := 152) rfl (D at_144) rfl ((if0 _ _).trans (teq (by decide : (0 : Int32) = (0 : Int32))).1) (by decide) (by decide) (XS.bipush X449.here hx rfl (D at_152) (XS.istore X449.here hx rfl (D at_154) rfl (l' := #[iv p0, iv p1, iv p2, iv p3, iv p4, iv p5, iv 0, rv (A 1), iv f8, iv a9, iv b10, iv d11, rv va_408, iv n_408, iv r_449, iv 64, .unset, .unset]) rfl (XS.iload X449.here hx rfl (D at_156) rfl (XS.iconst X449.here hx rfl (D at_158) (XS.icmpYes X449.here hx rfl (pc0 := 159) (pc' := 173) rfl (D at_159) rfl (tlt hc454).1 (by decide) (by decide) (XS.iconst X449.here hx rfl (D at_173) (XS.istore X449.here hx rfl (D at_174) rfl (l' := #[iv p0, iv p1, iv p2, iv p3, iv p4, iv p5, iv 0, rv (A 1), iv f8, iv a9, iv b10, iv d11, rv va_408, iv n_408, iv r_449, iv 64, iv 0, .unset]) rfl (XS.iload X449.here hx rfl (D at_176) rfl (XS.iconst X449.here hx rfl (D at_178) (XS.icmpNo X449.here hx rfl (D at_179) rfl (flt hc455).1 (XS.iload X449.here hx rfl (D at_182) rfl k)))))))))))))))))))))))) ?_
        obtain ⟨T456, v456, L456, X456, q456, st456⟩ := callSt X449 hx hZ (y := own_m56) hown (own_w hw (i := 83) rfl) (own_w hw (i := 84) rfl) (own_w hw (i := 7) rfl) (own_w hw (i := 85) rfl) (by decide) (rm_nc hw G a9  T449.heap O452 ) rfl (W := 0) (by decide) (by decide) (by decide) (by decide) (g := (mkF m 184 #[iv p0, iv p1, iv p2, iv p3, iv p4, iv p5, iv 0, rv (A 1), iv f8, iv a9, iv b10, iv d11, rv va_408, iv n_408, iv r_449, iv 64, iv 0, .unset] [(.int a9)])) rfl (by rw [hml]; rfl) (argsL := [(.int a9)]) (rest := []) (lenOf pd61 rfl) rfl rfl (Nat.le_of_eq rfl) (D at_184)
        obtain ⟨rfl, e456, rfl⟩ := q456
        have N456 := Fr.app N449 (Fr.nil _)
        refine GoS.of (T' := T456) (f' := (mkF m 187 #[iv p0, iv p1, iv p2, iv p3, iv p4, iv p5, iv 0, rv (A 1), iv f8, iv a9, iv b10, iv d11, rv va_408, iv n_408, iv r_449, iv 64, iv 0, .unset] [(.int (own_nm a9))])) (fun _ k => st456 _ k) ?_
        by_cases hc457 : (own_nm a9) = (0 : Int32)
        · skip
          have hc459 : r_449 = (0 : Int32) := own_ar0 p449_0 (Or.inl hc438)
          refine GoS.of (T' := T456) (f' := (mkF m 264 #[iv p0, iv p1, iv p2, iv p3, iv p4, iv p5, iv 0, rv (A 1), iv f8, iv a9, iv b10, iv d11, rv va_408, iv n_408, iv r_449, iv 64, iv 0, iv 0] [(.int 1)])) (fun _ k => XS.ifYes X456.here hx rfl (pc0 := 187) (pc' := 236) rfl (D at_187) rfl ((if0 _ _).trans (teq hc457).1) (by decide) (by decide) (XS.iconst X456.here hx rfl (D at_236) (XS.istore X456.here hx rfl (D at_237) rfl (l' := #[iv p0, iv p1, iv p2, iv p3, iv p4, iv p5, iv 0, rv (A 1), iv f8, iv a9, iv b10, iv d11, rv va_408, iv n_408, iv r_449, iv 64, iv 0, iv 0]) rfl (XS.iload X456.here hx rfl (D at_239) rfl (XS.iload X456.here hx rfl (D at_241) rfl (XS.ifYes X456.here hx rfl (pc0 := 243) (pc' := 255) rfl (D at_243) rfl ((if0 _ _).trans (teq (by decide : (0 : Int32) = (0 : Int32))).1) (by decide) (by decide) (XS.iconst X456.here hx rfl (D at_255) (XS.icmpNo X456.here hx rfl (D at_256) rfl (teq hc459).2 (XS.iconst X456.here hx rfl (D at_259) (XS.goto X456.here hx rfl (pc0 := 260) (pc' := 264) rfl (D at_260) (by decide) (by decide) k)))))))))) ?_
          exact GoS.retB X456 hx hlk hS hk hZ hEL C451 e456 hret (by simp) (D at_264) (by decide) (by decide) (z' := (1 : Int32)) rfl ⟨rfl, N456⟩
        · skip
          have hc460 : n_408 < (2 : Int32) := hc437
          have hc461 : n_408 < (3 : Int32) := own_ltt hc437 (by decide)
          have hc462 : n_408 < (4 : Int32) := own_ltt hc437 (by decide)
          have hc464 : r_449 = (0 : Int32) := own_ar0 p449_0 (Or.inl hc438)
          refine GoS.of (T' := T456) (f' := (mkF m 264 #[iv p0, iv p1, iv p2, iv p3, iv p4, iv p5, iv 0, rv (A 1), iv f8, iv a9, iv b10, iv d11, rv va_408, iv n_408, iv r_449, iv 64, iv 0, iv 1] [(.int 1)])) (fun _ k => XS.ifNo X456.here hx rfl (D at_187) rfl ((if0 _ _).trans (feq hc457).1) (XS.iload X456.here hx rfl (D at_190) rfl (XS.iconst X456.here hx rfl (D at_192) (XS.icmpYes X456.here hx rfl (pc0 := 193) (pc' := 204) rfl (D at_193) rfl (tlt hc460).1 (by decide) (by decide) (XS.iload X456.here hx rfl (D at_204) rfl (XS.iconst X456.here hx rfl (D at_206) (XS.icmpYes X456.here hx rfl (pc0 := 207) (pc' := 218) rfl (D at_207) rfl (tlt hc461).1 (by decide) (by decide) (XS.iload X456.here hx rfl (D at_218) rfl (XS.iconst X456.here hx rfl (D at_220) (XS.icmpYes X456.here hx rfl (pc0 := 221) (pc' := 232) rfl (D at_221) rfl (tlt hc462).1 (by decide) (by decide) (XS.iconst X456.here hx rfl (D at_232) (XS.goto X456.here hx rfl (pc0 := 233) (pc' := 237) rfl (D at_233) (by decide) (by decide) (XS.istore X456.here hx rfl (D at_237) rfl (l' := #[iv p0, iv p1, iv p2, iv p3, iv p4, iv p5, iv 0, rv (A 1), iv f8, iv a9, iv b10, iv d11, rv va_408, iv n_408, iv r_449, iv 64, iv 0, iv 1]) rfl (XS.iload X456.here hx rfl (D at_239) rfl (XS.iload X456.here hx rfl (D at_241) rfl (XS.ifYes X456.here hx rfl (pc0 := 243) (pc' := 255) rfl (D at_243) rfl ((if0 _ _).trans (teq (by decide : (0 : Int32) = (0 : Int32))).1) (by decide) (by decide) (XS.iconst X456.here hx rfl (D at_255) (XS.icmpNo X456.here hx rfl (D at_256) rfl (teq hc464).2 (XS.iconst X456.here hx rfl (D at_259) (XS.goto X456.here hx rfl (pc0 := 260) (pc' := 264) rfl (D at_260) (by decide) (by decide) k)))))))))))))))))))) ?_
          exact GoS.retB X456 hx hlk hS hk hZ hEL C451 e456 hret (by simp) (D at_264) (by decide) (by decide) (z' := (1 : Int32)) rfl ⟨rfl, N456⟩
      · skip
        obtain ⟨cl465, Ar465, qk465, S465, Ng465, H465, G465⟩ := id fu436
        obtain ⟨T465, h465, X465, e465, W465, st465⟩ := stC X433 hx hZ e433 Ar465 (j := (n_408 - (1 : Int32))) (inb_of S465 ⟨(own_n1i hn (own_ge1 hn hc412) hN).1, (own_n1i hn (own_ge1 hn hc412) hN).2.1⟩) (g := (mkF m 104 #[iv p0, iv p1, iv p2, iv p3, iv p4, iv p5, iv 0, rv (A 1), iv f8, iv a9, iv b10, iv d11, rv va_408, iv n_408, .unset, .unset, .unset, .unset] [(.int b10), (.int (n_408 - (1 : Int32))), (.ref va_408)])) rfl rfl (D at_104)
        have W465 : Wr h433 h465 va_408 ((n_408 - (1 : Int32))).toNatClampNeg (.int b10) := Eq.mp (congrArg (fun z => Wr h433 h465 va_408 ((n_408 - (1 : Int32))).toNatClampNeg (Value.int z)) (own_narch ch10)) W465
        have O467 := Old0.wr O435 W465 g_va_408
        have C466 := CHr.trans C434 (CHr.wr W465 (Safe.arv hZ.alike fu436 (by decide)) C434.1)
        have hk := Nat.le_trans hk (Keep.of_wr W465).1
        have f465 : Arv Z h465 va_408 kv_408 .char n_408 ((own_fn N_408 (own_up (fun _ => f8) 0 a9)).set (N_408 - 1) (.int b10)) (.int 0) := Arv.set Ar465 qk465 S465 Ng465 H465 G465 (v := (.int b10)) (own_fitch ch10) W465 (N_408 - 1) (own_n1i hn (own_ge1 hn hc412) hN).2.2 (by rw [own_fnlen]; have := own_ge1 hn hc412; omega)
        have N465 := Fr.snoc X465 N433 g_va_408
        have fu468 : Arv Z h465 va_408 kv_408 .char n_408 (own_fn N_408 (own_up (own_up (fun _ => f8) 0 a9) (N_408 - 1) b10)) (.int 0) := own_upA f465
        refine GoS.of (T' := T465) (f' := (mkF m 108 #[iv p0, iv p1, iv p2, iv p3, iv p4, iv p5, iv 0, rv (A 1), iv f8, iv a9, iv b10, iv d11, rv va_408, iv n_408, .unset, .unset, .unset, .unset] [(.int 3), (.int n_408)])) (fun _ k => XS.icmpNo X433.here hx rfl (D at_93) rfl (flt hc437).1 (XS.aload X433.here hx rfl (D at_96) rfl rfl (XS.iload X433.here hx rfl (D at_98) rfl (XS.iconst X433.here hx rfl (D at_100) (XS.isub X433.here hx rfl (D at_101) rfl (XS.iload X433.here hx rfl (D at_102) rfl (st465 _ (XS.iload X465.here hx rfl (D at_105) rfl (XS.iconst X465.here hx rfl (D at_107) k))))))))) ?_
        by_cases hc469 : n_408 < (3 : Int32)
        · skip
          obtain ⟨T470, h470, b470, q470, X470, e470, E470, A470, D470, st470⟩ := newOb X465 hx hZ hown (own_w hw (i := 10) rfl) (own_w hw (i := 11) rfl) (own_w hw (i := 12) rfl) e465 (g := (mkF m 128 #[iv p0, iv p1, iv p2, iv p3, iv p4, iv p5, iv 0, rv (A 1), iv f8, iv a9, iv b10, iv d11, rv va_408, iv n_408, .unset, .unset, .unset, .unset] [(.ref (A 1))])) rfl (D at_128) (by decide) (by decide)
          have O472 := Old0.ext O467 E470
          have C471 := CHr.trans C466 (CHr.ext E470 C466.1)
          have hk := Nat.le_trans hk E470.1
          have g_b470 : Z.heap.size ≤ b470 := q470 ▸ O467.1
          have ne_va_408_b470 : va_408 ≠ b470 := q470 ▸ Nat.ne_of_lt fu468.lt
          have f473 : Fld Z h470 b470 "java/lang/String" "coder" "B" (.int 0) := D470 (Or.inr (own_w hw (i := 36) rfl)) (ty := .byte) (by decide)
          have f474 : Fld Z h470 b470 "java/lang/String" "value" "[B" .null := D470 (Or.inr (own_w hw (i := 38) rfl)) (ty := (.array .byte)) (by decide)
          have f476 : Arv Z h470 va_408 kv_408 .char n_408 (own_fn N_408 (own_up (own_up (fun _ => f8) 0 a9) (N_408 - 1) b10)) (.int 0) := (Arv.ext fu468 E470)
          obtain ⟨T475, v475, L475, X475, q475, st475⟩ := callNew X470 hx hZ (y := own_m26) rfl hown (own_w hw (i := 13) rfl) (own_w hw (i := 14) rfl) (own_w hw (i := 12) rfl) (own_w hw (i := 15) rfl) (by decide) (rm_str hw G b470 va_408 n_408 kv_408 N_408 ((own_up (own_up (fun _ => f8) 0 a9) (N_408 - 1) b10)) h470 O472 (hn) (hN) ((own_upch (own_upch (fun _ => ch8) ch9) ch10)) (own_ge1 hn hc412) A470 f474 f473 g_b470 f476 (Ne.symm ne_va_408_b470)) e470 (W := 2) (by decide) (by decide) (by decide) (by decide) (g := (mkF m 134 #[iv p0, iv p1, iv p2, iv p3, iv p4, iv p5, iv 0, rv (A 1), iv f8, iv a9, iv b10, iv d11, rv va_408, iv n_408, .unset, .unset, .unset, .unset] [(.ref va_408), (.ref b470), (.ref b470), (.ref (A 1))])) rfl (by rw [hml]; rfl) (a := b470) (argsL := [(.ref va_408)]) (rest := [(.ref b470), (.ref (A 1))]) (lenOf pd66 rfl) rfl rfl (Nat.le_of_eq rfl) (D at_134)
          obtain ⟨da_475, kd_475, bn_475, M_475, gs_475, cd_475, rfl, N475q, K475q, p475_0, p475_1, p475_2, p475_3, p475_4⟩ := q475
          have N475 := Fr.app N465 N475q
          have sf478 : Safe Z own_EL s.vm h470 b470 := (Safe.ext E470 C466.1 (Safe.new (Nat.le_of_eq q470.symm)))
          have O479 := Old0.keep O472 K475q (allS g_b470 all0)
          have C477 := CHr.trans C471 (CHr.keep K475q (sfS sf478 sf0) C471.1)
          have hk := Nat.le_trans hk K475q.1
          have g_da_475 : Z.heap.size ≤ da_475 := Nat.le_trans O472.1 p475_0
          have ne_va_408_da_475 : va_408 ≠ da_475 := Nat.ne_of_lt (Nat.lt_of_lt_of_le f476.lt p475_0)
          have ne_b470_da_475 : b470 ≠ da_475 := Nat.ne_of_lt (Nat.lt_of_lt_of_le A470.lt p475_0)
          have f481 : Exa Z T475.heap b470 "java/lang/String" := (Exa.keep A470 K475q)
          obtain ⟨T480, v480, L480, X480, q480, st480⟩ := callVi X475 hx hZ (y := own_m58) (z := own_m58) hown (own_w hw (i := 39) rfl) (own_w hw (i := 40) rfl) (notFace_of_selects (args := #[]) (mvT hZ (own_w hw (i := 42) rfl))) (own_w hw (i := 42) rfl) (own_w hw (i := 41) rfl) (own_w hw (i := 43) rfl) (own_w hw (i := 1) rfl) (by decide) (rm_acc hw G ((A 1)) b470 ((64 : Int32)) da_475 kd_475 bn_475 M_475 gs_475 cd_475 n_408 N_408 ((own_up (own_up (fun _ => f8) 0 a9) (N_408 - 1) b10)) T475.heap O479 (hn) (hN) ((own_upch (own_upch (fun _ => ch8) ch9) ch10)) (p475_4) (Fld.ext O479 F_s_SUBSCRIPTION_minLength) (Fld.ext O479 F_s_SUBSCRIPTION_maxLength) f481 p475_1 p475_2 p475_3) rfl (W := 0) (by decide) (by decide) (by decide) (by decide) (Exa.ext O479 E_s_SUBSCRIPTION) (g := (mkF m 137 #[iv p0, iv p1, iv p2, iv p3, iv p4, iv p5, iv 0, rv (A 1), iv f8, iv a9, iv b10, iv d11, rv va_408, iv n_408, .unset, .unset, .unset, .unset] [(.ref b470), (.ref (A 1))])) rfl (by rw [hml]; rfl) (argsL := [(.ref b470)]) (rest := []) (lenOf pd67 rfl) rfl rfl (Nat.le_of_eq rfl) (D at_137)
          obtain ⟨r_480, rfl, N480q, K480q, p480_0⟩ := q480
          have N480 := Fr.app N475 N480q
          have O483 := Old0.keep O479 K480q all0
          have C482 := CHr.trans C477 (CHr.keep K480q sf0 C477.1)
          have hk := Nat.le_trans hk K480q.1
          have hc485 : n_408 < (3 : Int32) := hc469
          have hc486 : ¬ (n_408 < (1 : Int32)) := hc412
          obtain ⟨T487, v487, L487, X487, q487, st487⟩ := callSt X480 hx hZ (y := own_m56) hown (own_w hw (i := 83) rfl) (own_w hw (i := 84) rfl) (own_w hw (i := 7) rfl) (own_w hw (i := 85) rfl) (by decide) (rm_nc hw G a9  T480.heap O483 ) rfl (W := 0) (by decide) (by decide) (by decide) (by decide) (g := (mkF m 184 #[iv p0, iv p1, iv p2, iv p3, iv p4, iv p5, iv 0, rv (A 1), iv f8, iv a9, iv b10, iv d11, rv va_408, iv n_408, iv r_480, iv 64, iv 0, .unset] [(.int a9)])) rfl (by rw [hml]; rfl) (argsL := [(.int a9)]) (rest := []) (lenOf pd61 rfl) rfl rfl (Nat.le_of_eq rfl) (D at_184)
          obtain ⟨rfl, e487, rfl⟩ := q487
          have N487 := Fr.app N480 (Fr.nil _)
          refine GoS.of (T' := T487) (f' := (mkF m 187 #[iv p0, iv p1, iv p2, iv p3, iv p4, iv p5, iv 0, rv (A 1), iv f8, iv a9, iv b10, iv d11, rv va_408, iv n_408, iv r_480, iv 64, iv 0, .unset] [(.int (own_nm a9))])) (fun _ k => XS.icmpYes X465.here hx rfl (pc0 := 108) (pc' := 126) rfl (D at_108) rfl (tlt hc469).1 (by decide) (by decide) (XS.aload X465.here hx rfl (D at_126) rfl rfl (st470 _ (XS.dup X470.here hx rfl (D at_131) rfl rfl (XS.aload X470.here hx rfl (D at_132) rfl rfl (st475 _ (st480 _ (XS.istore X480.here hx rfl (D at_140) rfl (l' := #[iv p0, iv p1, iv p2, iv p3, iv p4, iv p5, iv 0, rv (A 1), iv f8, iv a9, iv b10, iv d11, rv va_408, iv n_408, iv r_480, .unset, .unset, .unset]) rfl (XS.iload X480.here hx rfl (D at_142) rfl (XS.ifYes X480.here hx rfl (pc0 := 144) (pc' := 152) rfl (D at_144) rfl ((if0 _ _).trans (teq (by decide : (0 : Int32) = (0 : Int32))).1) (by decide) (by decide) (XS.bipush X480.here hx rfl (D at_152) (XS.istore X480.here hx rfl (D at_154) rfl (l' := #[iv p0, iv p1, iv p2, iv p3, iv p4, iv p5, iv 0, rv (A 1), iv f8, iv a9, iv b10, iv d11, rv va_408, iv n_408, iv r_480, iv 64, .unset, .unset]) rfl (XS.iload X480.here hx rfl (D at_156) rfl (XS.iconst X480.here hx rfl (D at_158) (XS.icmpYes X480.here hx rfl (pc0 := 159) (pc' := 173) rfl (D at_159) rfl (tlt hc485).1 (by decide) (by decide) (XS.iconst X480.here hx rfl (D at_173) (XS.istore X480.here hx rfl (D at_174) rfl (l' := #[iv p0, iv p1, iv p2, iv p3, iv p4, iv p5, iv 0, rv (A 1), iv f8, iv a9, iv b10, iv d11, rv va_408, iv n_408, iv r_480, iv 64, iv 0, .unset]) rfl (XS.iload X480.here hx rfl (D at_176) rfl (XS.iconst X480.here hx rfl (D at_178) (XS.icmpNo X480.here hx rfl (D at_179) rfl (flt hc486).1 (XS.iload X480.here hx rfl (D at_182) rfl (st487 _ k)))))))))))))))))))))) ?_
          by_cases hc488 : (own_nm a9) = (0 : Int32)
          · skip
            have hc490 : r_480 = (0 : Int32) := own_ar0 p480_0 (Or.inl hc469)
            refine GoS.of (T' := T487) (f' := (mkF m 264 #[iv p0, iv p1, iv p2, iv p3, iv p4, iv p5, iv 0, rv (A 1), iv f8, iv a9, iv b10, iv d11, rv va_408, iv n_408, iv r_480, iv 64, iv 0, iv 0] [(.int 1)])) (fun _ k => XS.ifYes X487.here hx rfl (pc0 := 187) (pc' := 236) rfl (D at_187) rfl ((if0 _ _).trans (teq hc488).1) (by decide) (by decide) (XS.iconst X487.here hx rfl (D at_236) (XS.istore X487.here hx rfl (D at_237) rfl (l' := #[iv p0, iv p1, iv p2, iv p3, iv p4, iv p5, iv 0, rv (A 1), iv f8, iv a9, iv b10, iv d11, rv va_408, iv n_408, iv r_480, iv 64, iv 0, iv 0]) rfl (XS.iload X487.here hx rfl (D at_239) rfl (XS.iload X487.here hx rfl (D at_241) rfl (XS.ifYes X487.here hx rfl (pc0 := 243) (pc' := 255) rfl (D at_243) rfl ((if0 _ _).trans (teq (by decide : (0 : Int32) = (0 : Int32))).1) (by decide) (by decide) (XS.iconst X487.here hx rfl (D at_255) (XS.icmpNo X487.here hx rfl (D at_256) rfl (teq hc490).2 (XS.iconst X487.here hx rfl (D at_259) (XS.goto X487.here hx rfl (pc0 := 260) (pc' := 264) rfl (D at_260) (by decide) (by decide) k)))))))))) ?_
            exact GoS.retB X487 hx hlk hS hk hZ hEL C482 e487 hret (by simp) (D at_264) (by decide) (by decide) (z' := (1 : Int32)) rfl ⟨rfl, N487⟩
          · skip
            have hc491 : ¬ (n_408 < (2 : Int32)) := hc437
            obtain ⟨T492, v492, L492, X492, q492, st492⟩ := callSt X487 hx hZ (y := own_m56) hown (own_w hw (i := 83) rfl) (own_w hw (i := 84) rfl) (own_w hw (i := 7) rfl) (own_w hw (i := 85) rfl) (by decide) (rm_nc hw G b10  T480.heap O483 ) e487 (W := 0) (by decide) (by decide) (by decide) (by decide) (g := (mkF m 198 #[iv p0, iv p1, iv p2, iv p3, iv p4, iv p5, iv 0, rv (A 1), iv f8, iv a9, iv b10, iv d11, rv va_408, iv n_408, iv r_480, iv 64, iv 0, .unset] [(.int b10)])) rfl (by rw [hml]; rfl) (argsL := [(.int b10)]) (rest := []) (lenOf pd61 rfl) rfl rfl (Nat.le_of_eq rfl) (D at_198)
            obtain ⟨rfl, e492, rfl⟩ := q492
            have N492 := Fr.app N487 (Fr.nil _)
            refine GoS.of (T' := T492) (f' := (mkF m 201 #[iv p0, iv p1, iv p2, iv p3, iv p4, iv p5, iv 0, rv (A 1), iv f8, iv a9, iv b10, iv d11, rv va_408, iv n_408, iv r_480, iv 64, iv 0, .unset] [(.int (own_nm b10))])) (fun _ k => XS.ifNo X487.here hx rfl (D at_187) rfl ((if0 _ _).trans (feq hc488).1) (XS.iload X487.here hx rfl (D at_190) rfl (XS.iconst X487.here hx rfl (D at_192) (XS.icmpNo X487.here hx rfl (D at_193) rfl (flt hc491).1 (XS.iload X487.here hx rfl (D at_196) rfl (st492 _ k)))))) ?_
            by_cases hc493 : (own_nm b10) = (0 : Int32)
            · skip
              have hc495 : r_480 = (0 : Int32) := own_ar0 p480_0 (Or.inl hc469)
              refine GoS.of (T' := T492) (f' := (mkF m 264 #[iv p0, iv p1, iv p2, iv p3, iv p4, iv p5, iv 0, rv (A 1), iv f8, iv a9, iv b10, iv d11, rv va_408, iv n_408, iv r_480, iv 64, iv 0, iv 0] [(.int 1)])) (fun _ k => XS.ifYes X492.here hx rfl (pc0 := 201) (pc' := 236) rfl (D at_201) rfl ((if0 _ _).trans (teq hc493).1) (by decide) (by decide) (XS.iconst X492.here hx rfl (D at_236) (XS.istore X492.here hx rfl (D at_237) rfl (l' := #[iv p0, iv p1, iv p2, iv p3, iv p4, iv p5, iv 0, rv (A 1), iv f8, iv a9, iv b10, iv d11, rv va_408, iv n_408, iv r_480, iv 64, iv 0, iv 0]) rfl (XS.iload X492.here hx rfl (D at_239) rfl (XS.iload X492.here hx rfl (D at_241) rfl (XS.ifYes X492.here hx rfl (pc0 := 243) (pc' := 255) rfl (D at_243) rfl ((if0 _ _).trans (teq (by decide : (0 : Int32) = (0 : Int32))).1) (by decide) (by decide) (XS.iconst X492.here hx rfl (D at_255) (XS.icmpNo X492.here hx rfl (D at_256) rfl (teq hc495).2 (XS.iconst X492.here hx rfl (D at_259) (XS.goto X492.here hx rfl (pc0 := 260) (pc' := 264) rfl (D at_260) (by decide) (by decide) k)))))))))) ?_
              exact GoS.retB X492 hx hlk hS hk hZ hEL C482 e492 hret (by simp) (D at_264) (by decide) (by decide) (z' := (1 : Int32)) rfl ⟨rfl, N492⟩
            · skip
              have hc496 : n_408 < (3 : Int32) := hc469
              have hc497 : n_408 < (4 : Int32) := own_ltt hc469 (by decide)
              have hc499 : r_480 = (0 : Int32) := own_ar0 p480_0 (Or.inl hc469)
              refine GoS.of (T' := T492) (f' := (mkF m 264 #[iv p0, iv p1, iv p2, iv p3, iv p4, iv p5, iv 0, rv (A 1), iv f8, iv a9, iv b10, iv d11, rv va_408, iv n_408, iv r_480, iv 64, iv 0, iv 1] [(.int 1)])) (fun _ k => XS.ifNo X492.here hx rfl (D at_201) rfl ((if0 _ _).trans (feq hc493).1) (XS.iload X492.here hx rfl (D at_204) rfl (XS.iconst X492.here hx rfl (D at_206) (XS.icmpYes X492.here hx rfl (pc0 := 207) (pc' := 218) rfl (D at_207) rfl (tlt hc496).1 (by decide) (by decide) (XS.iload X492.here hx rfl (D at_218) rfl (XS.iconst X492.here hx rfl (D at_220) (XS.icmpYes X492.here hx rfl (pc0 := 221) (pc' := 232) rfl (D at_221) rfl (tlt hc497).1 (by decide) (by decide) (XS.iconst X492.here hx rfl (D at_232) (XS.goto X492.here hx rfl (pc0 := 233) (pc' := 237) rfl (D at_233) (by decide) (by decide) (XS.istore X492.here hx rfl (D at_237) rfl (l' := #[iv p0, iv p1, iv p2, iv p3, iv p4, iv p5, iv 0, rv (A 1), iv f8, iv a9, iv b10, iv d11, rv va_408, iv n_408, iv r_480, iv 64, iv 0, iv 1]) rfl (XS.iload X492.here hx rfl (D at_239) rfl (XS.iload X492.here hx rfl (D at_241) rfl (XS.ifYes X492.here hx rfl (pc0 := 243) (pc' := 255) rfl (D at_243) rfl ((if0 _ _).trans (teq (by decide : (0 : Int32) = (0 : Int32))).1) (by decide) (by decide) (XS.iconst X492.here hx rfl (D at_255) (XS.icmpNo X492.here hx rfl (D at_256) rfl (teq hc499).2 (XS.iconst X492.here hx rfl (D at_259) (XS.goto X492.here hx rfl (pc0 := 260) (pc' := 264) rfl (D at_260) (by decide) (by decide) k))))))))))))))))) ?_
              exact GoS.retB X492 hx hlk hS hk hZ hEL C482 e492 hret (by simp) (D at_264) (by decide) (by decide) (z' := (1 : Int32)) rfl ⟨rfl, N492⟩
        · skip
          refine GoS.of (T' := T465) (f' := (mkF m 123 #[iv p0, iv p1, iv p2, iv p3, iv p4, iv p5, iv 0, rv (A 1), iv f8, iv a9, iv b10, iv d11, rv va_408, iv n_408, .unset, .unset, .unset, .unset] [(.int ((1 : Int32) + (((p0.toUInt32 >>> ((1 : Int32) &&& 31).toUInt32).toInt32) % (n_408 - (2 : Int32))))), (.ref va_408)])) (fun _ k => XS.icmpNo X465.here hx rfl (D at_108) rfl (flt hc469).1 (XS.aload X465.here hx rfl (D at_111) rfl rfl (XS.iconst X465.here hx rfl (D at_113) (XS.iloadN X465.here hx rfl (D at_114) rfl (XS.iconst X465.here hx rfl (D at_115) (XS.iushr X465.here hx rfl (D at_116) rfl (XS.iload X465.here hx rfl (D at_117) rfl (XS.iconst X465.here hx rfl (D at_119) (XS.isub X465.here hx rfl (D at_120) rfl (iremM X465 hx rfl (D at_121) rfl (own_n2z hn (own_ge3 hn hc469) hN) (XS.iadd X465.here hx rfl (D at_122) rfl k))))))))))) ?_
          generalize eq12 : (((1 : Int32) + (((p0.toUInt32 >>> ((1 : Int32) &&& 31).toUInt32).toInt32) % (n_408 - (2 : Int32)))) : Int32) = q12
          have hq : 1 ≤ q12.toInt ∧ q12.toInt < N_408 - 1 := by rw [← eq12]; exact own_mid hn (own_ge3 hn hc469) hN
          have hq2 := own_mid2 hn hq
          obtain ⟨cl500, Ar500, qk500, S500, Ng500, H500, G500⟩ := id fu468
          obtain ⟨T500, h500, X500, e500, W500, st500⟩ := stC X465 hx hZ e465 Ar500 (j := q12) (inb_of S500 ⟨hq2.1, hq2.2.1⟩) (g := (mkF m 125 #[iv p0, iv p1, iv p2, iv p3, iv p4, iv p5, iv 0, rv (A 1), iv f8, iv a9, iv b10, iv d11, rv va_408, iv n_408, .unset, .unset, .unset, .unset] [(.int d11), (.int q12), (.ref va_408)])) rfl rfl (D at_125)
          have W500 : Wr h465 h500 va_408 (q12).toNatClampNeg (.int d11) := Eq.mp (congrArg (fun z => Wr h465 h500 va_408 (q12).toNatClampNeg (Value.int z)) (own_narch ch11)) W500
          have O502 := Old0.wr O467 W500 g_va_408
          have C501 := CHr.trans C466 (CHr.wr W500 (Safe.arv hZ.alike fu468 (by decide)) C466.1)
          have hk := Nat.le_trans hk (Keep.of_wr W500).1
          have f500 : Arv Z h500 va_408 kv_408 .char n_408 ((own_fn N_408 (own_up (own_up (fun _ => f8) 0 a9) (N_408 - 1) b10)).set q12.toNatClampNeg (.int d11)) (.int 0) := Arv.set Ar500 qk500 S500 Ng500 H500 G500 (v := (.int d11)) (own_fitch ch11) W500 q12.toNatClampNeg rfl (by rw [own_fnlen]; exact hq2.2.2.1)
          have N500 := Fr.snoc X500 N465 g_va_408
          have fu503 : Arv Z h500 va_408 kv_408 .char n_408 (own_fn N_408 (own_lc f8 a9 b10 d11 N_408 q12.toNatClampNeg)) (.int 0) := own_upA f500
          obtain ⟨T504, h504, b504, q504, X504, e504, E504, A504, D504, st504⟩ := newOb X500 hx hZ hown (own_w hw (i := 10) rfl) (own_w hw (i := 11) rfl) (own_w hw (i := 12) rfl) e500 (g := (mkF m 128 #[iv p0, iv p1, iv p2, iv p3, iv p4, iv p5, iv 0, rv (A 1), iv f8, iv a9, iv b10, iv d11, rv va_408, iv n_408, .unset, .unset, .unset, .unset] [(.ref (A 1))])) rfl (D at_128) (by decide) (by decide)
          have O506 := Old0.ext O502 E504
          have C505 := CHr.trans C501 (CHr.ext E504 C501.1)
          have hk := Nat.le_trans hk E504.1
          have g_b504 : Z.heap.size ≤ b504 := q504 ▸ O502.1
          have ne_va_408_b504 : va_408 ≠ b504 := q504 ▸ Nat.ne_of_lt fu503.lt
          have f507 : Fld Z h504 b504 "java/lang/String" "coder" "B" (.int 0) := D504 (Or.inr (own_w hw (i := 36) rfl)) (ty := .byte) (by decide)
          have f508 : Fld Z h504 b504 "java/lang/String" "value" "[B" .null := D504 (Or.inr (own_w hw (i := 38) rfl)) (ty := (.array .byte)) (by decide)
          have f510 : Arv Z h504 va_408 kv_408 .char n_408 (own_fn N_408 (own_lc f8 a9 b10 d11 N_408 q12.toNatClampNeg)) (.int 0) := (Arv.ext fu503 E504)
          obtain ⟨T509, v509, L509, X509, q509, st509⟩ := callNew X504 hx hZ (y := own_m26) rfl hown (own_w hw (i := 13) rfl) (own_w hw (i := 14) rfl) (own_w hw (i := 12) rfl) (own_w hw (i := 15) rfl) (by decide) (rm_str hw G b504 va_408 n_408 kv_408 N_408 ((own_lc f8 a9 b10 d11 N_408 q12.toNatClampNeg)) h504 O506 (hn) (hN) ((own_upch (own_upch (own_upch (fun _ => ch8) ch9) ch10) ch11)) (own_ge1 hn hc412) A504 f508 f507 g_b504 f510 (Ne.symm ne_va_408_b504)) e504 (W := 2) (by decide) (by decide) (by decide) (by decide) (g := (mkF m 134 #[iv p0, iv p1, iv p2, iv p3, iv p4, iv p5, iv 0, rv (A 1), iv f8, iv a9, iv b10, iv d11, rv va_408, iv n_408, .unset, .unset, .unset, .unset] [(.ref va_408), (.ref b504), (.ref b504), (.ref (A 1))])) rfl (by rw [hml]; rfl) (a := b504) (argsL := [(.ref va_408)]) (rest := [(.ref b504), (.ref (A 1))]) (lenOf pd66 rfl) rfl rfl (Nat.le_of_eq rfl) (D at_134)
          obtain ⟨da_509, kd_509, bn_509, M_509, gs_509, cd_509, rfl, N509q, K509q, p509_0, p509_1, p509_2, p509_3, p509_4⟩ := q509
          have N509 := Fr.app N500 N509q
          have sf512 : Safe Z own_EL s.vm h504 b504 := (Safe.ext E504 C501.1 (Safe.new (Nat.le_of_eq q504.symm)))
          have O513 := Old0.keep O506 K509q (allS g_b504 all0)
          have C511 := CHr.trans C505 (CHr.keep K509q (sfS sf512 sf0) C505.1)
          have hk := Nat.le_trans hk K509q.1
          have g_da_509 : Z.heap.size ≤ da_509 := Nat.le_trans O506.1 p509_0
          have ne_va_408_da_509 : va_408 ≠ da_509 := Nat.ne_of_lt (Nat.lt_of_lt_of_le f510.lt p509_0)
          have ne_b504_da_509 : b504 ≠ da_509 := Nat.ne_of_lt (Nat.lt_of_lt_of_le A504.lt p509_0)
          have f515 : Exa Z T509.heap b504 "java/lang/String" := (Exa.keep A504 K509q)
          obtain ⟨T514, v514, L514, X514, q514, st514⟩ := callVi X509 hx hZ (y := own_m58) (z := own_m58) hown (own_w hw (i := 39) rfl) (own_w hw (i := 40) rfl) (notFace_of_selects (args := #[]) (mvT hZ (own_w hw (i := 42) rfl))) (own_w hw (i := 42) rfl) (own_w hw (i := 41) rfl) (own_w hw (i := 43) rfl) (own_w hw (i := 1) rfl) (by decide) (rm_acc hw G ((A 1)) b504 ((64 : Int32)) da_509 kd_509 bn_509 M_509 gs_509 cd_509 n_408 N_408 ((own_lc f8 a9 b10 d11 N_408 q12.toNatClampNeg)) T509.heap O513 (hn) (hN) ((own_upch (own_upch (own_upch (fun _ => ch8) ch9) ch10) ch11)) (p509_4) (Fld.ext O513 F_s_SUBSCRIPTION_minLength) (Fld.ext O513 F_s_SUBSCRIPTION_maxLength) f515 p509_1 p509_2 p509_3) rfl (W := 0) (by decide) (by decide) (by decide) (by decide) (Exa.ext O513 E_s_SUBSCRIPTION) (g := (mkF m 137 #[iv p0, iv p1, iv p2, iv p3, iv p4, iv p5, iv 0, rv (A 1), iv f8, iv a9, iv b10, iv d11, rv va_408, iv n_408, .unset, .unset, .unset, .unset] [(.ref b504), (.ref (A 1))])) rfl (by rw [hml]; rfl) (argsL := [(.ref b504)]) (rest := []) (lenOf pd67 rfl) rfl rfl (Nat.le_of_eq rfl) (D at_137)
          obtain ⟨r_514, rfl, N514q, K514q, p514_0⟩ := q514
          have N514 := Fr.app N509 N514q
          have O517 := Old0.keep O513 K514q all0
          have C516 := CHr.trans C511 (CHr.keep K514q sf0 C511.1)
          have hk := Nat.le_trans hk K514q.1
          have hc519 : ¬ (n_408 < (3 : Int32)) := hc469
          refine GoS.of (T' := T514) (f' := (mkF m 166 #[iv p0, iv p1, iv p2, iv p3, iv p4, iv p5, iv 0, rv (A 1), iv f8, iv a9, iv b10, iv d11, rv va_408, iv n_408, iv r_514, iv 64, .unset, .unset] [(.int 64), (.int n_408)])) (fun _ k => XS.iload X465.here hx rfl (D at_123) rfl (st500 _ (XS.aload X500.here hx rfl (D at_126) rfl rfl (st504 _ (XS.dup X504.here hx rfl (D at_131) rfl rfl (XS.aload X504.here hx rfl (D at_132) rfl rfl (st509 _ (st514 _ (XS.istore X514.here hx rfl (D at_140) rfl (l' := #[iv p0, iv p1, iv p2, iv p3, iv p4, iv p5, iv 0, rv (A 1), iv f8, iv a9, iv b10, iv d11, rv va_408, iv n_408, iv r_514, .unset, .unset, .unset]) rfl (XS.iload X514.here hx rfl (D at_142) rfl (XS.ifYes X514.here hx rfl (pc0 := 144) (pc' := 152) rfl (D at_144) rfl ((if0 _ _).trans (teq (by decide : (0 : Int32) = (0 : Int32))).1) (by decide) (by decide) (XS.bipush X514.here hx rfl (D at_152) (XS.istore X514.here hx rfl (D at_154) rfl (l' := #[iv p0, iv p1, iv p2, iv p3, iv p4, iv p5, iv 0, rv (A 1), iv f8, iv a9, iv b10, iv d11, rv va_408, iv n_408, iv r_514, iv 64, .unset, .unset]) rfl (XS.iload X514.here hx rfl (D at_156) rfl (XS.iconst X514.here hx rfl (D at_158) (XS.icmpNo X514.here hx rfl (D at_159) rfl (flt hc519).1 (XS.iload X514.here hx rfl (D at_162) rfl (XS.iload X514.here hx rfl (D at_164) rfl k)))))))))))))))))) ?_
          by_cases hc520 : (64 : Int32) < n_408
          · skip
            have hc521 : ¬ (n_408 < (1 : Int32)) := hc412
            obtain ⟨T522, v522, L522, X522, q522, st522⟩ := callSt X514 hx hZ (y := own_m56) hown (own_w hw (i := 83) rfl) (own_w hw (i := 84) rfl) (own_w hw (i := 7) rfl) (own_w hw (i := 85) rfl) (by decide) (rm_nc hw G a9  T514.heap O517 ) rfl (W := 0) (by decide) (by decide) (by decide) (by decide) (g := (mkF m 184 #[iv p0, iv p1, iv p2, iv p3, iv p4, iv p5, iv 0, rv (A 1), iv f8, iv a9, iv b10, iv d11, rv va_408, iv n_408, iv r_514, iv 64, iv 0, .unset] [(.int a9)])) rfl (by rw [hml]; rfl) (argsL := [(.int a9)]) (rest := []) (lenOf pd61 rfl) rfl rfl (Nat.le_of_eq rfl) (D at_184)
            obtain ⟨rfl, e522, rfl⟩ := q522
            have N522 := Fr.app N514 (Fr.nil _)
            refine GoS.of (T' := T522) (f' := (mkF m 187 #[iv p0, iv p1, iv p2, iv p3, iv p4, iv p5, iv 0, rv (A 1), iv f8, iv a9, iv b10, iv d11, rv va_408, iv n_408, iv r_514, iv 64, iv 0, .unset] [(.int (own_nm a9))])) (fun _ k => XS.icmpYes X514.here hx rfl (pc0 := 166) (pc' := 173) rfl (D at_166) rfl (tlt hc520).2.2.1 (by decide) (by decide) (XS.iconst X514.here hx rfl (D at_173) (XS.istore X514.here hx rfl (D at_174) rfl (l' := #[iv p0, iv p1, iv p2, iv p3, iv p4, iv p5, iv 0, rv (A 1), iv f8, iv a9, iv b10, iv d11, rv va_408, iv n_408, iv r_514, iv 64, iv 0, .unset]) rfl (XS.iload X514.here hx rfl (D at_176) rfl (XS.iconst X514.here hx rfl (D at_178) (XS.icmpNo X514.here hx rfl (D at_179) rfl (flt hc521).1 (XS.iload X514.here hx rfl (D at_182) rfl (st522 _ k)))))))) ?_
            by_cases hc523 : (own_nm a9) = (0 : Int32)
            · skip
              have hc525 : r_514 = (0 : Int32) := own_ar0 p514_0 (Or.inr (Or.inl hc520))
              refine GoS.of (T' := T522) (f' := (mkF m 264 #[iv p0, iv p1, iv p2, iv p3, iv p4, iv p5, iv 0, rv (A 1), iv f8, iv a9, iv b10, iv d11, rv va_408, iv n_408, iv r_514, iv 64, iv 0, iv 0] [(.int 1)])) (fun _ k => XS.ifYes X522.here hx rfl (pc0 := 187) (pc' := 236) rfl (D at_187) rfl ((if0 _ _).trans (teq hc523).1) (by decide) (by decide) (XS.iconst X522.here hx rfl (D at_236) (XS.istore X522.here hx rfl (D at_237) rfl (l' := #[iv p0, iv p1, iv p2, iv p3, iv p4, iv p5, iv 0, rv (A 1), iv f8, iv a9, iv b10, iv d11, rv va_408, iv n_408, iv r_514, iv 64, iv 0, iv 0]) rfl (XS.iload X522.here hx rfl (D at_239) rfl (XS.iload X522.here hx rfl (D at_241) rfl (XS.ifYes X522.here hx rfl (pc0 := 243) (pc' := 255) rfl (D at_243) rfl ((if0 _ _).trans (teq (by decide : (0 : Int32) = (0 : Int32))).1) (by decide) (by decide) (XS.iconst X522.here hx rfl (D at_255) (XS.icmpNo X522.here hx rfl (D at_256) rfl (teq hc525).2 (XS.iconst X522.here hx rfl (D at_259) (XS.goto X522.here hx rfl (pc0 := 260) (pc' := 264) rfl (D at_260) (by decide) (by decide) k)))))))))) ?_
              exact GoS.retB X522 hx hlk hS hk hZ hEL C516 e522 hret (by simp) (D at_264) (by decide) (by decide) (z' := (1 : Int32)) rfl ⟨rfl, N522⟩
            · skip
              have hc526 : ¬ (n_408 < (2 : Int32)) := hc437
              obtain ⟨T527, v527, L527, X527, q527, st527⟩ := callSt X522 hx hZ (y := own_m56) hown (own_w hw (i := 83) rfl) (own_w hw (i := 84) rfl) (own_w hw (i := 7) rfl) (own_w hw (i := 85) rfl) (by decide) (rm_nc hw G b10  T514.heap O517 ) e522 (W := 0) (by decide) (by decide) (by decide) (by decide) (g := (mkF m 198 #[iv p0, iv p1, iv p2, iv p3, iv p4, iv p5, iv 0, rv (A 1), iv f8, iv a9, iv b10, iv d11, rv va_408, iv n_408, iv r_514, iv 64, iv 0, .unset] [(.int b10)])) rfl (by rw [hml]; rfl) (argsL := [(.int b10)]) (rest := []) (lenOf pd61 rfl) rfl rfl (Nat.le_of_eq rfl) (D at_198)
              obtain ⟨rfl, e527, rfl⟩ := q527
              have N527 := Fr.app N522 (Fr.nil _)
              refine GoS.of (T' := T527) (f' := (mkF m 201 #[iv p0, iv p1, iv p2, iv p3, iv p4, iv p5, iv 0, rv (A 1), iv f8, iv a9, iv b10, iv d11, rv va_408, iv n_408, iv r_514, iv 64, iv 0, .unset] [(.int (own_nm b10))])) (fun _ k => XS.ifNo X522.here hx rfl (D at_187) rfl ((if0 _ _).trans (feq hc523).1) (XS.iload X522.here hx rfl (D at_190) rfl (XS.iconst X522.here hx rfl (D at_192) (XS.icmpNo X522.here hx rfl (D at_193) rfl (flt hc526).1 (XS.iload X522.here hx rfl (D at_196) rfl (st527 _ k)))))) ?_
              by_cases hc528 : (own_nm b10) = (0 : Int32)
              · skip
                have hc530 : r_514 = (0 : Int32) := own_ar0 p514_0 (Or.inr (Or.inl hc520))
                refine GoS.of (T' := T527) (f' := (mkF m 264 #[iv p0, iv p1, iv p2, iv p3, iv p4, iv p5, iv 0, rv (A 1), iv f8, iv a9, iv b10, iv d11, rv va_408, iv n_408, iv r_514, iv 64, iv 0, iv 0] [(.int 1)])) (fun _ k => XS.ifYes X527.here hx rfl (pc0 := 201) (pc' := 236) rfl (D at_201) rfl ((if0 _ _).trans (teq hc528).1) (by decide) (by decide) (XS.iconst X527.here hx rfl (D at_236) (XS.istore X527.here hx rfl (D at_237) rfl (l' := #[iv p0, iv p1, iv p2, iv p3, iv p4, iv p5, iv 0, rv (A 1), iv f8, iv a9, iv b10, iv d11, rv va_408, iv n_408, iv r_514, iv 64, iv 0, iv 0]) rfl (XS.iload X527.here hx rfl (D at_239) rfl (XS.iload X527.here hx rfl (D at_241) rfl (XS.ifYes X527.here hx rfl (pc0 := 243) (pc' := 255) rfl (D at_243) rfl ((if0 _ _).trans (teq (by decide : (0 : Int32) = (0 : Int32))).1) (by decide) (by decide) (XS.iconst X527.here hx rfl (D at_255) (XS.icmpNo X527.here hx rfl (D at_256) rfl (teq hc530).2 (XS.iconst X527.here hx rfl (D at_259) (XS.goto X527.here hx rfl (pc0 := 260) (pc' := 264) rfl (D at_260) (by decide) (by decide) k)))))))))) ?_
                exact GoS.retB X527 hx hlk hS hk hZ hEL C516 e527 hret (by simp) (D at_264) (by decide) (by decide) (z' := (1 : Int32)) rfl ⟨rfl, N527⟩
              · skip
                have hc531 : ¬ (n_408 < (3 : Int32)) := hc469
                obtain ⟨T532, v532, L532, X532, q532, st532⟩ := callSt X527 hx hZ (y := own_m56) hown (own_w hw (i := 83) rfl) (own_w hw (i := 84) rfl) (own_w hw (i := 7) rfl) (own_w hw (i := 85) rfl) (by decide) (rm_nc hw G d11  T514.heap O517 ) e527 (W := 0) (by decide) (by decide) (by decide) (by decide) (g := (mkF m 212 #[iv p0, iv p1, iv p2, iv p3, iv p4, iv p5, iv 0, rv (A 1), iv f8, iv a9, iv b10, iv d11, rv va_408, iv n_408, iv r_514, iv 64, iv 0, .unset] [(.int d11)])) rfl (by rw [hml]; rfl) (argsL := [(.int d11)]) (rest := []) (lenOf pd61 rfl) rfl rfl (Nat.le_of_eq rfl) (D at_212)
                obtain ⟨rfl, e532, rfl⟩ := q532
                have N532 := Fr.app N527 (Fr.nil _)
                refine GoS.of (T' := T532) (f' := (mkF m 215 #[iv p0, iv p1, iv p2, iv p3, iv p4, iv p5, iv 0, rv (A 1), iv f8, iv a9, iv b10, iv d11, rv va_408, iv n_408, iv r_514, iv 64, iv 0, .unset] [(.int (own_nm d11))])) (fun _ k => XS.ifNo X527.here hx rfl (D at_201) rfl ((if0 _ _).trans (feq hc528).1) (XS.iload X527.here hx rfl (D at_204) rfl (XS.iconst X527.here hx rfl (D at_206) (XS.icmpNo X527.here hx rfl (D at_207) rfl (flt hc531).1 (XS.iload X527.here hx rfl (D at_210) rfl (st532 _ k)))))) ?_
                by_cases hc533 : (own_nm d11) = (0 : Int32)
                · skip
                  have hc535 : r_514 = (0 : Int32) := own_ar0 p514_0 (Or.inr (Or.inl hc520))
                  refine GoS.of (T' := T532) (f' := (mkF m 264 #[iv p0, iv p1, iv p2, iv p3, iv p4, iv p5, iv 0, rv (A 1), iv f8, iv a9, iv b10, iv d11, rv va_408, iv n_408, iv r_514, iv 64, iv 0, iv 0] [(.int 1)])) (fun _ k => XS.ifYes X532.here hx rfl (pc0 := 215) (pc' := 236) rfl (D at_215) rfl ((if0 _ _).trans (teq hc533).1) (by decide) (by decide) (XS.iconst X532.here hx rfl (D at_236) (XS.istore X532.here hx rfl (D at_237) rfl (l' := #[iv p0, iv p1, iv p2, iv p3, iv p4, iv p5, iv 0, rv (A 1), iv f8, iv a9, iv b10, iv d11, rv va_408, iv n_408, iv r_514, iv 64, iv 0, iv 0]) rfl (XS.iload X532.here hx rfl (D at_239) rfl (XS.iload X532.here hx rfl (D at_241) rfl (XS.ifYes X532.here hx rfl (pc0 := 243) (pc' := 255) rfl (D at_243) rfl ((if0 _ _).trans (teq (by decide : (0 : Int32) = (0 : Int32))).1) (by decide) (by decide) (XS.iconst X532.here hx rfl (D at_255) (XS.icmpNo X532.here hx rfl (D at_256) rfl (teq hc535).2 (XS.iconst X532.here hx rfl (D at_259) (XS.goto X532.here hx rfl (pc0 := 260) (pc' := 264) rfl (D at_260) (by decide) (by decide) k)))))))))) ?_
                  exact GoS.retB X532 hx hlk hS hk hZ hEL C516 e532 hret (by simp) (D at_264) (by decide) (by decide) (z' := (1 : Int32)) rfl ⟨rfl, N532⟩
                · skip
                  refine GoS.of (T' := T532) (f' := (mkF m 221 #[iv p0, iv p1, iv p2, iv p3, iv p4, iv p5, iv 0, rv (A 1), iv f8, iv a9, iv b10, iv d11, rv va_408, iv n_408, iv r_514, iv 64, iv 0, .unset] [(.int 4), (.int n_408)])) (fun _ k => XS.ifNo X532.here hx rfl (D at_215) rfl ((if0 _ _).trans (feq hc533).1) (XS.iload X532.here hx rfl (D at_218) rfl (XS.iconst X532.here hx rfl (D at_220) k))) ?_
                  by_cases hc536 : n_408 < (4 : Int32)
                  · skip
                    have hc538 : r_514 = (0 : Int32) := own_ar0 p514_0 (Or.inr (Or.inl hc520))
                    refine GoS.of (T' := T532) (f' := (mkF m 264 #[iv p0, iv p1, iv p2, iv p3, iv p4, iv p5, iv 0, rv (A 1), iv f8, iv a9, iv b10, iv d11, rv va_408, iv n_408, iv r_514, iv 64, iv 0, iv 1] [(.int 1)])) (fun _ k => XS.icmpYes X532.here hx rfl (pc0 := 221) (pc' := 232) rfl (D at_221) rfl (tlt hc536).1 (by decide) (by decide) (XS.iconst X532.here hx rfl (D at_232) (XS.goto X532.here hx rfl (pc0 := 233) (pc' := 237) rfl (D at_233) (by decide) (by decide) (XS.istore X532.here hx rfl (D at_237) rfl (l' := #[iv p0, iv p1, iv p2, iv p3, iv p4, iv p5, iv 0, rv (A 1), iv f8, iv a9, iv b10, iv d11, rv va_408, iv n_408, iv r_514, iv 64, iv 0, iv 1]) rfl (XS.iload X532.here hx rfl (D at_239) rfl (XS.iload X532.here hx rfl (D at_241) rfl (XS.ifYes X532.here hx rfl (pc0 := 243) (pc' := 255) rfl (D at_243) rfl ((if0 _ _).trans (teq (by decide : (0 : Int32) = (0 : Int32))).1) (by decide) (by decide) (XS.iconst X532.here hx rfl (D at_255) (XS.icmpNo X532.here hx rfl (D at_256) rfl (teq hc538).2 (XS.iconst X532.here hx rfl (D at_259) (XS.goto X532.here hx rfl (pc0 := 260) (pc' := 264) rfl (D at_260) (by decide) (by decide) k))))))))))) ?_
                    exact GoS.retB X532 hx hlk hS hk hZ hEL C516 e532 hret (by simp) (D at_264) (by decide) (by decide) (z' := (1 : Int32)) rfl ⟨rfl, N532⟩
                  · skip
                    obtain ⟨T539, v539, L539, X539, q539, st539⟩ := callSt X532 hx hZ (y := own_m56) hown (own_w hw (i := 83) rfl) (own_w hw (i := 84) rfl) (own_w hw (i := 7) rfl) (own_w hw (i := 85) rfl) (by decide) (rm_nc hw G f8  T514.heap O517 ) e532 (W := 0) (by decide) (by decide) (by decide) (by decide) (g := (mkF m 226 #[iv p0, iv p1, iv p2, iv p3, iv p4, iv p5, iv 0, rv (A 1), iv f8, iv a9, iv b10, iv d11, rv va_408, iv n_408, iv r_514, iv 64, iv 0, .unset] [(.int f8)])) rfl (by rw [hml]; rfl) (argsL := [(.int f8)]) (rest := []) (lenOf pd61 rfl) rfl rfl (Nat.le_of_eq rfl) (D at_226)
                    obtain ⟨rfl, e539, rfl⟩ := q539
                    have N539 := Fr.app N532 (Fr.nil _)
                    refine GoS.of (T' := T539) (f' := (mkF m 229 #[iv p0, iv p1, iv p2, iv p3, iv p4, iv p5, iv 0, rv (A 1), iv f8, iv a9, iv b10, iv d11, rv va_408, iv n_408, iv r_514, iv 64, iv 0, .unset] [(.int (own_nm f8))])) (fun _ k => XS.icmpNo X532.here hx rfl (D at_221) rfl (flt hc536).1 (XS.iload X532.here hx rfl (D at_224) rfl (st539 _ k))) ?_
                    by_cases hc540 : (own_nm f8) = (0 : Int32)
                    · skip
                      have hc542 : r_514 = (0 : Int32) := own_ar0 p514_0 (Or.inr (Or.inl hc520))
                      refine GoS.of (T' := T539) (f' := (mkF m 264 #[iv p0, iv p1, iv p2, iv p3, iv p4, iv p5, iv 0, rv (A 1), iv f8, iv a9, iv b10, iv d11, rv va_408, iv n_408, iv r_514, iv 64, iv 0, iv 0] [(.int 1)])) (fun _ k => XS.ifYes X539.here hx rfl (pc0 := 229) (pc' := 236) rfl (D at_229) rfl ((if0 _ _).trans (teq hc540).1) (by decide) (by decide) (XS.iconst X539.here hx rfl (D at_236) (XS.istore X539.here hx rfl (D at_237) rfl (l' := #[iv p0, iv p1, iv p2, iv p3, iv p4, iv p5, iv 0, rv (A 1), iv f8, iv a9, iv b10, iv d11, rv va_408, iv n_408, iv r_514, iv 64, iv 0, iv 0]) rfl (XS.iload X539.here hx rfl (D at_239) rfl (XS.iload X539.here hx rfl (D at_241) rfl (XS.ifYes X539.here hx rfl (pc0 := 243) (pc' := 255) rfl (D at_243) rfl ((if0 _ _).trans (teq (by decide : (0 : Int32) = (0 : Int32))).1) (by decide) (by decide) (XS.iconst X539.here hx rfl (D at_255) (XS.icmpNo X539.here hx rfl (D at_256) rfl (teq hc542).2 (XS.iconst X539.here hx rfl (D at_259) (XS.goto X539.here hx rfl (pc0 := 260) (pc' := 264) rfl (D at_260) (by decide) (by decide) k)))))))))) ?_
                      exact GoS.retB X539 hx hlk hS hk hZ hEL C516 e539 hret (by simp) (D at_264) (by decide) (by decide) (z' := (1 : Int32)) rfl ⟨rfl, N539⟩
                    · skip
                      have hc544 : r_514 = (0 : Int32) := own_ar0 p514_0 (Or.inr (Or.inl hc520))
                      refine GoS.of (T' := T539) (f' := (mkF m 264 #[iv p0, iv p1, iv p2, iv p3, iv p4, iv p5, iv 0, rv (A 1), iv f8, iv a9, iv b10, iv d11, rv va_408, iv n_408, iv r_514, iv 64, iv 0, iv 1] [(.int 1)])) (fun _ k => XS.ifNo X539.here hx rfl (D at_229) rfl ((if0 _ _).trans (feq hc540).1) (XS.iconst X539.here hx rfl (D at_232) (XS.goto X539.here hx rfl (pc0 := 233) (pc' := 237) rfl (D at_233) (by decide) (by decide) (XS.istore X539.here hx rfl (D at_237) rfl (l' := #[iv p0, iv p1, iv p2, iv p3, iv p4, iv p5, iv 0, rv (A 1), iv f8, iv a9, iv b10, iv d11, rv va_408, iv n_408, iv r_514, iv 64, iv 0, iv 1]) rfl (XS.iload X539.here hx rfl (D at_239) rfl (XS.iload X539.here hx rfl (D at_241) rfl (XS.ifYes X539.here hx rfl (pc0 := 243) (pc' := 255) rfl (D at_243) rfl ((if0 _ _).trans (teq (by decide : (0 : Int32) = (0 : Int32))).1) (by decide) (by decide) (XS.iconst X539.here hx rfl (D at_255) (XS.icmpNo X539.here hx rfl (D at_256) rfl (teq hc544).2 (XS.iconst X539.here hx rfl (D at_259) (XS.goto X539.here hx rfl (pc0 := 260) (pc' := 264) rfl (D at_260) (by decide) (by decide) k))))))))))) ?_
                      exact GoS.retB X539 hx hlk hS hk hZ hEL C516 e539 hret (by simp) (D at_264) (by decide) (by decide) (z' := (1 : Int32)) rfl ⟨rfl, N539⟩
          · skip
            have hc545 : ¬ (n_408 < (1 : Int32)) := hc412
            obtain ⟨T546, v546, L546, X546, q546, st546⟩ := callSt X514 hx hZ (y := own_m56) hown (own_w hw (i := 83) rfl) (own_w hw (i := 84) rfl) (own_w hw (i := 7) rfl) (own_w hw (i := 85) rfl) (by decide) (rm_nc hw G a9  T514.heap O517 ) rfl (W := 0) (by decide) (by decide) (by decide) (by decide) (g := (mkF m 184 #[iv p0, iv p1, iv p2, iv p3, iv p4, iv p5, iv 0, rv (A 1), iv f8, iv a9, iv b10, iv d11, rv va_408, iv n_408, iv r_514, iv 64, iv 1, .unset] [(.int a9)])) rfl (by rw [hml]; rfl) (argsL := [(.int a9)]) (rest := []) (lenOf pd61 rfl) rfl rfl (Nat.le_of_eq rfl) (D at_184)
            obtain ⟨rfl, e546, rfl⟩ := q546
            have N546 := Fr.app N514 (Fr.nil _)
            refine GoS.of (T' := T546) (f' := (mkF m 187 #[iv p0, iv p1, iv p2, iv p3, iv p4, iv p5, iv 0, rv (A 1), iv f8, iv a9, iv b10, iv d11, rv va_408, iv n_408, iv r_514, iv 64, iv 1, .unset] [(.int (own_nm a9))])) (fun _ k => XS.icmpNo X514.here hx rfl (D at_166) rfl (flt hc520).2.2.1 (XS.iconst X514.here hx rfl (D at_169) (XS.goto X514.here hx rfl (pc0 := 170) (pc' := 174) rfl (D at_170) (by decide) (by decide) (XS.istore X514.here hx rfl (D at_174) rfl (l' := #[iv p0, iv p1, iv p2, iv p3, iv p4, iv p5, iv 0, rv (A 1), iv f8, iv a9, iv b10, iv d11, rv va_408, iv n_408, iv r_514, iv 64, iv 1, .unset]) rfl (XS.iload X514.here hx rfl (D at_176) rfl (XS.iconst X514.here hx rfl (D at_178) (XS.icmpNo X514.here hx rfl (D at_179) rfl (flt hc545).1 (XS.iload X514.here hx rfl (D at_182) rfl (st546 _ k))))))))) ?_
            by_cases hc547 : (own_nm a9) = (0 : Int32)
            · skip
              have hc550 : r_514 = (0 : Int32) := own_ar0 p514_0 (Or.inr (Or.inr (own_lca hc547 hq2.2.2.2.1 hq2.2.2.2.2)))
              refine GoS.of (T' := T546) (f' := (mkF m 264 #[iv p0, iv p1, iv p2, iv p3, iv p4, iv p5, iv 0, rv (A 1), iv f8, iv a9, iv b10, iv d11, rv va_408, iv n_408, iv r_514, iv 64, iv 1, iv 0] [(.int 1)])) (fun _ k => XS.ifYes X546.here hx rfl (pc0 := 187) (pc' := 236) rfl (D at_187) rfl ((if0 _ _).trans (teq hc547).1) (by decide) (by decide) (XS.iconst X546.here hx rfl (D at_236) (XS.istore X546.here hx rfl (D at_237) rfl (l' := #[iv p0, iv p1, iv p2, iv p3, iv p4, iv p5, iv 0, rv (A 1), iv f8, iv a9, iv b10, iv d11, rv va_408, iv n_408, iv r_514, iv 64, iv 1, iv 0]) rfl (XS.iload X546.here hx rfl (D at_239) rfl (XS.iload X546.here hx rfl (D at_241) rfl (XS.ifNo X546.here hx rfl (D at_243) rfl ((if0 _ _).trans (feq (by decide : ¬ ((1 : Int32) = (0 : Int32)))).1) (XS.iload X546.here hx rfl (D at_246) rfl (XS.ifYes X546.here hx rfl (pc0 := 248) (pc' := 255) rfl (D at_248) rfl ((if0 _ _).trans (teq (by decide : (0 : Int32) = (0 : Int32))).1) (by decide) (by decide) (XS.iconst X546.here hx rfl (D at_255) (XS.icmpNo X546.here hx rfl (D at_256) rfl (teq hc550).2 (XS.iconst X546.here hx rfl (D at_259) (XS.goto X546.here hx rfl (pc0 := 260) (pc' := 264) rfl (D at_260) (by decide) (by decide) k)))))))))))) ?_
              exact GoS.retB X546 hx hlk hS hk hZ hEL C516 e546 hret (by simp) (D at_264) (by decide) (by decide) (z' := (1 : Int32)) rfl ⟨rfl, N546⟩
            · skip
              have hc551 : ¬ (n_408 < (2 : Int32)) := hc437
              obtain ⟨T552, v552, L552, X552, q552, st552⟩ := callSt X546 hx hZ (y := own_m56) hown (own_w hw (i := 83) rfl) (own_w hw (i := 84) rfl) (own_w hw (i := 7) rfl) (own_w hw (i := 85) rfl) (by decide) (rm_nc hw G b10  T514.heap O517 ) e546 (W := 0) (by decide) (by decide) (by decide) (by decide) (g := (mkF m 198 #[iv p0, iv p1, iv p2, iv p3, iv p4, iv p5, iv 0, rv (A 1), iv f8, iv a9, iv b10, iv d11, rv va_408, iv n_408, iv r_514, iv 64, iv 1, .unset] [(.int b10)])) rfl (by rw [hml]; rfl) (argsL := [(.int b10)]) (rest := []) (lenOf pd61 rfl) rfl rfl (Nat.le_of_eq rfl) (D at_198)
              obtain ⟨rfl, e552, rfl⟩ := q552
              have N552 := Fr.app N546 (Fr.nil _)
              refine GoS.of (T' := T552) (f' := (mkF m 201 #[iv p0, iv p1, iv p2, iv p3, iv p4, iv p5, iv 0, rv (A 1), iv f8, iv a9, iv b10, iv d11, rv va_408, iv n_408, iv r_514, iv 64, iv 1, .unset] [(.int (own_nm b10))])) (fun _ k => XS.ifNo X546.here hx rfl (D at_187) rfl ((if0 _ _).trans (feq hc547).1) (XS.iload X546.here hx rfl (D at_190) rfl (XS.iconst X546.here hx rfl (D at_192) (XS.icmpNo X546.here hx rfl (D at_193) rfl (flt hc551).1 (XS.iload X546.here hx rfl (D at_196) rfl (st552 _ k)))))) ?_
              by_cases hc553 : (own_nm b10) = (0 : Int32)
              · skip
                have hc556 : r_514 = (0 : Int32) := own_ar0 p514_0 (Or.inr (Or.inr (own_lcb hc553 hq2.2.2.2.1 hq2.2.2.2.2)))
                refine GoS.of (T' := T552) (f' := (mkF m 264 #[iv p0, iv p1, iv p2, iv p3, iv p4, iv p5, iv 0, rv (A 1), iv f8, iv a9, iv b10, iv d11, rv va_408, iv n_408, iv r_514, iv 64, iv 1, iv 0] [(.int 1)])) (fun _ k => XS.ifYes X552.here hx rfl (pc0 := 201) (pc' := 236) rfl (D at_201) rfl ((if0 _ _).trans (teq hc553).1) (by decide) (by decide) (XS.iconst X552.here hx rfl (D at_236) (XS.istore X552.here hx rfl (D at_237) rfl (l' := #[iv p0, iv p1, iv p2, iv p3, iv p4, iv p5, iv 0, rv (A 1), iv f8, iv a9, iv b10, iv d11, rv va_408, iv n_408, iv r_514, iv 64, iv 1, iv 0]) rfl (XS.iload X552.here hx rfl (D at_239) rfl (XS.iload X552.here hx rfl (D at_241) rfl (XS.ifNo X552.here hx rfl (D at_243) rfl ((if0 _ _).trans (feq (by decide : ¬ ((1 : Int32) = (0 : Int32)))).1) (XS.iload X552.here hx rfl (D at_246) rfl (XS.ifYes X552.here hx rfl (pc0 := 248) (pc' := 255) rfl (D at_248) rfl ((if0 _ _).trans (teq (by decide : (0 : Int32) = (0 : Int32))).1) (by decide) (by decide) (XS.iconst X552.here hx rfl (D at_255) (XS.icmpNo X552.here hx rfl (D at_256) rfl (teq hc556).2 (XS.iconst X552.here hx rfl (D at_259) (XS.goto X552.here hx rfl (pc0 := 260) (pc' := 264) rfl (D at_260) (by decide) (by decide) k)))))))))))) ?_
                exact GoS.retB X552 hx hlk hS hk hZ hEL C516 e552 hret (by simp) (D at_264) (by decide) (by decide) (z' := (1 : Int32)) rfl ⟨rfl, N552⟩
              · skip
                have hc557 : ¬ (n_408 < (3 : Int32)) := hc469
                obtain ⟨T558, v558, L558, X558, q558, st558⟩ := callSt X552 hx hZ (y := own_m56) hown (own_w hw (i := 83) rfl) (own_w hw (i := 84) rfl) (own_w hw (i := 7) rfl) (own_w hw (i := 85) rfl) (by decide) (rm_nc hw G d11  T514.heap O517 ) e552 (W := 0) (by decide) (by decide) (by decide) (by decide) (g := (mkF m 212 #[iv p0, iv p1, iv p2, iv p3, iv p4, iv p5, iv 0, rv (A 1), iv f8, iv a9, iv b10, iv d11, rv va_408, iv n_408, iv r_514, iv 64, iv 1, .unset] [(.int d11)])) rfl (by rw [hml]; rfl) (argsL := [(.int d11)]) (rest := []) (lenOf pd61 rfl) rfl rfl (Nat.le_of_eq rfl) (D at_212)
                obtain ⟨rfl, e558, rfl⟩ := q558
                have N558 := Fr.app N552 (Fr.nil _)
                refine GoS.of (T' := T558) (f' := (mkF m 215 #[iv p0, iv p1, iv p2, iv p3, iv p4, iv p5, iv 0, rv (A 1), iv f8, iv a9, iv b10, iv d11, rv va_408, iv n_408, iv r_514, iv 64, iv 1, .unset] [(.int (own_nm d11))])) (fun _ k => XS.ifNo X552.here hx rfl (D at_201) rfl ((if0 _ _).trans (feq hc553).1) (XS.iload X552.here hx rfl (D at_204) rfl (XS.iconst X552.here hx rfl (D at_206) (XS.icmpNo X552.here hx rfl (D at_207) rfl (flt hc557).1 (XS.iload X552.here hx rfl (D at_210) rfl (st558 _ k)))))) ?_
                by_cases hc559 : (own_nm d11) = (0 : Int32)
                · skip
                  have hc562 : r_514 = (0 : Int32) := own_ar0 p514_0 (Or.inr (Or.inr (own_lcd hc559 hq2.2.2.2.1 hq2.2.2.2.2)))
                  refine GoS.of (T' := T558) (f' := (mkF m 264 #[iv p0, iv p1, iv p2, iv p3, iv p4, iv p5, iv 0, rv (A 1), iv f8, iv a9, iv b10, iv d11, rv va_408, iv n_408, iv r_514, iv 64, iv 1, iv 0] [(.int 1)])) (fun _ k => XS.ifYes X558.here hx rfl (pc0 := 215) (pc' := 236) rfl (D at_215) rfl ((if0 _ _).trans (teq hc559).1) (by decide) (by decide) (XS.iconst X558.here hx rfl (D at_236) (XS.istore X558.here hx rfl (D at_237) rfl (l' := #[iv p0, iv p1, iv p2, iv p3, iv p4, iv p5, iv 0, rv (A 1), iv f8, iv a9, iv b10, iv d11, rv va_408, iv n_408, iv r_514, iv 64, iv 1, iv 0]) rfl (XS.iload X558.here hx rfl (D at_239) rfl (XS.iload X558.here hx rfl (D at_241) rfl (XS.ifNo X558.here hx rfl (D at_243) rfl ((if0 _ _).trans (feq (by decide : ¬ ((1 : Int32) = (0 : Int32)))).1) (XS.iload X558.here hx rfl (D at_246) rfl (XS.ifYes X558.here hx rfl (pc0 := 248) (pc' := 255) rfl (D at_248) rfl ((if0 _ _).trans (teq (by decide : (0 : Int32) = (0 : Int32))).1) (by decide) (by decide) (XS.iconst X558.here hx rfl (D at_255) (XS.icmpNo X558.here hx rfl (D at_256) rfl (teq hc562).2 (XS.iconst X558.here hx rfl (D at_259) (XS.goto X558.here hx rfl (pc0 := 260) (pc' := 264) rfl (D at_260) (by decide) (by decide) k)))))))))))) ?_
                  exact GoS.retB X558 hx hlk hS hk hZ hEL C516 e558 hret (by simp) (D at_264) (by decide) (by decide) (z' := (1 : Int32)) rfl ⟨rfl, N558⟩
                · skip
                  refine GoS.of (T' := T558) (f' := (mkF m 221 #[iv p0, iv p1, iv p2, iv p3, iv p4, iv p5, iv 0, rv (A 1), iv f8, iv a9, iv b10, iv d11, rv va_408, iv n_408, iv r_514, iv 64, iv 1, .unset] [(.int 4), (.int n_408)])) (fun _ k => XS.ifNo X558.here hx rfl (D at_215) rfl ((if0 _ _).trans (feq hc559).1) (XS.iload X558.here hx rfl (D at_218) rfl (XS.iconst X558.here hx rfl (D at_220) k))) ?_
                  by_cases hc563 : n_408 < (4 : Int32)
                  · skip
                    have hc566 : r_514 = (1 : Int32) := own_ar1 p514_0 hc469 hc520 (own_lcall (own_nm0 hc547) (own_nm0 hc553) (own_nm0 hc559) (Or.inl (own_lt4 hn hc563)) hq2.2.2.2.1 hq2.2.2.2.2)
                    refine GoS.of (T' := T558) (f' := (mkF m 264 #[iv p0, iv p1, iv p2, iv p3, iv p4, iv p5, iv 0, rv (A 1), iv f8, iv a9, iv b10, iv d11, rv va_408, iv n_408, iv r_514, iv 64, iv 1, iv 1] [(.int 1)])) (fun _ k => XS.icmpYes X558.here hx rfl (pc0 := 221) (pc' := 232) rfl (D at_221) rfl (tlt hc563).1 (by decide) (by decide) (XS.iconst X558.here hx rfl (D at_232) (XS.goto X558.here hx rfl (pc0 := 233) (pc' := 237) rfl (D at_233) (by decide) (by decide) (XS.istore X558.here hx rfl (D at_237) rfl (l' := #[iv p0, iv p1, iv p2, iv p3, iv p4, iv p5, iv 0, rv (A 1), iv f8, iv a9, iv b10, iv d11, rv va_408, iv n_408, iv r_514, iv 64, iv 1, iv 1]) rfl (XS.iload X558.here hx rfl (D at_239) rfl (XS.iload X558.here hx rfl (D at_241) rfl (XS.ifNo X558.here hx rfl (D at_243) rfl ((if0 _ _).trans (feq (by decide : ¬ ((1 : Int32) = (0 : Int32)))).1) (XS.iload X558.here hx rfl (D at_246) rfl (XS.ifNo X558.here hx rfl (D at_248) rfl ((if0 _ _).trans (feq (by decide : ¬ ((1 : Int32) = (0 : Int32)))).1) (XS.iconst X558.here hx rfl (D at_251) (XS.goto X558.here hx rfl (pc0 := 252) (pc' := 256) rfl (D at_252) (by decide) (by decide) (XS.icmpNo X558.here hx rfl (D at_256) rfl (teq hc566).2 (XS.iconst X558.here hx rfl (D at_259) (XS.goto X558.here hx rfl (pc0 := 260) (pc' := 264) rfl (D at_260) (by decide) (by decide) k)))))))))))))) ?_
                    exact GoS.retB X558 hx hlk hS hk hZ hEL C516 e558 hret (by simp) (D at_264) (by decide) (by decide) (z' := (1 : Int32)) rfl ⟨rfl, N558⟩
                  · skip
                    obtain ⟨T567, v567, L567, X567, q567, st567⟩ := callSt X558 hx hZ (y := own_m56) hown (own_w hw (i := 83) rfl) (own_w hw (i := 84) rfl) (own_w hw (i := 7) rfl) (own_w hw (i := 85) rfl) (by decide) (rm_nc hw G f8  T514.heap O517 ) e558 (W := 0) (by decide) (by decide) (by decide) (by decide) (g := (mkF m 226 #[iv p0, iv p1, iv p2, iv p3, iv p4, iv p5, iv 0, rv (A 1), iv f8, iv a9, iv b10, iv d11, rv va_408, iv n_408, iv r_514, iv 64, iv 1, .unset] [(.int f8)])) rfl (by rw [hml]; rfl) (argsL := [(.int f8)]) (rest := []) (lenOf pd61 rfl) rfl rfl (Nat.le_of_eq rfl) (D at_226)
                    obtain ⟨rfl, e567, rfl⟩ := q567
                    have N567 := Fr.app N558 (Fr.nil _)
                    refine GoS.of (T' := T567) (f' := (mkF m 229 #[iv p0, iv p1, iv p2, iv p3, iv p4, iv p5, iv 0, rv (A 1), iv f8, iv a9, iv b10, iv d11, rv va_408, iv n_408, iv r_514, iv 64, iv 1, .unset] [(.int (own_nm f8))])) (fun _ k => XS.icmpNo X558.here hx rfl (D at_221) rfl (flt hc563).1 (XS.iload X558.here hx rfl (D at_224) rfl (st567 _ k))) ?_
                    by_cases hc568 : (own_nm f8) = (0 : Int32)
                    · skip
                      have hc571 : r_514 = (0 : Int32) := own_ar0 p514_0 (Or.inr (Or.inr (own_lcf hc568 (own_nlt4 hn hc563) hq2.2.2.2.1 hq2.2.2.2.2)))
                      refine GoS.of (T' := T567) (f' := (mkF m 264 #[iv p0, iv p1, iv p2, iv p3, iv p4, iv p5, iv 0, rv (A 1), iv f8, iv a9, iv b10, iv d11, rv va_408, iv n_408, iv r_514, iv 64, iv 1, iv 0] [(.int 1)])) (fun _ k => XS.ifYes X567.here hx rfl (pc0 := 229) (pc' := 236) rfl (D at_229) rfl ((if0 _ _).trans (teq hc568).1) (by decide) (by decide) (XS.iconst X567.here hx rfl (D at_236) (XS.istore X567.here hx rfl (D at_237) rfl (l' := #[iv p0, iv p1, iv p2, iv p3, iv p4, iv p5, iv 0, rv (A 1), iv f8, iv a9, iv b10, iv d11, rv va_408, iv n_408, iv r_514, iv 64, iv 1, iv 0]) rfl (XS.iload X567.here hx rfl (D at_239) rfl (XS.iload X567.here hx rfl (D at_241) rfl (XS.ifNo X567.here hx rfl (D at_243) rfl ((if0 _ _).trans (feq (by decide : ¬ ((1 : Int32) = (0 : Int32)))).1) (XS.iload X567.here hx rfl (D at_246) rfl (XS.ifYes X567.here hx rfl (pc0 := 248) (pc' := 255) rfl (D at_248) rfl ((if0 _ _).trans (teq (by decide : (0 : Int32) = (0 : Int32))).1) (by decide) (by decide) (XS.iconst X567.here hx rfl (D at_255) (XS.icmpNo X567.here hx rfl (D at_256) rfl (teq hc571).2 (XS.iconst X567.here hx rfl (D at_259) (XS.goto X567.here hx rfl (pc0 := 260) (pc' := 264) rfl (D at_260) (by decide) (by decide) k)))))))))))) ?_
                      exact GoS.retB X567 hx hlk hS hk hZ hEL C516 e567 hret (by simp) (D at_264) (by decide) (by decide) (z' := (1 : Int32)) rfl ⟨rfl, N567⟩
                    · skip
                      have hc574 : r_514 = (1 : Int32) := own_ar1 p514_0 hc469 hc520 (own_lcall (own_nm0 hc547) (own_nm0 hc553) (own_nm0 hc559) (Or.inr (own_nm0 hc568)) hq2.2.2.2.1 hq2.2.2.2.2)
                      refine GoS.of (T' := T567) (f' := (mkF m 264 #[iv p0, iv p1, iv p2, iv p3, iv p4, iv p5, iv 0, rv (A 1), iv f8, iv a9, iv b10, iv d11, rv va_408, iv n_408, iv r_514, iv 64, iv 1, iv 1] [(.int 1)])) (fun _ k => XS.ifNo X567.here hx rfl (D at_229) rfl ((if0 _ _).trans (feq hc568).1) (XS.iconst X567.here hx rfl (D at_232) (XS.goto X567.here hx rfl (pc0 := 233) (pc' := 237) rfl (D at_233) (by decide) (by decide) (XS.istore X567.here hx rfl (D at_237) rfl (l' := #[iv p0, iv p1, iv p2, iv p3, iv p4, iv p5, iv 0, rv (A 1), iv f8, iv a9, iv b10, iv d11, rv va_408, iv n_408, iv r_514, iv 64, iv 1, iv 1]) rfl (XS.iload X567.here hx rfl (D at_239) rfl (XS.iload X567.here hx rfl (D at_241) rfl (XS.ifNo X567.here hx rfl (D at_243) rfl ((if0 _ _).trans (feq (by decide : ¬ ((1 : Int32) = (0 : Int32)))).1) (XS.iload X567.here hx rfl (D at_246) rfl (XS.ifNo X567.here hx rfl (D at_248) rfl ((if0 _ _).trans (feq (by decide : ¬ ((1 : Int32) = (0 : Int32)))).1) (XS.iconst X567.here hx rfl (D at_251) (XS.goto X567.here hx rfl (pc0 := 252) (pc' := 256) rfl (D at_252) (by decide) (by decide) (XS.icmpNo X567.here hx rfl (D at_256) rfl (teq hc574).2 (XS.iconst X567.here hx rfl (D at_259) (XS.goto X567.here hx rfl (pc0 := 260) (pc' := 264) rfl (D at_260) (by decide) (by decide) k)))))))))))))) ?_
                      exact GoS.retB X567 hx hlk hS hk hZ hEL C516 e567 hret (by simp) (D at_264) (by decide) (by decide) (z' := (1 : Int32)) rfl ⟨rfl, N567⟩
set_option maxRecDepth 65536 in
set_option maxHeartbeats 40000000 in
theorem comes_1 {Post : Tables → Env → Array Value → State → Outcome → State → Prop} (hpost : ∀ tb e args s v u, (limb_1_1.after args s (.returned v) u = true ∧ limb_1_2.after args s (.returned v) u = true ∧ True) → ReturnedEndW s (.returned v) u (Jvm.fieldLocs frame_1_writes args s ++ Jvm.arrayLocs frame_1_arrays args s ++ Jvm.staticLocs frame_1_statics s) 24 1664 → Post tb e args s (.returned v) u) :
    ArmFor flags0 classFile x code maxLocals ret World_1 tables_1 room_1 Calls_1 rest_1 Pre_1 Post := by
  intro l hfl _ _ p e ha hc hk s m args below hf hA hF happ hP
  obtain ⟨hcalls, hrest, hpre⟩ := hP
  obtain ⟨-, -, -, hnamed, -, -, -, hat⟩ := (Spec.applies_iff hf).mp happ
  obtain ⟨hg, hn⟩ := and_e (Cond.before_iff.mp (show (Jvm.Cond.and given_1 narrow_1).before args s = true from hpre))
  obtain ⟨ga0, gb0⟩ := and_e hg
  obtain ⟨ga1, gb1⟩ := and_e gb0
  obtain ⟨ga2, gb2⟩ := and_e gb1
  obtain ⟨ga3, gb3⟩ := and_e gb2
  obtain ⟨ga4, gb4⟩ := and_e gb3
  obtain ⟨ga5, gb5⟩ := and_e gb4
  obtain ⟨w0, w1, w2, w3, w4, w5, rfl⟩ : ∃ w0 w1 w2 w3 w4 w5 : Value, args = #[w0, w1, w2, w3, w4, w5] := by
    have hs : args.size = 6 := by simpa [Cond.value, given_1] using ga0
    obtain ⟨L⟩ := args
    match L, hs with
    | [w0, w1, w2, w3, w4, w5], _ => exact ⟨w0, w1, w2, w3, w4, w5, rfl⟩
  have hw := fun d (hd : d ∈ tables_1) => atoms_spec (ws := Jvm.Cond.code x code maxLocals ret :: tables_1) hat d (List.mem_cons_of_mem _ hd)
  have hfit : Fit s := fun {y c} hc i hi => by
    obtain ⟨ha, rfl⟩ := Array.getElem?_eq_some_iff.mp hc
    have q := List.all_eq_true.mp ((Array.all_eq_true_iff_forall_mem.mp hF) _ (Array.getElem_mem ha)) i (List.mem_range.mpr hi)
    simpa [Array.getElem?_eq_getElem hi] using q
  obtain ⟨hsets, hown0⟩ := atoms_of _ (rest_1_c_eq ▸ (show rest_1_c.before _ s = true from hrest))
  obtain ⟨i0, ei0⟩ := is_v ga1
  obtain rfl : w0 = (.int i0) := Option.some.inj ei0
  obtain ⟨i1, ei1⟩ := is_v ga2
  obtain rfl : w1 = (.int i1) := Option.some.inj ei1
  obtain ⟨i2, ei2⟩ := is_v ga3
  obtain rfl : w2 = (.int i2) := Option.some.inj ei2
  obtain ⟨i3, ei3⟩ := is_v ga4
  obtain rfl : w3 = (.int i3) := Option.some.inj ei3
  obtain ⟨i4, ei4⟩ := is_v ga5
  obtain rfl : w4 = (.int i4) := Option.some.inj ei4
  obtain ⟨i5, ei5⟩ := is_v gb5
  obtain rfl : w5 = (.int i5) := Option.some.inj ei5
  obtain ⟨na1, nb1⟩ := and_e hn
  obtain ⟨s_TOPIC, ev_s_TOPIC⟩ := exa_v na1
  have S_TOPIC : Sta s s.heap "com/example/patient_courier/patientcourier/NameRule" "TOPIC" "Lcom/example/patient_courier/patientcourier/NameRule;" (.ref s_TOPIC) := Sta.start ev_s_TOPIC (Or.inr ⟨(own_w hw (i := 1) rfl), (own_w hw (i := 2) rfl)⟩)
  have E_s_TOPIC : Exa s s.heap s_TOPIC "com/example/patient_courier/patientcourier/NameRule" := Exa.start ev_s_TOPIC na1
  obtain ⟨na2, nb2⟩ := and_e nb1
  have ev2 := eqI_v na2
  have F_s_TOPIC_minLength : Fld s s.heap s_TOPIC "com/example/patient_courier/patientcourier/NameRule" "minLength" "I" (.int (3 : Int32)) := Fld.start ((fld_at ev_s_TOPIC).symm.trans ev2)
  obtain ⟨na4, nb4⟩ := and_e nb2
  have ev4 := eqI_v na4
  have F_s_TOPIC_maxLength : Fld s s.heap s_TOPIC "com/example/patient_courier/patientcourier/NameRule" "maxLength" "I" (.int (50 : Int32)) := Fld.start ((fld_at ev_s_TOPIC).symm.trans ev4)
  obtain ⟨na6, nb6⟩ := and_e nb4
  obtain ⟨s_SUBSCRIPTION, ev_s_SUBSCRIPTION⟩ := exa_v na6
  have S_SUBSCRIPTION : Sta s s.heap "com/example/patient_courier/patientcourier/NameRule" "SUBSCRIPTION" "Lcom/example/patient_courier/patientcourier/NameRule;" (.ref s_SUBSCRIPTION) := Sta.start ev_s_SUBSCRIPTION (Or.inr ⟨(own_w hw (i := 1) rfl), (own_w hw (i := 87) rfl)⟩)
  have E_s_SUBSCRIPTION : Exa s s.heap s_SUBSCRIPTION "com/example/patient_courier/patientcourier/NameRule" := Exa.start ev_s_SUBSCRIPTION na6
  obtain ⟨na7, nb7⟩ := and_e nb6
  have ev7 := eqI_v na7
  have F_s_SUBSCRIPTION_minLength : Fld s s.heap s_SUBSCRIPTION "com/example/patient_courier/patientcourier/NameRule" "minLength" "I" (.int (3 : Int32)) := Fld.start ((fld_at ev_s_SUBSCRIPTION).symm.trans ev7)
  have ev8 := eqI_v nb7
  have F_s_SUBSCRIPTION_maxLength : Fld s s.heap s_SUBSCRIPTION "com/example/patient_courier/patientcourier/NameRule" "maxLength" "I" (.int (64 : Int32)) := Fld.start ((fld_at ev_s_SUBSCRIPTION).symm.trans ev8)
  have js1 := Cond.before_iff.mp (hsets _ (List.mem_of_getElem? (i := 1) rfl))
  obtain ⟨s_COMPACT_STRINGS, ev_s_COMPACT_STRINGS⟩ := is_v js1
  have S_COMPACT_STRINGS : Sta s s.heap "java/lang/String" "COMPACT_STRINGS" "Z" (.int s_COMPACT_STRINGS) := Sta.start ev_s_COMPACT_STRINGS (Or.inl (hsets _ (List.mem_of_getElem? (i := 0) rfl)))
  have js2 := Cond.before_iff.mp (hsets _ (List.mem_of_getElem? (i := 2) rfl))
  have hne_s_COMPACT_STRINGS_0 : ¬ (s_COMPACT_STRINGS = (0 : Int32)) := neI_v ev_s_COMPACT_STRINGS js2
  have js12 := Cond.before_iff.mp (hsets _ (List.mem_of_getElem? (i := 12) rfl))
  have ev9 := eqI_v js12
  have S__assertionsDisabled : Sta s s.heap "java/lang/StringUTF16" "$assertionsDisabled" "Z" (.int (1 : Int32)) := Sta.start ev9 (Or.inl (hsets _ (List.mem_of_getElem? (i := 11) rfl)))
  have js15 := Cond.before_iff.mp (hsets _ (List.mem_of_getElem? (i := 15) rfl))
  have ev10 := eqI_v js15
  have S_HI_BYTE_SHIFT : Sta s s.heap "java/lang/StringUTF16" "HI_BYTE_SHIFT" "I" (.int (0 : Int32)) := Sta.start ev10 (Or.inl (hsets _ (List.mem_of_getElem? (i := 14) rfl)))
  have js18 := Cond.before_iff.mp (hsets _ (List.mem_of_getElem? (i := 18) rfl))
  have ev11 := eqI_v js18
  have S_LO_BYTE_SHIFT : Sta s s.heap "java/lang/StringUTF16" "LO_BYTE_SHIFT" "I" (.int (8 : Int32)) := Sta.start ev11 (Or.inl (hsets _ (List.mem_of_getElem? (i := 17) rfl)))
  obtain ⟨s_SIO, ev_SIO, hr_SIO⟩ := isR_v (Cond.before_iff.mp (hsets _ (List.mem_of_getElem? (i := 8) rfl)))
  have S_SIO : Sta s s.heap "jdk/internal/util/Preconditions" "SIOOBE_FORMATTER" "Ljava/util/function/BiFunction;" s_SIO := Sta.start ev_SIO (Or.inl (hsets _ (List.mem_of_getElem? (i := 7) rfl)))
  have R_SIO : s_SIO = .null ∨ ∃ fa, s_SIO = .ref fa := ref_cases hr_SIO
  have hCH : CHv s own_EL s.vm s.heap := CHv.start (own_EW hw) (fun p hp => hcalls.1 p hp) (hsets _ (List.mem_of_getElem? (i := 2) rfl)) (own_w hw (i := 28) rfl) (own_w hw (i := 11) rfl)
  obtain ⟨n, o, h1, h2, h3, _, L, rfl, ⟨rfl, N⟩, -, hq⟩ := rm_law hw (A := fun n => ([s_TOPIC, s_SUBSCRIPTION] : List Addr).getD n 0) (KC := fun _ => { cls := 0, slots := #[], vm := .none }) (IC := fun n => ([s_COMPACT_STRINGS] : List Int32).getD n 0) (VC := fun n => ([s_SIO] : List Value).getD n .null) ⟨S_TOPIC, E_s_TOPIC, F_s_TOPIC_minLength, F_s_TOPIC_maxLength, S_SUBSCRIPTION, E_s_SUBSCRIPTION, F_s_SUBSCRIPTION_minLength, F_s_SUBSCRIPTION_maxLength, S_COMPACT_STRINGS, hne_s_COMPACT_STRINGS_0, S__assertionsDisabled, S_HI_BYTE_SHIFT, S_LO_BYTE_SHIFT, S_SIO, R_SIO⟩ i0 i1 i2 i3 i4 i5 s.heap ext_rfl tables_1 p e ha hc hk s m _ below hf ((Spec.applies_iff_loose hf).mp happ).1 ⟨rfl, State.Warmed39.refl s, rfl, hCH⟩ trivial
  refine ⟨n, _, h1, h2, h3, hpost _ _ _ _ _ _ ⟨Cond.after_iff.mpr rfl, Cond.after_iff.mpr (eq_i res_at (Term.int_eval (1)) rfl), trivial⟩ ⟨hq.1, hq.2.1, hq.2.2.1, (hq.2.2.2.sift fun y hy => Or.inr (N y hy)).mono (by decide) (by decide)⟩⟩
theorem main_1_1 : Claimed_1_1 := comes_1 fun _ _ _ _ _ _ h hF => ⟨h.1, hF⟩
theorem main_1_2 : Claimed_1_2 := comes_1 fun _ _ _ _ _ _ h hF => ⟨h.2.1, hF⟩
end Jvm.Pilot.@@N@@
namespace Jvm.Pilot.@@N@@
open Jvm Jvm.ClassFile Sem Op Lib Jvm.Free Jvm.Stand Jvm.Pilot.@@N@@.Jvm.D
/-! MADE BY PROGRAM (witnessworld.py) out of the Statement's table words and the real class files: 21 classes; the members and pool entries that the words name. The judged class is class 1, her method 1. -/
namespace start1
open Jvm.ClassFile
def u (s : String) : CpInfo := .utf8 (stringToUtf16 s)
/-- a pool by its gaps: so many unusable entries, then the entry; so many at the end -/
def gap : Nat → List CpInfo → List CpInfo
  | 0, r => r
  | n + 1, r => .unusable :: gap n r
def poolList (es : List (Nat × CpInfo)) (last : Nat) : List CpInfo := es.foldr (fun e r => gap e.1 (e.2 :: r)) (gap last [])
def pool (es : List (Nat × CpInfo)) (last : Nat) : Array CpInfo := ⟨poolList es last⟩
def fileOf (pool : Array CpInfo) (this : Nat) (attrs : Array Attribute := #[]) (ms : Array MethodInfo := #[]) (fl : Nat := 33) (sup : Nat := 0) (ifs : Array Nat := #[]) (fds : Array FieldInfo := #[]) : ClassFile where
  minorVersion := 0
  majorVersion := 65
  constantPool := pool
  accessFlags := fl
  thisClass := this
  superClass := sup
  interfaces := ifs
  fields := fds
  methods := ms
  attributes := attrs
def plain (name : String) (sup : Option ClassId) : Class where
  name := name
  kind := .ordinary
  loader := none
  accessFlags := 33
  super := sup
  interfaces := #[]
  cf := none
  fields := #[]
  methods := #[]
  instanceTypes := #[]
  staticTypes := #[]
  resolved := #[]
  callSites := []
  init := .initialized
  statics := none
  mirror := none

def pool0 : Array CpInfo := pool [(5, u "<init>"), (0, u "()V"), (1, .class_ 10), (1, u "java/lang/Object")] 113

def k0c0 : Code := { maxStack := 0, maxLocals := 1, code := object_method_1_code, exceptionTable := #[], attributes := #[] }
def k0m0 : Method := { name := "<init>", desc := "()V", sig := { parameters := [], returnType := none }, accessFlags := 1, code := some k0c0 }
/-- java/lang/Object -/
def k0 : Class := { plain "java/lang/Object" none with
  accessFlags := 33
  interfaces := #[]
  cf := some (fileOf pool0 8 #[] #[{ accessFlags := 1, nameIndex := 5, descriptorIndex := 6, attributes := #[] }] 33 0 #[] #[])
  fields := #[]
  methods := #[k0m0]
  instanceTypes := #[]
  staticTypes := #[]
  resolved := Array.replicate 124 none
  statics := none }

def pool1 : Array CpInfo := pool [(2, .class_ 4), (1, u "java/lang/Object"), (0, u "<init>"), (0, u "()V"), (0, .fieldref 8 9), (0, .class_ 10), (0, .nameAndType 11 12), (0, u "com/example/patient_courier/patientcourier/NameRule"), (0, u "TOPIC"), (0, u "Lcom/example/patient_courier/patientcourier/NameRule;"), (0, .fieldref 8 14), (0, .nameAndType 15 12), (0, u "SUBSCRIPTION"), (0, .integer 65535), (0, .integer 2147483647), (0, .methodref 19 20), (0, .class_ 21), (0, .nameAndType 22 23), (0, u "com/example/patient_courier/patientcourier/NameRuleAcceptsPinLaw"), (0, u "blank"), (0, u "(IC)[C"), (0, .class_ 25), (0, u "java/lang/String"), (0, .methodref 24 27), (0, .nameAndType 5 28), (0, u "([C)V"), (0, .methodref 8 30), (0, .nameAndType 31 32), (0, u "accepts"), (0, u "(Ljava/lang/String;)Z"), (0, .methodref 19 34), (0, .nameAndType 35 36), (0, u "nameChar"), (0, u "(C)Z"), (2, u "law"), (0, u "(IIIIII)Z")] 5

def k1m0 : Method := { name := "<init>", desc := "()V", sig := { parameters := [], returnType := none }, accessFlags := 1, code := none }
def k1c1 : Code := { maxStack := 5, maxLocals := 18, code := code, exceptionTable := #[], attributes := #[] }
def k1m1 : Method := { name := "law", desc := "(IIIIII)Z", sig := { parameters := [.int, .int, .int, .int, .int, .int], returnType := some .boolean }, accessFlags := 9, code := some k1c1 }
def k1c2 : Code := { maxStack := 2, maxLocals := 1, code := method_3_code, exceptionTable := #[], attributes := #[] }
def k1m2 : Method := { name := "nameChar", desc := "(C)Z", sig := { parameters := [.char], returnType := some .boolean }, accessFlags := 10, code := some k1c2 }
def k1c3 : Code := { maxStack := 4, maxLocals := 2, code := method_4_code, exceptionTable := #[], attributes := #[] }
def k1m3 : Method := { name := "blank", desc := "(IC)[C", sig := { parameters := [.int, .char], returnType := some (.array .char) }, accessFlags := 10, code := some k1c3 }
/-- com/example/patient_courier/patientcourier/NameRuleAcceptsPinLaw -/
def k1 : Class := { plain "com/example/patient_courier/patientcourier/NameRuleAcceptsPinLaw" (some 0) with
  accessFlags := 49
  interfaces := #[]
  cf := some (fileOf pool1 19 #[] #[{ accessFlags := 1, nameIndex := 5, descriptorIndex := 6, attributes := #[] }, { accessFlags := 9, nameIndex := 39, descriptorIndex := 40, attributes := #[] }, { accessFlags := 10, nameIndex := 35, descriptorIndex := 36, attributes := #[] }, { accessFlags := 10, nameIndex := 22, descriptorIndex := 23, attributes := #[] }] 49 2 #[] #[])
  fields := #[]
  methods := #[k1m0, k1m1, k1m2, k1m3]
  instanceTypes := #[]
  staticTypes := #[]
  resolved := Array.replicate 46 none
  statics := none }

def pool2 : Array CpInfo := pool [(1, .class_ 2), (0, u "java/lang/constant/Constable"), (0, .class_ 4), (0, u "java/lang/Object")] 6

/-- java/lang/constant/Constable -/
def k2 : Class := { plain "java/lang/constant/Constable" (some 0) with
  accessFlags := 1537
  interfaces := #[]
  cf := some (fileOf pool2 1 #[] #[] 1537 3 #[] #[])
  fields := #[]
  methods := #[]
  instanceTypes := #[]
  staticTypes := #[]
  resolved := Array.replicate 11 none
  statics := none }

def pool3 : Array CpInfo := pool [(1, .class_ 2), (0, u "java/lang/Comparable"), (0, .class_ 4), (0, u "java/lang/Object")] 7

/-- java/lang/Comparable -/
def k3 : Class := { plain "java/lang/Comparable" (some 0) with
  accessFlags := 1537
  interfaces := #[]
  cf := some (fileOf pool3 1 #[] #[] 1537 3 #[] #[])
  fields := #[]
  methods := #[]
  instanceTypes := #[]
  staticTypes := #[]
  resolved := Array.replicate 12 none
  statics := none }

def pool4 : Array CpInfo := pool [(1, .class_ 2), (0, u "java/io/Serializable"), (0, .class_ 4), (0, u "java/lang/Object")] 2

/-- java/io/Serializable -/
def k4 : Class := { plain "java/io/Serializable" (some 0) with
  accessFlags := 1537
  interfaces := #[]
  cf := some (fileOf pool4 1 #[] #[] 1537 3 #[] #[])
  fields := #[]
  methods := #[]
  instanceTypes := #[]
  staticTypes := #[]
  resolved := Array.replicate 7 none
  statics := none }

def pool5 : Array CpInfo := pool [(2, .class_ 4), (1, u "java/lang/Enum"), (0, u "name"), (0, u "Ljava/lang/String;"), (2, u "ordinal"), (0, u "I"), (1, .class_ 14), (1, u "java/lang/Object"), (4, u "hash"), (86, .class_ 108), (1, u "java/lang/Enum$EnumDesc"), (2, .class_ 112), (0, u "java/lang/constant/Constable"), (0, .class_ 114), (0, u "java/lang/Comparable"), (0, .class_ 116), (0, u "java/io/Serializable")] 87

/-- java/lang/Enum -/
def k5 : Class := { plain "java/lang/Enum" (some 0) with
  accessFlags := 1057
  interfaces := #[2, 3, 4]
  cf := some (fileOf pool5 2 #[.nestMembers #[106]] #[] 1057 12 #[111, 113, 115] #[{ accessFlags := 18, nameIndex := 5, descriptorIndex := 6, attributes := #[] }, { accessFlags := 18, nameIndex := 9, descriptorIndex := 10, attributes := #[] }, { accessFlags := 2, nameIndex := 19, descriptorIndex := 10, attributes := #[] }])
  fields := #[{ name := "name", type := (.object "java/lang/String"), accessFlags := 18, slot := 0, constantValue := 0 }, { name := "ordinal", type := .int, accessFlags := 18, slot := 1, constantValue := 0 }, { name := "hash", type := .int, accessFlags := 2, slot := 2, constantValue := 0 }]
  methods := #[]
  instanceTypes := #[(.object "java/lang/String"), .int, .int]
  staticTypes := #[]
  resolved := Array.replicate 204 none
  statics := none }

def pool6 : Array CpInfo := pool [(1, .class_ 2), (0, u "com/example/patient_courier/patientcourier/NameRule"), (2, u "TOPIC"), (0, u "Lcom/example/patient_courier/patientcourier/NameRule;"), (2, u "SUBSCRIPTION"), (2, u "$VALUES"), (0, u "[Lcom/example/patient_courier/patientcourier/NameRule;"), (6, .class_ 22), (1, u "java/lang/Enum"), (8, u "kind"), (0, u "Ljava/lang/String;"), (0, .fieldref 1 34), (0, .nameAndType 35 36), (0, u "minLength"), (0, u "I"), (0, .fieldref 1 38), (0, .nameAndType 39 36), (0, u "maxLength"), (0, .methodref 41 42), (0, .class_ 43), (0, .nameAndType 44 45), (0, u "java/lang/String"), (0, u "length"), (0, u "()I"), (0, .methodref 41 47), (0, .nameAndType 48 49), (0, u "charAt"), (0, u "(I)C"), (0, .methodref 1 51), (0, .nameAndType 52 53), (0, u "isNameCharacter"), (0, u "(C)Z"), (24, u "accepts"), (0, u "(Ljava/lang/String;)Z")] 23

def k6c0 : Code := { maxStack := 2, maxLocals := 3, code := prog_10_method_4_code, exceptionTable := #[], attributes := #[] }
def k6m0 : Method := { name := "accepts", desc := "(Ljava/lang/String;)Z", sig := { parameters := [(.object "java/lang/String")], returnType := some .boolean }, accessFlags := 1, code := some k6c0 }
def k6c1 : Code := { maxStack := 2, maxLocals := 1, code := prog_10_method_6_code, exceptionTable := #[], attributes := #[] }
def k6m1 : Method := { name := "isNameCharacter", desc := "(C)Z", sig := { parameters := [.char], returnType := some .boolean }, accessFlags := 10, code := some k6c1 }
/-- com/example/patient_courier/patientcourier/NameRule -/
def k6 : Class := { plain "com/example/patient_courier/patientcourier/NameRule" (some 5) with
  accessFlags := 16433
  interfaces := #[]
  cf := some (fileOf pool6 1 #[] #[{ accessFlags := 1, nameIndex := 78, descriptorIndex := 79, attributes := #[] }, { accessFlags := 10, nameIndex := 52, descriptorIndex := 53, attributes := #[] }] 16433 20 #[] #[{ accessFlags := 16409, nameIndex := 5, descriptorIndex := 6, attributes := #[] }, { accessFlags := 16409, nameIndex := 9, descriptorIndex := 6, attributes := #[] }, { accessFlags := 18, nameIndex := 31, descriptorIndex := 32, attributes := #[] }, { accessFlags := 18, nameIndex := 35, descriptorIndex := 36, attributes := #[] }, { accessFlags := 18, nameIndex := 39, descriptorIndex := 36, attributes := #[] }, { accessFlags := 4122, nameIndex := 12, descriptorIndex := 13, attributes := #[] }])
  fields := #[{ name := "TOPIC", type := (.object "com/example/patient_courier/patientcourier/NameRule"), accessFlags := 16409, slot := 0, constantValue := 0 }, { name := "SUBSCRIPTION", type := (.object "com/example/patient_courier/patientcourier/NameRule"), accessFlags := 16409, slot := 1, constantValue := 0 }, { name := "kind", type := (.object "java/lang/String"), accessFlags := 18, slot := 3, constantValue := 0 }, { name := "minLength", type := .int, accessFlags := 18, slot := 4, constantValue := 0 }, { name := "maxLength", type := .int, accessFlags := 18, slot := 5, constantValue := 0 }, { name := "$VALUES", type := (.array (.object "com/example/patient_courier/patientcourier/NameRule")), accessFlags := 4122, slot := 2, constantValue := 0 }]
  methods := #[k6m0, k6m1]
  instanceTypes := #[(.object "java/lang/String"), .int, .int, (.object "java/lang/String"), .int, .int]
  staticTypes := #[(.object "com/example/patient_courier/patientcourier/NameRule"), (.object "com/example/patient_courier/patientcourier/NameRule"), (.array (.object "com/example/patient_courier/patientcourier/NameRule"))]
  resolved := Array.replicate 103 none
  statics := some 0 }

def pool7 : Array CpInfo := pool [(2, .class_ 4), (1, u "java/lang/CharSequence"), (42, .class_ 48), (0, u "java/lang/CharSequence$1CodePointIterator"), (10, .class_ 60), (0, u "java/lang/CharSequence$1CharIterator"), (5, .class_ 67), (0, u "java/lang/Object")] 63

/-- java/lang/CharSequence -/
def k7 : Class := { plain "java/lang/CharSequence" (some 0) with
  accessFlags := 1537
  interfaces := #[]
  cf := some (fileOf pool7 2 #[.nestMembers #[47, 59]] #[] 1537 66 #[] #[])
  fields := #[]
  methods := #[]
  instanceTypes := #[]
  staticTypes := #[]
  resolved := Array.replicate 131 none
  statics := none }

def pool8 : Array CpInfo := pool [(1, .class_ 2), (0, u "java/lang/constant/ConstantDesc"), (0, .class_ 4), (0, u "java/lang/Object")] 32

/-- java/lang/constant/ConstantDesc -/
def k8 : Class := { plain "java/lang/constant/ConstantDesc" (some 0) with
  accessFlags := 1537
  interfaces := #[]
  cf := some (fileOf pool8 1 #[] #[] 1537 3 #[] #[])
  fields := #[]
  methods := #[]
  instanceTypes := #[]
  staticTypes := #[]
  resolved := Array.replicate 37 none
  statics := none }

def pool9 : Array CpInfo := pool [(1, .methodref 2 3), (0, .class_ 4), (0, .nameAndType 5 6), (0, u "java/lang/Object"), (0, u "<init>"), (0, u "()V"), (0, .string 8), (0, u ""), (0, .fieldref 10 11), (0, .class_ 12), (0, .nameAndType 13 14), (0, u "java/lang/String"), (0, u "value"), (0, u "[B"), (0, .fieldref 10 16), (0, .nameAndType 17 18), (0, u "coder"), (0, u "B"), (2, u "hash"), (0, u "I"), (2, u "hashIsZero"), (0, u "Z"), (0, .methodref 10 28), (0, .nameAndType 5 29), (0, u "([CIILjava/lang/Void;)V"), (8, .fieldref 10 39), (0, .nameAndType 40 26), (0, u "COMPACT_STRINGS"), (1, .class_ 44), (1, u "java/lang/StringUTF16"), (0, u "compress"), (1, .methodref 42 48), (0, .nameAndType 49 50), (0, u "coderFromArrayLen"), (0, u "([BI)B"), (56, .class_ 109), (1, u "java/lang/StringLatin1"), (32, u "()Z"), (34, .methodref 42 178), (0, .nameAndType 45 179), (0, u "([CII)[B"), (154, u "()I"), (0, .methodref 10 336), (0, .nameAndType 17 337), (0, u "()B"), (25, u "([BI)C"), (27, u "(II)V"), (35, u "(I)C"), (64, .methodref 10 493), (0, .nameAndType 494 142), (0, u "isLatin1"), (0, .methodref 107 496), (0, .nameAndType 497 363), (0, u "charAt"), (0, .methodref 42 496), (2, u "checkIndex"), (5, u "length"), (67, .class_ 576), (0, u "java/lang/CharSequence"), (22, u "CASE_INSENSITIVE_ORDER"), (0, u "Ljava/util/Comparator;"), (409, u "([C)V"), (42, .fieldref 1054 1055), (0, .class_ 1056), (0, .nameAndType 1057 1058), (0, u "jdk/internal/util/Preconditions"), (0, u "SIOOBE_FORMATTER"), (0, u "Ljava/util/function/BiFunction;"), (0, .methodref 1054 1060), (0, .nameAndType 501 1061), (0, u "(IILjava/util/function/BiFunction;)I"), (39, u "serialPersistentFields"), (0, u "[Ljava/io/ObjectStreamField;"), (0, .class_ 1104), (0, u "java/lang/String$CaseInsensitiveComparator"), (1, .class_ 1107), (0, u "java/io/Serializable"), (0, .class_ 1109), (0, u "java/lang/Comparable"), (0, .class_ 1111), (0, u "java/lang/constant/Constable"), (0, .class_ 1113), (0, u "java/lang/constant/ConstantDesc"), (2, u "serialVersionUID"), (0, u "J"), (3, u "REPL"), (0, u "C"), (2, u "LATIN1"), (1, u "UTF16")] 323

def k9m0 : Method := { name := "<init>", desc := "()V", sig := { parameters := [], returnType := none }, accessFlags := 1, code := none }
def k9c1 : Code := { maxStack := 5, maxLocals := 2, code := jdk_42_method_3_code, exceptionTable := #[], attributes := #[] }
def k9m1 : Method := { name := "<init>", desc := "([C)V", sig := { parameters := [(.array .char)], returnType := none }, accessFlags := 1, code := some k9c1 }
def k9c2 : Code := { maxStack := 2, maxLocals := 1, code := jdk_42_method_54_code, exceptionTable := #[], attributes := #[] }
def k9m2 : Method := { name := "length", desc := "()I", sig := { parameters := [], returnType := some .int }, accessFlags := 1, code := some k9c2 }
def k9c3 : Code := { maxStack := 2, maxLocals := 2, code := jdk_42_method_56_code, exceptionTable := #[], attributes := #[] }
def k9m3 : Method := { name := "charAt", desc := "(I)C", sig := { parameters := [.int], returnType := some .char }, accessFlags := 1, code := some k9c3 }
def k9c4 : Code := { maxStack := 4, maxLocals := 6, code := jdk_42_method_149_code, exceptionTable := #[], attributes := #[] }
def k9m4 : Method := { name := "<init>", desc := "([CIILjava/lang/Void;)V", sig := { parameters := [(.array .char), .int, .int, (.object "java/lang/Void")], returnType := none }, accessFlags := 2, code := some k9c4 }
def k9c5 : Code := { maxStack := 1, maxLocals := 1, code := jdk_42_method_152_code, exceptionTable := #[], attributes := #[] }
def k9m5 : Method := { name := "coder", desc := "()B", sig := { parameters := [], returnType := some .byte }, accessFlags := 0, code := some k9c5 }
def k9c6 : Code := { maxStack := 1, maxLocals := 1, code := jdk_42_method_154_code, exceptionTable := #[], attributes := #[] }
def k9m6 : Method := { name := "isLatin1", desc := "()Z", sig := { parameters := [], returnType := some .boolean }, accessFlags := 0, code := some k9c6 }
def k9c7 : Code := { maxStack := 3, maxLocals := 2, code := jdk_42_method_155_code, exceptionTable := #[], attributes := #[] }
def k9m7 : Method := { name := "checkIndex", desc := "(II)V", sig := { parameters := [.int, .int], returnType := none }, accessFlags := 8, code := some k9c7 }
/-- java/lang/String -/
def k9 : Class := { plain "java/lang/String" (some 0) with
  accessFlags := 49
  interfaces := #[4, 3, 7, 2, 8]
  cf := some (fileOf pool9 10 #[.nestMembers #[1103]] #[{ accessFlags := 1, nameIndex := 5, descriptorIndex := 6, attributes := #[] }, { accessFlags := 1, nameIndex := 5, descriptorIndex := 1010, attributes := #[] }, { accessFlags := 1, nameIndex := 507, descriptorIndex := 334, attributes := #[] }, { accessFlags := 1, nameIndex := 497, descriptorIndex := 427, attributes := #[] }, { accessFlags := 2, nameIndex := 5, descriptorIndex := 29, attributes := #[] }, { accessFlags := 0, nameIndex := 17, descriptorIndex := 337, attributes := #[] }, { accessFlags := 0, nameIndex := 494, descriptorIndex := 142, attributes := #[] }, { accessFlags := 8, nameIndex := 501, descriptorIndex := 391, attributes := #[] }] 49 2 #[1106, 1108, 575, 1110, 1112] #[{ accessFlags := 18, nameIndex := 13, descriptorIndex := 14, attributes := #[] }, { accessFlags := 18, nameIndex := 17, descriptorIndex := 18, attributes := #[] }, { accessFlags := 2, nameIndex := 21, descriptorIndex := 22, attributes := #[] }, { accessFlags := 2, nameIndex := 25, descriptorIndex := 26, attributes := #[] }, { accessFlags := 26, nameIndex := 1116, descriptorIndex := 1117, attributes := #[] }, { accessFlags := 24, nameIndex := 40, descriptorIndex := 26, attributes := #[] }, { accessFlags := 26, nameIndex := 1101, descriptorIndex := 1102, attributes := #[] }, { accessFlags := 26, nameIndex := 1121, descriptorIndex := 1122, attributes := #[] }, { accessFlags := 25, nameIndex := 599, descriptorIndex := 600, attributes := #[] }, { accessFlags := 24, nameIndex := 1125, descriptorIndex := 18, attributes := #[] }, { accessFlags := 24, nameIndex := 1127, descriptorIndex := 18, attributes := #[] }])
  fields := #[{ name := "value", type := (.array .byte), accessFlags := 18, slot := 0, constantValue := 0 }, { name := "coder", type := .byte, accessFlags := 18, slot := 1, constantValue := 0 }, { name := "hash", type := .int, accessFlags := 2, slot := 2, constantValue := 0 }, { name := "hashIsZero", type := .boolean, accessFlags := 2, slot := 3, constantValue := 0 }, { name := "serialVersionUID", type := .long, accessFlags := 26, slot := 0, constantValue := 0 }, { name := "COMPACT_STRINGS", type := .boolean, accessFlags := 24, slot := 1, constantValue := 0 }, { name := "serialPersistentFields", type := (.array (.object "java/io/ObjectStreamField")), accessFlags := 26, slot := 2, constantValue := 0 }, { name := "REPL", type := .char, accessFlags := 26, slot := 3, constantValue := 0 }, { name := "CASE_INSENSITIVE_ORDER", type := (.object "java/util/Comparator"), accessFlags := 25, slot := 4, constantValue := 0 }, { name := "LATIN1", type := .byte, accessFlags := 24, slot := 5, constantValue := 0 }, { name := "UTF16", type := .byte, accessFlags := 24, slot := 6, constantValue := 0 }]
  methods := #[k9m0, k9m1, k9m2, k9m3, k9m4, k9m5, k9m6, k9m7]
  instanceTypes := #[(.array .byte), .byte, .int, .boolean]
  staticTypes := #[.long, .boolean, (.array (.object "java/io/ObjectStreamField")), .char, (.object "java/util/Comparator"), .byte, .byte]
  resolved := Array.replicate 1451 none
  statics := some 1 }

def pool10 : Array CpInfo := pool [(3, .class_ 4), (0, u "java/lang/String"), (1, .class_ 8), (1, u "java/lang/Object"), (0, u "<init>"), (0, u "()V"), (0, .methodref 12 13), (0, .class_ 14), (0, .nameAndType 15 16), (0, u "java/lang/StringUTF16"), (0, u "newBytesLength"), (0, u "(I)I"), (3, .integer 1073741823), (23, .fieldref 12 45), (0, .nameAndType 46 47), (0, u "$assertionsDisabled"), (0, u "Z"), (0, .methodref 12 49), (0, .nameAndType 50 51), (0, u "length"), (0, u "([B)I"), (7, .fieldref 12 60), (0, .nameAndType 61 62), (0, u "HI_BYTE_SHIFT"), (0, u "I"), (0, .fieldref 12 64), (0, .nameAndType 65 62), (0, u "LO_BYTE_SHIFT"), (1, .methodref 12 68), (0, .nameAndType 69 70), (0, u "checkIndex"), (0, u "(I[B)V"), (0, .methodref 12 72), (0, .nameAndType 73 74), (0, u "getChar"), (0, u "([BI)C"), (32, .methodref 12 108), (0, .nameAndType 109 110), (0, u "newBytesFor"), (0, u "(I)[B"), (0, .methodref 12 112), (0, .nameAndType 113 114), (0, u "putChar"), (0, u "([BII)V"), (0, .methodref 12 116), (0, .nameAndType 117 118), (0, u "compress"), (0, u "([CI[BII)I"), (0, .methodref 12 120), (0, .nameAndType 121 122), (0, u "toBytes"), (0, u "([CII)[B"), (138, u "coderFromArrayLen"), (0, u "([BI)B"), (106, .class_ 371), (1, u "java/lang/StringUTF16$LinesSpliterator"), (20, u "charAt"), (21, .methodref 3 415), (0, .nameAndType 69 416), (0, u "(II)V"), (13, u "MAX_LENGTH"), (196, .class_ 628), (0, u "java/lang/StringUTF16$CodePointsSpliterator"), (0, .class_ 630), (0, u "java/lang/StringUTF16$CharsSpliterator")] 4

def k10m0 : Method := { name := "<init>", desc := "()V", sig := { parameters := [], returnType := none }, accessFlags := 0, code := none }
def k10c1 : Code := { maxStack := 1, maxLocals := 1, code := jdk_52_method_2_code, exceptionTable := #[], attributes := #[] }
def k10m1 : Method := { name := "newBytesFor", desc := "(I)[B", sig := { parameters := [.int], returnType := some (.array .byte) }, accessFlags := 9, code := some k10c1 }
def k10c2 : Code := { maxStack := 4, maxLocals := 1, code := jdk_52_method_3_code, exceptionTable := #[], attributes := #[] }
def k10m2 : Method := { name := "newBytesLength", desc := "(I)I", sig := { parameters := [.int], returnType := some .int }, accessFlags := 9, code := some k10c2 }
def k10c3 : Code := { maxStack := 4, maxLocals := 3, code := jdk_52_method_4_code, exceptionTable := #[], attributes := #[] }
def k10m3 : Method := { name := "putChar", desc := "([BII)V", sig := { parameters := [(.array .byte), .int, .int], returnType := none }, accessFlags := 8, code := some k10c3 }
def k10c4 : Code := { maxStack := 3, maxLocals := 2, code := jdk_52_method_5_code, exceptionTable := #[], attributes := #[] }
def k10m4 : Method := { name := "getChar", desc := "([BI)C", sig := { parameters := [(.array .byte), .int], returnType := some .char }, accessFlags := 8, code := some k10c4 }
def k10c5 : Code := { maxStack := 2, maxLocals := 1, code := jdk_52_method_6_code, exceptionTable := #[], attributes := #[] }
def k10m5 : Method := { name := "length", desc := "([B)I", sig := { parameters := [(.array .byte)], returnType := some .int }, accessFlags := 9, code := some k10c5 }
def k10c6 : Code := { maxStack := 4, maxLocals := 5, code := jdk_52_method_14_code, exceptionTable := #[], attributes := #[] }
def k10m6 : Method := { name := "toBytes", desc := "([CII)[B", sig := { parameters := [(.array .char), .int, .int], returnType := some (.array .byte) }, accessFlags := 9, code := some k10c6 }
def k10c7 : Code := { maxStack := 2, maxLocals := 2, code := jdk_52_method_15_code, exceptionTable := #[], attributes := #[] }
def k10m7 : Method := { name := "coderFromArrayLen", desc := "([BI)B", sig := { parameters := [(.array .byte), .int], returnType := some .byte }, accessFlags := 8, code := some k10c7 }
def k10c8 : Code := { maxStack := 5, maxLocals := 6, code := jdk_52_method_16_code, exceptionTable := #[], attributes := #[] }
def k10m8 : Method := { name := "compress", desc := "([CII)[B", sig := { parameters := [(.array .char), .int, .int], returnType := some (.array .byte) }, accessFlags := 9, code := some k10c8 }
def k10c9 : Code := { maxStack := 3, maxLocals := 7, code := jdk_52_method_21_code, exceptionTable := #[], attributes := #[] }
def k10m9 : Method := { name := "compress", desc := "([CI[BII)I", sig := { parameters := [(.array .char), .int, (.array .byte), .int, .int], returnType := some .int }, accessFlags := 9, code := some k10c9 }
def k10c10 : Code := { maxStack := 2, maxLocals := 2, code := jdk_52_method_83_code, exceptionTable := #[], attributes := #[] }
def k10m10 : Method := { name := "charAt", desc := "([BI)C", sig := { parameters := [(.array .byte), .int], returnType := some .char }, accessFlags := 9, code := some k10c10 }
def k10c11 : Code := { maxStack := 2, maxLocals := 2, code := jdk_52_method_91_code, exceptionTable := #[], attributes := #[] }
def k10m11 : Method := { name := "checkIndex", desc := "(I[B)V", sig := { parameters := [.int, (.array .byte)], returnType := none }, accessFlags := 9, code := some k10c11 }
/-- java/lang/StringUTF16 -/
def k10 : Class := { plain "java/lang/StringUTF16" (some 0) with
  accessFlags := 48
  interfaces := #[]
  cf := some (fileOf pool10 12 #[.nestMembers #[627, 629, 369]] #[{ accessFlags := 0, nameIndex := 9, descriptorIndex := 10, attributes := #[] }, { accessFlags := 9, nameIndex := 109, descriptorIndex := 110, attributes := #[] }, { accessFlags := 9, nameIndex := 15, descriptorIndex := 16, attributes := #[] }, { accessFlags := 8, nameIndex := 113, descriptorIndex := 114, attributes := #[] }, { accessFlags := 8, nameIndex := 73, descriptorIndex := 74, attributes := #[] }, { accessFlags := 9, nameIndex := 50, descriptorIndex := 51, attributes := #[] }, { accessFlags := 9, nameIndex := 121, descriptorIndex := 122, attributes := #[] }, { accessFlags := 8, nameIndex := 261, descriptorIndex := 262, attributes := #[] }, { accessFlags := 9, nameIndex := 117, descriptorIndex := 122, attributes := #[] }, { accessFlags := 9, nameIndex := 117, descriptorIndex := 118, attributes := #[] }, { accessFlags := 9, nameIndex := 392, descriptorIndex := 74, attributes := #[] }, { accessFlags := 9, nameIndex := 69, descriptorIndex := 70, attributes := #[] }] 48 6 #[] #[{ accessFlags := 26, nameIndex := 61, descriptorIndex := 62, attributes := #[] }, { accessFlags := 26, nameIndex := 65, descriptorIndex := 62, attributes := #[] }, { accessFlags := 24, nameIndex := 430, descriptorIndex := 62, attributes := #[] }, { accessFlags := 4120, nameIndex := 46, descriptorIndex := 47, attributes := #[] }])
  fields := #[{ name := "HI_BYTE_SHIFT", type := .int, accessFlags := 26, slot := 0, constantValue := 0 }, { name := "LO_BYTE_SHIFT", type := .int, accessFlags := 26, slot := 1, constantValue := 0 }, { name := "MAX_LENGTH", type := .int, accessFlags := 24, slot := 2, constantValue := 0 }, { name := "$assertionsDisabled", type := .boolean, accessFlags := 4120, slot := 3, constantValue := 0 }]
  methods := #[k10m0, k10m1, k10m2, k10m3, k10m4, k10m5, k10m6, k10m7, k10m8, k10m9, k10m10, k10m11]
  instanceTypes := #[]
  staticTypes := #[.int, .int, .int, .boolean]
  resolved := Array.replicate 635 none
  statics := some 2 }

def pool11 : Array CpInfo := pool [(1, .class_ 2), (0, u "java/lang/String"), (1, .class_ 6), (1, u "java/lang/Object"), (0, u "<init>"), (0, u "()V"), (0, .methodref 1 10), (0, .nameAndType 11 12), (0, u "checkIndex"), (0, u "(II)V"), (1, .class_ 16), (1, u "java/lang/StringLatin1"), (36, u "([BI)C"), (67, u "$assertionsDisabled"), (0, u "Z"), (98, .class_ 223), (1, u "java/lang/StringLatin1$LinesSpliterator"), (28, u "charAt"), (137, .class_ 391), (0, u "java/lang/StringLatin1$CharsSpliterator")] 3

def k11m0 : Method := { name := "<init>", desc := "()V", sig := { parameters := [], returnType := none }, accessFlags := 0, code := none }
def k11c1 : Code := { maxStack := 2, maxLocals := 2, code := jdk_43_method_2_code, exceptionTable := #[], attributes := #[] }
def k11m1 : Method := { name := "charAt", desc := "([BI)C", sig := { parameters := [(.array .byte), .int], returnType := some .char }, accessFlags := 9, code := some k11c1 }
/-- java/lang/StringLatin1 -/
def k11 : Class := { plain "java/lang/StringLatin1" (some 0) with
  accessFlags := 48
  interfaces := #[]
  cf := some (fileOf pool11 14 #[.nestMembers #[390, 221]] #[{ accessFlags := 0, nameIndex := 7, descriptorIndex := 8, attributes := #[] }, { accessFlags := 9, nameIndex := 252, descriptorIndex := 53, attributes := #[] }] 48 4 #[] #[{ accessFlags := 4120, nameIndex := 121, descriptorIndex := 122, attributes := #[] }])
  fields := #[{ name := "$assertionsDisabled", type := .boolean, accessFlags := 4120, slot := 0, constantValue := 0 }]
  methods := #[k11m0, k11m1]
  instanceTypes := #[]
  staticTypes := #[.boolean]
  resolved := Array.replicate 395 none
  statics := none }

def pool12 : Array CpInfo := pool [(2, .class_ 4), (1, u "java/lang/Object"), (0, u "<init>"), (0, u "()V"), (17, .class_ 26), (1, u "jdk/internal/util/Preconditions"), (6, u "checkIndex"), (21, .class_ 56), (0, u "jdk/internal/util/Preconditions$4"), (57, .class_ 115), (0, u "jdk/internal/util/Preconditions$1"), (7, u "SIOOBE_FORMATTER"), (0, u "Ljava/util/function/BiFunction;"), (0, .class_ 126), (0, u "jdk/internal/util/Preconditions$2"), (3, u "AIOOBE_FORMATTER"), (0, .class_ 132), (0, u "jdk/internal/util/Preconditions$3"), (3, u "IOOBE_FORMATTER"), (41, u "(IILjava/util/function/BiFunction;)I")] 15

def k12m0 : Method := { name := "<init>", desc := "()V", sig := { parameters := [], returnType := none }, accessFlags := 1, code := none }
def k12c1 : Code := { maxStack := 3, maxLocals := 3, code := jdk_41_method_11_code, exceptionTable := #[], attributes := #[] }
def k12m1 : Method := { name := "checkIndex", desc := "(IILjava/util/function/BiFunction;)I", sig := { parameters := [.int, .int, (.object "java/util/function/BiFunction")], returnType := some .int }, accessFlags := 9, code := some k12c1 }
/-- jdk/internal/util/Preconditions -/
def k12 : Class := { plain "jdk/internal/util/Preconditions" (some 0) with
  accessFlags := 33
  interfaces := #[]
  cf := some (fileOf pool12 24 #[.nestMembers #[55, 131, 125, 114]] #[{ accessFlags := 1, nameIndex := 5, descriptorIndex := 6, attributes := #[] }, { accessFlags := 9, nameIndex := 33, descriptorIndex := 178, attributes := #[] }] 33 2 #[] #[{ accessFlags := 25, nameIndex := 123, descriptorIndex := 124, attributes := #[] }, { accessFlags := 25, nameIndex := 130, descriptorIndex := 124, attributes := #[] }, { accessFlags := 25, nameIndex := 136, descriptorIndex := 124, attributes := #[] }])
  fields := #[{ name := "SIOOBE_FORMATTER", type := (.object "java/util/function/BiFunction"), accessFlags := 25, slot := 0, constantValue := 0 }, { name := "AIOOBE_FORMATTER", type := (.object "java/util/function/BiFunction"), accessFlags := 25, slot := 1, constantValue := 0 }, { name := "IOOBE_FORMATTER", type := (.object "java/util/function/BiFunction"), accessFlags := 25, slot := 2, constantValue := 0 }]
  methods := #[k12m0, k12m1]
  instanceTypes := #[]
  staticTypes := #[(.object "java/util/function/BiFunction"), (.object "java/util/function/BiFunction"), (.object "java/util/function/BiFunction")]
  resolved := Array.replicate 194 none
  statics := some 3 }

def pool13 : Array CpInfo := pool [(9, u "<init>"), (6, .class_ 18), (1, u "java/lang/Object"), (0, u "()V"), (1, .class_ 23), (1, u "jdk/internal/util/ArraysSupport"), (0, u "LOG2_ARRAY_LONG_INDEX_SCALE"), (0, u "I"), (2, u "U"), (0, u "Ljdk/internal/misc/Unsafe;"), (8, u "BIG_ENDIAN"), (0, u "Z"), (8, u "LOG2_BYTE_BIT_SIZE"), (4, u "LOG2_ARRAY_INT_INDEX_SCALE"), (54, u "JLA"), (0, u "Ljdk/internal/access/JavaLangAccess;"), (11, u "LOG2_ARRAY_BOOLEAN_INDEX_SCALE"), (9, u "LOG2_ARRAY_BYTE_INDEX_SCALE"), (5, u "LOG2_ARRAY_CHAR_INDEX_SCALE"), (5, u "LOG2_ARRAY_SHORT_INDEX_SCALE"), (18, u "LOG2_ARRAY_FLOAT_INDEX_SCALE"), (24, u "LOG2_ARRAY_DOUBLE_INDEX_SCALE"), (89, u "T_BOOLEAN"), (2, u "T_CHAR"), (1, u "T_FLOAT"), (1, u "T_DOUBLE"), (1, u "T_BYTE"), (1, u "T_SHORT"), (1, u "T_INT"), (1, u "T_LONG"), (1, u "SOFT_MAX_ARRAY_LENGTH")] 83

def k13m0 : Method := { name := "<init>", desc := "()V", sig := { parameters := [], returnType := none }, accessFlags := 2, code := none }
/-- jdk/internal/util/ArraysSupport -/
def k13 : Class := { plain "jdk/internal/util/ArraysSupport" (some 0) with
  accessFlags := 33
  interfaces := #[]
  cf := some (fileOf pool13 21 #[] #[{ accessFlags := 2, nameIndex := 9, descriptorIndex := 19, attributes := #[] }] 33 16 #[] #[{ accessFlags := 24, nameIndex := 28, descriptorIndex := 29, attributes := #[] }, { accessFlags := 26, nameIndex := 38, descriptorIndex := 39, attributes := #[] }, { accessFlags := 25, nameIndex := 121, descriptorIndex := 25, attributes := #[] }, { accessFlags := 25, nameIndex := 131, descriptorIndex := 25, attributes := #[] }, { accessFlags := 25, nameIndex := 137, descriptorIndex := 25, attributes := #[] }, { accessFlags := 25, nameIndex := 143, descriptorIndex := 25, attributes := #[] }, { accessFlags := 25, nameIndex := 53, descriptorIndex := 25, attributes := #[] }, { accessFlags := 25, nameIndex := 24, descriptorIndex := 25, attributes := #[] }, { accessFlags := 25, nameIndex := 162, descriptorIndex := 25, attributes := #[] }, { accessFlags := 25, nameIndex := 187, descriptorIndex := 25, attributes := #[] }, { accessFlags := 26, nameIndex := 48, descriptorIndex := 25, attributes := #[] }, { accessFlags := 25, nameIndex := 277, descriptorIndex := 25, attributes := #[] }, { accessFlags := 25, nameIndex := 280, descriptorIndex := 25, attributes := #[] }, { accessFlags := 25, nameIndex := 282, descriptorIndex := 25, attributes := #[] }, { accessFlags := 25, nameIndex := 284, descriptorIndex := 25, attributes := #[] }, { accessFlags := 25, nameIndex := 286, descriptorIndex := 25, attributes := #[] }, { accessFlags := 25, nameIndex := 288, descriptorIndex := 25, attributes := #[] }, { accessFlags := 25, nameIndex := 290, descriptorIndex := 25, attributes := #[] }, { accessFlags := 25, nameIndex := 292, descriptorIndex := 25, attributes := #[] }, { accessFlags := 26, nameIndex := 108, descriptorIndex := 109, attributes := #[] }, { accessFlags := 25, nameIndex := 294, descriptorIndex := 25, attributes := #[] }])
  fields := #[{ name := "U", type := (.object "jdk/internal/misc/Unsafe"), accessFlags := 24, slot := 0, constantValue := 0 }, { name := "BIG_ENDIAN", type := .boolean, accessFlags := 26, slot := 1, constantValue := 0 }, { name := "LOG2_ARRAY_BOOLEAN_INDEX_SCALE", type := .int, accessFlags := 25, slot := 2, constantValue := 0 }, { name := "LOG2_ARRAY_BYTE_INDEX_SCALE", type := .int, accessFlags := 25, slot := 3, constantValue := 0 }, { name := "LOG2_ARRAY_CHAR_INDEX_SCALE", type := .int, accessFlags := 25, slot := 4, constantValue := 0 }, { name := "LOG2_ARRAY_SHORT_INDEX_SCALE", type := .int, accessFlags := 25, slot := 5, constantValue := 0 }, { name := "LOG2_ARRAY_INT_INDEX_SCALE", type := .int, accessFlags := 25, slot := 6, constantValue := 0 }, { name := "LOG2_ARRAY_LONG_INDEX_SCALE", type := .int, accessFlags := 25, slot := 7, constantValue := 0 }, { name := "LOG2_ARRAY_FLOAT_INDEX_SCALE", type := .int, accessFlags := 25, slot := 8, constantValue := 0 }, { name := "LOG2_ARRAY_DOUBLE_INDEX_SCALE", type := .int, accessFlags := 25, slot := 9, constantValue := 0 }, { name := "LOG2_BYTE_BIT_SIZE", type := .int, accessFlags := 26, slot := 10, constantValue := 0 }, { name := "T_BOOLEAN", type := .int, accessFlags := 25, slot := 11, constantValue := 0 }, { name := "T_CHAR", type := .int, accessFlags := 25, slot := 12, constantValue := 0 }, { name := "T_FLOAT", type := .int, accessFlags := 25, slot := 13, constantValue := 0 }, { name := "T_DOUBLE", type := .int, accessFlags := 25, slot := 14, constantValue := 0 }, { name := "T_BYTE", type := .int, accessFlags := 25, slot := 15, constantValue := 0 }, { name := "T_SHORT", type := .int, accessFlags := 25, slot := 16, constantValue := 0 }, { name := "T_INT", type := .int, accessFlags := 25, slot := 17, constantValue := 0 }, { name := "T_LONG", type := .int, accessFlags := 25, slot := 18, constantValue := 0 }, { name := "JLA", type := (.object "jdk/internal/access/JavaLangAccess"), accessFlags := 26, slot := 19, constantValue := 0 }, { name := "SOFT_MAX_ARRAY_LENGTH", type := .int, accessFlags := 25, slot := 20, constantValue := 0 }]
  methods := #[k13m0]
  instanceTypes := #[]
  staticTypes := #[(.object "jdk/internal/misc/Unsafe"), .boolean, .int, .int, .int, .int, .int, .int, .int, .int, .int, .int, .int, .int, .int, .int, .int, .int, .int, (.object "jdk/internal/access/JavaLangAccess"), .int]
  resolved := Array.replicate 378 none
  statics := none }

def pool14 : Array CpInfo := pool [(1, u "java/lang/Cloneable"), (0, .class_ 1), (0, u "java/lang/Object"), (0, .class_ 3)] 3

/-- java/lang/Cloneable -/
def k14 : Class := { plain "java/lang/Cloneable" (some 0) with
  accessFlags := 1537
  interfaces := #[]
  cf := some (fileOf pool14 2 #[] #[] 1537 4 #[] #[])
  fields := #[]
  methods := #[]
  instanceTypes := #[]
  staticTypes := #[]
  resolved := Array.replicate 8 none
  statics := none }

/-- the primitive byte -/
def k15 : Class := { plain "byte" none with kind := .primitive 'B', accessFlags := 0x411 }
/-- [B -/
def k16 : Class := { plain "[B" (some 0) with kind := .array 15 .byte, interfaces := #[14, 4], accessFlags := 1041 }

/-- the primitive char -/
def k17 : Class := { plain "char" none with kind := .primitive 'C', accessFlags := 0x411 }
/-- [C -/
def k18 : Class := { plain "[C" (some 0) with kind := .array 17 .char, interfaces := #[14, 4], accessFlags := 1041 }

/-- the primitive int -/
def k19 : Class := { plain "int" none with kind := .primitive 'I', accessFlags := 0x411 }
/-- [I -/
def k20 : Class := { plain "[I" (some 0) with kind := .array 19 .int, interfaces := #[14, 4], accessFlags := 1041 }

def heap : Heap := #[{ cls := 6, slots := #[.ref 4, .ref 5, .null], vm := .statics 6 },
  { cls := 9, slots := #[.long 0, .int 1, .null, .int 0, .null, .int 0, .int 0], vm := .statics 9 },
  { cls := 10, slots := #[.int 0, .int 8, .int 0, .int 1], vm := .statics 10 },
  { cls := 12, slots := #[.null, .null, .null], vm := .statics 12 },
  { cls := 6, slots := #[.null, .int 0, .int 0, .null, .int 3, .int 50], vm := .none },
  { cls := 6, slots := #[.null, .int 1, .int 0, .null, .int 3, .int 64], vm := .none }]
def classes : Array Class := #[k0, k1, k2, k3, k4, k5, k6, k7, k8, k9, k10, k11, k12, k13, k14, k15, k16, k17, k18, k19, k20]
def interned : List (Array UInt16 × Addr) := []
def slotsUsed : Nat := 29
def theMethod : MethodId := ⟨1, 1⟩
def args0 : Array Value := #[.int 5, .int 6, .int 97, .int 98, .int 99, .int 100]
def aboutOver (below : List Frame) : State where
  vm := { classes := classes, interned := interned.toArray }
  heap := heap
  slotsUsed := slotsUsed
  threads := #[{ frames := .invoking theMethod args0 :: below }]
def below0 : List Frame := [.native { method := ⟨0, 0⟩, args := #[] }]
def about1 : State := aboutOver below0
def p0 : Program := .bare "" "" ""
def e0 : Env := launch0.env 0 0 0
theorem w_frames : about1.frames = Frame.invoking theMethod args0 :: below0 := rfl
set_option maxRecDepth 65536 in
theorem w_args : argsFit about1.vm theMethod args0 = true := by decide +kernel
set_option maxRecDepth 65536 in
theorem w_heap : heapFits about1 = true := by decide +kernel
set_option maxRecDepth 65536 in
theorem w_runnable : about1.curStatus? = some .runnable := by decide +kernel
set_option maxRecDepth 65536 in
theorem w_alone : about1.alone = true := by decide +kernel
set_option maxRecDepth 65536 in
theorem w_named : about1.methodNamed? x = some theMethod := by decide +kernel
set_option maxRecDepth 65536 in
theorem w_hears : about1.hears theMethod below0 = true := by decide +kernel
set_option maxRecDepth 65536 in
theorem w_ripe : about1.ripe theMethod args0 below0 = true := by decide +kernel
theorem w_running : about1.status = .running := rfl
set_option maxRecDepth 65536 in
theorem w_room : about1.hasRoom e0.platform room_1 = true :=
  launch0.hasRoom_least _ room_1 (by decide +kernel) (by decide +kernel) (by decide +kernel) (by decide +kernel) (by decide +kernel) (by decide +kernel)
theorem allAtoms_all (ts : List Jvm.Cond) (a : Array Jvm.Value) (st : Jvm.State) : (allAtoms ts).before a st = ts.all (fun c => c.before a st) := by
  induction ts with
  | nil => rfl
  | cons c t ih =>
    show (Jvm.Cond.and c (allAtoms t)).before a st = _
    rw [Jvm.Cond.before_and, ih, List.all_cons]
def words1 : List Jvm.Cond := Jvm.Cond.code x code maxLocals ret :: tables_1
/-- a 'code' word, met by the world's own term for the bytes: nothing is compared byte by byte -/
theorem code_word {y : MethodName} {bytes : ByteArray} {mx : Nat} {rt : Option FieldType} {a : Array Value} {s : State} {m : MethodId} {meth : Method} {c : Code} (h1 : s.methodNamed? y = some m) (h2 : s.vm.method? m = some meth) (h3 : meth.code = some c) (h4 : c.code = bytes)
    (h5 : (c.maxLocals == mx && c.exceptionTable.isEmpty && decide (c.maxStack ≤ mostOperands) && decide (meth.sig.returnType = rt) && !meth.locks && decide (parseMethodDescriptor y.desc = some meth.sig)) = true) : (Jvm.Cond.code y bytes mx rt).before a s = true := by
  simp only [Bool.and_eq_true, beq_iff_eq, Bool.not_eq_true', decide_eq_true_eq] at h5
  obtain ⟨⟨⟨⟨⟨g1, g2⟩, g3⟩, g4⟩, g5⟩, g6⟩ := h5
  simp [Cond.before, Cond.holds, Cond.value, h1, h2, h3, h4, g1, g2, g3, g4, g5, g6]
def isCode : Jvm.Cond → Bool
  | .code _ _ _ _ => true
  | _ => false
theorem all_split {L : List Jvm.Cond} {P : Jvm.Cond → Bool} (h1 : L.all (fun c => isCode c || P c) = true) (h2 : ∀ c ∈ L.filter isCode, P c = true) : L.all P = true := by
  refine List.all_eq_true.mpr fun c hc => ?_
  have h := List.all_eq_true.mp h1 c hc
  rcases Bool.eq_false_or_eq_true (isCode c) with hi | hi
  · exact h2 c (List.mem_filter.mpr ⟨hc, hi⟩)
  · simpa [hi] using h
set_option maxRecDepth 65536 in
theorem w_c0 : (Jvm.Cond.code x code maxLocals ret).before args0 about1 = true := code_word (m := ⟨1, 1⟩) (meth := k1m1) (c := k1c1) (by decide +kernel) rfl rfl rfl (by decide +kernel)
set_option maxRecDepth 65536 in
theorem w_c1 : (Jvm.Cond.code ({ cls := "com/example/patient_courier/patientcourier/NameRuleAcceptsPinLaw", name := "blank", desc := "(IC)[C" } : Jvm.MethodName) method_4_code (2 : Nat) (Option.some (Jvm.ClassFile.FieldType.array Jvm.ClassFile.FieldType.char))).before args0 about1 = true := code_word (m := ⟨1, 3⟩) (meth := k1m3) (c := k1c3) (by decide +kernel) rfl rfl rfl (by decide +kernel)
set_option maxRecDepth 65536 in
theorem w_c2 : (Jvm.Cond.code ({ cls := "java/lang/String", name := "<init>", desc := "([C)V" } : Jvm.MethodName) jdk_42_method_3_code (2 : Nat) (Option.none : Option Jvm.ClassFile.FieldType)).before args0 about1 = true := code_word (m := ⟨9, 1⟩) (meth := k9m1) (c := k9c1) (by decide +kernel) rfl rfl rfl (by decide +kernel)
set_option maxRecDepth 65536 in
theorem w_c3 : (Jvm.Cond.code ({ cls := "java/lang/String", name := "<init>", desc := "([CIILjava/lang/Void;)V" } : Jvm.MethodName) jdk_42_method_149_code (6 : Nat) (Option.none : Option Jvm.ClassFile.FieldType)).before args0 about1 = true := code_word (m := ⟨9, 4⟩) (meth := k9m4) (c := k9c4) (by decide +kernel) rfl rfl rfl (by decide +kernel)
set_option maxRecDepth 65536 in
theorem w_c4 : (Jvm.Cond.code ({ cls := "java/lang/Object", name := "<init>", desc := "()V" } : Jvm.MethodName) object_method_1_code (1 : Nat) (Option.none : Option Jvm.ClassFile.FieldType)).before args0 about1 = true := code_word (m := ⟨0, 0⟩) (meth := k0m0) (c := k0c0) (by decide +kernel) rfl rfl rfl (by decide +kernel)
set_option maxRecDepth 65536 in
theorem w_c5 : (Jvm.Cond.code ({ cls := "java/lang/StringUTF16", name := "compress", desc := "([CII)[B" } : Jvm.MethodName) jdk_52_method_16_code (6 : Nat) (Option.some (Jvm.ClassFile.FieldType.array Jvm.ClassFile.FieldType.byte))).before args0 about1 = true := code_word (m := ⟨10, 8⟩) (meth := k10m8) (c := k10c8) (by decide +kernel) rfl rfl rfl (by decide +kernel)
set_option maxRecDepth 65536 in
theorem w_c6 : (Jvm.Cond.code ({ cls := "java/lang/StringUTF16", name := "compress", desc := "([CI[BII)I" } : Jvm.MethodName) jdk_52_method_21_code (7 : Nat) (Option.some Jvm.ClassFile.FieldType.int)).before args0 about1 = true := code_word (m := ⟨10, 9⟩) (meth := k10m9) (c := k10c9) (by decide +kernel) rfl rfl rfl (by decide +kernel)
set_option maxRecDepth 65536 in
theorem w_c7 : (Jvm.Cond.code ({ cls := "java/lang/StringUTF16", name := "coderFromArrayLen", desc := "([BI)B" } : Jvm.MethodName) jdk_52_method_15_code (2 : Nat) (Option.some Jvm.ClassFile.FieldType.byte)).before args0 about1 = true := code_word (m := ⟨10, 7⟩) (meth := k10m7) (c := k10c7) (by decide +kernel) rfl rfl rfl (by decide +kernel)
set_option maxRecDepth 65536 in
theorem w_c8 : (Jvm.Cond.code ({ cls := "com/example/patient_courier/patientcourier/NameRule", name := "accepts", desc := "(Ljava/lang/String;)Z" } : Jvm.MethodName) prog_10_method_4_code (3 : Nat) (Option.some Jvm.ClassFile.FieldType.boolean)).before args0 about1 = true := code_word (m := ⟨6, 0⟩) (meth := k6m0) (c := k6c0) (by decide +kernel) rfl rfl rfl (by decide +kernel)
set_option maxRecDepth 65536 in
theorem w_c9 : (Jvm.Cond.code ({ cls := "java/lang/String", name := "length", desc := "()I" } : Jvm.MethodName) jdk_42_method_54_code (1 : Nat) (Option.some Jvm.ClassFile.FieldType.int)).before args0 about1 = true := code_word (m := ⟨9, 2⟩) (meth := k9m2) (c := k9c2) (by decide +kernel) rfl rfl rfl (by decide +kernel)
set_option maxRecDepth 65536 in
theorem w_c10 : (Jvm.Cond.code ({ cls := "java/lang/String", name := "coder", desc := "()B" } : Jvm.MethodName) jdk_42_method_152_code (1 : Nat) (Option.some Jvm.ClassFile.FieldType.byte)).before args0 about1 = true := code_word (m := ⟨9, 5⟩) (meth := k9m5) (c := k9c5) (by decide +kernel) rfl rfl rfl (by decide +kernel)
set_option maxRecDepth 65536 in
theorem w_c11 : (Jvm.Cond.code ({ cls := "java/lang/String", name := "charAt", desc := "(I)C" } : Jvm.MethodName) jdk_42_method_56_code (2 : Nat) (Option.some Jvm.ClassFile.FieldType.char)).before args0 about1 = true := code_word (m := ⟨9, 3⟩) (meth := k9m3) (c := k9c3) (by decide +kernel) rfl rfl rfl (by decide +kernel)
set_option maxRecDepth 65536 in
theorem w_c12 : (Jvm.Cond.code ({ cls := "java/lang/String", name := "isLatin1", desc := "()Z" } : Jvm.MethodName) jdk_42_method_154_code (1 : Nat) (Option.some Jvm.ClassFile.FieldType.boolean)).before args0 about1 = true := code_word (m := ⟨9, 6⟩) (meth := k9m6) (c := k9c6) (by decide +kernel) rfl rfl rfl (by decide +kernel)
set_option maxRecDepth 65536 in
theorem w_c13 : (Jvm.Cond.code ({ cls := "java/lang/StringLatin1", name := "charAt", desc := "([BI)C" } : Jvm.MethodName) jdk_43_method_2_code (2 : Nat) (Option.some Jvm.ClassFile.FieldType.char)).before args0 about1 = true := code_word (m := ⟨11, 1⟩) (meth := k11m1) (c := k11c1) (by decide +kernel) rfl rfl rfl (by decide +kernel)
set_option maxRecDepth 65536 in
theorem w_c14 : (Jvm.Cond.code ({ cls := "java/lang/String", name := "checkIndex", desc := "(II)V" } : Jvm.MethodName) jdk_42_method_155_code (2 : Nat) (Option.none : Option Jvm.ClassFile.FieldType)).before args0 about1 = true := code_word (m := ⟨9, 7⟩) (meth := k9m7) (c := k9c7) (by decide +kernel) rfl rfl rfl (by decide +kernel)
set_option maxRecDepth 65536 in
theorem w_c15 : (Jvm.Cond.code ({ cls := "jdk/internal/util/Preconditions", name := "checkIndex", desc := "(IILjava/util/function/BiFunction;)I" } : Jvm.MethodName) jdk_41_method_11_code (3 : Nat) (Option.some Jvm.ClassFile.FieldType.int)).before args0 about1 = true := code_word (m := ⟨12, 1⟩) (meth := k12m1) (c := k12c1) (by decide +kernel) rfl rfl rfl (by decide +kernel)
set_option maxRecDepth 65536 in
theorem w_c16 : (Jvm.Cond.code ({ cls := "com/example/patient_courier/patientcourier/NameRule", name := "isNameCharacter", desc := "(C)Z" } : Jvm.MethodName) prog_10_method_6_code (1 : Nat) (Option.some Jvm.ClassFile.FieldType.boolean)).before args0 about1 = true := code_word (m := ⟨6, 1⟩) (meth := k6m1) (c := k6c1) (by decide +kernel) rfl rfl rfl (by decide +kernel)
set_option maxRecDepth 65536 in
theorem w_c17 : (Jvm.Cond.code ({ cls := "com/example/patient_courier/patientcourier/NameRuleAcceptsPinLaw", name := "nameChar", desc := "(C)Z" } : Jvm.MethodName) method_3_code (1 : Nat) (Option.some Jvm.ClassFile.FieldType.boolean)).before args0 about1 = true := code_word (m := ⟨1, 2⟩) (meth := k1m2) (c := k1c2) (by decide +kernel) rfl rfl rfl (by decide +kernel)
set_option maxRecDepth 65536 in
theorem w_c18 : (Jvm.Cond.code ({ cls := "java/lang/StringUTF16", name := "toBytes", desc := "([CII)[B" } : Jvm.MethodName) jdk_52_method_14_code (5 : Nat) (Option.some (Jvm.ClassFile.FieldType.array Jvm.ClassFile.FieldType.byte))).before args0 about1 = true := code_word (m := ⟨10, 6⟩) (meth := k10m6) (c := k10c6) (by decide +kernel) rfl rfl rfl (by decide +kernel)
set_option maxRecDepth 65536 in
theorem w_c19 : (Jvm.Cond.code ({ cls := "java/lang/StringUTF16", name := "newBytesFor", desc := "(I)[B" } : Jvm.MethodName) jdk_52_method_2_code (1 : Nat) (Option.some (Jvm.ClassFile.FieldType.array Jvm.ClassFile.FieldType.byte))).before args0 about1 = true := code_word (m := ⟨10, 1⟩) (meth := k10m1) (c := k10c1) (by decide +kernel) rfl rfl rfl (by decide +kernel)
set_option maxRecDepth 65536 in
theorem w_c20 : (Jvm.Cond.code ({ cls := "java/lang/StringUTF16", name := "newBytesLength", desc := "(I)I" } : Jvm.MethodName) jdk_52_method_3_code (1 : Nat) (Option.some Jvm.ClassFile.FieldType.int)).before args0 about1 = true := code_word (m := ⟨10, 2⟩) (meth := k10m2) (c := k10c2) (by decide +kernel) rfl rfl rfl (by decide +kernel)
set_option maxRecDepth 65536 in
theorem w_c21 : (Jvm.Cond.code ({ cls := "java/lang/StringUTF16", name := "putChar", desc := "([BII)V" } : Jvm.MethodName) jdk_52_method_4_code (3 : Nat) (Option.none : Option Jvm.ClassFile.FieldType)).before args0 about1 = true := code_word (m := ⟨10, 3⟩) (meth := k10m3) (c := k10c3) (by decide +kernel) rfl rfl rfl (by decide +kernel)
set_option maxRecDepth 65536 in
theorem w_c22 : (Jvm.Cond.code ({ cls := "java/lang/StringUTF16", name := "getChar", desc := "([BI)C" } : Jvm.MethodName) jdk_52_method_5_code (2 : Nat) (Option.some Jvm.ClassFile.FieldType.char)).before args0 about1 = true := code_word (m := ⟨10, 4⟩) (meth := k10m4) (c := k10c4) (by decide +kernel) rfl rfl rfl (by decide +kernel)
set_option maxRecDepth 65536 in
theorem w_c23 : (Jvm.Cond.code ({ cls := "java/lang/StringUTF16", name := "charAt", desc := "([BI)C" } : Jvm.MethodName) jdk_52_method_83_code (2 : Nat) (Option.some Jvm.ClassFile.FieldType.char)).before args0 about1 = true := code_word (m := ⟨10, 10⟩) (meth := k10m10) (c := k10c10) (by decide +kernel) rfl rfl rfl (by decide +kernel)
set_option maxRecDepth 65536 in
theorem w_c24 : (Jvm.Cond.code ({ cls := "java/lang/StringUTF16", name := "checkIndex", desc := "(I[B)V" } : Jvm.MethodName) jdk_52_method_91_code (2 : Nat) (Option.none : Option Jvm.ClassFile.FieldType)).before args0 about1 = true := code_word (m := ⟨10, 11⟩) (meth := k10m11) (c := k10c11) (by decide +kernel) rfl rfl rfl (by decide +kernel)
set_option maxRecDepth 65536 in
theorem w_c25 : (Jvm.Cond.code ({ cls := "java/lang/StringUTF16", name := "length", desc := "([B)I" } : Jvm.MethodName) jdk_52_method_6_code (1 : Nat) (Option.some Jvm.ClassFile.FieldType.int)).before args0 about1 = true := code_word (m := ⟨10, 5⟩) (meth := k10m5) (c := k10c5) (by decide +kernel) rfl rfl rfl (by decide +kernel)
def codes1 : List Jvm.Cond := [Jvm.Cond.code x code maxLocals ret, Jvm.Cond.code ({ cls := "com/example/patient_courier/patientcourier/NameRuleAcceptsPinLaw", name := "blank", desc := "(IC)[C" } : Jvm.MethodName) method_4_code (2 : Nat) (Option.some (Jvm.ClassFile.FieldType.array Jvm.ClassFile.FieldType.char)), Jvm.Cond.code ({ cls := "java/lang/String", name := "<init>", desc := "([C)V" } : Jvm.MethodName) jdk_42_method_3_code (2 : Nat) (Option.none : Option Jvm.ClassFile.FieldType), Jvm.Cond.code ({ cls := "java/lang/String", name := "<init>", desc := "([CIILjava/lang/Void;)V" } : Jvm.MethodName) jdk_42_method_149_code (6 : Nat) (Option.none : Option Jvm.ClassFile.FieldType), Jvm.Cond.code ({ cls := "java/lang/Object", name := "<init>", desc := "()V" } : Jvm.MethodName) object_method_1_code (1 : Nat) (Option.none : Option Jvm.ClassFile.FieldType), Jvm.Cond.code ({ cls := "java/lang/StringUTF16", name := "compress", desc := "([CII)[B" } : Jvm.MethodName) jdk_52_method_16_code (6 : Nat) (Option.some (Jvm.ClassFile.FieldType.array Jvm.ClassFile.FieldType.byte)), Jvm.Cond.code ({ cls := "java/lang/StringUTF16", name := "compress", desc := "([CI[BII)I" } : Jvm.MethodName) jdk_52_method_21_code (7 : Nat) (Option.some Jvm.ClassFile.FieldType.int), Jvm.Cond.code ({ cls := "java/lang/StringUTF16", name := "coderFromArrayLen", desc := "([BI)B" } : Jvm.MethodName) jdk_52_method_15_code (2 : Nat) (Option.some Jvm.ClassFile.FieldType.byte), Jvm.Cond.code ({ cls := "com/example/patient_courier/patientcourier/NameRule", name := "accepts", desc := "(Ljava/lang/String;)Z" } : Jvm.MethodName) prog_10_method_4_code (3 : Nat) (Option.some Jvm.ClassFile.FieldType.boolean), Jvm.Cond.code ({ cls := "java/lang/String", name := "length", desc := "()I" } : Jvm.MethodName) jdk_42_method_54_code (1 : Nat) (Option.some Jvm.ClassFile.FieldType.int), Jvm.Cond.code ({ cls := "java/lang/String", name := "coder", desc := "()B" } : Jvm.MethodName) jdk_42_method_152_code (1 : Nat) (Option.some Jvm.ClassFile.FieldType.byte), Jvm.Cond.code ({ cls := "java/lang/String", name := "charAt", desc := "(I)C" } : Jvm.MethodName) jdk_42_method_56_code (2 : Nat) (Option.some Jvm.ClassFile.FieldType.char), Jvm.Cond.code ({ cls := "java/lang/String", name := "isLatin1", desc := "()Z" } : Jvm.MethodName) jdk_42_method_154_code (1 : Nat) (Option.some Jvm.ClassFile.FieldType.boolean), Jvm.Cond.code ({ cls := "java/lang/StringLatin1", name := "charAt", desc := "([BI)C" } : Jvm.MethodName) jdk_43_method_2_code (2 : Nat) (Option.some Jvm.ClassFile.FieldType.char), Jvm.Cond.code ({ cls := "java/lang/String", name := "checkIndex", desc := "(II)V" } : Jvm.MethodName) jdk_42_method_155_code (2 : Nat) (Option.none : Option Jvm.ClassFile.FieldType), Jvm.Cond.code ({ cls := "jdk/internal/util/Preconditions", name := "checkIndex", desc := "(IILjava/util/function/BiFunction;)I" } : Jvm.MethodName) jdk_41_method_11_code (3 : Nat) (Option.some Jvm.ClassFile.FieldType.int), Jvm.Cond.code ({ cls := "com/example/patient_courier/patientcourier/NameRule", name := "isNameCharacter", desc := "(C)Z" } : Jvm.MethodName) prog_10_method_6_code (1 : Nat) (Option.some Jvm.ClassFile.FieldType.boolean), Jvm.Cond.code ({ cls := "com/example/patient_courier/patientcourier/NameRuleAcceptsPinLaw", name := "nameChar", desc := "(C)Z" } : Jvm.MethodName) method_3_code (1 : Nat) (Option.some Jvm.ClassFile.FieldType.boolean), Jvm.Cond.code ({ cls := "java/lang/StringUTF16", name := "toBytes", desc := "([CII)[B" } : Jvm.MethodName) jdk_52_method_14_code (5 : Nat) (Option.some (Jvm.ClassFile.FieldType.array Jvm.ClassFile.FieldType.byte)), Jvm.Cond.code ({ cls := "java/lang/StringUTF16", name := "newBytesFor", desc := "(I)[B" } : Jvm.MethodName) jdk_52_method_2_code (1 : Nat) (Option.some (Jvm.ClassFile.FieldType.array Jvm.ClassFile.FieldType.byte)), Jvm.Cond.code ({ cls := "java/lang/StringUTF16", name := "newBytesLength", desc := "(I)I" } : Jvm.MethodName) jdk_52_method_3_code (1 : Nat) (Option.some Jvm.ClassFile.FieldType.int), Jvm.Cond.code ({ cls := "java/lang/StringUTF16", name := "putChar", desc := "([BII)V" } : Jvm.MethodName) jdk_52_method_4_code (3 : Nat) (Option.none : Option Jvm.ClassFile.FieldType), Jvm.Cond.code ({ cls := "java/lang/StringUTF16", name := "getChar", desc := "([BI)C" } : Jvm.MethodName) jdk_52_method_5_code (2 : Nat) (Option.some Jvm.ClassFile.FieldType.char), Jvm.Cond.code ({ cls := "java/lang/StringUTF16", name := "charAt", desc := "([BI)C" } : Jvm.MethodName) jdk_52_method_83_code (2 : Nat) (Option.some Jvm.ClassFile.FieldType.char), Jvm.Cond.code ({ cls := "java/lang/StringUTF16", name := "checkIndex", desc := "(I[B)V" } : Jvm.MethodName) jdk_52_method_91_code (2 : Nat) (Option.none : Option Jvm.ClassFile.FieldType), Jvm.Cond.code ({ cls := "java/lang/StringUTF16", name := "length", desc := "([B)I" } : Jvm.MethodName) jdk_52_method_6_code (1 : Nat) (Option.some Jvm.ClassFile.FieldType.int)]
set_option maxRecDepth 65536 in
theorem codes_eq : words1.filter isCode = codes1 := rfl
theorem w_codes : ∀ c ∈ words1.filter isCode, c.before args0 about1 = true := by
  rw [codes_eq]
  intro c hc
  simp only [codes1, List.mem_cons, List.not_mem_nil, or_false] at hc
  rcases hc with rfl | rfl | rfl | rfl | rfl | rfl | rfl | rfl | rfl | rfl | rfl | rfl | rfl | rfl | rfl | rfl | rfl | rfl | rfl | rfl | rfl | rfl | rfl | rfl | rfl | rfl
  · exact w_c0
  · exact w_c1
  · exact w_c2
  · exact w_c3
  · exact w_c4
  · exact w_c5
  · exact w_c6
  · exact w_c7
  · exact w_c8
  · exact w_c9
  · exact w_c10
  · exact w_c11
  · exact w_c12
  · exact w_c13
  · exact w_c14
  · exact w_c15
  · exact w_c16
  · exact w_c17
  · exact w_c18
  · exact w_c19
  · exact w_c20
  · exact w_c21
  · exact w_c22
  · exact w_c23
  · exact w_c24
  · exact w_c25
set_option maxRecDepth 65536 in
theorem w_t1 : (words1.take 24).all (fun c => isCode c || c.before args0 about1) = true := by decide +kernel
set_option maxRecDepth 65536 in
theorem w_t2 : ((words1.drop 24).take 24).all (fun c => isCode c || c.before args0 about1) = true := by decide +kernel
set_option maxRecDepth 65536 in
theorem w_t3 : (((words1.drop 24).drop 24).take 24).all (fun c => isCode c || c.before args0 about1) = true := by decide +kernel
set_option maxRecDepth 65536 in
theorem w_t4 : ((((words1.drop 24).drop 24).drop 24).take 24).all (fun c => isCode c || c.before args0 about1) = true := by decide +kernel
set_option maxRecDepth 65536 in
theorem w_t5 : (((((words1.drop 24).drop 24).drop 24).drop 24).take 24).all (fun c => isCode c || c.before args0 about1) = true := by decide +kernel
set_option maxRecDepth 65536 in
theorem w_t6 : (((((words1.drop 24).drop 24).drop 24).drop 24).drop 24).all (fun c => isCode c || c.before args0 about1) = true := by decide +kernel
theorem w_tables : (allAtoms (Jvm.Cond.code x code maxLocals ret :: tables_1)).before args0 about1 = true := by
  rw [allAtoms_all]
  show words1.all (fun c => c.before args0 about1) = true
  refine all_split ?_ w_codes
  rw [← List.take_append_drop 24 words1, List.all_append, w_t1, ← List.take_append_drop 24 (words1.drop 24), List.all_append, w_t2, ← List.take_append_drop 24 ((words1.drop 24).drop 24), List.all_append, w_t3, ← List.take_append_drop 24 (((words1.drop 24).drop 24).drop 24), List.all_append, w_t4, ← List.take_append_drop 24 ((((words1.drop 24).drop 24).drop 24).drop 24), List.all_append, w_t5, w_t6]
  rfl
set_option maxRecDepth 65536 in
theorem w_rest : rest_1_c.before args0 about1 = true := by decide +kernel
set_option maxRecDepth 65536 in
theorem w_case : (Jvm.Cond.and given_1 narrow_1).before args0 about1 = true := by decide +kernel
set_option maxRecDepth 65536 in
theorem w_consts : constsHeld consts_1 about1 := Jvm.Lit.constsHeldB_iff.mp (by decide +kernel)
theorem w_applies : (headSpec (Jvm.Cond.code x code maxLocals ret :: tables_1) room_1).applies x e0.platform about1 = true :=
  (Spec.applies_iff w_frames).mpr ⟨w_running, w_runnable, w_alone, w_named, w_hears, w_ripe, w_room, w_tables⟩
theorem atStart : AtStart classFile x code maxLocals ret World_1 tables_1 room_1 Calls_1 rest_1 Pre_1 launch0 p0 e0 about1 theMethod args0 below0 :=
  ⟨lists_1, trivial, launch0.admits_env _ _ _, launch0.least_env, fairChoices_fair.cas, fairChoices_fair.clock, w_frames, w_args, w_heap, w_applies, ⟨w_consts, trivial⟩, w_rest, w_case⟩
end start1
theorem witness_1 : WitnessClaimed_1 := ⟨start1.p0, start1.e0, start1.about1, start1.theMethod, start1.args0, start1.below0, start1.atStart⟩
end Jvm.Pilot.@@N@@
