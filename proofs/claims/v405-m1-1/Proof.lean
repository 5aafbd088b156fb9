import JvmDerived
import JvmDerived.Pilot.@@N@@Statement
import JvmDerived.Pilot.@@N@@Code
set_option linter.unusedVariables false
set_option linter.unusedSimpArgs false
namespace Jvm.Pilot.@@N@@
open Jvm Jvm.ClassFile Sem Op Lib Jvm.Free Jvm.Stand Jvm.LawKit Jvm.RoadKit Bundle Jvm.Pilot.@@N@@.Jvm.D

/-! ## own kit: a walk as a tree -/
section OwnKit
variable {p : Program} {l : Launch} {e : Env} {R : Room} {s : State} {m : MethodId} {args : Array Value} {below : List Frame} {meth : Method} {c : Code} {T T' : State} {locs : List Loc} {cells slots : Nat} {Q : Option Value → Heap → List Loc → Prop} {f f' : JFrame} {Z : State} {a0 : Array Value} {h h' : Heap}
/-- from here the body comes to its return, and Q holds there -/
def Go (p : Program) (e : Env) (s : State) (below : List Frame) (R : Room) (Q : Option Value → Heap → List Loc → Prop) (T : State) (f : JFrame) : Prop :=
  ∃ s₂ o, Steps p.tables e below (T.setTop f) s₂ ∧ s₂.status = .running ∧ Ended s₂ below o ∧ ∃ v L, o = .returned v ∧ Q v s₂.heap L ∧ FrameEnd s o s₂ L R.cells R.slots
theorem Go.of (k : ∀ t, Steps p.tables e below (T'.setTop f') t → Steps p.tables e below (T.setTop f) t) (G : Go p e s below R Q T' f') : Go p e s below R Q T f := by
  obtain ⟨s2, o, h1, h2⟩ := G
  exact ⟨s2, o, k _ h1, h2⟩
theorem Go.cast (q : f = f') (G : Go p e s below R Q T f') : Go p e s below R Q T f := q ▸ G
theorem Go.retO (X : Stand p l e R s m args below meth c T locs cells slots) (hx : p.tables.exec = Jvm.exec) (hlk : meth.locks = false) {pc : Nat} {Ls : Array Slot} {w : Value} {t : FieldType} {i : Instr} {rest : List Value} (hret : meth.sig.returnType = some t) (hn : narrow t w = w)
    (hi : (i = .ireturn ∧ (t = .int ∨ t = .boolean ∨ t = .byte ∨ t = .char ∨ t = .short) ∧ ∃ z, w = .int z) ∨ (i = .lreturn ∧ t = .long ∧ ∃ z, w = .long z) ∨ (i = .dreturn ∧ t = .double ∧ ∃ z, w = .double z) ∨ (i = .freturn ∧ t = .float ∧ ∃ z, w = .float z) ∨ (i = .areturn ∧ t.isReference = true ∧ w.isRef = true))
    (hd : decode c.code pc = .ok (i, 1)) (hc : cells ≤ R.cells) (hs : slots ≤ R.slots) (hq : Q (some w) T.heap locs) : Go p e s below R Q T (mkF m pc Ls (w :: rest)) := by
  obtain ⟨fs, hr, hrun, hended, hW, hsame⟩ := X.leave (v := some w) (fun h => by rw [hret] at h; cases h) hlk
  exact ⟨_, _, retOut X hx hret hn hi hd hr, hrun, hended, _, _, rfl, hq, ⟨_, rfl⟩, hW, hsame.mono hc hs⟩
theorem Go.retI (X : Stand p l e R s m args below meth c T locs cells slots) (hx : p.tables.exec = Jvm.exec) (hlk : meth.locks = false) (hret : meth.sig.returnType = some .int) {pc : Nat} {Ls : Array Slot} {z : Int32} {rest : List Value}
    (hd : decode c.code pc = .ok (.ireturn, 1)) (hc : cells ≤ R.cells) (hs : slots ≤ R.slots) (hq : Q (some (.int z)) T.heap locs) : Go p e s below R Q T (mkF m pc Ls (.int z :: rest)) :=
  Go.retO X hx hlk hret rfl (Or.inl ⟨rfl, Or.inl rfl, _, rfl⟩) hd hc hs hq
theorem Go.retJ (X : Stand p l e R s m args below meth c T locs cells slots) (hx : p.tables.exec = Jvm.exec) (hlk : meth.locks = false) (hret : meth.sig.returnType = some .long) {pc : Nat} {Ls : Array Slot} {z : Int64} {rest : List Value}
    (hd : decode c.code pc = .ok (.lreturn, 1)) (hc : cells ≤ R.cells) (hs : slots ≤ R.slots) (hq : Q (some (.long z)) T.heap locs) : Go p e s below R Q T (mkF m pc Ls (.long z :: rest)) :=
  Go.retO X hx hlk hret rfl (Or.inr (Or.inl ⟨rfl, rfl, _, rfl⟩)) hd hc hs hq
theorem Go.retD (X : Stand p l e R s m args below meth c T locs cells slots) (hx : p.tables.exec = Jvm.exec) (hlk : meth.locks = false) (hret : meth.sig.returnType = some .double) {pc : Nat} {Ls : Array Slot} {z : UInt64} {rest : List Value}
    (hd : decode c.code pc = .ok (.dreturn, 1)) (hc : cells ≤ R.cells) (hs : slots ≤ R.slots) (hq : Q (some (.double z)) T.heap locs) : Go p e s below R Q T (mkF m pc Ls (.double z :: rest)) :=
  Go.retO X hx hlk hret rfl (Or.inr (Or.inr (Or.inl ⟨rfl, rfl, _, rfl⟩))) hd hc hs hq
theorem Go.retA (X : Stand p l e R s m args below meth c T locs cells slots) (hx : p.tables.exec = Jvm.exec) (hlk : meth.locks = false) {t : FieldType} (hret : meth.sig.returnType = some t) (ht : t.isReference = true) {pc : Nat} {Ls : Array Slot} {w : Value} {rest : List Value}
    (hw : w.isRef = true) (hd : decode c.code pc = .ok (.areturn, 1)) (hc : cells ≤ R.cells) (hs : slots ≤ R.slots) (hq : Q (some w) T.heap locs) : Go p e s below R Q T (mkF m pc Ls (w :: rest)) :=
  Go.retO X hx hlk hret (by cases t <;> first | (cases ht; done) | rfl) (Or.inr (Or.inr (Or.inr (Or.inr ⟨rfl, ht, hw⟩)))) hd hc hs hq
theorem Go.retB (X : Stand p l e R s m args below meth c T locs cells slots) (hx : p.tables.exec = Jvm.exec) (hlk : meth.locks = false) {t : FieldType} (hret : meth.sig.returnType = some t) (ht : t = .boolean ∨ t = .byte ∨ t = .char ∨ t = .short) {pc : Nat} {Ls : Array Slot} {z : Int32} {rest : List Value}
    (hd : decode c.code pc = .ok (.ireturn, 1)) (hc : cells ≤ R.cells) (hs : slots ≤ R.slots) {z' : Int32} (hz : nar t z = z') (hq : Q (some (.int z')) T.heap locs) : Go p e s below R Q T (mkF m pc Ls (.int z :: rest)) := by
  subst hz
  obtain ⟨fs, hr, hrun, hended, hW, hsame⟩ := X.leave (v := some (.int (nar t z))) (fun h => by rw [hret] at h; cases h) hlk
  exact ⟨_, _, retN X hx hret ht hd hr, hrun, hended, _, _, rfl, hq, ⟨_, rfl⟩, hW, hsame.mono hc hs⟩
theorem Go.retV (X : Stand p l e R s m args below meth c T locs cells slots) (hx : p.tables.exec = Jvm.exec) (hlk : meth.locks = false) (hret : meth.sig.returnType = none) {pc : Nat} {Ls : Array Slot}
    (hd : decode c.code pc = .ok (.return_, 1)) (hc : cells ≤ R.cells) (hs : slots ≤ R.slots) (hq : Q none T.heap locs) : Go p e s below R Q T (mkF m pc Ls []) := by
  obtain ⟨fs, hr, hrun, hended, hW, hsame⟩ := X.leave (v := none) (fun _ => rfl) hlk
  exact ⟨_, _, X.returnOut hx hret hd hr, hrun, hended, _, _, rfl, hq, ⟨_, rfl⟩, hW, hsame.mono hc hs⟩
/-- a body's contract: handed as', over the heap h, it returns and Q holds -/
def Ok (l : Launch) (Z : State) (y : MethodName) (bytes : ByteArray) (maxL : Nat) (ret : Option FieldType) (rm : Room) (as' : Array Value) (h : Heap) (Q : Option Value → Heap → List Loc → Prop) : Prop :=
  ∀ ws : List Jvm.Cond, MetFree l y (head1 (Jvm.Cond.code y bytes maxL ret :: ws) rm) (fun a U => a = as' ∧ Z.Warmed39 U.vm ∧ U.heap = h) (fun _ _ _ _ _ => True) (fun _ U o U' => ∃ v L, o = .returned v ∧ Q v U'.heap L ∧ FrameEnd U o U' L rm.cells rm.slots)
theorem Ok.mk {y : MethodName} {bytes : ByteArray} {maxL : Nat} {ret : Option FieldType} {rm : Room} {as' : Array Value} (hn : plainFor y = true)
    (k : ∀ p e s m below meth c s₁, p.tables.exec = Jvm.exec → c.code = bytes → c.maxLocals = maxL → s.vm.findClass y.cls = some m.cls → meth.name = y.name → meth.sig.returnType = ret → meth.locks = false → Z.Warmed39 s.vm → s₁.heap = h → Stand p l e rm s m as' below meth c s₁ [] 0 0 → Go p e s below rm Q s₁ (entryFrame m as' maxL)) :
    Ok l Z y bytes maxL ret rm as' h Q := by
  intro ws
  refine MetFree.of_bodySF hn hisR ?_
  intro p e s m args below meth c s₁ Bd hml0 hP hK
  obtain ⟨rfl, hZ, hh⟩ := hP
  exact k p e s m below meth c s₁ Bd.exec Bd.bytes hml0 (findClass_of_methodNamed Bd.named) (name_of_methodNamed Bd.named Bd.method).1 Bd.returns Bd.notSynchronized hZ (by rw [← hh, Bd.state]; rfl) (Stand.of_body Bd)
theorem callSt (X : Stand p l e R s m args below meth c T locs cells slots) (hx : p.tables.exec = Jvm.exec) (hZ : Z.Warmed39 s.vm) {own : String} {index : Nat} {y : MethodName} {bytes : ByteArray} {maxL : Nat} {ret : Option FieldType} {rm : Room} {as' : Array Value}
    (hown : s.vm.findClass own = some m.cls) (w1 : (Jvm.Cond.methodLink own index y).before a0 Z = true) (w2 : (Jvm.Cond.static y).before a0 Z = true) (w3 : (Jvm.Cond.initialized y.cls).before a0 Z = true) (w4 : (Jvm.Cond.code y bytes maxL ret).before a0 Z = true)
    (hy : y.cls ≠ "java/lang/invoke/MethodHandle" ∧ y.cls ≠ "java/lang/invoke/VarHandle") (hM : Ok l Z y bytes maxL ret rm as' h Q) (eT : T.heap = h) {W : Nat} (hf : rm.frames + 1 ≤ R.frames) (hl : W + (maxL + 11) + rm.locals ≤ R.locals) (hc : cells + rm.cells ≤ R.cells) (hs : slots + rm.slots ≤ R.slots)
    {g : JFrame} (hg : g.method = m) (hsize : g.locals.size = c.maxLocals) {argsL rest : List Value} (hlen : ∀ sig, parseMethodDescriptor y.desc = some sig → argsL.length = sig.parameters.length) (has : argsL.toArray = as')
    (hstack : g.stack = argsL.reverse ++ rest) (hW : 2 * g.monitorRoom + (rest.map fun v => v.category).sum ≤ W) (hd : decode c.code g.pc = .ok (.invokestatic index, 3)) :
    ∃ T' v L, Stand p l e R s m args below meth c T' (locs ++ L) (cells + rm.cells) (slots + rm.slots) ∧ Q v T'.heap L ∧ ∀ t, Steps p.tables e below (T'.setTop { g with pc := g.pc + 3, stack := v.toList ++ rest }) t → Steps p.tables e below (T.setTop g) t := by
  subst has
  obtain ⟨v, _, ⟨T1, L1, k1, n1⟩, -, X1, ⟨Lc, hQ, l1, y1, z1⟩, st⟩ := Jvm.LawKit.callS X hx (y := y) hown (mvT hZ w1) (mvT hZ w2) (mvT hZ w3) (mvT hZ w4) hy (backOf (W := W) (hM []) hZ w4 w3 hf hl) hg hsize hlen hstack hW hd (fun _ _ => ⟨rfl, eT, hc, hs⟩)
  dsimp only [Pt.U, Pt.locs, Pt.cells, Pt.slots] at X1 l1 y1 z1 st hQ
  subst l1 y1 z1
  exact ⟨T1, v, Lc, X1, hQ, st⟩
theorem callNew (X : Stand p l e R s m args below meth c T locs cells slots) (hx : p.tables.exec = Jvm.exec) (hZ : Z.Warmed39 s.vm) {own : String} {index : Nat} {y : MethodName} {bytes : ByteArray} {maxL : Nat} {rm : Room} {as' : Array Value} (hy1 : y.name = "<init>")
    (hown : s.vm.findClass own = some m.cls) (w1 : (Jvm.Cond.methodLink own index y).before a0 Z = true) (w2 : (Jvm.Cond.instanceMethod y).before a0 Z = true) (w3 : (Jvm.Cond.initialized y.cls).before a0 Z = true) (w4 : (Jvm.Cond.code y bytes maxL none).before a0 Z = true)
    (hy : y.cls ≠ "java/lang/invoke/MethodHandle" ∧ y.cls ≠ "java/lang/invoke/VarHandle") (hM : Ok l Z y bytes maxL none rm as' h Q) (eT : T.heap = h) {W : Nat} (hf : rm.frames + 1 ≤ R.frames) (hl : W + (maxL + 11) + rm.locals ≤ R.locals) (hc : cells + rm.cells ≤ R.cells) (hs : slots + rm.slots ≤ R.slots)
    {g : JFrame} (hg : g.method = m) (hsize : g.locals.size = c.maxLocals) {a : Addr} {argsL rest : List Value} (hlen : ∀ sig, parseMethodDescriptor y.desc = some sig → argsL.length = sig.parameters.length) (has : (.ref a :: argsL).toArray = as')
    (hstack : g.stack = argsL.reverse ++ .ref a :: rest) (hW : 2 * g.monitorRoom + (rest.map fun v => v.category).sum ≤ W) (hd : decode c.code g.pc = .ok (.invokespecial index, 3)) :
    ∃ T' v L, Stand p l e R s m args below meth c T' (locs ++ L) (cells + rm.cells) (slots + rm.slots) ∧ Q v T'.heap L ∧ ∀ t, Steps p.tables e below (T'.setTop { g with pc := g.pc + 3, stack := v.toList ++ rest }) t → Steps p.tables e below (T.setTop g) t := by
  subst has
  obtain ⟨v, _, ⟨T1, L1, k1, n1⟩, -, X1, ⟨Lc, hQ, l1, y1, z1⟩, st⟩ := X.specialBack hx (y := y) hy1 hown (mvT hZ w1) (mvT hZ w2) (mvT hZ w4) hy (backOf (W := W) (hM []) hZ w4 w3 hf hl) hg hsize (Steps.refl _) (a := a) hlen hstack hW hd (fun _ _ => ⟨rfl, eT, hc, hs⟩)
  dsimp only [Pt.U, Pt.locs, Pt.cells, Pt.slots] at X1 l1 y1 z1 st hQ
  subst l1 y1 z1
  exact ⟨T1, v, Lc, X1, hQ, fun t k => st.trans k⟩
theorem callVi (X : Stand p l e R s m args below meth c T locs cells slots) (hx : p.tables.exec = Jvm.exec) (hZ : Z.Warmed39 s.vm) {own C : String} {index : Nat} {y z : MethodName} {bytes : ByteArray} {maxL : Nat} {ret : Option FieldType} {rm : Room} {as' : Array Value}
    (hown : s.vm.findClass own = some m.cls) (w1 : (Jvm.Cond.methodLink own index y).before a0 Z = true) (w2 : (Jvm.Cond.declares y).before a0 Z = true) (nf : NotFace s y) (w3 : (Jvm.Cond.selects C y z).before a0 Z = true) (w4 : (Jvm.Cond.instanceMethod z).before a0 Z = true) (w5 : (Jvm.Cond.code z bytes maxL ret).before a0 Z = true) (w6 : (Jvm.Cond.initialized z.cls).before a0 Z = true)
    (hy : y.cls ≠ "java/lang/invoke/MethodHandle" ∧ y.cls ≠ "java/lang/invoke/VarHandle") (hM : Ok l Z z bytes maxL ret rm as' h Q) (eT : T.heap = h) {W : Nat} (hf : rm.frames + 1 ≤ R.frames) (hl : W + (maxL + 11) + rm.locals ≤ R.locals) (hc : cells + rm.cells ≤ R.cells) (hs : slots + rm.slots ≤ R.slots)
    {a : Addr} (E : Exa Z h a C) {g : JFrame} (hg : g.method = m) (hsize : g.locals.size = c.maxLocals) {argsL rest : List Value} (hlen : ∀ sig, parseMethodDescriptor y.desc = some sig → argsL.length = sig.parameters.length) (has : (.ref a :: argsL).toArray = as')
    (hstack : g.stack = argsL.reverse ++ .ref a :: rest) (hW : 2 * g.monitorRoom + (rest.map fun v => v.category).sum ≤ W) (hd : decode c.code g.pc = .ok (.invokevirtual index, 3)) :
    ∃ T' v L, Stand p l e R s m args below meth c T' (locs ++ L) (cells + rm.cells) (slots + rm.slots) ∧ Q v T'.heap L ∧ ∀ t, Steps p.tables e below (T'.setTop { g with pc := g.pc + 3, stack := v.toList ++ rest }) t → Steps p.tables e below (T.setTop g) t := by
  subst has
  obtain ⟨cq, kq, qa, qb, qc⟩ := isOf hZ eT E
  obtain ⟨v, _, ⟨T1, L1, k1, n1⟩, -, X1, ⟨Lc, hQ, l1, y1, z1⟩, st⟩ := X.virtualBack hx (y := y) (z := z) hown (mvT hZ w1) (mvT hZ w2) nf (mvT hZ w3) (mvT hZ w4) hy (backOf (W := W) (hM []) hZ w5 w6 hf hl) qa qc hg hsize (Steps.refl _) hlen hstack hW hd (fun _ _ => ⟨rfl, eT, hc, hs⟩)
  dsimp only [Pt.U, Pt.locs, Pt.cells, Pt.slots] at X1 l1 y1 z1 st hQ
  subst l1 y1 z1
  exact ⟨T1, v, Lc, X1, hQ, fun t k => st.trans k⟩
/-- a new object at the address a: a fresh name for the heap's end -/
theorem newOb (X : Stand p l e R s m args below meth c T locs cells slots) (hx : p.tables.exec = Jvm.exec) (hZ : Z.Warmed39 s.vm) {own C : String} {index n : Nat} (hown : s.vm.findClass own = some m.cls) (w : (Jvm.Cond.classLink own index C).before a0 Z = true) (wi : (Jvm.Cond.instantiable C n).before a0 Z = true) (wz : (Jvm.Cond.initialized C).before a0 Z = true) (eT : T.heap = h)
    {g : JFrame} (hg : g.method = m) (hd : decode c.code g.pc = .ok (.new index, 3)) (hc : cells + 1 ≤ R.cells) (hl : slots + n ≤ R.slots) :
    ∃ T' h' a, a = h.size ∧ Stand p l e R s m args below meth c T' locs (cells + 1) (slots + n) ∧ T'.heap = h' ∧ Ext h h' ∧ Exa Z h' a C ∧ (∀ {O nm d : String} {ty : FieldType}, Laid Z a0 C O nm d → parseFieldDescriptor d = some ty → Fld Z h' a O nm d (defaultValue ty)) ∧
      ∀ t, Steps p.tables e below (T'.setTop { g with pc := g.pc + 3, stack := .ref a :: g.stack }) t → Steps p.tables e below (T.setTop g) t := by
  obtain ⟨T2, h2, X2, e2, E2, A2, D2, -, st2⟩ := newO X hx hZ hown w wi wz eT hg hd hc hl
  exact ⟨T2, h2, h.size, rfl, X2, e2, E2, A2, D2, st2⟩
theorem Old0.keep {ws : List Addr} (X : Ext Z.heap h) (K : Keep h h' ws) (q : ∀ x ∈ ws, Z.heap.size ≤ x) : Ext Z.heap h' := (Old.keep (n0 := Z.heap.size) ⟨rfl, X⟩ K q).2
theorem Old0.wr {a : Addr} {sl : Nat} {v : Value} (X : Ext Z.heap h) (W : Wr h h' a sl v) (q : Z.heap.size ≤ a) : Ext Z.heap h' := (Old.wr (n0 := Z.heap.size) ⟨rfl, X⟩ W q).2
theorem Old0.ext (X : Ext Z.heap h) (E : Ext h h') : Ext Z.heap h' := (Old.ext (n0 := Z.heap.size) ⟨rfl, X⟩ E).2
theorem ext_rfl : Ext h h := ⟨Nat.le_refl _, fun _ _ q => q⟩
theorem eqI_v {first : State} {o : Option Outcome} {idx : List Nat} {a : Term} {k : Int32} (q : (Jvm.Cond.eq a (.int k)).value args first o s idx = some true) : a.eval args first o idx s = some (.int k) := by
  cases ha : a.eval args first o idx s with
  | none => simp [Jvm.Cond.value, ha] at q
  | some x => cases x <;> simp [Jvm.Cond.value, ha, Term.eval] at q ⊢; exact q
theorem eqJ_v {first : State} {o : Option Outcome} {idx : List Nat} {a : Term} {k : Int64} (q : (Jvm.Cond.eq a (.long k)).value args first o s idx = some true) : a.eval args first o idx s = some (.long k) := by
  cases ha : a.eval args first o idx s with
  | none => simp [Jvm.Cond.value, ha] at q
  | some x => cases x <;> simp [Jvm.Cond.value, ha, Term.eval] at q ⊢; exact q
theorem neI_v {first : State} {o : Option Outcome} {idx : List Nat} {a : Term} {x k : Int32} (ha : a.eval args first o idx s = some (.int x)) (q : (Jvm.Cond.not (.eq a (.int k))).value args first o s idx = some true) : ¬ x = k := by
  have q' := not_v q
  intro e
  subst e
  simp [Jvm.Cond.value, ha, Term.eval] at q'
theorem neR_v {first : State} {o : Option Outcome} {idx : List Nat} {a b : Term} {x y : Addr} (ha : a.eval args first o idx s = some (.ref x)) (hb : b.eval args first o idx s = some (.ref y)) (q : (Jvm.Cond.not (.eq a b)).value args first o s idx = some true) : ¬ x = y := by
  have q' := not_v q
  intro e
  subst e
  simp [Jvm.Cond.value, ha, hb] at q'
theorem eqR_v {first : State} {o : Option Outcome} {idx : List Nat} {a b : Term} {x : Addr} (hb : b.eval args first o idx s = some (.ref x)) (q : (Jvm.Cond.eq a b).value args first o s idx = some true) : a.eval args first o idx s = some (.ref x) := by
  cases ha : a.eval args first o idx s with
  | none => simp [Jvm.Cond.value, ha] at q
  | some x => cases x <;> simp [Jvm.Cond.value, ha, hb] at q ⊢; exact q
theorem callPr (X : Stand p l e R s m args below meth c T locs cells slots) (hx : p.tables.exec = Jvm.exec) (hZ : Z.Warmed39 s.vm) {own : String} {index : Nat} {y : MethodName} {bytes : ByteArray} {maxL : Nat} {ret : Option FieldType} {rm : Room} {as' : Array Value}
    (hown : s.vm.findClass own = some m.cls) (w1 : (Jvm.Cond.methodLink own index y).before a0 Z = true) (w2 : (Jvm.Cond.instanceMethod y).before a0 Z = true) (w3 : (Jvm.Cond.selects y.cls y y).before a0 Z = true) (w4 : (Jvm.Cond.privateMethod y).before a0 Z = true) (w5 : (Jvm.Cond.initialized y.cls).before a0 Z = true) (w6 : (Jvm.Cond.code y bytes maxL ret).before a0 Z = true)
    (hy : y.cls ≠ "java/lang/invoke/MethodHandle" ∧ y.cls ≠ "java/lang/invoke/VarHandle") (hM : Ok l Z y bytes maxL ret rm as' h Q) (eT : T.heap = h) {W : Nat} (hf : rm.frames + 1 ≤ R.frames) (hl : W + (maxL + 11) + rm.locals ≤ R.locals) (hc : cells + rm.cells ≤ R.cells) (hs : slots + rm.slots ≤ R.slots)
    {C : String} {a : Addr} (E : Exa Z h a C) {g : JFrame} (hg : g.method = m) (hsize : g.locals.size = c.maxLocals) {argsL rest : List Value} (hlen : ∀ sig, parseMethodDescriptor y.desc = some sig → argsL.length = sig.parameters.length) (has : (.ref a :: argsL).toArray = as')
    (hstack : g.stack = argsL.reverse ++ .ref a :: rest) (hW : 2 * g.monitorRoom + (rest.map fun v => v.category).sum ≤ W) (hd : decode c.code g.pc = .ok (.invokevirtual index, 3)) :
    ∃ T' v L, Stand p l e R s m args below meth c T' (locs ++ L) (cells + rm.cells) (slots + rm.slots) ∧ Q v T'.heap L ∧ ∀ t, Steps p.tables e below (T'.setTop { g with pc := g.pc + 3, stack := v.toList ++ rest }) t → Steps p.tables e below (T.setTop g) t := by
  subst has
  obtain ⟨cq, q1, q2⟩ := E.cell
  obtain ⟨v, _, ⟨T1, L1, k1, n1⟩, -, X1, ⟨Lc, hQ, l1, y1, z1⟩, st⟩ := X.privateBack hx (y := y) hown (mvT hZ w1) (mvT hZ w2) (mvT hZ w3) (Cond.privateMethod_at (mvP hZ w4 (args := #[]))) (mvT hZ w6) hy (backOf (W := W) (hM []) hZ w6 w5 hf hl) hg hsize (Steps.refl _) (a := a) (by rw [eT]; exact q1) q2 hlen hstack hW hd (fun _ _ => ⟨rfl, eT, hc, hs⟩)
  dsimp only [Pt.U, Pt.locs, Pt.cells, Pt.slots] at X1 l1 y1 z1 st hQ
  subst l1 y1 z1
  exact ⟨T1, v, Lc, X1, hQ, fun t k => st.trans k⟩
theorem callIf (X : Stand p l e R s m args below meth c T locs cells slots) (hx : p.tables.exec = Jvm.exec) (hZ : Z.Warmed39 s.vm) {own C : String} {index count : Nat} {xi y : MethodName} {bytes : ByteArray} {maxL : Nat} {ret : Option FieldType} {rm : Room} {as' : Array Value}
    (hown : s.vm.findClass own = some m.cls) (w1 : (Jvm.Cond.methodLink own index xi).before a0 Z = true) (w2 : (Jvm.Cond.declares xi).before a0 Z = true) (w3 : (Jvm.Cond.interfaceMethod xi.cls xi.cls xi.name xi.desc).before args s = true) (w4 : (Jvm.Cond.selects C xi y).before a0 Z = true) (w5 : (Jvm.Cond.instanceMethod y).before a0 Z = true) (w6 : (Jvm.Cond.publicMethod y).before a0 Z = true) (w7 : (Jvm.Cond.unhidden C xi.name xi.desc).before a0 Z = true) (w8 : (Jvm.Cond.castable C xi.cls).before a0 Z = true) (w9 : (Jvm.Cond.code y bytes maxL ret).before a0 Z = true) (w10 : (Jvm.Cond.initialized y.cls).before a0 Z = true)
    (hy : xi.cls ≠ "java/lang/invoke/MethodHandle" ∧ xi.cls ≠ "java/lang/invoke/VarHandle") (hM : Ok l Z y bytes maxL ret rm as' h Q) (eT : T.heap = h) {W : Nat} (hf : rm.frames + 1 ≤ R.frames) (hl : W + (maxL + 11) + rm.locals ≤ R.locals) (hc : cells + rm.cells ≤ R.cells) (hs : slots + rm.slots ≤ R.slots)
    {a : Addr} (E : Exa Z h a C) {g : JFrame} (hg : g.method = m) (hsize : g.locals.size = c.maxLocals) {argsL rest : List Value} (hlen : ∀ sig, parseMethodDescriptor xi.desc = some sig → argsL.length = sig.parameters.length) (has : (.ref a :: argsL).toArray = as')
    (hstack : g.stack = argsL.reverse ++ .ref a :: rest) (hW : 2 * g.monitorRoom + (rest.map fun v => v.category).sum ≤ W) (hd : decode c.code g.pc = .ok (.invokeinterface index count, 5)) :
    ∃ T' v L, Stand p l e R s m args below meth c T' (locs ++ L) (cells + rm.cells) (slots + rm.slots) ∧ Q v T'.heap L ∧ ∀ t, Steps p.tables e below (T'.setTop { g with pc := g.pc + 5, stack := v.toList ++ rest }) t → Steps p.tables e below (T.setTop g) t := by
  subst has
  obtain ⟨cq, kq, qa, qb, qc⟩ := isOf hZ eT E
  obtain ⟨v, _, ⟨T1, L1, k1, n1⟩, -, X1, ⟨Lc, hQ, l1, y1, z1⟩, st⟩ := X.interfaceBack hx (xi := xi) (y := y) hown (mvT hZ w1) (mvT hZ w2) w3 (mvT hZ w4) (mvT hZ w5) (mvT hZ w6) (mvT hZ w7) (mvT hZ w8) hy (backOf (W := W) (hM []) hZ w9 w10 hf hl) qa qb qc hg hsize (Steps.refl _) hlen hstack hW hd (fun _ _ => ⟨rfl, eT, hc, hs⟩)
  dsimp only [Pt.U, Pt.locs, Pt.cells, Pt.slots] at X1 l1 y1 z1 st hQ
  subst l1 y1 z1
  exact ⟨T1, v, Lc, X1, hQ, fun t k => st.trans k⟩
theorem newAr (X : Stand p l e R s m args below meth c T locs cells slots) (hx : p.tables.exec = Jvm.exec) (hZ : Z.Warmed39 s.vm) {aty : ArrayType} (w : (Jvm.Cond.arrayClass (newarray.typeOf aty)).before a0 Z = true) (eT : T.heap = h) {g : JFrame} (hg : g.method = m) (hd : decode c.code g.pc = .ok (.newarray aty, 2)) {n : Int32} {rest : List Value} (hs : g.stack = .int n :: rest)
    (hn : ¬ n < 0) {cap : Nat} (hcap : n.toNatClampNeg ≤ cap) (hb : cap * 8 ≤ 536870912) (hc : cells + 1 ≤ R.cells) (hl : slots + cap ≤ R.slots) {ad : String} (had : "[" ++ (newarray.typeOf aty).toString = ad) :
    ∃ T' h' k a, a = h.size ∧ Stand p l e R s m args below meth c T' locs (cells + 1) (slots + cap) ∧ T'.heap = h' ∧ Ext h h' ∧ Arv Z h' a k (newarray.typeOf aty) n [] (defaultValue (newarray.typeOf aty)) ∧ Exa Z h' a ad ∧
      ∀ t, Steps p.tables e below (T'.setTop { g with pc := g.pc + 2, stack := .ref a :: rest }) t → Steps p.tables e below (T.setTop g) t := by
  obtain ⟨T2, h2, k, X2, e2, E2, A2, B2, st2⟩ := newPE X hx hZ w eT hg hd hs hn hcap hb hc hl had
  exact ⟨T2, h2, k, h.size, rfl, X2, e2, E2, Arv.new A2 hn, B2, st2⟩
theorem newRr (X : Stand p l e R s m args below meth c T locs cells slots) (hx : p.tables.exec = Jvm.exec) (hZ : Z.Warmed39 s.vm) {own C : String} {index : Nat} (hown : s.vm.findClass own = some m.cls) (w1 : (Jvm.Cond.classLink own index C).before a0 Z = true) (w2 : (Jvm.Cond.arrayOver (.object C)).before a0 Z = true)
    (eT : T.heap = h) {g : JFrame} (hg : g.method = m) (hd : decode c.code g.pc = .ok (.anewarray index, 3)) {n : Int32} {rest : List Value} (hs : g.stack = .int n :: rest) (hn : ¬ n < 0) {cap : Nat} (hcap : n.toNatClampNeg ≤ cap) (hb : cap * 8 ≤ 536870912) (hc : cells + 1 ≤ R.cells) (hl : slots + cap ≤ R.slots) {ad : String} (had : "[" ++ (FieldType.object C).toString = ad) :
    ∃ T' h' k a, a = h.size ∧ Stand p l e R s m args below meth c T' locs (cells + 1) (slots + cap) ∧ T'.heap = h' ∧ Ext h h' ∧ Arv Z h' a k (.object C) n [] .null ∧ Exa Z h' a ad ∧ Ovr Z k C ∧
      ∀ t, Steps p.tables e below (T'.setTop { g with pc := g.pc + 3, stack := .ref a :: rest }) t → Steps p.tables e below (T.setTop g) t := by
  obtain ⟨T2, h2, k, X2, e2, E2, A2, B2, O2, st2⟩ := newRE X hx hZ hown w1 w2 eT hg hd hs hn hcap hb hc hl had
  exact ⟨T2, h2, k, h.size, rfl, X2, e2, E2, Arv.new A2 hn, B2, O2, st2⟩
theorem own_len {t : Term} {a : Addr} {cl : Cell} {ty : FieldType} {k : Int32} (ev : t.eval args s none [] s = some (.ref a)) (A : Arr s s.heap a cl ty) (q : (Term.length t).eval args s none [] s = some (.int k)) : cl.slots.size < 2 ^ 31 ∧ cl.slots.size.toInt32 = k := by
  have ha := Arr.fin (U := s) (Vm.Alike.refl _) A
  simp only [Term.eval, ev] at q
  simp at q
  rw [ha] at q
  simp only [Option.bind_some] at q
  split at q
  · rename_i hlt
    simp only [Option.some.injEq, Value.int.injEq] at q
    exact ⟨hlt, q⟩
  · cases q
theorem own_el {t : Term} {a : Addr} {cl : Cell} {ty : FieldType} {j : Int32} {v : Value} (ev : t.eval args s none [] s = some (.ref a)) (A : Arr s s.heap a cl ty) (q : (Term.elem t (.int j)).eval args s none [] s = some v) : cl.slots[j.toNatClampNeg]? = some v :=
  (elem_in q ev rfl A.1).2
theorem cloneV (X : Stand p l e R s m args below meth c T locs cells slots) (hx : p.tables.exec = Jvm.exec) (hZ : Z.Warmed39 s.vm) {own ad : String} {index : Nat} (hown : s.vm.findClass own = some m.cls)
    (w1 : (Jvm.Cond.methodLink own index ⟨ad, "clone", "()Ljava/lang/Object;"⟩).before a0 Z = true) (w2 : (Jvm.Cond.sameMethod ad "java/lang/Object" "clone" "()Ljava/lang/Object;").before a0 Z = true) (w3 : (Jvm.Cond.native ⟨"java/lang/Object", "clone", "()Ljava/lang/Object;"⟩).before a0 Z = true)
    (w4 : (Jvm.Cond.instanceMethod ⟨"java/lang/Object", "clone", "()Ljava/lang/Object;"⟩).before a0 Z = true) (w5 : (Jvm.Cond.selects ad ⟨ad, "clone", "()Ljava/lang/Object;"⟩ ⟨"java/lang/Object", "clone", "()Ljava/lang/Object;"⟩).before a0 Z = true) (w6 : (Jvm.Cond.castable ad "java/lang/Cloneable").before a0 Z = true)
    (eT : T.heap = h) {b : Addr} {k : ClassId} {ty : FieldType} {z : Int32} {vs : List Value} {dv : Value} (F : Arv Z h b k ty z vs dv) (E : Exa Z h b ad) {g : JFrame} (hg : g.method = m) (hsize : g.locals.size = c.maxLocals) {rest : List Value} (hst : g.stack = .ref b :: rest) (hd : decode c.code g.pc = .ok (.invokevirtual index, 3))
    (hf : 1 ≤ R.frames) {W cap : Nat} (hW : 2 * g.monitorRoom + (rest.map fun v => v.category).sum ≤ W) (hl : W + 14 ≤ R.locals) (hcap : z.toNatClampNeg ≤ cap) (hc : cells + 1 ≤ R.cells) (hsl : slots + cap ≤ R.slots) :
    ∃ T' h' a, a = h.size ∧ Stand p l e R s m args below meth c T' locs (cells + 1) (slots + cap) ∧ T'.heap = h' ∧ Ext h h' ∧ Arv Z h' a k ty z vs dv ∧ Exa Z h' a ad ∧
      ∀ t, Steps p.tables e below (T'.setTop { g with pc := g.pc + 3, stack := .ref a :: rest }) t → Steps p.tables e below (T.setTop g) t := by
  obtain ⟨T2, h2, X2, e2, E2, A2, B2, st2⟩ := cloneH X hx hZ hown w1 w2 w3 w4 w5 w6 eT F.arh E hg hsize hst hd hf hW hl hcap hc hsl
  exact ⟨T2, h2, h.size, rfl, X2, e2, E2, A2, B2, st2⟩
end OwnKit
/-! ## own kit, string constants: the tables may have been warmed by an interned text -/
section OwnKitS
variable {p : Program} {l : Launch} {e : Env} {R : Room} {s : State} {m : MethodId} {args : Array Value} {below : List Frame} {meth : Method} {c : Code} {T T' : State} {locs : List Loc} {cells slots : Nat} {Q : Option Value → Heap → List Loc → Prop} {f f' : JFrame} {Z : State} {a0 : Array Value} {h h' : Heap} {EL : List (String × Nat)} {vm0 : Vm} {k0 : Nat}
def GoS (p : Program) (e : Env) (s : State) (below : List Frame) (R : Room) (Z : State) (EL : List (String × Nat)) (Q : Option Value → Heap → List Loc → Prop) (T : State) (f : JFrame) : Prop :=
  ∃ s₂ o, Steps p.tables e below (T.setTop f) s₂ ∧ s₂.status = .running ∧ Ended s₂ below o ∧ ∃ v L, o = .returned v ∧ Q v s₂.heap L ∧ CHr Z EL s.vm s.heap s₂.vm s₂.heap ∧ ReturnedEndW s o s₂ L R.cells R.slots
theorem GoS.of (k : ∀ t, Steps p.tables e below (T'.setTop f') t → Steps p.tables e below (T.setTop f) t) (G : GoS p e s below R Z EL Q T' f') : GoS p e s below R Z EL Q T f := by
  obtain ⟨s2, o, h1, h2⟩ := G
  exact ⟨s2, o, k _ h1, h2⟩
theorem GoS.cast (q : f = f') (G : GoS p e s below R Z EL Q T f') : GoS p e s below R Z EL Q T f := q ▸ G
theorem GoS.fin (X : Stand p l e R (s.setVm vm0) m args below meth c T locs cells slots) (hlk : meth.locks = false) (hS : s.Since vm0 k0) (hk : k0 ≤ h.size) (hZ : Z.Warmed39 vm0) (hEL : EW Z a0 EL) (C : CHr Z EL s.vm s.heap vm0 h) (eT : T.heap = h) {v : Option Value} (hv : meth.sig.returnType = none → v = none) (hc : cells ≤ R.cells) (hs : slots ≤ R.slots) (hq : Q v T.heap locs)
    (step : ∀ fs, (∀ (f : JFrame) (acts : List Action), f.method = m → f.locked = none → f.entered = [] → (doReturn e (T.setTop f) acts v).1 = T.setFrames fs) → Steps p.tables e below (T.setTop f) (T.setFrames fs)) : GoS p e s below R Z EL Q T f := by
  subst eT
  obtain ⟨fs, hr, hrun, hended, hW⟩ := X.leaveW hS hk hv hlk
  have A := CHv.at X hZ hEL C.1
  exact ⟨_, _, step fs hr, hrun, hended, v, locs, rfl, hq, C.trans A, hW.1, hW.2.1, hW.2.2.1, hW.2.2.2.mono hc hs⟩
theorem GoS.retO (X : Stand p l e R (s.setVm vm0) m args below meth c T locs cells slots) (hx : p.tables.exec = Jvm.exec) (hlk : meth.locks = false) (hS : s.Since vm0 k0) (hk : k0 ≤ h.size) (hZ : Z.Warmed39 vm0) (hEL : EW Z a0 EL) (C : CHr Z EL s.vm s.heap vm0 h) (eT : T.heap = h) {pc : Nat} {Ls : Array Slot} {w : Value} {t : FieldType} {i : Instr} {rest : List Value} (hret : meth.sig.returnType = some t) (hn : narrow t w = w)
    (hi : (i = .ireturn ∧ (t = .int ∨ t = .boolean ∨ t = .byte ∨ t = .char ∨ t = .short) ∧ ∃ z, w = .int z) ∨ (i = .lreturn ∧ t = .long ∧ ∃ z, w = .long z) ∨ (i = .dreturn ∧ t = .double ∧ ∃ z, w = .double z) ∨ (i = .freturn ∧ t = .float ∧ ∃ z, w = .float z) ∨ (i = .areturn ∧ t.isReference = true ∧ w.isRef = true))
    (hd : decode c.code pc = .ok (i, 1)) (hc : cells ≤ R.cells) (hs : slots ≤ R.slots) (hq : Q (some w) T.heap locs) : GoS p e s below R Z EL Q T (mkF m pc Ls (w :: rest)) :=
  GoS.fin X hlk hS hk hZ hEL C eT (fun h => by rw [hret] at h; cases h) hc hs hq (fun fs hr => retOut X hx hret hn hi hd hr)
theorem GoS.retI (X : Stand p l e R (s.setVm vm0) m args below meth c T locs cells slots) (hx : p.tables.exec = Jvm.exec) (hlk : meth.locks = false) (hS : s.Since vm0 k0) (hk : k0 ≤ h.size) (hZ : Z.Warmed39 vm0) (hEL : EW Z a0 EL) (C : CHr Z EL s.vm s.heap vm0 h) (eT : T.heap = h) (hret : meth.sig.returnType = some .int) {pc : Nat} {Ls : Array Slot} {z : Int32} {rest : List Value}
    (hd : decode c.code pc = .ok (.ireturn, 1)) (hc : cells ≤ R.cells) (hs : slots ≤ R.slots) (hq : Q (some (.int z)) T.heap locs) : GoS p e s below R Z EL Q T (mkF m pc Ls (.int z :: rest)) :=
  GoS.retO X hx hlk hS hk hZ hEL C eT hret rfl (Or.inl ⟨rfl, Or.inl rfl, _, rfl⟩) hd hc hs hq
theorem GoS.retA (X : Stand p l e R (s.setVm vm0) m args below meth c T locs cells slots) (hx : p.tables.exec = Jvm.exec) (hlk : meth.locks = false) (hS : s.Since vm0 k0) (hk : k0 ≤ h.size) (hZ : Z.Warmed39 vm0) (hEL : EW Z a0 EL) (C : CHr Z EL s.vm s.heap vm0 h) (eT : T.heap = h) {t : FieldType} (hret : meth.sig.returnType = some t) (ht : t.isReference = true) {pc : Nat} {Ls : Array Slot} {w : Value} {rest : List Value}
    (hw : w.isRef = true) (hd : decode c.code pc = .ok (.areturn, 1)) (hc : cells ≤ R.cells) (hs : slots ≤ R.slots) (hq : Q (some w) T.heap locs) : GoS p e s below R Z EL Q T (mkF m pc Ls (w :: rest)) :=
  GoS.retO X hx hlk hS hk hZ hEL C eT hret (by cases t <;> first | (cases ht; done) | rfl) (Or.inr (Or.inr (Or.inr (Or.inr ⟨rfl, ht, hw⟩)))) hd hc hs hq
theorem GoS.retB (X : Stand p l e R (s.setVm vm0) m args below meth c T locs cells slots) (hx : p.tables.exec = Jvm.exec) (hlk : meth.locks = false) (hS : s.Since vm0 k0) (hk : k0 ≤ h.size) (hZ : Z.Warmed39 vm0) (hEL : EW Z a0 EL) (C : CHr Z EL s.vm s.heap vm0 h) (eT : T.heap = h) {t : FieldType} (hret : meth.sig.returnType = some t) (ht : t = .boolean ∨ t = .byte ∨ t = .char ∨ t = .short) {pc : Nat} {Ls : Array Slot} {z : Int32} {rest : List Value}
    (hd : decode c.code pc = .ok (.ireturn, 1)) (hc : cells ≤ R.cells) (hs : slots ≤ R.slots) {z' : Int32} (hz : nar t z = z') (hq : Q (some (.int z')) T.heap locs) : GoS p e s below R Z EL Q T (mkF m pc Ls (.int z :: rest)) := by
  subst hz
  exact GoS.fin X hlk hS hk hZ hEL C eT (fun h => by rw [hret] at h; cases h) hc hs hq (fun fs hr => retN X hx hret ht hd hr)
theorem GoS.retV (X : Stand p l e R (s.setVm vm0) m args below meth c T locs cells slots) (hx : p.tables.exec = Jvm.exec) (hlk : meth.locks = false) (hS : s.Since vm0 k0) (hk : k0 ≤ h.size) (hZ : Z.Warmed39 vm0) (hEL : EW Z a0 EL) (C : CHr Z EL s.vm s.heap vm0 h) (eT : T.heap = h) (hret : meth.sig.returnType = none) {pc : Nat} {Ls : Array Slot}
    (hd : decode c.code pc = .ok (.return_, 1)) (hc : cells ≤ R.cells) (hs : slots ≤ R.slots) (hq : Q none T.heap locs) : GoS p e s below R Z EL Q T (mkF m pc Ls []) :=
  GoS.fin X hlk hS hk hZ hEL C eT (fun _ => rfl) hc hs hq (fun fs hr => X.returnOut hx hret hd hr)
def OkS (l : Launch) (Z : State) (EL : List (String × Nat)) (y : MethodName) (bytes : ByteArray) (maxL : Nat) (ret : Option FieldType) (rm : Room) (as' : Array Value) (h : Heap) (Q : Option Value → Heap → List Loc → Prop) : Prop :=
  ∀ ws : List Jvm.Cond, MetFree l y (head1 (Jvm.Cond.code y bytes maxL ret :: ws) rm) (fun a U => a = as' ∧ Z.Warmed39 U.vm ∧ U.heap = h ∧ CHv Z EL U.vm h) (fun _ _ _ _ _ => True) (fun _ U o U' => ∃ v L, o = .returned v ∧ Q v U'.heap L ∧ CHr Z EL U.vm U.heap U'.vm U'.heap ∧ ReturnedEndW U o U' L rm.cells rm.slots)
theorem OkS.mk {y : MethodName} {bytes : ByteArray} {maxL : Nat} {ret : Option FieldType} {rm : Room} {as' : Array Value} (hn : plainFor y = true)
    (k : ∀ p e s m below meth c s₁, p.tables.exec = Jvm.exec → c.code = bytes → c.maxLocals = maxL → s.vm.findClass y.cls = some m.cls → meth.name = y.name → meth.sig.returnType = ret → meth.locks = false → Z.Warmed39 s.vm → s₁.heap = h → CHr Z EL s.vm s.heap s.vm h → s.Since s.vm 0 → Stand p l e rm (s.setVm s.vm) m as' below meth c s₁ [] 0 0 → GoS p e s below rm Z EL Q s₁ (entryFrame m as' maxL)) :
    OkS l Z EL y bytes maxL ret rm as' h Q := by
  intro ws
  refine MetFree.of_bodySF hn hisR ?_
  intro p e s m args below meth c s₁ Bd hml0 hP hK
  obtain ⟨rfl, hZ, hh, hC⟩ := hP
  exact k p e s m below meth c s₁ Bd.exec Bd.bytes hml0 (findClass_of_methodNamed Bd.named) (name_of_methodNamed Bd.named Bd.method).1 Bd.returns Bd.notSynchronized hZ (by rw [← hh, Bd.state]; rfl) (by rw [hh]; exact CHr.refl hC) ((State.WarmedH.refl s).since 0) (Stand.of_body Bd)
theorem callStS (X : Stand p l e R (s.setVm vm0) m args below meth c T locs cells slots) (hx : p.tables.exec = Jvm.exec) (hZ : Z.Warmed39 vm0) {own : String} {index : Nat} {y : MethodName} {bytes : ByteArray} {maxL : Nat} {ret : Option FieldType} {rm : Room} {as' : Array Value}
    (hS : s.Since vm0 k0) (hk : k0 ≤ h.size) (hEL : EW Z a0 EL) (H : CHv Z EL vm0 h)
    (hown : vm0.findClass own = some m.cls) (w1 : (Jvm.Cond.methodLink own index y).before a0 Z = true) (w2 : (Jvm.Cond.static y).before a0 Z = true) (w3 : (Jvm.Cond.initialized y.cls).before a0 Z = true) (w4 : (Jvm.Cond.code y bytes maxL ret).before a0 Z = true)
    (hy : y.cls ≠ "java/lang/invoke/MethodHandle" ∧ y.cls ≠ "java/lang/invoke/VarHandle") (hM : OkS l Z EL y bytes maxL ret rm as' h Q) (eT : T.heap = h) {W : Nat} (hf : rm.frames + 1 ≤ R.frames) (hl : W + (maxL + 11) + rm.locals ≤ R.locals) (hc : cells + rm.cells ≤ R.cells) (hs : slots + rm.slots ≤ R.slots)
    {g : JFrame} (hg : g.method = m) (hsize : g.locals.size = c.maxLocals) {argsL rest : List Value} (hlen : ∀ sig, parseMethodDescriptor y.desc = some sig → argsL.length = sig.parameters.length) (has : argsL.toArray = as')
    (hstack : g.stack = argsL.reverse ++ rest) (hW : 2 * g.monitorRoom + (rest.map fun v => v.category).sum ≤ W) (hd : decode c.code g.pc = .ok (.invokestatic index, 3)) :
    ∃ T' v L, Stand p l e R (s.setVm T'.vm) m args below meth c T' (locs ++ L) (cells + rm.cells) (slots + rm.slots) ∧ Q v T'.heap L ∧ s.Since T'.vm T'.heap.size ∧ h.size ≤ T'.heap.size ∧ Z.Warmed39 T'.vm ∧ T'.vm.findClass own = some m.cls ∧ CHr Z EL vm0 h T'.vm T'.heap ∧ ∀ t, Steps p.tables e below (T'.setTop { g with pc := g.pc + 3, stack := v.toList ++ rest }) t → Steps p.tables e below (T.setTop g) t := by
  subst has
  subst eT
  obtain ⟨v, _, ⟨T1, L1, k1, n1⟩, -, X1, S1, g1, ⟨Lc, hQ, l1, y1, z1, c1⟩, st⟩ := callSS X hx (y := y) hown (mvT (s := s.setVm vm0) hZ w1) (mvT (s := s.setVm vm0) hZ w2) (mvT (s := s.setVm vm0) hZ w3) (mvT (s := s.setVm vm0) hZ w4) hy (backOfSH (W := W) (hM []) hZ w4 w3 hf hl hEL H) hg hsize hlen hstack hW hd (fun _ _ => ⟨rfl, rfl, hc, hs⟩)
  dsimp only [Pt.U, Pt.locs, Pt.cells, Pt.slots] at X1 l1 y1 z1 st hQ S1 g1 c1
  subst l1 y1 z1
  exact ⟨T1, v, Lc, X1, hQ, foldS hS hk S1 g1, g1, State.Warmed39.trans (t := s.setVm vm0) hZ S1.1, by rw [S1.1.alike.findClass]; exact hown, c1, fun t k => st.trans k⟩
theorem callNewS (X : Stand p l e R (s.setVm vm0) m args below meth c T locs cells slots) (hx : p.tables.exec = Jvm.exec) (hZ : Z.Warmed39 vm0) {own : String} {index : Nat} {y : MethodName} {bytes : ByteArray} {maxL : Nat} {rm : Room} {as' : Array Value} (hy1 : y.name = "<init>")
    (hS : s.Since vm0 k0) (hk : k0 ≤ h.size) (hEL : EW Z a0 EL) (H : CHv Z EL vm0 h)
    (hown : vm0.findClass own = some m.cls) (w1 : (Jvm.Cond.methodLink own index y).before a0 Z = true) (w2 : (Jvm.Cond.instanceMethod y).before a0 Z = true) (w3 : (Jvm.Cond.initialized y.cls).before a0 Z = true) (w4 : (Jvm.Cond.code y bytes maxL none).before a0 Z = true)
    (hy : y.cls ≠ "java/lang/invoke/MethodHandle" ∧ y.cls ≠ "java/lang/invoke/VarHandle") (hM : OkS l Z EL y bytes maxL none rm as' h Q) (eT : T.heap = h) {W : Nat} (hf : rm.frames + 1 ≤ R.frames) (hl : W + (maxL + 11) + rm.locals ≤ R.locals) (hc : cells + rm.cells ≤ R.cells) (hs : slots + rm.slots ≤ R.slots)
    {g : JFrame} (hg : g.method = m) (hsize : g.locals.size = c.maxLocals) {a : Addr} {argsL rest : List Value} (hlen : ∀ sig, parseMethodDescriptor y.desc = some sig → argsL.length = sig.parameters.length) (has : (.ref a :: argsL).toArray = as')
    (hstack : g.stack = argsL.reverse ++ .ref a :: rest) (hW : 2 * g.monitorRoom + (rest.map fun v => v.category).sum ≤ W) (hd : decode c.code g.pc = .ok (.invokespecial index, 3)) :
    ∃ T' v L, Stand p l e R (s.setVm T'.vm) m args below meth c T' (locs ++ L) (cells + rm.cells) (slots + rm.slots) ∧ Q v T'.heap L ∧ s.Since T'.vm T'.heap.size ∧ h.size ≤ T'.heap.size ∧ Z.Warmed39 T'.vm ∧ T'.vm.findClass own = some m.cls ∧ CHr Z EL vm0 h T'.vm T'.heap ∧ ∀ t, Steps p.tables e below (T'.setTop { g with pc := g.pc + 3, stack := v.toList ++ rest }) t → Steps p.tables e below (T.setTop g) t := by
  subst has
  subst eT
  obtain ⟨v, _, ⟨T1, L1, k1, n1⟩, -, X1, S1, g1, ⟨Lc, hQ, l1, y1, z1, c1⟩, st⟩ := X.specialBackS hx (y := y) hy1 hown (mvT (s := s.setVm vm0) hZ w1) (mvT (s := s.setVm vm0) hZ w2) (mvT (s := s.setVm vm0) hZ w4) hy (backOfSH (W := W) (hM []) hZ w4 w3 hf hl hEL H) hg hsize (Steps.refl _) (a := a) hlen hstack hW hd (fun _ _ => ⟨rfl, rfl, hc, hs⟩)
  dsimp only [Pt.U, Pt.locs, Pt.cells, Pt.slots] at X1 l1 y1 z1 st hQ S1 g1 c1
  subst l1 y1 z1
  exact ⟨T1, v, Lc, X1, hQ, foldS hS hk S1 g1, g1, State.Warmed39.trans (t := s.setVm vm0) hZ S1.1, by rw [S1.1.alike.findClass]; exact hown, c1, fun t k => st.trans k⟩
theorem callViS (X : Stand p l e R (s.setVm vm0) m args below meth c T locs cells slots) (hx : p.tables.exec = Jvm.exec) (hZ : Z.Warmed39 vm0) {own C : String} {index : Nat} {y z : MethodName} {bytes : ByteArray} {maxL : Nat} {ret : Option FieldType} {rm : Room} {as' : Array Value}
    (hS : s.Since vm0 k0) (hk : k0 ≤ h.size) (hEL : EW Z a0 EL) (H : CHv Z EL vm0 h)
    (hown : vm0.findClass own = some m.cls) (w1 : (Jvm.Cond.methodLink own index y).before a0 Z = true) (w2 : (Jvm.Cond.declares y).before a0 Z = true) (nf : NotFace (s.setVm vm0) y) (w3 : (Jvm.Cond.selects C y z).before a0 Z = true) (w4 : (Jvm.Cond.instanceMethod z).before a0 Z = true) (w5 : (Jvm.Cond.code z bytes maxL ret).before a0 Z = true) (w6 : (Jvm.Cond.initialized z.cls).before a0 Z = true)
    (hy : y.cls ≠ "java/lang/invoke/MethodHandle" ∧ y.cls ≠ "java/lang/invoke/VarHandle") (hM : OkS l Z EL z bytes maxL ret rm as' h Q) (eT : T.heap = h) {W : Nat} (hf : rm.frames + 1 ≤ R.frames) (hl : W + (maxL + 11) + rm.locals ≤ R.locals) (hc : cells + rm.cells ≤ R.cells) (hs : slots + rm.slots ≤ R.slots)
    {a : Addr} (E : Exa Z h a C) {g : JFrame} (hg : g.method = m) (hsize : g.locals.size = c.maxLocals) {argsL rest : List Value} (hlen : ∀ sig, parseMethodDescriptor y.desc = some sig → argsL.length = sig.parameters.length) (has : (.ref a :: argsL).toArray = as')
    (hstack : g.stack = argsL.reverse ++ .ref a :: rest) (hW : 2 * g.monitorRoom + (rest.map fun v => v.category).sum ≤ W) (hd : decode c.code g.pc = .ok (.invokevirtual index, 3)) :
    ∃ T' v L, Stand p l e R (s.setVm T'.vm) m args below meth c T' (locs ++ L) (cells + rm.cells) (slots + rm.slots) ∧ Q v T'.heap L ∧ s.Since T'.vm T'.heap.size ∧ h.size ≤ T'.heap.size ∧ Z.Warmed39 T'.vm ∧ T'.vm.findClass own = some m.cls ∧ CHr Z EL vm0 h T'.vm T'.heap ∧ ∀ t, Steps p.tables e below (T'.setTop { g with pc := g.pc + 3, stack := v.toList ++ rest }) t → Steps p.tables e below (T.setTop g) t := by
  subst has
  subst eT
  obtain ⟨cq, kq, qa, qb, qc⟩ := isOf (s := s.setVm vm0) hZ rfl E
  obtain ⟨v, _, ⟨T1, L1, k1, n1⟩, -, X1, S1, g1, ⟨Lc, hQ, l1, y1, z1, c1⟩, st⟩ := X.virtualBackS hx (y := y) (z := z) hown (mvT (s := s.setVm vm0) hZ w1) (mvT (s := s.setVm vm0) hZ w2) nf (mvT (s := s.setVm vm0) hZ w3) (mvT (s := s.setVm vm0) hZ w4) hy (backOfSH (W := W) (hM []) hZ w5 w6 hf hl hEL H) qa qc hg hsize (Steps.refl _) hlen hstack hW hd (fun _ _ => ⟨rfl, rfl, hc, hs⟩)
  dsimp only [Pt.U, Pt.locs, Pt.cells, Pt.slots] at X1 l1 y1 z1 st hQ S1 g1 c1
  subst l1 y1 z1
  exact ⟨T1, v, Lc, X1, hQ, foldS hS hk S1 g1, g1, State.Warmed39.trans (t := s.setVm vm0) hZ S1.1, by rw [S1.1.alike.findClass]; exact hown, c1, fun t k => st.trans k⟩
open Jvm.Free.SB Jvm.Free.SBG in
theorem own_safeNull {x : Addr} {vm : Vm} (hal : Z.vm.Alike vm) (E : Exa Z h x "java/lang/String") (F : Fld Z h x "java/lang/String" "value" "[B" .null) : Safe Z EL vm h x := fun B => by
  obtain ⟨cell, k, e1, e2, e3, -, -⟩ := E
  obtain ⟨p, -, u, a, -, q, -, G, rfl | rfl⟩ := B
  · have hh := (show h[q.sa]? = some q.sC from G.ha)
    obtain ⟨cell', cf, k', i, f, f1, f2, f3, f4, f5, f6, f7⟩ := F
    cases hh.symm.trans f1
    obtain ⟨cS, ⟨⟨s1, s2, s3, ⟨cv, kv, iv, s4, s4'⟩, s5, s6, s7, s8, r⟩, -⟩, -⟩ := G
    obtain ⟨kv', z4⟩ := ff_back (U := Wst Z vm h) hal s4
    cases f2.symm.trans z4
    rw [s8] at f7; cases f7
  · cases (show h[q.sd]? = some q.SA from G.hd).symm.trans e1
    obtain ⟨cS, -, -, fB, -⟩ := G
    have fB : vm.findClass "[B" = some q.SA.cls := fB
    rw [hal.findClass] at fB
    obtain ⟨k1, q1, q2⟩ := Vm.findClass_spec fB
    obtain ⟨k2, q3, q4⟩ := Vm.findClass_spec e2
    cases q1.symm.trans q3
    exact absurd (q2.symm.trans q4) (by decide)
end OwnKitS
theorem own_c255 (x : Int32) : nar .char (x &&& 255).toUInt32.toUInt16.toUInt32.toInt32 = x &&& 255 := by
  rw [i2c_mask]
  exact i2c_mask x
theorem own_f255 (x : Int32) : fits .char (.int (x &&& 255)) = true := by
  rw [← own_c255]
  exact fits_nar_char _
theorem own_b8 (x : Int32) : nar .byte x.toInt8.toInt32 = x.toInt8.toInt32 := by
  show x.toInt8.toInt32.toInt8.toInt32 = _
  rw [Int8.toInt8_toInt32]
theorem own_le255 (x : Int32) : ¬ ((255 : Int32) < (x &&& (255 : Int32))) := by
  have h1 := c_mask x 255 8 (by decide) (by decide)
  rw [Int32.lt_iff_toInt_lt, h1]
  show ¬ (255 : Int) < _
  omega
def own_Ctx (Z : State) (A : Nat → Addr) (KC : Nat → Cell) (IC : Nat → Int32) (VC : Nat → Value) : Prop :=
  (Sta Z Z.heap "com/example/fair_index/fairindex/csw/ResultType" "$VALUES" "[Lcom/example/fair_index/fairindex/csw/ResultType;" (.ref (A 0))) ∧
  (Exa Z Z.heap (A 0) "[Lcom/example/fair_index/fairindex/csw/ResultType;") ∧
  (Sta Z Z.heap "com/example/fair_index/fairindex/csw/ResultType" "HITS" "Lcom/example/fair_index/fairindex/csw/ResultType;" (.ref (A 1))) ∧
  (Exa Z Z.heap (A 1) "com/example/fair_index/fairindex/csw/ResultType") ∧
  (Sta Z Z.heap "com/example/fair_index/fairindex/csw/ResultType" "RESULTS" "Lcom/example/fair_index/fairindex/csw/ResultType;" (.ref (A 2))) ∧
  (Exa Z Z.heap (A 2) "com/example/fair_index/fairindex/csw/ResultType") ∧
  (Sta Z Z.heap "com/example/fair_index/fairindex/csw/ResultType" "VALIDATE" "Lcom/example/fair_index/fairindex/csw/ResultType;" (.ref (A 3))) ∧
  (Exa Z Z.heap (A 3) "com/example/fair_index/fairindex/csw/ResultType") ∧
  (Fld Z Z.heap (A 1) "com/example/fair_index/fairindex/csw/ResultType" "name" "Ljava/lang/String;" (.ref (A 4))) ∧
  (Exa Z Z.heap (A 4) "java/lang/String") ∧
  (Fld Z Z.heap (A 4) "java/lang/String" "coder" "B" (.int (0 : Int32))) ∧
  (Fld Z Z.heap (A 4) "java/lang/String" "value" "[B" (.ref (A 5))) ∧
  (Fld Z Z.heap (A 2) "com/example/fair_index/fairindex/csw/ResultType" "name" "Ljava/lang/String;" (.ref (A 6))) ∧
  (Exa Z Z.heap (A 6) "java/lang/String") ∧
  (Fld Z Z.heap (A 6) "java/lang/String" "coder" "B" (.int (0 : Int32))) ∧
  (Fld Z Z.heap (A 6) "java/lang/String" "value" "[B" (.ref (A 7))) ∧
  (Fld Z Z.heap (A 3) "com/example/fair_index/fairindex/csw/ResultType" "name" "Ljava/lang/String;" (.ref (A 8))) ∧
  (Exa Z Z.heap (A 8) "java/lang/String") ∧
  (Fld Z Z.heap (A 8) "java/lang/String" "coder" "B" (.int (0 : Int32))) ∧
  (Fld Z Z.heap (A 8) "java/lang/String" "value" "[B" (.ref (A 9))) ∧
  (Sta Z Z.heap "java/lang/String" "COMPACT_STRINGS" "Z" (.int (IC 0))) ∧
  (¬ ((IC 0) = (0 : Int32))) ∧
  (Arv Z Z.heap (A 0) (KC 0).cls (.object "com/example/fair_index/fairindex/csw/ResultType") (3 : Int32) [(.ref (A 1)), (.ref (A 2)), (.ref (A 3))] .null) ∧
  (Arv Z Z.heap (A 5) (KC 1).cls .byte (4 : Int32) [(.int (104 : Int32)), (.int (105 : Int32)), (.int (116 : Int32)), (.int (115 : Int32))] (.int (0 : Int32))) ∧
  (Arv Z Z.heap (A 7) (KC 2).cls .byte (7 : Int32) [(.int (114 : Int32)), (.int (101 : Int32)), (.int (115 : Int32)), (.int (117 : Int32)), (.int (108 : Int32)), (.int (116 : Int32)), (.int (115 : Int32))] (.int (0 : Int32))) ∧
  (Arv Z Z.heap (A 9) (KC 3).cls .byte (8 : Int32) [(.int (118 : Int32)), (.int (97 : Int32)), (.int (108 : Int32)), (.int (105 : Int32)), (.int (100 : Int32)), (.int (97 : Int32)), (.int (116 : Int32)), (.int (101 : Int32))] (.int (0 : Int32))) ∧
  (Sta Z Z.heap "jdk/internal/util/Preconditions" "SIOOBE_FORMATTER" "Ljava/util/function/BiFunction;" (VC 0)) ∧
  ((VC 0) = .null ∨ ∃ fa, (VC 0) = .ref fa)
theorem own_w {Z : State} {a0 : Array Value} (hw : ∀ d ∈ tables_1, d.before a0 Z = true) {i : Nat} {d : Jvm.Cond} (h : tables_1[i]? = some d) : d.before a0 Z = true := hw d (List.mem_of_getElem? h)
def own_EL : List (String × Nat) := [("com/example/fair_index/fairindex/csw/ResultTypeNamedPinLaw", 9), ("com/example/fair_index/fairindex/csw/ResultTypeNamedPinLaw", 11), ("com/example/fair_index/fairindex/csw/ResultTypeNamedPinLaw", 13), ("java/lang/String", 7)]
theorem own_EW {Z : State} {a0 : Array Value} (hw : ∀ d ∈ tables_1, d.before a0 Z = true) : EW Z a0 own_EL := (EW.cons (own_w hw (i := 28) rfl) (by decide +kernel) (EW.cons (own_w hw (i := 40) rfl) (by decide +kernel) (EW.cons (own_w hw (i := 41) rfl) (by decide +kernel) (EW.cons (own_w hw (i := 20) rfl) (by decide +kernel) EW.nil))))
theorem own_wS {Z : State} {a0 : Array Value} (hw : ∀ d ∈ tables_1, d.before a0 Z = true) : ∀ a ∈ Bundle.stringAtoms, a.before a0 Z = true := by
  intro a ha
  simp only [Bundle.stringAtoms, List.mem_cons, List.not_mem_nil, or_false] at ha
  rcases ha with rfl | rfl | rfl | rfl | rfl | rfl | rfl
  · exact (own_w hw (i := 9) rfl)
  · exact (own_w hw (i := 8) rfl)
  · exact (own_w hw (i := 21) rfl)
  · exact (own_w hw (i := 22) rfl)
  · exact (own_w hw (i := 23) rfl)
  · exact (own_w hw (i := 24) rfl)
  · exact (own_w hw (i := 25) rfl)
theorem d17_0 : decode jdk_52_method_21_code 0 = .ok (.iconst 0, 1) := by decide +kernel
theorem d17_1 : decode jdk_52_method_21_code 1 = .ok (.istore 5, 2) := by decide +kernel
theorem d17_3 : decode jdk_52_method_21_code 3 = .ok (.iload 5, 2) := by decide +kernel
theorem d17_5 : decode jdk_52_method_21_code 5 = .ok (.iload 4, 2) := by decide +kernel
theorem d17_7 : decode jdk_52_method_21_code 7 = .ok (.if_icmp .ge 37, 3) := by decide +kernel
theorem d17_10 : decode jdk_52_method_21_code 10 = .ok (.aload_n 0, 1) := by decide +kernel
theorem d17_11 : decode jdk_52_method_21_code 11 = .ok (.iload_n 1, 1) := by decide +kernel
theorem d17_12 : decode jdk_52_method_21_code 12 = .ok (.caload, 1) := by decide +kernel
theorem d17_13 : decode jdk_52_method_21_code 13 = .ok (.istore 6, 2) := by decide +kernel
theorem d17_15 : decode jdk_52_method_21_code 15 = .ok (.iload 6, 2) := by decide +kernel
theorem d17_17 : decode jdk_52_method_21_code 17 = .ok (.sipush 255, 3) := by decide +kernel
theorem d17_20 : decode jdk_52_method_21_code 20 = .ok (.if_icmp .le 6, 3) := by decide +kernel
theorem d17_26 : decode jdk_52_method_21_code 26 = .ok (.aload_n 2, 1) := by decide +kernel
theorem d17_27 : decode jdk_52_method_21_code 27 = .ok (.iload_n 3, 1) := by decide +kernel
theorem d17_28 : decode jdk_52_method_21_code 28 = .ok (.iload 6, 2) := by decide +kernel
theorem d17_30 : decode jdk_52_method_21_code 30 = .ok (.i2b, 1) := by decide +kernel
theorem d17_31 : decode jdk_52_method_21_code 31 = .ok (.bastore, 1) := by decide +kernel
theorem d17_32 : decode jdk_52_method_21_code 32 = .ok (.iinc 1 1, 3) := by decide +kernel
theorem d17_35 : decode jdk_52_method_21_code 35 = .ok (.iinc 3 1, 3) := by decide +kernel
theorem d17_38 : decode jdk_52_method_21_code 38 = .ok (.iinc 5 1, 3) := by decide +kernel
theorem d17_41 : decode jdk_52_method_21_code 41 = .ok (.goto (-38), 3) := by decide +kernel
theorem d17_44 : decode jdk_52_method_21_code 44 = .ok (.iload 4, 2) := by decide +kernel
theorem d17_46 : decode jdk_52_method_21_code 46 = .ok (.ireturn, 1) := by decide +kernel
def own_bv (x : Int32) : Value := .int x.toInt8.toInt32
def own_le : List Int32 → Prop
  | [] => True
  | x :: t => ¬ ((255 : Int32) < x) ∧ own_le t
theorem own_leat {a : List Int32} {x : Int32} {t : List Int32} : own_le (a ++ x :: t) → ¬ ((255 : Int32) < x) := by
  induction a with
  | nil => exact fun h => h.1
  | cons y a ih => exact fun h => ih h.2
theorem own_push {Z : State} {h h' : Heap} {a : Addr} {k : ClassId} {n j : Int32} {vs : List Value} {v : Value} (B : Arv Z h a k .byte n vs (.int (0 : Int32))) (W : Wr h h' a j.toNatClampNeg v) (hf : fits .byte v = true) (hj : j.toNatClampNeg = vs.length) : Arv Z h' a k .byte n (vs ++ [v]) (.int (0 : Int32)) := by
  obtain ⟨c, q1, q2, q3, q4, q5, q6⟩ := Arv.pad B (pad_rep vs (.int (0 : Int32)) 1)
  have q := Arv.set q1 q2 q3 q4 q5 q6 hf W vs.length hj (by simp)
  simpa using q
theorem own_inc {i n : Int32} (h : i < n) : (i + 1).toInt = i.toInt + 1 := by
  have r := rng32 i
  have r2 := rng32 n
  have h2 := Int32.lt_iff_toInt_lt.mp h
  rw [Int32.toInt_add, show (1 : Int32).toInt = 1 from rfl, Int.bmod_eq_of_le (by omega) (by omega)]
theorem own_nat {i : Int32} {k : Nat} (h : i.toInt = k) : i.toNatClampNeg = k := by
  show i.toInt.toNat = k
  omega
theorem own_nn {i : Int32} {k : Nat} (h : i.toInt = k) : ¬ i < 0 := fun q => by
  have := Int32.lt_iff_toInt_lt.mp q
  rw [show (0 : Int32).toInt = 0 from rfl] at this
  omega
set_option maxRecDepth 65536 in
set_option maxHeartbeats 4000000 in
theorem rm_comp5L {l : Launch} {Z : State} {p : Program} {e : Env} {s : State} {m : MethodId} {below : List Frame} {meth : Method} {c : Code} {h0 : Heap} {ar : Array Value} {sa da : Addr} {n : Int32} {ks kd : ClassId} {cs : List Int32} (hn : n.toInt = cs.length) (hle : own_le cs) (hx : p.tables.exec = Jvm.exec) (hby : c.code = jdk_52_method_21_code) (hret : meth.sig.returnType = some .int) (hlk : meth.locks = false) (hZ : Z.Warmed39 s.vm) (gd : Z.heap.size ≤ da) (ne : sa ≠ da) :
    ∀ (suf pre : List Int32) (i : Int32) (T0 : State) (h1 : Heap) (locs : List Loc) (s6 : Slot), cs = pre ++ suf → i.toInt = pre.length → (s6 = Slot.unset ∨ ∃ w, s6 = Slot.val w ∧ w.category = 1) → T0.heap = h1 → Stand p l e ({ frames := 0, cells := 0, slots := 0, locals := 0 } : Room) s m ar below meth c T0 locs 0 0 → Fr Z.heap.size locs → Keep h0 h1 [da] → Arv Z h1 sa ks .char n (cs.map Value.int) (.int (0 : Int32)) → Arv Z h1 da kd .byte n (pre.map own_bv) (.int (0 : Int32)) →
      Go p e s below ({ frames := 0, cells := 0, slots := 0, locals := 0 } : Room) (fun v h L => v = some (.int n) ∧ (Fr Z.heap.size L) ∧ (Keep h0 h [da]) ∧ (Arv Z h da kd .byte n (cs.map own_bv) (.int (0 : Int32)))) T0 (mkF m 3 #[rv sa, iv i, rv da, iv i, iv n, iv i, s6] []) := by
  have D := @hb _ _ hby
  intro suf
  induction suf with
  | nil =>
    intro pre i T0 h1 locs s6 hc hi h6 e0 X0 N0 K0 src dst
    rw [List.append_nil] at hc
    subst hc
    have hin : i = n := by rw [← Int32.toInt_inj]; omega
    subst hin
    refine Go.of (fun _ k => XS.iload X0.here hx rfl (D d17_3) rfl (XS.iload X0.here hx rfl (D d17_5) rfl (XS.icmpYes X0.here hx rfl (pc0 := 7) (pc' := 44) rfl (D d17_7) rfl (flt Int32.lt_irrefl).2.1 (by decide) (by decide) (XS.iload X0.here hx rfl (D d17_44) rfl k)))) ?_
    exact Go.retI X0 hx hlk hret (D d17_46) (by decide) (by decide) (by rw [e0]; exact ⟨rfl, N0, K0, dst⟩)
  | cons x t ih =>
    intro pre i T0 h1 locs s6 hc hi h6 e0 X0 N0 K0 src dst
    have hlen : cs.length = pre.length + (t.length + 1) := by rw [hc, List.length_append, List.length_cons]
    have hlt : i < n := Int32.lt_iff_toInt_lt.mpr (by omega)
    have hat : (cs.map Value.int).getD i.toNatClampNeg (.int (0 : Int32)) = .int x := by
      rw [own_nat hi, hc]
      simp
    obtain ⟨cl1, Ar1, qk1, S1, Ng1, H1, G1⟩ := id src
    have hin1 := inb_of (j := i) S1 ⟨own_nn hi, hlt⟩
    have hc2 : ¬ ((255 : Int32) < x) := own_leat (hc ▸ hle)
    obtain ⟨cl2, Ar2, qk2, S2, Ng2, H2, G2⟩ := id dst
    obtain ⟨T2, h2, X2, e2, W2, st2⟩ := stB X0 hx hZ e0 Ar2 (j := i) (inb_of S2 ⟨own_nn hi, hlt⟩) (g := (mkF m 31 #[rv sa, iv i, rv da, iv i, iv n, iv i, iv x] [(.int (x.toInt8.toInt32)), (.int i), (.ref da)])) rfl rfl (D d17_31)
    have W2 : Wr h1 h2 da i.toNatClampNeg (own_bv x) := Eq.mp (congrArg (fun z => Wr h1 h2 da i.toNatClampNeg (Value.int z)) (own_b8 x)) W2
    have K2 := Keep.wr K0 W2 (Or.inl (List.mem_of_getElem? (i := 0) rfl))
    have f2 := own_push dst W2 (fits_nar_byte _) ((own_nat hi).trans (List.length_map _).symm)
    have f2 : Arv Z h2 da kd .byte n ((pre ++ [x]).map own_bv) (.int (0 : Int32)) := by rw [List.map_append]; exact f2
    have N2 := Fr.snoc X2 N0 gd
    refine Go.of (T' := T2) (f' := (mkF m 3 #[rv sa, iv (i + 1), rv da, iv (i + 1), iv n, iv (i + 1), iv x] [])) (fun _ k => XS.iload X0.here hx rfl (D d17_3) rfl (XS.iload X0.here hx rfl (D d17_5) rfl (XS.icmpNo X0.here hx rfl (D d17_7) rfl (tlt hlt).2.1 (XS.aloadN X0.here hx rfl (D d17_10) rfl rfl (XS.iloadN X0.here hx rfl (D d17_11) rfl (X0.caload hx (j := i) (v := (.int x)) (by rw [e0]; exact Ar1.1) (State.isArrayOf_alike hZ.alike Ar1.2.1) Ar1.2.2 hin1 (H1.at hin1 hat) (g := (mkF m 12 #[rv sa, iv i, rv da, iv i, iv n, iv i, s6] [(.int i), (.ref sa)])) rfl rfl (D d17_12) _ (XS.istore X0.here hx rfl (D d17_13) rfl (l' := #[rv sa, iv i, rv da, iv i, iv n, iv i, iv x]) (XS.store1 (o := s6) rfl h6 rfl) (XS.iload X0.here hx rfl (D d17_15) rfl (XS.sipush X0.here hx rfl (D d17_17) (XS.icmpYes X0.here hx rfl (pc0 := 20) (pc' := 26) rfl (D d17_20) rfl (flt hc2).2.2.2 (by decide) (by decide) (XS.aloadN X0.here hx rfl (D d17_26) rfl rfl (XS.iloadN X0.here hx rfl (D d17_27) rfl (XS.iload X0.here hx rfl (D d17_28) rfl (XS.i2b X0.here hx rfl (D d17_30) rfl (st2 _ (XS.iinc X2.here hx rfl (D d17_32) rfl (l' := #[rv sa, iv (i + 1), rv da, iv i, iv n, iv i, iv x]) rfl (XS.iinc X2.here hx rfl (D d17_35) rfl (l' := #[rv sa, iv (i + 1), rv da, iv (i + 1), iv n, iv i, iv x]) rfl (XS.iinc X2.here hx rfl (D d17_38) rfl (l' := #[rv sa, iv (i + 1), rv da, iv (i + 1), iv n, iv (i + 1), iv x]) rfl (XS.goto X2.here hx rfl (pc0 := 41) (pc' := 3) rfl (D d17_41) (by decide) (by decide) k))))))))))))))))))) ?_
    exact ih (pre ++ [x]) (i + 1) T2 h2 _ (iv x) (by rw [hc, List.append_assoc]; rfl) (by rw [own_inc hlt, hi, List.length_append]; rfl) (Or.inr ⟨_, rfl, rfl⟩) e2 X2 N2 K2 (Arv.other src W2 ne) f2
abbrev own_m0 : MethodName := (⟨"java/lang/StringUTF16", "compress", "([CI[BII)I"⟩ : MethodName)
theorem ef_rm_comp5 (m : MethodId) (sa : Addr) (da : Addr) (n : Int32) : entryFrame m #[(.ref sa), (.int (0 : Int32)), (.ref da), (.int (0 : Int32)), (.int n)] 7 = mkF m 0 #[rv sa, iv (0 : Int32), rv da, iv (0 : Int32), iv n, .unset, .unset] [] := by first | (simp [entryFrame, mkF, argsToLocals, Value.category]; done) | rfl
theorem pn1 : plainFor (⟨"java/lang/StringUTF16", "compress", "([CI[BII)I"⟩ : MethodName) = true := by first | exact plainFor_of_name (by first | (simp [plainName, overriddenIn]; done) | decide +kernel) | decide +kernel
set_option maxRecDepth 65536 in
set_option maxHeartbeats 40000000 in
theorem rm_comp5 {l : Launch} {Z : State} {a0 : Array Value} {A : Nat → Addr} {KC : Nat → Cell} {IC : Nat → Int32} {VC : Nat → Value} (hw : ∀ d ∈ tables_1, d.before a0 Z = true) (G : own_Ctx Z A KC IC VC) (sa : Addr) (da : Addr) (n : Int32) (ks : ClassId) (cs : List Int32) (kd : ClassId) (h0 : Heap) (O0 : Ext Z.heap h0) (prem0 : n.toInt = cs.length) (prem1 : own_le cs) (prem2 : Arv Z h0 sa ks .char n (cs.map Value.int) (.int (0 : Int32))) (prem3 : Arv Z h0 da kd .byte n [] (.int (0 : Int32))) (prem4 : Z.heap.size ≤ da) (prem5 : sa ≠ da) :
    Ok l Z own_m0 jdk_52_method_21_code 7 (some .int) ({ frames := 0, cells := 0, slots := 0, locals := 0 } : Room) #[(.ref sa), (.int (0 : Int32)), (.ref da), (.int (0 : Int32)), (.int n)] h0
      (fun v h L => v = some (.int n) ∧ (Fr Z.heap.size L) ∧ (Keep h0 h [da]) ∧ (Arv Z h da kd .byte n (cs.map own_bv) (.int (0 : Int32)))) := by
  refine Ok.mk pn1 ?_
  intro p e s m below meth c T0 hx hby hml hown hnm hret hlk hZ e0 X0
  refine Go.cast (ef_rm_comp5 m sa da n) ?_
  have D := @hb _ _ hby
  have N0 := Fr.nil Z.heap.size
  have K0 : Keep h0 h0 [da] := Keep.refl _ _
  refine Go.of (T' := T0) (f' := (mkF m 3 #[rv sa, iv 0, rv da, iv 0, iv n, iv 0, .unset] [])) (fun _ k => XS.iconst X0.here hx rfl (D d17_0) (XS.istore X0.here hx rfl (D d17_1) rfl (l' := #[rv sa, iv 0, rv da, iv 0, iv n, iv 0, .unset]) rfl k)) ?_
  exact rm_comp5L prem0 prem1 hx hby hret hlk hZ prem4 prem5 cs [] 0 T0 h0 _ .unset rfl rfl (Or.inl rfl) e0 X0 N0 K0 prem2 prem3
theorem d16_0 : decode jdk_52_method_16_code 0 = .ok (.iload_n 2, 1) := by decide +kernel
theorem d16_1 : decode jdk_52_method_16_code 1 = .ok (.newarray .byte, 2) := by decide +kernel
theorem d16_3 : decode jdk_52_method_16_code 3 = .ok (.astore_n 3, 1) := by decide +kernel
theorem d16_4 : decode jdk_52_method_16_code 4 = .ok (.aload_n 0, 1) := by decide +kernel
theorem d16_5 : decode jdk_52_method_16_code 5 = .ok (.iload_n 1, 1) := by decide +kernel
theorem d16_6 : decode jdk_52_method_16_code 6 = .ok (.aload_n 3, 1) := by decide +kernel
theorem d16_7 : decode jdk_52_method_16_code 7 = .ok (.iconst 0, 1) := by decide +kernel
theorem d16_8 : decode jdk_52_method_16_code 8 = .ok (.iload_n 2, 1) := by decide +kernel
theorem d16_9 : decode jdk_52_method_16_code 9 = .ok (.invokestatic 115, 3) := by decide +kernel
theorem pd2 : parseMethodDescriptor "([CI[BII)I" = some ⟨[(.array .char), .int, (.array .byte), .int, .int], some .int⟩ := by decide +kernel
theorem d16_12 : decode jdk_52_method_16_code 12 = .ok (.istore 4, 2) := by decide +kernel
theorem d16_14 : decode jdk_52_method_16_code 14 = .ok (.iload 4, 2) := by decide +kernel
theorem d16_16 : decode jdk_52_method_16_code 16 = .ok (.iload_n 2, 1) := by decide +kernel
theorem d16_17 : decode jdk_52_method_16_code 17 = .ok (.if_icmp .eq 40, 3) := by decide +kernel
theorem d16_57 : decode jdk_52_method_16_code 57 = .ok (.aload_n 3, 1) := by decide +kernel
theorem d16_58 : decode jdk_52_method_16_code 58 = .ok (.areturn, 1) := by decide +kernel
abbrev own_m3 : MethodName := (⟨"java/lang/StringUTF16", "compress", "([CII)[B"⟩ : MethodName)
theorem ef_rm_comp3 (m : MethodId) (sa : Addr) (n : Int32) : entryFrame m #[(.ref sa), (.int (0 : Int32)), (.int n)] 6 = mkF m 0 #[rv sa, iv (0 : Int32), iv n, .unset, .unset, .unset] [] := by first | (simp [entryFrame, mkF, argsToLocals, Value.category]; done) | rfl
theorem pn4 : plainFor (⟨"java/lang/StringUTF16", "compress", "([CII)[B"⟩ : MethodName) = true := by first | exact plainFor_of_name (by first | (simp [plainName, overriddenIn]; done) | decide +kernel) | decide +kernel
set_option maxRecDepth 65536 in
set_option maxHeartbeats 40000000 in
theorem rm_comp3 {l : Launch} {Z : State} {a0 : Array Value} {A : Nat → Addr} {KC : Nat → Cell} {IC : Nat → Int32} {VC : Nat → Value} (hw : ∀ d ∈ tables_1, d.before a0 Z = true) (G : own_Ctx Z A KC IC VC) (sa : Addr) (n : Int32) (ks : ClassId) (cs : List Int32) (h0 : Heap) (O0 : Ext Z.heap h0) (prem0 : n.toInt = cs.length) (prem1 : own_le cs) (prem2 : cs.length ≤ 8) (prem3 : 0 < cs.length) (prem4 : Arv Z h0 sa ks .char n (cs.map Value.int) (.int (0 : Int32))) :
    Ok l Z own_m3 jdk_52_method_16_code 6 (some (.array .byte)) ({ frames := 1, cells := 1, slots := 8, locals := 18 } : Room) #[(.ref sa), (.int (0 : Int32)), (.int n)] h0
      (fun v h L => ∃ da : Addr, ∃ kd : ClassId, v = some (.ref da) ∧ (Fr Z.heap.size L) ∧ (Keep h0 h []) ∧ (h0.size ≤ da) ∧ (Arv Z h da kd .byte n (cs.map own_bv) (.int (0 : Int32))) ∧ (Exa Z h da "[B")) := by
  refine Ok.mk pn4 ?_
  intro p e s m below meth c T0 hx hby hml hown hnm hret hlk hZ e0 X0
  refine Go.cast (ef_rm_comp3 m sa n) ?_
  have D := @hb _ _ hby
  have N0 := Fr.nil Z.heap.size
  have K0 : Keep h0 h0 [] := Keep.refl _ _
  obtain ⟨T1, h1, k1, b1, q1, X1, e1, E1, V1, A1, st1⟩ := newAr X0 hx hZ (own_w hw (i := 21) rfl) e0 (g := (mkF m 1 #[rv sa, iv 0, iv n, .unset, .unset, .unset] [(.int n)])) rfl (D d16_1) rfl (own_nn prem0) (cap := 8) ((own_nat prem0) ▸ prem2) (by decide) (by decide) (by decide) (ad := "[B") (by decide)
  have O2 := Old0.ext O0 E1
  have K2 := Keep.ext K0 E1
  have g_b1 : Z.heap.size ≤ b1 := q1 ▸ O0.1
  have z_b1 : h0.size ≤ b1 := q1 ▸ K0.1
  have ne_sa_b1 : sa ≠ b1 := q1 ▸ Nat.ne_of_lt prem4.lt
  have f4 : Arv Z h1 sa ks .char n (cs.map Value.int) (.int 0) := (Arv.ext prem4 E1)
  obtain ⟨T3, v3, L3, X3, q3, st3⟩ := callSt X1 hx hZ (y := own_m0) hown (own_w hw (i := 106) rfl) (own_w hw (i := 107) rfl) (own_w hw (i := 104) rfl) (own_w hw (i := 108) rfl) (by decide) (rm_comp5 hw G sa b1 n ks cs k1 h1 O2 (prem0) (prem1) f4 V1 g_b1 ne_sa_b1) e1 (W := 0) (by decide) (by decide) (by decide) (by decide) (g := (mkF m 9 #[rv sa, iv 0, iv n, rv b1, .unset, .unset] [(.int n), (.int 0), (.ref b1), (.int 0), (.ref sa)])) rfl (by rw [hml]; rfl) (argsL := [(.ref sa), (.int 0), (.ref b1), (.int 0), (.int n)]) (rest := []) (lenOf pd2 rfl) rfl rfl (Nat.le_of_eq rfl) (D d16_9)
  obtain ⟨rfl, N3q, K3q, p3_0⟩ := q3
  have N3 := Fr.app N0 N3q
  have O5 := Old0.keep O2 K3q (allS g_b1 all0)
  have K5 := Keep.trans K2 K3q (allS (Or.inr z_b1) all0)
  have hc6 : n = n := rfl
  have f7 : Exa Z T3.heap b1 "[B" := (Exa.keep A1 K3q)
  refine Go.of (T' := T3) (f' := (mkF m 58 #[rv sa, iv 0, iv n, rv b1, iv n, .unset] [(.ref b1)])) (fun _ k => XS.iloadN X0.here hx rfl (D d16_0) rfl (st1 _ (XS.astoreN X1.here hx rfl (D d16_3) rfl rfl (l' := #[rv sa, iv 0, iv n, rv b1, .unset, .unset]) rfl (XS.aloadN X1.here hx rfl (D d16_4) rfl rfl (XS.iloadN X1.here hx rfl (D d16_5) rfl (XS.aloadN X1.here hx rfl (D d16_6) rfl rfl (XS.iconst X1.here hx rfl (D d16_7) (XS.iloadN X1.here hx rfl (D d16_8) rfl (st3 _ (XS.istore X3.here hx rfl (D d16_12) rfl (l' := #[rv sa, iv 0, iv n, rv b1, iv n, .unset]) rfl (XS.iload X3.here hx rfl (D d16_14) rfl (XS.iloadN X3.here hx rfl (D d16_16) rfl (XS.icmpYes X3.here hx rfl (pc0 := 17) (pc' := 57) rfl (D d16_17) rfl (teq hc6).1 (by decide) (by decide) (XS.aloadN X3.here hx rfl (D d16_57) rfl rfl k)))))))))))))) ?_
  exact Go.retA X3 hx hlk hret rfl rfl (D d16_58) (by decide) (by decide) ⟨b1, k1, rfl, N3, K5, z_b1, p3_0, f7⟩
theorem d18_0 : decode jdk_52_method_15_code 0 = .ok (.iload_n 1, 1) := by decide +kernel
theorem d18_1 : decode jdk_52_method_15_code 1 = .ok (.aload_n 0, 1) := by decide +kernel
theorem d18_2 : decode jdk_52_method_15_code 2 = .ok (.arraylength, 1) := by decide +kernel
theorem d18_3 : decode jdk_52_method_15_code 3 = .ok (.isub, 1) := by decide +kernel
theorem d18_4 : decode jdk_52_method_15_code 4 = .ok (.bipush 31, 2) := by decide +kernel
theorem d18_6 : decode jdk_52_method_15_code 6 = .ok (.iushr, 1) := by decide +kernel
theorem d18_7 : decode jdk_52_method_15_code 7 = .ok (.i2b, 1) := by decide +kernel
theorem d18_8 : decode jdk_52_method_15_code 8 = .ok (.ireturn, 1) := by decide +kernel
abbrev own_m5 : MethodName := (⟨"java/lang/StringUTF16", "coderFromArrayLen", "([BI)B"⟩ : MethodName)
theorem ef_rm_cfal (m : MethodId) (da : Addr) (n : Int32) : entryFrame m #[(.ref da), (.int n)] 2 = mkF m 0 #[rv da, iv n] [] := by first | (simp [entryFrame, mkF, argsToLocals, Value.category]; done) | rfl
theorem pn6 : plainFor (⟨"java/lang/StringUTF16", "coderFromArrayLen", "([BI)B"⟩ : MethodName) = true := by first | exact plainFor_of_name (by first | (simp [plainName, overriddenIn]; done) | decide +kernel) | decide +kernel
set_option maxRecDepth 65536 in
set_option maxHeartbeats 40000000 in
theorem rm_cfal {l : Launch} {Z : State} {a0 : Array Value} {A : Nat → Addr} {KC : Nat → Cell} {IC : Nat → Int32} {VC : Nat → Value} (hw : ∀ d ∈ tables_1, d.before a0 Z = true) (G : own_Ctx Z A KC IC VC) (da : Addr) (n : Int32) (kd : ClassId) (vs : List Value) (h0 : Heap) (O0 : Ext Z.heap h0) (prem0 : Arv Z h0 da kd .byte n vs (.int (0 : Int32))) :
    Ok l Z own_m5 jdk_52_method_15_code 2 (some .byte) ({ frames := 0, cells := 0, slots := 0, locals := 0 } : Room) #[(.ref da), (.int n)] h0
      (fun v h L => v = some (.int (0 : Int32)) ∧ (h = h0) ∧ (L = [])) := by
  refine Ok.mk pn6 ?_
  intro p e s m below meth c T0 hx hby hml hown hnm hret hlk hZ e0 X0
  refine Go.cast (ef_rm_cfal m da n) ?_
  have D := @hb _ _ hby
  have N0 := Fr.nil Z.heap.size
  have K0 : Keep h0 h0 [] := Keep.refl _ _
  obtain ⟨cl8, Ar8, qk8, S8, Ng8, H8, G8⟩ := id prem0
  refine Go.of (T' := T0) (f' := (mkF m 8 #[rv da, iv n] [(.int ((((n - n).toUInt32 >>> ((31 : Int32) &&& 31).toUInt32).toInt32).toInt8.toInt32))])) (fun _ k => XS.iloadN X0.here hx rfl (D d18_0) rfl (XS.aloadN X0.here hx rfl (D d18_1) rfl rfl (X0.arraylength hx (by rw [e0]; exact Ar8.1) (State.isArrayOf_alike hZ.alike Ar8.2.1) (g := (mkF m 2 #[rv da, iv n] [(.ref da), (.int n)])) rfl rfl (D d18_2) _ (by rw [len_of S8 Ng8]; exact (XS.isub X0.here hx rfl (D d18_3) rfl (XS.bipush X0.here hx rfl (D d18_4) (XS.iushr X0.here hx rfl (D d18_6) rfl (XS.i2b X0.here hx rfl (D d18_7) rfl k)))))))) ?_
  exact Go.retB X0 hx hlk hret (by simp) (D d18_8) (by decide) (by decide) (z' := (0 : Int32)) (by rw [Int32.sub_self]; decide) (by rw [e0]; exact ⟨rfl, rfl, by simp⟩)
theorem own_n0 {n : Int32} {cs : List Int32} (h : n.toInt = cs.length) (q : 0 < cs.length) : ¬ n = 0 := fun e => by
  subst e
  rw [show (0 : Int32).toInt = 0 from rfl] at h
  omega
theorem d2_0 : decode jdk_42_method_149_code 0 = .ok (.aload_n 0, 1) := by decide +kernel
theorem d2_1 : decode jdk_42_method_149_code 1 = .ok (.invokespecial 1, 3) := by decide +kernel
theorem d2_4 : decode jdk_42_method_149_code 4 = .ok (.iload_n 3, 1) := by decide +kernel
theorem d2_5 : decode jdk_42_method_149_code 5 = .ok (.ifCond .ne 22, 3) := by decide +kernel
theorem d2_27 : decode jdk_42_method_149_code 27 = .ok (.getstatic 38, 3) := by decide +kernel
theorem d2_30 : decode jdk_42_method_149_code 30 = .ok (.ifCond .eq 28, 3) := by decide +kernel
theorem d2_33 : decode jdk_42_method_149_code 33 = .ok (.aload_n 1, 1) := by decide +kernel
theorem d2_34 : decode jdk_42_method_149_code 34 = .ok (.iload_n 2, 1) := by decide +kernel
theorem d2_35 : decode jdk_42_method_149_code 35 = .ok (.iload_n 3, 1) := by decide +kernel
theorem d2_36 : decode jdk_42_method_149_code 36 = .ok (.invokestatic 177, 3) := by decide +kernel
theorem pd7 : parseMethodDescriptor "([CII)[B" = some ⟨[(.array .char), .int, .int], some (.array .byte)⟩ := by decide +kernel
theorem d2_39 : decode jdk_42_method_149_code 39 = .ok (.astore 5, 2) := by decide +kernel
theorem d2_41 : decode jdk_42_method_149_code 41 = .ok (.aload_n 0, 1) := by decide +kernel
theorem d2_42 : decode jdk_42_method_149_code 42 = .ok (.aload 5, 2) := by decide +kernel
theorem d2_44 : decode jdk_42_method_149_code 44 = .ok (.iload_n 3, 1) := by decide +kernel
theorem d2_45 : decode jdk_42_method_149_code 45 = .ok (.invokestatic 47, 3) := by decide +kernel
theorem pd8 : parseMethodDescriptor "([BI)B" = some ⟨[(.array .byte), .int], some .byte⟩ := by decide +kernel
theorem d2_48 : decode jdk_42_method_149_code 48 = .ok (.putfield 15, 3) := by decide +kernel
theorem d2_51 : decode jdk_42_method_149_code 51 = .ok (.aload_n 0, 1) := by decide +kernel
theorem d2_52 : decode jdk_42_method_149_code 52 = .ok (.aload 5, 2) := by decide +kernel
theorem d2_54 : decode jdk_42_method_149_code 54 = .ok (.putfield 9, 3) := by decide +kernel
theorem d2_57 : decode jdk_42_method_149_code 57 = .ok (.return_, 1) := by decide +kernel
abbrev own_m9 : MethodName := (⟨"java/lang/String", "<init>", "([CIILjava/lang/Void;)V"⟩ : MethodName)
theorem ef_rm_str4 (m : MethodId) (so : Addr) (sa : Addr) (n : Int32) : entryFrame m #[(.ref so), (.ref sa), (.int (0 : Int32)), (.int n), .null] 6 = mkF m 0 #[rv so, rv sa, iv (0 : Int32), iv n, .val .null, .unset] [] := by first | (simp [entryFrame, mkF, argsToLocals, Value.category]; done) | rfl
theorem pn10 : plainFor (⟨"java/lang/String", "<init>", "([CIILjava/lang/Void;)V"⟩ : MethodName) = true := by first | exact plainFor_of_name (by first | (simp [plainName, overriddenIn]; done) | decide +kernel) | decide +kernel
set_option maxRecDepth 65536 in
set_option maxHeartbeats 40000000 in
theorem rm_str4 {l : Launch} {Z : State} {a0 : Array Value} {A : Nat → Addr} {KC : Nat → Cell} {IC : Nat → Int32} {VC : Nat → Value} (hw : ∀ d ∈ tables_1, d.before a0 Z = true) (G : own_Ctx Z A KC IC VC) (so : Addr) (sa : Addr) (n : Int32) (ks : ClassId) (cs : List Int32) (h0 : Heap) (O0 : Ext Z.heap h0) (prem0 : n.toInt = cs.length) (prem1 : own_le cs) (prem2 : cs.length ≤ 8) (prem3 : 0 < cs.length) (prem4 : Exa Z h0 so "java/lang/String") (prem5 : Fld Z h0 so "java/lang/String" "value" "[B" .null) (prem6 : Fld Z h0 so "java/lang/String" "coder" "B" (.int (0 : Int32))) (prem7 : Z.heap.size ≤ so) (prem8 : Arv Z h0 sa ks .char n (cs.map Value.int) (.int (0 : Int32))) (prem9 : so ≠ sa) :
    Ok l Z own_m9 jdk_42_method_149_code 6 none ({ frames := 2, cells := 1, slots := 8, locals := 35 } : Room) #[(.ref so), (.ref sa), (.int (0 : Int32)), (.int n), .null] h0
      (fun v h L => ∃ da : Addr, ∃ kd : ClassId, v = none ∧ (Fr Z.heap.size L) ∧ (Keep h0 h [so]) ∧ (h0.size ≤ da) ∧ (Fld Z h so "java/lang/String" "value" "[B" (.ref da)) ∧ (Fld Z h so "java/lang/String" "coder" "B" (.int (0 : Int32))) ∧ (Arv Z h da kd .byte n (cs.map own_bv) (.int (0 : Int32))) ∧ (Exa Z h da "[B")) := by
  refine Ok.mk pn10 ?_
  intro p e s m below meth c T0 hx hby hml hown hnm hret hlk hZ e0 X0
  refine Go.cast (ef_rm_str4 m so sa n) ?_
  obtain ⟨-, -, -, -, -, -, -, -, -, -, -, -, -, -, -, -, -, -, -, -, S_COMPACT_STRINGS, hne_s_COMPACT_STRINGS_0, -⟩ := id G
  have D := @hb _ _ hby
  have N0 := Fr.nil Z.heap.size
  have K0 : Keep h0 h0 [so] := Keep.refl _ _
  obtain ⟨T9, X9, e9, st9⟩ := initO X0 hx hZ hown (own_w hw (i := 17) rfl) (own_w hw (i := 18) rfl) (own_w hw (i := 19) rfl) e0 (g := (mkF m 1 #[rv so, rv sa, iv 0, iv n, .val .null, .unset] [(.ref so)])) rfl (by rw [hml]; rfl) rfl (D d2_1) (by decide) (W := 0) (Nat.le_of_eq rfl) (by decide)
  have hc10 : ¬ (n = (0 : Int32)) := own_n0 prem0 prem3
  obtain ⟨T11, X11, e11, st11⟩ := getS2 X9 hx hZ hown (host := "") (Or.inl (own_w hw (i := 35) rfl)) Via.refl e9 (Sta.ext O0 S_COMPACT_STRINGS) (g := (mkF m 27 #[rv so, rv sa, iv 0, iv n, .val .null, .unset] [])) rfl (D d2_27)
  have hc12 : ¬ ((IC 0) = (0 : Int32)) := hne_s_COMPACT_STRINGS_0
  obtain ⟨T13, v13, L13, X13, q13, st13⟩ := callSt X11 hx hZ (y := own_m3) hown (own_w hw (i := 102) rfl) (own_w hw (i := 103) rfl) (own_w hw (i := 104) rfl) (own_w hw (i := 105) rfl) (by decide) (rm_comp3 hw G sa n ks cs h0 O0 (prem0) (prem1) (prem2) (prem3) prem8) e11 (W := 0) (by decide) (by decide) (by decide) (by decide) (g := (mkF m 36 #[rv so, rv sa, iv 0, iv n, .val .null, .unset] [(.int n), (.int 0), (.ref sa)])) rfl (by rw [hml]; rfl) (argsL := [(.ref sa), (.int 0), (.int n)]) (rest := []) (lenOf pd7 rfl) rfl rfl (Nat.le_of_eq rfl) (D d2_36)
  obtain ⟨da_13, kd_13, rfl, N13q, K13q, p13_0, p13_1, p13_2⟩ := q13
  have N13 := Fr.app N0 N13q
  have O14 := Old0.keep O0 K13q all0
  have K14 := Keep.trans K0 K13q all0
  have z_da_13 : h0.size ≤ da_13 := Nat.le_trans K0.1 p13_0
  have g_da_13 : Z.heap.size ≤ da_13 := Nat.le_trans O0.1 p13_0
  have ne_so_da_13 : so ≠ da_13 := Nat.ne_of_lt (Nat.lt_of_lt_of_le prem4.lt p13_0)
  have ne_sa_da_13 : sa ≠ da_13 := Nat.ne_of_lt (Nat.lt_of_lt_of_le prem8.lt p13_0)
  obtain ⟨T15, v15, L15, X15, q15, st15⟩ := callSt X13 hx hZ (y := own_m5) hown (own_w hw (i := 109) rfl) (own_w hw (i := 110) rfl) (own_w hw (i := 104) rfl) (own_w hw (i := 111) rfl) (by decide) (rm_cfal hw G da_13 n kd_13 ((cs.map own_bv)) T13.heap O14 p13_1) rfl (W := 1) (by decide) (by decide) (by decide) (by decide) (g := (mkF m 45 #[rv so, rv sa, iv 0, iv n, .val .null, rv da_13] [(.int n), (.ref da_13), (.ref so)])) rfl (by rw [hml]; rfl) (argsL := [(.ref da_13), (.int n)]) (rest := [(.ref so)]) (lenOf pd8 rfl) rfl rfl (Nat.le_of_eq rfl) (D d2_45)
  obtain ⟨rfl, e15, rfl⟩ := q15
  have N15 := Fr.app N13 (Fr.nil _)
  have f17 : Exa Z T13.heap so "java/lang/String" := (Exa.keep prem4 K13q)
  have f18 : Fld Z T13.heap so "java/lang/String" "coder" "B" (.int 0) := (Fld.keep prem6 K13q nin0)
  obtain ⟨T16, h16, X16, e16, W16, st16⟩ := putFN X15 hx hZ hown (own_w hw (i := 27) rfl) Via.refl e15 f18 f17 (Or.inr ⟨(own_w hw (i := 23) rfl), rfl, hnm⟩) (own_w hw (i := 8) rfl) (ty := .byte) (v' := (.int 0)) (by decide) rfl rfl (g := (mkF m 48 #[rv so, rv sa, iv 0, iv n, .val .null, rv da_13] [(.int 0), (.ref so)])) rfl rfl (D d2_48)
  have O19 := Old0.wr O14 W16 prem7
  have K19 := Keep.wr K14 W16 (Or.inl (List.mem_of_getElem? (i := 0) rfl))
  have N16 := Fr.snoc X16 N15 prem7
  have f16 : Fld Z h16 so "java/lang/String" "coder" "B" (.int 0) := Fld.same W16 f18
  have f21 : Exa Z h16 so "java/lang/String" := (Exa.wr W16 f17)
  have f22 : Fld Z h16 so "java/lang/String" "value" "[B" .null := (Fld.other W16 (Fld.keep prem5 K13q nin0) (Or.inr (slot_ne (Or.inr (own_w hw (i := 22) rfl)) (Or.inr (own_w hw (i := 23) rfl)) (by decide) (t := (.array .byte)) (t' := .byte) (by decide) (by decide))))
  obtain ⟨T20, h20, X20, e20, W20, st20⟩ := putF X16 hx hZ hown (host := "") (Or.inl (own_w hw (i := 26) rfl)) Via.refl e16 f22 f21 (Or.inr ⟨(own_w hw (i := 22) rfl), rfl, hnm⟩) (own_w hw (i := 8) rfl) (ty := (.array .byte)) (by decide) rfl rfl (g := (mkF m 54 #[rv so, rv sa, iv 0, iv n, .val .null, rv da_13] [(.ref da_13), (.ref so)])) rfl rfl (D d2_54)
  have O23 := Old0.wr O19 W20 prem7
  have K23 := Keep.wr K19 W20 (Or.inl (List.mem_of_getElem? (i := 0) rfl))
  have N20 := Fr.snoc X20 N16 prem7
  have f20 : Fld Z h20 so "java/lang/String" "value" "[B" (.ref da_13) := Fld.same W20 f22
  have f24 : Fld Z h20 so "java/lang/String" "coder" "B" (.int 0) := (Fld.other W20 f16 (Or.inr (slot_ne (Or.inr (own_w hw (i := 23) rfl)) (Or.inr (own_w hw (i := 22) rfl)) (by decide) (t := .byte) (t' := (.array .byte)) (by decide) (by decide))))
  have f25 : Arv Z h20 da_13 kd_13 .byte n (cs.map own_bv) (.int 0) := (Arv.other (Arv.other p13_1 W16 (Ne.symm ne_so_da_13)) W20 (Ne.symm ne_so_da_13))
  have f26 : Exa Z h20 da_13 "[B" := (Exa.wr W20 (Exa.wr W16 p13_2))
  refine Go.of (T' := T20) (f' := (mkF m 57 #[rv so, rv sa, iv 0, iv n, .val .null, rv da_13] [])) (fun _ k => XS.aloadN X0.here hx rfl (D d2_0) rfl rfl (st9 _ (XS.iloadN X9.here hx rfl (D d2_4) rfl (XS.ifYes X9.here hx rfl (pc0 := 5) (pc' := 27) rfl (D d2_5) rfl ((if0 _ _).trans (feq hc10).2) (by decide) (by decide) (st11 _ (XS.ifNo X11.here hx rfl (D d2_30) rfl ((if0 _ _).trans (feq hc12).1) (XS.aloadN X11.here hx rfl (D d2_33) rfl rfl (XS.iloadN X11.here hx rfl (D d2_34) rfl (XS.iloadN X11.here hx rfl (D d2_35) rfl (st13 _ (XS.astore X13.here hx rfl (D d2_39) rfl rfl (l' := #[rv so, rv sa, iv 0, iv n, .val .null, rv da_13]) rfl (XS.aloadN X13.here hx rfl (D d2_41) rfl rfl (XS.aload X13.here hx rfl (D d2_42) rfl rfl (XS.iloadN X13.here hx rfl (D d2_44) rfl (st15 _ (st16 _ (XS.aloadN X16.here hx rfl (D d2_51) rfl rfl (XS.aload X16.here hx rfl (D d2_52) rfl rfl (st20 _ k))))))))))))))))))) ?_
  exact Go.retV X20 hx hlk hret (D d2_57) (by decide) (by decide) (by rw [e20]; exact ⟨da_13, kd_13, rfl, N20, K23, z_da_13, f20, f24, f25, f26⟩)
theorem d1_0 : decode jdk_42_method_3_code 0 = .ok (.aload_n 0, 1) := by decide +kernel
theorem d1_1 : decode jdk_42_method_3_code 1 = .ok (.aload_n 1, 1) := by decide +kernel
theorem d1_2 : decode jdk_42_method_3_code 2 = .ok (.iconst 0, 1) := by decide +kernel
theorem d1_3 : decode jdk_42_method_3_code 3 = .ok (.aload_n 1, 1) := by decide +kernel
theorem d1_4 : decode jdk_42_method_3_code 4 = .ok (.arraylength, 1) := by decide +kernel
theorem d1_5 : decode jdk_42_method_3_code 5 = .ok (.aconst_null, 1) := by decide +kernel
theorem d1_6 : decode jdk_42_method_3_code 6 = .ok (.invokespecial 27, 3) := by decide +kernel
theorem pd11 : parseMethodDescriptor "([CIILjava/lang/Void;)V" = some ⟨[(.array .char), .int, .int, (.object "java/lang/Void")], none⟩ := by decide +kernel
theorem d1_9 : decode jdk_42_method_3_code 9 = .ok (.return_, 1) := by decide +kernel
abbrev own_m12 : MethodName := (⟨"java/lang/String", "<init>", "([C)V"⟩ : MethodName)
theorem ef_rm_str (m : MethodId) (so : Addr) (sa : Addr) : entryFrame m #[(.ref so), (.ref sa)] 2 = mkF m 0 #[rv so, rv sa] [] := by first | (simp [entryFrame, mkF, argsToLocals, Value.category]; done) | rfl
theorem pn13 : plainFor (⟨"java/lang/String", "<init>", "([C)V"⟩ : MethodName) = true := by first | exact plainFor_of_name (by first | (simp [plainName, overriddenIn]; done) | decide +kernel) | decide +kernel
set_option maxRecDepth 65536 in
set_option maxHeartbeats 40000000 in
theorem rm_str {l : Launch} {Z : State} {a0 : Array Value} {A : Nat → Addr} {KC : Nat → Cell} {IC : Nat → Int32} {VC : Nat → Value} (hw : ∀ d ∈ tables_1, d.before a0 Z = true) (G : own_Ctx Z A KC IC VC) (so : Addr) (sa : Addr) (n : Int32) (ks : ClassId) (cs : List Int32) (h0 : Heap) (O0 : Ext Z.heap h0) (prem0 : n.toInt = cs.length) (prem1 : own_le cs) (prem2 : cs.length ≤ 8) (prem3 : 0 < cs.length) (prem4 : Exa Z h0 so "java/lang/String") (prem5 : Fld Z h0 so "java/lang/String" "value" "[B" .null) (prem6 : Fld Z h0 so "java/lang/String" "coder" "B" (.int (0 : Int32))) (prem7 : Z.heap.size ≤ so) (prem8 : Arv Z h0 sa ks .char n (cs.map Value.int) (.int (0 : Int32))) (prem9 : so ≠ sa) :
    Ok l Z own_m12 jdk_42_method_3_code 2 none ({ frames := 3, cells := 1, slots := 8, locals := 52 } : Room) #[(.ref so), (.ref sa)] h0
      (fun v h L => ∃ da : Addr, ∃ kd : ClassId, v = none ∧ (Fr Z.heap.size L) ∧ (Keep h0 h [so]) ∧ (h0.size ≤ da) ∧ (Fld Z h so "java/lang/String" "value" "[B" (.ref da)) ∧ (Fld Z h so "java/lang/String" "coder" "B" (.int (0 : Int32))) ∧ (Arv Z h da kd .byte n (cs.map own_bv) (.int (0 : Int32))) ∧ (Exa Z h da "[B")) := by
  refine Ok.mk pn13 ?_
  intro p e s m below meth c T0 hx hby hml hown hnm hret hlk hZ e0 X0
  refine Go.cast (ef_rm_str m so sa) ?_
  have D := @hb _ _ hby
  have N0 := Fr.nil Z.heap.size
  have K0 : Keep h0 h0 [so] := Keep.refl _ _
  obtain ⟨cl27, Ar27, qk27, S27, Ng27, H27, G27⟩ := id prem8
  obtain ⟨T28, v28, L28, X28, q28, st28⟩ := callNew X0 hx hZ (y := own_m9) rfl hown (own_w hw (i := 13) rfl) (own_w hw (i := 14) rfl) (own_w hw (i := 9) rfl) (own_w hw (i := 16) rfl) (by decide) (rm_str4 hw G so sa n ks cs h0 O0 (prem0) (prem1) (prem2) (prem3) prem4 prem5 prem6 prem7 prem8 prem9) e0 (W := 0) (by decide) (by decide) (by decide) (by decide) (g := (mkF m 6 #[rv so, rv sa] [.null, (.int n), (.int 0), (.ref sa), (.ref so)])) rfl (by rw [hml]; rfl) (a := so) (argsL := [(.ref sa), (.int 0), (.int n), .null]) (rest := []) (lenOf pd11 rfl) rfl rfl (Nat.le_of_eq rfl) (D d1_6)
  obtain ⟨da_28, kd_28, rfl, N28q, K28q, p28_0, p28_1, p28_2, p28_3, p28_4⟩ := q28
  have N28 := Fr.app N0 N28q
  have O29 := Old0.keep O0 K28q (allS prem7 all0)
  have K29 := Keep.trans K0 K28q (allS (Or.inl (List.mem_of_getElem? (i := 0) rfl)) all0)
  have z_da_28 : h0.size ≤ da_28 := Nat.le_trans K0.1 p28_0
  have g_da_28 : Z.heap.size ≤ da_28 := Nat.le_trans O0.1 p28_0
  have ne_so_da_28 : so ≠ da_28 := Nat.ne_of_lt (Nat.lt_of_lt_of_le prem4.lt p28_0)
  have ne_sa_da_28 : sa ≠ da_28 := Nat.ne_of_lt (Nat.lt_of_lt_of_le prem8.lt p28_0)
  refine Go.of (T' := T28) (f' := (mkF m 9 #[rv so, rv sa] [])) (fun _ k => XS.aloadN X0.here hx rfl (D d1_0) rfl rfl (XS.aloadN X0.here hx rfl (D d1_1) rfl rfl (XS.iconst X0.here hx rfl (D d1_2) (XS.aloadN X0.here hx rfl (D d1_3) rfl rfl (X0.arraylength hx (by rw [e0]; exact Ar27.1) (State.isArrayOf_alike hZ.alike Ar27.2.1) (g := (mkF m 4 #[rv so, rv sa] [(.ref sa), (.int 0), (.ref sa), (.ref so)])) rfl rfl (D d1_4) _ (by rw [len_of S27 Ng27]; exact (XS.aconstNull X0.here hx rfl (D d1_5) (st28 _ k)))))))) ?_
  exact Go.retV X28 hx hlk hret (D d1_9) (by decide) (by decide) ⟨da_28, kd_28, rfl, N28, K29, z_da_28, p28_1, p28_2, p28_3, p28_4⟩
theorem d2_8 : decode jdk_42_method_149_code 8 = .ok (.aload_n 0, 1) := by decide +kernel
theorem d2_9 : decode jdk_42_method_149_code 9 = .ok (.ldc 7, 2) := by decide +kernel
theorem d2_11 : decode jdk_42_method_149_code 11 = .ok (.getfield 9, 3) := by decide +kernel
theorem d2_14 : decode jdk_42_method_149_code 14 = .ok (.putfield 9, 3) := by decide +kernel
theorem d2_17 : decode jdk_42_method_149_code 17 = .ok (.aload_n 0, 1) := by decide +kernel
theorem d2_18 : decode jdk_42_method_149_code 18 = .ok (.ldc 7, 2) := by decide +kernel
theorem d2_20 : decode jdk_42_method_149_code 20 = .ok (.getfield 15, 3) := by decide +kernel
theorem d2_23 : decode jdk_42_method_149_code 23 = .ok (.putfield 15, 3) := by decide +kernel
theorem d2_26 : decode jdk_42_method_149_code 26 = .ok (.return_, 1) := by decide +kernel
theorem ef_rm_str4_0 (m : MethodId) (so : Addr) (sa : Addr) : entryFrame m #[(.ref so), (.ref sa), (.int (0 : Int32)), (.int (0 : Int32)), .null] 6 = mkF m 0 #[rv so, rv sa, iv (0 : Int32), iv (0 : Int32), .val .null, .unset] [] := by first | (simp [entryFrame, mkF, argsToLocals, Value.category]; done) | rfl
set_option maxRecDepth 65536 in
set_option maxHeartbeats 40000000 in
theorem rm_str4_0 {l : Launch} {Z : State} {a0 : Array Value} {A : Nat → Addr} {KC : Nat → Cell} {IC : Nat → Int32} {VC : Nat → Value} (hw : ∀ d ∈ tables_1, d.before a0 Z = true) (G : own_Ctx Z A KC IC VC) (so : Addr) (sa : Addr)  (h0 : Heap) (O0 : Ext Z.heap h0) (prem0 : Exa Z h0 so "java/lang/String") (prem1 : Fld Z h0 so "java/lang/String" "value" "[B" .null) (prem2 : Fld Z h0 so "java/lang/String" "coder" "B" (.int (0 : Int32))) (prem3 : Z.heap.size ≤ so) :
    OkS l Z own_EL own_m9 jdk_42_method_149_code 6 none ({ frames := 1, cells := 4, slots := 8, locals := 12 } : Room) #[(.ref so), (.ref sa), (.int (0 : Int32)), (.int (0 : Int32)), .null] h0
      (fun v h L => ∃ da : Addr, ∃ kd : ClassId, v = none ∧ (Fr Z.heap.size L) ∧ (Keep h0 h [so]) ∧ (Fld Z h so "java/lang/String" "value" "[B" (.ref da)) ∧ (Fld Z h so "java/lang/String" "coder" "B" (.int (0 : Int32))) ∧ (Arv Z h da kd .byte (0 : Int32) [] (.int (0 : Int32)))) := by
  refine OkS.mk pn10 ?_
  intro p e s m below meth c T0 hx hby hml hown hnm hret hlk hZ e0 C0 hS X0
  have hk := Nat.zero_le h0.size
  have hEL := own_EW hw
  refine GoS.cast (ef_rm_str4_0 m so sa) ?_
  have D := @hb _ _ hby
  have N0 := Fr.nil Z.heap.size
  have K0 : Keep h0 h0 [so] := Keep.refl _ _
  obtain ⟨T30, X30, e30, st30⟩ := initO X0 hx hZ hown (own_w hw (i := 17) rfl) (own_w hw (i := 18) rfl) (own_w hw (i := 19) rfl) e0 (g := (mkF m 1 #[rv so, rv sa, iv 0, iv 0, .val .null, .unset] [(.ref so)])) rfl (by rw [hml]; rfl) rfl (D d2_1) (by decide) (W := 0) (Nat.le_of_eq rfl) (by decide)
  refine GoS.of (T' := T30) (f' := (mkF m 9 #[rv so, rv sa, iv 0, iv 0, .val .null, .unset] [(.ref so)])) (fun _ k => XS.aloadN X0.here hx rfl (D d2_0) rfl rfl (st30 _ (XS.iloadN X30.here hx rfl (D d2_4) rfl (XS.ifNo X30.here hx rfl (D d2_5) rfl ((if0 _ _).trans (teq (by decide : (0 : Int32) = (0 : Int32))).2) (XS.aloadN X30.here hx rfl (D d2_8) rfl rfl k))))) ?_
  have sf33 : Safe Z own_EL s.vm h0 so := own_safeNull hZ.alike prem0 prem1
  have sp32_so : Safe Z own_EL s.vm h0 so := sf33
  obtain ⟨c32, T32, h32, k132, v32, kc32, X32, e32, E32, hS, hk32, hZ, hown, A32, Fc32, Fv32, V32, -, -, Cq32, -, sn32, st32⟩ := ldcCH X30 hx hZ hown (own_w hw (i := 20) rfl) (own_wS hw) e30 hS hk hEL (by decide) C0.1 (vs := []) (z := (0 : Int32)) ⟨by decide +kernel, by decide +kernel⟩ (by decide) rfl (g := (mkF m 9 #[rv so, rv sa, iv 0, iv 0, .val .null, .unset] [(.ref so)])) rfl (D d2_9) (n := 0) (by decide +kernel) (by decide) (by decide) (by decide)
  have O32 := Old0.ext O0 E32
  have K32 := Keep.ext K0 E32
  have C32 := CHr.trans C0 Cq32
  have hk := hk32
  have sf32_so : Safe Z own_EL T32.vm h32 so := CHr.safe Cq32 prem0.lt sp32_so
  have ne_so_c32 : so ≠ c32 := (sn32 so sf32_so).1
  have ne_so_v32 : so ≠ v32 := (sn32 so sf32_so).2
  obtain ⟨T34, X34, e34, st34⟩ := getF X32 hx hZ hown (host := "") (Or.inl (own_w hw (i := 26) rfl)) Via.refl e32 Fv32 (g := (mkF m 11 #[rv so, rv sa, iv 0, iv 0, .val .null, .unset] [(.ref c32), (.ref so)])) rfl rfl (D d2_11)
  have f36 : Exa Z h32 so "java/lang/String" := (Exa.ext E32 prem0)
  have f37 : Fld Z h32 so "java/lang/String" "value" "[B" .null := (Fld.ext E32 prem1)
  obtain ⟨T35, h35, X35, e35, W35, st35⟩ := putF X34 hx hZ hown (host := "") (Or.inl (own_w hw (i := 26) rfl)) Via.refl e34 f37 f36 (Or.inr ⟨(own_w hw (i := 22) rfl), rfl, hnm⟩) (own_w hw (i := 8) rfl) (ty := (.array .byte)) (by decide) rfl rfl (g := (mkF m 14 #[rv so, rv sa, iv 0, iv 0, .val .null, .unset] [(.ref v32), (.ref so)])) rfl rfl (D d2_14)
  have O39 := Old0.wr O32 W35 prem3
  have K39 := Keep.wr K32 W35 (Or.inl (List.mem_of_getElem? (i := 0) rfl))
  have C38 := CHr.trans C32 (CHr.wr W35 sf32_so C32.1)
  have hk := Nat.le_trans hk (Keep.of_wr W35).1
  have N35 := Fr.snoc X35 N0 prem3
  have f35 : Fld Z h35 so "java/lang/String" "value" "[B" (.ref v32) := Fld.same W35 f37
  refine GoS.of (T' := T35) (f' := (mkF m 18 #[rv so, rv sa, iv 0, iv 0, .val .null, .unset] [(.ref so)])) (fun _ k => st32 _ (st34 _ (st35 _ (XS.aloadN X35.here hx rfl (D d2_17) rfl rfl k)))) ?_
  have sf41 : Safe Z own_EL T32.vm h35 so := (Safe.wr W35 sf32_so C32.1 sf32_so)
  have f42 : Exa Z h35 so "java/lang/String" := (Exa.wr W35 f36)
  have sp40_so : Safe Z own_EL T32.vm h35 so := sf41
  obtain ⟨c40, T40, h40, k140, v40, kc40, X40, e40, E40, hS, hk40, hZ, hown, A40, Fc40, Fv40, V40, -, -, Cq40, -, sn40, st40⟩ := ldcCH X35 hx hZ hown (own_w hw (i := 20) rfl) (own_wS hw) e35 hS hk hEL (by decide) C38.1 (vs := []) (z := (0 : Int32)) ⟨by decide +kernel, by decide +kernel⟩ (by decide) rfl (g := (mkF m 18 #[rv so, rv sa, iv 0, iv 0, .val .null, .unset] [(.ref so)])) rfl (D d2_18) (n := 0) (by decide +kernel) (by decide) (by decide) (by decide)
  have O40 := Old0.ext O39 E40
  have K40 := Keep.ext K39 E40
  have C40 := CHr.trans C38 Cq40
  have hk := hk40
  have sf40_so : Safe Z own_EL T40.vm h40 so := CHr.safe Cq40 f42.lt sp40_so
  have ne_so_c40 : so ≠ c40 := (sn40 so sf40_so).1
  have ne_so_v40 : so ≠ v40 := (sn40 so sf40_so).2
  obtain ⟨T43, X43, e43, st43⟩ := getF X40 hx hZ hown (host := "") (Or.inl (own_w hw (i := 27) rfl)) Via.refl e40 Fc40 (g := (mkF m 20 #[rv so, rv sa, iv 0, iv 0, .val .null, .unset] [(.ref c40), (.ref so)])) rfl rfl (D d2_20)
  have f45 : Exa Z h40 so "java/lang/String" := (Exa.ext E40 f42)
  have f46 : Fld Z h40 so "java/lang/String" "coder" "B" (.int 0) := (Fld.ext E40 (Fld.other W35 (Fld.ext E32 prem2) (Or.inr (slot_ne (Or.inr (own_w hw (i := 23) rfl)) (Or.inr (own_w hw (i := 22) rfl)) (by decide) (t := .byte) (t' := (.array .byte)) (by decide) (by decide)))))
  obtain ⟨T44, h44, X44, e44, W44, st44⟩ := putFN X43 hx hZ hown (own_w hw (i := 27) rfl) Via.refl e43 f46 f45 (Or.inr ⟨(own_w hw (i := 23) rfl), rfl, hnm⟩) (own_w hw (i := 8) rfl) (ty := .byte) (v' := (.int 0)) (by decide) rfl rfl (g := (mkF m 23 #[rv so, rv sa, iv 0, iv 0, .val .null, .unset] [(.int 0), (.ref so)])) rfl rfl (D d2_23)
  have O48 := Old0.wr O40 W44 prem3
  have K48 := Keep.wr K40 W44 (Or.inl (List.mem_of_getElem? (i := 0) rfl))
  have C47 := CHr.trans C40 (CHr.wr W44 sf40_so C40.1)
  have hk := Nat.le_trans hk (Keep.of_wr W44).1
  have N44 := Fr.snoc X44 N35 prem3
  have f44 : Fld Z h44 so "java/lang/String" "coder" "B" (.int 0) := Fld.same W44 f46
  have f49 : Fld Z h44 so "java/lang/String" "value" "[B" (.ref v32) := (Fld.other W44 (Fld.ext E40 f35) (Or.inr (slot_ne (Or.inr (own_w hw (i := 22) rfl)) (Or.inr (own_w hw (i := 23) rfl)) (by decide) (t := (.array .byte)) (t' := .byte) (by decide) (by decide))))
  have f50 : Arv Z h44 v32 kc32 .byte (0 : Int32) [] (.int 0) := (Arv.other (Arv.ext (Arv.other V32 W35 (Ne.symm ne_so_v32)) E40) W44 (Ne.symm ne_so_v32))
  refine GoS.of (T' := T44) (f' := (mkF m 26 #[rv so, rv sa, iv 0, iv 0, .val .null, .unset] [])) (fun _ k => st40 _ (st43 _ (st44 _ k))) ?_
  exact GoS.retV X44 hx hlk hS hk hZ hEL C47 e44 hret (D d2_26) (by decide) (by decide) (by rw [e44]; exact ⟨v32, kc32, rfl, N44, K48, f49, f44, f50⟩)
theorem ef_rm_str_0 (m : MethodId) (so : Addr) (sa : Addr) : entryFrame m #[(.ref so), (.ref sa)] 2 = mkF m 0 #[rv so, rv sa] [] := by first | (simp [entryFrame, mkF, argsToLocals, Value.category]; done) | rfl
set_option maxRecDepth 65536 in
set_option maxHeartbeats 40000000 in
theorem rm_str_0 {l : Launch} {Z : State} {a0 : Array Value} {A : Nat → Addr} {KC : Nat → Cell} {IC : Nat → Int32} {VC : Nat → Value} (hw : ∀ d ∈ tables_1, d.before a0 Z = true) (G : own_Ctx Z A KC IC VC) (so : Addr) (sa : Addr) (ks : ClassId) (h0 : Heap) (O0 : Ext Z.heap h0) (prem0 : Exa Z h0 so "java/lang/String") (prem1 : Fld Z h0 so "java/lang/String" "value" "[B" .null) (prem2 : Fld Z h0 so "java/lang/String" "coder" "B" (.int (0 : Int32))) (prem3 : Z.heap.size ≤ so) (prem4 : Arv Z h0 sa ks .char (0 : Int32) [] (.int (0 : Int32))) :
    OkS l Z own_EL own_m12 jdk_42_method_3_code 2 none ({ frames := 2, cells := 4, slots := 8, locals := 29 } : Room) #[(.ref so), (.ref sa)] h0
      (fun v h L => ∃ da : Addr, ∃ kd : ClassId, v = none ∧ (Fr Z.heap.size L) ∧ (Keep h0 h [so]) ∧ (Fld Z h so "java/lang/String" "value" "[B" (.ref da)) ∧ (Fld Z h so "java/lang/String" "coder" "B" (.int (0 : Int32))) ∧ (Arv Z h da kd .byte (0 : Int32) [] (.int (0 : Int32)))) := by
  refine OkS.mk pn13 ?_
  intro p e s m below meth c T0 hx hby hml hown hnm hret hlk hZ e0 C0 hS X0
  have hk := Nat.zero_le h0.size
  have hEL := own_EW hw
  refine GoS.cast (ef_rm_str_0 m so sa) ?_
  have D := @hb _ _ hby
  have N0 := Fr.nil Z.heap.size
  have K0 : Keep h0 h0 [so] := Keep.refl _ _
  obtain ⟨cl51, Ar51, qk51, S51, Ng51, H51, G51⟩ := id prem4
  refine GoS.of (T' := T0) (f' := (mkF m 6 #[rv so, rv sa] [.null, (.int 0), (.int 0), (.ref sa), (.ref so)])) (fun _ k => XS.aloadN X0.here hx rfl (D d1_0) rfl rfl (XS.aloadN X0.here hx rfl (D d1_1) rfl rfl (XS.iconst X0.here hx rfl (D d1_2) (XS.aloadN X0.here hx rfl (D d1_3) rfl rfl (X0.arraylength hx (by rw [e0]; exact Ar51.1) (State.isArrayOf_alike hZ.alike Ar51.2.1) (g := (mkF m 4 #[rv so, rv sa] [(.ref sa), (.int 0), (.ref sa), (.ref so)])) rfl rfl (D d1_4) _ (by rw [len_of S51 Ng51]; exact (XS.aconstNull X0.here hx rfl (D d1_5) k))))))) ?_
  obtain ⟨T52, v52, L52, X52, q52, hS, hg52, hZ, hown, Cq52, st52⟩ := callNewS X0 hx hZ (y := own_m9) rfl hS hk hEL C0.1 hown (own_w hw (i := 13) rfl) (own_w hw (i := 14) rfl) (own_w hw (i := 9) rfl) (own_w hw (i := 16) rfl) (by decide) (rm_str4_0 hw G so sa  h0 O0 prem0 prem1 prem2 prem3) e0 (W := 0) (by decide) (by decide) (by decide) (by decide) (g := (mkF m 6 #[rv so, rv sa] [.null, (.int 0), (.int 0), (.ref sa), (.ref so)])) rfl (by rw [hml]; rfl) (a := so) (argsL := [(.ref sa), (.int 0), (.int 0), .null]) (rest := []) (lenOf pd11 rfl) rfl rfl (Nat.le_of_eq rfl) (D d1_6)
  obtain ⟨da_52, kd_52, rfl, N52q, K52q, p52_0, p52_1, p52_2⟩ := q52
  have N52 := Fr.app N0 N52q
  have O53 := Old0.keep O0 K52q (allS prem3 all0)
  have K53 := Keep.trans K0 K52q (allS (Or.inl (List.mem_of_getElem? (i := 0) rfl)) all0)
  have C52 := CHr.trans C0 Cq52
  have hk := Nat.le_refl T52.heap.size
  refine GoS.of (T' := T52) (f' := (mkF m 9 #[rv so, rv sa] [])) (fun _ k => st52 _ k) ?_
  exact GoS.retV X52 hx hlk hS hk hZ hEL C52 rfl hret (D d1_9) (by decide) (by decide) ⟨da_52, kd_52, rfl, N52, K53, p52_0, p52_1, p52_2⟩
theorem own_mg (bs : List Int32) (i : Nat) : (bs.map Value.int).getD i (.int 0) = .int (bs.getD i 0) := by
  simp only [List.getD_eq_getElem?_getD, List.getElem?_map]
  cases bs[i]? <;> rfl
theorem own_fldu {Z : State} {h : Heap} {a : Addr} {C n d : String} {v w : Value} (F : Fld Z h a C n d v) (G : Fld Z h a C n d w) : v = w := Classical.byContradiction fun q => Fld.ne F G q rfl
theorem own_arvu {Z : State} {h : Heap} {a : Addr} {k k' : ClassId} {ty ty' : FieldType} {z z' : Int32} {vs vs' : List Value} {d d' : Value} (A : Arv Z h a k ty z vs d) (B : Arv Z h a k' ty' z' vs' d') : z = z' ∧ ∀ i, i < z.toNatClampNeg → vs.getD i d = vs'.getD i d' := by
  obtain ⟨c, A1, -, A2, A3, A4, -⟩ := A
  obtain ⟨c', B1, -, B2, B3, B4, -⟩ := B
  cases A1.1.symm.trans B1.1
  have e : z.toNatClampNeg = z'.toNatClampNeg := A2.symm.trans B2
  refine ⟨by rw [← (back32 A3).1, ← (back32 B3).1, e], fun i hi => ?_⟩
  have h1 := A4 i (by omega)
  have h2 := B4 i (by omega)
  exact Option.some.inj (h1.symm.trans h2)
theorem own_strid {Z : State} {h : Heap} {a b va vb : Addr} {k k' : ClassId} {n m : Int32} {bs ts : List Int32} (e : a = b) (F : Fld Z h a "java/lang/String" "value" "[B" (.ref va)) (G : Fld Z h b "java/lang/String" "value" "[B" (.ref vb)) (A : Arv Z h va k .byte n (bs.map Value.int) (.int 0)) (B : Arv Z h vb k' .byte m (ts.map Value.int) (.int 0)) : n = m ∧ ∀ i, i < m.toNatClampNeg → bs.getD i 0 = ts.getD i 0 := by
  subst e
  cases Value.ref.inj (own_fldu F G)
  obtain ⟨e1, e2⟩ := own_arvu A B
  subst e1
  refine ⟨rfl, fun i hi => ?_⟩
  have q := e2 i hi
  rw [own_mg, own_mg] at q
  exact Value.int.inj q
def own_eq_hits (n : Int32) (bs : List Int32) : Int32 := if n = 4 then (if bs.getD 0 0 = 104 then (if bs.getD 1 0 = 105 then (if bs.getD 2 0 = 116 then (if bs.getD 3 0 = 115 then 1 else 0) else 0) else 0) else 0) else 0
theorem own_is_hits {n : Int32} {bs : List Int32} (hn : n = 4) (h0 : bs.getD 0 0 = 104) (h1 : bs.getD 1 0 = 105) (h2 : bs.getD 2 0 = 116) (h3 : bs.getD 3 0 = 115) : own_eq_hits n bs = 1 := by rw [own_eq_hits, if_pos hn, if_pos h0, if_pos h1, if_pos h2, if_pos h3]
theorem own_inv_hits {n : Int32} {bs : List Int32} (h : own_eq_hits n bs = 1) : n = 4 ∧ bs.getD 0 0 = 104 ∧ bs.getD 1 0 = 105 ∧ bs.getD 2 0 = 116 ∧ bs.getD 3 0 = 115 := by
  unfold own_eq_hits at h
  repeat' split at h
  all_goals first | (exact absurd h (by decide)) | (refine ⟨?_, ?_, ?_, ?_, ?_⟩ <;> assumption)
theorem own_01_hits {n : Int32} {bs : List Int32} (h : ¬ own_eq_hits n bs = 1) : own_eq_hits n bs = 0 := by
  unfold own_eq_hits at h ⊢
  repeat' split
  all_goals first | rfl | (exfalso; simp_all)
theorem own_idt_hits {Z : State} {h : Heap} {a b va vb : Addr} {k k' : ClassId} {n : Int32} {bs : List Int32} (e : a = b) (F : Fld Z h a "java/lang/String" "value" "[B" (.ref va)) (G : Fld Z h b "java/lang/String" "value" "[B" (.ref vb)) (A : Arv Z h va k .byte n (bs.map Value.int) (.int 0)) (B : Arv Z h vb k' .byte (4 : Int32) (([104, 105, 116, 115] : List Int32).map Value.int) (.int 0)) : own_eq_hits n bs = 1 := by
  obtain ⟨e1, e2⟩ := own_strid e F G A B
  exact own_is_hits e1 (e2 0 (by decide)) (e2 1 (by decide)) (e2 2 (by decide)) (e2 3 (by decide))
def own_eq_results (n : Int32) (bs : List Int32) : Int32 := if n = 7 then (if bs.getD 0 0 = 114 then (if bs.getD 1 0 = 101 then (if bs.getD 2 0 = 115 then (if bs.getD 3 0 = 117 then (if bs.getD 4 0 = 108 then (if bs.getD 5 0 = 116 then (if bs.getD 6 0 = 115 then 1 else 0) else 0) else 0) else 0) else 0) else 0) else 0) else 0
theorem own_is_results {n : Int32} {bs : List Int32} (hn : n = 7) (h0 : bs.getD 0 0 = 114) (h1 : bs.getD 1 0 = 101) (h2 : bs.getD 2 0 = 115) (h3 : bs.getD 3 0 = 117) (h4 : bs.getD 4 0 = 108) (h5 : bs.getD 5 0 = 116) (h6 : bs.getD 6 0 = 115) : own_eq_results n bs = 1 := by rw [own_eq_results, if_pos hn, if_pos h0, if_pos h1, if_pos h2, if_pos h3, if_pos h4, if_pos h5, if_pos h6]
theorem own_inv_results {n : Int32} {bs : List Int32} (h : own_eq_results n bs = 1) : n = 7 ∧ bs.getD 0 0 = 114 ∧ bs.getD 1 0 = 101 ∧ bs.getD 2 0 = 115 ∧ bs.getD 3 0 = 117 ∧ bs.getD 4 0 = 108 ∧ bs.getD 5 0 = 116 ∧ bs.getD 6 0 = 115 := by
  unfold own_eq_results at h
  repeat' split at h
  all_goals first | (exact absurd h (by decide)) | (refine ⟨?_, ?_, ?_, ?_, ?_, ?_, ?_, ?_⟩ <;> assumption)
theorem own_01_results {n : Int32} {bs : List Int32} (h : ¬ own_eq_results n bs = 1) : own_eq_results n bs = 0 := by
  unfold own_eq_results at h ⊢
  repeat' split
  all_goals first | rfl | (exfalso; simp_all)
theorem own_idt_results {Z : State} {h : Heap} {a b va vb : Addr} {k k' : ClassId} {n : Int32} {bs : List Int32} (e : a = b) (F : Fld Z h a "java/lang/String" "value" "[B" (.ref va)) (G : Fld Z h b "java/lang/String" "value" "[B" (.ref vb)) (A : Arv Z h va k .byte n (bs.map Value.int) (.int 0)) (B : Arv Z h vb k' .byte (7 : Int32) (([114, 101, 115, 117, 108, 116, 115] : List Int32).map Value.int) (.int 0)) : own_eq_results n bs = 1 := by
  obtain ⟨e1, e2⟩ := own_strid e F G A B
  exact own_is_results e1 (e2 0 (by decide)) (e2 1 (by decide)) (e2 2 (by decide)) (e2 3 (by decide)) (e2 4 (by decide)) (e2 5 (by decide)) (e2 6 (by decide))
def own_eq_validate (n : Int32) (bs : List Int32) : Int32 := if n = 8 then (if bs.getD 0 0 = 118 then (if bs.getD 1 0 = 97 then (if bs.getD 2 0 = 108 then (if bs.getD 3 0 = 105 then (if bs.getD 4 0 = 100 then (if bs.getD 5 0 = 97 then (if bs.getD 6 0 = 116 then (if bs.getD 7 0 = 101 then 1 else 0) else 0) else 0) else 0) else 0) else 0) else 0) else 0) else 0
theorem own_is_validate {n : Int32} {bs : List Int32} (hn : n = 8) (h0 : bs.getD 0 0 = 118) (h1 : bs.getD 1 0 = 97) (h2 : bs.getD 2 0 = 108) (h3 : bs.getD 3 0 = 105) (h4 : bs.getD 4 0 = 100) (h5 : bs.getD 5 0 = 97) (h6 : bs.getD 6 0 = 116) (h7 : bs.getD 7 0 = 101) : own_eq_validate n bs = 1 := by rw [own_eq_validate, if_pos hn, if_pos h0, if_pos h1, if_pos h2, if_pos h3, if_pos h4, if_pos h5, if_pos h6, if_pos h7]
theorem own_inv_validate {n : Int32} {bs : List Int32} (h : own_eq_validate n bs = 1) : n = 8 ∧ bs.getD 0 0 = 118 ∧ bs.getD 1 0 = 97 ∧ bs.getD 2 0 = 108 ∧ bs.getD 3 0 = 105 ∧ bs.getD 4 0 = 100 ∧ bs.getD 5 0 = 97 ∧ bs.getD 6 0 = 116 ∧ bs.getD 7 0 = 101 := by
  unfold own_eq_validate at h
  repeat' split at h
  all_goals first | (exact absurd h (by decide)) | (refine ⟨?_, ?_, ?_, ?_, ?_, ?_, ?_, ?_, ?_⟩ <;> assumption)
theorem own_01_validate {n : Int32} {bs : List Int32} (h : ¬ own_eq_validate n bs = 1) : own_eq_validate n bs = 0 := by
  unfold own_eq_validate at h ⊢
  repeat' split
  all_goals first | rfl | (exfalso; simp_all)
theorem own_idt_validate {Z : State} {h : Heap} {a b va vb : Addr} {k k' : ClassId} {n : Int32} {bs : List Int32} (e : a = b) (F : Fld Z h a "java/lang/String" "value" "[B" (.ref va)) (G : Fld Z h b "java/lang/String" "value" "[B" (.ref vb)) (A : Arv Z h va k .byte n (bs.map Value.int) (.int 0)) (B : Arv Z h vb k' .byte (8 : Int32) (([118, 97, 108, 105, 100, 97, 116, 101] : List Int32).map Value.int) (.int 0)) : own_eq_validate n bs = 1 := by
  obtain ⟨e1, e2⟩ := own_strid e F G A B
  exact own_is_validate e1 (e2 0 (by decide)) (e2 1 (by decide)) (e2 2 (by decide)) (e2 3 (by decide)) (e2 4 (by decide)) (e2 5 (by decide)) (e2 6 (by decide)) (e2 7 (by decide))
theorem own_ex_hits_results {n : Int32} {bs : List Int32} (h : own_eq_hits n bs = 1) : own_eq_results n bs = 0 := by
  have q := own_inv_hits h
  rw [own_eq_results, if_neg (by rw [q.1]; decide)]
theorem own_ex_hits_validate {n : Int32} {bs : List Int32} (h : own_eq_hits n bs = 1) : own_eq_validate n bs = 0 := by
  have q := own_inv_hits h
  rw [own_eq_validate, if_neg (by rw [q.1]; decide)]
theorem own_ex_results_hits {n : Int32} {bs : List Int32} (h : own_eq_results n bs = 1) : own_eq_hits n bs = 0 := by
  have q := own_inv_results h
  rw [own_eq_hits, if_neg (by rw [q.1]; decide)]
theorem own_ex_results_validate {n : Int32} {bs : List Int32} (h : own_eq_results n bs = 1) : own_eq_validate n bs = 0 := by
  have q := own_inv_results h
  rw [own_eq_validate, if_neg (by rw [q.1]; decide)]
theorem own_ex_validate_hits {n : Int32} {bs : List Int32} (h : own_eq_validate n bs = 1) : own_eq_hits n bs = 0 := by
  have q := own_inv_validate h
  rw [own_eq_hits, if_neg (by rw [q.1]; decide)]
theorem own_ex_validate_results {n : Int32} {bs : List Int32} (h : own_eq_validate n bs = 1) : own_eq_results n bs = 0 := by
  have q := own_inv_validate h
  rw [own_eq_results, if_neg (by rw [q.1]; decide)]
theorem d5_0 : decode jdk_43_method_13_code 0 = .ok (.aload_n 0, 1) := by decide +kernel
theorem d5_1 : decode jdk_43_method_13_code 1 = .ok (.arraylength, 1) := by decide +kernel
theorem d5_2 : decode jdk_43_method_13_code 2 = .ok (.aload_n 1, 1) := by decide +kernel
theorem d5_3 : decode jdk_43_method_13_code 3 = .ok (.arraylength, 1) := by decide +kernel
theorem d5_4 : decode jdk_43_method_13_code 4 = .ok (.if_icmp .ne 30, 3) := by decide +kernel
theorem d5_7 : decode jdk_43_method_13_code 7 = .ok (.iconst 0, 1) := by decide +kernel
theorem d5_8 : decode jdk_43_method_13_code 8 = .ok (.istore_n 2, 1) := by decide +kernel
theorem d5_9 : decode jdk_43_method_13_code 9 = .ok (.iload_n 2, 1) := by decide +kernel
theorem d5_10 : decode jdk_43_method_13_code 10 = .ok (.aload_n 0, 1) := by decide +kernel
theorem d5_11 : decode jdk_43_method_13_code 11 = .ok (.arraylength, 1) := by decide +kernel
theorem d5_12 : decode jdk_43_method_13_code 12 = .ok (.if_icmp .ge 20, 3) := by decide +kernel
theorem d5_15 : decode jdk_43_method_13_code 15 = .ok (.aload_n 0, 1) := by decide +kernel
theorem d5_16 : decode jdk_43_method_13_code 16 = .ok (.iload_n 2, 1) := by decide +kernel
theorem d5_17 : decode jdk_43_method_13_code 17 = .ok (.baload, 1) := by decide +kernel
theorem d5_18 : decode jdk_43_method_13_code 18 = .ok (.aload_n 1, 1) := by decide +kernel
theorem d5_19 : decode jdk_43_method_13_code 19 = .ok (.iload_n 2, 1) := by decide +kernel
theorem d5_20 : decode jdk_43_method_13_code 20 = .ok (.baload, 1) := by decide +kernel
theorem d5_21 : decode jdk_43_method_13_code 21 = .ok (.if_icmp .eq 5, 3) := by decide +kernel
theorem d5_26 : decode jdk_43_method_13_code 26 = .ok (.iinc 2 1, 3) := by decide +kernel
theorem d5_29 : decode jdk_43_method_13_code 29 = .ok (.goto (-20), 3) := by decide +kernel
theorem d5_32 : decode jdk_43_method_13_code 32 = .ok (.iconst 1, 1) := by decide +kernel
theorem d5_33 : decode jdk_43_method_13_code 33 = .ok (.ireturn, 1) := by decide +kernel
theorem d5_24 : decode jdk_43_method_13_code 24 = .ok (.iconst 0, 1) := by decide +kernel
theorem d5_25 : decode jdk_43_method_13_code 25 = .ok (.ireturn, 1) := by decide +kernel
theorem d5_34 : decode jdk_43_method_13_code 34 = .ok (.iconst 0, 1) := by decide +kernel
theorem d5_35 : decode jdk_43_method_13_code 35 = .ok (.ireturn, 1) := by decide +kernel
abbrev own_m14 : MethodName := (⟨"java/lang/StringLatin1", "equals", "([B[B)Z"⟩ : MethodName)
theorem ef_rm_l1g_hits (m : MethodId) (xg : Addr) (xc : Addr) : entryFrame m #[(.ref xg), (.ref xc)] 3 = mkF m 0 #[rv xg, rv xc, .unset] [] := by first | (simp [entryFrame, mkF, argsToLocals, Value.category]; done) | rfl
theorem pn15 : plainFor (⟨"java/lang/StringLatin1", "equals", "([B[B)Z"⟩ : MethodName) = true := by first | exact plainFor_of_name (by first | (simp [plainName, overriddenIn]; done) | decide +kernel) | decide +kernel
set_option maxRecDepth 65536 in
set_option maxHeartbeats 40000000 in
theorem rm_l1g_hits {l : Launch} {Z : State} {a0 : Array Value} {A : Nat → Addr} {KC : Nat → Cell} {IC : Nat → Int32} {VC : Nat → Value} (hw : ∀ d ∈ tables_1, d.before a0 Z = true) (G : own_Ctx Z A KC IC VC) (xg : Addr) (xc : Addr) (kg : ClassId) (kc : ClassId) (n : Int32) (bs : List Int32) (h0 : Heap) (O0 : Ext Z.heap h0) (prem0 : Arv Z h0 xg kg .byte n (bs.map Value.int) (.int (0 : Int32))) (prem1 : Arv Z h0 xc kc .byte (4 : Int32) [(.int (104 : Int32)), (.int (105 : Int32)), (.int (116 : Int32)), (.int (115 : Int32))] (.int (0 : Int32))) :
    Ok l Z own_m14 jdk_43_method_13_code 3 (some .boolean) ({ frames := 0, cells := 0, slots := 0, locals := 0 } : Room) #[(.ref xg), (.ref xc)] h0
      (fun v h L => v = some (.int (own_eq_hits n bs)) ∧ (h = h0) ∧ (L = [])) := by
  refine Ok.mk pn15 ?_
  intro p e s m below meth c T0 hx hby hml hown hnm hret hlk hZ e0 X0
  refine Go.cast (ef_rm_l1g_hits m xg xc) ?_
  have D := @hb _ _ hby
  have N0 := Fr.nil Z.heap.size
  have K0 : Keep h0 h0 [] := Keep.refl _ _
  obtain ⟨cl54, Ar54, qk54, S54, Ng54, H54, G54⟩ := id prem0
  obtain ⟨cl55, Ar55, qk55, S55, Ng55, H55, G55⟩ := id prem1
  refine Go.of (T' := T0) (f' := (mkF m 4 #[rv xg, rv xc, .unset] [(.int 4), (.int n)])) (fun _ k => XS.aloadN X0.here hx rfl (D d5_0) rfl rfl (X0.arraylength hx (by rw [e0]; exact Ar54.1) (State.isArrayOf_alike hZ.alike Ar54.2.1) (g := (mkF m 1 #[rv xg, rv xc, .unset] [(.ref xg)])) rfl rfl (D d5_1) _ (by rw [len_of S54 Ng54]; exact (XS.aloadN X0.here hx rfl (D d5_2) rfl rfl (X0.arraylength hx (by rw [e0]; exact Ar55.1) (State.isArrayOf_alike hZ.alike Ar55.2.1) (g := (mkF m 3 #[rv xg, rv xc, .unset] [(.ref xc), (.int n)])) rfl rfl (D d5_3) _ (by rw [len_of S55 Ng55]; exact k)))))) ?_
  by_cases hc56 : n = (4 : Int32)
  · skip
    refine Go.of (T' := T0) (f' := (mkF m 7 #[rv xg, rv xc, .unset] [])) (fun _ k => XS.icmpNo X0.here hx rfl (D d5_4) rfl (teq hc56).2 k) ?_
    subst hc56
    obtain ⟨cl57, Ar57, qk57, S57, Ng57, H57, G57⟩ := id prem0
    obtain ⟨cl59, Ar59, qk59, S59, Ng59, H59, G59⟩ := id prem0
    have hin59 := inb_of (j := (0 : Int32)) S59 ⟨by decide, by decide⟩
    obtain ⟨cl60, Ar60, qk60, S60, Ng60, H60, G60⟩ := id prem1
    have hin60 := inb_of (j := (0 : Int32)) S60 ⟨by decide, by decide⟩
    refine Go.of (T' := T0) (f' := (mkF m 21 #[rv xg, rv xc, iv 0] [(.int 104), (.int (bs.getD 0 0))])) (fun _ k => XS.iconst X0.here hx rfl (D d5_7) (XS.istoreN X0.here hx rfl (D d5_8) rfl (l' := #[rv xg, rv xc, iv 0]) rfl (XS.iloadN X0.here hx rfl (D d5_9) rfl (XS.aloadN X0.here hx rfl (D d5_10) rfl rfl (X0.arraylength hx (by rw [e0]; exact Ar57.1) (State.isArrayOf_alike hZ.alike Ar57.2.1) (g := (mkF m 11 #[rv xg, rv xc, iv 0] [(.ref xg), (.int 0)])) rfl rfl (D d5_11) _ (by rw [len_of S57 Ng57]; exact (XS.icmpNo X0.here hx rfl (D d5_12) rfl (tlt (by decide : (0 : Int32) < (4 : Int32))).2.1 (XS.aloadN X0.here hx rfl (D d5_15) rfl rfl (XS.iloadN X0.here hx rfl (D d5_16) rfl (X0.baloadBytes hx (j := (0 : Int32)) (v := (.int (bs.getD 0 0))) (by rw [e0]; exact Ar59.1) (State.isArrayOf_alike hZ.alike Ar59.2.1) Ar59.2.2 hin59 (H59.at hin59 (own_mg bs 0)) (g := (mkF m 17 #[rv xg, rv xc, iv 0] [(.int 0), (.ref xg)])) rfl rfl (D d5_17) _ (XS.aloadN X0.here hx rfl (D d5_18) rfl rfl (XS.iloadN X0.here hx rfl (D d5_19) rfl (X0.baloadBytes hx (j := (0 : Int32)) (v := (.int 104)) (by rw [e0]; exact Ar60.1) (State.isArrayOf_alike hZ.alike Ar60.2.1) Ar60.2.2 hin60 (H60.at hin60 rfl) (g := (mkF m 20 #[rv xg, rv xc, iv 0] [(.int 0), (.ref xc), (.int (bs.getD 0 0))])) rfl rfl (D d5_20) _ k))))))))))))) ?_
    by_cases hc61 : (bs.getD 0 0) = (104 : Int32)
    · skip
      obtain ⟨cl62, Ar62, qk62, S62, Ng62, H62, G62⟩ := id prem0
      obtain ⟨cl64, Ar64, qk64, S64, Ng64, H64, G64⟩ := id prem0
      have hin64 := inb_of (j := (1 : Int32)) S64 ⟨by decide, by decide⟩
      obtain ⟨cl65, Ar65, qk65, S65, Ng65, H65, G65⟩ := id prem1
      have hin65 := inb_of (j := (1 : Int32)) S65 ⟨by decide, by decide⟩
      refine Go.of (T' := T0) (f' := (mkF m 21 #[rv xg, rv xc, iv 1] [(.int 105), (.int (bs.getD 1 0))])) (fun _ k => XS.icmpYes X0.here hx rfl (pc0 := 21) (pc' := 26) rfl (D d5_21) rfl (teq hc61).1 (by decide) (by decide) (XS.iinc X0.here hx rfl (D d5_26) rfl (l' := #[rv xg, rv xc, iv 1]) rfl (XS.goto X0.here hx rfl (pc0 := 29) (pc' := 9) rfl (D d5_29) (by decide) (by decide) (XS.iloadN X0.here hx rfl (D d5_9) rfl (XS.aloadN X0.here hx rfl (D d5_10) rfl rfl (X0.arraylength hx (by rw [e0]; exact Ar62.1) (State.isArrayOf_alike hZ.alike Ar62.2.1) (g := (mkF m 11 #[rv xg, rv xc, iv 1] [(.ref xg), (.int 1)])) rfl rfl (D d5_11) _ (by rw [len_of S62 Ng62]; exact (XS.icmpNo X0.here hx rfl (D d5_12) rfl (tlt (by decide : (1 : Int32) < (4 : Int32))).2.1 (XS.aloadN X0.here hx rfl (D d5_15) rfl rfl (XS.iloadN X0.here hx rfl (D d5_16) rfl (X0.baloadBytes hx (j := (1 : Int32)) (v := (.int (bs.getD 1 0))) (by rw [e0]; exact Ar64.1) (State.isArrayOf_alike hZ.alike Ar64.2.1) Ar64.2.2 hin64 (H64.at hin64 (own_mg bs 1)) (g := (mkF m 17 #[rv xg, rv xc, iv 1] [(.int 1), (.ref xg)])) rfl rfl (D d5_17) _ (XS.aloadN X0.here hx rfl (D d5_18) rfl rfl (XS.iloadN X0.here hx rfl (D d5_19) rfl (X0.baloadBytes hx (j := (1 : Int32)) (v := (.int 105)) (by rw [e0]; exact Ar65.1) (State.isArrayOf_alike hZ.alike Ar65.2.1) Ar65.2.2 hin65 (H65.at hin65 rfl) (g := (mkF m 20 #[rv xg, rv xc, iv 1] [(.int 1), (.ref xc), (.int (bs.getD 1 0))])) rfl rfl (D d5_20) _ k)))))))))))))) ?_
      by_cases hc66 : (bs.getD 1 0) = (105 : Int32)
      · skip
        obtain ⟨cl67, Ar67, qk67, S67, Ng67, H67, G67⟩ := id prem0
        obtain ⟨cl69, Ar69, qk69, S69, Ng69, H69, G69⟩ := id prem0
        have hin69 := inb_of (j := (2 : Int32)) S69 ⟨by decide, by decide⟩
        obtain ⟨cl70, Ar70, qk70, S70, Ng70, H70, G70⟩ := id prem1
        have hin70 := inb_of (j := (2 : Int32)) S70 ⟨by decide, by decide⟩
        refine Go.of (T' := T0) (f' := (mkF m 21 #[rv xg, rv xc, iv 2] [(.int 116), (.int (bs.getD 2 0))])) (fun _ k => XS.icmpYes X0.here hx rfl (pc0 := 21) (pc' := 26) rfl (D d5_21) rfl (teq hc66).1 (by decide) (by decide) (XS.iinc X0.here hx rfl (D d5_26) rfl (l' := #[rv xg, rv xc, iv 2]) rfl (XS.goto X0.here hx rfl (pc0 := 29) (pc' := 9) rfl (D d5_29) (by decide) (by decide) (XS.iloadN X0.here hx rfl (D d5_9) rfl (XS.aloadN X0.here hx rfl (D d5_10) rfl rfl (X0.arraylength hx (by rw [e0]; exact Ar67.1) (State.isArrayOf_alike hZ.alike Ar67.2.1) (g := (mkF m 11 #[rv xg, rv xc, iv 2] [(.ref xg), (.int 2)])) rfl rfl (D d5_11) _ (by rw [len_of S67 Ng67]; exact (XS.icmpNo X0.here hx rfl (D d5_12) rfl (tlt (by decide : (2 : Int32) < (4 : Int32))).2.1 (XS.aloadN X0.here hx rfl (D d5_15) rfl rfl (XS.iloadN X0.here hx rfl (D d5_16) rfl (X0.baloadBytes hx (j := (2 : Int32)) (v := (.int (bs.getD 2 0))) (by rw [e0]; exact Ar69.1) (State.isArrayOf_alike hZ.alike Ar69.2.1) Ar69.2.2 hin69 (H69.at hin69 (own_mg bs 2)) (g := (mkF m 17 #[rv xg, rv xc, iv 2] [(.int 2), (.ref xg)])) rfl rfl (D d5_17) _ (XS.aloadN X0.here hx rfl (D d5_18) rfl rfl (XS.iloadN X0.here hx rfl (D d5_19) rfl (X0.baloadBytes hx (j := (2 : Int32)) (v := (.int 116)) (by rw [e0]; exact Ar70.1) (State.isArrayOf_alike hZ.alike Ar70.2.1) Ar70.2.2 hin70 (H70.at hin70 rfl) (g := (mkF m 20 #[rv xg, rv xc, iv 2] [(.int 2), (.ref xc), (.int (bs.getD 2 0))])) rfl rfl (D d5_20) _ k)))))))))))))) ?_
        by_cases hc71 : (bs.getD 2 0) = (116 : Int32)
        · skip
          obtain ⟨cl72, Ar72, qk72, S72, Ng72, H72, G72⟩ := id prem0
          obtain ⟨cl74, Ar74, qk74, S74, Ng74, H74, G74⟩ := id prem0
          have hin74 := inb_of (j := (3 : Int32)) S74 ⟨by decide, by decide⟩
          obtain ⟨cl75, Ar75, qk75, S75, Ng75, H75, G75⟩ := id prem1
          have hin75 := inb_of (j := (3 : Int32)) S75 ⟨by decide, by decide⟩
          refine Go.of (T' := T0) (f' := (mkF m 21 #[rv xg, rv xc, iv 3] [(.int 115), (.int (bs.getD 3 0))])) (fun _ k => XS.icmpYes X0.here hx rfl (pc0 := 21) (pc' := 26) rfl (D d5_21) rfl (teq hc71).1 (by decide) (by decide) (XS.iinc X0.here hx rfl (D d5_26) rfl (l' := #[rv xg, rv xc, iv 3]) rfl (XS.goto X0.here hx rfl (pc0 := 29) (pc' := 9) rfl (D d5_29) (by decide) (by decide) (XS.iloadN X0.here hx rfl (D d5_9) rfl (XS.aloadN X0.here hx rfl (D d5_10) rfl rfl (X0.arraylength hx (by rw [e0]; exact Ar72.1) (State.isArrayOf_alike hZ.alike Ar72.2.1) (g := (mkF m 11 #[rv xg, rv xc, iv 3] [(.ref xg), (.int 3)])) rfl rfl (D d5_11) _ (by rw [len_of S72 Ng72]; exact (XS.icmpNo X0.here hx rfl (D d5_12) rfl (tlt (by decide : (3 : Int32) < (4 : Int32))).2.1 (XS.aloadN X0.here hx rfl (D d5_15) rfl rfl (XS.iloadN X0.here hx rfl (D d5_16) rfl (X0.baloadBytes hx (j := (3 : Int32)) (v := (.int (bs.getD 3 0))) (by rw [e0]; exact Ar74.1) (State.isArrayOf_alike hZ.alike Ar74.2.1) Ar74.2.2 hin74 (H74.at hin74 (own_mg bs 3)) (g := (mkF m 17 #[rv xg, rv xc, iv 3] [(.int 3), (.ref xg)])) rfl rfl (D d5_17) _ (XS.aloadN X0.here hx rfl (D d5_18) rfl rfl (XS.iloadN X0.here hx rfl (D d5_19) rfl (X0.baloadBytes hx (j := (3 : Int32)) (v := (.int 115)) (by rw [e0]; exact Ar75.1) (State.isArrayOf_alike hZ.alike Ar75.2.1) Ar75.2.2 hin75 (H75.at hin75 rfl) (g := (mkF m 20 #[rv xg, rv xc, iv 3] [(.int 3), (.ref xc), (.int (bs.getD 3 0))])) rfl rfl (D d5_20) _ k)))))))))))))) ?_
          by_cases hc76 : (bs.getD 3 0) = (115 : Int32)
          · skip
            obtain ⟨cl77, Ar77, qk77, S77, Ng77, H77, G77⟩ := id prem0
            refine Go.of (T' := T0) (f' := (mkF m 33 #[rv xg, rv xc, iv 4] [(.int 1)])) (fun _ k => XS.icmpYes X0.here hx rfl (pc0 := 21) (pc' := 26) rfl (D d5_21) rfl (teq hc76).1 (by decide) (by decide) (XS.iinc X0.here hx rfl (D d5_26) rfl (l' := #[rv xg, rv xc, iv 4]) rfl (XS.goto X0.here hx rfl (pc0 := 29) (pc' := 9) rfl (D d5_29) (by decide) (by decide) (XS.iloadN X0.here hx rfl (D d5_9) rfl (XS.aloadN X0.here hx rfl (D d5_10) rfl rfl (X0.arraylength hx (by rw [e0]; exact Ar77.1) (State.isArrayOf_alike hZ.alike Ar77.2.1) (g := (mkF m 11 #[rv xg, rv xc, iv 4] [(.ref xg), (.int 4)])) rfl rfl (D d5_11) _ (by rw [len_of S77 Ng77]; exact (XS.icmpYes X0.here hx rfl (pc0 := 12) (pc' := 32) rfl (D d5_12) rfl (flt (by decide : ¬ ((4 : Int32) < (4 : Int32)))).2.1 (by decide) (by decide) (XS.iconst X0.here hx rfl (D d5_32) k))))))))) ?_
            exact Go.retB X0 hx hlk hret (by simp) (D d5_33) (by decide) (by decide) (z' := (1 : Int32)) rfl (by rw [e0]; exact ⟨by rw [own_eq_hits, if_pos rfl, if_pos hc61, if_pos hc66, if_pos hc71, if_pos hc76], rfl, by simp⟩)
          · skip
            refine Go.of (T' := T0) (f' := (mkF m 25 #[rv xg, rv xc, iv 3] [(.int 0)])) (fun _ k => XS.icmpNo X0.here hx rfl (D d5_21) rfl (feq hc76).1 (XS.iconst X0.here hx rfl (D d5_24) k)) ?_
            exact Go.retB X0 hx hlk hret (by simp) (D d5_25) (by decide) (by decide) (z' := (0 : Int32)) rfl (by rw [e0]; exact ⟨by rw [own_eq_hits, if_pos rfl, if_pos hc61, if_pos hc66, if_pos hc71, if_neg hc76], rfl, by simp⟩)
        · skip
          refine Go.of (T' := T0) (f' := (mkF m 25 #[rv xg, rv xc, iv 2] [(.int 0)])) (fun _ k => XS.icmpNo X0.here hx rfl (D d5_21) rfl (feq hc71).1 (XS.iconst X0.here hx rfl (D d5_24) k)) ?_
          exact Go.retB X0 hx hlk hret (by simp) (D d5_25) (by decide) (by decide) (z' := (0 : Int32)) rfl (by rw [e0]; exact ⟨by rw [own_eq_hits, if_pos rfl, if_pos hc61, if_pos hc66, if_neg hc71], rfl, by simp⟩)
      · skip
        refine Go.of (T' := T0) (f' := (mkF m 25 #[rv xg, rv xc, iv 1] [(.int 0)])) (fun _ k => XS.icmpNo X0.here hx rfl (D d5_21) rfl (feq hc66).1 (XS.iconst X0.here hx rfl (D d5_24) k)) ?_
        exact Go.retB X0 hx hlk hret (by simp) (D d5_25) (by decide) (by decide) (z' := (0 : Int32)) rfl (by rw [e0]; exact ⟨by rw [own_eq_hits, if_pos rfl, if_pos hc61, if_neg hc66], rfl, by simp⟩)
    · skip
      refine Go.of (T' := T0) (f' := (mkF m 25 #[rv xg, rv xc, iv 0] [(.int 0)])) (fun _ k => XS.icmpNo X0.here hx rfl (D d5_21) rfl (feq hc61).1 (XS.iconst X0.here hx rfl (D d5_24) k)) ?_
      exact Go.retB X0 hx hlk hret (by simp) (D d5_25) (by decide) (by decide) (z' := (0 : Int32)) rfl (by rw [e0]; exact ⟨by rw [own_eq_hits, if_pos rfl, if_neg hc61], rfl, by simp⟩)
  · skip
    refine Go.of (T' := T0) (f' := (mkF m 35 #[rv xg, rv xc, .unset] [(.int 0)])) (fun _ k => XS.icmpYes X0.here hx rfl (pc0 := 4) (pc' := 34) rfl (D d5_4) rfl (feq hc56).2 (by decide) (by decide) (XS.iconst X0.here hx rfl (D d5_34) k)) ?_
    exact Go.retB X0 hx hlk hret (by simp) (D d5_35) (by decide) (by decide) (z' := (0 : Int32)) rfl (by rw [e0]; exact ⟨by rw [own_eq_hits, if_neg hc56], rfl, by simp⟩)
theorem ef_rm_l1n_hits (m : MethodId) (xc : Addr) (xg : Addr) : entryFrame m #[(.ref xc), (.ref xg)] 3 = mkF m 0 #[rv xc, rv xg, .unset] [] := by first | (simp [entryFrame, mkF, argsToLocals, Value.category]; done) | rfl
set_option maxRecDepth 65536 in
set_option maxHeartbeats 40000000 in
theorem rm_l1n_hits {l : Launch} {Z : State} {a0 : Array Value} {A : Nat → Addr} {KC : Nat → Cell} {IC : Nat → Int32} {VC : Nat → Value} (hw : ∀ d ∈ tables_1, d.before a0 Z = true) (G : own_Ctx Z A KC IC VC) (xc : Addr) (xg : Addr) (kg : ClassId) (kc : ClassId) (n : Int32) (bs : List Int32) (h0 : Heap) (O0 : Ext Z.heap h0) (prem0 : Arv Z h0 xg kg .byte n (bs.map Value.int) (.int (0 : Int32))) (prem1 : Arv Z h0 xc kc .byte (4 : Int32) [(.int (104 : Int32)), (.int (105 : Int32)), (.int (116 : Int32)), (.int (115 : Int32))] (.int (0 : Int32))) :
    Ok l Z own_m14 jdk_43_method_13_code 3 (some .boolean) ({ frames := 0, cells := 0, slots := 0, locals := 0 } : Room) #[(.ref xc), (.ref xg)] h0
      (fun v h L => v = some (.int (own_eq_hits n bs)) ∧ (h = h0) ∧ (L = [])) := by
  refine Ok.mk pn15 ?_
  intro p e s m below meth c T0 hx hby hml hown hnm hret hlk hZ e0 X0
  refine Go.cast (ef_rm_l1n_hits m xc xg) ?_
  have D := @hb _ _ hby
  have N0 := Fr.nil Z.heap.size
  have K0 : Keep h0 h0 [] := Keep.refl _ _
  obtain ⟨cl79, Ar79, qk79, S79, Ng79, H79, G79⟩ := id prem1
  obtain ⟨cl80, Ar80, qk80, S80, Ng80, H80, G80⟩ := id prem0
  refine Go.of (T' := T0) (f' := (mkF m 4 #[rv xc, rv xg, .unset] [(.int n), (.int 4)])) (fun _ k => XS.aloadN X0.here hx rfl (D d5_0) rfl rfl (X0.arraylength hx (by rw [e0]; exact Ar79.1) (State.isArrayOf_alike hZ.alike Ar79.2.1) (g := (mkF m 1 #[rv xc, rv xg, .unset] [(.ref xc)])) rfl rfl (D d5_1) _ (by rw [len_of S79 Ng79]; exact (XS.aloadN X0.here hx rfl (D d5_2) rfl rfl (X0.arraylength hx (by rw [e0]; exact Ar80.1) (State.isArrayOf_alike hZ.alike Ar80.2.1) (g := (mkF m 3 #[rv xc, rv xg, .unset] [(.ref xg), (.int 4)])) rfl rfl (D d5_3) _ (by rw [len_of S80 Ng80]; exact k)))))) ?_
  by_cases hc81 : (4 : Int32) = n
  · skip
    refine Go.of (T' := T0) (f' := (mkF m 7 #[rv xc, rv xg, .unset] [])) (fun _ k => XS.icmpNo X0.here hx rfl (D d5_4) rfl (teq hc81).2 k) ?_
    subst hc81
    obtain ⟨cl82, Ar82, qk82, S82, Ng82, H82, G82⟩ := id prem1
    obtain ⟨cl84, Ar84, qk84, S84, Ng84, H84, G84⟩ := id prem1
    have hin84 := inb_of (j := (0 : Int32)) S84 ⟨by decide, by decide⟩
    obtain ⟨cl85, Ar85, qk85, S85, Ng85, H85, G85⟩ := id prem0
    have hin85 := inb_of (j := (0 : Int32)) S85 ⟨by decide, by decide⟩
    refine Go.of (T' := T0) (f' := (mkF m 21 #[rv xc, rv xg, iv 0] [(.int (bs.getD 0 0)), (.int 104)])) (fun _ k => XS.iconst X0.here hx rfl (D d5_7) (XS.istoreN X0.here hx rfl (D d5_8) rfl (l' := #[rv xc, rv xg, iv 0]) rfl (XS.iloadN X0.here hx rfl (D d5_9) rfl (XS.aloadN X0.here hx rfl (D d5_10) rfl rfl (X0.arraylength hx (by rw [e0]; exact Ar82.1) (State.isArrayOf_alike hZ.alike Ar82.2.1) (g := (mkF m 11 #[rv xc, rv xg, iv 0] [(.ref xc), (.int 0)])) rfl rfl (D d5_11) _ (by rw [len_of S82 Ng82]; exact (XS.icmpNo X0.here hx rfl (D d5_12) rfl (tlt (by decide : (0 : Int32) < (4 : Int32))).2.1 (XS.aloadN X0.here hx rfl (D d5_15) rfl rfl (XS.iloadN X0.here hx rfl (D d5_16) rfl (X0.baloadBytes hx (j := (0 : Int32)) (v := (.int 104)) (by rw [e0]; exact Ar84.1) (State.isArrayOf_alike hZ.alike Ar84.2.1) Ar84.2.2 hin84 (H84.at hin84 rfl) (g := (mkF m 17 #[rv xc, rv xg, iv 0] [(.int 0), (.ref xc)])) rfl rfl (D d5_17) _ (XS.aloadN X0.here hx rfl (D d5_18) rfl rfl (XS.iloadN X0.here hx rfl (D d5_19) rfl (X0.baloadBytes hx (j := (0 : Int32)) (v := (.int (bs.getD 0 0))) (by rw [e0]; exact Ar85.1) (State.isArrayOf_alike hZ.alike Ar85.2.1) Ar85.2.2 hin85 (H85.at hin85 (own_mg bs 0)) (g := (mkF m 20 #[rv xc, rv xg, iv 0] [(.int 0), (.ref xg), (.int 104)])) rfl rfl (D d5_20) _ k))))))))))))) ?_
    by_cases hc86 : (104 : Int32) = (bs.getD 0 0)
    · skip
      obtain ⟨cl87, Ar87, qk87, S87, Ng87, H87, G87⟩ := id prem1
      obtain ⟨cl89, Ar89, qk89, S89, Ng89, H89, G89⟩ := id prem1
      have hin89 := inb_of (j := (1 : Int32)) S89 ⟨by decide, by decide⟩
      obtain ⟨cl90, Ar90, qk90, S90, Ng90, H90, G90⟩ := id prem0
      have hin90 := inb_of (j := (1 : Int32)) S90 ⟨by decide, by decide⟩
      refine Go.of (T' := T0) (f' := (mkF m 21 #[rv xc, rv xg, iv 1] [(.int (bs.getD 1 0)), (.int 105)])) (fun _ k => XS.icmpYes X0.here hx rfl (pc0 := 21) (pc' := 26) rfl (D d5_21) rfl (teq hc86).1 (by decide) (by decide) (XS.iinc X0.here hx rfl (D d5_26) rfl (l' := #[rv xc, rv xg, iv 1]) rfl (XS.goto X0.here hx rfl (pc0 := 29) (pc' := 9) rfl (D d5_29) (by decide) (by decide) (XS.iloadN X0.here hx rfl (D d5_9) rfl (XS.aloadN X0.here hx rfl (D d5_10) rfl rfl (X0.arraylength hx (by rw [e0]; exact Ar87.1) (State.isArrayOf_alike hZ.alike Ar87.2.1) (g := (mkF m 11 #[rv xc, rv xg, iv 1] [(.ref xc), (.int 1)])) rfl rfl (D d5_11) _ (by rw [len_of S87 Ng87]; exact (XS.icmpNo X0.here hx rfl (D d5_12) rfl (tlt (by decide : (1 : Int32) < (4 : Int32))).2.1 (XS.aloadN X0.here hx rfl (D d5_15) rfl rfl (XS.iloadN X0.here hx rfl (D d5_16) rfl (X0.baloadBytes hx (j := (1 : Int32)) (v := (.int 105)) (by rw [e0]; exact Ar89.1) (State.isArrayOf_alike hZ.alike Ar89.2.1) Ar89.2.2 hin89 (H89.at hin89 rfl) (g := (mkF m 17 #[rv xc, rv xg, iv 1] [(.int 1), (.ref xc)])) rfl rfl (D d5_17) _ (XS.aloadN X0.here hx rfl (D d5_18) rfl rfl (XS.iloadN X0.here hx rfl (D d5_19) rfl (X0.baloadBytes hx (j := (1 : Int32)) (v := (.int (bs.getD 1 0))) (by rw [e0]; exact Ar90.1) (State.isArrayOf_alike hZ.alike Ar90.2.1) Ar90.2.2 hin90 (H90.at hin90 (own_mg bs 1)) (g := (mkF m 20 #[rv xc, rv xg, iv 1] [(.int 1), (.ref xg), (.int 105)])) rfl rfl (D d5_20) _ k)))))))))))))) ?_
      by_cases hc91 : (105 : Int32) = (bs.getD 1 0)
      · skip
        obtain ⟨cl92, Ar92, qk92, S92, Ng92, H92, G92⟩ := id prem1
        obtain ⟨cl94, Ar94, qk94, S94, Ng94, H94, G94⟩ := id prem1
        have hin94 := inb_of (j := (2 : Int32)) S94 ⟨by decide, by decide⟩
        obtain ⟨cl95, Ar95, qk95, S95, Ng95, H95, G95⟩ := id prem0
        have hin95 := inb_of (j := (2 : Int32)) S95 ⟨by decide, by decide⟩
        refine Go.of (T' := T0) (f' := (mkF m 21 #[rv xc, rv xg, iv 2] [(.int (bs.getD 2 0)), (.int 116)])) (fun _ k => XS.icmpYes X0.here hx rfl (pc0 := 21) (pc' := 26) rfl (D d5_21) rfl (teq hc91).1 (by decide) (by decide) (XS.iinc X0.here hx rfl (D d5_26) rfl (l' := #[rv xc, rv xg, iv 2]) rfl (XS.goto X0.here hx rfl (pc0 := 29) (pc' := 9) rfl (D d5_29) (by decide) (by decide) (XS.iloadN X0.here hx rfl (D d5_9) rfl (XS.aloadN X0.here hx rfl (D d5_10) rfl rfl (X0.arraylength hx (by rw [e0]; exact Ar92.1) (State.isArrayOf_alike hZ.alike Ar92.2.1) (g := (mkF m 11 #[rv xc, rv xg, iv 2] [(.ref xc), (.int 2)])) rfl rfl (D d5_11) _ (by rw [len_of S92 Ng92]; exact (XS.icmpNo X0.here hx rfl (D d5_12) rfl (tlt (by decide : (2 : Int32) < (4 : Int32))).2.1 (XS.aloadN X0.here hx rfl (D d5_15) rfl rfl (XS.iloadN X0.here hx rfl (D d5_16) rfl (X0.baloadBytes hx (j := (2 : Int32)) (v := (.int 116)) (by rw [e0]; exact Ar94.1) (State.isArrayOf_alike hZ.alike Ar94.2.1) Ar94.2.2 hin94 (H94.at hin94 rfl) (g := (mkF m 17 #[rv xc, rv xg, iv 2] [(.int 2), (.ref xc)])) rfl rfl (D d5_17) _ (XS.aloadN X0.here hx rfl (D d5_18) rfl rfl (XS.iloadN X0.here hx rfl (D d5_19) rfl (X0.baloadBytes hx (j := (2 : Int32)) (v := (.int (bs.getD 2 0))) (by rw [e0]; exact Ar95.1) (State.isArrayOf_alike hZ.alike Ar95.2.1) Ar95.2.2 hin95 (H95.at hin95 (own_mg bs 2)) (g := (mkF m 20 #[rv xc, rv xg, iv 2] [(.int 2), (.ref xg), (.int 116)])) rfl rfl (D d5_20) _ k)))))))))))))) ?_
        by_cases hc96 : (116 : Int32) = (bs.getD 2 0)
        · skip
          obtain ⟨cl97, Ar97, qk97, S97, Ng97, H97, G97⟩ := id prem1
          obtain ⟨cl99, Ar99, qk99, S99, Ng99, H99, G99⟩ := id prem1
          have hin99 := inb_of (j := (3 : Int32)) S99 ⟨by decide, by decide⟩
          obtain ⟨cl100, Ar100, qk100, S100, Ng100, H100, G100⟩ := id prem0
          have hin100 := inb_of (j := (3 : Int32)) S100 ⟨by decide, by decide⟩
          refine Go.of (T' := T0) (f' := (mkF m 21 #[rv xc, rv xg, iv 3] [(.int (bs.getD 3 0)), (.int 115)])) (fun _ k => XS.icmpYes X0.here hx rfl (pc0 := 21) (pc' := 26) rfl (D d5_21) rfl (teq hc96).1 (by decide) (by decide) (XS.iinc X0.here hx rfl (D d5_26) rfl (l' := #[rv xc, rv xg, iv 3]) rfl (XS.goto X0.here hx rfl (pc0 := 29) (pc' := 9) rfl (D d5_29) (by decide) (by decide) (XS.iloadN X0.here hx rfl (D d5_9) rfl (XS.aloadN X0.here hx rfl (D d5_10) rfl rfl (X0.arraylength hx (by rw [e0]; exact Ar97.1) (State.isArrayOf_alike hZ.alike Ar97.2.1) (g := (mkF m 11 #[rv xc, rv xg, iv 3] [(.ref xc), (.int 3)])) rfl rfl (D d5_11) _ (by rw [len_of S97 Ng97]; exact (XS.icmpNo X0.here hx rfl (D d5_12) rfl (tlt (by decide : (3 : Int32) < (4 : Int32))).2.1 (XS.aloadN X0.here hx rfl (D d5_15) rfl rfl (XS.iloadN X0.here hx rfl (D d5_16) rfl (X0.baloadBytes hx (j := (3 : Int32)) (v := (.int 115)) (by rw [e0]; exact Ar99.1) (State.isArrayOf_alike hZ.alike Ar99.2.1) Ar99.2.2 hin99 (H99.at hin99 rfl) (g := (mkF m 17 #[rv xc, rv xg, iv 3] [(.int 3), (.ref xc)])) rfl rfl (D d5_17) _ (XS.aloadN X0.here hx rfl (D d5_18) rfl rfl (XS.iloadN X0.here hx rfl (D d5_19) rfl (X0.baloadBytes hx (j := (3 : Int32)) (v := (.int (bs.getD 3 0))) (by rw [e0]; exact Ar100.1) (State.isArrayOf_alike hZ.alike Ar100.2.1) Ar100.2.2 hin100 (H100.at hin100 (own_mg bs 3)) (g := (mkF m 20 #[rv xc, rv xg, iv 3] [(.int 3), (.ref xg), (.int 115)])) rfl rfl (D d5_20) _ k)))))))))))))) ?_
          by_cases hc101 : (115 : Int32) = (bs.getD 3 0)
          · skip
            obtain ⟨cl102, Ar102, qk102, S102, Ng102, H102, G102⟩ := id prem1
            refine Go.of (T' := T0) (f' := (mkF m 33 #[rv xc, rv xg, iv 4] [(.int 1)])) (fun _ k => XS.icmpYes X0.here hx rfl (pc0 := 21) (pc' := 26) rfl (D d5_21) rfl (teq hc101).1 (by decide) (by decide) (XS.iinc X0.here hx rfl (D d5_26) rfl (l' := #[rv xc, rv xg, iv 4]) rfl (XS.goto X0.here hx rfl (pc0 := 29) (pc' := 9) rfl (D d5_29) (by decide) (by decide) (XS.iloadN X0.here hx rfl (D d5_9) rfl (XS.aloadN X0.here hx rfl (D d5_10) rfl rfl (X0.arraylength hx (by rw [e0]; exact Ar102.1) (State.isArrayOf_alike hZ.alike Ar102.2.1) (g := (mkF m 11 #[rv xc, rv xg, iv 4] [(.ref xc), (.int 4)])) rfl rfl (D d5_11) _ (by rw [len_of S102 Ng102]; exact (XS.icmpYes X0.here hx rfl (pc0 := 12) (pc' := 32) rfl (D d5_12) rfl (flt (by decide : ¬ ((4 : Int32) < (4 : Int32)))).2.1 (by decide) (by decide) (XS.iconst X0.here hx rfl (D d5_32) k))))))))) ?_
            exact Go.retB X0 hx hlk hret (by simp) (D d5_33) (by decide) (by decide) (z' := (1 : Int32)) rfl (by rw [e0]; exact ⟨by rw [own_eq_hits, if_pos rfl, if_pos hc86.symm, if_pos hc91.symm, if_pos hc96.symm, if_pos hc101.symm], rfl, by simp⟩)
          · skip
            refine Go.of (T' := T0) (f' := (mkF m 25 #[rv xc, rv xg, iv 3] [(.int 0)])) (fun _ k => XS.icmpNo X0.here hx rfl (D d5_21) rfl (feq hc101).1 (XS.iconst X0.here hx rfl (D d5_24) k)) ?_
            exact Go.retB X0 hx hlk hret (by simp) (D d5_25) (by decide) (by decide) (z' := (0 : Int32)) rfl (by rw [e0]; exact ⟨by rw [own_eq_hits, if_pos rfl, if_pos hc86.symm, if_pos hc91.symm, if_pos hc96.symm, if_neg (fun q => hc101 q.symm)], rfl, by simp⟩)
        · skip
          refine Go.of (T' := T0) (f' := (mkF m 25 #[rv xc, rv xg, iv 2] [(.int 0)])) (fun _ k => XS.icmpNo X0.here hx rfl (D d5_21) rfl (feq hc96).1 (XS.iconst X0.here hx rfl (D d5_24) k)) ?_
          exact Go.retB X0 hx hlk hret (by simp) (D d5_25) (by decide) (by decide) (z' := (0 : Int32)) rfl (by rw [e0]; exact ⟨by rw [own_eq_hits, if_pos rfl, if_pos hc86.symm, if_pos hc91.symm, if_neg (fun q => hc96 q.symm)], rfl, by simp⟩)
      · skip
        refine Go.of (T' := T0) (f' := (mkF m 25 #[rv xc, rv xg, iv 1] [(.int 0)])) (fun _ k => XS.icmpNo X0.here hx rfl (D d5_21) rfl (feq hc91).1 (XS.iconst X0.here hx rfl (D d5_24) k)) ?_
        exact Go.retB X0 hx hlk hret (by simp) (D d5_25) (by decide) (by decide) (z' := (0 : Int32)) rfl (by rw [e0]; exact ⟨by rw [own_eq_hits, if_pos rfl, if_pos hc86.symm, if_neg (fun q => hc91 q.symm)], rfl, by simp⟩)
    · skip
      refine Go.of (T' := T0) (f' := (mkF m 25 #[rv xc, rv xg, iv 0] [(.int 0)])) (fun _ k => XS.icmpNo X0.here hx rfl (D d5_21) rfl (feq hc86).1 (XS.iconst X0.here hx rfl (D d5_24) k)) ?_
      exact Go.retB X0 hx hlk hret (by simp) (D d5_25) (by decide) (by decide) (z' := (0 : Int32)) rfl (by rw [e0]; exact ⟨by rw [own_eq_hits, if_pos rfl, if_neg (fun q => hc86 q.symm)], rfl, by simp⟩)
  · skip
    refine Go.of (T' := T0) (f' := (mkF m 35 #[rv xc, rv xg, .unset] [(.int 0)])) (fun _ k => XS.icmpYes X0.here hx rfl (pc0 := 4) (pc' := 34) rfl (D d5_4) rfl (feq hc81).2 (by decide) (by decide) (XS.iconst X0.here hx rfl (D d5_34) k)) ?_
    exact Go.retB X0 hx hlk hret (by simp) (D d5_35) (by decide) (by decide) (z' := (0 : Int32)) rfl (by rw [e0]; exact ⟨by rw [own_eq_hits, if_neg (fun q => hc81 q.symm)], rfl, by simp⟩)
theorem d4_0 : decode jdk_42_method_66_code 0 = .ok (.aload_n 0, 1) := by decide +kernel
theorem d4_1 : decode jdk_42_method_66_code 1 = .ok (.aload_n 1, 1) := by decide +kernel
theorem d4_2 : decode jdk_42_method_66_code 2 = .ok (.if_acmp .ne 5, 3) := by decide +kernel
theorem d4_5 : decode jdk_42_method_66_code 5 = .ok (.iconst 1, 1) := by decide +kernel
theorem d4_6 : decode jdk_42_method_66_code 6 = .ok (.ireturn, 1) := by decide +kernel
theorem d4_7 : decode jdk_42_method_66_code 7 = .ok (.aload_n 1, 1) := by decide +kernel
theorem d4_8 : decode jdk_42_method_66_code 8 = .ok (.instanceof 10, 3) := by decide +kernel
theorem d4_11 : decode jdk_42_method_66_code 11 = .ok (.ifCond .eq 43, 3) := by decide +kernel
theorem d4_14 : decode jdk_42_method_66_code 14 = .ok (.aload_n 1, 1) := by decide +kernel
theorem d4_15 : decode jdk_42_method_66_code 15 = .ok (.checkcast 10, 3) := by decide +kernel
theorem d4_18 : decode jdk_42_method_66_code 18 = .ok (.astore_n 2, 1) := by decide +kernel
theorem d4_19 : decode jdk_42_method_66_code 19 = .ok (.getstatic 38, 3) := by decide +kernel
theorem d4_22 : decode jdk_42_method_66_code 22 = .ok (.ifCond .eq 14, 3) := by decide +kernel
theorem d4_25 : decode jdk_42_method_66_code 25 = .ok (.aload_n 0, 1) := by decide +kernel
theorem d4_26 : decode jdk_42_method_66_code 26 = .ok (.getfield 15, 3) := by decide +kernel
theorem d4_29 : decode jdk_42_method_66_code 29 = .ok (.aload_n 2, 1) := by decide +kernel
theorem d4_30 : decode jdk_42_method_66_code 30 = .ok (.getfield 15, 3) := by decide +kernel
theorem d4_33 : decode jdk_42_method_66_code 33 = .ok (.if_icmp .ne 21, 3) := by decide +kernel
theorem d4_36 : decode jdk_42_method_66_code 36 = .ok (.aload_n 0, 1) := by decide +kernel
theorem d4_37 : decode jdk_42_method_66_code 37 = .ok (.getfield 9, 3) := by decide +kernel
theorem d4_40 : decode jdk_42_method_66_code 40 = .ok (.aload_n 2, 1) := by decide +kernel
theorem d4_41 : decode jdk_42_method_66_code 41 = .ok (.getfield 9, 3) := by decide +kernel
theorem d4_44 : decode jdk_42_method_66_code 44 = .ok (.invokestatic 541, 3) := by decide +kernel
theorem pd16 : parseMethodDescriptor "([B[B)Z" = some ⟨[(.array .byte), (.array .byte)], some .boolean⟩ := by decide +kernel
theorem d4_47 : decode jdk_42_method_66_code 47 = .ok (.ifCond .eq 7, 3) := by decide +kernel
theorem d4_54 : decode jdk_42_method_66_code 54 = .ok (.iconst 0, 1) := by decide +kernel
theorem d4_55 : decode jdk_42_method_66_code 55 = .ok (.ireturn, 1) := by decide +kernel
theorem d4_50 : decode jdk_42_method_66_code 50 = .ok (.iconst 1, 1) := by decide +kernel
theorem d4_51 : decode jdk_42_method_66_code 51 = .ok (.goto 4, 3) := by decide +kernel
abbrev own_m17 : MethodName := (⟨"java/lang/String", "equals", "(Ljava/lang/Object;)Z"⟩ : MethodName)
theorem ef_rm_eqg_hits (m : MethodId) (so : Addr) (cb : Addr) : entryFrame m #[(.ref so), (.ref cb)] 3 = mkF m 0 #[rv so, rv cb, .unset] [] := by first | (simp [entryFrame, mkF, argsToLocals, Value.category]; done) | rfl
theorem pn18 : plainFor (⟨"java/lang/String", "equals", "(Ljava/lang/Object;)Z"⟩ : MethodName) = true := by first | exact plainFor_of_name (by first | (simp [plainName, overriddenIn]; done) | decide +kernel) | decide +kernel
set_option maxRecDepth 65536 in
set_option maxHeartbeats 40000000 in
theorem rm_eqg_hits {l : Launch} {Z : State} {a0 : Array Value} {A : Nat → Addr} {KC : Nat → Cell} {IC : Nat → Int32} {VC : Nat → Value} (hw : ∀ d ∈ tables_1, d.before a0 Z = true) (G : own_Ctx Z A KC IC VC) (so : Addr) (cb : Addr) (sv : Addr) (kg : ClassId) (n : Int32) (bs : List Int32) (vb : Addr) (kc : ClassId) (vq : Int32) (h0 : Heap) (O0 : Ext Z.heap h0) (prem0 : Exa Z h0 so "java/lang/String") (prem1 : Fld Z h0 so "java/lang/String" "value" "[B" (.ref sv)) (prem2 : Fld Z h0 so "java/lang/String" "coder" "B" (.int (0 : Int32))) (prem3 : Arv Z h0 sv kg .byte n (bs.map Value.int) (.int (0 : Int32))) (prem4 : Exa Z h0 cb "java/lang/String") (prem5 : Fld Z h0 cb "java/lang/String" "coder" "B" (.int (0 : Int32))) (prem6 : Fld Z h0 cb "java/lang/String" "value" "[B" (.ref vb)) (prem7 : Arv Z h0 vb kc .byte (4 : Int32) [(.int (104 : Int32)), (.int (105 : Int32)), (.int (116 : Int32)), (.int (115 : Int32))] (.int (0 : Int32))) (prem8 : own_eq_hits n bs = vq) :
    Ok l Z own_m17 jdk_42_method_66_code 3 (some .boolean) ({ frames := 1, cells := 0, slots := 0, locals := 14 } : Room) #[(.ref so), (.ref cb)] h0
      (fun v h L => v = some (.int vq) ∧ (h = h0) ∧ (L = [])) := by
  refine Ok.mk pn18 ?_
  intro p e s m below meth c T0 hx hby hml hown hnm hret hlk hZ e0 X0
  refine Go.cast (ef_rm_eqg_hits m so cb) ?_
  obtain ⟨-, -, -, -, -, -, -, -, -, -, -, -, -, -, -, -, -, -, -, -, S_COMPACT_STRINGS, hne_s_COMPACT_STRINGS_0, -⟩ := id G
  have D := @hb _ _ hby
  have N0 := Fr.nil Z.heap.size
  have K0 : Keep h0 h0 [] := Keep.refl _ _
  refine Go.of (T' := T0) (f' := (mkF m 2 #[rv so, rv cb, .unset] [(.ref cb), (.ref so)])) (fun _ k => XS.aloadN X0.here hx rfl (D d4_0) rfl rfl (XS.aloadN X0.here hx rfl (D d4_1) rfl rfl k)) ?_
  by_cases hc104 : so = cb
  · skip
    refine Go.of (T' := T0) (f' := (mkF m 6 #[rv so, rv cb, .unset] [(.int 1)])) (fun _ k => Jvm.RoadKit.acmp (g := (mkF m 2 #[rv so, rv cb, .unset] [(.ref cb), (.ref so)])) X0 hx rfl rfl rfl (pc0 := 2) (pc' := 5) (same := true) rfl (D d4_2) rfl (decide_eq_true (congrArg Value.ref hc104)) (by decide) (by decide) (XS.iconst X0.here hx rfl (D d4_5) k)) ?_
    exact Go.retB X0 hx hlk hret (by simp) (D d4_6) (by decide) (by decide) (z' := (1 : Int32)) rfl (by rw [e0]; exact ⟨congrArg (fun z => some (Value.int z)) ((own_idt_hits hc104 prem1 prem6 prem3 prem7 : own_eq_hits n bs = 1).symm.trans prem8), rfl, by simp⟩)
  · skip
    obtain ⟨T105, X105, e105, st105⟩ := instY X0 hx hZ hown (own_w hw (i := 34) rfl) e0 (Ins.self prem4) (g := (mkF m 8 #[rv so, rv cb, .unset] [(.ref cb)])) rfl rfl (D d4_8)
    obtain ⟨T107, X107, e107, st107⟩ := castY X105 hx hZ hown (own_w hw (i := 34) rfl) e105 (Ins.self prem4) (g := (mkF m 15 #[rv so, rv cb, .unset] [(.ref cb)])) rfl rfl (D d4_15)
    obtain ⟨T108, X108, e108, st108⟩ := getS2 X107 hx hZ hown (host := "") (Or.inl (own_w hw (i := 35) rfl)) Via.refl e107 (Sta.ext O0 S_COMPACT_STRINGS) (g := (mkF m 19 #[rv so, rv cb, rv cb] [])) rfl (D d4_19)
    have hc109 : ¬ ((IC 0) = (0 : Int32)) := hne_s_COMPACT_STRINGS_0
    obtain ⟨T110, X110, e110, st110⟩ := getF X108 hx hZ hown (host := "") (Or.inl (own_w hw (i := 27) rfl)) Via.refl e108 prem2 (g := (mkF m 26 #[rv so, rv cb, rv cb] [(.ref so)])) rfl rfl (D d4_26)
    obtain ⟨T111, X111, e111, st111⟩ := getF X110 hx hZ hown (host := "") (Or.inl (own_w hw (i := 27) rfl)) Via.refl e110 prem5 (g := (mkF m 30 #[rv so, rv cb, rv cb] [(.ref cb), (.int 0)])) rfl rfl (D d4_30)
    obtain ⟨T113, X113, e113, st113⟩ := getF X111 hx hZ hown (host := "") (Or.inl (own_w hw (i := 26) rfl)) Via.refl e111 prem1 (g := (mkF m 37 #[rv so, rv cb, rv cb] [(.ref so)])) rfl rfl (D d4_37)
    obtain ⟨T114, X114, e114, st114⟩ := getF X113 hx hZ hown (host := "") (Or.inl (own_w hw (i := 26) rfl)) Via.refl e113 prem6 (g := (mkF m 41 #[rv so, rv cb, rv cb] [(.ref cb), (.ref sv)])) rfl rfl (D d4_41)
    obtain ⟨T115, v115, L115, X115, q115, st115⟩ := callSt X114 hx hZ (y := own_m14) hown (own_w hw (i := 36) rfl) (own_w hw (i := 37) rfl) (own_w hw (i := 38) rfl) (own_w hw (i := 39) rfl) (by decide) (rm_l1g_hits hw G sv vb kg kc n bs h0 O0 prem3 prem7) e114 (W := 0) (by decide) (by decide) (by decide) (by decide) (g := (mkF m 44 #[rv so, rv cb, rv cb] [(.ref vb), (.ref sv)])) rfl (by rw [hml]; rfl) (argsL := [(.ref sv), (.ref vb)]) (rest := []) (lenOf pd16 rfl) rfl rfl (Nat.le_of_eq rfl) (D d4_44)
    obtain ⟨rfl, e115, rfl⟩ := q115
    have N115 := Fr.app N0 (Fr.nil _)
    refine Go.of (T' := T115) (f' := (mkF m 47 #[rv so, rv cb, rv cb] [(.int (own_eq_hits n bs))])) (fun _ k => Jvm.RoadKit.acmp (g := (mkF m 2 #[rv so, rv cb, .unset] [(.ref cb), (.ref so)])) X0 hx rfl rfl rfl (pc0 := 2) (pc' := 7) (same := false) rfl (D d4_2) rfl (decide_eq_false fun q => hc104 (Value.ref.inj q)) (by decide) (by decide) (XS.aloadN X0.here hx rfl (D d4_7) rfl rfl (st105 _ (XS.ifNo X105.here hx rfl (D d4_11) rfl ((if0 _ _).trans (feq (by decide : ¬ ((1 : Int32) = (0 : Int32)))).1) (XS.aloadN X105.here hx rfl (D d4_14) rfl rfl (st107 _ (XS.astoreN X107.here hx rfl (D d4_18) rfl rfl (l' := #[rv so, rv cb, rv cb]) rfl (st108 _ (XS.ifNo X108.here hx rfl (D d4_22) rfl ((if0 _ _).trans (feq hc109).1) (XS.aloadN X108.here hx rfl (D d4_25) rfl rfl (st110 _ (XS.aloadN X110.here hx rfl (D d4_29) rfl rfl (st111 _ (XS.icmpNo X111.here hx rfl (D d4_33) rfl (teq (by decide : (0 : Int32) = (0 : Int32))).2 (XS.aloadN X111.here hx rfl (D d4_36) rfl rfl (st113 _ (XS.aloadN X113.here hx rfl (D d4_40) rfl rfl (st114 _ (st115 _ k))))))))))))))))))) ?_
    by_cases hc116 : (own_eq_hits n bs) = (0 : Int32)
    · skip
      refine Go.of (T' := T115) (f' := (mkF m 55 #[rv so, rv cb, rv cb] [(.int 0)])) (fun _ k => XS.ifYes X115.here hx rfl (pc0 := 47) (pc' := 54) rfl (D d4_47) rfl ((if0 _ _).trans (teq hc116).1) (by decide) (by decide) (XS.iconst X115.here hx rfl (D d4_54) k)) ?_
      exact Go.retB X115 hx hlk hret (by simp) (D d4_55) (by decide) (by decide) (z' := (0 : Int32)) rfl (by rw [e115]; exact ⟨congrArg (fun z => some (Value.int z)) ((hc116 : own_eq_hits n bs = 0).symm.trans prem8), rfl, by simp⟩)
    · skip
      refine Go.of (T' := T115) (f' := (mkF m 55 #[rv so, rv cb, rv cb] [(.int 1)])) (fun _ k => XS.ifNo X115.here hx rfl (D d4_47) rfl ((if0 _ _).trans (feq hc116).1) (XS.iconst X115.here hx rfl (D d4_50) (XS.goto X115.here hx rfl (pc0 := 51) (pc' := 55) rfl (D d4_51) (by decide) (by decide) k))) ?_
      exact Go.retB X115 hx hlk hret (by simp) (D d4_55) (by decide) (by decide) (z' := (1 : Int32)) rfl (by rw [e115]; exact ⟨congrArg (fun z => some (Value.int z)) (((Classical.byContradiction fun q => hc116 (own_01_hits q)) : own_eq_hits n bs = 1).symm.trans prem8), rfl, by simp⟩)
theorem ef_rm_eqn_hits (m : MethodId) {A : Nat → Addr} (so : Addr) : entryFrame m #[(.ref (A 4)), (.ref so)] 3 = mkF m 0 #[rv (A 4), rv so, .unset] [] := by first | (simp [entryFrame, mkF, argsToLocals, Value.category]; done) | rfl
set_option maxRecDepth 65536 in
set_option maxHeartbeats 40000000 in
theorem rm_eqn_hits {l : Launch} {Z : State} {a0 : Array Value} {A : Nat → Addr} {KC : Nat → Cell} {IC : Nat → Int32} {VC : Nat → Value} (hw : ∀ d ∈ tables_1, d.before a0 Z = true) (G : own_Ctx Z A KC IC VC) (so : Addr) (sv : Addr) (kg : ClassId) (n : Int32) (bs : List Int32) (vq : Int32) (h0 : Heap) (O0 : Ext Z.heap h0) (prem0 : Exa Z h0 so "java/lang/String") (prem1 : Fld Z h0 so "java/lang/String" "value" "[B" (.ref sv)) (prem2 : Fld Z h0 so "java/lang/String" "coder" "B" (.int (0 : Int32))) (prem3 : Arv Z h0 sv kg .byte n (bs.map Value.int) (.int (0 : Int32))) (prem4 : own_eq_hits n bs = vq) :
    Ok l Z own_m17 jdk_42_method_66_code 3 (some .boolean) ({ frames := 1, cells := 0, slots := 0, locals := 14 } : Room) #[(.ref (A 4)), (.ref so)] h0
      (fun v h L => v = some (.int vq) ∧ (h = h0) ∧ (L = [])) := by
  refine Ok.mk pn18 ?_
  intro p e s m below meth c T0 hx hby hml hown hnm hret hlk hZ e0 X0
  refine Go.cast (ef_rm_eqn_hits m so) ?_
  obtain ⟨-, -, -, -, -, -, -, -, -, -, F_s_HITS_name_coder, F_s_HITS_name_value, -, -, -, -, -, -, -, -, S_COMPACT_STRINGS, hne_s_COMPACT_STRINGS_0, -, V_s_HITS_name_value, -⟩ := id G
  have D := @hb _ _ hby
  have N0 := Fr.nil Z.heap.size
  have K0 : Keep h0 h0 [] := Keep.refl _ _
  refine Go.of (T' := T0) (f' := (mkF m 2 #[rv (A 4), rv so, .unset] [(.ref so), (.ref (A 4))])) (fun _ k => XS.aloadN X0.here hx rfl (D d4_0) rfl rfl (XS.aloadN X0.here hx rfl (D d4_1) rfl rfl k)) ?_
  by_cases hc117 : (A 4) = so
  · skip
    refine Go.of (T' := T0) (f' := (mkF m 6 #[rv (A 4), rv so, .unset] [(.int 1)])) (fun _ k => Jvm.RoadKit.acmp (g := (mkF m 2 #[rv (A 4), rv so, .unset] [(.ref so), (.ref (A 4))])) X0 hx rfl rfl rfl (pc0 := 2) (pc' := 5) (same := true) rfl (D d4_2) rfl (decide_eq_true (congrArg Value.ref hc117)) (by decide) (by decide) (XS.iconst X0.here hx rfl (D d4_5) k)) ?_
    exact Go.retB X0 hx hlk hret (by simp) (D d4_6) (by decide) (by decide) (z' := (1 : Int32)) rfl (by rw [e0]; exact ⟨congrArg (fun z => some (Value.int z)) ((own_idt_hits (Eq.symm hc117) prem1 (Fld.ext O0 F_s_HITS_name_value) prem3 (Arv.ext V_s_HITS_name_value O0) : own_eq_hits n bs = 1).symm.trans prem4), rfl, by simp⟩)
  · skip
    obtain ⟨T118, X118, e118, st118⟩ := instY X0 hx hZ hown (own_w hw (i := 34) rfl) e0 (Ins.self prem0) (g := (mkF m 8 #[rv (A 4), rv so, .unset] [(.ref so)])) rfl rfl (D d4_8)
    obtain ⟨T120, X120, e120, st120⟩ := castY X118 hx hZ hown (own_w hw (i := 34) rfl) e118 (Ins.self prem0) (g := (mkF m 15 #[rv (A 4), rv so, .unset] [(.ref so)])) rfl rfl (D d4_15)
    obtain ⟨T121, X121, e121, st121⟩ := getS2 X120 hx hZ hown (host := "") (Or.inl (own_w hw (i := 35) rfl)) Via.refl e120 (Sta.ext O0 S_COMPACT_STRINGS) (g := (mkF m 19 #[rv (A 4), rv so, rv so] [])) rfl (D d4_19)
    have hc122 : ¬ ((IC 0) = (0 : Int32)) := hne_s_COMPACT_STRINGS_0
    obtain ⟨T123, X123, e123, st123⟩ := getF X121 hx hZ hown (host := "") (Or.inl (own_w hw (i := 27) rfl)) Via.refl e121 (Fld.ext O0 F_s_HITS_name_coder) (g := (mkF m 26 #[rv (A 4), rv so, rv so] [(.ref (A 4))])) rfl rfl (D d4_26)
    obtain ⟨T124, X124, e124, st124⟩ := getF X123 hx hZ hown (host := "") (Or.inl (own_w hw (i := 27) rfl)) Via.refl e123 prem2 (g := (mkF m 30 #[rv (A 4), rv so, rv so] [(.ref so), (.int 0)])) rfl rfl (D d4_30)
    obtain ⟨T126, X126, e126, st126⟩ := getF X124 hx hZ hown (host := "") (Or.inl (own_w hw (i := 26) rfl)) Via.refl e124 (Fld.ext O0 F_s_HITS_name_value) (g := (mkF m 37 #[rv (A 4), rv so, rv so] [(.ref (A 4))])) rfl rfl (D d4_37)
    obtain ⟨T127, X127, e127, st127⟩ := getF X126 hx hZ hown (host := "") (Or.inl (own_w hw (i := 26) rfl)) Via.refl e126 prem1 (g := (mkF m 41 #[rv (A 4), rv so, rv so] [(.ref so), (.ref (A 5))])) rfl rfl (D d4_41)
    obtain ⟨T128, v128, L128, X128, q128, st128⟩ := callSt X127 hx hZ (y := own_m14) hown (own_w hw (i := 36) rfl) (own_w hw (i := 37) rfl) (own_w hw (i := 38) rfl) (own_w hw (i := 39) rfl) (by decide) (rm_l1n_hits hw G ((A 5)) sv kg ((KC 1).cls) n bs h0 O0 prem3 (Arv.ext V_s_HITS_name_value O0)) e127 (W := 0) (by decide) (by decide) (by decide) (by decide) (g := (mkF m 44 #[rv (A 4), rv so, rv so] [(.ref sv), (.ref (A 5))])) rfl (by rw [hml]; rfl) (argsL := [(.ref (A 5)), (.ref sv)]) (rest := []) (lenOf pd16 rfl) rfl rfl (Nat.le_of_eq rfl) (D d4_44)
    obtain ⟨rfl, e128, rfl⟩ := q128
    have N128 := Fr.app N0 (Fr.nil _)
    refine Go.of (T' := T128) (f' := (mkF m 47 #[rv (A 4), rv so, rv so] [(.int (own_eq_hits n bs))])) (fun _ k => Jvm.RoadKit.acmp (g := (mkF m 2 #[rv (A 4), rv so, .unset] [(.ref so), (.ref (A 4))])) X0 hx rfl rfl rfl (pc0 := 2) (pc' := 7) (same := false) rfl (D d4_2) rfl (decide_eq_false fun q => hc117 (Value.ref.inj q)) (by decide) (by decide) (XS.aloadN X0.here hx rfl (D d4_7) rfl rfl (st118 _ (XS.ifNo X118.here hx rfl (D d4_11) rfl ((if0 _ _).trans (feq (by decide : ¬ ((1 : Int32) = (0 : Int32)))).1) (XS.aloadN X118.here hx rfl (D d4_14) rfl rfl (st120 _ (XS.astoreN X120.here hx rfl (D d4_18) rfl rfl (l' := #[rv (A 4), rv so, rv so]) rfl (st121 _ (XS.ifNo X121.here hx rfl (D d4_22) rfl ((if0 _ _).trans (feq hc122).1) (XS.aloadN X121.here hx rfl (D d4_25) rfl rfl (st123 _ (XS.aloadN X123.here hx rfl (D d4_29) rfl rfl (st124 _ (XS.icmpNo X124.here hx rfl (D d4_33) rfl (teq (by decide : (0 : Int32) = (0 : Int32))).2 (XS.aloadN X124.here hx rfl (D d4_36) rfl rfl (st126 _ (XS.aloadN X126.here hx rfl (D d4_40) rfl rfl (st127 _ (st128 _ k))))))))))))))))))) ?_
    by_cases hc129 : (own_eq_hits n bs) = (0 : Int32)
    · skip
      refine Go.of (T' := T128) (f' := (mkF m 55 #[rv (A 4), rv so, rv so] [(.int 0)])) (fun _ k => XS.ifYes X128.here hx rfl (pc0 := 47) (pc' := 54) rfl (D d4_47) rfl ((if0 _ _).trans (teq hc129).1) (by decide) (by decide) (XS.iconst X128.here hx rfl (D d4_54) k)) ?_
      exact Go.retB X128 hx hlk hret (by simp) (D d4_55) (by decide) (by decide) (z' := (0 : Int32)) rfl (by rw [e128]; exact ⟨congrArg (fun z => some (Value.int z)) ((hc129 : own_eq_hits n bs = 0).symm.trans prem4), rfl, by simp⟩)
    · skip
      refine Go.of (T' := T128) (f' := (mkF m 55 #[rv (A 4), rv so, rv so] [(.int 1)])) (fun _ k => XS.ifNo X128.here hx rfl (D d4_47) rfl ((if0 _ _).trans (feq hc129).1) (XS.iconst X128.here hx rfl (D d4_50) (XS.goto X128.here hx rfl (pc0 := 51) (pc' := 55) rfl (D d4_51) (by decide) (by decide) k))) ?_
      exact Go.retB X128 hx hlk hret (by simp) (D d4_55) (by decide) (by decide) (z' := (1 : Int32)) rfl (by rw [e128]; exact ⟨congrArg (fun z => some (Value.int z)) (((Classical.byContradiction fun q => hc129 (own_01_hits q)) : own_eq_hits n bs = 1).symm.trans prem4), rfl, by simp⟩)
theorem ef_rm_eqz_hits (m : MethodId) {A : Nat → Addr}  : entryFrame m #[(.ref (A 4)), .null] 3 = mkF m 0 #[rv (A 4), .val .null, .unset] [] := by first | (simp [entryFrame, mkF, argsToLocals, Value.category]; done) | rfl
set_option maxRecDepth 65536 in
set_option maxHeartbeats 40000000 in
theorem rm_eqz_hits {l : Launch} {Z : State} {a0 : Array Value} {A : Nat → Addr} {KC : Nat → Cell} {IC : Nat → Int32} {VC : Nat → Value} (hw : ∀ d ∈ tables_1, d.before a0 Z = true) (G : own_Ctx Z A KC IC VC)   (h0 : Heap) (O0 : Ext Z.heap h0)  :
    Ok l Z own_m17 jdk_42_method_66_code 3 (some .boolean) ({ frames := 0, cells := 0, slots := 0, locals := 0 } : Room) #[(.ref (A 4)), .null] h0
      (fun v h L => v = some (.int (0 : Int32)) ∧ (h = h0) ∧ (L = [])) := by
  refine Ok.mk pn18 ?_
  intro p e s m below meth c T0 hx hby hml hown hnm hret hlk hZ e0 X0
  refine Go.cast (ef_rm_eqz_hits m ) ?_
  have D := @hb _ _ hby
  have N0 := Fr.nil Z.heap.size
  have K0 : Keep h0 h0 [] := Keep.refl _ _
  refine Go.of (T' := T0) (f' := (mkF m 55 #[rv (A 4), .val .null, .unset] [(.int 0)])) (fun _ k => XS.aloadN X0.here hx rfl (D d4_0) rfl rfl (XS.aloadN X0.here hx rfl (D d4_1) rfl rfl (Jvm.RoadKit.acmp (g := (mkF m 2 #[rv (A 4), .val .null, .unset] [.null, (.ref (A 4))])) X0 hx rfl rfl rfl (pc0 := 2) (pc' := 7) (same := false) rfl (D d4_2) rfl (decide_eq_false nofun) (by decide) (by decide) (XS.aloadN X0.here hx rfl (D d4_7) rfl rfl (X0.instanceofNull hx (g := (mkF m 8 #[rv (A 4), .val .null, .unset] [.null])) rfl rfl (D d4_8) _ (XS.ifYes X0.here hx rfl (pc0 := 11) (pc' := 54) rfl (D d4_11) rfl ((if0 _ _).trans (teq (by decide : (0 : Int32) = (0 : Int32))).1) (by decide) (by decide) (XS.iconst X0.here hx rfl (D d4_54) k))))))) ?_
  exact Go.retB X0 hx hlk hret (by simp) (D d4_55) (by decide) (by decide) (z' := (0 : Int32)) rfl (by rw [e0]; exact ⟨rfl, rfl, by simp⟩)
theorem ef_rm_l1g_results (m : MethodId) (xg : Addr) (xc : Addr) : entryFrame m #[(.ref xg), (.ref xc)] 3 = mkF m 0 #[rv xg, rv xc, .unset] [] := by first | (simp [entryFrame, mkF, argsToLocals, Value.category]; done) | rfl
set_option maxRecDepth 65536 in
set_option maxHeartbeats 40000000 in
theorem rm_l1g_results {l : Launch} {Z : State} {a0 : Array Value} {A : Nat → Addr} {KC : Nat → Cell} {IC : Nat → Int32} {VC : Nat → Value} (hw : ∀ d ∈ tables_1, d.before a0 Z = true) (G : own_Ctx Z A KC IC VC) (xg : Addr) (xc : Addr) (kg : ClassId) (kc : ClassId) (n : Int32) (bs : List Int32) (h0 : Heap) (O0 : Ext Z.heap h0) (prem0 : Arv Z h0 xg kg .byte n (bs.map Value.int) (.int (0 : Int32))) (prem1 : Arv Z h0 xc kc .byte (7 : Int32) [(.int (114 : Int32)), (.int (101 : Int32)), (.int (115 : Int32)), (.int (117 : Int32)), (.int (108 : Int32)), (.int (116 : Int32)), (.int (115 : Int32))] (.int (0 : Int32))) :
    Ok l Z own_m14 jdk_43_method_13_code 3 (some .boolean) ({ frames := 0, cells := 0, slots := 0, locals := 0 } : Room) #[(.ref xg), (.ref xc)] h0
      (fun v h L => v = some (.int (own_eq_results n bs)) ∧ (h = h0) ∧ (L = [])) := by
  refine Ok.mk pn15 ?_
  intro p e s m below meth c T0 hx hby hml hown hnm hret hlk hZ e0 X0
  refine Go.cast (ef_rm_l1g_results m xg xc) ?_
  have D := @hb _ _ hby
  have N0 := Fr.nil Z.heap.size
  have K0 : Keep h0 h0 [] := Keep.refl _ _
  obtain ⟨cl133, Ar133, qk133, S133, Ng133, H133, G133⟩ := id prem0
  obtain ⟨cl134, Ar134, qk134, S134, Ng134, H134, G134⟩ := id prem1
  refine Go.of (T' := T0) (f' := (mkF m 4 #[rv xg, rv xc, .unset] [(.int 7), (.int n)])) (fun _ k => XS.aloadN X0.here hx rfl (D d5_0) rfl rfl (X0.arraylength hx (by rw [e0]; exact Ar133.1) (State.isArrayOf_alike hZ.alike Ar133.2.1) (g := (mkF m 1 #[rv xg, rv xc, .unset] [(.ref xg)])) rfl rfl (D d5_1) _ (by rw [len_of S133 Ng133]; exact (XS.aloadN X0.here hx rfl (D d5_2) rfl rfl (X0.arraylength hx (by rw [e0]; exact Ar134.1) (State.isArrayOf_alike hZ.alike Ar134.2.1) (g := (mkF m 3 #[rv xg, rv xc, .unset] [(.ref xc), (.int n)])) rfl rfl (D d5_3) _ (by rw [len_of S134 Ng134]; exact k)))))) ?_
  by_cases hc135 : n = (7 : Int32)
  · skip
    refine Go.of (T' := T0) (f' := (mkF m 7 #[rv xg, rv xc, .unset] [])) (fun _ k => XS.icmpNo X0.here hx rfl (D d5_4) rfl (teq hc135).2 k) ?_
    subst hc135
    obtain ⟨cl136, Ar136, qk136, S136, Ng136, H136, G136⟩ := id prem0
    obtain ⟨cl138, Ar138, qk138, S138, Ng138, H138, G138⟩ := id prem0
    have hin138 := inb_of (j := (0 : Int32)) S138 ⟨by decide, by decide⟩
    obtain ⟨cl139, Ar139, qk139, S139, Ng139, H139, G139⟩ := id prem1
    have hin139 := inb_of (j := (0 : Int32)) S139 ⟨by decide, by decide⟩
    refine Go.of (T' := T0) (f' := (mkF m 21 #[rv xg, rv xc, iv 0] [(.int 114), (.int (bs.getD 0 0))])) (fun _ k => XS.iconst X0.here hx rfl (D d5_7) (XS.istoreN X0.here hx rfl (D d5_8) rfl (l' := #[rv xg, rv xc, iv 0]) rfl (XS.iloadN X0.here hx rfl (D d5_9) rfl (XS.aloadN X0.here hx rfl (D d5_10) rfl rfl (X0.arraylength hx (by rw [e0]; exact Ar136.1) (State.isArrayOf_alike hZ.alike Ar136.2.1) (g := (mkF m 11 #[rv xg, rv xc, iv 0] [(.ref xg), (.int 0)])) rfl rfl (D d5_11) _ (by rw [len_of S136 Ng136]; exact (XS.icmpNo X0.here hx rfl (D d5_12) rfl (tlt (by decide : (0 : Int32) < (7 : Int32))).2.1 (XS.aloadN X0.here hx rfl (D d5_15) rfl rfl (XS.iloadN X0.here hx rfl (D d5_16) rfl (X0.baloadBytes hx (j := (0 : Int32)) (v := (.int (bs.getD 0 0))) (by rw [e0]; exact Ar138.1) (State.isArrayOf_alike hZ.alike Ar138.2.1) Ar138.2.2 hin138 (H138.at hin138 (own_mg bs 0)) (g := (mkF m 17 #[rv xg, rv xc, iv 0] [(.int 0), (.ref xg)])) rfl rfl (D d5_17) _ (XS.aloadN X0.here hx rfl (D d5_18) rfl rfl (XS.iloadN X0.here hx rfl (D d5_19) rfl (X0.baloadBytes hx (j := (0 : Int32)) (v := (.int 114)) (by rw [e0]; exact Ar139.1) (State.isArrayOf_alike hZ.alike Ar139.2.1) Ar139.2.2 hin139 (H139.at hin139 rfl) (g := (mkF m 20 #[rv xg, rv xc, iv 0] [(.int 0), (.ref xc), (.int (bs.getD 0 0))])) rfl rfl (D d5_20) _ k))))))))))))) ?_
    by_cases hc140 : (bs.getD 0 0) = (114 : Int32)
    · skip
      obtain ⟨cl141, Ar141, qk141, S141, Ng141, H141, G141⟩ := id prem0
      obtain ⟨cl143, Ar143, qk143, S143, Ng143, H143, G143⟩ := id prem0
      have hin143 := inb_of (j := (1 : Int32)) S143 ⟨by decide, by decide⟩
      obtain ⟨cl144, Ar144, qk144, S144, Ng144, H144, G144⟩ := id prem1
      have hin144 := inb_of (j := (1 : Int32)) S144 ⟨by decide, by decide⟩
      refine Go.of (T' := T0) (f' := (mkF m 21 #[rv xg, rv xc, iv 1] [(.int 101), (.int (bs.getD 1 0))])) (fun _ k => XS.icmpYes X0.here hx rfl (pc0 := 21) (pc' := 26) rfl (D d5_21) rfl (teq hc140).1 (by decide) (by decide) (XS.iinc X0.here hx rfl (D d5_26) rfl (l' := #[rv xg, rv xc, iv 1]) rfl (XS.goto X0.here hx rfl (pc0 := 29) (pc' := 9) rfl (D d5_29) (by decide) (by decide) (XS.iloadN X0.here hx rfl (D d5_9) rfl (XS.aloadN X0.here hx rfl (D d5_10) rfl rfl (X0.arraylength hx (by rw [e0]; exact Ar141.1) (State.isArrayOf_alike hZ.alike Ar141.2.1) (g := (mkF m 11 #[rv xg, rv xc, iv 1] [(.ref xg), (.int 1)])) rfl rfl (D d5_11) _ (by rw [len_of S141 Ng141]; exact (XS.icmpNo X0.here hx rfl (D d5_12) rfl (tlt (by decide : (1 : Int32) < (7 : Int32))).2.1 (XS.aloadN X0.here hx rfl (D d5_15) rfl rfl (XS.iloadN X0.here hx rfl (D d5_16) rfl (X0.baloadBytes hx (j := (1 : Int32)) (v := (.int (bs.getD 1 0))) (by rw [e0]; exact Ar143.1) (State.isArrayOf_alike hZ.alike Ar143.2.1) Ar143.2.2 hin143 (H143.at hin143 (own_mg bs 1)) (g := (mkF m 17 #[rv xg, rv xc, iv 1] [(.int 1), (.ref xg)])) rfl rfl (D d5_17) _ (XS.aloadN X0.here hx rfl (D d5_18) rfl rfl (XS.iloadN X0.here hx rfl (D d5_19) rfl (X0.baloadBytes hx (j := (1 : Int32)) (v := (.int 101)) (by rw [e0]; exact Ar144.1) (State.isArrayOf_alike hZ.alike Ar144.2.1) Ar144.2.2 hin144 (H144.at hin144 rfl) (g := (mkF m 20 #[rv xg, rv xc, iv 1] [(.int 1), (.ref xc), (.int (bs.getD 1 0))])) rfl rfl (D d5_20) _ k)))))))))))))) ?_
      by_cases hc145 : (bs.getD 1 0) = (101 : Int32)
      · skip
        obtain ⟨cl146, Ar146, qk146, S146, Ng146, H146, G146⟩ := id prem0
        obtain ⟨cl148, Ar148, qk148, S148, Ng148, H148, G148⟩ := id prem0
        have hin148 := inb_of (j := (2 : Int32)) S148 ⟨by decide, by decide⟩
        obtain ⟨cl149, Ar149, qk149, S149, Ng149, H149, G149⟩ := id prem1
        have hin149 := inb_of (j := (2 : Int32)) S149 ⟨by decide, by decide⟩
        refine Go.of (T' := T0) (f' := (mkF m 21 #[rv xg, rv xc, iv 2] [(.int 115), (.int (bs.getD 2 0))])) (fun _ k => XS.icmpYes X0.here hx rfl (pc0 := 21) (pc' := 26) rfl (D d5_21) rfl (teq hc145).1 (by decide) (by decide) (XS.iinc X0.here hx rfl (D d5_26) rfl (l' := #[rv xg, rv xc, iv 2]) rfl (XS.goto X0.here hx rfl (pc0 := 29) (pc' := 9) rfl (D d5_29) (by decide) (by decide) (XS.iloadN X0.here hx rfl (D d5_9) rfl (XS.aloadN X0.here hx rfl (D d5_10) rfl rfl (X0.arraylength hx (by rw [e0]; exact Ar146.1) (State.isArrayOf_alike hZ.alike Ar146.2.1) (g := (mkF m 11 #[rv xg, rv xc, iv 2] [(.ref xg), (.int 2)])) rfl rfl (D d5_11) _ (by rw [len_of S146 Ng146]; exact (XS.icmpNo X0.here hx rfl (D d5_12) rfl (tlt (by decide : (2 : Int32) < (7 : Int32))).2.1 (XS.aloadN X0.here hx rfl (D d5_15) rfl rfl (XS.iloadN X0.here hx rfl (D d5_16) rfl (X0.baloadBytes hx (j := (2 : Int32)) (v := (.int (bs.getD 2 0))) (by rw [e0]; exact Ar148.1) (State.isArrayOf_alike hZ.alike Ar148.2.1) Ar148.2.2 hin148 (H148.at hin148 (own_mg bs 2)) (g := (mkF m 17 #[rv xg, rv xc, iv 2] [(.int 2), (.ref xg)])) rfl rfl (D d5_17) _ (XS.aloadN X0.here hx rfl (D d5_18) rfl rfl (XS.iloadN X0.here hx rfl (D d5_19) rfl (X0.baloadBytes hx (j := (2 : Int32)) (v := (.int 115)) (by rw [e0]; exact Ar149.1) (State.isArrayOf_alike hZ.alike Ar149.2.1) Ar149.2.2 hin149 (H149.at hin149 rfl) (g := (mkF m 20 #[rv xg, rv xc, iv 2] [(.int 2), (.ref xc), (.int (bs.getD 2 0))])) rfl rfl (D d5_20) _ k)))))))))))))) ?_
        by_cases hc150 : (bs.getD 2 0) = (115 : Int32)
        · skip
          obtain ⟨cl151, Ar151, qk151, S151, Ng151, H151, G151⟩ := id prem0
          obtain ⟨cl153, Ar153, qk153, S153, Ng153, H153, G153⟩ := id prem0
          have hin153 := inb_of (j := (3 : Int32)) S153 ⟨by decide, by decide⟩
          obtain ⟨cl154, Ar154, qk154, S154, Ng154, H154, G154⟩ := id prem1
          have hin154 := inb_of (j := (3 : Int32)) S154 ⟨by decide, by decide⟩
          refine Go.of (T' := T0) (f' := (mkF m 21 #[rv xg, rv xc, iv 3] [(.int 117), (.int (bs.getD 3 0))])) (fun _ k => XS.icmpYes X0.here hx rfl (pc0 := 21) (pc' := 26) rfl (D d5_21) rfl (teq hc150).1 (by decide) (by decide) (XS.iinc X0.here hx rfl (D d5_26) rfl (l' := #[rv xg, rv xc, iv 3]) rfl (XS.goto X0.here hx rfl (pc0 := 29) (pc' := 9) rfl (D d5_29) (by decide) (by decide) (XS.iloadN X0.here hx rfl (D d5_9) rfl (XS.aloadN X0.here hx rfl (D d5_10) rfl rfl (X0.arraylength hx (by rw [e0]; exact Ar151.1) (State.isArrayOf_alike hZ.alike Ar151.2.1) (g := (mkF m 11 #[rv xg, rv xc, iv 3] [(.ref xg), (.int 3)])) rfl rfl (D d5_11) _ (by rw [len_of S151 Ng151]; exact (XS.icmpNo X0.here hx rfl (D d5_12) rfl (tlt (by decide : (3 : Int32) < (7 : Int32))).2.1 (XS.aloadN X0.here hx rfl (D d5_15) rfl rfl (XS.iloadN X0.here hx rfl (D d5_16) rfl (X0.baloadBytes hx (j := (3 : Int32)) (v := (.int (bs.getD 3 0))) (by rw [e0]; exact Ar153.1) (State.isArrayOf_alike hZ.alike Ar153.2.1) Ar153.2.2 hin153 (H153.at hin153 (own_mg bs 3)) (g := (mkF m 17 #[rv xg, rv xc, iv 3] [(.int 3), (.ref xg)])) rfl rfl (D d5_17) _ (XS.aloadN X0.here hx rfl (D d5_18) rfl rfl (XS.iloadN X0.here hx rfl (D d5_19) rfl (X0.baloadBytes hx (j := (3 : Int32)) (v := (.int 117)) (by rw [e0]; exact Ar154.1) (State.isArrayOf_alike hZ.alike Ar154.2.1) Ar154.2.2 hin154 (H154.at hin154 rfl) (g := (mkF m 20 #[rv xg, rv xc, iv 3] [(.int 3), (.ref xc), (.int (bs.getD 3 0))])) rfl rfl (D d5_20) _ k)))))))))))))) ?_
          by_cases hc155 : (bs.getD 3 0) = (117 : Int32)
          · skip
            obtain ⟨cl156, Ar156, qk156, S156, Ng156, H156, G156⟩ := id prem0
            obtain ⟨cl158, Ar158, qk158, S158, Ng158, H158, G158⟩ := id prem0
            have hin158 := inb_of (j := (4 : Int32)) S158 ⟨by decide, by decide⟩
            obtain ⟨cl159, Ar159, qk159, S159, Ng159, H159, G159⟩ := id prem1
            have hin159 := inb_of (j := (4 : Int32)) S159 ⟨by decide, by decide⟩
            refine Go.of (T' := T0) (f' := (mkF m 21 #[rv xg, rv xc, iv 4] [(.int 108), (.int (bs.getD 4 0))])) (fun _ k => XS.icmpYes X0.here hx rfl (pc0 := 21) (pc' := 26) rfl (D d5_21) rfl (teq hc155).1 (by decide) (by decide) (XS.iinc X0.here hx rfl (D d5_26) rfl (l' := #[rv xg, rv xc, iv 4]) rfl (XS.goto X0.here hx rfl (pc0 := 29) (pc' := 9) rfl (D d5_29) (by decide) (by decide) (XS.iloadN X0.here hx rfl (D d5_9) rfl (XS.aloadN X0.here hx rfl (D d5_10) rfl rfl (X0.arraylength hx (by rw [e0]; exact Ar156.1) (State.isArrayOf_alike hZ.alike Ar156.2.1) (g := (mkF m 11 #[rv xg, rv xc, iv 4] [(.ref xg), (.int 4)])) rfl rfl (D d5_11) _ (by rw [len_of S156 Ng156]; exact (XS.icmpNo X0.here hx rfl (D d5_12) rfl (tlt (by decide : (4 : Int32) < (7 : Int32))).2.1 (XS.aloadN X0.here hx rfl (D d5_15) rfl rfl (XS.iloadN X0.here hx rfl (D d5_16) rfl (X0.baloadBytes hx (j := (4 : Int32)) (v := (.int (bs.getD 4 0))) (by rw [e0]; exact Ar158.1) (State.isArrayOf_alike hZ.alike Ar158.2.1) Ar158.2.2 hin158 (H158.at hin158 (own_mg bs 4)) (g := (mkF m 17 #[rv xg, rv xc, iv 4] [(.int 4), (.ref xg)])) rfl rfl (D d5_17) _ (XS.aloadN X0.here hx rfl (D d5_18) rfl rfl (XS.iloadN X0.here hx rfl (D d5_19) rfl (X0.baloadBytes hx (j := (4 : Int32)) (v := (.int 108)) (by rw [e0]; exact Ar159.1) (State.isArrayOf_alike hZ.alike Ar159.2.1) Ar159.2.2 hin159 (H159.at hin159 rfl) (g := (mkF m 20 #[rv xg, rv xc, iv 4] [(.int 4), (.ref xc), (.int (bs.getD 4 0))])) rfl rfl (D d5_20) _ k)))))))))))))) ?_
            by_cases hc160 : (bs.getD 4 0) = (108 : Int32)
            · skip
              obtain ⟨cl161, Ar161, qk161, S161, Ng161, H161, G161⟩ := id prem0
              obtain ⟨cl163, Ar163, qk163, S163, Ng163, H163, G163⟩ := id prem0
              have hin163 := inb_of (j := (5 : Int32)) S163 ⟨by decide, by decide⟩
              obtain ⟨cl164, Ar164, qk164, S164, Ng164, H164, G164⟩ := id prem1
              have hin164 := inb_of (j := (5 : Int32)) S164 ⟨by decide, by decide⟩
              refine Go.of (T' := T0) (f' := (mkF m 21 #[rv xg, rv xc, iv 5] [(.int 116), (.int (bs.getD 5 0))])) (fun _ k => XS.icmpYes X0.here hx rfl (pc0 := 21) (pc' := 26) rfl (D d5_21) rfl (teq hc160).1 (by decide) (by decide) (XS.iinc X0.here hx rfl (D d5_26) rfl (l' := #[rv xg, rv xc, iv 5]) rfl (XS.goto X0.here hx rfl (pc0 := 29) (pc' := 9) rfl (D d5_29) (by decide) (by decide) (XS.iloadN X0.here hx rfl (D d5_9) rfl (XS.aloadN X0.here hx rfl (D d5_10) rfl rfl (X0.arraylength hx (by rw [e0]; exact Ar161.1) (State.isArrayOf_alike hZ.alike Ar161.2.1) (g := (mkF m 11 #[rv xg, rv xc, iv 5] [(.ref xg), (.int 5)])) rfl rfl (D d5_11) _ (by rw [len_of S161 Ng161]; exact (XS.icmpNo X0.here hx rfl (D d5_12) rfl (tlt (by decide : (5 : Int32) < (7 : Int32))).2.1 (XS.aloadN X0.here hx rfl (D d5_15) rfl rfl (XS.iloadN X0.here hx rfl (D d5_16) rfl (X0.baloadBytes hx (j := (5 : Int32)) (v := (.int (bs.getD 5 0))) (by rw [e0]; exact Ar163.1) (State.isArrayOf_alike hZ.alike Ar163.2.1) Ar163.2.2 hin163 (H163.at hin163 (own_mg bs 5)) (g := (mkF m 17 #[rv xg, rv xc, iv 5] [(.int 5), (.ref xg)])) rfl rfl (D d5_17) _ (XS.aloadN X0.here hx rfl (D d5_18) rfl rfl (XS.iloadN X0.here hx rfl (D d5_19) rfl (X0.baloadBytes hx (j := (5 : Int32)) (v := (.int 116)) (by rw [e0]; exact Ar164.1) (State.isArrayOf_alike hZ.alike Ar164.2.1) Ar164.2.2 hin164 (H164.at hin164 rfl) (g := (mkF m 20 #[rv xg, rv xc, iv 5] [(.int 5), (.ref xc), (.int (bs.getD 5 0))])) rfl rfl (D d5_20) _ k)))))))))))))) ?_
              by_cases hc165 : (bs.getD 5 0) = (116 : Int32)
              · skip
                obtain ⟨cl166, Ar166, qk166, S166, Ng166, H166, G166⟩ := id prem0
                obtain ⟨cl168, Ar168, qk168, S168, Ng168, H168, G168⟩ := id prem0
                have hin168 := inb_of (j := (6 : Int32)) S168 ⟨by decide, by decide⟩
                obtain ⟨cl169, Ar169, qk169, S169, Ng169, H169, G169⟩ := id prem1
                have hin169 := inb_of (j := (6 : Int32)) S169 ⟨by decide, by decide⟩
                refine Go.of (T' := T0) (f' := (mkF m 21 #[rv xg, rv xc, iv 6] [(.int 115), (.int (bs.getD 6 0))])) (fun _ k => XS.icmpYes X0.here hx rfl (pc0 := 21) (pc' := 26) rfl (D d5_21) rfl (teq hc165).1 (by decide) (by decide) (XS.iinc X0.here hx rfl (D d5_26) rfl (l' := #[rv xg, rv xc, iv 6]) rfl (XS.goto X0.here hx rfl (pc0 := 29) (pc' := 9) rfl (D d5_29) (by decide) (by decide) (XS.iloadN X0.here hx rfl (D d5_9) rfl (XS.aloadN X0.here hx rfl (D d5_10) rfl rfl (X0.arraylength hx (by rw [e0]; exact Ar166.1) (State.isArrayOf_alike hZ.alike Ar166.2.1) (g := (mkF m 11 #[rv xg, rv xc, iv 6] [(.ref xg), (.int 6)])) rfl rfl (D d5_11) _ (by rw [len_of S166 Ng166]; exact (XS.icmpNo X0.here hx rfl (D d5_12) rfl (tlt (by decide : (6 : Int32) < (7 : Int32))).2.1 (XS.aloadN X0.here hx rfl (D d5_15) rfl rfl (XS.iloadN X0.here hx rfl (D d5_16) rfl (X0.baloadBytes hx (j := (6 : Int32)) (v := (.int (bs.getD 6 0))) (by rw [e0]; exact Ar168.1) (State.isArrayOf_alike hZ.alike Ar168.2.1) Ar168.2.2 hin168 (H168.at hin168 (own_mg bs 6)) (g := (mkF m 17 #[rv xg, rv xc, iv 6] [(.int 6), (.ref xg)])) rfl rfl (D d5_17) _ (XS.aloadN X0.here hx rfl (D d5_18) rfl rfl (XS.iloadN X0.here hx rfl (D d5_19) rfl (X0.baloadBytes hx (j := (6 : Int32)) (v := (.int 115)) (by rw [e0]; exact Ar169.1) (State.isArrayOf_alike hZ.alike Ar169.2.1) Ar169.2.2 hin169 (H169.at hin169 rfl) (g := (mkF m 20 #[rv xg, rv xc, iv 6] [(.int 6), (.ref xc), (.int (bs.getD 6 0))])) rfl rfl (D d5_20) _ k)))))))))))))) ?_
                by_cases hc170 : (bs.getD 6 0) = (115 : Int32)
                · skip
                  obtain ⟨cl171, Ar171, qk171, S171, Ng171, H171, G171⟩ := id prem0
                  refine Go.of (T' := T0) (f' := (mkF m 33 #[rv xg, rv xc, iv 7] [(.int 1)])) (fun _ k => XS.icmpYes X0.here hx rfl (pc0 := 21) (pc' := 26) rfl (D d5_21) rfl (teq hc170).1 (by decide) (by decide) (XS.iinc X0.here hx rfl (D d5_26) rfl (l' := #[rv xg, rv xc, iv 7]) rfl (XS.goto X0.here hx rfl (pc0 := 29) (pc' := 9) rfl (D d5_29) (by decide) (by decide) (XS.iloadN X0.here hx rfl (D d5_9) rfl (XS.aloadN X0.here hx rfl (D d5_10) rfl rfl (X0.arraylength hx (by rw [e0]; exact Ar171.1) (State.isArrayOf_alike hZ.alike Ar171.2.1) (g := (mkF m 11 #[rv xg, rv xc, iv 7] [(.ref xg), (.int 7)])) rfl rfl (D d5_11) _ (by rw [len_of S171 Ng171]; exact (XS.icmpYes X0.here hx rfl (pc0 := 12) (pc' := 32) rfl (D d5_12) rfl (flt (by decide : ¬ ((7 : Int32) < (7 : Int32)))).2.1 (by decide) (by decide) (XS.iconst X0.here hx rfl (D d5_32) k))))))))) ?_
                  exact Go.retB X0 hx hlk hret (by simp) (D d5_33) (by decide) (by decide) (z' := (1 : Int32)) rfl (by rw [e0]; exact ⟨by rw [own_eq_results, if_pos rfl, if_pos hc140, if_pos hc145, if_pos hc150, if_pos hc155, if_pos hc160, if_pos hc165, if_pos hc170], rfl, by simp⟩)
                · skip
                  refine Go.of (T' := T0) (f' := (mkF m 25 #[rv xg, rv xc, iv 6] [(.int 0)])) (fun _ k => XS.icmpNo X0.here hx rfl (D d5_21) rfl (feq hc170).1 (XS.iconst X0.here hx rfl (D d5_24) k)) ?_
                  exact Go.retB X0 hx hlk hret (by simp) (D d5_25) (by decide) (by decide) (z' := (0 : Int32)) rfl (by rw [e0]; exact ⟨by rw [own_eq_results, if_pos rfl, if_pos hc140, if_pos hc145, if_pos hc150, if_pos hc155, if_pos hc160, if_pos hc165, if_neg hc170], rfl, by simp⟩)
              · skip
                refine Go.of (T' := T0) (f' := (mkF m 25 #[rv xg, rv xc, iv 5] [(.int 0)])) (fun _ k => XS.icmpNo X0.here hx rfl (D d5_21) rfl (feq hc165).1 (XS.iconst X0.here hx rfl (D d5_24) k)) ?_
                exact Go.retB X0 hx hlk hret (by simp) (D d5_25) (by decide) (by decide) (z' := (0 : Int32)) rfl (by rw [e0]; exact ⟨by rw [own_eq_results, if_pos rfl, if_pos hc140, if_pos hc145, if_pos hc150, if_pos hc155, if_pos hc160, if_neg hc165], rfl, by simp⟩)
            · skip
              refine Go.of (T' := T0) (f' := (mkF m 25 #[rv xg, rv xc, iv 4] [(.int 0)])) (fun _ k => XS.icmpNo X0.here hx rfl (D d5_21) rfl (feq hc160).1 (XS.iconst X0.here hx rfl (D d5_24) k)) ?_
              exact Go.retB X0 hx hlk hret (by simp) (D d5_25) (by decide) (by decide) (z' := (0 : Int32)) rfl (by rw [e0]; exact ⟨by rw [own_eq_results, if_pos rfl, if_pos hc140, if_pos hc145, if_pos hc150, if_pos hc155, if_neg hc160], rfl, by simp⟩)
          · skip
            refine Go.of (T' := T0) (f' := (mkF m 25 #[rv xg, rv xc, iv 3] [(.int 0)])) (fun _ k => XS.icmpNo X0.here hx rfl (D d5_21) rfl (feq hc155).1 (XS.iconst X0.here hx rfl (D d5_24) k)) ?_
            exact Go.retB X0 hx hlk hret (by simp) (D d5_25) (by decide) (by decide) (z' := (0 : Int32)) rfl (by rw [e0]; exact ⟨by rw [own_eq_results, if_pos rfl, if_pos hc140, if_pos hc145, if_pos hc150, if_neg hc155], rfl, by simp⟩)
        · skip
          refine Go.of (T' := T0) (f' := (mkF m 25 #[rv xg, rv xc, iv 2] [(.int 0)])) (fun _ k => XS.icmpNo X0.here hx rfl (D d5_21) rfl (feq hc150).1 (XS.iconst X0.here hx rfl (D d5_24) k)) ?_
          exact Go.retB X0 hx hlk hret (by simp) (D d5_25) (by decide) (by decide) (z' := (0 : Int32)) rfl (by rw [e0]; exact ⟨by rw [own_eq_results, if_pos rfl, if_pos hc140, if_pos hc145, if_neg hc150], rfl, by simp⟩)
      · skip
        refine Go.of (T' := T0) (f' := (mkF m 25 #[rv xg, rv xc, iv 1] [(.int 0)])) (fun _ k => XS.icmpNo X0.here hx rfl (D d5_21) rfl (feq hc145).1 (XS.iconst X0.here hx rfl (D d5_24) k)) ?_
        exact Go.retB X0 hx hlk hret (by simp) (D d5_25) (by decide) (by decide) (z' := (0 : Int32)) rfl (by rw [e0]; exact ⟨by rw [own_eq_results, if_pos rfl, if_pos hc140, if_neg hc145], rfl, by simp⟩)
    · skip
      refine Go.of (T' := T0) (f' := (mkF m 25 #[rv xg, rv xc, iv 0] [(.int 0)])) (fun _ k => XS.icmpNo X0.here hx rfl (D d5_21) rfl (feq hc140).1 (XS.iconst X0.here hx rfl (D d5_24) k)) ?_
      exact Go.retB X0 hx hlk hret (by simp) (D d5_25) (by decide) (by decide) (z' := (0 : Int32)) rfl (by rw [e0]; exact ⟨by rw [own_eq_results, if_pos rfl, if_neg hc140], rfl, by simp⟩)
  · skip
    refine Go.of (T' := T0) (f' := (mkF m 35 #[rv xg, rv xc, .unset] [(.int 0)])) (fun _ k => XS.icmpYes X0.here hx rfl (pc0 := 4) (pc' := 34) rfl (D d5_4) rfl (feq hc135).2 (by decide) (by decide) (XS.iconst X0.here hx rfl (D d5_34) k)) ?_
    exact Go.retB X0 hx hlk hret (by simp) (D d5_35) (by decide) (by decide) (z' := (0 : Int32)) rfl (by rw [e0]; exact ⟨by rw [own_eq_results, if_neg hc135], rfl, by simp⟩)
theorem ef_rm_l1n_results (m : MethodId) (xc : Addr) (xg : Addr) : entryFrame m #[(.ref xc), (.ref xg)] 3 = mkF m 0 #[rv xc, rv xg, .unset] [] := by first | (simp [entryFrame, mkF, argsToLocals, Value.category]; done) | rfl
set_option maxRecDepth 65536 in
set_option maxHeartbeats 40000000 in
theorem rm_l1n_results {l : Launch} {Z : State} {a0 : Array Value} {A : Nat → Addr} {KC : Nat → Cell} {IC : Nat → Int32} {VC : Nat → Value} (hw : ∀ d ∈ tables_1, d.before a0 Z = true) (G : own_Ctx Z A KC IC VC) (xc : Addr) (xg : Addr) (kg : ClassId) (kc : ClassId) (n : Int32) (bs : List Int32) (h0 : Heap) (O0 : Ext Z.heap h0) (prem0 : Arv Z h0 xg kg .byte n (bs.map Value.int) (.int (0 : Int32))) (prem1 : Arv Z h0 xc kc .byte (7 : Int32) [(.int (114 : Int32)), (.int (101 : Int32)), (.int (115 : Int32)), (.int (117 : Int32)), (.int (108 : Int32)), (.int (116 : Int32)), (.int (115 : Int32))] (.int (0 : Int32))) :
    Ok l Z own_m14 jdk_43_method_13_code 3 (some .boolean) ({ frames := 0, cells := 0, slots := 0, locals := 0 } : Room) #[(.ref xc), (.ref xg)] h0
      (fun v h L => v = some (.int (own_eq_results n bs)) ∧ (h = h0) ∧ (L = [])) := by
  refine Ok.mk pn15 ?_
  intro p e s m below meth c T0 hx hby hml hown hnm hret hlk hZ e0 X0
  refine Go.cast (ef_rm_l1n_results m xc xg) ?_
  have D := @hb _ _ hby
  have N0 := Fr.nil Z.heap.size
  have K0 : Keep h0 h0 [] := Keep.refl _ _
  obtain ⟨cl173, Ar173, qk173, S173, Ng173, H173, G173⟩ := id prem1
  obtain ⟨cl174, Ar174, qk174, S174, Ng174, H174, G174⟩ := id prem0
  refine Go.of (T' := T0) (f' := (mkF m 4 #[rv xc, rv xg, .unset] [(.int n), (.int 7)])) (fun _ k => XS.aloadN X0.here hx rfl (D d5_0) rfl rfl (X0.arraylength hx (by rw [e0]; exact Ar173.1) (State.isArrayOf_alike hZ.alike Ar173.2.1) (g := (mkF m 1 #[rv xc, rv xg, .unset] [(.ref xc)])) rfl rfl (D d5_1) _ (by rw [len_of S173 Ng173]; exact (XS.aloadN X0.here hx rfl (D d5_2) rfl rfl (X0.arraylength hx (by rw [e0]; exact Ar174.1) (State.isArrayOf_alike hZ.alike Ar174.2.1) (g := (mkF m 3 #[rv xc, rv xg, .unset] [(.ref xg), (.int 7)])) rfl rfl (D d5_3) _ (by rw [len_of S174 Ng174]; exact k)))))) ?_
  by_cases hc175 : (7 : Int32) = n
  · skip
    refine Go.of (T' := T0) (f' := (mkF m 7 #[rv xc, rv xg, .unset] [])) (fun _ k => XS.icmpNo X0.here hx rfl (D d5_4) rfl (teq hc175).2 k) ?_
    subst hc175
    obtain ⟨cl176, Ar176, qk176, S176, Ng176, H176, G176⟩ := id prem1
    obtain ⟨cl178, Ar178, qk178, S178, Ng178, H178, G178⟩ := id prem1
    have hin178 := inb_of (j := (0 : Int32)) S178 ⟨by decide, by decide⟩
    obtain ⟨cl179, Ar179, qk179, S179, Ng179, H179, G179⟩ := id prem0
    have hin179 := inb_of (j := (0 : Int32)) S179 ⟨by decide, by decide⟩
    refine Go.of (T' := T0) (f' := (mkF m 21 #[rv xc, rv xg, iv 0] [(.int (bs.getD 0 0)), (.int 114)])) (fun _ k => XS.iconst X0.here hx rfl (D d5_7) (XS.istoreN X0.here hx rfl (D d5_8) rfl (l' := #[rv xc, rv xg, iv 0]) rfl (XS.iloadN X0.here hx rfl (D d5_9) rfl (XS.aloadN X0.here hx rfl (D d5_10) rfl rfl (X0.arraylength hx (by rw [e0]; exact Ar176.1) (State.isArrayOf_alike hZ.alike Ar176.2.1) (g := (mkF m 11 #[rv xc, rv xg, iv 0] [(.ref xc), (.int 0)])) rfl rfl (D d5_11) _ (by rw [len_of S176 Ng176]; exact (XS.icmpNo X0.here hx rfl (D d5_12) rfl (tlt (by decide : (0 : Int32) < (7 : Int32))).2.1 (XS.aloadN X0.here hx rfl (D d5_15) rfl rfl (XS.iloadN X0.here hx rfl (D d5_16) rfl (X0.baloadBytes hx (j := (0 : Int32)) (v := (.int 114)) (by rw [e0]; exact Ar178.1) (State.isArrayOf_alike hZ.alike Ar178.2.1) Ar178.2.2 hin178 (H178.at hin178 rfl) (g := (mkF m 17 #[rv xc, rv xg, iv 0] [(.int 0), (.ref xc)])) rfl rfl (D d5_17) _ (XS.aloadN X0.here hx rfl (D d5_18) rfl rfl (XS.iloadN X0.here hx rfl (D d5_19) rfl (X0.baloadBytes hx (j := (0 : Int32)) (v := (.int (bs.getD 0 0))) (by rw [e0]; exact Ar179.1) (State.isArrayOf_alike hZ.alike Ar179.2.1) Ar179.2.2 hin179 (H179.at hin179 (own_mg bs 0)) (g := (mkF m 20 #[rv xc, rv xg, iv 0] [(.int 0), (.ref xg), (.int 114)])) rfl rfl (D d5_20) _ k))))))))))))) ?_
    by_cases hc180 : (114 : Int32) = (bs.getD 0 0)
    · skip
      obtain ⟨cl181, Ar181, qk181, S181, Ng181, H181, G181⟩ := id prem1
      obtain ⟨cl183, Ar183, qk183, S183, Ng183, H183, G183⟩ := id prem1
      have hin183 := inb_of (j := (1 : Int32)) S183 ⟨by decide, by decide⟩
      obtain ⟨cl184, Ar184, qk184, S184, Ng184, H184, G184⟩ := id prem0
      have hin184 := inb_of (j := (1 : Int32)) S184 ⟨by decide, by decide⟩
      refine Go.of (T' := T0) (f' := (mkF m 21 #[rv xc, rv xg, iv 1] [(.int (bs.getD 1 0)), (.int 101)])) (fun _ k => XS.icmpYes X0.here hx rfl (pc0 := 21) (pc' := 26) rfl (D d5_21) rfl (teq hc180).1 (by decide) (by decide) (XS.iinc X0.here hx rfl (D d5_26) rfl (l' := #[rv xc, rv xg, iv 1]) rfl (XS.goto X0.here hx rfl (pc0 := 29) (pc' := 9) rfl (D d5_29) (by decide) (by decide) (XS.iloadN X0.here hx rfl (D d5_9) rfl (XS.aloadN X0.here hx rfl (D d5_10) rfl rfl (X0.arraylength hx (by rw [e0]; exact Ar181.1) (State.isArrayOf_alike hZ.alike Ar181.2.1) (g := (mkF m 11 #[rv xc, rv xg, iv 1] [(.ref xc), (.int 1)])) rfl rfl (D d5_11) _ (by rw [len_of S181 Ng181]; exact (XS.icmpNo X0.here hx rfl (D d5_12) rfl (tlt (by decide : (1 : Int32) < (7 : Int32))).2.1 (XS.aloadN X0.here hx rfl (D d5_15) rfl rfl (XS.iloadN X0.here hx rfl (D d5_16) rfl (X0.baloadBytes hx (j := (1 : Int32)) (v := (.int 101)) (by rw [e0]; exact Ar183.1) (State.isArrayOf_alike hZ.alike Ar183.2.1) Ar183.2.2 hin183 (H183.at hin183 rfl) (g := (mkF m 17 #[rv xc, rv xg, iv 1] [(.int 1), (.ref xc)])) rfl rfl (D d5_17) _ (XS.aloadN X0.here hx rfl (D d5_18) rfl rfl (XS.iloadN X0.here hx rfl (D d5_19) rfl (X0.baloadBytes hx (j := (1 : Int32)) (v := (.int (bs.getD 1 0))) (by rw [e0]; exact Ar184.1) (State.isArrayOf_alike hZ.alike Ar184.2.1) Ar184.2.2 hin184 (H184.at hin184 (own_mg bs 1)) (g := (mkF m 20 #[rv xc, rv xg, iv 1] [(.int 1), (.ref xg), (.int 101)])) rfl rfl (D d5_20) _ k)))))))))))))) ?_
      by_cases hc185 : (101 : Int32) = (bs.getD 1 0)
      · skip
        obtain ⟨cl186, Ar186, qk186, S186, Ng186, H186, G186⟩ := id prem1
        obtain ⟨cl188, Ar188, qk188, S188, Ng188, H188, G188⟩ := id prem1
        have hin188 := inb_of (j := (2 : Int32)) S188 ⟨by decide, by decide⟩
        obtain ⟨cl189, Ar189, qk189, S189, Ng189, H189, G189⟩ := id prem0
        have hin189 := inb_of (j := (2 : Int32)) S189 ⟨by decide, by decide⟩
        refine Go.of (T' := T0) (f' := (mkF m 21 #[rv xc, rv xg, iv 2] [(.int (bs.getD 2 0)), (.int 115)])) (fun _ k => XS.icmpYes X0.here hx rfl (pc0 := 21) (pc' := 26) rfl (D d5_21) rfl (teq hc185).1 (by decide) (by decide) (XS.iinc X0.here hx rfl (D d5_26) rfl (l' := #[rv xc, rv xg, iv 2]) rfl (XS.goto X0.here hx rfl (pc0 := 29) (pc' := 9) rfl (D d5_29) (by decide) (by decide) (XS.iloadN X0.here hx rfl (D d5_9) rfl (XS.aloadN X0.here hx rfl (D d5_10) rfl rfl (X0.arraylength hx (by rw [e0]; exact Ar186.1) (State.isArrayOf_alike hZ.alike Ar186.2.1) (g := (mkF m 11 #[rv xc, rv xg, iv 2] [(.ref xc), (.int 2)])) rfl rfl (D d5_11) _ (by rw [len_of S186 Ng186]; exact (XS.icmpNo X0.here hx rfl (D d5_12) rfl (tlt (by decide : (2 : Int32) < (7 : Int32))).2.1 (XS.aloadN X0.here hx rfl (D d5_15) rfl rfl (XS.iloadN X0.here hx rfl (D d5_16) rfl (X0.baloadBytes hx (j := (2 : Int32)) (v := (.int 115)) (by rw [e0]; exact Ar188.1) (State.isArrayOf_alike hZ.alike Ar188.2.1) Ar188.2.2 hin188 (H188.at hin188 rfl) (g := (mkF m 17 #[rv xc, rv xg, iv 2] [(.int 2), (.ref xc)])) rfl rfl (D d5_17) _ (XS.aloadN X0.here hx rfl (D d5_18) rfl rfl (XS.iloadN X0.here hx rfl (D d5_19) rfl (X0.baloadBytes hx (j := (2 : Int32)) (v := (.int (bs.getD 2 0))) (by rw [e0]; exact Ar189.1) (State.isArrayOf_alike hZ.alike Ar189.2.1) Ar189.2.2 hin189 (H189.at hin189 (own_mg bs 2)) (g := (mkF m 20 #[rv xc, rv xg, iv 2] [(.int 2), (.ref xg), (.int 115)])) rfl rfl (D d5_20) _ k)))))))))))))) ?_
        by_cases hc190 : (115 : Int32) = (bs.getD 2 0)
        · skip
          obtain ⟨cl191, Ar191, qk191, S191, Ng191, H191, G191⟩ := id prem1
          obtain ⟨cl193, Ar193, qk193, S193, Ng193, H193, G193⟩ := id prem1
          have hin193 := inb_of (j := (3 : Int32)) S193 ⟨by decide, by decide⟩
          obtain ⟨cl194, Ar194, qk194, S194, Ng194, H194, G194⟩ := id prem0
          have hin194 := inb_of (j := (3 : Int32)) S194 ⟨by decide, by decide⟩
          refine Go.of (T' := T0) (f' := (mkF m 21 #[rv xc, rv xg, iv 3] [(.int (bs.getD 3 0)), (.int 117)])) (fun _ k => XS.icmpYes X0.here hx rfl (pc0 := 21) (pc' := 26) rfl (D d5_21) rfl (teq hc190).1 (by decide) (by decide) (XS.iinc X0.here hx rfl (D d5_26) rfl (l' := #[rv xc, rv xg, iv 3]) rfl (XS.goto X0.here hx rfl (pc0 := 29) (pc' := 9) rfl (D d5_29) (by decide) (by decide) (XS.iloadN X0.here hx rfl (D d5_9) rfl (XS.aloadN X0.here hx rfl (D d5_10) rfl rfl (X0.arraylength hx (by rw [e0]; exact Ar191.1) (State.isArrayOf_alike hZ.alike Ar191.2.1) (g := (mkF m 11 #[rv xc, rv xg, iv 3] [(.ref xc), (.int 3)])) rfl rfl (D d5_11) _ (by rw [len_of S191 Ng191]; exact (XS.icmpNo X0.here hx rfl (D d5_12) rfl (tlt (by decide : (3 : Int32) < (7 : Int32))).2.1 (XS.aloadN X0.here hx rfl (D d5_15) rfl rfl (XS.iloadN X0.here hx rfl (D d5_16) rfl (X0.baloadBytes hx (j := (3 : Int32)) (v := (.int 117)) (by rw [e0]; exact Ar193.1) (State.isArrayOf_alike hZ.alike Ar193.2.1) Ar193.2.2 hin193 (H193.at hin193 rfl) (g := (mkF m 17 #[rv xc, rv xg, iv 3] [(.int 3), (.ref xc)])) rfl rfl (D d5_17) _ (XS.aloadN X0.here hx rfl (D d5_18) rfl rfl (XS.iloadN X0.here hx rfl (D d5_19) rfl (X0.baloadBytes hx (j := (3 : Int32)) (v := (.int (bs.getD 3 0))) (by rw [e0]; exact Ar194.1) (State.isArrayOf_alike hZ.alike Ar194.2.1) Ar194.2.2 hin194 (H194.at hin194 (own_mg bs 3)) (g := (mkF m 20 #[rv xc, rv xg, iv 3] [(.int 3), (.ref xg), (.int 117)])) rfl rfl (D d5_20) _ k)))))))))))))) ?_
          by_cases hc195 : (117 : Int32) = (bs.getD 3 0)
          · skip
            obtain ⟨cl196, Ar196, qk196, S196, Ng196, H196, G196⟩ := id prem1
            obtain ⟨cl198, Ar198, qk198, S198, Ng198, H198, G198⟩ := id prem1
            have hin198 := inb_of (j := (4 : Int32)) S198 ⟨by decide, by decide⟩
            obtain ⟨cl199, Ar199, qk199, S199, Ng199, H199, G199⟩ := id prem0
            have hin199 := inb_of (j := (4 : Int32)) S199 ⟨by decide, by decide⟩
            refine Go.of (T' := T0) (f' := (mkF m 21 #[rv xc, rv xg, iv 4] [(.int (bs.getD 4 0)), (.int 108)])) (fun _ k => XS.icmpYes X0.here hx rfl (pc0 := 21) (pc' := 26) rfl (D d5_21) rfl (teq hc195).1 (by decide) (by decide) (XS.iinc X0.here hx rfl (D d5_26) rfl (l' := #[rv xc, rv xg, iv 4]) rfl (XS.goto X0.here hx rfl (pc0 := 29) (pc' := 9) rfl (D d5_29) (by decide) (by decide) (XS.iloadN X0.here hx rfl (D d5_9) rfl (XS.aloadN X0.here hx rfl (D d5_10) rfl rfl (X0.arraylength hx (by rw [e0]; exact Ar196.1) (State.isArrayOf_alike hZ.alike Ar196.2.1) (g := (mkF m 11 #[rv xc, rv xg, iv 4] [(.ref xc), (.int 4)])) rfl rfl (D d5_11) _ (by rw [len_of S196 Ng196]; exact (XS.icmpNo X0.here hx rfl (D d5_12) rfl (tlt (by decide : (4 : Int32) < (7 : Int32))).2.1 (XS.aloadN X0.here hx rfl (D d5_15) rfl rfl (XS.iloadN X0.here hx rfl (D d5_16) rfl (X0.baloadBytes hx (j := (4 : Int32)) (v := (.int 108)) (by rw [e0]; exact Ar198.1) (State.isArrayOf_alike hZ.alike Ar198.2.1) Ar198.2.2 hin198 (H198.at hin198 rfl) (g := (mkF m 17 #[rv xc, rv xg, iv 4] [(.int 4), (.ref xc)])) rfl rfl (D d5_17) _ (XS.aloadN X0.here hx rfl (D d5_18) rfl rfl (XS.iloadN X0.here hx rfl (D d5_19) rfl (X0.baloadBytes hx (j := (4 : Int32)) (v := (.int (bs.getD 4 0))) (by rw [e0]; exact Ar199.1) (State.isArrayOf_alike hZ.alike Ar199.2.1) Ar199.2.2 hin199 (H199.at hin199 (own_mg bs 4)) (g := (mkF m 20 #[rv xc, rv xg, iv 4] [(.int 4), (.ref xg), (.int 108)])) rfl rfl (D d5_20) _ k)))))))))))))) ?_
            by_cases hc200 : (108 : Int32) = (bs.getD 4 0)
            · skip
              obtain ⟨cl201, Ar201, qk201, S201, Ng201, H201, G201⟩ := id prem1
              obtain ⟨cl203, Ar203, qk203, S203, Ng203, H203, G203⟩ := id prem1
              have hin203 := inb_of (j := (5 : Int32)) S203 ⟨by decide, by decide⟩
              obtain ⟨cl204, Ar204, qk204, S204, Ng204, H204, G204⟩ := id prem0
              have hin204 := inb_of (j := (5 : Int32)) S204 ⟨by decide, by decide⟩
              refine Go.of (T' := T0) (f' := (mkF m 21 #[rv xc, rv xg, iv 5] [(.int (bs.getD 5 0)), (.int 116)])) (fun _ k => XS.icmpYes X0.here hx rfl (pc0 := 21) (pc' := 26) rfl (D d5_21) rfl (teq hc200).1 (by decide) (by decide) (XS.iinc X0.here hx rfl (D d5_26) rfl (l' := #[rv xc, rv xg, iv 5]) rfl (XS.goto X0.here hx rfl (pc0 := 29) (pc' := 9) rfl (D d5_29) (by decide) (by decide) (XS.iloadN X0.here hx rfl (D d5_9) rfl (XS.aloadN X0.here hx rfl (D d5_10) rfl rfl (X0.arraylength hx (by rw [e0]; exact Ar201.1) (State.isArrayOf_alike hZ.alike Ar201.2.1) (g := (mkF m 11 #[rv xc, rv xg, iv 5] [(.ref xc), (.int 5)])) rfl rfl (D d5_11) _ (by rw [len_of S201 Ng201]; exact (XS.icmpNo X0.here hx rfl (D d5_12) rfl (tlt (by decide : (5 : Int32) < (7 : Int32))).2.1 (XS.aloadN X0.here hx rfl (D d5_15) rfl rfl (XS.iloadN X0.here hx rfl (D d5_16) rfl (X0.baloadBytes hx (j := (5 : Int32)) (v := (.int 116)) (by rw [e0]; exact Ar203.1) (State.isArrayOf_alike hZ.alike Ar203.2.1) Ar203.2.2 hin203 (H203.at hin203 rfl) (g := (mkF m 17 #[rv xc, rv xg, iv 5] [(.int 5), (.ref xc)])) rfl rfl (D d5_17) _ (XS.aloadN X0.here hx rfl (D d5_18) rfl rfl (XS.iloadN X0.here hx rfl (D d5_19) rfl (X0.baloadBytes hx (j := (5 : Int32)) (v := (.int (bs.getD 5 0))) (by rw [e0]; exact Ar204.1) (State.isArrayOf_alike hZ.alike Ar204.2.1) Ar204.2.2 hin204 (H204.at hin204 (own_mg bs 5)) (g := (mkF m 20 #[rv xc, rv xg, iv 5] [(.int 5), (.ref xg), (.int 116)])) rfl rfl (D d5_20) _ k)))))))))))))) ?_
              by_cases hc205 : (116 : Int32) = (bs.getD 5 0)
              · skip
                obtain ⟨cl206, Ar206, qk206, S206, Ng206, H206, G206⟩ := id prem1
                obtain ⟨cl208, Ar208, qk208, S208, Ng208, H208, G208⟩ := id prem1
                have hin208 := inb_of (j := (6 : Int32)) S208 ⟨by decide, by decide⟩
                obtain ⟨cl209, Ar209, qk209, S209, Ng209, H209, G209⟩ := id prem0
                have hin209 := inb_of (j := (6 : Int32)) S209 ⟨by decide, by decide⟩
                refine Go.of (T' := T0) (f' := (mkF m 21 #[rv xc, rv xg, iv 6] [(.int (bs.getD 6 0)), (.int 115)])) (fun _ k => XS.icmpYes X0.here hx rfl (pc0 := 21) (pc' := 26) rfl (D d5_21) rfl (teq hc205).1 (by decide) (by decide) (XS.iinc X0.here hx rfl (D d5_26) rfl (l' := #[rv xc, rv xg, iv 6]) rfl (XS.goto X0.here hx rfl (pc0 := 29) (pc' := 9) rfl (D d5_29) (by decide) (by decide) (XS.iloadN X0.here hx rfl (D d5_9) rfl (XS.aloadN X0.here hx rfl (D d5_10) rfl rfl (X0.arraylength hx (by rw [e0]; exact Ar206.1) (State.isArrayOf_alike hZ.alike Ar206.2.1) (g := (mkF m 11 #[rv xc, rv xg, iv 6] [(.ref xc), (.int 6)])) rfl rfl (D d5_11) _ (by rw [len_of S206 Ng206]; exact (XS.icmpNo X0.here hx rfl (D d5_12) rfl (tlt (by decide : (6 : Int32) < (7 : Int32))).2.1 (XS.aloadN X0.here hx rfl (D d5_15) rfl rfl (XS.iloadN X0.here hx rfl (D d5_16) rfl (X0.baloadBytes hx (j := (6 : Int32)) (v := (.int 115)) (by rw [e0]; exact Ar208.1) (State.isArrayOf_alike hZ.alike Ar208.2.1) Ar208.2.2 hin208 (H208.at hin208 rfl) (g := (mkF m 17 #[rv xc, rv xg, iv 6] [(.int 6), (.ref xc)])) rfl rfl (D d5_17) _ (XS.aloadN X0.here hx rfl (D d5_18) rfl rfl (XS.iloadN X0.here hx rfl (D d5_19) rfl (X0.baloadBytes hx (j := (6 : Int32)) (v := (.int (bs.getD 6 0))) (by rw [e0]; exact Ar209.1) (State.isArrayOf_alike hZ.alike Ar209.2.1) Ar209.2.2 hin209 (H209.at hin209 (own_mg bs 6)) (g := (mkF m 20 #[rv xc, rv xg, iv 6] [(.int 6), (.ref xg), (.int 115)])) rfl rfl (D d5_20) _ k)))))))))))))) ?_
                by_cases hc210 : (115 : Int32) = (bs.getD 6 0)
                · skip
                  obtain ⟨cl211, Ar211, qk211, S211, Ng211, H211, G211⟩ := id prem1
                  refine Go.of (T' := T0) (f' := (mkF m 33 #[rv xc, rv xg, iv 7] [(.int 1)])) (fun _ k => XS.icmpYes X0.here hx rfl (pc0 := 21) (pc' := 26) rfl (D d5_21) rfl (teq hc210).1 (by decide) (by decide) (XS.iinc X0.here hx rfl (D d5_26) rfl (l' := #[rv xc, rv xg, iv 7]) rfl (XS.goto X0.here hx rfl (pc0 := 29) (pc' := 9) rfl (D d5_29) (by decide) (by decide) (XS.iloadN X0.here hx rfl (D d5_9) rfl (XS.aloadN X0.here hx rfl (D d5_10) rfl rfl (X0.arraylength hx (by rw [e0]; exact Ar211.1) (State.isArrayOf_alike hZ.alike Ar211.2.1) (g := (mkF m 11 #[rv xc, rv xg, iv 7] [(.ref xc), (.int 7)])) rfl rfl (D d5_11) _ (by rw [len_of S211 Ng211]; exact (XS.icmpYes X0.here hx rfl (pc0 := 12) (pc' := 32) rfl (D d5_12) rfl (flt (by decide : ¬ ((7 : Int32) < (7 : Int32)))).2.1 (by decide) (by decide) (XS.iconst X0.here hx rfl (D d5_32) k))))))))) ?_
                  exact Go.retB X0 hx hlk hret (by simp) (D d5_33) (by decide) (by decide) (z' := (1 : Int32)) rfl (by rw [e0]; exact ⟨by rw [own_eq_results, if_pos rfl, if_pos hc180.symm, if_pos hc185.symm, if_pos hc190.symm, if_pos hc195.symm, if_pos hc200.symm, if_pos hc205.symm, if_pos hc210.symm], rfl, by simp⟩)
                · skip
                  refine Go.of (T' := T0) (f' := (mkF m 25 #[rv xc, rv xg, iv 6] [(.int 0)])) (fun _ k => XS.icmpNo X0.here hx rfl (D d5_21) rfl (feq hc210).1 (XS.iconst X0.here hx rfl (D d5_24) k)) ?_
                  exact Go.retB X0 hx hlk hret (by simp) (D d5_25) (by decide) (by decide) (z' := (0 : Int32)) rfl (by rw [e0]; exact ⟨by rw [own_eq_results, if_pos rfl, if_pos hc180.symm, if_pos hc185.symm, if_pos hc190.symm, if_pos hc195.symm, if_pos hc200.symm, if_pos hc205.symm, if_neg (fun q => hc210 q.symm)], rfl, by simp⟩)
              · skip
                refine Go.of (T' := T0) (f' := (mkF m 25 #[rv xc, rv xg, iv 5] [(.int 0)])) (fun _ k => XS.icmpNo X0.here hx rfl (D d5_21) rfl (feq hc205).1 (XS.iconst X0.here hx rfl (D d5_24) k)) ?_
                exact Go.retB X0 hx hlk hret (by simp) (D d5_25) (by decide) (by decide) (z' := (0 : Int32)) rfl (by rw [e0]; exact ⟨by rw [own_eq_results, if_pos rfl, if_pos hc180.symm, if_pos hc185.symm, if_pos hc190.symm, if_pos hc195.symm, if_pos hc200.symm, if_neg (fun q => hc205 q.symm)], rfl, by simp⟩)
            · skip
              refine Go.of (T' := T0) (f' := (mkF m 25 #[rv xc, rv xg, iv 4] [(.int 0)])) (fun _ k => XS.icmpNo X0.here hx rfl (D d5_21) rfl (feq hc200).1 (XS.iconst X0.here hx rfl (D d5_24) k)) ?_
              exact Go.retB X0 hx hlk hret (by simp) (D d5_25) (by decide) (by decide) (z' := (0 : Int32)) rfl (by rw [e0]; exact ⟨by rw [own_eq_results, if_pos rfl, if_pos hc180.symm, if_pos hc185.symm, if_pos hc190.symm, if_pos hc195.symm, if_neg (fun q => hc200 q.symm)], rfl, by simp⟩)
          · skip
            refine Go.of (T' := T0) (f' := (mkF m 25 #[rv xc, rv xg, iv 3] [(.int 0)])) (fun _ k => XS.icmpNo X0.here hx rfl (D d5_21) rfl (feq hc195).1 (XS.iconst X0.here hx rfl (D d5_24) k)) ?_
            exact Go.retB X0 hx hlk hret (by simp) (D d5_25) (by decide) (by decide) (z' := (0 : Int32)) rfl (by rw [e0]; exact ⟨by rw [own_eq_results, if_pos rfl, if_pos hc180.symm, if_pos hc185.symm, if_pos hc190.symm, if_neg (fun q => hc195 q.symm)], rfl, by simp⟩)
        · skip
          refine Go.of (T' := T0) (f' := (mkF m 25 #[rv xc, rv xg, iv 2] [(.int 0)])) (fun _ k => XS.icmpNo X0.here hx rfl (D d5_21) rfl (feq hc190).1 (XS.iconst X0.here hx rfl (D d5_24) k)) ?_
          exact Go.retB X0 hx hlk hret (by simp) (D d5_25) (by decide) (by decide) (z' := (0 : Int32)) rfl (by rw [e0]; exact ⟨by rw [own_eq_results, if_pos rfl, if_pos hc180.symm, if_pos hc185.symm, if_neg (fun q => hc190 q.symm)], rfl, by simp⟩)
      · skip
        refine Go.of (T' := T0) (f' := (mkF m 25 #[rv xc, rv xg, iv 1] [(.int 0)])) (fun _ k => XS.icmpNo X0.here hx rfl (D d5_21) rfl (feq hc185).1 (XS.iconst X0.here hx rfl (D d5_24) k)) ?_
        exact Go.retB X0 hx hlk hret (by simp) (D d5_25) (by decide) (by decide) (z' := (0 : Int32)) rfl (by rw [e0]; exact ⟨by rw [own_eq_results, if_pos rfl, if_pos hc180.symm, if_neg (fun q => hc185 q.symm)], rfl, by simp⟩)
    · skip
      refine Go.of (T' := T0) (f' := (mkF m 25 #[rv xc, rv xg, iv 0] [(.int 0)])) (fun _ k => XS.icmpNo X0.here hx rfl (D d5_21) rfl (feq hc180).1 (XS.iconst X0.here hx rfl (D d5_24) k)) ?_
      exact Go.retB X0 hx hlk hret (by simp) (D d5_25) (by decide) (by decide) (z' := (0 : Int32)) rfl (by rw [e0]; exact ⟨by rw [own_eq_results, if_pos rfl, if_neg (fun q => hc180 q.symm)], rfl, by simp⟩)
  · skip
    refine Go.of (T' := T0) (f' := (mkF m 35 #[rv xc, rv xg, .unset] [(.int 0)])) (fun _ k => XS.icmpYes X0.here hx rfl (pc0 := 4) (pc' := 34) rfl (D d5_4) rfl (feq hc175).2 (by decide) (by decide) (XS.iconst X0.here hx rfl (D d5_34) k)) ?_
    exact Go.retB X0 hx hlk hret (by simp) (D d5_35) (by decide) (by decide) (z' := (0 : Int32)) rfl (by rw [e0]; exact ⟨by rw [own_eq_results, if_neg (fun q => hc175 q.symm)], rfl, by simp⟩)
theorem ef_rm_eqg_results (m : MethodId) (so : Addr) (cb : Addr) : entryFrame m #[(.ref so), (.ref cb)] 3 = mkF m 0 #[rv so, rv cb, .unset] [] := by first | (simp [entryFrame, mkF, argsToLocals, Value.category]; done) | rfl
set_option maxRecDepth 65536 in
set_option maxHeartbeats 40000000 in
theorem rm_eqg_results {l : Launch} {Z : State} {a0 : Array Value} {A : Nat → Addr} {KC : Nat → Cell} {IC : Nat → Int32} {VC : Nat → Value} (hw : ∀ d ∈ tables_1, d.before a0 Z = true) (G : own_Ctx Z A KC IC VC) (so : Addr) (cb : Addr) (sv : Addr) (kg : ClassId) (n : Int32) (bs : List Int32) (vb : Addr) (kc : ClassId) (vq : Int32) (h0 : Heap) (O0 : Ext Z.heap h0) (prem0 : Exa Z h0 so "java/lang/String") (prem1 : Fld Z h0 so "java/lang/String" "value" "[B" (.ref sv)) (prem2 : Fld Z h0 so "java/lang/String" "coder" "B" (.int (0 : Int32))) (prem3 : Arv Z h0 sv kg .byte n (bs.map Value.int) (.int (0 : Int32))) (prem4 : Exa Z h0 cb "java/lang/String") (prem5 : Fld Z h0 cb "java/lang/String" "coder" "B" (.int (0 : Int32))) (prem6 : Fld Z h0 cb "java/lang/String" "value" "[B" (.ref vb)) (prem7 : Arv Z h0 vb kc .byte (7 : Int32) [(.int (114 : Int32)), (.int (101 : Int32)), (.int (115 : Int32)), (.int (117 : Int32)), (.int (108 : Int32)), (.int (116 : Int32)), (.int (115 : Int32))] (.int (0 : Int32))) (prem8 : own_eq_results n bs = vq) :
    Ok l Z own_m17 jdk_42_method_66_code 3 (some .boolean) ({ frames := 1, cells := 0, slots := 0, locals := 14 } : Room) #[(.ref so), (.ref cb)] h0
      (fun v h L => v = some (.int vq) ∧ (h = h0) ∧ (L = [])) := by
  refine Ok.mk pn18 ?_
  intro p e s m below meth c T0 hx hby hml hown hnm hret hlk hZ e0 X0
  refine Go.cast (ef_rm_eqg_results m so cb) ?_
  obtain ⟨-, -, -, -, -, -, -, -, -, -, -, -, -, -, -, -, -, -, -, -, S_COMPACT_STRINGS, hne_s_COMPACT_STRINGS_0, -⟩ := id G
  have D := @hb _ _ hby
  have N0 := Fr.nil Z.heap.size
  have K0 : Keep h0 h0 [] := Keep.refl _ _
  refine Go.of (T' := T0) (f' := (mkF m 2 #[rv so, rv cb, .unset] [(.ref cb), (.ref so)])) (fun _ k => XS.aloadN X0.here hx rfl (D d4_0) rfl rfl (XS.aloadN X0.here hx rfl (D d4_1) rfl rfl k)) ?_
  by_cases hc213 : so = cb
  · skip
    refine Go.of (T' := T0) (f' := (mkF m 6 #[rv so, rv cb, .unset] [(.int 1)])) (fun _ k => Jvm.RoadKit.acmp (g := (mkF m 2 #[rv so, rv cb, .unset] [(.ref cb), (.ref so)])) X0 hx rfl rfl rfl (pc0 := 2) (pc' := 5) (same := true) rfl (D d4_2) rfl (decide_eq_true (congrArg Value.ref hc213)) (by decide) (by decide) (XS.iconst X0.here hx rfl (D d4_5) k)) ?_
    exact Go.retB X0 hx hlk hret (by simp) (D d4_6) (by decide) (by decide) (z' := (1 : Int32)) rfl (by rw [e0]; exact ⟨congrArg (fun z => some (Value.int z)) ((own_idt_results hc213 prem1 prem6 prem3 prem7 : own_eq_results n bs = 1).symm.trans prem8), rfl, by simp⟩)
  · skip
    obtain ⟨T214, X214, e214, st214⟩ := instY X0 hx hZ hown (own_w hw (i := 34) rfl) e0 (Ins.self prem4) (g := (mkF m 8 #[rv so, rv cb, .unset] [(.ref cb)])) rfl rfl (D d4_8)
    obtain ⟨T216, X216, e216, st216⟩ := castY X214 hx hZ hown (own_w hw (i := 34) rfl) e214 (Ins.self prem4) (g := (mkF m 15 #[rv so, rv cb, .unset] [(.ref cb)])) rfl rfl (D d4_15)
    obtain ⟨T217, X217, e217, st217⟩ := getS2 X216 hx hZ hown (host := "") (Or.inl (own_w hw (i := 35) rfl)) Via.refl e216 (Sta.ext O0 S_COMPACT_STRINGS) (g := (mkF m 19 #[rv so, rv cb, rv cb] [])) rfl (D d4_19)
    have hc218 : ¬ ((IC 0) = (0 : Int32)) := hne_s_COMPACT_STRINGS_0
    obtain ⟨T219, X219, e219, st219⟩ := getF X217 hx hZ hown (host := "") (Or.inl (own_w hw (i := 27) rfl)) Via.refl e217 prem2 (g := (mkF m 26 #[rv so, rv cb, rv cb] [(.ref so)])) rfl rfl (D d4_26)
    obtain ⟨T220, X220, e220, st220⟩ := getF X219 hx hZ hown (host := "") (Or.inl (own_w hw (i := 27) rfl)) Via.refl e219 prem5 (g := (mkF m 30 #[rv so, rv cb, rv cb] [(.ref cb), (.int 0)])) rfl rfl (D d4_30)
    obtain ⟨T222, X222, e222, st222⟩ := getF X220 hx hZ hown (host := "") (Or.inl (own_w hw (i := 26) rfl)) Via.refl e220 prem1 (g := (mkF m 37 #[rv so, rv cb, rv cb] [(.ref so)])) rfl rfl (D d4_37)
    obtain ⟨T223, X223, e223, st223⟩ := getF X222 hx hZ hown (host := "") (Or.inl (own_w hw (i := 26) rfl)) Via.refl e222 prem6 (g := (mkF m 41 #[rv so, rv cb, rv cb] [(.ref cb), (.ref sv)])) rfl rfl (D d4_41)
    obtain ⟨T224, v224, L224, X224, q224, st224⟩ := callSt X223 hx hZ (y := own_m14) hown (own_w hw (i := 36) rfl) (own_w hw (i := 37) rfl) (own_w hw (i := 38) rfl) (own_w hw (i := 39) rfl) (by decide) (rm_l1g_results hw G sv vb kg kc n bs h0 O0 prem3 prem7) e223 (W := 0) (by decide) (by decide) (by decide) (by decide) (g := (mkF m 44 #[rv so, rv cb, rv cb] [(.ref vb), (.ref sv)])) rfl (by rw [hml]; rfl) (argsL := [(.ref sv), (.ref vb)]) (rest := []) (lenOf pd16 rfl) rfl rfl (Nat.le_of_eq rfl) (D d4_44)
    obtain ⟨rfl, e224, rfl⟩ := q224
    have N224 := Fr.app N0 (Fr.nil _)
    refine Go.of (T' := T224) (f' := (mkF m 47 #[rv so, rv cb, rv cb] [(.int (own_eq_results n bs))])) (fun _ k => Jvm.RoadKit.acmp (g := (mkF m 2 #[rv so, rv cb, .unset] [(.ref cb), (.ref so)])) X0 hx rfl rfl rfl (pc0 := 2) (pc' := 7) (same := false) rfl (D d4_2) rfl (decide_eq_false fun q => hc213 (Value.ref.inj q)) (by decide) (by decide) (XS.aloadN X0.here hx rfl (D d4_7) rfl rfl (st214 _ (XS.ifNo X214.here hx rfl (D d4_11) rfl ((if0 _ _).trans (feq (by decide : ¬ ((1 : Int32) = (0 : Int32)))).1) (XS.aloadN X214.here hx rfl (D d4_14) rfl rfl (st216 _ (XS.astoreN X216.here hx rfl (D d4_18) rfl rfl (l' := #[rv so, rv cb, rv cb]) rfl (st217 _ (XS.ifNo X217.here hx rfl (D d4_22) rfl ((if0 _ _).trans (feq hc218).1) (XS.aloadN X217.here hx rfl (D d4_25) rfl rfl (st219 _ (XS.aloadN X219.here hx rfl (D d4_29) rfl rfl (st220 _ (XS.icmpNo X220.here hx rfl (D d4_33) rfl (teq (by decide : (0 : Int32) = (0 : Int32))).2 (XS.aloadN X220.here hx rfl (D d4_36) rfl rfl (st222 _ (XS.aloadN X222.here hx rfl (D d4_40) rfl rfl (st223 _ (st224 _ k))))))))))))))))))) ?_
    by_cases hc225 : (own_eq_results n bs) = (0 : Int32)
    · skip
      refine Go.of (T' := T224) (f' := (mkF m 55 #[rv so, rv cb, rv cb] [(.int 0)])) (fun _ k => XS.ifYes X224.here hx rfl (pc0 := 47) (pc' := 54) rfl (D d4_47) rfl ((if0 _ _).trans (teq hc225).1) (by decide) (by decide) (XS.iconst X224.here hx rfl (D d4_54) k)) ?_
      exact Go.retB X224 hx hlk hret (by simp) (D d4_55) (by decide) (by decide) (z' := (0 : Int32)) rfl (by rw [e224]; exact ⟨congrArg (fun z => some (Value.int z)) ((hc225 : own_eq_results n bs = 0).symm.trans prem8), rfl, by simp⟩)
    · skip
      refine Go.of (T' := T224) (f' := (mkF m 55 #[rv so, rv cb, rv cb] [(.int 1)])) (fun _ k => XS.ifNo X224.here hx rfl (D d4_47) rfl ((if0 _ _).trans (feq hc225).1) (XS.iconst X224.here hx rfl (D d4_50) (XS.goto X224.here hx rfl (pc0 := 51) (pc' := 55) rfl (D d4_51) (by decide) (by decide) k))) ?_
      exact Go.retB X224 hx hlk hret (by simp) (D d4_55) (by decide) (by decide) (z' := (1 : Int32)) rfl (by rw [e224]; exact ⟨congrArg (fun z => some (Value.int z)) (((Classical.byContradiction fun q => hc225 (own_01_results q)) : own_eq_results n bs = 1).symm.trans prem8), rfl, by simp⟩)
theorem ef_rm_eqn_results (m : MethodId) {A : Nat → Addr} (so : Addr) : entryFrame m #[(.ref (A 6)), (.ref so)] 3 = mkF m 0 #[rv (A 6), rv so, .unset] [] := by first | (simp [entryFrame, mkF, argsToLocals, Value.category]; done) | rfl
set_option maxRecDepth 65536 in
set_option maxHeartbeats 40000000 in
theorem rm_eqn_results {l : Launch} {Z : State} {a0 : Array Value} {A : Nat → Addr} {KC : Nat → Cell} {IC : Nat → Int32} {VC : Nat → Value} (hw : ∀ d ∈ tables_1, d.before a0 Z = true) (G : own_Ctx Z A KC IC VC) (so : Addr) (sv : Addr) (kg : ClassId) (n : Int32) (bs : List Int32) (vq : Int32) (h0 : Heap) (O0 : Ext Z.heap h0) (prem0 : Exa Z h0 so "java/lang/String") (prem1 : Fld Z h0 so "java/lang/String" "value" "[B" (.ref sv)) (prem2 : Fld Z h0 so "java/lang/String" "coder" "B" (.int (0 : Int32))) (prem3 : Arv Z h0 sv kg .byte n (bs.map Value.int) (.int (0 : Int32))) (prem4 : own_eq_results n bs = vq) :
    Ok l Z own_m17 jdk_42_method_66_code 3 (some .boolean) ({ frames := 1, cells := 0, slots := 0, locals := 14 } : Room) #[(.ref (A 6)), (.ref so)] h0
      (fun v h L => v = some (.int vq) ∧ (h = h0) ∧ (L = [])) := by
  refine Ok.mk pn18 ?_
  intro p e s m below meth c T0 hx hby hml hown hnm hret hlk hZ e0 X0
  refine Go.cast (ef_rm_eqn_results m so) ?_
  obtain ⟨-, -, -, -, -, -, -, -, -, -, -, -, -, -, F_s_RESULTS_name_coder, F_s_RESULTS_name_value, -, -, -, -, S_COMPACT_STRINGS, hne_s_COMPACT_STRINGS_0, -, -, V_s_RESULTS_name_value, -⟩ := id G
  have D := @hb _ _ hby
  have N0 := Fr.nil Z.heap.size
  have K0 : Keep h0 h0 [] := Keep.refl _ _
  refine Go.of (T' := T0) (f' := (mkF m 2 #[rv (A 6), rv so, .unset] [(.ref so), (.ref (A 6))])) (fun _ k => XS.aloadN X0.here hx rfl (D d4_0) rfl rfl (XS.aloadN X0.here hx rfl (D d4_1) rfl rfl k)) ?_
  by_cases hc226 : (A 6) = so
  · skip
    refine Go.of (T' := T0) (f' := (mkF m 6 #[rv (A 6), rv so, .unset] [(.int 1)])) (fun _ k => Jvm.RoadKit.acmp (g := (mkF m 2 #[rv (A 6), rv so, .unset] [(.ref so), (.ref (A 6))])) X0 hx rfl rfl rfl (pc0 := 2) (pc' := 5) (same := true) rfl (D d4_2) rfl (decide_eq_true (congrArg Value.ref hc226)) (by decide) (by decide) (XS.iconst X0.here hx rfl (D d4_5) k)) ?_
    exact Go.retB X0 hx hlk hret (by simp) (D d4_6) (by decide) (by decide) (z' := (1 : Int32)) rfl (by rw [e0]; exact ⟨congrArg (fun z => some (Value.int z)) ((own_idt_results (Eq.symm hc226) prem1 (Fld.ext O0 F_s_RESULTS_name_value) prem3 (Arv.ext V_s_RESULTS_name_value O0) : own_eq_results n bs = 1).symm.trans prem4), rfl, by simp⟩)
  · skip
    obtain ⟨T227, X227, e227, st227⟩ := instY X0 hx hZ hown (own_w hw (i := 34) rfl) e0 (Ins.self prem0) (g := (mkF m 8 #[rv (A 6), rv so, .unset] [(.ref so)])) rfl rfl (D d4_8)
    obtain ⟨T229, X229, e229, st229⟩ := castY X227 hx hZ hown (own_w hw (i := 34) rfl) e227 (Ins.self prem0) (g := (mkF m 15 #[rv (A 6), rv so, .unset] [(.ref so)])) rfl rfl (D d4_15)
    obtain ⟨T230, X230, e230, st230⟩ := getS2 X229 hx hZ hown (host := "") (Or.inl (own_w hw (i := 35) rfl)) Via.refl e229 (Sta.ext O0 S_COMPACT_STRINGS) (g := (mkF m 19 #[rv (A 6), rv so, rv so] [])) rfl (D d4_19)
    have hc231 : ¬ ((IC 0) = (0 : Int32)) := hne_s_COMPACT_STRINGS_0
    obtain ⟨T232, X232, e232, st232⟩ := getF X230 hx hZ hown (host := "") (Or.inl (own_w hw (i := 27) rfl)) Via.refl e230 (Fld.ext O0 F_s_RESULTS_name_coder) (g := (mkF m 26 #[rv (A 6), rv so, rv so] [(.ref (A 6))])) rfl rfl (D d4_26)
    obtain ⟨T233, X233, e233, st233⟩ := getF X232 hx hZ hown (host := "") (Or.inl (own_w hw (i := 27) rfl)) Via.refl e232 prem2 (g := (mkF m 30 #[rv (A 6), rv so, rv so] [(.ref so), (.int 0)])) rfl rfl (D d4_30)
    obtain ⟨T235, X235, e235, st235⟩ := getF X233 hx hZ hown (host := "") (Or.inl (own_w hw (i := 26) rfl)) Via.refl e233 (Fld.ext O0 F_s_RESULTS_name_value) (g := (mkF m 37 #[rv (A 6), rv so, rv so] [(.ref (A 6))])) rfl rfl (D d4_37)
    obtain ⟨T236, X236, e236, st236⟩ := getF X235 hx hZ hown (host := "") (Or.inl (own_w hw (i := 26) rfl)) Via.refl e235 prem1 (g := (mkF m 41 #[rv (A 6), rv so, rv so] [(.ref so), (.ref (A 7))])) rfl rfl (D d4_41)
    obtain ⟨T237, v237, L237, X237, q237, st237⟩ := callSt X236 hx hZ (y := own_m14) hown (own_w hw (i := 36) rfl) (own_w hw (i := 37) rfl) (own_w hw (i := 38) rfl) (own_w hw (i := 39) rfl) (by decide) (rm_l1n_results hw G ((A 7)) sv kg ((KC 2).cls) n bs h0 O0 prem3 (Arv.ext V_s_RESULTS_name_value O0)) e236 (W := 0) (by decide) (by decide) (by decide) (by decide) (g := (mkF m 44 #[rv (A 6), rv so, rv so] [(.ref sv), (.ref (A 7))])) rfl (by rw [hml]; rfl) (argsL := [(.ref (A 7)), (.ref sv)]) (rest := []) (lenOf pd16 rfl) rfl rfl (Nat.le_of_eq rfl) (D d4_44)
    obtain ⟨rfl, e237, rfl⟩ := q237
    have N237 := Fr.app N0 (Fr.nil _)
    refine Go.of (T' := T237) (f' := (mkF m 47 #[rv (A 6), rv so, rv so] [(.int (own_eq_results n bs))])) (fun _ k => Jvm.RoadKit.acmp (g := (mkF m 2 #[rv (A 6), rv so, .unset] [(.ref so), (.ref (A 6))])) X0 hx rfl rfl rfl (pc0 := 2) (pc' := 7) (same := false) rfl (D d4_2) rfl (decide_eq_false fun q => hc226 (Value.ref.inj q)) (by decide) (by decide) (XS.aloadN X0.here hx rfl (D d4_7) rfl rfl (st227 _ (XS.ifNo X227.here hx rfl (D d4_11) rfl ((if0 _ _).trans (feq (by decide : ¬ ((1 : Int32) = (0 : Int32)))).1) (XS.aloadN X227.here hx rfl (D d4_14) rfl rfl (st229 _ (XS.astoreN X229.here hx rfl (D d4_18) rfl rfl (l' := #[rv (A 6), rv so, rv so]) rfl (st230 _ (XS.ifNo X230.here hx rfl (D d4_22) rfl ((if0 _ _).trans (feq hc231).1) (XS.aloadN X230.here hx rfl (D d4_25) rfl rfl (st232 _ (XS.aloadN X232.here hx rfl (D d4_29) rfl rfl (st233 _ (XS.icmpNo X233.here hx rfl (D d4_33) rfl (teq (by decide : (0 : Int32) = (0 : Int32))).2 (XS.aloadN X233.here hx rfl (D d4_36) rfl rfl (st235 _ (XS.aloadN X235.here hx rfl (D d4_40) rfl rfl (st236 _ (st237 _ k))))))))))))))))))) ?_
    by_cases hc238 : (own_eq_results n bs) = (0 : Int32)
    · skip
      refine Go.of (T' := T237) (f' := (mkF m 55 #[rv (A 6), rv so, rv so] [(.int 0)])) (fun _ k => XS.ifYes X237.here hx rfl (pc0 := 47) (pc' := 54) rfl (D d4_47) rfl ((if0 _ _).trans (teq hc238).1) (by decide) (by decide) (XS.iconst X237.here hx rfl (D d4_54) k)) ?_
      exact Go.retB X237 hx hlk hret (by simp) (D d4_55) (by decide) (by decide) (z' := (0 : Int32)) rfl (by rw [e237]; exact ⟨congrArg (fun z => some (Value.int z)) ((hc238 : own_eq_results n bs = 0).symm.trans prem4), rfl, by simp⟩)
    · skip
      refine Go.of (T' := T237) (f' := (mkF m 55 #[rv (A 6), rv so, rv so] [(.int 1)])) (fun _ k => XS.ifNo X237.here hx rfl (D d4_47) rfl ((if0 _ _).trans (feq hc238).1) (XS.iconst X237.here hx rfl (D d4_50) (XS.goto X237.here hx rfl (pc0 := 51) (pc' := 55) rfl (D d4_51) (by decide) (by decide) k))) ?_
      exact Go.retB X237 hx hlk hret (by simp) (D d4_55) (by decide) (by decide) (z' := (1 : Int32)) rfl (by rw [e237]; exact ⟨congrArg (fun z => some (Value.int z)) (((Classical.byContradiction fun q => hc238 (own_01_results q)) : own_eq_results n bs = 1).symm.trans prem4), rfl, by simp⟩)
theorem ef_rm_eqz_results (m : MethodId) {A : Nat → Addr}  : entryFrame m #[(.ref (A 6)), .null] 3 = mkF m 0 #[rv (A 6), .val .null, .unset] [] := by first | (simp [entryFrame, mkF, argsToLocals, Value.category]; done) | rfl
set_option maxRecDepth 65536 in
set_option maxHeartbeats 40000000 in
theorem rm_eqz_results {l : Launch} {Z : State} {a0 : Array Value} {A : Nat → Addr} {KC : Nat → Cell} {IC : Nat → Int32} {VC : Nat → Value} (hw : ∀ d ∈ tables_1, d.before a0 Z = true) (G : own_Ctx Z A KC IC VC)   (h0 : Heap) (O0 : Ext Z.heap h0)  :
    Ok l Z own_m17 jdk_42_method_66_code 3 (some .boolean) ({ frames := 0, cells := 0, slots := 0, locals := 0 } : Room) #[(.ref (A 6)), .null] h0
      (fun v h L => v = some (.int (0 : Int32)) ∧ (h = h0) ∧ (L = [])) := by
  refine Ok.mk pn18 ?_
  intro p e s m below meth c T0 hx hby hml hown hnm hret hlk hZ e0 X0
  refine Go.cast (ef_rm_eqz_results m ) ?_
  have D := @hb _ _ hby
  have N0 := Fr.nil Z.heap.size
  have K0 : Keep h0 h0 [] := Keep.refl _ _
  refine Go.of (T' := T0) (f' := (mkF m 55 #[rv (A 6), .val .null, .unset] [(.int 0)])) (fun _ k => XS.aloadN X0.here hx rfl (D d4_0) rfl rfl (XS.aloadN X0.here hx rfl (D d4_1) rfl rfl (Jvm.RoadKit.acmp (g := (mkF m 2 #[rv (A 6), .val .null, .unset] [.null, (.ref (A 6))])) X0 hx rfl rfl rfl (pc0 := 2) (pc' := 7) (same := false) rfl (D d4_2) rfl (decide_eq_false nofun) (by decide) (by decide) (XS.aloadN X0.here hx rfl (D d4_7) rfl rfl (X0.instanceofNull hx (g := (mkF m 8 #[rv (A 6), .val .null, .unset] [.null])) rfl rfl (D d4_8) _ (XS.ifYes X0.here hx rfl (pc0 := 11) (pc' := 54) rfl (D d4_11) rfl ((if0 _ _).trans (teq (by decide : (0 : Int32) = (0 : Int32))).1) (by decide) (by decide) (XS.iconst X0.here hx rfl (D d4_54) k))))))) ?_
  exact Go.retB X0 hx hlk hret (by simp) (D d4_55) (by decide) (by decide) (z' := (0 : Int32)) rfl (by rw [e0]; exact ⟨rfl, rfl, by simp⟩)
theorem ef_rm_l1g_validate (m : MethodId) (xg : Addr) (xc : Addr) : entryFrame m #[(.ref xg), (.ref xc)] 3 = mkF m 0 #[rv xg, rv xc, .unset] [] := by first | (simp [entryFrame, mkF, argsToLocals, Value.category]; done) | rfl
set_option maxRecDepth 65536 in
set_option maxHeartbeats 40000000 in
theorem rm_l1g_validate {l : Launch} {Z : State} {a0 : Array Value} {A : Nat → Addr} {KC : Nat → Cell} {IC : Nat → Int32} {VC : Nat → Value} (hw : ∀ d ∈ tables_1, d.before a0 Z = true) (G : own_Ctx Z A KC IC VC) (xg : Addr) (xc : Addr) (kg : ClassId) (kc : ClassId) (n : Int32) (bs : List Int32) (h0 : Heap) (O0 : Ext Z.heap h0) (prem0 : Arv Z h0 xg kg .byte n (bs.map Value.int) (.int (0 : Int32))) (prem1 : Arv Z h0 xc kc .byte (8 : Int32) [(.int (118 : Int32)), (.int (97 : Int32)), (.int (108 : Int32)), (.int (105 : Int32)), (.int (100 : Int32)), (.int (97 : Int32)), (.int (116 : Int32)), (.int (101 : Int32))] (.int (0 : Int32))) :
    Ok l Z own_m14 jdk_43_method_13_code 3 (some .boolean) ({ frames := 0, cells := 0, slots := 0, locals := 0 } : Room) #[(.ref xg), (.ref xc)] h0
      (fun v h L => v = some (.int (own_eq_validate n bs)) ∧ (h = h0) ∧ (L = [])) := by
  refine Ok.mk pn15 ?_
  intro p e s m below meth c T0 hx hby hml hown hnm hret hlk hZ e0 X0
  refine Go.cast (ef_rm_l1g_validate m xg xc) ?_
  have D := @hb _ _ hby
  have N0 := Fr.nil Z.heap.size
  have K0 : Keep h0 h0 [] := Keep.refl _ _
  obtain ⟨cl242, Ar242, qk242, S242, Ng242, H242, G242⟩ := id prem0
  obtain ⟨cl243, Ar243, qk243, S243, Ng243, H243, G243⟩ := id prem1
  refine Go.of (T' := T0) (f' := (mkF m 4 #[rv xg, rv xc, .unset] [(.int 8), (.int n)])) (fun _ k => XS.aloadN X0.here hx rfl (D d5_0) rfl rfl (X0.arraylength hx (by rw [e0]; exact Ar242.1) (State.isArrayOf_alike hZ.alike Ar242.2.1) (g := (mkF m 1 #[rv xg, rv xc, .unset] [(.ref xg)])) rfl rfl (D d5_1) _ (by rw [len_of S242 Ng242]; exact (XS.aloadN X0.here hx rfl (D d5_2) rfl rfl (X0.arraylength hx (by rw [e0]; exact Ar243.1) (State.isArrayOf_alike hZ.alike Ar243.2.1) (g := (mkF m 3 #[rv xg, rv xc, .unset] [(.ref xc), (.int n)])) rfl rfl (D d5_3) _ (by rw [len_of S243 Ng243]; exact k)))))) ?_
  by_cases hc244 : n = (8 : Int32)
  · skip
    refine Go.of (T' := T0) (f' := (mkF m 7 #[rv xg, rv xc, .unset] [])) (fun _ k => XS.icmpNo X0.here hx rfl (D d5_4) rfl (teq hc244).2 k) ?_
    subst hc244
    obtain ⟨cl245, Ar245, qk245, S245, Ng245, H245, G245⟩ := id prem0
    obtain ⟨cl247, Ar247, qk247, S247, Ng247, H247, G247⟩ := id prem0
    have hin247 := inb_of (j := (0 : Int32)) S247 ⟨by decide, by decide⟩
    obtain ⟨cl248, Ar248, qk248, S248, Ng248, H248, G248⟩ := id prem1
    have hin248 := inb_of (j := (0 : Int32)) S248 ⟨by decide, by decide⟩
    refine Go.of (T' := T0) (f' := (mkF m 21 #[rv xg, rv xc, iv 0] [(.int 118), (.int (bs.getD 0 0))])) (fun _ k => XS.iconst X0.here hx rfl (D d5_7) (XS.istoreN X0.here hx rfl (D d5_8) rfl (l' := #[rv xg, rv xc, iv 0]) rfl (XS.iloadN X0.here hx rfl (D d5_9) rfl (XS.aloadN X0.here hx rfl (D d5_10) rfl rfl (X0.arraylength hx (by rw [e0]; exact Ar245.1) (State.isArrayOf_alike hZ.alike Ar245.2.1) (g := (mkF m 11 #[rv xg, rv xc, iv 0] [(.ref xg), (.int 0)])) rfl rfl (D d5_11) _ (by rw [len_of S245 Ng245]; exact (XS.icmpNo X0.here hx rfl (D d5_12) rfl (tlt (by decide : (0 : Int32) < (8 : Int32))).2.1 (XS.aloadN X0.here hx rfl (D d5_15) rfl rfl (XS.iloadN X0.here hx rfl (D d5_16) rfl (X0.baloadBytes hx (j := (0 : Int32)) (v := (.int (bs.getD 0 0))) (by rw [e0]; exact Ar247.1) (State.isArrayOf_alike hZ.alike Ar247.2.1) Ar247.2.2 hin247 (H247.at hin247 (own_mg bs 0)) (g := (mkF m 17 #[rv xg, rv xc, iv 0] [(.int 0), (.ref xg)])) rfl rfl (D d5_17) _ (XS.aloadN X0.here hx rfl (D d5_18) rfl rfl (XS.iloadN X0.here hx rfl (D d5_19) rfl (X0.baloadBytes hx (j := (0 : Int32)) (v := (.int 118)) (by rw [e0]; exact Ar248.1) (State.isArrayOf_alike hZ.alike Ar248.2.1) Ar248.2.2 hin248 (H248.at hin248 rfl) (g := (mkF m 20 #[rv xg, rv xc, iv 0] [(.int 0), (.ref xc), (.int (bs.getD 0 0))])) rfl rfl (D d5_20) _ k))))))))))))) ?_
    by_cases hc249 : (bs.getD 0 0) = (118 : Int32)
    · skip
      obtain ⟨cl250, Ar250, qk250, S250, Ng250, H250, G250⟩ := id prem0
      obtain ⟨cl252, Ar252, qk252, S252, Ng252, H252, G252⟩ := id prem0
      have hin252 := inb_of (j := (1 : Int32)) S252 ⟨by decide, by decide⟩
      obtain ⟨cl253, Ar253, qk253, S253, Ng253, H253, G253⟩ := id prem1
      have hin253 := inb_of (j := (1 : Int32)) S253 ⟨by decide, by decide⟩
      refine Go.of (T' := T0) (f' := (mkF m 21 #[rv xg, rv xc, iv 1] [(.int 97), (.int (bs.getD 1 0))])) (fun _ k => XS.icmpYes X0.here hx rfl (pc0 := 21) (pc' := 26) rfl (D d5_21) rfl (teq hc249).1 (by decide) (by decide) (XS.iinc X0.here hx rfl (D d5_26) rfl (l' := #[rv xg, rv xc, iv 1]) rfl (XS.goto X0.here hx rfl (pc0 := 29) (pc' := 9) rfl (D d5_29) (by decide) (by decide) (XS.iloadN X0.here hx rfl (D d5_9) rfl (XS.aloadN X0.here hx rfl (D d5_10) rfl rfl (X0.arraylength hx (by rw [e0]; exact Ar250.1) (State.isArrayOf_alike hZ.alike Ar250.2.1) (g := (mkF m 11 #[rv xg, rv xc, iv 1] [(.ref xg), (.int 1)])) rfl rfl (D d5_11) _ (by rw [len_of S250 Ng250]; exact (XS.icmpNo X0.here hx rfl (D d5_12) rfl (tlt (by decide : (1 : Int32) < (8 : Int32))).2.1 (XS.aloadN X0.here hx rfl (D d5_15) rfl rfl (XS.iloadN X0.here hx rfl (D d5_16) rfl (X0.baloadBytes hx (j := (1 : Int32)) (v := (.int (bs.getD 1 0))) (by rw [e0]; exact Ar252.1) (State.isArrayOf_alike hZ.alike Ar252.2.1) Ar252.2.2 hin252 (H252.at hin252 (own_mg bs 1)) (g := (mkF m 17 #[rv xg, rv xc, iv 1] [(.int 1), (.ref xg)])) rfl rfl (D d5_17) _ (XS.aloadN X0.here hx rfl (D d5_18) rfl rfl (XS.iloadN X0.here hx rfl (D d5_19) rfl (X0.baloadBytes hx (j := (1 : Int32)) (v := (.int 97)) (by rw [e0]; exact Ar253.1) (State.isArrayOf_alike hZ.alike Ar253.2.1) Ar253.2.2 hin253 (H253.at hin253 rfl) (g := (mkF m 20 #[rv xg, rv xc, iv 1] [(.int 1), (.ref xc), (.int (bs.getD 1 0))])) rfl rfl (D d5_20) _ k)))))))))))))) ?_
      by_cases hc254 : (bs.getD 1 0) = (97 : Int32)
      · skip
        obtain ⟨cl255, Ar255, qk255, S255, Ng255, H255, G255⟩ := id prem0
        obtain ⟨cl257, Ar257, qk257, S257, Ng257, H257, G257⟩ := id prem0
        have hin257 := inb_of (j := (2 : Int32)) S257 ⟨by decide, by decide⟩
        obtain ⟨cl258, Ar258, qk258, S258, Ng258, H258, G258⟩ := id prem1
        have hin258 := inb_of (j := (2 : Int32)) S258 ⟨by decide, by decide⟩
        refine Go.of (T' := T0) (f' := (mkF m 21 #[rv xg, rv xc, iv 2] [(.int 108), (.int (bs.getD 2 0))])) (fun _ k => XS.icmpYes X0.here hx rfl (pc0 := 21) (pc' := 26) rfl (D d5_21) rfl (teq hc254).1 (by decide) (by decide) (XS.iinc X0.here hx rfl (D d5_26) rfl (l' := #[rv xg, rv xc, iv 2]) rfl (XS.goto X0.here hx rfl (pc0 := 29) (pc' := 9) rfl (D d5_29) (by decide) (by decide) (XS.iloadN X0.here hx rfl (D d5_9) rfl (XS.aloadN X0.here hx rfl (D d5_10) rfl rfl (X0.arraylength hx (by rw [e0]; exact Ar255.1) (State.isArrayOf_alike hZ.alike Ar255.2.1) (g := (mkF m 11 #[rv xg, rv xc, iv 2] [(.ref xg), (.int 2)])) rfl rfl (D d5_11) _ (by rw [len_of S255 Ng255]; exact (XS.icmpNo X0.here hx rfl (D d5_12) rfl (tlt (by decide : (2 : Int32) < (8 : Int32))).2.1 (XS.aloadN X0.here hx rfl (D d5_15) rfl rfl (XS.iloadN X0.here hx rfl (D d5_16) rfl (X0.baloadBytes hx (j := (2 : Int32)) (v := (.int (bs.getD 2 0))) (by rw [e0]; exact Ar257.1) (State.isArrayOf_alike hZ.alike Ar257.2.1) Ar257.2.2 hin257 (H257.at hin257 (own_mg bs 2)) (g := (mkF m 17 #[rv xg, rv xc, iv 2] [(.int 2), (.ref xg)])) rfl rfl (D d5_17) _ (XS.aloadN X0.here hx rfl (D d5_18) rfl rfl (XS.iloadN X0.here hx rfl (D d5_19) rfl (X0.baloadBytes hx (j := (2 : Int32)) (v := (.int 108)) (by rw [e0]; exact Ar258.1) (State.isArrayOf_alike hZ.alike Ar258.2.1) Ar258.2.2 hin258 (H258.at hin258 rfl) (g := (mkF m 20 #[rv xg, rv xc, iv 2] [(.int 2), (.ref xc), (.int (bs.getD 2 0))])) rfl rfl (D d5_20) _ k)))))))))))))) ?_
        by_cases hc259 : (bs.getD 2 0) = (108 : Int32)
        · skip
          obtain ⟨cl260, Ar260, qk260, S260, Ng260, H260, G260⟩ := id prem0
          obtain ⟨cl262, Ar262, qk262, S262, Ng262, H262, G262⟩ := id prem0
          have hin262 := inb_of (j := (3 : Int32)) S262 ⟨by decide, by decide⟩
          obtain ⟨cl263, Ar263, qk263, S263, Ng263, H263, G263⟩ := id prem1
          have hin263 := inb_of (j := (3 : Int32)) S263 ⟨by decide, by decide⟩
          refine Go.of (T' := T0) (f' := (mkF m 21 #[rv xg, rv xc, iv 3] [(.int 105), (.int (bs.getD 3 0))])) (fun _ k => XS.icmpYes X0.here hx rfl (pc0 := 21) (pc' := 26) rfl (D d5_21) rfl (teq hc259).1 (by decide) (by decide) (XS.iinc X0.here hx rfl (D d5_26) rfl (l' := #[rv xg, rv xc, iv 3]) rfl (XS.goto X0.here hx rfl (pc0 := 29) (pc' := 9) rfl (D d5_29) (by decide) (by decide) (XS.iloadN X0.here hx rfl (D d5_9) rfl (XS.aloadN X0.here hx rfl (D d5_10) rfl rfl (X0.arraylength hx (by rw [e0]; exact Ar260.1) (State.isArrayOf_alike hZ.alike Ar260.2.1) (g := (mkF m 11 #[rv xg, rv xc, iv 3] [(.ref xg), (.int 3)])) rfl rfl (D d5_11) _ (by rw [len_of S260 Ng260]; exact (XS.icmpNo X0.here hx rfl (D d5_12) rfl (tlt (by decide : (3 : Int32) < (8 : Int32))).2.1 (XS.aloadN X0.here hx rfl (D d5_15) rfl rfl (XS.iloadN X0.here hx rfl (D d5_16) rfl (X0.baloadBytes hx (j := (3 : Int32)) (v := (.int (bs.getD 3 0))) (by rw [e0]; exact Ar262.1) (State.isArrayOf_alike hZ.alike Ar262.2.1) Ar262.2.2 hin262 (H262.at hin262 (own_mg bs 3)) (g := (mkF m 17 #[rv xg, rv xc, iv 3] [(.int 3), (.ref xg)])) rfl rfl (D d5_17) _ (XS.aloadN X0.here hx rfl (D d5_18) rfl rfl (XS.iloadN X0.here hx rfl (D d5_19) rfl (X0.baloadBytes hx (j := (3 : Int32)) (v := (.int 105)) (by rw [e0]; exact Ar263.1) (State.isArrayOf_alike hZ.alike Ar263.2.1) Ar263.2.2 hin263 (H263.at hin263 rfl) (g := (mkF m 20 #[rv xg, rv xc, iv 3] [(.int 3), (.ref xc), (.int (bs.getD 3 0))])) rfl rfl (D d5_20) _ k)))))))))))))) ?_
          by_cases hc264 : (bs.getD 3 0) = (105 : Int32)
          · skip
            obtain ⟨cl265, Ar265, qk265, S265, Ng265, H265, G265⟩ := id prem0
            obtain ⟨cl267, Ar267, qk267, S267, Ng267, H267, G267⟩ := id prem0
            have hin267 := inb_of (j := (4 : Int32)) S267 ⟨by decide, by decide⟩
            obtain ⟨cl268, Ar268, qk268, S268, Ng268, H268, G268⟩ := id prem1
            have hin268 := inb_of (j := (4 : Int32)) S268 ⟨by decide, by decide⟩
            refine Go.of (T' := T0) (f' := (mkF m 21 #[rv xg, rv xc, iv 4] [(.int 100), (.int (bs.getD 4 0))])) (fun _ k => XS.icmpYes X0.here hx rfl (pc0 := 21) (pc' := 26) rfl (D d5_21) rfl (teq hc264).1 (by decide) (by decide) (XS.iinc X0.here hx rfl (D d5_26) rfl (l' := #[rv xg, rv xc, iv 4]) rfl (XS.goto X0.here hx rfl (pc0 := 29) (pc' := 9) rfl (D d5_29) (by decide) (by decide) (XS.iloadN X0.here hx rfl (D d5_9) rfl (XS.aloadN X0.here hx rfl (D d5_10) rfl rfl (X0.arraylength hx (by rw [e0]; exact Ar265.1) (State.isArrayOf_alike hZ.alike Ar265.2.1) (g := (mkF m 11 #[rv xg, rv xc, iv 4] [(.ref xg), (.int 4)])) rfl rfl (D d5_11) _ (by rw [len_of S265 Ng265]; exact (XS.icmpNo X0.here hx rfl (D d5_12) rfl (tlt (by decide : (4 : Int32) < (8 : Int32))).2.1 (XS.aloadN X0.here hx rfl (D d5_15) rfl rfl (XS.iloadN X0.here hx rfl (D d5_16) rfl (X0.baloadBytes hx (j := (4 : Int32)) (v := (.int (bs.getD 4 0))) (by rw [e0]; exact Ar267.1) (State.isArrayOf_alike hZ.alike Ar267.2.1) Ar267.2.2 hin267 (H267.at hin267 (own_mg bs 4)) (g := (mkF m 17 #[rv xg, rv xc, iv 4] [(.int 4), (.ref xg)])) rfl rfl (D d5_17) _ (XS.aloadN X0.here hx rfl (D d5_18) rfl rfl (XS.iloadN X0.here hx rfl (D d5_19) rfl (X0.baloadBytes hx (j := (4 : Int32)) (v := (.int 100)) (by rw [e0]; exact Ar268.1) (State.isArrayOf_alike hZ.alike Ar268.2.1) Ar268.2.2 hin268 (H268.at hin268 rfl) (g := (mkF m 20 #[rv xg, rv xc, iv 4] [(.int 4), (.ref xc), (.int (bs.getD 4 0))])) rfl rfl (D d5_20) _ k)))))))))))))) ?_
            by_cases hc269 : (bs.getD 4 0) = (100 : Int32)
            · skip
              obtain ⟨cl270, Ar270, qk270, S270, Ng270, H270, G270⟩ := id prem0
              obtain ⟨cl272, Ar272, qk272, S272, Ng272, H272, G272⟩ := id prem0
              have hin272 := inb_of (j := (5 : Int32)) S272 ⟨by decide, by decide⟩
              obtain ⟨cl273, Ar273, qk273, S273, Ng273, H273, G273⟩ := id prem1
              have hin273 := inb_of (j := (5 : Int32)) S273 ⟨by decide, by decide⟩
              refine Go.of (T' := T0) (f' := (mkF m 21 #[rv xg, rv xc, iv 5] [(.int 97), (.int (bs.getD 5 0))])) (fun _ k => XS.icmpYes X0.here hx rfl (pc0 := 21) (pc' := 26) rfl (D d5_21) rfl (teq hc269).1 (by decide) (by decide) (XS.iinc X0.here hx rfl (D d5_26) rfl (l' := #[rv xg, rv xc, iv 5]) rfl (XS.goto X0.here hx rfl (pc0 := 29) (pc' := 9) rfl (D d5_29) (by decide) (by decide) (XS.iloadN X0.here hx rfl (D d5_9) rfl (XS.aloadN X0.here hx rfl (D d5_10) rfl rfl (X0.arraylength hx (by rw [e0]; exact Ar270.1) (State.isArrayOf_alike hZ.alike Ar270.2.1) (g := (mkF m 11 #[rv xg, rv xc, iv 5] [(.ref xg), (.int 5)])) rfl rfl (D d5_11) _ (by rw [len_of S270 Ng270]; exact (XS.icmpNo X0.here hx rfl (D d5_12) rfl (tlt (by decide : (5 : Int32) < (8 : Int32))).2.1 (XS.aloadN X0.here hx rfl (D d5_15) rfl rfl (XS.iloadN X0.here hx rfl (D d5_16) rfl (X0.baloadBytes hx (j := (5 : Int32)) (v := (.int (bs.getD 5 0))) (by rw [e0]; exact Ar272.1) (State.isArrayOf_alike hZ.alike Ar272.2.1) Ar272.2.2 hin272 (H272.at hin272 (own_mg bs 5)) (g := (mkF m 17 #[rv xg, rv xc, iv 5] [(.int 5), (.ref xg)])) rfl rfl (D d5_17) _ (XS.aloadN X0.here hx rfl (D d5_18) rfl rfl (XS.iloadN X0.here hx rfl (D d5_19) rfl (X0.baloadBytes hx (j := (5 : Int32)) (v := (.int 97)) (by rw [e0]; exact Ar273.1) (State.isArrayOf_alike hZ.alike Ar273.2.1) Ar273.2.2 hin273 (H273.at hin273 rfl) (g := (mkF m 20 #[rv xg, rv xc, iv 5] [(.int 5), (.ref xc), (.int (bs.getD 5 0))])) rfl rfl (D d5_20) _ k)))))))))))))) ?_
              by_cases hc274 : (bs.getD 5 0) = (97 : Int32)
              · skip
                obtain ⟨cl275, Ar275, qk275, S275, Ng275, H275, G275⟩ := id prem0
                obtain ⟨cl277, Ar277, qk277, S277, Ng277, H277, G277⟩ := id prem0
                have hin277 := inb_of (j := (6 : Int32)) S277 ⟨by decide, by decide⟩
                obtain ⟨cl278, Ar278, qk278, S278, Ng278, H278, G278⟩ := id prem1
                have hin278 := inb_of (j := (6 : Int32)) S278 ⟨by decide, by decide⟩
                refine Go.of (T' := T0) (f' := (mkF m 21 #[rv xg, rv xc, iv 6] [(.int 116), (.int (bs.getD 6 0))])) (fun _ k => XS.icmpYes X0.here hx rfl (pc0 := 21) (pc' := 26) rfl (D d5_21) rfl (teq hc274).1 (by decide) (by decide) (XS.iinc X0.here hx rfl (D d5_26) rfl (l' := #[rv xg, rv xc, iv 6]) rfl (XS.goto X0.here hx rfl (pc0 := 29) (pc' := 9) rfl (D d5_29) (by decide) (by decide) (XS.iloadN X0.here hx rfl (D d5_9) rfl (XS.aloadN X0.here hx rfl (D d5_10) rfl rfl (X0.arraylength hx (by rw [e0]; exact Ar275.1) (State.isArrayOf_alike hZ.alike Ar275.2.1) (g := (mkF m 11 #[rv xg, rv xc, iv 6] [(.ref xg), (.int 6)])) rfl rfl (D d5_11) _ (by rw [len_of S275 Ng275]; exact (XS.icmpNo X0.here hx rfl (D d5_12) rfl (tlt (by decide : (6 : Int32) < (8 : Int32))).2.1 (XS.aloadN X0.here hx rfl (D d5_15) rfl rfl (XS.iloadN X0.here hx rfl (D d5_16) rfl (X0.baloadBytes hx (j := (6 : Int32)) (v := (.int (bs.getD 6 0))) (by rw [e0]; exact Ar277.1) (State.isArrayOf_alike hZ.alike Ar277.2.1) Ar277.2.2 hin277 (H277.at hin277 (own_mg bs 6)) (g := (mkF m 17 #[rv xg, rv xc, iv 6] [(.int 6), (.ref xg)])) rfl rfl (D d5_17) _ (XS.aloadN X0.here hx rfl (D d5_18) rfl rfl (XS.iloadN X0.here hx rfl (D d5_19) rfl (X0.baloadBytes hx (j := (6 : Int32)) (v := (.int 116)) (by rw [e0]; exact Ar278.1) (State.isArrayOf_alike hZ.alike Ar278.2.1) Ar278.2.2 hin278 (H278.at hin278 rfl) (g := (mkF m 20 #[rv xg, rv xc, iv 6] [(.int 6), (.ref xc), (.int (bs.getD 6 0))])) rfl rfl (D d5_20) _ k)))))))))))))) ?_
                by_cases hc279 : (bs.getD 6 0) = (116 : Int32)
                · skip
                  obtain ⟨cl280, Ar280, qk280, S280, Ng280, H280, G280⟩ := id prem0
                  obtain ⟨cl282, Ar282, qk282, S282, Ng282, H282, G282⟩ := id prem0
                  have hin282 := inb_of (j := (7 : Int32)) S282 ⟨by decide, by decide⟩
                  obtain ⟨cl283, Ar283, qk283, S283, Ng283, H283, G283⟩ := id prem1
                  have hin283 := inb_of (j := (7 : Int32)) S283 ⟨by decide, by decide⟩
                  refine Go.of (T' := T0) (f' := (mkF m 21 #[rv xg, rv xc, iv 7] [(.int 101), (.int (bs.getD 7 0))])) (fun _ k => XS.icmpYes X0.here hx rfl (pc0 := 21) (pc' := 26) rfl (D d5_21) rfl (teq hc279).1 (by decide) (by decide) (XS.iinc X0.here hx rfl (D d5_26) rfl (l' := #[rv xg, rv xc, iv 7]) rfl (XS.goto X0.here hx rfl (pc0 := 29) (pc' := 9) rfl (D d5_29) (by decide) (by decide) (XS.iloadN X0.here hx rfl (D d5_9) rfl (XS.aloadN X0.here hx rfl (D d5_10) rfl rfl (X0.arraylength hx (by rw [e0]; exact Ar280.1) (State.isArrayOf_alike hZ.alike Ar280.2.1) (g := (mkF m 11 #[rv xg, rv xc, iv 7] [(.ref xg), (.int 7)])) rfl rfl (D d5_11) _ (by rw [len_of S280 Ng280]; exact (XS.icmpNo X0.here hx rfl (D d5_12) rfl (tlt (by decide : (7 : Int32) < (8 : Int32))).2.1 (XS.aloadN X0.here hx rfl (D d5_15) rfl rfl (XS.iloadN X0.here hx rfl (D d5_16) rfl (X0.baloadBytes hx (j := (7 : Int32)) (v := (.int (bs.getD 7 0))) (by rw [e0]; exact Ar282.1) (State.isArrayOf_alike hZ.alike Ar282.2.1) Ar282.2.2 hin282 (H282.at hin282 (own_mg bs 7)) (g := (mkF m 17 #[rv xg, rv xc, iv 7] [(.int 7), (.ref xg)])) rfl rfl (D d5_17) _ (XS.aloadN X0.here hx rfl (D d5_18) rfl rfl (XS.iloadN X0.here hx rfl (D d5_19) rfl (X0.baloadBytes hx (j := (7 : Int32)) (v := (.int 101)) (by rw [e0]; exact Ar283.1) (State.isArrayOf_alike hZ.alike Ar283.2.1) Ar283.2.2 hin283 (H283.at hin283 rfl) (g := (mkF m 20 #[rv xg, rv xc, iv 7] [(.int 7), (.ref xc), (.int (bs.getD 7 0))])) rfl rfl (D d5_20) _ k)))))))))))))) ?_
                  by_cases hc284 : (bs.getD 7 0) = (101 : Int32)
                  · skip
                    obtain ⟨cl285, Ar285, qk285, S285, Ng285, H285, G285⟩ := id prem0
                    refine Go.of (T' := T0) (f' := (mkF m 33 #[rv xg, rv xc, iv 8] [(.int 1)])) (fun _ k => XS.icmpYes X0.here hx rfl (pc0 := 21) (pc' := 26) rfl (D d5_21) rfl (teq hc284).1 (by decide) (by decide) (XS.iinc X0.here hx rfl (D d5_26) rfl (l' := #[rv xg, rv xc, iv 8]) rfl (XS.goto X0.here hx rfl (pc0 := 29) (pc' := 9) rfl (D d5_29) (by decide) (by decide) (XS.iloadN X0.here hx rfl (D d5_9) rfl (XS.aloadN X0.here hx rfl (D d5_10) rfl rfl (X0.arraylength hx (by rw [e0]; exact Ar285.1) (State.isArrayOf_alike hZ.alike Ar285.2.1) (g := (mkF m 11 #[rv xg, rv xc, iv 8] [(.ref xg), (.int 8)])) rfl rfl (D d5_11) _ (by rw [len_of S285 Ng285]; exact (XS.icmpYes X0.here hx rfl (pc0 := 12) (pc' := 32) rfl (D d5_12) rfl (flt (by decide : ¬ ((8 : Int32) < (8 : Int32)))).2.1 (by decide) (by decide) (XS.iconst X0.here hx rfl (D d5_32) k))))))))) ?_
                    exact Go.retB X0 hx hlk hret (by simp) (D d5_33) (by decide) (by decide) (z' := (1 : Int32)) rfl (by rw [e0]; exact ⟨by rw [own_eq_validate, if_pos rfl, if_pos hc249, if_pos hc254, if_pos hc259, if_pos hc264, if_pos hc269, if_pos hc274, if_pos hc279, if_pos hc284], rfl, by simp⟩)
                  · skip
                    refine Go.of (T' := T0) (f' := (mkF m 25 #[rv xg, rv xc, iv 7] [(.int 0)])) (fun _ k => XS.icmpNo X0.here hx rfl (D d5_21) rfl (feq hc284).1 (XS.iconst X0.here hx rfl (D d5_24) k)) ?_
                    exact Go.retB X0 hx hlk hret (by simp) (D d5_25) (by decide) (by decide) (z' := (0 : Int32)) rfl (by rw [e0]; exact ⟨by rw [own_eq_validate, if_pos rfl, if_pos hc249, if_pos hc254, if_pos hc259, if_pos hc264, if_pos hc269, if_pos hc274, if_pos hc279, if_neg hc284], rfl, by simp⟩)
                · skip
                  refine Go.of (T' := T0) (f' := (mkF m 25 #[rv xg, rv xc, iv 6] [(.int 0)])) (fun _ k => XS.icmpNo X0.here hx rfl (D d5_21) rfl (feq hc279).1 (XS.iconst X0.here hx rfl (D d5_24) k)) ?_
                  exact Go.retB X0 hx hlk hret (by simp) (D d5_25) (by decide) (by decide) (z' := (0 : Int32)) rfl (by rw [e0]; exact ⟨by rw [own_eq_validate, if_pos rfl, if_pos hc249, if_pos hc254, if_pos hc259, if_pos hc264, if_pos hc269, if_pos hc274, if_neg hc279], rfl, by simp⟩)
              · skip
                refine Go.of (T' := T0) (f' := (mkF m 25 #[rv xg, rv xc, iv 5] [(.int 0)])) (fun _ k => XS.icmpNo X0.here hx rfl (D d5_21) rfl (feq hc274).1 (XS.iconst X0.here hx rfl (D d5_24) k)) ?_
                exact Go.retB X0 hx hlk hret (by simp) (D d5_25) (by decide) (by decide) (z' := (0 : Int32)) rfl (by rw [e0]; exact ⟨by rw [own_eq_validate, if_pos rfl, if_pos hc249, if_pos hc254, if_pos hc259, if_pos hc264, if_pos hc269, if_neg hc274], rfl, by simp⟩)
            · skip
              refine Go.of (T' := T0) (f' := (mkF m 25 #[rv xg, rv xc, iv 4] [(.int 0)])) (fun _ k => XS.icmpNo X0.here hx rfl (D d5_21) rfl (feq hc269).1 (XS.iconst X0.here hx rfl (D d5_24) k)) ?_
              exact Go.retB X0 hx hlk hret (by simp) (D d5_25) (by decide) (by decide) (z' := (0 : Int32)) rfl (by rw [e0]; exact ⟨by rw [own_eq_validate, if_pos rfl, if_pos hc249, if_pos hc254, if_pos hc259, if_pos hc264, if_neg hc269], rfl, by simp⟩)
          · skip
            refine Go.of (T' := T0) (f' := (mkF m 25 #[rv xg, rv xc, iv 3] [(.int 0)])) (fun _ k => XS.icmpNo X0.here hx rfl (D d5_21) rfl (feq hc264).1 (XS.iconst X0.here hx rfl (D d5_24) k)) ?_
            exact Go.retB X0 hx hlk hret (by simp) (D d5_25) (by decide) (by decide) (z' := (0 : Int32)) rfl (by rw [e0]; exact ⟨by rw [own_eq_validate, if_pos rfl, if_pos hc249, if_pos hc254, if_pos hc259, if_neg hc264], rfl, by simp⟩)
        · skip
          refine Go.of (T' := T0) (f' := (mkF m 25 #[rv xg, rv xc, iv 2] [(.int 0)])) (fun _ k => XS.icmpNo X0.here hx rfl (D d5_21) rfl (feq hc259).1 (XS.iconst X0.here hx rfl (D d5_24) k)) ?_
          exact Go.retB X0 hx hlk hret (by simp) (D d5_25) (by decide) (by decide) (z' := (0 : Int32)) rfl (by rw [e0]; exact ⟨by rw [own_eq_validate, if_pos rfl, if_pos hc249, if_pos hc254, if_neg hc259], rfl, by simp⟩)
      · skip
        refine Go.of (T' := T0) (f' := (mkF m 25 #[rv xg, rv xc, iv 1] [(.int 0)])) (fun _ k => XS.icmpNo X0.here hx rfl (D d5_21) rfl (feq hc254).1 (XS.iconst X0.here hx rfl (D d5_24) k)) ?_
        exact Go.retB X0 hx hlk hret (by simp) (D d5_25) (by decide) (by decide) (z' := (0 : Int32)) rfl (by rw [e0]; exact ⟨by rw [own_eq_validate, if_pos rfl, if_pos hc249, if_neg hc254], rfl, by simp⟩)
    · skip
      refine Go.of (T' := T0) (f' := (mkF m 25 #[rv xg, rv xc, iv 0] [(.int 0)])) (fun _ k => XS.icmpNo X0.here hx rfl (D d5_21) rfl (feq hc249).1 (XS.iconst X0.here hx rfl (D d5_24) k)) ?_
      exact Go.retB X0 hx hlk hret (by simp) (D d5_25) (by decide) (by decide) (z' := (0 : Int32)) rfl (by rw [e0]; exact ⟨by rw [own_eq_validate, if_pos rfl, if_neg hc249], rfl, by simp⟩)
  · skip
    refine Go.of (T' := T0) (f' := (mkF m 35 #[rv xg, rv xc, .unset] [(.int 0)])) (fun _ k => XS.icmpYes X0.here hx rfl (pc0 := 4) (pc' := 34) rfl (D d5_4) rfl (feq hc244).2 (by decide) (by decide) (XS.iconst X0.here hx rfl (D d5_34) k)) ?_
    exact Go.retB X0 hx hlk hret (by simp) (D d5_35) (by decide) (by decide) (z' := (0 : Int32)) rfl (by rw [e0]; exact ⟨by rw [own_eq_validate, if_neg hc244], rfl, by simp⟩)
theorem ef_rm_l1n_validate (m : MethodId) (xc : Addr) (xg : Addr) : entryFrame m #[(.ref xc), (.ref xg)] 3 = mkF m 0 #[rv xc, rv xg, .unset] [] := by first | (simp [entryFrame, mkF, argsToLocals, Value.category]; done) | rfl
set_option maxRecDepth 65536 in
set_option maxHeartbeats 40000000 in
theorem rm_l1n_validate {l : Launch} {Z : State} {a0 : Array Value} {A : Nat → Addr} {KC : Nat → Cell} {IC : Nat → Int32} {VC : Nat → Value} (hw : ∀ d ∈ tables_1, d.before a0 Z = true) (G : own_Ctx Z A KC IC VC) (xc : Addr) (xg : Addr) (kg : ClassId) (kc : ClassId) (n : Int32) (bs : List Int32) (h0 : Heap) (O0 : Ext Z.heap h0) (prem0 : Arv Z h0 xg kg .byte n (bs.map Value.int) (.int (0 : Int32))) (prem1 : Arv Z h0 xc kc .byte (8 : Int32) [(.int (118 : Int32)), (.int (97 : Int32)), (.int (108 : Int32)), (.int (105 : Int32)), (.int (100 : Int32)), (.int (97 : Int32)), (.int (116 : Int32)), (.int (101 : Int32))] (.int (0 : Int32))) :
    Ok l Z own_m14 jdk_43_method_13_code 3 (some .boolean) ({ frames := 0, cells := 0, slots := 0, locals := 0 } : Room) #[(.ref xc), (.ref xg)] h0
      (fun v h L => v = some (.int (own_eq_validate n bs)) ∧ (h = h0) ∧ (L = [])) := by
  refine Ok.mk pn15 ?_
  intro p e s m below meth c T0 hx hby hml hown hnm hret hlk hZ e0 X0
  refine Go.cast (ef_rm_l1n_validate m xc xg) ?_
  have D := @hb _ _ hby
  have N0 := Fr.nil Z.heap.size
  have K0 : Keep h0 h0 [] := Keep.refl _ _
  obtain ⟨cl287, Ar287, qk287, S287, Ng287, H287, G287⟩ := id prem1
  obtain ⟨cl288, Ar288, qk288, S288, Ng288, H288, G288⟩ := id prem0
  refine Go.of (T' := T0) (f' := (mkF m 4 #[rv xc, rv xg, .unset] [(.int n), (.int 8)])) (fun _ k => XS.aloadN X0.here hx rfl (D d5_0) rfl rfl (X0.arraylength hx (by rw [e0]; exact Ar287.1) (State.isArrayOf_alike hZ.alike Ar287.2.1) (g := (mkF m 1 #[rv xc, rv xg, .unset] [(.ref xc)])) rfl rfl (D d5_1) _ (by rw [len_of S287 Ng287]; exact (XS.aloadN X0.here hx rfl (D d5_2) rfl rfl (X0.arraylength hx (by rw [e0]; exact Ar288.1) (State.isArrayOf_alike hZ.alike Ar288.2.1) (g := (mkF m 3 #[rv xc, rv xg, .unset] [(.ref xg), (.int 8)])) rfl rfl (D d5_3) _ (by rw [len_of S288 Ng288]; exact k)))))) ?_
  by_cases hc289 : (8 : Int32) = n
  · skip
    refine Go.of (T' := T0) (f' := (mkF m 7 #[rv xc, rv xg, .unset] [])) (fun _ k => XS.icmpNo X0.here hx rfl (D d5_4) rfl (teq hc289).2 k) ?_
    subst hc289
    obtain ⟨cl290, Ar290, qk290, S290, Ng290, H290, G290⟩ := id prem1
    obtain ⟨cl292, Ar292, qk292, S292, Ng292, H292, G292⟩ := id prem1
    have hin292 := inb_of (j := (0 : Int32)) S292 ⟨by decide, by decide⟩
    obtain ⟨cl293, Ar293, qk293, S293, Ng293, H293, G293⟩ := id prem0
    have hin293 := inb_of (j := (0 : Int32)) S293 ⟨by decide, by decide⟩
    refine Go.of (T' := T0) (f' := (mkF m 21 #[rv xc, rv xg, iv 0] [(.int (bs.getD 0 0)), (.int 118)])) (fun _ k => XS.iconst X0.here hx rfl (D d5_7) (XS.istoreN X0.here hx rfl (D d5_8) rfl (l' := #[rv xc, rv xg, iv 0]) rfl (XS.iloadN X0.here hx rfl (D d5_9) rfl (XS.aloadN X0.here hx rfl (D d5_10) rfl rfl (X0.arraylength hx (by rw [e0]; exact Ar290.1) (State.isArrayOf_alike hZ.alike Ar290.2.1) (g := (mkF m 11 #[rv xc, rv xg, iv 0] [(.ref xc), (.int 0)])) rfl rfl (D d5_11) _ (by rw [len_of S290 Ng290]; exact (XS.icmpNo X0.here hx rfl (D d5_12) rfl (tlt (by decide : (0 : Int32) < (8 : Int32))).2.1 (XS.aloadN X0.here hx rfl (D d5_15) rfl rfl (XS.iloadN X0.here hx rfl (D d5_16) rfl (X0.baloadBytes hx (j := (0 : Int32)) (v := (.int 118)) (by rw [e0]; exact Ar292.1) (State.isArrayOf_alike hZ.alike Ar292.2.1) Ar292.2.2 hin292 (H292.at hin292 rfl) (g := (mkF m 17 #[rv xc, rv xg, iv 0] [(.int 0), (.ref xc)])) rfl rfl (D d5_17) _ (XS.aloadN X0.here hx rfl (D d5_18) rfl rfl (XS.iloadN X0.here hx rfl (D d5_19) rfl (X0.baloadBytes hx (j := (0 : Int32)) (v := (.int (bs.getD 0 0))) (by rw [e0]; exact Ar293.1) (State.isArrayOf_alike hZ.alike Ar293.2.1) Ar293.2.2 hin293 (H293.at hin293 (own_mg bs 0)) (g := (mkF m 20 #[rv xc, rv xg, iv 0] [(.int 0), (.ref xg), (.int 118)])) rfl rfl (D d5_20) _ k))))))))))))) ?_
    by_cases hc294 : (118 : Int32) = (bs.getD 0 0)
    · skip
      obtain ⟨cl295, Ar295, qk295, S295, Ng295, H295, G295⟩ := id prem1
      obtain ⟨cl297, Ar297, qk297, S297, Ng297, H297, G297⟩ := id prem1
      have hin297 := inb_of (j := (1 : Int32)) S297 ⟨by decide, by decide⟩
      obtain ⟨cl298, Ar298, qk298, S298, Ng298, H298, G298⟩ := id prem0
      have hin298 := inb_of (j := (1 : Int32)) S298 ⟨by decide, by decide⟩
      refine Go.of (T' := T0) (f' := (mkF m 21 #[rv xc, rv xg, iv 1] [(.int (bs.getD 1 0)), (.int 97)])) (fun _ k => XS.icmpYes X0.here hx rfl (pc0 := 21) (pc' := 26) rfl (D d5_21) rfl (teq hc294).1 (by decide) (by decide) (XS.iinc X0.here hx rfl (D d5_26) rfl (l' := #[rv xc, rv xg, iv 1]) rfl (XS.goto X0.here hx rfl (pc0 := 29) (pc' := 9) rfl (D d5_29) (by decide) (by decide) (XS.iloadN X0.here hx rfl (D d5_9) rfl (XS.aloadN X0.here hx rfl (D d5_10) rfl rfl (X0.arraylength hx (by rw [e0]; exact Ar295.1) (State.isArrayOf_alike hZ.alike Ar295.2.1) (g := (mkF m 11 #[rv xc, rv xg, iv 1] [(.ref xc), (.int 1)])) rfl rfl (D d5_11) _ (by rw [len_of S295 Ng295]; exact (XS.icmpNo X0.here hx rfl (D d5_12) rfl (tlt (by decide : (1 : Int32) < (8 : Int32))).2.1 (XS.aloadN X0.here hx rfl (D d5_15) rfl rfl (XS.iloadN X0.here hx rfl (D d5_16) rfl (X0.baloadBytes hx (j := (1 : Int32)) (v := (.int 97)) (by rw [e0]; exact Ar297.1) (State.isArrayOf_alike hZ.alike Ar297.2.1) Ar297.2.2 hin297 (H297.at hin297 rfl) (g := (mkF m 17 #[rv xc, rv xg, iv 1] [(.int 1), (.ref xc)])) rfl rfl (D d5_17) _ (XS.aloadN X0.here hx rfl (D d5_18) rfl rfl (XS.iloadN X0.here hx rfl (D d5_19) rfl (X0.baloadBytes hx (j := (1 : Int32)) (v := (.int (bs.getD 1 0))) (by rw [e0]; exact Ar298.1) (State.isArrayOf_alike hZ.alike Ar298.2.1) Ar298.2.2 hin298 (H298.at hin298 (own_mg bs 1)) (g := (mkF m 20 #[rv xc, rv xg, iv 1] [(.int 1), (.ref xg), (.int 97)])) rfl rfl (D d5_20) _ k)))))))))))))) ?_
      by_cases hc299 : (97 : Int32) = (bs.getD 1 0)
      · skip
        obtain ⟨cl300, Ar300, qk300, S300, Ng300, H300, G300⟩ := id prem1
        obtain ⟨cl302, Ar302, qk302, S302, Ng302, H302, G302⟩ := id prem1
        have hin302 := inb_of (j := (2 : Int32)) S302 ⟨by decide, by decide⟩
        obtain ⟨cl303, Ar303, qk303, S303, Ng303, H303, G303⟩ := id prem0
        have hin303 := inb_of (j := (2 : Int32)) S303 ⟨by decide, by decide⟩
        refine Go.of (T' := T0) (f' := (mkF m 21 #[rv xc, rv xg, iv 2] [(.int (bs.getD 2 0)), (.int 108)])) (fun _ k => XS.icmpYes X0.here hx rfl (pc0 := 21) (pc' := 26) rfl (D d5_21) rfl (teq hc299).1 (by decide) (by decide) (XS.iinc X0.here hx rfl (D d5_26) rfl (l' := #[rv xc, rv xg, iv 2]) rfl (XS.goto X0.here hx rfl (pc0 := 29) (pc' := 9) rfl (D d5_29) (by decide) (by decide) (XS.iloadN X0.here hx rfl (D d5_9) rfl (XS.aloadN X0.here hx rfl (D d5_10) rfl rfl (X0.arraylength hx (by rw [e0]; exact Ar300.1) (State.isArrayOf_alike hZ.alike Ar300.2.1) (g := (mkF m 11 #[rv xc, rv xg, iv 2] [(.ref xc), (.int 2)])) rfl rfl (D d5_11) _ (by rw [len_of S300 Ng300]; exact (XS.icmpNo X0.here hx rfl (D d5_12) rfl (tlt (by decide : (2 : Int32) < (8 : Int32))).2.1 (XS.aloadN X0.here hx rfl (D d5_15) rfl rfl (XS.iloadN X0.here hx rfl (D d5_16) rfl (X0.baloadBytes hx (j := (2 : Int32)) (v := (.int 108)) (by rw [e0]; exact Ar302.1) (State.isArrayOf_alike hZ.alike Ar302.2.1) Ar302.2.2 hin302 (H302.at hin302 rfl) (g := (mkF m 17 #[rv xc, rv xg, iv 2] [(.int 2), (.ref xc)])) rfl rfl (D d5_17) _ (XS.aloadN X0.here hx rfl (D d5_18) rfl rfl (XS.iloadN X0.here hx rfl (D d5_19) rfl (X0.baloadBytes hx (j := (2 : Int32)) (v := (.int (bs.getD 2 0))) (by rw [e0]; exact Ar303.1) (State.isArrayOf_alike hZ.alike Ar303.2.1) Ar303.2.2 hin303 (H303.at hin303 (own_mg bs 2)) (g := (mkF m 20 #[rv xc, rv xg, iv 2] [(.int 2), (.ref xg), (.int 108)])) rfl rfl (D d5_20) _ k)))))))))))))) ?_
        by_cases hc304 : (108 : Int32) = (bs.getD 2 0)
        · skip
          obtain ⟨cl305, Ar305, qk305, S305, Ng305, H305, G305⟩ := id prem1
          obtain ⟨cl307, Ar307, qk307, S307, Ng307, H307, G307⟩ := id prem1
          have hin307 := inb_of (j := (3 : Int32)) S307 ⟨by decide, by decide⟩
          obtain ⟨cl308, Ar308, qk308, S308, Ng308, H308, G308⟩ := id prem0
          have hin308 := inb_of (j := (3 : Int32)) S308 ⟨by decide, by decide⟩
          refine Go.of (T' := T0) (f' := (mkF m 21 #[rv xc, rv xg, iv 3] [(.int (bs.getD 3 0)), (.int 105)])) (fun _ k => XS.icmpYes X0.here hx rfl (pc0 := 21) (pc' := 26) rfl (D d5_21) rfl (teq hc304).1 (by decide) (by decide) (XS.iinc X0.here hx rfl (D d5_26) rfl (l' := #[rv xc, rv xg, iv 3]) rfl (XS.goto X0.here hx rfl (pc0 := 29) (pc' := 9) rfl (D d5_29) (by decide) (by decide) (XS.iloadN X0.here hx rfl (D d5_9) rfl (XS.aloadN X0.here hx rfl (D d5_10) rfl rfl (X0.arraylength hx (by rw [e0]; exact Ar305.1) (State.isArrayOf_alike hZ.alike Ar305.2.1) (g := (mkF m 11 #[rv xc, rv xg, iv 3] [(.ref xc), (.int 3)])) rfl rfl (D d5_11) _ (by rw [len_of S305 Ng305]; exact (XS.icmpNo X0.here hx rfl (D d5_12) rfl (tlt (by decide : (3 : Int32) < (8 : Int32))).2.1 (XS.aloadN X0.here hx rfl (D d5_15) rfl rfl (XS.iloadN X0.here hx rfl (D d5_16) rfl (X0.baloadBytes hx (j := (3 : Int32)) (v := (.int 105)) (by rw [e0]; exact Ar307.1) (State.isArrayOf_alike hZ.alike Ar307.2.1) Ar307.2.2 hin307 (H307.at hin307 rfl) (g := (mkF m 17 #[rv xc, rv xg, iv 3] [(.int 3), (.ref xc)])) rfl rfl (D d5_17) _ (XS.aloadN X0.here hx rfl (D d5_18) rfl rfl (XS.iloadN X0.here hx rfl (D d5_19) rfl (X0.baloadBytes hx (j := (3 : Int32)) (v := (.int (bs.getD 3 0))) (by rw [e0]; exact Ar308.1) (State.isArrayOf_alike hZ.alike Ar308.2.1) Ar308.2.2 hin308 (H308.at hin308 (own_mg bs 3)) (g := (mkF m 20 #[rv xc, rv xg, iv 3] [(.int 3), (.ref xg), (.int 105)])) rfl rfl (D d5_20) _ k)))))))))))))) ?_
          by_cases hc309 : (105 : Int32) = (bs.getD 3 0)
          · skip
            obtain ⟨cl310, Ar310, qk310, S310, Ng310, H310, G310⟩ := id prem1
            obtain ⟨cl312, Ar312, qk312, S312, Ng312, H312, G312⟩ := id prem1
            have hin312 := inb_of (j := (4 : Int32)) S312 ⟨by decide, by decide⟩
            obtain ⟨cl313, Ar313, qk313, S313, Ng313, H313, G313⟩ := id prem0
            have hin313 := inb_of (j := (4 : Int32)) S313 ⟨by decide, by decide⟩
            refine Go.of (T' := T0) (f' := (mkF m 21 #[rv xc, rv xg, iv 4] [(.int (bs.getD 4 0)), (.int 100)])) (fun _ k => XS.icmpYes X0.here hx rfl (pc0 := 21) (pc' := 26) rfl (D d5_21) rfl (teq hc309).1 (by decide) (by decide) (XS.iinc X0.here hx rfl (D d5_26) rfl (l' := #[rv xc, rv xg, iv 4]) rfl (XS.goto X0.here hx rfl (pc0 := 29) (pc' := 9) rfl (D d5_29) (by decide) (by decide) (XS.iloadN X0.here hx rfl (D d5_9) rfl (XS.aloadN X0.here hx rfl (D d5_10) rfl rfl (X0.arraylength hx (by rw [e0]; exact Ar310.1) (State.isArrayOf_alike hZ.alike Ar310.2.1) (g := (mkF m 11 #[rv xc, rv xg, iv 4] [(.ref xc), (.int 4)])) rfl rfl (D d5_11) _ (by rw [len_of S310 Ng310]; exact (XS.icmpNo X0.here hx rfl (D d5_12) rfl (tlt (by decide : (4 : Int32) < (8 : Int32))).2.1 (XS.aloadN X0.here hx rfl (D d5_15) rfl rfl (XS.iloadN X0.here hx rfl (D d5_16) rfl (X0.baloadBytes hx (j := (4 : Int32)) (v := (.int 100)) (by rw [e0]; exact Ar312.1) (State.isArrayOf_alike hZ.alike Ar312.2.1) Ar312.2.2 hin312 (H312.at hin312 rfl) (g := (mkF m 17 #[rv xc, rv xg, iv 4] [(.int 4), (.ref xc)])) rfl rfl (D d5_17) _ (XS.aloadN X0.here hx rfl (D d5_18) rfl rfl (XS.iloadN X0.here hx rfl (D d5_19) rfl (X0.baloadBytes hx (j := (4 : Int32)) (v := (.int (bs.getD 4 0))) (by rw [e0]; exact Ar313.1) (State.isArrayOf_alike hZ.alike Ar313.2.1) Ar313.2.2 hin313 (H313.at hin313 (own_mg bs 4)) (g := (mkF m 20 #[rv xc, rv xg, iv 4] [(.int 4), (.ref xg), (.int 100)])) rfl rfl (D d5_20) _ k)))))))))))))) ?_
            by_cases hc314 : (100 : Int32) = (bs.getD 4 0)
            · skip
              obtain ⟨cl315, Ar315, qk315, S315, Ng315, H315, G315⟩ := id prem1
              obtain ⟨cl317, Ar317, qk317, S317, Ng317, H317, G317⟩ := id prem1
              have hin317 := inb_of (j := (5 : Int32)) S317 ⟨by decide, by decide⟩
              obtain ⟨cl318, Ar318, qk318, S318, Ng318, H318, G318⟩ := id prem0
              have hin318 := inb_of (j := (5 : Int32)) S318 ⟨by decide, by decide⟩
              refine Go.of (T' := T0) (f' := (mkF m 21 #[rv xc, rv xg, iv 5] [(.int (bs.getD 5 0)), (.int 97)])) (fun _ k => XS.icmpYes X0.here hx rfl (pc0 := 21) (pc' := 26) rfl (D d5_21) rfl (teq hc314).1 (by decide) (by decide) (XS.iinc X0.here hx rfl (D d5_26) rfl (l' := #[rv xc, rv xg, iv 5]) rfl (XS.goto X0.here hx rfl (pc0 := 29) (pc' := 9) rfl (D d5_29) (by decide) (by decide) (XS.iloadN X0.here hx rfl (D d5_9) rfl (XS.aloadN X0.here hx rfl (D d5_10) rfl rfl (X0.arraylength hx (by rw [e0]; exact Ar315.1) (State.isArrayOf_alike hZ.alike Ar315.2.1) (g := (mkF m 11 #[rv xc, rv xg, iv 5] [(.ref xc), (.int 5)])) rfl rfl (D d5_11) _ (by rw [len_of S315 Ng315]; exact (XS.icmpNo X0.here hx rfl (D d5_12) rfl (tlt (by decide : (5 : Int32) < (8 : Int32))).2.1 (XS.aloadN X0.here hx rfl (D d5_15) rfl rfl (XS.iloadN X0.here hx rfl (D d5_16) rfl (X0.baloadBytes hx (j := (5 : Int32)) (v := (.int 97)) (by rw [e0]; exact Ar317.1) (State.isArrayOf_alike hZ.alike Ar317.2.1) Ar317.2.2 hin317 (H317.at hin317 rfl) (g := (mkF m 17 #[rv xc, rv xg, iv 5] [(.int 5), (.ref xc)])) rfl rfl (D d5_17) _ (XS.aloadN X0.here hx rfl (D d5_18) rfl rfl (XS.iloadN X0.here hx rfl (D d5_19) rfl (X0.baloadBytes hx (j := (5 : Int32)) (v := (.int (bs.getD 5 0))) (by rw [e0]; exact Ar318.1) (State.isArrayOf_alike hZ.alike Ar318.2.1) Ar318.2.2 hin318 (H318.at hin318 (own_mg bs 5)) (g := (mkF m 20 #[rv xc, rv xg, iv 5] [(.int 5), (.ref xg), (.int 97)])) rfl rfl (D d5_20) _ k)))))))))))))) ?_
              by_cases hc319 : (97 : Int32) = (bs.getD 5 0)
              · skip
                obtain ⟨cl320, Ar320, qk320, S320, Ng320, H320, G320⟩ := id prem1
                obtain ⟨cl322, Ar322, qk322, S322, Ng322, H322, G322⟩ := id prem1
                have hin322 := inb_of (j := (6 : Int32)) S322 ⟨by decide, by decide⟩
                obtain ⟨cl323, Ar323, qk323, S323, Ng323, H323, G323⟩ := id prem0
                have hin323 := inb_of (j := (6 : Int32)) S323 ⟨by decide, by decide⟩
                refine Go.of (T' := T0) (f' := (mkF m 21 #[rv xc, rv xg, iv 6] [(.int (bs.getD 6 0)), (.int 116)])) (fun _ k => XS.icmpYes X0.here hx rfl (pc0 := 21) (pc' := 26) rfl (D d5_21) rfl (teq hc319).1 (by decide) (by decide) (XS.iinc X0.here hx rfl (D d5_26) rfl (l' := #[rv xc, rv xg, iv 6]) rfl (XS.goto X0.here hx rfl (pc0 := 29) (pc' := 9) rfl (D d5_29) (by decide) (by decide) (XS.iloadN X0.here hx rfl (D d5_9) rfl (XS.aloadN X0.here hx rfl (D d5_10) rfl rfl (X0.arraylength hx (by rw [e0]; exact Ar320.1) (State.isArrayOf_alike hZ.alike Ar320.2.1) (g := (mkF m 11 #[rv xc, rv xg, iv 6] [(.ref xc), (.int 6)])) rfl rfl (D d5_11) _ (by rw [len_of S320 Ng320]; exact (XS.icmpNo X0.here hx rfl (D d5_12) rfl (tlt (by decide : (6 : Int32) < (8 : Int32))).2.1 (XS.aloadN X0.here hx rfl (D d5_15) rfl rfl (XS.iloadN X0.here hx rfl (D d5_16) rfl (X0.baloadBytes hx (j := (6 : Int32)) (v := (.int 116)) (by rw [e0]; exact Ar322.1) (State.isArrayOf_alike hZ.alike Ar322.2.1) Ar322.2.2 hin322 (H322.at hin322 rfl) (g := (mkF m 17 #[rv xc, rv xg, iv 6] [(.int 6), (.ref xc)])) rfl rfl (D d5_17) _ (XS.aloadN X0.here hx rfl (D d5_18) rfl rfl (XS.iloadN X0.here hx rfl (D d5_19) rfl (X0.baloadBytes hx (j := (6 : Int32)) (v := (.int (bs.getD 6 0))) (by rw [e0]; exact Ar323.1) (State.isArrayOf_alike hZ.alike Ar323.2.1) Ar323.2.2 hin323 (H323.at hin323 (own_mg bs 6)) (g := (mkF m 20 #[rv xc, rv xg, iv 6] [(.int 6), (.ref xg), (.int 116)])) rfl rfl (D d5_20) _ k)))))))))))))) ?_
                by_cases hc324 : (116 : Int32) = (bs.getD 6 0)
                · skip
                  obtain ⟨cl325, Ar325, qk325, S325, Ng325, H325, G325⟩ := id prem1
                  obtain ⟨cl327, Ar327, qk327, S327, Ng327, H327, G327⟩ := id prem1
                  have hin327 := inb_of (j := (7 : Int32)) S327 ⟨by decide, by decide⟩
                  obtain ⟨cl328, Ar328, qk328, S328, Ng328, H328, G328⟩ := id prem0
                  have hin328 := inb_of (j := (7 : Int32)) S328 ⟨by decide, by decide⟩
                  refine Go.of (T' := T0) (f' := (mkF m 21 #[rv xc, rv xg, iv 7] [(.int (bs.getD 7 0)), (.int 101)])) (fun _ k => XS.icmpYes X0.here hx rfl (pc0 := 21) (pc' := 26) rfl (D d5_21) rfl (teq hc324).1 (by decide) (by decide) (XS.iinc X0.here hx rfl (D d5_26) rfl (l' := #[rv xc, rv xg, iv 7]) rfl (XS.goto X0.here hx rfl (pc0 := 29) (pc' := 9) rfl (D d5_29) (by decide) (by decide) (XS.iloadN X0.here hx rfl (D d5_9) rfl (XS.aloadN X0.here hx rfl (D d5_10) rfl rfl (X0.arraylength hx (by rw [e0]; exact Ar325.1) (State.isArrayOf_alike hZ.alike Ar325.2.1) (g := (mkF m 11 #[rv xc, rv xg, iv 7] [(.ref xc), (.int 7)])) rfl rfl (D d5_11) _ (by rw [len_of S325 Ng325]; exact (XS.icmpNo X0.here hx rfl (D d5_12) rfl (tlt (by decide : (7 : Int32) < (8 : Int32))).2.1 (XS.aloadN X0.here hx rfl (D d5_15) rfl rfl (XS.iloadN X0.here hx rfl (D d5_16) rfl (X0.baloadBytes hx (j := (7 : Int32)) (v := (.int 101)) (by rw [e0]; exact Ar327.1) (State.isArrayOf_alike hZ.alike Ar327.2.1) Ar327.2.2 hin327 (H327.at hin327 rfl) (g := (mkF m 17 #[rv xc, rv xg, iv 7] [(.int 7), (.ref xc)])) rfl rfl (D d5_17) _ (XS.aloadN X0.here hx rfl (D d5_18) rfl rfl (XS.iloadN X0.here hx rfl (D d5_19) rfl (X0.baloadBytes hx (j := (7 : Int32)) (v := (.int (bs.getD 7 0))) (by rw [e0]; exact Ar328.1) (State.isArrayOf_alike hZ.alike Ar328.2.1) Ar328.2.2 hin328 (H328.at hin328 (own_mg bs 7)) (g := (mkF m 20 #[rv xc, rv xg, iv 7] [(.int 7), (.ref xg), (.int 101)])) rfl rfl (D d5_20) _ k)))))))))))))) ?_
                  by_cases hc329 : (101 : Int32) = (bs.getD 7 0)
                  · skip
                    obtain ⟨cl330, Ar330, qk330, S330, Ng330, H330, G330⟩ := id prem1
                    refine Go.of (T' := T0) (f' := (mkF m 33 #[rv xc, rv xg, iv 8] [(.int 1)])) (fun _ k => XS.icmpYes X0.here hx rfl (pc0 := 21) (pc' := 26) rfl (D d5_21) rfl (teq hc329).1 (by decide) (by decide) (XS.iinc X0.here hx rfl (D d5_26) rfl (l' := #[rv xc, rv xg, iv 8]) rfl (XS.goto X0.here hx rfl (pc0 := 29) (pc' := 9) rfl (D d5_29) (by decide) (by decide) (XS.iloadN X0.here hx rfl (D d5_9) rfl (XS.aloadN X0.here hx rfl (D d5_10) rfl rfl (X0.arraylength hx (by rw [e0]; exact Ar330.1) (State.isArrayOf_alike hZ.alike Ar330.2.1) (g := (mkF m 11 #[rv xc, rv xg, iv 8] [(.ref xc), (.int 8)])) rfl rfl (D d5_11) _ (by rw [len_of S330 Ng330]; exact (XS.icmpYes X0.here hx rfl (pc0 := 12) (pc' := 32) rfl (D d5_12) rfl (flt (by decide : ¬ ((8 : Int32) < (8 : Int32)))).2.1 (by decide) (by decide) (XS.iconst X0.here hx rfl (D d5_32) k))))))))) ?_
                    exact Go.retB X0 hx hlk hret (by simp) (D d5_33) (by decide) (by decide) (z' := (1 : Int32)) rfl (by rw [e0]; exact ⟨by rw [own_eq_validate, if_pos rfl, if_pos hc294.symm, if_pos hc299.symm, if_pos hc304.symm, if_pos hc309.symm, if_pos hc314.symm, if_pos hc319.symm, if_pos hc324.symm, if_pos hc329.symm], rfl, by simp⟩)
                  · skip
                    refine Go.of (T' := T0) (f' := (mkF m 25 #[rv xc, rv xg, iv 7] [(.int 0)])) (fun _ k => XS.icmpNo X0.here hx rfl (D d5_21) rfl (feq hc329).1 (XS.iconst X0.here hx rfl (D d5_24) k)) ?_
                    exact Go.retB X0 hx hlk hret (by simp) (D d5_25) (by decide) (by decide) (z' := (0 : Int32)) rfl (by rw [e0]; exact ⟨by rw [own_eq_validate, if_pos rfl, if_pos hc294.symm, if_pos hc299.symm, if_pos hc304.symm, if_pos hc309.symm, if_pos hc314.symm, if_pos hc319.symm, if_pos hc324.symm, if_neg (fun q => hc329 q.symm)], rfl, by simp⟩)
                · skip
                  refine Go.of (T' := T0) (f' := (mkF m 25 #[rv xc, rv xg, iv 6] [(.int 0)])) (fun _ k => XS.icmpNo X0.here hx rfl (D d5_21) rfl (feq hc324).1 (XS.iconst X0.here hx rfl (D d5_24) k)) ?_
                  exact Go.retB X0 hx hlk hret (by simp) (D d5_25) (by decide) (by decide) (z' := (0 : Int32)) rfl (by rw [e0]; exact ⟨by rw [own_eq_validate, if_pos rfl, if_pos hc294.symm, if_pos hc299.symm, if_pos hc304.symm, if_pos hc309.symm, if_pos hc314.symm, if_pos hc319.symm, if_neg (fun q => hc324 q.symm)], rfl, by simp⟩)
              · skip
                refine Go.of (T' := T0) (f' := (mkF m 25 #[rv xc, rv xg, iv 5] [(.int 0)])) (fun _ k => XS.icmpNo X0.here hx rfl (D d5_21) rfl (feq hc319).1 (XS.iconst X0.here hx rfl (D d5_24) k)) ?_
                exact Go.retB X0 hx hlk hret (by simp) (D d5_25) (by decide) (by decide) (z' := (0 : Int32)) rfl (by rw [e0]; exact ⟨by rw [own_eq_validate, if_pos rfl, if_pos hc294.symm, if_pos hc299.symm, if_pos hc304.symm, if_pos hc309.symm, if_pos hc314.symm, if_neg (fun q => hc319 q.symm)], rfl, by simp⟩)
            · skip
              refine Go.of (T' := T0) (f' := (mkF m 25 #[rv xc, rv xg, iv 4] [(.int 0)])) (fun _ k => XS.icmpNo X0.here hx rfl (D d5_21) rfl (feq hc314).1 (XS.iconst X0.here hx rfl (D d5_24) k)) ?_
              exact Go.retB X0 hx hlk hret (by simp) (D d5_25) (by decide) (by decide) (z' := (0 : Int32)) rfl (by rw [e0]; exact ⟨by rw [own_eq_validate, if_pos rfl, if_pos hc294.symm, if_pos hc299.symm, if_pos hc304.symm, if_pos hc309.symm, if_neg (fun q => hc314 q.symm)], rfl, by simp⟩)
          · skip
            refine Go.of (T' := T0) (f' := (mkF m 25 #[rv xc, rv xg, iv 3] [(.int 0)])) (fun _ k => XS.icmpNo X0.here hx rfl (D d5_21) rfl (feq hc309).1 (XS.iconst X0.here hx rfl (D d5_24) k)) ?_
            exact Go.retB X0 hx hlk hret (by simp) (D d5_25) (by decide) (by decide) (z' := (0 : Int32)) rfl (by rw [e0]; exact ⟨by rw [own_eq_validate, if_pos rfl, if_pos hc294.symm, if_pos hc299.symm, if_pos hc304.symm, if_neg (fun q => hc309 q.symm)], rfl, by simp⟩)
        · skip
          refine Go.of (T' := T0) (f' := (mkF m 25 #[rv xc, rv xg, iv 2] [(.int 0)])) (fun _ k => XS.icmpNo X0.here hx rfl (D d5_21) rfl (feq hc304).1 (XS.iconst X0.here hx rfl (D d5_24) k)) ?_
          exact Go.retB X0 hx hlk hret (by simp) (D d5_25) (by decide) (by decide) (z' := (0 : Int32)) rfl (by rw [e0]; exact ⟨by rw [own_eq_validate, if_pos rfl, if_pos hc294.symm, if_pos hc299.symm, if_neg (fun q => hc304 q.symm)], rfl, by simp⟩)
      · skip
        refine Go.of (T' := T0) (f' := (mkF m 25 #[rv xc, rv xg, iv 1] [(.int 0)])) (fun _ k => XS.icmpNo X0.here hx rfl (D d5_21) rfl (feq hc299).1 (XS.iconst X0.here hx rfl (D d5_24) k)) ?_
        exact Go.retB X0 hx hlk hret (by simp) (D d5_25) (by decide) (by decide) (z' := (0 : Int32)) rfl (by rw [e0]; exact ⟨by rw [own_eq_validate, if_pos rfl, if_pos hc294.symm, if_neg (fun q => hc299 q.symm)], rfl, by simp⟩)
    · skip
      refine Go.of (T' := T0) (f' := (mkF m 25 #[rv xc, rv xg, iv 0] [(.int 0)])) (fun _ k => XS.icmpNo X0.here hx rfl (D d5_21) rfl (feq hc294).1 (XS.iconst X0.here hx rfl (D d5_24) k)) ?_
      exact Go.retB X0 hx hlk hret (by simp) (D d5_25) (by decide) (by decide) (z' := (0 : Int32)) rfl (by rw [e0]; exact ⟨by rw [own_eq_validate, if_pos rfl, if_neg (fun q => hc294 q.symm)], rfl, by simp⟩)
  · skip
    refine Go.of (T' := T0) (f' := (mkF m 35 #[rv xc, rv xg, .unset] [(.int 0)])) (fun _ k => XS.icmpYes X0.here hx rfl (pc0 := 4) (pc' := 34) rfl (D d5_4) rfl (feq hc289).2 (by decide) (by decide) (XS.iconst X0.here hx rfl (D d5_34) k)) ?_
    exact Go.retB X0 hx hlk hret (by simp) (D d5_35) (by decide) (by decide) (z' := (0 : Int32)) rfl (by rw [e0]; exact ⟨by rw [own_eq_validate, if_neg (fun q => hc289 q.symm)], rfl, by simp⟩)
theorem ef_rm_eqg_validate (m : MethodId) (so : Addr) (cb : Addr) : entryFrame m #[(.ref so), (.ref cb)] 3 = mkF m 0 #[rv so, rv cb, .unset] [] := by first | (simp [entryFrame, mkF, argsToLocals, Value.category]; done) | rfl
set_option maxRecDepth 65536 in
set_option maxHeartbeats 40000000 in
theorem rm_eqg_validate {l : Launch} {Z : State} {a0 : Array Value} {A : Nat → Addr} {KC : Nat → Cell} {IC : Nat → Int32} {VC : Nat → Value} (hw : ∀ d ∈ tables_1, d.before a0 Z = true) (G : own_Ctx Z A KC IC VC) (so : Addr) (cb : Addr) (sv : Addr) (kg : ClassId) (n : Int32) (bs : List Int32) (vb : Addr) (kc : ClassId) (vq : Int32) (h0 : Heap) (O0 : Ext Z.heap h0) (prem0 : Exa Z h0 so "java/lang/String") (prem1 : Fld Z h0 so "java/lang/String" "value" "[B" (.ref sv)) (prem2 : Fld Z h0 so "java/lang/String" "coder" "B" (.int (0 : Int32))) (prem3 : Arv Z h0 sv kg .byte n (bs.map Value.int) (.int (0 : Int32))) (prem4 : Exa Z h0 cb "java/lang/String") (prem5 : Fld Z h0 cb "java/lang/String" "coder" "B" (.int (0 : Int32))) (prem6 : Fld Z h0 cb "java/lang/String" "value" "[B" (.ref vb)) (prem7 : Arv Z h0 vb kc .byte (8 : Int32) [(.int (118 : Int32)), (.int (97 : Int32)), (.int (108 : Int32)), (.int (105 : Int32)), (.int (100 : Int32)), (.int (97 : Int32)), (.int (116 : Int32)), (.int (101 : Int32))] (.int (0 : Int32))) (prem8 : own_eq_validate n bs = vq) :
    Ok l Z own_m17 jdk_42_method_66_code 3 (some .boolean) ({ frames := 1, cells := 0, slots := 0, locals := 14 } : Room) #[(.ref so), (.ref cb)] h0
      (fun v h L => v = some (.int vq) ∧ (h = h0) ∧ (L = [])) := by
  refine Ok.mk pn18 ?_
  intro p e s m below meth c T0 hx hby hml hown hnm hret hlk hZ e0 X0
  refine Go.cast (ef_rm_eqg_validate m so cb) ?_
  obtain ⟨-, -, -, -, -, -, -, -, -, -, -, -, -, -, -, -, -, -, -, -, S_COMPACT_STRINGS, hne_s_COMPACT_STRINGS_0, -⟩ := id G
  have D := @hb _ _ hby
  have N0 := Fr.nil Z.heap.size
  have K0 : Keep h0 h0 [] := Keep.refl _ _
  refine Go.of (T' := T0) (f' := (mkF m 2 #[rv so, rv cb, .unset] [(.ref cb), (.ref so)])) (fun _ k => XS.aloadN X0.here hx rfl (D d4_0) rfl rfl (XS.aloadN X0.here hx rfl (D d4_1) rfl rfl k)) ?_
  by_cases hc332 : so = cb
  · skip
    refine Go.of (T' := T0) (f' := (mkF m 6 #[rv so, rv cb, .unset] [(.int 1)])) (fun _ k => Jvm.RoadKit.acmp (g := (mkF m 2 #[rv so, rv cb, .unset] [(.ref cb), (.ref so)])) X0 hx rfl rfl rfl (pc0 := 2) (pc' := 5) (same := true) rfl (D d4_2) rfl (decide_eq_true (congrArg Value.ref hc332)) (by decide) (by decide) (XS.iconst X0.here hx rfl (D d4_5) k)) ?_
    exact Go.retB X0 hx hlk hret (by simp) (D d4_6) (by decide) (by decide) (z' := (1 : Int32)) rfl (by rw [e0]; exact ⟨congrArg (fun z => some (Value.int z)) ((own_idt_validate hc332 prem1 prem6 prem3 prem7 : own_eq_validate n bs = 1).symm.trans prem8), rfl, by simp⟩)
  · skip
    obtain ⟨T333, X333, e333, st333⟩ := instY X0 hx hZ hown (own_w hw (i := 34) rfl) e0 (Ins.self prem4) (g := (mkF m 8 #[rv so, rv cb, .unset] [(.ref cb)])) rfl rfl (D d4_8)
    obtain ⟨T335, X335, e335, st335⟩ := castY X333 hx hZ hown (own_w hw (i := 34) rfl) e333 (Ins.self prem4) (g := (mkF m 15 #[rv so, rv cb, .unset] [(.ref cb)])) rfl rfl (D d4_15)
    obtain ⟨T336, X336, e336, st336⟩ := getS2 X335 hx hZ hown (host := "") (Or.inl (own_w hw (i := 35) rfl)) Via.refl e335 (Sta.ext O0 S_COMPACT_STRINGS) (g := (mkF m 19 #[rv so, rv cb, rv cb] [])) rfl (D d4_19)
    have hc337 : ¬ ((IC 0) = (0 : Int32)) := hne_s_COMPACT_STRINGS_0
    obtain ⟨T338, X338, e338, st338⟩ := getF X336 hx hZ hown (host := "") (Or.inl (own_w hw (i := 27) rfl)) Via.refl e336 prem2 (g := (mkF m 26 #[rv so, rv cb, rv cb] [(.ref so)])) rfl rfl (D d4_26)
    obtain ⟨T339, X339, e339, st339⟩ := getF X338 hx hZ hown (host := "") (Or.inl (own_w hw (i := 27) rfl)) Via.refl e338 prem5 (g := (mkF m 30 #[rv so, rv cb, rv cb] [(.ref cb), (.int 0)])) rfl rfl (D d4_30)
    obtain ⟨T341, X341, e341, st341⟩ := getF X339 hx hZ hown (host := "") (Or.inl (own_w hw (i := 26) rfl)) Via.refl e339 prem1 (g := (mkF m 37 #[rv so, rv cb, rv cb] [(.ref so)])) rfl rfl (D d4_37)
    obtain ⟨T342, X342, e342, st342⟩ := getF X341 hx hZ hown (host := "") (Or.inl (own_w hw (i := 26) rfl)) Via.refl e341 prem6 (g := (mkF m 41 #[rv so, rv cb, rv cb] [(.ref cb), (.ref sv)])) rfl rfl (D d4_41)
    obtain ⟨T343, v343, L343, X343, q343, st343⟩ := callSt X342 hx hZ (y := own_m14) hown (own_w hw (i := 36) rfl) (own_w hw (i := 37) rfl) (own_w hw (i := 38) rfl) (own_w hw (i := 39) rfl) (by decide) (rm_l1g_validate hw G sv vb kg kc n bs h0 O0 prem3 prem7) e342 (W := 0) (by decide) (by decide) (by decide) (by decide) (g := (mkF m 44 #[rv so, rv cb, rv cb] [(.ref vb), (.ref sv)])) rfl (by rw [hml]; rfl) (argsL := [(.ref sv), (.ref vb)]) (rest := []) (lenOf pd16 rfl) rfl rfl (Nat.le_of_eq rfl) (D d4_44)
    obtain ⟨rfl, e343, rfl⟩ := q343
    have N343 := Fr.app N0 (Fr.nil _)
    refine Go.of (T' := T343) (f' := (mkF m 47 #[rv so, rv cb, rv cb] [(.int (own_eq_validate n bs))])) (fun _ k => Jvm.RoadKit.acmp (g := (mkF m 2 #[rv so, rv cb, .unset] [(.ref cb), (.ref so)])) X0 hx rfl rfl rfl (pc0 := 2) (pc' := 7) (same := false) rfl (D d4_2) rfl (decide_eq_false fun q => hc332 (Value.ref.inj q)) (by decide) (by decide) (XS.aloadN X0.here hx rfl (D d4_7) rfl rfl (st333 _ (XS.ifNo X333.here hx rfl (D d4_11) rfl ((if0 _ _).trans (feq (by decide : ¬ ((1 : Int32) = (0 : Int32)))).1) (XS.aloadN X333.here hx rfl (D d4_14) rfl rfl (st335 _ (XS.astoreN X335.here hx rfl (D d4_18) rfl rfl (l' := #[rv so, rv cb, rv cb]) rfl (st336 _ (XS.ifNo X336.here hx rfl (D d4_22) rfl ((if0 _ _).trans (feq hc337).1) (XS.aloadN X336.here hx rfl (D d4_25) rfl rfl (st338 _ (XS.aloadN X338.here hx rfl (D d4_29) rfl rfl (st339 _ (XS.icmpNo X339.here hx rfl (D d4_33) rfl (teq (by decide : (0 : Int32) = (0 : Int32))).2 (XS.aloadN X339.here hx rfl (D d4_36) rfl rfl (st341 _ (XS.aloadN X341.here hx rfl (D d4_40) rfl rfl (st342 _ (st343 _ k))))))))))))))))))) ?_
    by_cases hc344 : (own_eq_validate n bs) = (0 : Int32)
    · skip
      refine Go.of (T' := T343) (f' := (mkF m 55 #[rv so, rv cb, rv cb] [(.int 0)])) (fun _ k => XS.ifYes X343.here hx rfl (pc0 := 47) (pc' := 54) rfl (D d4_47) rfl ((if0 _ _).trans (teq hc344).1) (by decide) (by decide) (XS.iconst X343.here hx rfl (D d4_54) k)) ?_
      exact Go.retB X343 hx hlk hret (by simp) (D d4_55) (by decide) (by decide) (z' := (0 : Int32)) rfl (by rw [e343]; exact ⟨congrArg (fun z => some (Value.int z)) ((hc344 : own_eq_validate n bs = 0).symm.trans prem8), rfl, by simp⟩)
    · skip
      refine Go.of (T' := T343) (f' := (mkF m 55 #[rv so, rv cb, rv cb] [(.int 1)])) (fun _ k => XS.ifNo X343.here hx rfl (D d4_47) rfl ((if0 _ _).trans (feq hc344).1) (XS.iconst X343.here hx rfl (D d4_50) (XS.goto X343.here hx rfl (pc0 := 51) (pc' := 55) rfl (D d4_51) (by decide) (by decide) k))) ?_
      exact Go.retB X343 hx hlk hret (by simp) (D d4_55) (by decide) (by decide) (z' := (1 : Int32)) rfl (by rw [e343]; exact ⟨congrArg (fun z => some (Value.int z)) (((Classical.byContradiction fun q => hc344 (own_01_validate q)) : own_eq_validate n bs = 1).symm.trans prem8), rfl, by simp⟩)
theorem ef_rm_eqn_validate (m : MethodId) {A : Nat → Addr} (so : Addr) : entryFrame m #[(.ref (A 8)), (.ref so)] 3 = mkF m 0 #[rv (A 8), rv so, .unset] [] := by first | (simp [entryFrame, mkF, argsToLocals, Value.category]; done) | rfl
set_option maxRecDepth 65536 in
set_option maxHeartbeats 40000000 in
theorem rm_eqn_validate {l : Launch} {Z : State} {a0 : Array Value} {A : Nat → Addr} {KC : Nat → Cell} {IC : Nat → Int32} {VC : Nat → Value} (hw : ∀ d ∈ tables_1, d.before a0 Z = true) (G : own_Ctx Z A KC IC VC) (so : Addr) (sv : Addr) (kg : ClassId) (n : Int32) (bs : List Int32) (vq : Int32) (h0 : Heap) (O0 : Ext Z.heap h0) (prem0 : Exa Z h0 so "java/lang/String") (prem1 : Fld Z h0 so "java/lang/String" "value" "[B" (.ref sv)) (prem2 : Fld Z h0 so "java/lang/String" "coder" "B" (.int (0 : Int32))) (prem3 : Arv Z h0 sv kg .byte n (bs.map Value.int) (.int (0 : Int32))) (prem4 : own_eq_validate n bs = vq) :
    Ok l Z own_m17 jdk_42_method_66_code 3 (some .boolean) ({ frames := 1, cells := 0, slots := 0, locals := 14 } : Room) #[(.ref (A 8)), (.ref so)] h0
      (fun v h L => v = some (.int vq) ∧ (h = h0) ∧ (L = [])) := by
  refine Ok.mk pn18 ?_
  intro p e s m below meth c T0 hx hby hml hown hnm hret hlk hZ e0 X0
  refine Go.cast (ef_rm_eqn_validate m so) ?_
  obtain ⟨-, -, -, -, -, -, -, -, -, -, -, -, -, -, -, -, -, -, F_s_VALIDATE_name_coder, F_s_VALIDATE_name_value, S_COMPACT_STRINGS, hne_s_COMPACT_STRINGS_0, -, -, -, V_s_VALIDATE_name_value, -⟩ := id G
  have D := @hb _ _ hby
  have N0 := Fr.nil Z.heap.size
  have K0 : Keep h0 h0 [] := Keep.refl _ _
  refine Go.of (T' := T0) (f' := (mkF m 2 #[rv (A 8), rv so, .unset] [(.ref so), (.ref (A 8))])) (fun _ k => XS.aloadN X0.here hx rfl (D d4_0) rfl rfl (XS.aloadN X0.here hx rfl (D d4_1) rfl rfl k)) ?_
  by_cases hc345 : (A 8) = so
  · skip
    refine Go.of (T' := T0) (f' := (mkF m 6 #[rv (A 8), rv so, .unset] [(.int 1)])) (fun _ k => Jvm.RoadKit.acmp (g := (mkF m 2 #[rv (A 8), rv so, .unset] [(.ref so), (.ref (A 8))])) X0 hx rfl rfl rfl (pc0 := 2) (pc' := 5) (same := true) rfl (D d4_2) rfl (decide_eq_true (congrArg Value.ref hc345)) (by decide) (by decide) (XS.iconst X0.here hx rfl (D d4_5) k)) ?_
    exact Go.retB X0 hx hlk hret (by simp) (D d4_6) (by decide) (by decide) (z' := (1 : Int32)) rfl (by rw [e0]; exact ⟨congrArg (fun z => some (Value.int z)) ((own_idt_validate (Eq.symm hc345) prem1 (Fld.ext O0 F_s_VALIDATE_name_value) prem3 (Arv.ext V_s_VALIDATE_name_value O0) : own_eq_validate n bs = 1).symm.trans prem4), rfl, by simp⟩)
  · skip
    obtain ⟨T346, X346, e346, st346⟩ := instY X0 hx hZ hown (own_w hw (i := 34) rfl) e0 (Ins.self prem0) (g := (mkF m 8 #[rv (A 8), rv so, .unset] [(.ref so)])) rfl rfl (D d4_8)
    obtain ⟨T348, X348, e348, st348⟩ := castY X346 hx hZ hown (own_w hw (i := 34) rfl) e346 (Ins.self prem0) (g := (mkF m 15 #[rv (A 8), rv so, .unset] [(.ref so)])) rfl rfl (D d4_15)
    obtain ⟨T349, X349, e349, st349⟩ := getS2 X348 hx hZ hown (host := "") (Or.inl (own_w hw (i := 35) rfl)) Via.refl e348 (Sta.ext O0 S_COMPACT_STRINGS) (g := (mkF m 19 #[rv (A 8), rv so, rv so] [])) rfl (D d4_19)
    have hc350 : ¬ ((IC 0) = (0 : Int32)) := hne_s_COMPACT_STRINGS_0
    obtain ⟨T351, X351, e351, st351⟩ := getF X349 hx hZ hown (host := "") (Or.inl (own_w hw (i := 27) rfl)) Via.refl e349 (Fld.ext O0 F_s_VALIDATE_name_coder) (g := (mkF m 26 #[rv (A 8), rv so, rv so] [(.ref (A 8))])) rfl rfl (D d4_26)
    obtain ⟨T352, X352, e352, st352⟩ := getF X351 hx hZ hown (host := "") (Or.inl (own_w hw (i := 27) rfl)) Via.refl e351 prem2 (g := (mkF m 30 #[rv (A 8), rv so, rv so] [(.ref so), (.int 0)])) rfl rfl (D d4_30)
    obtain ⟨T354, X354, e354, st354⟩ := getF X352 hx hZ hown (host := "") (Or.inl (own_w hw (i := 26) rfl)) Via.refl e352 (Fld.ext O0 F_s_VALIDATE_name_value) (g := (mkF m 37 #[rv (A 8), rv so, rv so] [(.ref (A 8))])) rfl rfl (D d4_37)
    obtain ⟨T355, X355, e355, st355⟩ := getF X354 hx hZ hown (host := "") (Or.inl (own_w hw (i := 26) rfl)) Via.refl e354 prem1 (g := (mkF m 41 #[rv (A 8), rv so, rv so] [(.ref so), (.ref (A 9))])) rfl rfl (D d4_41)
    obtain ⟨T356, v356, L356, X356, q356, st356⟩ := callSt X355 hx hZ (y := own_m14) hown (own_w hw (i := 36) rfl) (own_w hw (i := 37) rfl) (own_w hw (i := 38) rfl) (own_w hw (i := 39) rfl) (by decide) (rm_l1n_validate hw G ((A 9)) sv kg ((KC 3).cls) n bs h0 O0 prem3 (Arv.ext V_s_VALIDATE_name_value O0)) e355 (W := 0) (by decide) (by decide) (by decide) (by decide) (g := (mkF m 44 #[rv (A 8), rv so, rv so] [(.ref sv), (.ref (A 9))])) rfl (by rw [hml]; rfl) (argsL := [(.ref (A 9)), (.ref sv)]) (rest := []) (lenOf pd16 rfl) rfl rfl (Nat.le_of_eq rfl) (D d4_44)
    obtain ⟨rfl, e356, rfl⟩ := q356
    have N356 := Fr.app N0 (Fr.nil _)
    refine Go.of (T' := T356) (f' := (mkF m 47 #[rv (A 8), rv so, rv so] [(.int (own_eq_validate n bs))])) (fun _ k => Jvm.RoadKit.acmp (g := (mkF m 2 #[rv (A 8), rv so, .unset] [(.ref so), (.ref (A 8))])) X0 hx rfl rfl rfl (pc0 := 2) (pc' := 7) (same := false) rfl (D d4_2) rfl (decide_eq_false fun q => hc345 (Value.ref.inj q)) (by decide) (by decide) (XS.aloadN X0.here hx rfl (D d4_7) rfl rfl (st346 _ (XS.ifNo X346.here hx rfl (D d4_11) rfl ((if0 _ _).trans (feq (by decide : ¬ ((1 : Int32) = (0 : Int32)))).1) (XS.aloadN X346.here hx rfl (D d4_14) rfl rfl (st348 _ (XS.astoreN X348.here hx rfl (D d4_18) rfl rfl (l' := #[rv (A 8), rv so, rv so]) rfl (st349 _ (XS.ifNo X349.here hx rfl (D d4_22) rfl ((if0 _ _).trans (feq hc350).1) (XS.aloadN X349.here hx rfl (D d4_25) rfl rfl (st351 _ (XS.aloadN X351.here hx rfl (D d4_29) rfl rfl (st352 _ (XS.icmpNo X352.here hx rfl (D d4_33) rfl (teq (by decide : (0 : Int32) = (0 : Int32))).2 (XS.aloadN X352.here hx rfl (D d4_36) rfl rfl (st354 _ (XS.aloadN X354.here hx rfl (D d4_40) rfl rfl (st355 _ (st356 _ k))))))))))))))))))) ?_
    by_cases hc357 : (own_eq_validate n bs) = (0 : Int32)
    · skip
      refine Go.of (T' := T356) (f' := (mkF m 55 #[rv (A 8), rv so, rv so] [(.int 0)])) (fun _ k => XS.ifYes X356.here hx rfl (pc0 := 47) (pc' := 54) rfl (D d4_47) rfl ((if0 _ _).trans (teq hc357).1) (by decide) (by decide) (XS.iconst X356.here hx rfl (D d4_54) k)) ?_
      exact Go.retB X356 hx hlk hret (by simp) (D d4_55) (by decide) (by decide) (z' := (0 : Int32)) rfl (by rw [e356]; exact ⟨congrArg (fun z => some (Value.int z)) ((hc357 : own_eq_validate n bs = 0).symm.trans prem4), rfl, by simp⟩)
    · skip
      refine Go.of (T' := T356) (f' := (mkF m 55 #[rv (A 8), rv so, rv so] [(.int 1)])) (fun _ k => XS.ifNo X356.here hx rfl (D d4_47) rfl ((if0 _ _).trans (feq hc357).1) (XS.iconst X356.here hx rfl (D d4_50) (XS.goto X356.here hx rfl (pc0 := 51) (pc' := 55) rfl (D d4_51) (by decide) (by decide) k))) ?_
      exact Go.retB X356 hx hlk hret (by simp) (D d4_55) (by decide) (by decide) (z' := (1 : Int32)) rfl (by rw [e356]; exact ⟨congrArg (fun z => some (Value.int z)) (((Classical.byContradiction fun q => hc357 (own_01_validate q)) : own_eq_validate n bs = 1).symm.trans prem4), rfl, by simp⟩)
theorem ef_rm_eqz_validate (m : MethodId) {A : Nat → Addr}  : entryFrame m #[(.ref (A 8)), .null] 3 = mkF m 0 #[rv (A 8), .val .null, .unset] [] := by first | (simp [entryFrame, mkF, argsToLocals, Value.category]; done) | rfl
set_option maxRecDepth 65536 in
set_option maxHeartbeats 40000000 in
theorem rm_eqz_validate {l : Launch} {Z : State} {a0 : Array Value} {A : Nat → Addr} {KC : Nat → Cell} {IC : Nat → Int32} {VC : Nat → Value} (hw : ∀ d ∈ tables_1, d.before a0 Z = true) (G : own_Ctx Z A KC IC VC)   (h0 : Heap) (O0 : Ext Z.heap h0)  :
    Ok l Z own_m17 jdk_42_method_66_code 3 (some .boolean) ({ frames := 0, cells := 0, slots := 0, locals := 0 } : Room) #[(.ref (A 8)), .null] h0
      (fun v h L => v = some (.int (0 : Int32)) ∧ (h = h0) ∧ (L = [])) := by
  refine Ok.mk pn18 ?_
  intro p e s m below meth c T0 hx hby hml hown hnm hret hlk hZ e0 X0
  refine Go.cast (ef_rm_eqz_validate m ) ?_
  have D := @hb _ _ hby
  have N0 := Fr.nil Z.heap.size
  have K0 : Keep h0 h0 [] := Keep.refl _ _
  refine Go.of (T' := T0) (f' := (mkF m 55 #[rv (A 8), .val .null, .unset] [(.int 0)])) (fun _ k => XS.aloadN X0.here hx rfl (D d4_0) rfl rfl (XS.aloadN X0.here hx rfl (D d4_1) rfl rfl (Jvm.RoadKit.acmp (g := (mkF m 2 #[rv (A 8), .val .null, .unset] [.null, (.ref (A 8))])) X0 hx rfl rfl rfl (pc0 := 2) (pc' := 7) (same := false) rfl (D d4_2) rfl (decide_eq_false nofun) (by decide) (by decide) (XS.aloadN X0.here hx rfl (D d4_7) rfl rfl (X0.instanceofNull hx (g := (mkF m 8 #[rv (A 8), .val .null, .unset] [.null])) rfl rfl (D d4_8) _ (XS.ifYes X0.here hx rfl (pc0 := 11) (pc' := 54) rfl (D d4_11) rfl ((if0 _ _).trans (teq (by decide : (0 : Int32) = (0 : Int32))).1) (by decide) (by decide) (XS.iconst X0.here hx rfl (D d4_54) k))))))) ?_
  exact Go.retB X0 hx hlk hret (by simp) (D d4_55) (by decide) (by decide) (z' := (0 : Int32)) rfl (by rw [e0]; exact ⟨rfl, rfl, by simp⟩)
theorem d10_0 : decode jdk_42_method_152_code 0 = .ok (.getstatic 38, 3) := by decide +kernel
theorem d10_3 : decode jdk_42_method_152_code 3 = .ok (.ifCond .eq 10, 3) := by decide +kernel
theorem d10_6 : decode jdk_42_method_152_code 6 = .ok (.aload_n 0, 1) := by decide +kernel
theorem d10_7 : decode jdk_42_method_152_code 7 = .ok (.getfield 15, 3) := by decide +kernel
theorem d10_10 : decode jdk_42_method_152_code 10 = .ok (.goto 4, 3) := by decide +kernel
theorem d10_14 : decode jdk_42_method_152_code 14 = .ok (.ireturn, 1) := by decide +kernel
abbrev own_m19 : MethodName := (⟨"java/lang/String", "coder", "()B"⟩ : MethodName)
theorem ef_rm_coder (m : MethodId) (so : Addr) : entryFrame m #[(.ref so)] 1 = mkF m 0 #[rv so] [] := by first | (simp [entryFrame, mkF, argsToLocals, Value.category]; done) | rfl
theorem pn20 : plainFor (⟨"java/lang/String", "coder", "()B"⟩ : MethodName) = true := by first | exact plainFor_of_name (by first | (simp [plainName, overriddenIn]; done) | decide +kernel) | decide +kernel
set_option maxRecDepth 65536 in
set_option maxHeartbeats 40000000 in
theorem rm_coder {l : Launch} {Z : State} {a0 : Array Value} {A : Nat → Addr} {KC : Nat → Cell} {IC : Nat → Int32} {VC : Nat → Value} (hw : ∀ d ∈ tables_1, d.before a0 Z = true) (G : own_Ctx Z A KC IC VC) (so : Addr)  (h0 : Heap) (O0 : Ext Z.heap h0) (prem0 : Fld Z h0 so "java/lang/String" "coder" "B" (.int (0 : Int32))) :
    Ok l Z own_m19 jdk_42_method_152_code 1 (some .byte) ({ frames := 0, cells := 0, slots := 0, locals := 0 } : Room) #[(.ref so)] h0
      (fun v h L => v = some (.int (0 : Int32)) ∧ (h = h0) ∧ (L = [])) := by
  refine Ok.mk pn20 ?_
  intro p e s m below meth c T0 hx hby hml hown hnm hret hlk hZ e0 X0
  refine Go.cast (ef_rm_coder m so) ?_
  obtain ⟨-, -, -, -, -, -, -, -, -, -, -, -, -, -, -, -, -, -, -, -, S_COMPACT_STRINGS, hne_s_COMPACT_STRINGS_0, -⟩ := id G
  have D := @hb _ _ hby
  have N0 := Fr.nil Z.heap.size
  have K0 : Keep h0 h0 [] := Keep.refl _ _
  obtain ⟨T361, X361, e361, st361⟩ := getS2 X0 hx hZ hown (host := "") (Or.inl (own_w hw (i := 35) rfl)) Via.refl e0 (Sta.ext O0 S_COMPACT_STRINGS) (g := (mkF m 0 #[rv so] [])) rfl (D d10_0)
  have hc362 : ¬ ((IC 0) = (0 : Int32)) := hne_s_COMPACT_STRINGS_0
  obtain ⟨T363, X363, e363, st363⟩ := getF X361 hx hZ hown (host := "") (Or.inl (own_w hw (i := 27) rfl)) Via.refl e361 prem0 (g := (mkF m 7 #[rv so] [(.ref so)])) rfl rfl (D d10_7)
  refine Go.of (T' := T363) (f' := (mkF m 14 #[rv so] [(.int 0)])) (fun _ k => st361 _ (XS.ifNo X361.here hx rfl (D d10_3) rfl ((if0 _ _).trans (feq hc362).1) (XS.aloadN X361.here hx rfl (D d10_6) rfl rfl (st363 _ (XS.goto X363.here hx rfl (pc0 := 10) (pc' := 14) rfl (D d10_10) (by decide) (by decide) k))))) ?_
  exact Go.retB X363 hx hlk hret (by simp) (D d10_14) (by decide) (by decide) (z' := (0 : Int32)) rfl (by rw [e363]; exact ⟨rfl, rfl, by simp⟩)
theorem d12_0 : decode jdk_42_method_154_code 0 = .ok (.getstatic 38, 3) := by decide +kernel
theorem d12_3 : decode jdk_42_method_154_code 3 = .ok (.ifCond .eq 14, 3) := by decide +kernel
theorem d12_6 : decode jdk_42_method_154_code 6 = .ok (.aload_n 0, 1) := by decide +kernel
theorem d12_7 : decode jdk_42_method_154_code 7 = .ok (.getfield 15, 3) := by decide +kernel
theorem d12_10 : decode jdk_42_method_154_code 10 = .ok (.ifCond .ne 7, 3) := by decide +kernel
theorem d12_13 : decode jdk_42_method_154_code 13 = .ok (.iconst 1, 1) := by decide +kernel
theorem d12_14 : decode jdk_42_method_154_code 14 = .ok (.goto 4, 3) := by decide +kernel
theorem d12_18 : decode jdk_42_method_154_code 18 = .ok (.ireturn, 1) := by decide +kernel
abbrev own_m21 : MethodName := (⟨"java/lang/String", "isLatin1", "()Z"⟩ : MethodName)
theorem ef_rm_lat (m : MethodId) (so : Addr) : entryFrame m #[(.ref so)] 1 = mkF m 0 #[rv so] [] := by first | (simp [entryFrame, mkF, argsToLocals, Value.category]; done) | rfl
theorem pn22 : plainFor (⟨"java/lang/String", "isLatin1", "()Z"⟩ : MethodName) = true := by first | exact plainFor_of_name (by first | (simp [plainName, overriddenIn]; done) | decide +kernel) | decide +kernel
set_option maxRecDepth 65536 in
set_option maxHeartbeats 40000000 in
theorem rm_lat {l : Launch} {Z : State} {a0 : Array Value} {A : Nat → Addr} {KC : Nat → Cell} {IC : Nat → Int32} {VC : Nat → Value} (hw : ∀ d ∈ tables_1, d.before a0 Z = true) (G : own_Ctx Z A KC IC VC) (so : Addr)  (h0 : Heap) (O0 : Ext Z.heap h0) (prem0 : Fld Z h0 so "java/lang/String" "coder" "B" (.int (0 : Int32))) :
    Ok l Z own_m21 jdk_42_method_154_code 1 (some .boolean) ({ frames := 0, cells := 0, slots := 0, locals := 0 } : Room) #[(.ref so)] h0
      (fun v h L => v = some (.int (1 : Int32)) ∧ (h = h0) ∧ (L = [])) := by
  refine Ok.mk pn22 ?_
  intro p e s m below meth c T0 hx hby hml hown hnm hret hlk hZ e0 X0
  refine Go.cast (ef_rm_lat m so) ?_
  obtain ⟨-, -, -, -, -, -, -, -, -, -, -, -, -, -, -, -, -, -, -, -, S_COMPACT_STRINGS, hne_s_COMPACT_STRINGS_0, -⟩ := id G
  have D := @hb _ _ hby
  have N0 := Fr.nil Z.heap.size
  have K0 : Keep h0 h0 [] := Keep.refl _ _
  obtain ⟨T364, X364, e364, st364⟩ := getS2 X0 hx hZ hown (host := "") (Or.inl (own_w hw (i := 35) rfl)) Via.refl e0 (Sta.ext O0 S_COMPACT_STRINGS) (g := (mkF m 0 #[rv so] [])) rfl (D d12_0)
  have hc365 : ¬ ((IC 0) = (0 : Int32)) := hne_s_COMPACT_STRINGS_0
  obtain ⟨T366, X366, e366, st366⟩ := getF X364 hx hZ hown (host := "") (Or.inl (own_w hw (i := 27) rfl)) Via.refl e364 prem0 (g := (mkF m 7 #[rv so] [(.ref so)])) rfl rfl (D d12_7)
  refine Go.of (T' := T366) (f' := (mkF m 18 #[rv so] [(.int 1)])) (fun _ k => st364 _ (XS.ifNo X364.here hx rfl (D d12_3) rfl ((if0 _ _).trans (feq hc365).1) (XS.aloadN X364.here hx rfl (D d12_6) rfl rfl (st366 _ (XS.ifNo X366.here hx rfl (D d12_10) rfl ((if0 _ _).trans (teq (by decide : (0 : Int32) = (0 : Int32))).2) (XS.iconst X366.here hx rfl (D d12_13) (XS.goto X366.here hx rfl (pc0 := 14) (pc' := 18) rfl (D d12_14) (by decide) (by decide) k))))))) ?_
  exact Go.retB X366 hx hlk hret (by simp) (D d12_18) (by decide) (by decide) (z' := (1 : Int32)) rfl (by rw [e366]; exact ⟨rfl, rfl, by simp⟩)
theorem d15_0 : decode jdk_41_method_11_code 0 = .ok (.iload_n 0, 1) := by decide +kernel
theorem d15_1 : decode jdk_41_method_11_code 1 = .ok (.ifCond .lt 8, 3) := by decide +kernel
theorem d15_4 : decode jdk_41_method_11_code 4 = .ok (.iload_n 0, 1) := by decide +kernel
theorem d15_5 : decode jdk_41_method_11_code 5 = .ok (.iload_n 1, 1) := by decide +kernel
theorem d15_6 : decode jdk_41_method_11_code 6 = .ok (.if_icmp .lt 10, 3) := by decide +kernel
theorem d15_16 : decode jdk_41_method_11_code 16 = .ok (.iload_n 0, 1) := by decide +kernel
theorem d15_17 : decode jdk_41_method_11_code 17 = .ok (.ireturn, 1) := by decide +kernel
abbrev own_m23 : MethodName := (⟨"jdk/internal/util/Preconditions", "checkIndex", "(IILjava/util/function/BiFunction;)I"⟩ : MethodName)
theorem ef_rm_pcir (m : MethodId) (i : Int32) (n : Int32) (fa : Addr) : entryFrame m #[(.int i), (.int n), (.ref fa)] 3 = mkF m 0 #[iv i, iv n, rv fa] [] := by first | (simp [entryFrame, mkF, argsToLocals, Value.category]; done) | rfl
theorem pn24 : plainFor (⟨"jdk/internal/util/Preconditions", "checkIndex", "(IILjava/util/function/BiFunction;)I"⟩ : MethodName) = true := by first | exact plainFor_of_name (by first | (simp [plainName, overriddenIn]; done) | decide +kernel) | decide +kernel
set_option maxRecDepth 65536 in
set_option maxHeartbeats 40000000 in
theorem rm_pcir {l : Launch} {Z : State} {a0 : Array Value} {A : Nat → Addr} {KC : Nat → Cell} {IC : Nat → Int32} {VC : Nat → Value} (hw : ∀ d ∈ tables_1, d.before a0 Z = true) (G : own_Ctx Z A KC IC VC) (i : Int32) (n : Int32) (fa : Addr)  (h0 : Heap) (O0 : Ext Z.heap h0) (prem0 : ¬ (i < (0 : Int32))) (prem1 : i < n) :
    Ok l Z own_m23 jdk_41_method_11_code 3 (some .int) ({ frames := 0, cells := 0, slots := 0, locals := 0 } : Room) #[(.int i), (.int n), (.ref fa)] h0
      (fun v h L => v = some (.int i) ∧ (h = h0) ∧ (L = [])) := by
  refine Ok.mk pn24 ?_
  intro p e s m below meth c T0 hx hby hml hown hnm hret hlk hZ e0 X0
  refine Go.cast (ef_rm_pcir m i n fa) ?_
  have D := @hb _ _ hby
  have N0 := Fr.nil Z.heap.size
  have K0 : Keep h0 h0 [] := Keep.refl _ _
  have hc368 : ¬ (i < (0 : Int32)) := prem0
  have hc369 : i < n := prem1
  refine Go.of (T' := T0) (f' := (mkF m 17 #[iv i, iv n, rv fa] [(.int i)])) (fun _ k => XS.iloadN X0.here hx rfl (D d15_0) rfl (XS.ifNo X0.here hx rfl (D d15_1) rfl ((if0 _ _).trans (flt hc368).1) (XS.iloadN X0.here hx rfl (D d15_4) rfl (XS.iloadN X0.here hx rfl (D d15_5) rfl (XS.icmpYes X0.here hx rfl (pc0 := 6) (pc' := 16) rfl (D d15_6) rfl (tlt hc369).1 (by decide) (by decide) (XS.iloadN X0.here hx rfl (D d15_16) rfl k)))))) ?_
  exact Go.retI X0 hx hlk hret (D d15_17) (by decide) (by decide) (by rw [e0]; exact ⟨rfl, rfl, by simp⟩)
theorem ef_rm_pcin (m : MethodId) (i : Int32) (n : Int32) : entryFrame m #[(.int i), (.int n), .null] 3 = mkF m 0 #[iv i, iv n, .val .null] [] := by first | (simp [entryFrame, mkF, argsToLocals, Value.category]; done) | rfl
set_option maxRecDepth 65536 in
set_option maxHeartbeats 40000000 in
theorem rm_pcin {l : Launch} {Z : State} {a0 : Array Value} {A : Nat → Addr} {KC : Nat → Cell} {IC : Nat → Int32} {VC : Nat → Value} (hw : ∀ d ∈ tables_1, d.before a0 Z = true) (G : own_Ctx Z A KC IC VC) (i : Int32) (n : Int32)  (h0 : Heap) (O0 : Ext Z.heap h0) (prem0 : ¬ (i < (0 : Int32))) (prem1 : i < n) :
    Ok l Z own_m23 jdk_41_method_11_code 3 (some .int) ({ frames := 0, cells := 0, slots := 0, locals := 0 } : Room) #[(.int i), (.int n), .null] h0
      (fun v h L => v = some (.int i) ∧ (h = h0) ∧ (L = [])) := by
  refine Ok.mk pn24 ?_
  intro p e s m below meth c T0 hx hby hml hown hnm hret hlk hZ e0 X0
  refine Go.cast (ef_rm_pcin m i n) ?_
  have D := @hb _ _ hby
  have N0 := Fr.nil Z.heap.size
  have K0 : Keep h0 h0 [] := Keep.refl _ _
  have hc370 : ¬ (i < (0 : Int32)) := prem0
  have hc371 : i < n := prem1
  refine Go.of (T' := T0) (f' := (mkF m 17 #[iv i, iv n, .val .null] [(.int i)])) (fun _ k => XS.iloadN X0.here hx rfl (D d15_0) rfl (XS.ifNo X0.here hx rfl (D d15_1) rfl ((if0 _ _).trans (flt hc370).1) (XS.iloadN X0.here hx rfl (D d15_4) rfl (XS.iloadN X0.here hx rfl (D d15_5) rfl (XS.icmpYes X0.here hx rfl (pc0 := 6) (pc' := 16) rfl (D d15_6) rfl (tlt hc371).1 (by decide) (by decide) (XS.iloadN X0.here hx rfl (D d15_16) rfl k)))))) ?_
  exact Go.retI X0 hx hlk hret (D d15_17) (by decide) (by decide) (by rw [e0]; exact ⟨rfl, rfl, by simp⟩)
theorem d14_0 : decode jdk_42_method_155_code 0 = .ok (.iload_n 0, 1) := by decide +kernel
theorem d14_1 : decode jdk_42_method_155_code 1 = .ok (.iload_n 1, 1) := by decide +kernel
theorem d14_2 : decode jdk_42_method_155_code 2 = .ok (.getstatic 1053, 3) := by decide +kernel
theorem d14_5 : decode jdk_42_method_155_code 5 = .ok (.invokestatic 1059, 3) := by decide +kernel
theorem pd25 : parseMethodDescriptor "(IILjava/util/function/BiFunction;)I" = some ⟨[.int, .int, (.object "java/util/function/BiFunction")], some .int⟩ := by decide +kernel
theorem d14_8 : decode jdk_42_method_155_code 8 = .ok (.pop, 1) := by decide +kernel
theorem d14_9 : decode jdk_42_method_155_code 9 = .ok (.return_, 1) := by decide +kernel
abbrev own_m26 : MethodName := (⟨"java/lang/String", "checkIndex", "(II)V"⟩ : MethodName)
theorem ef_rm_sci (m : MethodId) (i : Int32) (n : Int32) : entryFrame m #[(.int i), (.int n)] 2 = mkF m 0 #[iv i, iv n] [] := by first | (simp [entryFrame, mkF, argsToLocals, Value.category]; done) | rfl
theorem pn27 : plainFor (⟨"java/lang/String", "checkIndex", "(II)V"⟩ : MethodName) = true := by first | exact plainFor_of_name (by first | (simp [plainName, overriddenIn]; done) | decide +kernel) | decide +kernel
set_option maxRecDepth 65536 in
set_option maxHeartbeats 40000000 in
theorem rm_sci {l : Launch} {Z : State} {a0 : Array Value} {A : Nat → Addr} {KC : Nat → Cell} {IC : Nat → Int32} {VC : Nat → Value} (hw : ∀ d ∈ tables_1, d.before a0 Z = true) (G : own_Ctx Z A KC IC VC) (i : Int32) (n : Int32)  (h0 : Heap) (O0 : Ext Z.heap h0) (prem0 : ¬ (i < (0 : Int32))) (prem1 : i < n) :
    Ok l Z own_m26 jdk_42_method_155_code 2 none ({ frames := 1, cells := 0, slots := 0, locals := 14 } : Room) #[(.int i), (.int n)] h0
      (fun v h L => v = none ∧ (h = h0) ∧ (L = [])) := by
  refine Ok.mk pn27 ?_
  intro p e s m below meth c T0 hx hby hml hown hnm hret hlk hZ e0 X0
  refine Go.cast (ef_rm_sci m i n) ?_
  obtain ⟨-, -, -, -, -, -, -, -, -, -, -, -, -, -, -, -, -, -, -, -, -, -, -, -, -, -, S_SIO, R_SIO⟩ := id G
  have D := @hb _ _ hby
  have N0 := Fr.nil Z.heap.size
  have K0 : Keep h0 h0 [] := Keep.refl _ _
  rcases R_SIO with hF | ⟨fa, hF⟩
  · rw [hF] at S_SIO
    obtain ⟨T372, X372, e372, st372⟩ := getS2 X0 hx hZ hown (host := "") (Or.inl (own_w hw (i := 96) rfl)) Via.refl e0 (Sta.ext O0 S_SIO) (g := (mkF m 2 #[iv i, iv n] [(.int n), (.int i)])) rfl (D d14_2)
    obtain ⟨T373, v373, L373, X373, q373, st373⟩ := callSt X372 hx hZ (y := own_m23) hown (own_w hw (i := 98) rfl) (own_w hw (i := 99) rfl) (own_w hw (i := 97) rfl) (own_w hw (i := 100) rfl) (by decide) (rm_pcin hw G i n  h0 O0 (prem0) (prem1)) e372 (W := 0) (by decide) (by decide) (by decide) (by decide) (g := (mkF m 5 #[iv i, iv n] [.null, (.int n), (.int i)])) rfl (by rw [hml]; rfl) (argsL := [(.int i), (.int n), .null]) (rest := []) (lenOf pd25 rfl) rfl rfl (Nat.le_of_eq rfl) (D d14_5)
    obtain ⟨rfl, e373, rfl⟩ := q373
    have N373 := Fr.app N0 (Fr.nil _)
    refine Go.of (T' := T373) (f' := (mkF m 9 #[iv i, iv n] [])) (fun _ k => XS.iloadN X0.here hx rfl (D d14_0) rfl (XS.iloadN X0.here hx rfl (D d14_1) rfl (st372 _ (st373 _ (XT.pop X373.here hx rfl (D d14_8) rfl rfl k))))) ?_
    exact Go.retV X373 hx hlk hret (D d14_9) (by decide) (by decide) (by rw [e373]; exact ⟨rfl, rfl, by simp⟩)
  · rw [hF] at S_SIO
    obtain ⟨T374, X374, e374, st374⟩ := getS2 X0 hx hZ hown (host := "") (Or.inl (own_w hw (i := 96) rfl)) Via.refl e0 (Sta.ext O0 S_SIO) (g := (mkF m 2 #[iv i, iv n] [(.int n), (.int i)])) rfl (D d14_2)
    obtain ⟨T375, v375, L375, X375, q375, st375⟩ := callSt X374 hx hZ (y := own_m23) hown (own_w hw (i := 98) rfl) (own_w hw (i := 99) rfl) (own_w hw (i := 97) rfl) (own_w hw (i := 100) rfl) (by decide) (rm_pcir hw G i n fa  h0 O0 (prem0) (prem1)) e374 (W := 0) (by decide) (by decide) (by decide) (by decide) (g := (mkF m 5 #[iv i, iv n] [(.ref fa), (.int n), (.int i)])) rfl (by rw [hml]; rfl) (argsL := [(.int i), (.int n), (.ref fa)]) (rest := []) (lenOf pd25 rfl) rfl rfl (Nat.le_of_eq rfl) (D d14_5)
    obtain ⟨rfl, e375, rfl⟩ := q375
    have N375 := Fr.app N0 (Fr.nil _)
    refine Go.of (T' := T375) (f' := (mkF m 9 #[iv i, iv n] [])) (fun _ k => XS.iloadN X0.here hx rfl (D d14_0) rfl (XS.iloadN X0.here hx rfl (D d14_1) rfl (st374 _ (st375 _ (XT.pop X375.here hx rfl (D d14_8) rfl rfl k))))) ?_
    exact Go.retV X375 hx hlk hret (D d14_9) (by decide) (by decide) (by rw [e375]; exact ⟨rfl, rfl, by simp⟩)
theorem d13_0 : decode jdk_43_method_2_code 0 = .ok (.iload_n 1, 1) := by decide +kernel
theorem d13_1 : decode jdk_43_method_2_code 1 = .ok (.aload_n 0, 1) := by decide +kernel
theorem d13_2 : decode jdk_43_method_2_code 2 = .ok (.arraylength, 1) := by decide +kernel
theorem d13_3 : decode jdk_43_method_2_code 3 = .ok (.invokestatic 9, 3) := by decide +kernel
theorem pd28 : parseMethodDescriptor "(II)V" = some ⟨[.int, .int], none⟩ := by decide +kernel
theorem d13_6 : decode jdk_43_method_2_code 6 = .ok (.aload_n 0, 1) := by decide +kernel
theorem d13_7 : decode jdk_43_method_2_code 7 = .ok (.iload_n 1, 1) := by decide +kernel
theorem d13_8 : decode jdk_43_method_2_code 8 = .ok (.baload, 1) := by decide +kernel
theorem d13_9 : decode jdk_43_method_2_code 9 = .ok (.sipush 255, 3) := by decide +kernel
theorem d13_12 : decode jdk_43_method_2_code 12 = .ok (.iand, 1) := by decide +kernel
theorem d13_13 : decode jdk_43_method_2_code 13 = .ok (.i2c, 1) := by decide +kernel
theorem d13_14 : decode jdk_43_method_2_code 14 = .ok (.ireturn, 1) := by decide +kernel
abbrev own_m29 : MethodName := (⟨"java/lang/StringLatin1", "charAt", "([BI)C"⟩ : MethodName)
theorem ef_rm_l1c (m : MethodId) (sv : Addr) (i : Int32) : entryFrame m #[(.ref sv), (.int i)] 2 = mkF m 0 #[rv sv, iv i] [] := by first | (simp [entryFrame, mkF, argsToLocals, Value.category]; done) | rfl
theorem pn30 : plainFor (⟨"java/lang/StringLatin1", "charAt", "([BI)C"⟩ : MethodName) = true := by first | exact plainFor_of_name (by first | (simp [plainName, overriddenIn]; done) | decide +kernel) | decide +kernel
set_option maxRecDepth 65536 in
set_option maxHeartbeats 40000000 in
theorem rm_l1c {l : Launch} {Z : State} {a0 : Array Value} {A : Nat → Addr} {KC : Nat → Cell} {IC : Nat → Int32} {VC : Nat → Value} (hw : ∀ d ∈ tables_1, d.before a0 Z = true) (G : own_Ctx Z A KC IC VC) (sv : Addr) (i : Int32) (kv : ClassId) (n : Int32) (bs : List Int32) (h0 : Heap) (O0 : Ext Z.heap h0) (prem0 : ¬ (i < (0 : Int32))) (prem1 : i < n) (prem2 : Arv Z h0 sv kv .byte n (bs.map Value.int) (.int (0 : Int32))) :
    Ok l Z own_m29 jdk_43_method_2_code 2 (some .char) ({ frames := 2, cells := 0, slots := 0, locals := 27 } : Room) #[(.ref sv), (.int i)] h0
      (fun v h L => ∃ r : Int32, v = some (.int (r &&& (255 : Int32))) ∧ (h = h0) ∧ (L = [])) := by
  refine Ok.mk pn30 ?_
  intro p e s m below meth c T0 hx hby hml hown hnm hret hlk hZ e0 X0
  refine Go.cast (ef_rm_l1c m sv i) ?_
  have D := @hb _ _ hby
  have N0 := Fr.nil Z.heap.size
  have K0 : Keep h0 h0 [] := Keep.refl _ _
  obtain ⟨cl376, Ar376, qk376, S376, Ng376, H376, G376⟩ := id prem2
  obtain ⟨T377, v377, L377, X377, q377, st377⟩ := callSt X0 hx hZ (y := own_m26) hown (own_w hw (i := 93) rfl) (own_w hw (i := 94) rfl) (own_w hw (i := 9) rfl) (own_w hw (i := 95) rfl) (by decide) (rm_sci hw G i n  h0 O0 (prem0) (prem1)) e0 (W := 0) (by decide) (by decide) (by decide) (by decide) (g := (mkF m 3 #[rv sv, iv i] [(.int n), (.int i)])) rfl (by rw [hml]; rfl) (argsL := [(.int i), (.int n)]) (rest := []) (lenOf pd28 rfl) rfl rfl (Nat.le_of_eq rfl) (D d13_3)
  obtain ⟨rfl, e377, rfl⟩ := q377
  have N377 := Fr.app N0 (Fr.nil _)
  obtain ⟨cl378, Ar378, qk378, S378, Ng378, H378, G378⟩ := id prem2
  have hin378 := inb_of (j := i) S378 ⟨prem0, prem1⟩
  refine Go.of (T' := T377) (f' := (mkF m 14 #[rv sv, iv i] [(.int (((bs.getD i.toNatClampNeg 0) &&& 255).toUInt32.toUInt16.toUInt32.toInt32))])) (fun _ k => XS.iloadN X0.here hx rfl (D d13_0) rfl (XS.aloadN X0.here hx rfl (D d13_1) rfl rfl (X0.arraylength hx (by rw [e0]; exact Ar376.1) (State.isArrayOf_alike hZ.alike Ar376.2.1) (g := (mkF m 2 #[rv sv, iv i] [(.ref sv), (.int i)])) rfl rfl (D d13_2) _ (by rw [len_of S376 Ng376]; exact (st377 _ (XS.aloadN X377.here hx rfl (D d13_6) rfl rfl (XS.iloadN X377.here hx rfl (D d13_7) rfl (X377.baloadBytes hx (j := i) (v := (.int (bs.getD i.toNatClampNeg 0))) (by rw [e377]; exact Ar378.1) (State.isArrayOf_alike hZ.alike Ar378.2.1) Ar378.2.2 hin378 (H378.at hin378 (own_mg bs _)) (g := (mkF m 8 #[rv sv, iv i] [(.int i), (.ref sv)])) rfl rfl (D d13_8) _ (XS.sipush X377.here hx rfl (D d13_9) (XS.iand X377.here hx rfl (D d13_12) rfl (XS.i2c X377.here hx rfl (D d13_13) rfl k))))))))))) ?_
  exact Go.retB X377 hx hlk hret (by simp) (D d13_14) (by decide) (by decide) (z' := ((bs.getD i.toNatClampNeg 0) &&& 255)) (own_c255 _) (by rw [e377]; exact ⟨(bs.getD i.toNatClampNeg 0), rfl, rfl, by simp⟩)
theorem d11_0 : decode jdk_42_method_56_code 0 = .ok (.aload_n 0, 1) := by decide +kernel
theorem d11_1 : decode jdk_42_method_56_code 1 = .ok (.invokevirtual 492, 3) := by decide +kernel
theorem pd31 : parseMethodDescriptor "()Z" = some ⟨[], some .boolean⟩ := by decide +kernel
theorem d11_4 : decode jdk_42_method_56_code 4 = .ok (.ifCond .eq 12, 3) := by decide +kernel
theorem d11_7 : decode jdk_42_method_56_code 7 = .ok (.aload_n 0, 1) := by decide +kernel
theorem d11_8 : decode jdk_42_method_56_code 8 = .ok (.getfield 9, 3) := by decide +kernel
theorem d11_11 : decode jdk_42_method_56_code 11 = .ok (.iload_n 1, 1) := by decide +kernel
theorem d11_12 : decode jdk_42_method_56_code 12 = .ok (.invokestatic 495, 3) := by decide +kernel
theorem pd32 : parseMethodDescriptor "([BI)C" = some ⟨[(.array .byte), .int], some .char⟩ := by decide +kernel
theorem d11_15 : decode jdk_42_method_56_code 15 = .ok (.ireturn, 1) := by decide +kernel
abbrev own_m33 : MethodName := (⟨"java/lang/String", "charAt", "(I)C"⟩ : MethodName)
theorem ef_rm_ch (m : MethodId) (so : Addr) (i : Int32) : entryFrame m #[(.ref so), (.int i)] 2 = mkF m 0 #[rv so, iv i] [] := by first | (simp [entryFrame, mkF, argsToLocals, Value.category]; done) | rfl
theorem pn34 : plainFor (⟨"java/lang/String", "charAt", "(I)C"⟩ : MethodName) = true := by first | exact plainFor_of_name (by first | (simp [plainName, overriddenIn]; done) | decide +kernel) | decide +kernel
set_option maxRecDepth 65536 in
set_option maxHeartbeats 40000000 in
theorem rm_ch {l : Launch} {Z : State} {a0 : Array Value} {A : Nat → Addr} {KC : Nat → Cell} {IC : Nat → Int32} {VC : Nat → Value} (hw : ∀ d ∈ tables_1, d.before a0 Z = true) (G : own_Ctx Z A KC IC VC) (so : Addr) (i : Int32) (sv : Addr) (kv : ClassId) (n : Int32) (bs : List Int32) (h0 : Heap) (O0 : Ext Z.heap h0) (prem0 : ¬ (i < (0 : Int32))) (prem1 : i < n) (prem2 : Exa Z h0 so "java/lang/String") (prem3 : Fld Z h0 so "java/lang/String" "value" "[B" (.ref sv)) (prem4 : Fld Z h0 so "java/lang/String" "coder" "B" (.int (0 : Int32))) (prem5 : Arv Z h0 sv kv .byte n (bs.map Value.int) (.int (0 : Int32))) :
    Ok l Z own_m33 jdk_42_method_56_code 2 (some .char) ({ frames := 3, cells := 0, slots := 0, locals := 40 } : Room) #[(.ref so), (.int i)] h0
      (fun v h L => ∃ r : Int32, v = some (.int (r &&& (255 : Int32))) ∧ (h = h0) ∧ (L = [])) := by
  refine Ok.mk pn34 ?_
  intro p e s m below meth c T0 hx hby hml hown hnm hret hlk hZ e0 X0
  refine Go.cast (ef_rm_ch m so i) ?_
  have D := @hb _ _ hby
  have N0 := Fr.nil Z.heap.size
  have K0 : Keep h0 h0 [] := Keep.refl _ _
  obtain ⟨T379, v379, L379, X379, q379, st379⟩ := callVi X0 hx hZ (y := own_m21) (z := own_m21) hown (own_w hw (i := 85) rfl) (own_w hw (i := 86) rfl) (notFace_of_selects (args := #[]) (mvT hZ (own_w hw (i := 88) rfl))) (own_w hw (i := 88) rfl) (own_w hw (i := 87) rfl) (own_w hw (i := 89) rfl) (own_w hw (i := 9) rfl) (by decide) (rm_lat hw G so  h0 O0 prem4) e0 (W := 0) (by decide) (by decide) (by decide) (by decide) prem2 (g := (mkF m 1 #[rv so, iv i] [(.ref so)])) rfl (by rw [hml]; rfl) (argsL := []) (rest := []) (lenOf pd31 rfl) rfl rfl (Nat.le_of_eq rfl) (D d11_1)
  obtain ⟨rfl, e379, rfl⟩ := q379
  have N379 := Fr.app N0 (Fr.nil _)
  obtain ⟨T381, X381, e381, st381⟩ := getF X379 hx hZ hown (host := "") (Or.inl (own_w hw (i := 26) rfl)) Via.refl e379 prem3 (g := (mkF m 8 #[rv so, iv i] [(.ref so)])) rfl rfl (D d11_8)
  obtain ⟨T382, v382, L382, X382, q382, st382⟩ := callSt X381 hx hZ (y := own_m29) hown (own_w hw (i := 90) rfl) (own_w hw (i := 91) rfl) (own_w hw (i := 38) rfl) (own_w hw (i := 92) rfl) (by decide) (rm_l1c hw G sv i kv n bs h0 O0 (prem0) (prem1) prem5) e381 (W := 0) (by decide) (by decide) (by decide) (by decide) (g := (mkF m 12 #[rv so, iv i] [(.int i), (.ref sv)])) rfl (by rw [hml]; rfl) (argsL := [(.ref sv), (.int i)]) (rest := []) (lenOf pd32 rfl) rfl rfl (Nat.le_of_eq rfl) (D d11_12)
  obtain ⟨r_382, rfl, e382, rfl⟩ := q382
  have N382 := Fr.app N379 (Fr.nil _)
  refine Go.of (T' := T382) (f' := (mkF m 15 #[rv so, iv i] [(.int (r_382 &&& 255))])) (fun _ k => XS.aloadN X0.here hx rfl (D d11_0) rfl rfl (st379 _ (XS.ifNo X379.here hx rfl (D d11_4) rfl ((if0 _ _).trans (feq (by decide : ¬ ((1 : Int32) = (0 : Int32)))).1) (XS.aloadN X379.here hx rfl (D d11_7) rfl rfl (st381 _ (XS.iloadN X381.here hx rfl (D d11_11) rfl (st382 _ k))))))) ?_
  exact Go.retB X382 hx hlk hret (by simp) (D d11_15) (by decide) (by decide) (z' := (r_382 &&& 255)) (i2c_mask _) (by rw [e382]; exact ⟨r_382, rfl, rfl, by simp⟩)
theorem own_shr0 (n : Int32) (h : ¬ n < 0) : n >>> ((0 : Int32) &&& 31) = n := by
  rw [← Int32.toInt_inj, c_ishr n 0 0 (by decide)]
  simp
theorem d9_0 : decode jdk_42_method_54_code 0 = .ok (.aload_n 0, 1) := by decide +kernel
theorem d9_1 : decode jdk_42_method_54_code 1 = .ok (.getfield 9, 3) := by decide +kernel
theorem d9_4 : decode jdk_42_method_54_code 4 = .ok (.arraylength, 1) := by decide +kernel
theorem d9_5 : decode jdk_42_method_54_code 5 = .ok (.aload_n 0, 1) := by decide +kernel
theorem d9_6 : decode jdk_42_method_54_code 6 = .ok (.invokevirtual 335, 3) := by decide +kernel
theorem pd35 : parseMethodDescriptor "()B" = some ⟨[], some .byte⟩ := by decide +kernel
theorem d9_9 : decode jdk_42_method_54_code 9 = .ok (.ishr, 1) := by decide +kernel
theorem d9_10 : decode jdk_42_method_54_code 10 = .ok (.ireturn, 1) := by decide +kernel
abbrev own_m36 : MethodName := (⟨"java/lang/String", "length", "()I"⟩ : MethodName)
theorem ef_rm_len (m : MethodId) (so : Addr) : entryFrame m #[(.ref so)] 1 = mkF m 0 #[rv so] [] := by first | (simp [entryFrame, mkF, argsToLocals, Value.category]; done) | rfl
theorem pn37 : plainFor (⟨"java/lang/String", "length", "()I"⟩ : MethodName) = true := by first | exact plainFor_of_name (by first | (simp [plainName, overriddenIn]; done) | decide +kernel) | decide +kernel
set_option maxRecDepth 65536 in
set_option maxHeartbeats 40000000 in
theorem rm_len {l : Launch} {Z : State} {a0 : Array Value} {A : Nat → Addr} {KC : Nat → Cell} {IC : Nat → Int32} {VC : Nat → Value} (hw : ∀ d ∈ tables_1, d.before a0 Z = true) (G : own_Ctx Z A KC IC VC) (so : Addr) (sv : Addr) (kv : ClassId) (n : Int32) (bs : List Int32) (h0 : Heap) (O0 : Ext Z.heap h0) (prem0 : Exa Z h0 so "java/lang/String") (prem1 : Fld Z h0 so "java/lang/String" "value" "[B" (.ref sv)) (prem2 : Fld Z h0 so "java/lang/String" "coder" "B" (.int (0 : Int32))) (prem3 : Arv Z h0 sv kv .byte n (bs.map Value.int) (.int (0 : Int32))) (prem4 : ¬ n < 0) :
    Ok l Z own_m36 jdk_42_method_54_code 1 (some .int) ({ frames := 1, cells := 0, slots := 0, locals := 13 } : Room) #[(.ref so)] h0
      (fun v h L => v = some (.int n) ∧ (h = h0) ∧ (L = [])) := by
  refine Ok.mk pn37 ?_
  intro p e s m below meth c T0 hx hby hml hown hnm hret hlk hZ e0 X0
  refine Go.cast (ef_rm_len m so) ?_
  have D := @hb _ _ hby
  have N0 := Fr.nil Z.heap.size
  have K0 : Keep h0 h0 [] := Keep.refl _ _
  obtain ⟨T383, X383, e383, st383⟩ := getF X0 hx hZ hown (host := "") (Or.inl (own_w hw (i := 26) rfl)) Via.refl e0 prem1 (g := (mkF m 1 #[rv so] [(.ref so)])) rfl rfl (D d9_1)
  obtain ⟨cl384, Ar384, qk384, S384, Ng384, H384, G384⟩ := id prem3
  obtain ⟨T385, v385, L385, X385, q385, st385⟩ := callVi X383 hx hZ (y := own_m19) (z := own_m19) hown (own_w hw (i := 75) rfl) (own_w hw (i := 76) rfl) (notFace_of_selects (args := #[]) (mvT hZ (own_w hw (i := 78) rfl))) (own_w hw (i := 78) rfl) (own_w hw (i := 77) rfl) (own_w hw (i := 79) rfl) (own_w hw (i := 9) rfl) (by decide) (rm_coder hw G so  h0 O0 prem2) e383 (W := 1) (by decide) (by decide) (by decide) (by decide) prem0 (g := (mkF m 6 #[rv so] [(.ref so), (.int n)])) rfl (by rw [hml]; rfl) (argsL := []) (rest := [(.int n)]) (lenOf pd35 rfl) rfl rfl (Nat.le_of_eq rfl) (D d9_6)
  obtain ⟨rfl, e385, rfl⟩ := q385
  have N385 := Fr.app N0 (Fr.nil _)
  refine Go.of (T' := T385) (f' := (mkF m 10 #[rv so] [(.int (n >>> ((0 : Int32) &&& 31)))])) (fun _ k => XS.aloadN X0.here hx rfl (D d9_0) rfl rfl (st383 _ (X383.arraylength hx (by rw [e383]; exact Ar384.1) (State.isArrayOf_alike hZ.alike Ar384.2.1) (g := (mkF m 4 #[rv so] [(.ref sv)])) rfl rfl (D d9_4) _ (by rw [len_of S384 Ng384]; exact (XS.aloadN X383.here hx rfl (D d9_5) rfl rfl (st385 _ (XS.ishr X385.here hx rfl (D d9_9) rfl k))))))) ?_
  exact Go.retI X385 hx hlk hret (D d9_10) (by decide) (by decide) (by rw [e385]; exact ⟨by rw [own_shr0 n prem4], rfl, by simp⟩)
theorem d8_0 : decode method_3_code 0 = .ok (.iload_n 2, 1) := by decide +kernel
theorem d8_1 : decode method_3_code 1 = .ok (.aload_n 1, 1) := by decide +kernel
theorem d8_2 : decode method_3_code 2 = .ok (.invokevirtual 21, 3) := by decide +kernel
theorem pd38 : parseMethodDescriptor "()I" = some ⟨[], some .int⟩ := by decide +kernel
theorem d8_5 : decode method_3_code 5 = .ok (.if_icmp .ge 11, 3) := by decide +kernel
theorem d8_8 : decode method_3_code 8 = .ok (.aload_n 0, 1) := by decide +kernel
theorem d8_9 : decode method_3_code 9 = .ok (.iload_n 2, 1) := by decide +kernel
theorem d8_10 : decode method_3_code 10 = .ok (.aload_n 1, 1) := by decide +kernel
theorem d8_11 : decode method_3_code 11 = .ok (.iload_n 2, 1) := by decide +kernel
theorem d8_12 : decode method_3_code 12 = .ok (.invokevirtual 61, 3) := by decide +kernel
theorem pd39 : parseMethodDescriptor "(I)C" = some ⟨[.int], some .char⟩ := by decide +kernel
theorem d8_15 : decode method_3_code 15 = .ok (.castore, 1) := by decide +kernel
theorem d8_16 : decode method_3_code 16 = .ok (.return_, 1) := by decide +kernel
abbrev own_m40 : MethodName := (⟨"com/example/fair_index/fairindex/csw/ResultTypeNamedPinLaw", "put", "([CLjava/lang/String;I)V"⟩ : MethodName)
theorem ef_rm_put0 (m : MethodId) (da : Addr) (so : Addr) : entryFrame m #[(.ref da), (.ref so), (.int (0 : Int32))] 3 = mkF m 0 #[rv da, rv so, iv (0 : Int32)] [] := by first | (simp [entryFrame, mkF, argsToLocals, Value.category]; done) | rfl
theorem pn41 : plainFor (⟨"com/example/fair_index/fairindex/csw/ResultTypeNamedPinLaw", "put", "([CLjava/lang/String;I)V"⟩ : MethodName) = true := by first | exact plainFor_of_name (by first | (simp [plainName, overriddenIn]; done) | decide +kernel) | decide +kernel
set_option maxRecDepth 65536 in
set_option maxHeartbeats 40000000 in
theorem rm_put0 {l : Launch} {Z : State} {a0 : Array Value} {A : Nat → Addr} {KC : Nat → Cell} {IC : Nat → Int32} {VC : Nat → Value} (hw : ∀ d ∈ tables_1, d.before a0 Z = true) (G : own_Ctx Z A KC IC VC) (da : Addr) (so : Addr) (sv : Addr) (kv : ClassId) (n : Int32) (bs : List Int32) (kd0 : ClassId) (e1 : Int32) (e2 : Int32) (e3 : Int32) (e4 : Int32) (e5 : Int32) (e6 : Int32) (e7 : Int32) (e8 : Int32) (h0 : Heap) (O0 : Ext Z.heap h0) (prem0 : (0 : Int32) < n) (prem1 : Exa Z h0 so "java/lang/String") (prem2 : Fld Z h0 so "java/lang/String" "value" "[B" (.ref sv)) (prem3 : Fld Z h0 so "java/lang/String" "coder" "B" (.int (0 : Int32))) (prem4 : Arv Z h0 sv kv .byte n (bs.map Value.int) (.int (0 : Int32))) (prem5 : ¬ n < 0) (prem6 : Arv Z h0 da kd0 .char (8 : Int32) [(.int e1), (.int e2), (.int e3), (.int e4), (.int e5), (.int e6), (.int e7), (.int e8)] (.int (0 : Int32))) (prem7 : Z.heap.size ≤ da) :
    Ok l Z own_m40 method_3_code 3 none ({ frames := 4, cells := 0, slots := 0, locals := 55 } : Room) #[(.ref da), (.ref so), (.int (0 : Int32))] h0
      (fun v h L => ∃ r : Int32, v = none ∧ (Fr Z.heap.size L) ∧ (Keep h0 h [da]) ∧ (Arv Z h da kd0 .char (8 : Int32) [(.int (r &&& (255 : Int32))), (.int e2), (.int e3), (.int e4), (.int e5), (.int e6), (.int e7), (.int e8)] (.int (0 : Int32)))) := by
  refine Ok.mk pn41 ?_
  intro p e s m below meth c T0 hx hby hml hown hnm hret hlk hZ e0 X0
  refine Go.cast (ef_rm_put0 m da so) ?_
  have D := @hb _ _ hby
  have N0 := Fr.nil Z.heap.size
  have K0 : Keep h0 h0 [da] := Keep.refl _ _
  obtain ⟨T386, v386, L386, X386, q386, st386⟩ := callVi X0 hx hZ (y := own_m36) (z := own_m36) hown (own_w hw (i := 70) rfl) (own_w hw (i := 71) rfl) (notFace_of_selects (args := #[]) (mvT hZ (own_w hw (i := 73) rfl))) (own_w hw (i := 73) rfl) (own_w hw (i := 72) rfl) (own_w hw (i := 74) rfl) (own_w hw (i := 9) rfl) (by decide) (rm_len hw G so sv kv n bs h0 O0 prem1 prem2 prem3 prem4 (prem5)) e0 (W := 1) (by decide) (by decide) (by decide) (by decide) prem1 (g := (mkF m 2 #[rv da, rv so, iv 0] [(.ref so), (.int 0)])) rfl (by rw [hml]; rfl) (argsL := []) (rest := [(.int 0)]) (lenOf pd38 rfl) rfl rfl (Nat.le_of_eq rfl) (D d8_2)
  obtain ⟨rfl, e386, rfl⟩ := q386
  have N386 := Fr.app N0 (Fr.nil _)
  have hc387 : (0 : Int32) < n := prem0
  obtain ⟨T388, v388, L388, X388, q388, st388⟩ := callVi X386 hx hZ (y := own_m33) (z := own_m33) hown (own_w hw (i := 80) rfl) (own_w hw (i := 81) rfl) (notFace_of_selects (args := #[]) (mvT hZ (own_w hw (i := 83) rfl))) (own_w hw (i := 83) rfl) (own_w hw (i := 82) rfl) (own_w hw (i := 84) rfl) (own_w hw (i := 9) rfl) (by decide) (rm_ch hw G so ((0 : Int32)) sv kv n bs h0 O0 (by decide) (prem0) prem1 prem2 prem3 prem4) e386 (W := 2) (by decide) (by decide) (by decide) (by decide) prem1 (g := (mkF m 12 #[rv da, rv so, iv 0] [(.int 0), (.ref so), (.int 0), (.ref da)])) rfl (by rw [hml]; rfl) (argsL := [(.int 0)]) (rest := [(.int 0), (.ref da)]) (lenOf pd39 rfl) rfl rfl (Nat.le_of_eq rfl) (D d8_12)
  obtain ⟨r_388, rfl, e388, rfl⟩ := q388
  have N388 := Fr.app N386 (Fr.nil _)
  obtain ⟨cl389, Ar389, qk389, S389, Ng389, H389, G389⟩ := id prem6
  obtain ⟨T389, h389, X389, e389, W389, st389⟩ := stC X388 hx hZ e388 Ar389 (j := (0 : Int32)) (inb_of S389 ⟨by decide, by decide⟩) (g := (mkF m 15 #[rv da, rv so, iv 0] [(.int (r_388 &&& 255)), (.int 0), (.ref da)])) rfl rfl (D d8_15)
  have W389 : Wr h0 h389 da ((0 : Int32)).toNatClampNeg (.int (r_388 &&& 255)) := Eq.mp (congrArg (fun z => Wr h0 h389 da ((0 : Int32)).toNatClampNeg (Value.int z)) (i2c_mask r_388)) W389
  have O390 := Old0.wr O0 W389 prem7
  have K390 := Keep.wr K0 W389 (Or.inl (List.mem_of_getElem? (i := 0) rfl))
  have f389 : Arv Z h389 da kd0 .char (8 : Int32) [(.int (r_388 &&& 255)), (.int e2), (.int e3), (.int e4), (.int e5), (.int e6), (.int e7), (.int e8)] (.int 0) := Arv.set Ar389 qk389 S389 Ng389 H389 G389 (v := (.int (r_388 &&& 255))) (own_f255 r_388) W389 0 rfl (Nat.le_of_ble_eq_true rfl)
  have N389 := Fr.snoc X389 N388 prem7
  refine Go.of (T' := T389) (f' := (mkF m 16 #[rv da, rv so, iv 0] [])) (fun _ k => XS.iloadN X0.here hx rfl (D d8_0) rfl (XS.aloadN X0.here hx rfl (D d8_1) rfl rfl (st386 _ (XS.icmpNo X386.here hx rfl (D d8_5) rfl (tlt hc387).2.1 (XS.aloadN X386.here hx rfl (D d8_8) rfl rfl (XS.iloadN X386.here hx rfl (D d8_9) rfl (XS.aloadN X386.here hx rfl (D d8_10) rfl rfl (XS.iloadN X386.here hx rfl (D d8_11) rfl (st388 _ (st389 _ k)))))))))) ?_
  exact Go.retV X389 hx hlk hret (D d8_16) (by decide) (by decide) (by rw [e389]; exact ⟨r_388, rfl, N389, K390, f389⟩)
theorem ef_rm_put1 (m : MethodId) (da : Addr) (so : Addr) : entryFrame m #[(.ref da), (.ref so), (.int (1 : Int32))] 3 = mkF m 0 #[rv da, rv so, iv (1 : Int32)] [] := by first | (simp [entryFrame, mkF, argsToLocals, Value.category]; done) | rfl
set_option maxRecDepth 65536 in
set_option maxHeartbeats 40000000 in
theorem rm_put1 {l : Launch} {Z : State} {a0 : Array Value} {A : Nat → Addr} {KC : Nat → Cell} {IC : Nat → Int32} {VC : Nat → Value} (hw : ∀ d ∈ tables_1, d.before a0 Z = true) (G : own_Ctx Z A KC IC VC) (da : Addr) (so : Addr) (sv : Addr) (kv : ClassId) (n : Int32) (bs : List Int32) (kd0 : ClassId) (e1 : Int32) (e2 : Int32) (e3 : Int32) (e4 : Int32) (e5 : Int32) (e6 : Int32) (e7 : Int32) (e8 : Int32) (h0 : Heap) (O0 : Ext Z.heap h0) (prem0 : (1 : Int32) < n) (prem1 : Exa Z h0 so "java/lang/String") (prem2 : Fld Z h0 so "java/lang/String" "value" "[B" (.ref sv)) (prem3 : Fld Z h0 so "java/lang/String" "coder" "B" (.int (0 : Int32))) (prem4 : Arv Z h0 sv kv .byte n (bs.map Value.int) (.int (0 : Int32))) (prem5 : ¬ n < 0) (prem6 : Arv Z h0 da kd0 .char (8 : Int32) [(.int e1), (.int e2), (.int e3), (.int e4), (.int e5), (.int e6), (.int e7), (.int e8)] (.int (0 : Int32))) (prem7 : Z.heap.size ≤ da) :
    Ok l Z own_m40 method_3_code 3 none ({ frames := 4, cells := 0, slots := 0, locals := 55 } : Room) #[(.ref da), (.ref so), (.int (1 : Int32))] h0
      (fun v h L => ∃ r : Int32, v = none ∧ (Fr Z.heap.size L) ∧ (Keep h0 h [da]) ∧ (Arv Z h da kd0 .char (8 : Int32) [(.int e1), (.int (r &&& (255 : Int32))), (.int e3), (.int e4), (.int e5), (.int e6), (.int e7), (.int e8)] (.int (0 : Int32)))) := by
  refine Ok.mk pn41 ?_
  intro p e s m below meth c T0 hx hby hml hown hnm hret hlk hZ e0 X0
  refine Go.cast (ef_rm_put1 m da so) ?_
  have D := @hb _ _ hby
  have N0 := Fr.nil Z.heap.size
  have K0 : Keep h0 h0 [da] := Keep.refl _ _
  obtain ⟨T391, v391, L391, X391, q391, st391⟩ := callVi X0 hx hZ (y := own_m36) (z := own_m36) hown (own_w hw (i := 70) rfl) (own_w hw (i := 71) rfl) (notFace_of_selects (args := #[]) (mvT hZ (own_w hw (i := 73) rfl))) (own_w hw (i := 73) rfl) (own_w hw (i := 72) rfl) (own_w hw (i := 74) rfl) (own_w hw (i := 9) rfl) (by decide) (rm_len hw G so sv kv n bs h0 O0 prem1 prem2 prem3 prem4 (prem5)) e0 (W := 1) (by decide) (by decide) (by decide) (by decide) prem1 (g := (mkF m 2 #[rv da, rv so, iv 1] [(.ref so), (.int 1)])) rfl (by rw [hml]; rfl) (argsL := []) (rest := [(.int 1)]) (lenOf pd38 rfl) rfl rfl (Nat.le_of_eq rfl) (D d8_2)
  obtain ⟨rfl, e391, rfl⟩ := q391
  have N391 := Fr.app N0 (Fr.nil _)
  have hc392 : (1 : Int32) < n := prem0
  obtain ⟨T393, v393, L393, X393, q393, st393⟩ := callVi X391 hx hZ (y := own_m33) (z := own_m33) hown (own_w hw (i := 80) rfl) (own_w hw (i := 81) rfl) (notFace_of_selects (args := #[]) (mvT hZ (own_w hw (i := 83) rfl))) (own_w hw (i := 83) rfl) (own_w hw (i := 82) rfl) (own_w hw (i := 84) rfl) (own_w hw (i := 9) rfl) (by decide) (rm_ch hw G so ((1 : Int32)) sv kv n bs h0 O0 (by decide) (prem0) prem1 prem2 prem3 prem4) e391 (W := 2) (by decide) (by decide) (by decide) (by decide) prem1 (g := (mkF m 12 #[rv da, rv so, iv 1] [(.int 1), (.ref so), (.int 1), (.ref da)])) rfl (by rw [hml]; rfl) (argsL := [(.int 1)]) (rest := [(.int 1), (.ref da)]) (lenOf pd39 rfl) rfl rfl (Nat.le_of_eq rfl) (D d8_12)
  obtain ⟨r_393, rfl, e393, rfl⟩ := q393
  have N393 := Fr.app N391 (Fr.nil _)
  obtain ⟨cl394, Ar394, qk394, S394, Ng394, H394, G394⟩ := id prem6
  obtain ⟨T394, h394, X394, e394, W394, st394⟩ := stC X393 hx hZ e393 Ar394 (j := (1 : Int32)) (inb_of S394 ⟨by decide, by decide⟩) (g := (mkF m 15 #[rv da, rv so, iv 1] [(.int (r_393 &&& 255)), (.int 1), (.ref da)])) rfl rfl (D d8_15)
  have W394 : Wr h0 h394 da ((1 : Int32)).toNatClampNeg (.int (r_393 &&& 255)) := Eq.mp (congrArg (fun z => Wr h0 h394 da ((1 : Int32)).toNatClampNeg (Value.int z)) (i2c_mask r_393)) W394
  have O395 := Old0.wr O0 W394 prem7
  have K395 := Keep.wr K0 W394 (Or.inl (List.mem_of_getElem? (i := 0) rfl))
  have f394 : Arv Z h394 da kd0 .char (8 : Int32) [(.int e1), (.int (r_393 &&& 255)), (.int e3), (.int e4), (.int e5), (.int e6), (.int e7), (.int e8)] (.int 0) := Arv.set Ar394 qk394 S394 Ng394 H394 G394 (v := (.int (r_393 &&& 255))) (own_f255 r_393) W394 1 rfl (Nat.le_of_ble_eq_true rfl)
  have N394 := Fr.snoc X394 N393 prem7
  refine Go.of (T' := T394) (f' := (mkF m 16 #[rv da, rv so, iv 1] [])) (fun _ k => XS.iloadN X0.here hx rfl (D d8_0) rfl (XS.aloadN X0.here hx rfl (D d8_1) rfl rfl (st391 _ (XS.icmpNo X391.here hx rfl (D d8_5) rfl (tlt hc392).2.1 (XS.aloadN X391.here hx rfl (D d8_8) rfl rfl (XS.iloadN X391.here hx rfl (D d8_9) rfl (XS.aloadN X391.here hx rfl (D d8_10) rfl rfl (XS.iloadN X391.here hx rfl (D d8_11) rfl (st393 _ (st394 _ k)))))))))) ?_
  exact Go.retV X394 hx hlk hret (D d8_16) (by decide) (by decide) (by rw [e394]; exact ⟨r_393, rfl, N394, K395, f394⟩)
theorem ef_rm_put2 (m : MethodId) (da : Addr) (so : Addr) : entryFrame m #[(.ref da), (.ref so), (.int (2 : Int32))] 3 = mkF m 0 #[rv da, rv so, iv (2 : Int32)] [] := by first | (simp [entryFrame, mkF, argsToLocals, Value.category]; done) | rfl
set_option maxRecDepth 65536 in
set_option maxHeartbeats 40000000 in
theorem rm_put2 {l : Launch} {Z : State} {a0 : Array Value} {A : Nat → Addr} {KC : Nat → Cell} {IC : Nat → Int32} {VC : Nat → Value} (hw : ∀ d ∈ tables_1, d.before a0 Z = true) (G : own_Ctx Z A KC IC VC) (da : Addr) (so : Addr) (sv : Addr) (kv : ClassId) (n : Int32) (bs : List Int32) (kd0 : ClassId) (e1 : Int32) (e2 : Int32) (e3 : Int32) (e4 : Int32) (e5 : Int32) (e6 : Int32) (e7 : Int32) (e8 : Int32) (h0 : Heap) (O0 : Ext Z.heap h0) (prem0 : (2 : Int32) < n) (prem1 : Exa Z h0 so "java/lang/String") (prem2 : Fld Z h0 so "java/lang/String" "value" "[B" (.ref sv)) (prem3 : Fld Z h0 so "java/lang/String" "coder" "B" (.int (0 : Int32))) (prem4 : Arv Z h0 sv kv .byte n (bs.map Value.int) (.int (0 : Int32))) (prem5 : ¬ n < 0) (prem6 : Arv Z h0 da kd0 .char (8 : Int32) [(.int e1), (.int e2), (.int e3), (.int e4), (.int e5), (.int e6), (.int e7), (.int e8)] (.int (0 : Int32))) (prem7 : Z.heap.size ≤ da) :
    Ok l Z own_m40 method_3_code 3 none ({ frames := 4, cells := 0, slots := 0, locals := 55 } : Room) #[(.ref da), (.ref so), (.int (2 : Int32))] h0
      (fun v h L => ∃ r : Int32, v = none ∧ (Fr Z.heap.size L) ∧ (Keep h0 h [da]) ∧ (Arv Z h da kd0 .char (8 : Int32) [(.int e1), (.int e2), (.int (r &&& (255 : Int32))), (.int e4), (.int e5), (.int e6), (.int e7), (.int e8)] (.int (0 : Int32)))) := by
  refine Ok.mk pn41 ?_
  intro p e s m below meth c T0 hx hby hml hown hnm hret hlk hZ e0 X0
  refine Go.cast (ef_rm_put2 m da so) ?_
  have D := @hb _ _ hby
  have N0 := Fr.nil Z.heap.size
  have K0 : Keep h0 h0 [da] := Keep.refl _ _
  obtain ⟨T396, v396, L396, X396, q396, st396⟩ := callVi X0 hx hZ (y := own_m36) (z := own_m36) hown (own_w hw (i := 70) rfl) (own_w hw (i := 71) rfl) (notFace_of_selects (args := #[]) (mvT hZ (own_w hw (i := 73) rfl))) (own_w hw (i := 73) rfl) (own_w hw (i := 72) rfl) (own_w hw (i := 74) rfl) (own_w hw (i := 9) rfl) (by decide) (rm_len hw G so sv kv n bs h0 O0 prem1 prem2 prem3 prem4 (prem5)) e0 (W := 1) (by decide) (by decide) (by decide) (by decide) prem1 (g := (mkF m 2 #[rv da, rv so, iv 2] [(.ref so), (.int 2)])) rfl (by rw [hml]; rfl) (argsL := []) (rest := [(.int 2)]) (lenOf pd38 rfl) rfl rfl (Nat.le_of_eq rfl) (D d8_2)
  obtain ⟨rfl, e396, rfl⟩ := q396
  have N396 := Fr.app N0 (Fr.nil _)
  have hc397 : (2 : Int32) < n := prem0
  obtain ⟨T398, v398, L398, X398, q398, st398⟩ := callVi X396 hx hZ (y := own_m33) (z := own_m33) hown (own_w hw (i := 80) rfl) (own_w hw (i := 81) rfl) (notFace_of_selects (args := #[]) (mvT hZ (own_w hw (i := 83) rfl))) (own_w hw (i := 83) rfl) (own_w hw (i := 82) rfl) (own_w hw (i := 84) rfl) (own_w hw (i := 9) rfl) (by decide) (rm_ch hw G so ((2 : Int32)) sv kv n bs h0 O0 (by decide) (prem0) prem1 prem2 prem3 prem4) e396 (W := 2) (by decide) (by decide) (by decide) (by decide) prem1 (g := (mkF m 12 #[rv da, rv so, iv 2] [(.int 2), (.ref so), (.int 2), (.ref da)])) rfl (by rw [hml]; rfl) (argsL := [(.int 2)]) (rest := [(.int 2), (.ref da)]) (lenOf pd39 rfl) rfl rfl (Nat.le_of_eq rfl) (D d8_12)
  obtain ⟨r_398, rfl, e398, rfl⟩ := q398
  have N398 := Fr.app N396 (Fr.nil _)
  obtain ⟨cl399, Ar399, qk399, S399, Ng399, H399, G399⟩ := id prem6
  obtain ⟨T399, h399, X399, e399, W399, st399⟩ := stC X398 hx hZ e398 Ar399 (j := (2 : Int32)) (inb_of S399 ⟨by decide, by decide⟩) (g := (mkF m 15 #[rv da, rv so, iv 2] [(.int (r_398 &&& 255)), (.int 2), (.ref da)])) rfl rfl (D d8_15)
  have W399 : Wr h0 h399 da ((2 : Int32)).toNatClampNeg (.int (r_398 &&& 255)) := Eq.mp (congrArg (fun z => Wr h0 h399 da ((2 : Int32)).toNatClampNeg (Value.int z)) (i2c_mask r_398)) W399
  have O400 := Old0.wr O0 W399 prem7
  have K400 := Keep.wr K0 W399 (Or.inl (List.mem_of_getElem? (i := 0) rfl))
  have f399 : Arv Z h399 da kd0 .char (8 : Int32) [(.int e1), (.int e2), (.int (r_398 &&& 255)), (.int e4), (.int e5), (.int e6), (.int e7), (.int e8)] (.int 0) := Arv.set Ar399 qk399 S399 Ng399 H399 G399 (v := (.int (r_398 &&& 255))) (own_f255 r_398) W399 2 rfl (Nat.le_of_ble_eq_true rfl)
  have N399 := Fr.snoc X399 N398 prem7
  refine Go.of (T' := T399) (f' := (mkF m 16 #[rv da, rv so, iv 2] [])) (fun _ k => XS.iloadN X0.here hx rfl (D d8_0) rfl (XS.aloadN X0.here hx rfl (D d8_1) rfl rfl (st396 _ (XS.icmpNo X396.here hx rfl (D d8_5) rfl (tlt hc397).2.1 (XS.aloadN X396.here hx rfl (D d8_8) rfl rfl (XS.iloadN X396.here hx rfl (D d8_9) rfl (XS.aloadN X396.here hx rfl (D d8_10) rfl rfl (XS.iloadN X396.here hx rfl (D d8_11) rfl (st398 _ (st399 _ k)))))))))) ?_
  exact Go.retV X399 hx hlk hret (D d8_16) (by decide) (by decide) (by rw [e399]; exact ⟨r_398, rfl, N399, K400, f399⟩)
theorem ef_rm_put3 (m : MethodId) (da : Addr) (so : Addr) : entryFrame m #[(.ref da), (.ref so), (.int (3 : Int32))] 3 = mkF m 0 #[rv da, rv so, iv (3 : Int32)] [] := by first | (simp [entryFrame, mkF, argsToLocals, Value.category]; done) | rfl
set_option maxRecDepth 65536 in
set_option maxHeartbeats 40000000 in
theorem rm_put3 {l : Launch} {Z : State} {a0 : Array Value} {A : Nat → Addr} {KC : Nat → Cell} {IC : Nat → Int32} {VC : Nat → Value} (hw : ∀ d ∈ tables_1, d.before a0 Z = true) (G : own_Ctx Z A KC IC VC) (da : Addr) (so : Addr) (sv : Addr) (kv : ClassId) (n : Int32) (bs : List Int32) (kd0 : ClassId) (e1 : Int32) (e2 : Int32) (e3 : Int32) (e4 : Int32) (e5 : Int32) (e6 : Int32) (e7 : Int32) (e8 : Int32) (h0 : Heap) (O0 : Ext Z.heap h0) (prem0 : (3 : Int32) < n) (prem1 : Exa Z h0 so "java/lang/String") (prem2 : Fld Z h0 so "java/lang/String" "value" "[B" (.ref sv)) (prem3 : Fld Z h0 so "java/lang/String" "coder" "B" (.int (0 : Int32))) (prem4 : Arv Z h0 sv kv .byte n (bs.map Value.int) (.int (0 : Int32))) (prem5 : ¬ n < 0) (prem6 : Arv Z h0 da kd0 .char (8 : Int32) [(.int e1), (.int e2), (.int e3), (.int e4), (.int e5), (.int e6), (.int e7), (.int e8)] (.int (0 : Int32))) (prem7 : Z.heap.size ≤ da) :
    Ok l Z own_m40 method_3_code 3 none ({ frames := 4, cells := 0, slots := 0, locals := 55 } : Room) #[(.ref da), (.ref so), (.int (3 : Int32))] h0
      (fun v h L => ∃ r : Int32, v = none ∧ (Fr Z.heap.size L) ∧ (Keep h0 h [da]) ∧ (Arv Z h da kd0 .char (8 : Int32) [(.int e1), (.int e2), (.int e3), (.int (r &&& (255 : Int32))), (.int e5), (.int e6), (.int e7), (.int e8)] (.int (0 : Int32)))) := by
  refine Ok.mk pn41 ?_
  intro p e s m below meth c T0 hx hby hml hown hnm hret hlk hZ e0 X0
  refine Go.cast (ef_rm_put3 m da so) ?_
  have D := @hb _ _ hby
  have N0 := Fr.nil Z.heap.size
  have K0 : Keep h0 h0 [da] := Keep.refl _ _
  obtain ⟨T401, v401, L401, X401, q401, st401⟩ := callVi X0 hx hZ (y := own_m36) (z := own_m36) hown (own_w hw (i := 70) rfl) (own_w hw (i := 71) rfl) (notFace_of_selects (args := #[]) (mvT hZ (own_w hw (i := 73) rfl))) (own_w hw (i := 73) rfl) (own_w hw (i := 72) rfl) (own_w hw (i := 74) rfl) (own_w hw (i := 9) rfl) (by decide) (rm_len hw G so sv kv n bs h0 O0 prem1 prem2 prem3 prem4 (prem5)) e0 (W := 1) (by decide) (by decide) (by decide) (by decide) prem1 (g := (mkF m 2 #[rv da, rv so, iv 3] [(.ref so), (.int 3)])) rfl (by rw [hml]; rfl) (argsL := []) (rest := [(.int 3)]) (lenOf pd38 rfl) rfl rfl (Nat.le_of_eq rfl) (D d8_2)
  obtain ⟨rfl, e401, rfl⟩ := q401
  have N401 := Fr.app N0 (Fr.nil _)
  have hc402 : (3 : Int32) < n := prem0
  obtain ⟨T403, v403, L403, X403, q403, st403⟩ := callVi X401 hx hZ (y := own_m33) (z := own_m33) hown (own_w hw (i := 80) rfl) (own_w hw (i := 81) rfl) (notFace_of_selects (args := #[]) (mvT hZ (own_w hw (i := 83) rfl))) (own_w hw (i := 83) rfl) (own_w hw (i := 82) rfl) (own_w hw (i := 84) rfl) (own_w hw (i := 9) rfl) (by decide) (rm_ch hw G so ((3 : Int32)) sv kv n bs h0 O0 (by decide) (prem0) prem1 prem2 prem3 prem4) e401 (W := 2) (by decide) (by decide) (by decide) (by decide) prem1 (g := (mkF m 12 #[rv da, rv so, iv 3] [(.int 3), (.ref so), (.int 3), (.ref da)])) rfl (by rw [hml]; rfl) (argsL := [(.int 3)]) (rest := [(.int 3), (.ref da)]) (lenOf pd39 rfl) rfl rfl (Nat.le_of_eq rfl) (D d8_12)
  obtain ⟨r_403, rfl, e403, rfl⟩ := q403
  have N403 := Fr.app N401 (Fr.nil _)
  obtain ⟨cl404, Ar404, qk404, S404, Ng404, H404, G404⟩ := id prem6
  obtain ⟨T404, h404, X404, e404, W404, st404⟩ := stC X403 hx hZ e403 Ar404 (j := (3 : Int32)) (inb_of S404 ⟨by decide, by decide⟩) (g := (mkF m 15 #[rv da, rv so, iv 3] [(.int (r_403 &&& 255)), (.int 3), (.ref da)])) rfl rfl (D d8_15)
  have W404 : Wr h0 h404 da ((3 : Int32)).toNatClampNeg (.int (r_403 &&& 255)) := Eq.mp (congrArg (fun z => Wr h0 h404 da ((3 : Int32)).toNatClampNeg (Value.int z)) (i2c_mask r_403)) W404
  have O405 := Old0.wr O0 W404 prem7
  have K405 := Keep.wr K0 W404 (Or.inl (List.mem_of_getElem? (i := 0) rfl))
  have f404 : Arv Z h404 da kd0 .char (8 : Int32) [(.int e1), (.int e2), (.int e3), (.int (r_403 &&& 255)), (.int e5), (.int e6), (.int e7), (.int e8)] (.int 0) := Arv.set Ar404 qk404 S404 Ng404 H404 G404 (v := (.int (r_403 &&& 255))) (own_f255 r_403) W404 3 rfl (Nat.le_of_ble_eq_true rfl)
  have N404 := Fr.snoc X404 N403 prem7
  refine Go.of (T' := T404) (f' := (mkF m 16 #[rv da, rv so, iv 3] [])) (fun _ k => XS.iloadN X0.here hx rfl (D d8_0) rfl (XS.aloadN X0.here hx rfl (D d8_1) rfl rfl (st401 _ (XS.icmpNo X401.here hx rfl (D d8_5) rfl (tlt hc402).2.1 (XS.aloadN X401.here hx rfl (D d8_8) rfl rfl (XS.iloadN X401.here hx rfl (D d8_9) rfl (XS.aloadN X401.here hx rfl (D d8_10) rfl rfl (XS.iloadN X401.here hx rfl (D d8_11) rfl (st403 _ (st404 _ k)))))))))) ?_
  exact Go.retV X404 hx hlk hret (D d8_16) (by decide) (by decide) (by rw [e404]; exact ⟨r_403, rfl, N404, K405, f404⟩)
theorem ef_rm_put4 (m : MethodId) (da : Addr) (so : Addr) : entryFrame m #[(.ref da), (.ref so), (.int (4 : Int32))] 3 = mkF m 0 #[rv da, rv so, iv (4 : Int32)] [] := by first | (simp [entryFrame, mkF, argsToLocals, Value.category]; done) | rfl
set_option maxRecDepth 65536 in
set_option maxHeartbeats 40000000 in
theorem rm_put4 {l : Launch} {Z : State} {a0 : Array Value} {A : Nat → Addr} {KC : Nat → Cell} {IC : Nat → Int32} {VC : Nat → Value} (hw : ∀ d ∈ tables_1, d.before a0 Z = true) (G : own_Ctx Z A KC IC VC) (da : Addr) (so : Addr) (sv : Addr) (kv : ClassId) (n : Int32) (bs : List Int32) (kd0 : ClassId) (e1 : Int32) (e2 : Int32) (e3 : Int32) (e4 : Int32) (e5 : Int32) (e6 : Int32) (e7 : Int32) (e8 : Int32) (h0 : Heap) (O0 : Ext Z.heap h0) (prem0 : (4 : Int32) < n) (prem1 : Exa Z h0 so "java/lang/String") (prem2 : Fld Z h0 so "java/lang/String" "value" "[B" (.ref sv)) (prem3 : Fld Z h0 so "java/lang/String" "coder" "B" (.int (0 : Int32))) (prem4 : Arv Z h0 sv kv .byte n (bs.map Value.int) (.int (0 : Int32))) (prem5 : ¬ n < 0) (prem6 : Arv Z h0 da kd0 .char (8 : Int32) [(.int e1), (.int e2), (.int e3), (.int e4), (.int e5), (.int e6), (.int e7), (.int e8)] (.int (0 : Int32))) (prem7 : Z.heap.size ≤ da) :
    Ok l Z own_m40 method_3_code 3 none ({ frames := 4, cells := 0, slots := 0, locals := 55 } : Room) #[(.ref da), (.ref so), (.int (4 : Int32))] h0
      (fun v h L => ∃ r : Int32, v = none ∧ (Fr Z.heap.size L) ∧ (Keep h0 h [da]) ∧ (Arv Z h da kd0 .char (8 : Int32) [(.int e1), (.int e2), (.int e3), (.int e4), (.int (r &&& (255 : Int32))), (.int e6), (.int e7), (.int e8)] (.int (0 : Int32)))) := by
  refine Ok.mk pn41 ?_
  intro p e s m below meth c T0 hx hby hml hown hnm hret hlk hZ e0 X0
  refine Go.cast (ef_rm_put4 m da so) ?_
  have D := @hb _ _ hby
  have N0 := Fr.nil Z.heap.size
  have K0 : Keep h0 h0 [da] := Keep.refl _ _
  obtain ⟨T406, v406, L406, X406, q406, st406⟩ := callVi X0 hx hZ (y := own_m36) (z := own_m36) hown (own_w hw (i := 70) rfl) (own_w hw (i := 71) rfl) (notFace_of_selects (args := #[]) (mvT hZ (own_w hw (i := 73) rfl))) (own_w hw (i := 73) rfl) (own_w hw (i := 72) rfl) (own_w hw (i := 74) rfl) (own_w hw (i := 9) rfl) (by decide) (rm_len hw G so sv kv n bs h0 O0 prem1 prem2 prem3 prem4 (prem5)) e0 (W := 1) (by decide) (by decide) (by decide) (by decide) prem1 (g := (mkF m 2 #[rv da, rv so, iv 4] [(.ref so), (.int 4)])) rfl (by rw [hml]; rfl) (argsL := []) (rest := [(.int 4)]) (lenOf pd38 rfl) rfl rfl (Nat.le_of_eq rfl) (D d8_2)
  obtain ⟨rfl, e406, rfl⟩ := q406
  have N406 := Fr.app N0 (Fr.nil _)
  have hc407 : (4 : Int32) < n := prem0
  obtain ⟨T408, v408, L408, X408, q408, st408⟩ := callVi X406 hx hZ (y := own_m33) (z := own_m33) hown (own_w hw (i := 80) rfl) (own_w hw (i := 81) rfl) (notFace_of_selects (args := #[]) (mvT hZ (own_w hw (i := 83) rfl))) (own_w hw (i := 83) rfl) (own_w hw (i := 82) rfl) (own_w hw (i := 84) rfl) (own_w hw (i := 9) rfl) (by decide) (rm_ch hw G so ((4 : Int32)) sv kv n bs h0 O0 (by decide) (prem0) prem1 prem2 prem3 prem4) e406 (W := 2) (by decide) (by decide) (by decide) (by decide) prem1 (g := (mkF m 12 #[rv da, rv so, iv 4] [(.int 4), (.ref so), (.int 4), (.ref da)])) rfl (by rw [hml]; rfl) (argsL := [(.int 4)]) (rest := [(.int 4), (.ref da)]) (lenOf pd39 rfl) rfl rfl (Nat.le_of_eq rfl) (D d8_12)
  obtain ⟨r_408, rfl, e408, rfl⟩ := q408
  have N408 := Fr.app N406 (Fr.nil _)
  obtain ⟨cl409, Ar409, qk409, S409, Ng409, H409, G409⟩ := id prem6
  obtain ⟨T409, h409, X409, e409, W409, st409⟩ := stC X408 hx hZ e408 Ar409 (j := (4 : Int32)) (inb_of S409 ⟨by decide, by decide⟩) (g := (mkF m 15 #[rv da, rv so, iv 4] [(.int (r_408 &&& 255)), (.int 4), (.ref da)])) rfl rfl (D d8_15)
  have W409 : Wr h0 h409 da ((4 : Int32)).toNatClampNeg (.int (r_408 &&& 255)) := Eq.mp (congrArg (fun z => Wr h0 h409 da ((4 : Int32)).toNatClampNeg (Value.int z)) (i2c_mask r_408)) W409
  have O410 := Old0.wr O0 W409 prem7
  have K410 := Keep.wr K0 W409 (Or.inl (List.mem_of_getElem? (i := 0) rfl))
  have f409 : Arv Z h409 da kd0 .char (8 : Int32) [(.int e1), (.int e2), (.int e3), (.int e4), (.int (r_408 &&& 255)), (.int e6), (.int e7), (.int e8)] (.int 0) := Arv.set Ar409 qk409 S409 Ng409 H409 G409 (v := (.int (r_408 &&& 255))) (own_f255 r_408) W409 4 rfl (Nat.le_of_ble_eq_true rfl)
  have N409 := Fr.snoc X409 N408 prem7
  refine Go.of (T' := T409) (f' := (mkF m 16 #[rv da, rv so, iv 4] [])) (fun _ k => XS.iloadN X0.here hx rfl (D d8_0) rfl (XS.aloadN X0.here hx rfl (D d8_1) rfl rfl (st406 _ (XS.icmpNo X406.here hx rfl (D d8_5) rfl (tlt hc407).2.1 (XS.aloadN X406.here hx rfl (D d8_8) rfl rfl (XS.iloadN X406.here hx rfl (D d8_9) rfl (XS.aloadN X406.here hx rfl (D d8_10) rfl rfl (XS.iloadN X406.here hx rfl (D d8_11) rfl (st408 _ (st409 _ k)))))))))) ?_
  exact Go.retV X409 hx hlk hret (D d8_16) (by decide) (by decide) (by rw [e409]; exact ⟨r_408, rfl, N409, K410, f409⟩)
theorem ef_rm_put5 (m : MethodId) (da : Addr) (so : Addr) : entryFrame m #[(.ref da), (.ref so), (.int (5 : Int32))] 3 = mkF m 0 #[rv da, rv so, iv (5 : Int32)] [] := by first | (simp [entryFrame, mkF, argsToLocals, Value.category]; done) | rfl
set_option maxRecDepth 65536 in
set_option maxHeartbeats 40000000 in
theorem rm_put5 {l : Launch} {Z : State} {a0 : Array Value} {A : Nat → Addr} {KC : Nat → Cell} {IC : Nat → Int32} {VC : Nat → Value} (hw : ∀ d ∈ tables_1, d.before a0 Z = true) (G : own_Ctx Z A KC IC VC) (da : Addr) (so : Addr) (sv : Addr) (kv : ClassId) (n : Int32) (bs : List Int32) (kd0 : ClassId) (e1 : Int32) (e2 : Int32) (e3 : Int32) (e4 : Int32) (e5 : Int32) (e6 : Int32) (e7 : Int32) (e8 : Int32) (h0 : Heap) (O0 : Ext Z.heap h0) (prem0 : (5 : Int32) < n) (prem1 : Exa Z h0 so "java/lang/String") (prem2 : Fld Z h0 so "java/lang/String" "value" "[B" (.ref sv)) (prem3 : Fld Z h0 so "java/lang/String" "coder" "B" (.int (0 : Int32))) (prem4 : Arv Z h0 sv kv .byte n (bs.map Value.int) (.int (0 : Int32))) (prem5 : ¬ n < 0) (prem6 : Arv Z h0 da kd0 .char (8 : Int32) [(.int e1), (.int e2), (.int e3), (.int e4), (.int e5), (.int e6), (.int e7), (.int e8)] (.int (0 : Int32))) (prem7 : Z.heap.size ≤ da) :
    Ok l Z own_m40 method_3_code 3 none ({ frames := 4, cells := 0, slots := 0, locals := 55 } : Room) #[(.ref da), (.ref so), (.int (5 : Int32))] h0
      (fun v h L => ∃ r : Int32, v = none ∧ (Fr Z.heap.size L) ∧ (Keep h0 h [da]) ∧ (Arv Z h da kd0 .char (8 : Int32) [(.int e1), (.int e2), (.int e3), (.int e4), (.int e5), (.int (r &&& (255 : Int32))), (.int e7), (.int e8)] (.int (0 : Int32)))) := by
  refine Ok.mk pn41 ?_
  intro p e s m below meth c T0 hx hby hml hown hnm hret hlk hZ e0 X0
  refine Go.cast (ef_rm_put5 m da so) ?_
  have D := @hb _ _ hby
  have N0 := Fr.nil Z.heap.size
  have K0 : Keep h0 h0 [da] := Keep.refl _ _
  obtain ⟨T411, v411, L411, X411, q411, st411⟩ := callVi X0 hx hZ (y := own_m36) (z := own_m36) hown (own_w hw (i := 70) rfl) (own_w hw (i := 71) rfl) (notFace_of_selects (args := #[]) (mvT hZ (own_w hw (i := 73) rfl))) (own_w hw (i := 73) rfl) (own_w hw (i := 72) rfl) (own_w hw (i := 74) rfl) (own_w hw (i := 9) rfl) (by decide) (rm_len hw G so sv kv n bs h0 O0 prem1 prem2 prem3 prem4 (prem5)) e0 (W := 1) (by decide) (by decide) (by decide) (by decide) prem1 (g := (mkF m 2 #[rv da, rv so, iv 5] [(.ref so), (.int 5)])) rfl (by rw [hml]; rfl) (argsL := []) (rest := [(.int 5)]) (lenOf pd38 rfl) rfl rfl (Nat.le_of_eq rfl) (D d8_2)
  obtain ⟨rfl, e411, rfl⟩ := q411
  have N411 := Fr.app N0 (Fr.nil _)
  have hc412 : (5 : Int32) < n := prem0
  obtain ⟨T413, v413, L413, X413, q413, st413⟩ := callVi X411 hx hZ (y := own_m33) (z := own_m33) hown (own_w hw (i := 80) rfl) (own_w hw (i := 81) rfl) (notFace_of_selects (args := #[]) (mvT hZ (own_w hw (i := 83) rfl))) (own_w hw (i := 83) rfl) (own_w hw (i := 82) rfl) (own_w hw (i := 84) rfl) (own_w hw (i := 9) rfl) (by decide) (rm_ch hw G so ((5 : Int32)) sv kv n bs h0 O0 (by decide) (prem0) prem1 prem2 prem3 prem4) e411 (W := 2) (by decide) (by decide) (by decide) (by decide) prem1 (g := (mkF m 12 #[rv da, rv so, iv 5] [(.int 5), (.ref so), (.int 5), (.ref da)])) rfl (by rw [hml]; rfl) (argsL := [(.int 5)]) (rest := [(.int 5), (.ref da)]) (lenOf pd39 rfl) rfl rfl (Nat.le_of_eq rfl) (D d8_12)
  obtain ⟨r_413, rfl, e413, rfl⟩ := q413
  have N413 := Fr.app N411 (Fr.nil _)
  obtain ⟨cl414, Ar414, qk414, S414, Ng414, H414, G414⟩ := id prem6
  obtain ⟨T414, h414, X414, e414, W414, st414⟩ := stC X413 hx hZ e413 Ar414 (j := (5 : Int32)) (inb_of S414 ⟨by decide, by decide⟩) (g := (mkF m 15 #[rv da, rv so, iv 5] [(.int (r_413 &&& 255)), (.int 5), (.ref da)])) rfl rfl (D d8_15)
  have W414 : Wr h0 h414 da ((5 : Int32)).toNatClampNeg (.int (r_413 &&& 255)) := Eq.mp (congrArg (fun z => Wr h0 h414 da ((5 : Int32)).toNatClampNeg (Value.int z)) (i2c_mask r_413)) W414
  have O415 := Old0.wr O0 W414 prem7
  have K415 := Keep.wr K0 W414 (Or.inl (List.mem_of_getElem? (i := 0) rfl))
  have f414 : Arv Z h414 da kd0 .char (8 : Int32) [(.int e1), (.int e2), (.int e3), (.int e4), (.int e5), (.int (r_413 &&& 255)), (.int e7), (.int e8)] (.int 0) := Arv.set Ar414 qk414 S414 Ng414 H414 G414 (v := (.int (r_413 &&& 255))) (own_f255 r_413) W414 5 rfl (Nat.le_of_ble_eq_true rfl)
  have N414 := Fr.snoc X414 N413 prem7
  refine Go.of (T' := T414) (f' := (mkF m 16 #[rv da, rv so, iv 5] [])) (fun _ k => XS.iloadN X0.here hx rfl (D d8_0) rfl (XS.aloadN X0.here hx rfl (D d8_1) rfl rfl (st411 _ (XS.icmpNo X411.here hx rfl (D d8_5) rfl (tlt hc412).2.1 (XS.aloadN X411.here hx rfl (D d8_8) rfl rfl (XS.iloadN X411.here hx rfl (D d8_9) rfl (XS.aloadN X411.here hx rfl (D d8_10) rfl rfl (XS.iloadN X411.here hx rfl (D d8_11) rfl (st413 _ (st414 _ k)))))))))) ?_
  exact Go.retV X414 hx hlk hret (D d8_16) (by decide) (by decide) (by rw [e414]; exact ⟨r_413, rfl, N414, K415, f414⟩)
theorem ef_rm_put6 (m : MethodId) (da : Addr) (so : Addr) : entryFrame m #[(.ref da), (.ref so), (.int (6 : Int32))] 3 = mkF m 0 #[rv da, rv so, iv (6 : Int32)] [] := by first | (simp [entryFrame, mkF, argsToLocals, Value.category]; done) | rfl
set_option maxRecDepth 65536 in
set_option maxHeartbeats 40000000 in
theorem rm_put6 {l : Launch} {Z : State} {a0 : Array Value} {A : Nat → Addr} {KC : Nat → Cell} {IC : Nat → Int32} {VC : Nat → Value} (hw : ∀ d ∈ tables_1, d.before a0 Z = true) (G : own_Ctx Z A KC IC VC) (da : Addr) (so : Addr) (sv : Addr) (kv : ClassId) (n : Int32) (bs : List Int32) (kd0 : ClassId) (e1 : Int32) (e2 : Int32) (e3 : Int32) (e4 : Int32) (e5 : Int32) (e6 : Int32) (e7 : Int32) (e8 : Int32) (h0 : Heap) (O0 : Ext Z.heap h0) (prem0 : (6 : Int32) < n) (prem1 : Exa Z h0 so "java/lang/String") (prem2 : Fld Z h0 so "java/lang/String" "value" "[B" (.ref sv)) (prem3 : Fld Z h0 so "java/lang/String" "coder" "B" (.int (0 : Int32))) (prem4 : Arv Z h0 sv kv .byte n (bs.map Value.int) (.int (0 : Int32))) (prem5 : ¬ n < 0) (prem6 : Arv Z h0 da kd0 .char (8 : Int32) [(.int e1), (.int e2), (.int e3), (.int e4), (.int e5), (.int e6), (.int e7), (.int e8)] (.int (0 : Int32))) (prem7 : Z.heap.size ≤ da) :
    Ok l Z own_m40 method_3_code 3 none ({ frames := 4, cells := 0, slots := 0, locals := 55 } : Room) #[(.ref da), (.ref so), (.int (6 : Int32))] h0
      (fun v h L => ∃ r : Int32, v = none ∧ (Fr Z.heap.size L) ∧ (Keep h0 h [da]) ∧ (Arv Z h da kd0 .char (8 : Int32) [(.int e1), (.int e2), (.int e3), (.int e4), (.int e5), (.int e6), (.int (r &&& (255 : Int32))), (.int e8)] (.int (0 : Int32)))) := by
  refine Ok.mk pn41 ?_
  intro p e s m below meth c T0 hx hby hml hown hnm hret hlk hZ e0 X0
  refine Go.cast (ef_rm_put6 m da so) ?_
  have D := @hb _ _ hby
  have N0 := Fr.nil Z.heap.size
  have K0 : Keep h0 h0 [da] := Keep.refl _ _
  obtain ⟨T416, v416, L416, X416, q416, st416⟩ := callVi X0 hx hZ (y := own_m36) (z := own_m36) hown (own_w hw (i := 70) rfl) (own_w hw (i := 71) rfl) (notFace_of_selects (args := #[]) (mvT hZ (own_w hw (i := 73) rfl))) (own_w hw (i := 73) rfl) (own_w hw (i := 72) rfl) (own_w hw (i := 74) rfl) (own_w hw (i := 9) rfl) (by decide) (rm_len hw G so sv kv n bs h0 O0 prem1 prem2 prem3 prem4 (prem5)) e0 (W := 1) (by decide) (by decide) (by decide) (by decide) prem1 (g := (mkF m 2 #[rv da, rv so, iv 6] [(.ref so), (.int 6)])) rfl (by rw [hml]; rfl) (argsL := []) (rest := [(.int 6)]) (lenOf pd38 rfl) rfl rfl (Nat.le_of_eq rfl) (D d8_2)
  obtain ⟨rfl, e416, rfl⟩ := q416
  have N416 := Fr.app N0 (Fr.nil _)
  have hc417 : (6 : Int32) < n := prem0
  obtain ⟨T418, v418, L418, X418, q418, st418⟩ := callVi X416 hx hZ (y := own_m33) (z := own_m33) hown (own_w hw (i := 80) rfl) (own_w hw (i := 81) rfl) (notFace_of_selects (args := #[]) (mvT hZ (own_w hw (i := 83) rfl))) (own_w hw (i := 83) rfl) (own_w hw (i := 82) rfl) (own_w hw (i := 84) rfl) (own_w hw (i := 9) rfl) (by decide) (rm_ch hw G so ((6 : Int32)) sv kv n bs h0 O0 (by decide) (prem0) prem1 prem2 prem3 prem4) e416 (W := 2) (by decide) (by decide) (by decide) (by decide) prem1 (g := (mkF m 12 #[rv da, rv so, iv 6] [(.int 6), (.ref so), (.int 6), (.ref da)])) rfl (by rw [hml]; rfl) (argsL := [(.int 6)]) (rest := [(.int 6), (.ref da)]) (lenOf pd39 rfl) rfl rfl (Nat.le_of_eq rfl) (D d8_12)
  obtain ⟨r_418, rfl, e418, rfl⟩ := q418
  have N418 := Fr.app N416 (Fr.nil _)
  obtain ⟨cl419, Ar419, qk419, S419, Ng419, H419, G419⟩ := id prem6
  obtain ⟨T419, h419, X419, e419, W419, st419⟩ := stC X418 hx hZ e418 Ar419 (j := (6 : Int32)) (inb_of S419 ⟨by decide, by decide⟩) (g := (mkF m 15 #[rv da, rv so, iv 6] [(.int (r_418 &&& 255)), (.int 6), (.ref da)])) rfl rfl (D d8_15)
  have W419 : Wr h0 h419 da ((6 : Int32)).toNatClampNeg (.int (r_418 &&& 255)) := Eq.mp (congrArg (fun z => Wr h0 h419 da ((6 : Int32)).toNatClampNeg (Value.int z)) (i2c_mask r_418)) W419
  have O420 := Old0.wr O0 W419 prem7
  have K420 := Keep.wr K0 W419 (Or.inl (List.mem_of_getElem? (i := 0) rfl))
  have f419 : Arv Z h419 da kd0 .char (8 : Int32) [(.int e1), (.int e2), (.int e3), (.int e4), (.int e5), (.int e6), (.int (r_418 &&& 255)), (.int e8)] (.int 0) := Arv.set Ar419 qk419 S419 Ng419 H419 G419 (v := (.int (r_418 &&& 255))) (own_f255 r_418) W419 6 rfl (Nat.le_of_ble_eq_true rfl)
  have N419 := Fr.snoc X419 N418 prem7
  refine Go.of (T' := T419) (f' := (mkF m 16 #[rv da, rv so, iv 6] [])) (fun _ k => XS.iloadN X0.here hx rfl (D d8_0) rfl (XS.aloadN X0.here hx rfl (D d8_1) rfl rfl (st416 _ (XS.icmpNo X416.here hx rfl (D d8_5) rfl (tlt hc417).2.1 (XS.aloadN X416.here hx rfl (D d8_8) rfl rfl (XS.iloadN X416.here hx rfl (D d8_9) rfl (XS.aloadN X416.here hx rfl (D d8_10) rfl rfl (XS.iloadN X416.here hx rfl (D d8_11) rfl (st418 _ (st419 _ k)))))))))) ?_
  exact Go.retV X419 hx hlk hret (D d8_16) (by decide) (by decide) (by rw [e419]; exact ⟨r_418, rfl, N419, K420, f419⟩)
theorem ef_rm_put7 (m : MethodId) (da : Addr) (so : Addr) : entryFrame m #[(.ref da), (.ref so), (.int (7 : Int32))] 3 = mkF m 0 #[rv da, rv so, iv (7 : Int32)] [] := by first | (simp [entryFrame, mkF, argsToLocals, Value.category]; done) | rfl
set_option maxRecDepth 65536 in
set_option maxHeartbeats 40000000 in
theorem rm_put7 {l : Launch} {Z : State} {a0 : Array Value} {A : Nat → Addr} {KC : Nat → Cell} {IC : Nat → Int32} {VC : Nat → Value} (hw : ∀ d ∈ tables_1, d.before a0 Z = true) (G : own_Ctx Z A KC IC VC) (da : Addr) (so : Addr) (sv : Addr) (kv : ClassId) (n : Int32) (bs : List Int32) (kd0 : ClassId) (e1 : Int32) (e2 : Int32) (e3 : Int32) (e4 : Int32) (e5 : Int32) (e6 : Int32) (e7 : Int32) (e8 : Int32) (h0 : Heap) (O0 : Ext Z.heap h0) (prem0 : (7 : Int32) < n) (prem1 : Exa Z h0 so "java/lang/String") (prem2 : Fld Z h0 so "java/lang/String" "value" "[B" (.ref sv)) (prem3 : Fld Z h0 so "java/lang/String" "coder" "B" (.int (0 : Int32))) (prem4 : Arv Z h0 sv kv .byte n (bs.map Value.int) (.int (0 : Int32))) (prem5 : ¬ n < 0) (prem6 : Arv Z h0 da kd0 .char (8 : Int32) [(.int e1), (.int e2), (.int e3), (.int e4), (.int e5), (.int e6), (.int e7), (.int e8)] (.int (0 : Int32))) (prem7 : Z.heap.size ≤ da) :
    Ok l Z own_m40 method_3_code 3 none ({ frames := 4, cells := 0, slots := 0, locals := 55 } : Room) #[(.ref da), (.ref so), (.int (7 : Int32))] h0
      (fun v h L => ∃ r : Int32, v = none ∧ (Fr Z.heap.size L) ∧ (Keep h0 h [da]) ∧ (Arv Z h da kd0 .char (8 : Int32) [(.int e1), (.int e2), (.int e3), (.int e4), (.int e5), (.int e6), (.int e7), (.int (r &&& (255 : Int32)))] (.int (0 : Int32)))) := by
  refine Ok.mk pn41 ?_
  intro p e s m below meth c T0 hx hby hml hown hnm hret hlk hZ e0 X0
  refine Go.cast (ef_rm_put7 m da so) ?_
  have D := @hb _ _ hby
  have N0 := Fr.nil Z.heap.size
  have K0 : Keep h0 h0 [da] := Keep.refl _ _
  obtain ⟨T421, v421, L421, X421, q421, st421⟩ := callVi X0 hx hZ (y := own_m36) (z := own_m36) hown (own_w hw (i := 70) rfl) (own_w hw (i := 71) rfl) (notFace_of_selects (args := #[]) (mvT hZ (own_w hw (i := 73) rfl))) (own_w hw (i := 73) rfl) (own_w hw (i := 72) rfl) (own_w hw (i := 74) rfl) (own_w hw (i := 9) rfl) (by decide) (rm_len hw G so sv kv n bs h0 O0 prem1 prem2 prem3 prem4 (prem5)) e0 (W := 1) (by decide) (by decide) (by decide) (by decide) prem1 (g := (mkF m 2 #[rv da, rv so, iv 7] [(.ref so), (.int 7)])) rfl (by rw [hml]; rfl) (argsL := []) (rest := [(.int 7)]) (lenOf pd38 rfl) rfl rfl (Nat.le_of_eq rfl) (D d8_2)
  obtain ⟨rfl, e421, rfl⟩ := q421
  have N421 := Fr.app N0 (Fr.nil _)
  have hc422 : (7 : Int32) < n := prem0
  obtain ⟨T423, v423, L423, X423, q423, st423⟩ := callVi X421 hx hZ (y := own_m33) (z := own_m33) hown (own_w hw (i := 80) rfl) (own_w hw (i := 81) rfl) (notFace_of_selects (args := #[]) (mvT hZ (own_w hw (i := 83) rfl))) (own_w hw (i := 83) rfl) (own_w hw (i := 82) rfl) (own_w hw (i := 84) rfl) (own_w hw (i := 9) rfl) (by decide) (rm_ch hw G so ((7 : Int32)) sv kv n bs h0 O0 (by decide) (prem0) prem1 prem2 prem3 prem4) e421 (W := 2) (by decide) (by decide) (by decide) (by decide) prem1 (g := (mkF m 12 #[rv da, rv so, iv 7] [(.int 7), (.ref so), (.int 7), (.ref da)])) rfl (by rw [hml]; rfl) (argsL := [(.int 7)]) (rest := [(.int 7), (.ref da)]) (lenOf pd39 rfl) rfl rfl (Nat.le_of_eq rfl) (D d8_12)
  obtain ⟨r_423, rfl, e423, rfl⟩ := q423
  have N423 := Fr.app N421 (Fr.nil _)
  obtain ⟨cl424, Ar424, qk424, S424, Ng424, H424, G424⟩ := id prem6
  obtain ⟨T424, h424, X424, e424, W424, st424⟩ := stC X423 hx hZ e423 Ar424 (j := (7 : Int32)) (inb_of S424 ⟨by decide, by decide⟩) (g := (mkF m 15 #[rv da, rv so, iv 7] [(.int (r_423 &&& 255)), (.int 7), (.ref da)])) rfl rfl (D d8_15)
  have W424 : Wr h0 h424 da ((7 : Int32)).toNatClampNeg (.int (r_423 &&& 255)) := Eq.mp (congrArg (fun z => Wr h0 h424 da ((7 : Int32)).toNatClampNeg (Value.int z)) (i2c_mask r_423)) W424
  have O425 := Old0.wr O0 W424 prem7
  have K425 := Keep.wr K0 W424 (Or.inl (List.mem_of_getElem? (i := 0) rfl))
  have f424 : Arv Z h424 da kd0 .char (8 : Int32) [(.int e1), (.int e2), (.int e3), (.int e4), (.int e5), (.int e6), (.int e7), (.int (r_423 &&& 255))] (.int 0) := Arv.set Ar424 qk424 S424 Ng424 H424 G424 (v := (.int (r_423 &&& 255))) (own_f255 r_423) W424 7 rfl (Nat.le_of_ble_eq_true rfl)
  have N424 := Fr.snoc X424 N423 prem7
  refine Go.of (T' := T424) (f' := (mkF m 16 #[rv da, rv so, iv 7] [])) (fun _ k => XS.iloadN X0.here hx rfl (D d8_0) rfl (XS.aloadN X0.here hx rfl (D d8_1) rfl rfl (st421 _ (XS.icmpNo X421.here hx rfl (D d8_5) rfl (tlt hc422).2.1 (XS.aloadN X421.here hx rfl (D d8_8) rfl rfl (XS.iloadN X421.here hx rfl (D d8_9) rfl (XS.aloadN X421.here hx rfl (D d8_10) rfl rfl (XS.iloadN X421.here hx rfl (D d8_11) rfl (st423 _ (st424 _ k)))))))))) ?_
  exact Go.retV X424 hx hlk hret (D d8_16) (by decide) (by decide) (by rw [e424]; exact ⟨r_423, rfl, N424, K425, f424⟩)
theorem ef_rm_putN (m : MethodId) (da : Addr) (so : Addr) (i : Int32) : entryFrame m #[(.ref da), (.ref so), (.int i)] 3 = mkF m 0 #[rv da, rv so, iv i] [] := by first | (simp [entryFrame, mkF, argsToLocals, Value.category]; done) | rfl
set_option maxRecDepth 65536 in
set_option maxHeartbeats 40000000 in
theorem rm_putN {l : Launch} {Z : State} {a0 : Array Value} {A : Nat → Addr} {KC : Nat → Cell} {IC : Nat → Int32} {VC : Nat → Value} (hw : ∀ d ∈ tables_1, d.before a0 Z = true) (G : own_Ctx Z A KC IC VC) (da : Addr) (so : Addr) (i : Int32) (sv : Addr) (kv : ClassId) (n : Int32) (bs : List Int32) (h0 : Heap) (O0 : Ext Z.heap h0) (prem0 : ¬ (i < n)) (prem1 : Exa Z h0 so "java/lang/String") (prem2 : Fld Z h0 so "java/lang/String" "value" "[B" (.ref sv)) (prem3 : Fld Z h0 so "java/lang/String" "coder" "B" (.int (0 : Int32))) (prem4 : Arv Z h0 sv kv .byte n (bs.map Value.int) (.int (0 : Int32))) (prem5 : ¬ n < 0) :
    Ok l Z own_m40 method_3_code 3 none ({ frames := 2, cells := 0, slots := 0, locals := 26 } : Room) #[(.ref da), (.ref so), (.int i)] h0
      (fun v h L => v = none ∧ (h = h0) ∧ (L = [])) := by
  refine Ok.mk pn41 ?_
  intro p e s m below meth c T0 hx hby hml hown hnm hret hlk hZ e0 X0
  refine Go.cast (ef_rm_putN m da so i) ?_
  have D := @hb _ _ hby
  have N0 := Fr.nil Z.heap.size
  have K0 : Keep h0 h0 [] := Keep.refl _ _
  obtain ⟨T426, v426, L426, X426, q426, st426⟩ := callVi X0 hx hZ (y := own_m36) (z := own_m36) hown (own_w hw (i := 70) rfl) (own_w hw (i := 71) rfl) (notFace_of_selects (args := #[]) (mvT hZ (own_w hw (i := 73) rfl))) (own_w hw (i := 73) rfl) (own_w hw (i := 72) rfl) (own_w hw (i := 74) rfl) (own_w hw (i := 9) rfl) (by decide) (rm_len hw G so sv kv n bs h0 O0 prem1 prem2 prem3 prem4 (prem5)) e0 (W := 1) (by decide) (by decide) (by decide) (by decide) prem1 (g := (mkF m 2 #[rv da, rv so, iv i] [(.ref so), (.int i)])) rfl (by rw [hml]; rfl) (argsL := []) (rest := [(.int i)]) (lenOf pd38 rfl) rfl rfl (Nat.le_of_eq rfl) (D d8_2)
  obtain ⟨rfl, e426, rfl⟩ := q426
  have N426 := Fr.app N0 (Fr.nil _)
  have hc427 : ¬ (i < n) := prem0
  refine Go.of (T' := T426) (f' := (mkF m 16 #[rv da, rv so, iv i] [])) (fun _ k => XS.iloadN X0.here hx rfl (D d8_0) rfl (XS.aloadN X0.here hx rfl (D d8_1) rfl rfl (st426 _ (XS.icmpYes X426.here hx rfl (pc0 := 5) (pc' := 16) rfl (D d8_5) rfl (flt hc427).2.1 (by decide) (by decide) k)))) ?_
  exact Go.retV X426 hx hlk hret (D d8_16) (by decide) (by decide) (by rw [e426]; exact ⟨rfl, rfl, by simp⟩)
theorem pn_java_lang_Math_min__II_I : plainFor (⟨"java/lang/Math", "min", "(II)I"⟩ : MethodName) = true := Jvm.Free.JP.mathPlain rfl (by decide +kernel)
theorem d19_0 : decode jdk_29_method_69_code 0 = .ok (.iload_n 0, 1) := by decide +kernel
theorem d19_1 : decode jdk_29_method_69_code 1 = .ok (.iload_n 1, 1) := by decide +kernel
theorem d19_2 : decode jdk_29_method_69_code 2 = .ok (.if_icmp .gt 7, 3) := by decide +kernel
theorem d19_9 : decode jdk_29_method_69_code 9 = .ok (.iload_n 1, 1) := by decide +kernel
theorem d19_10 : decode jdk_29_method_69_code 10 = .ok (.ireturn, 1) := by decide +kernel
abbrev own_m42 : MethodName := (⟨"java/lang/Math", "min", "(II)I"⟩ : MethodName)
theorem ef_rm_min5 (m : MethodId)  : entryFrame m #[(.int (8 : Int32)), (.int (5 : Int32))] 2 = mkF m 0 #[iv (8 : Int32), iv (5 : Int32)] [] := by first | (simp [entryFrame, mkF, argsToLocals, Value.category]; done) | rfl
set_option maxRecDepth 65536 in
set_option maxHeartbeats 40000000 in
theorem rm_min5 {l : Launch} {Z : State} {a0 : Array Value} {A : Nat → Addr} {KC : Nat → Cell} {IC : Nat → Int32} {VC : Nat → Value} (hw : ∀ d ∈ tables_1, d.before a0 Z = true) (G : own_Ctx Z A KC IC VC)   (h0 : Heap) (O0 : Ext Z.heap h0)  :
    Ok l Z own_m42 jdk_29_method_69_code 2 (some .int) ({ frames := 0, cells := 0, slots := 0, locals := 0 } : Room) #[(.int (8 : Int32)), (.int (5 : Int32))] h0
      (fun v h L => v = some (.int (5 : Int32)) ∧ (h = h0) ∧ (L = [])) := by
  refine Ok.mk pn_java_lang_Math_min__II_I ?_
  intro p e s m below meth c T0 hx hby hml hown hnm hret hlk hZ e0 X0
  refine Go.cast (ef_rm_min5 m ) ?_
  have D := @hb _ _ hby
  have N0 := Fr.nil Z.heap.size
  have K0 : Keep h0 h0 [] := Keep.refl _ _
  refine Go.of (T' := T0) (f' := (mkF m 10 #[iv 8, iv 5] [(.int 5)])) (fun _ k => XS.iloadN X0.here hx rfl (D d19_0) rfl (XS.iloadN X0.here hx rfl (D d19_1) rfl (XS.icmpYes X0.here hx rfl (pc0 := 2) (pc' := 9) rfl (D d19_2) rfl (tlt (by decide : (5 : Int32) < (8 : Int32))).2.2.1 (by decide) (by decide) (XS.iloadN X0.here hx rfl (D d19_9) rfl k)))) ?_
  exact Go.retI X0 hx hlk hret (D d19_10) (by decide) (by decide) (by rw [e0]; exact ⟨rfl, rfl, by simp⟩)
theorem d19_5 : decode jdk_29_method_69_code 5 = .ok (.iload_n 0, 1) := by decide +kernel
theorem d19_6 : decode jdk_29_method_69_code 6 = .ok (.goto 4, 3) := by decide +kernel
theorem ef_rm_min8 (m : MethodId)  : entryFrame m #[(.int (8 : Int32)), (.int (8 : Int32))] 2 = mkF m 0 #[iv (8 : Int32), iv (8 : Int32)] [] := by first | (simp [entryFrame, mkF, argsToLocals, Value.category]; done) | rfl
set_option maxRecDepth 65536 in
set_option maxHeartbeats 40000000 in
theorem rm_min8 {l : Launch} {Z : State} {a0 : Array Value} {A : Nat → Addr} {KC : Nat → Cell} {IC : Nat → Int32} {VC : Nat → Value} (hw : ∀ d ∈ tables_1, d.before a0 Z = true) (G : own_Ctx Z A KC IC VC)   (h0 : Heap) (O0 : Ext Z.heap h0)  :
    Ok l Z own_m42 jdk_29_method_69_code 2 (some .int) ({ frames := 0, cells := 0, slots := 0, locals := 0 } : Room) #[(.int (8 : Int32)), (.int (8 : Int32))] h0
      (fun v h L => v = some (.int (8 : Int32)) ∧ (h = h0) ∧ (L = [])) := by
  refine Ok.mk pn_java_lang_Math_min__II_I ?_
  intro p e s m below meth c T0 hx hby hml hown hnm hret hlk hZ e0 X0
  refine Go.cast (ef_rm_min8 m ) ?_
  have D := @hb _ _ hby
  have N0 := Fr.nil Z.heap.size
  have K0 : Keep h0 h0 [] := Keep.refl _ _
  refine Go.of (T' := T0) (f' := (mkF m 10 #[iv 8, iv 8] [(.int 8)])) (fun _ k => XS.iloadN X0.here hx rfl (D d19_0) rfl (XS.iloadN X0.here hx rfl (D d19_1) rfl (XS.icmpNo X0.here hx rfl (D d19_2) rfl (flt (by decide : ¬ ((8 : Int32) < (8 : Int32)))).2.2.1 (XS.iloadN X0.here hx rfl (D d19_5) rfl (XS.goto X0.here hx rfl (pc0 := 6) (pc' := 10) rfl (D d19_6) (by decide) (by decide) k))))) ?_
  exact Go.retI X0 hx hlk hret (D d19_10) (by decide) (by decide) (by rw [e0]; exact ⟨rfl, rfl, by simp⟩)
theorem ef_rm_min9 (m : MethodId)  : entryFrame m #[(.int (8 : Int32)), (.int (9 : Int32))] 2 = mkF m 0 #[iv (8 : Int32), iv (9 : Int32)] [] := by first | (simp [entryFrame, mkF, argsToLocals, Value.category]; done) | rfl
set_option maxRecDepth 65536 in
set_option maxHeartbeats 40000000 in
theorem rm_min9 {l : Launch} {Z : State} {a0 : Array Value} {A : Nat → Addr} {KC : Nat → Cell} {IC : Nat → Int32} {VC : Nat → Value} (hw : ∀ d ∈ tables_1, d.before a0 Z = true) (G : own_Ctx Z A KC IC VC)   (h0 : Heap) (O0 : Ext Z.heap h0)  :
    Ok l Z own_m42 jdk_29_method_69_code 2 (some .int) ({ frames := 0, cells := 0, slots := 0, locals := 0 } : Room) #[(.int (8 : Int32)), (.int (9 : Int32))] h0
      (fun v h L => v = some (.int (8 : Int32)) ∧ (h = h0) ∧ (L = [])) := by
  refine Ok.mk pn_java_lang_Math_min__II_I ?_
  intro p e s m below meth c T0 hx hby hml hown hnm hret hlk hZ e0 X0
  refine Go.cast (ef_rm_min9 m ) ?_
  have D := @hb _ _ hby
  have N0 := Fr.nil Z.heap.size
  have K0 : Keep h0 h0 [] := Keep.refl _ _
  refine Go.of (T' := T0) (f' := (mkF m 10 #[iv 8, iv 9] [(.int 8)])) (fun _ k => XS.iloadN X0.here hx rfl (D d19_0) rfl (XS.iloadN X0.here hx rfl (D d19_1) rfl (XS.icmpNo X0.here hx rfl (D d19_2) rfl (flt (by decide : ¬ ((9 : Int32) < (8 : Int32)))).2.2.1 (XS.iloadN X0.here hx rfl (D d19_5) rfl (XS.goto X0.here hx rfl (pc0 := 6) (pc' := 10) rfl (D d19_6) (by decide) (by decide) k))))) ?_
  exact Go.retI X0 hx hlk hret (D d19_10) (by decide) (by decide) (by rw [e0]; exact ⟨rfl, rfl, by simp⟩)
theorem d0_0 : decode method_4_code 0 = .ok (.iload_n 1, 1) := by decide +kernel
theorem d0_1 : decode method_4_code 1 = .ok (.ifCond .ne 14, 3) := by decide +kernel
theorem d0_4 : decode method_4_code 4 = .ok (.new 22, 3) := by decide +kernel
theorem d0_7 : decode method_4_code 7 = .ok (.dup, 1) := by decide +kernel
theorem d0_8 : decode method_4_code 8 = .ok (.iconst 0, 1) := by decide +kernel
theorem d0_9 : decode method_4_code 9 = .ok (.newarray .char, 2) := by decide +kernel
theorem d0_11 : decode method_4_code 11 = .ok (.invokespecial 65, 3) := by decide +kernel
theorem pd43 : parseMethodDescriptor "([C)V" = some ⟨[(.array .char)], none⟩ := by decide +kernel
theorem d0_14 : decode method_4_code 14 = .ok (.areturn, 1) := by decide +kernel
abbrev own_m44 : MethodName := (⟨"com/example/fair_index/fairindex/csw/ResultTypeNamedPinLaw", "make", "([CI)Ljava/lang/String;"⟩ : MethodName)
theorem ef_rm_make0 (m : MethodId) (da0 : Addr) : entryFrame m #[(.ref da0), (.int (0 : Int32))] 2 = mkF m 0 #[rv da0, iv (0 : Int32)] [] := by first | (simp [entryFrame, mkF, argsToLocals, Value.category]; done) | rfl
theorem pn45 : plainFor (⟨"com/example/fair_index/fairindex/csw/ResultTypeNamedPinLaw", "make", "([CI)Ljava/lang/String;"⟩ : MethodName) = true := by first | exact plainFor_of_name (by first | (simp [plainName, overriddenIn]; done) | decide +kernel) | decide +kernel
set_option maxRecDepth 65536 in
set_option maxHeartbeats 40000000 in
theorem rm_make0 {l : Launch} {Z : State} {a0 : Array Value} {A : Nat → Addr} {KC : Nat → Cell} {IC : Nat → Int32} {VC : Nat → Value} (hw : ∀ d ∈ tables_1, d.before a0 Z = true) (G : own_Ctx Z A KC IC VC) (da0 : Addr) (kd0 : ClassId) (z0 : Int32) (z1 : Int32) (z2 : Int32) (z3 : Int32) (z4 : Int32) (z5 : Int32) (z6 : Int32) (z7 : Int32) (h0 : Heap) (O0 : Ext Z.heap h0) (prem0 : Arv Z h0 da0 kd0 .char (8 : Int32) [(.int (z0 &&& (255 : Int32))), (.int (z1 &&& (255 : Int32))), (.int (z2 &&& (255 : Int32))), (.int (z3 &&& (255 : Int32))), (.int (z4 &&& (255 : Int32))), (.int (z5 &&& (255 : Int32))), (.int (z6 &&& (255 : Int32))), (.int (z7 &&& (255 : Int32)))] (.int (0 : Int32))) :
    OkS l Z own_EL own_m44 method_4_code 2 (some (.object "java/lang/String")) ({ frames := 3, cells := 6, slots := 12, locals := 43 } : Room) #[(.ref da0), (.int (0 : Int32))] h0
      (fun v h L => ∃ so : Addr, ∃ sv : Addr, ∃ ks : ClassId, v = some (.ref so) ∧ (Fr Z.heap.size L) ∧ (Keep h0 h []) ∧ (Exa Z h so "java/lang/String") ∧ (Fld Z h so "java/lang/String" "value" "[B" (.ref sv)) ∧ (Fld Z h so "java/lang/String" "coder" "B" (.int (0 : Int32))) ∧ (Arv Z h sv ks .byte (0 : Int32) [] (.int (0 : Int32)))) := by
  refine OkS.mk pn45 ?_
  intro p e s m below meth c T0 hx hby hml hown hnm hret hlk hZ e0 C0 hS X0
  have hk := Nat.zero_le h0.size
  have hEL := own_EW hw
  refine GoS.cast (ef_rm_make0 m da0) ?_
  have D := @hb _ _ hby
  have N0 := Fr.nil Z.heap.size
  have K0 : Keep h0 h0 [] := Keep.refl _ _
  obtain ⟨T432, h432, b432, q432, X432, e432, E432, A432, D432, st432⟩ := newOb X0 hx hZ hown (own_w hw (i := 7) rfl) (own_w hw (i := 8) rfl) (own_w hw (i := 9) rfl) e0 (g := (mkF m 4 #[rv da0, iv 0] [])) rfl (D d0_4) (by decide) (by decide)
  have O434 := Old0.ext O0 E432
  have K434 := Keep.ext K0 E432
  have C433 := CHr.trans C0 (CHr.ext E432 C0.1)
  have hk := Nat.le_trans hk E432.1
  have g_b432 : Z.heap.size ≤ b432 := q432 ▸ O0.1
  have z_b432 : h0.size ≤ b432 := q432 ▸ K0.1
  have ne_da0_b432 : da0 ≠ b432 := q432 ▸ Nat.ne_of_lt prem0.lt
  have f435 : Fld Z h432 b432 "java/lang/String" "value" "[B" .null := D432 (Or.inr (own_w hw (i := 22) rfl)) (ty := (.array .byte)) (by decide)
  have f436 : Fld Z h432 b432 "java/lang/String" "coder" "B" (.int 0) := D432 (Or.inr (own_w hw (i := 23) rfl)) (ty := .byte) (by decide)
  have f438 : Arv Z h432 da0 kd0 .char (8 : Int32) [(.int (z0 &&& 255)), (.int (z1 &&& 255)), (.int (z2 &&& 255)), (.int (z3 &&& 255)), (.int (z4 &&& 255)), (.int (z5 &&& 255)), (.int (z6 &&& 255)), (.int (z7 &&& 255))] (.int 0) := (Arv.ext prem0 E432)
  obtain ⟨T437, h437, k437, b437, q437, X437, e437, E437, V437, A437, st437⟩ := newAr X432 hx hZ (own_w hw (i := 0) rfl) e432 (g := (mkF m 9 #[rv da0, iv 0] [(.int 0), (.ref b432), (.ref b432)])) rfl (D d0_9) rfl (by decide) (cap := 0) (by decide) (by decide) (by decide) (by decide) (ad := "[C") (by decide)
  have O440 := Old0.ext O434 E437
  have K440 := Keep.ext K434 E437
  have C439 := CHr.trans C433 (CHr.ext E437 C433.1)
  have hk := Nat.le_trans hk E437.1
  have g_b437 : Z.heap.size ≤ b437 := q437 ▸ O434.1
  have z_b437 : h0.size ≤ b437 := q437 ▸ K434.1
  have ne_da0_b437 : da0 ≠ b437 := q437 ▸ Nat.ne_of_lt f438.lt
  have ne_b432_b437 : b432 ≠ b437 := q437 ▸ Nat.ne_of_lt A432.lt
  have f441 : Arv Z h437 b437 k437 .char (0 : Int32) [] (.int 0) := Arv.pad V437 (pad_rep [] (.int 0) 0)
  have f443 : Exa Z h437 b432 "java/lang/String" := (Exa.ext E437 A432)
  have f444 : Fld Z h437 b432 "java/lang/String" "value" "[B" .null := (Fld.ext E437 f435)
  have f445 : Fld Z h437 b432 "java/lang/String" "coder" "B" (.int 0) := (Fld.ext E437 f436)
  refine GoS.of (T' := T437) (f' := (mkF m 11 #[rv da0, iv 0] [(.ref b437), (.ref b432), (.ref b432)])) (fun _ k => XS.iloadN X0.here hx rfl (D d0_0) rfl (XS.ifNo X0.here hx rfl (D d0_1) rfl ((if0 _ _).trans (teq (by decide : (0 : Int32) = (0 : Int32))).2) (st432 _ (XS.dup X432.here hx rfl (D d0_7) rfl rfl (XS.iconst X432.here hx rfl (D d0_8) (st437 _ k)))))) ?_
  obtain ⟨T442, v442, L442, X442, q442, hS, hg442, hZ, hown, Cq442, st442⟩ := callNewS X437 hx hZ (y := own_m12) rfl hS hk hEL C439.1 hown (own_w hw (i := 10) rfl) (own_w hw (i := 11) rfl) (own_w hw (i := 9) rfl) (own_w hw (i := 12) rfl) (by decide) (rm_str_0 hw G b432 b437 k437 h437 O440 f443 f444 f445 g_b432 f441) e437 (W := 1) (by decide) (by decide) (by decide) (by decide) (g := (mkF m 11 #[rv da0, iv 0] [(.ref b437), (.ref b432), (.ref b432)])) rfl (by rw [hml]; rfl) (a := b432) (argsL := [(.ref b437)]) (rest := [(.ref b432)]) (lenOf pd43 rfl) rfl rfl (Nat.le_of_eq rfl) (D d0_11)
  obtain ⟨da_442, kd_442, rfl, N442q, K442q, p442_0, p442_1, p442_2⟩ := q442
  have N442 := Fr.app N0 N442q
  have O446 := Old0.keep O440 K442q (allS g_b432 all0)
  have K446 := Keep.trans K440 K442q (allS (Or.inr z_b432) all0)
  have C442 := CHr.trans C439 Cq442
  have hk := Nat.le_refl T442.heap.size
  have f447 : Exa Z T442.heap b432 "java/lang/String" := (Exa.keep f443 K442q)
  refine GoS.of (T' := T442) (f' := (mkF m 14 #[rv da0, iv 0] [(.ref b432)])) (fun _ k => st442 _ k) ?_
  exact GoS.retA X442 hx hlk hS hk hZ hEL C442 rfl hret rfl rfl (D d0_14) (by decide) (by decide) ⟨b432, da_442, kd_442, rfl, N442, K446, f447, p442_0, p442_1, p442_2⟩
theorem d0_15 : decode method_4_code 15 = .ok (.iload_n 1, 1) := by decide +kernel
theorem d0_16 : decode method_4_code 16 = .ok (.iconst 1, 1) := by decide +kernel
theorem d0_17 : decode method_4_code 17 = .ok (.if_icmp .ne 20, 3) := by decide +kernel
theorem d0_20 : decode method_4_code 20 = .ok (.new 22, 3) := by decide +kernel
theorem d0_23 : decode method_4_code 23 = .ok (.dup, 1) := by decide +kernel
theorem d0_24 : decode method_4_code 24 = .ok (.iconst 1, 1) := by decide +kernel
theorem d0_25 : decode method_4_code 25 = .ok (.newarray .char, 2) := by decide +kernel
theorem d0_27 : decode method_4_code 27 = .ok (.dup, 1) := by decide +kernel
theorem d0_28 : decode method_4_code 28 = .ok (.iconst 0, 1) := by decide +kernel
theorem d0_29 : decode method_4_code 29 = .ok (.aload_n 0, 1) := by decide +kernel
theorem d0_30 : decode method_4_code 30 = .ok (.iconst 0, 1) := by decide +kernel
theorem d0_31 : decode method_4_code 31 = .ok (.caload, 1) := by decide +kernel
theorem d0_32 : decode method_4_code 32 = .ok (.castore, 1) := by decide +kernel
theorem d0_33 : decode method_4_code 33 = .ok (.invokespecial 65, 3) := by decide +kernel
theorem d0_36 : decode method_4_code 36 = .ok (.areturn, 1) := by decide +kernel
theorem ef_rm_make1 (m : MethodId) (da0 : Addr) : entryFrame m #[(.ref da0), (.int (1 : Int32))] 2 = mkF m 0 #[rv da0, iv (1 : Int32)] [] := by first | (simp [entryFrame, mkF, argsToLocals, Value.category]; done) | rfl
set_option maxRecDepth 65536 in
set_option maxHeartbeats 40000000 in
theorem rm_make1 {l : Launch} {Z : State} {a0 : Array Value} {A : Nat → Addr} {KC : Nat → Cell} {IC : Nat → Int32} {VC : Nat → Value} (hw : ∀ d ∈ tables_1, d.before a0 Z = true) (G : own_Ctx Z A KC IC VC) (da0 : Addr) (kd0 : ClassId) (z0 : Int32) (z1 : Int32) (z2 : Int32) (z3 : Int32) (z4 : Int32) (z5 : Int32) (z6 : Int32) (z7 : Int32) (h0 : Heap) (O0 : Ext Z.heap h0) (prem0 : Arv Z h0 da0 kd0 .char (8 : Int32) [(.int (z0 &&& (255 : Int32))), (.int (z1 &&& (255 : Int32))), (.int (z2 &&& (255 : Int32))), (.int (z3 &&& (255 : Int32))), (.int (z4 &&& (255 : Int32))), (.int (z5 &&& (255 : Int32))), (.int (z6 &&& (255 : Int32))), (.int (z7 &&& (255 : Int32)))] (.int (0 : Int32))) :
    Ok l Z own_m44 method_4_code 2 (some (.object "java/lang/String")) ({ frames := 4, cells := 3, slots := 13, locals := 66 } : Room) #[(.ref da0), (.int (1 : Int32))] h0
      (fun v h L => ∃ so : Addr, ∃ sv : Addr, ∃ ks : ClassId, v = some (.ref so) ∧ (Fr Z.heap.size L) ∧ (Keep h0 h []) ∧ (Exa Z h so "java/lang/String") ∧ (Fld Z h so "java/lang/String" "value" "[B" (.ref sv)) ∧ (Fld Z h so "java/lang/String" "coder" "B" (.int (0 : Int32))) ∧ (Arv Z h sv ks .byte (1 : Int32) [(.int ((z0 &&& (255 : Int32)).toInt8.toInt32))] (.int (0 : Int32)))) := by
  refine Ok.mk pn45 ?_
  intro p e s m below meth c T0 hx hby hml hown hnm hret hlk hZ e0 X0
  refine Go.cast (ef_rm_make1 m da0) ?_
  have D := @hb _ _ hby
  have N0 := Fr.nil Z.heap.size
  have K0 : Keep h0 h0 [] := Keep.refl _ _
  obtain ⟨T450, h450, b450, q450, X450, e450, E450, A450, D450, st450⟩ := newOb X0 hx hZ hown (own_w hw (i := 7) rfl) (own_w hw (i := 8) rfl) (own_w hw (i := 9) rfl) e0 (g := (mkF m 20 #[rv da0, iv 1] [])) rfl (D d0_20) (by decide) (by decide)
  have O451 := Old0.ext O0 E450
  have K451 := Keep.ext K0 E450
  have g_b450 : Z.heap.size ≤ b450 := q450 ▸ O0.1
  have z_b450 : h0.size ≤ b450 := q450 ▸ K0.1
  have ne_da0_b450 : da0 ≠ b450 := q450 ▸ Nat.ne_of_lt prem0.lt
  have f452 : Fld Z h450 b450 "java/lang/String" "value" "[B" .null := D450 (Or.inr (own_w hw (i := 22) rfl)) (ty := (.array .byte)) (by decide)
  have f453 : Fld Z h450 b450 "java/lang/String" "coder" "B" (.int 0) := D450 (Or.inr (own_w hw (i := 23) rfl)) (ty := .byte) (by decide)
  have f455 : Arv Z h450 da0 kd0 .char (8 : Int32) [(.int (z0 &&& 255)), (.int (z1 &&& 255)), (.int (z2 &&& 255)), (.int (z3 &&& 255)), (.int (z4 &&& 255)), (.int (z5 &&& 255)), (.int (z6 &&& 255)), (.int (z7 &&& 255))] (.int 0) := (Arv.ext prem0 E450)
  obtain ⟨T454, h454, k454, b454, q454, X454, e454, E454, V454, A454, st454⟩ := newAr X450 hx hZ (own_w hw (i := 0) rfl) e450 (g := (mkF m 25 #[rv da0, iv 1] [(.int 1), (.ref b450), (.ref b450)])) rfl (D d0_25) rfl (by decide) (cap := 1) (by decide) (by decide) (by decide) (by decide) (ad := "[C") (by decide)
  have O456 := Old0.ext O451 E454
  have K456 := Keep.ext K451 E454
  have g_b454 : Z.heap.size ≤ b454 := q454 ▸ O451.1
  have z_b454 : h0.size ≤ b454 := q454 ▸ K451.1
  have ne_da0_b454 : da0 ≠ b454 := q454 ▸ Nat.ne_of_lt f455.lt
  have ne_b450_b454 : b450 ≠ b454 := q454 ▸ Nat.ne_of_lt A450.lt
  have f457 : Arv Z h454 b454 k454 .char (1 : Int32) [(.int 0)] (.int 0) := Arv.pad V454 (pad_rep [] (.int 0) 1)
  have f459 : Arv Z h454 da0 kd0 .char (8 : Int32) [(.int (z0 &&& 255)), (.int (z1 &&& 255)), (.int (z2 &&& 255)), (.int (z3 &&& 255)), (.int (z4 &&& 255)), (.int (z5 &&& 255)), (.int (z6 &&& 255)), (.int (z7 &&& 255))] (.int 0) := (Arv.ext f455 E454)
  obtain ⟨cl458, Ar458, qk458, S458, Ng458, H458, G458⟩ := id f459
  have hin458 := inb_of (j := (0 : Int32)) S458 ⟨by decide, by decide⟩
  obtain ⟨cl460, Ar460, qk460, S460, Ng460, H460, G460⟩ := id f457
  obtain ⟨T460, h460, X460, e460, W460, st460⟩ := stC X454 hx hZ e454 Ar460 (j := (0 : Int32)) (inb_of S460 ⟨by decide, by decide⟩) (g := (mkF m 32 #[rv da0, iv 1] [(.int (z0 &&& 255)), (.int 0), (.ref b454), (.ref b454), (.ref b450), (.ref b450)])) rfl rfl (D d0_32)
  have W460 : Wr h454 h460 b454 ((0 : Int32)).toNatClampNeg (.int (z0 &&& 255)) := Eq.mp (congrArg (fun z => Wr h454 h460 b454 ((0 : Int32)).toNatClampNeg (Value.int z)) (i2c_mask z0)) W460
  have O461 := Old0.wr O456 W460 g_b454
  have K461 := Keep.wr K456 W460 (Or.inr z_b454)
  have f460 : Arv Z h460 b454 k454 .char (1 : Int32) [(.int (z0 &&& 255))] (.int 0) := Arv.set Ar460 qk460 S460 Ng460 H460 G460 (v := (.int (z0 &&& 255))) (own_f255 z0) W460 0 rfl (Nat.le_of_ble_eq_true rfl)
  have N460 := Fr.snoc X460 N0 g_b454
  have f463 : Exa Z h460 b450 "java/lang/String" := (Exa.wr W460 (Exa.ext E454 A450))
  have f464 : Fld Z h460 b450 "java/lang/String" "value" "[B" .null := (Fld.other W460 (Fld.ext E454 f452) (Or.inl ne_b450_b454))
  have f465 : Fld Z h460 b450 "java/lang/String" "coder" "B" (.int 0) := (Fld.other W460 (Fld.ext E454 f453) (Or.inl ne_b450_b454))
  have f466 : Arv Z h460 da0 kd0 .char (8 : Int32) [(.int (z0 &&& 255)), (.int (z1 &&& 255)), (.int (z2 &&& 255)), (.int (z3 &&& 255)), (.int (z4 &&& 255)), (.int (z5 &&& 255)), (.int (z6 &&& 255)), (.int (z7 &&& 255))] (.int 0) := (Arv.other f459 W460 ne_da0_b454)
  have f467 : Exa Z h460 b454 "[C" := (Exa.wr W460 A454)
  obtain ⟨T462, v462, L462, X462, q462, st462⟩ := callNew X460 hx hZ (y := own_m12) rfl hown (own_w hw (i := 10) rfl) (own_w hw (i := 11) rfl) (own_w hw (i := 9) rfl) (own_w hw (i := 12) rfl) (by decide) (rm_str hw G b450 b454 ((1 : Int32)) k454 (([(z0 &&& 255)] : List Int32)) h460 O461 (rfl) (And.intro (own_le255 _) (trivial)) (Nat.le_of_ble_eq_true rfl) (Nat.succ_pos _) f463 f464 f465 g_b450 f460 ne_b450_b454) e460 (W := 1) (by decide) (by decide) (by decide) (by decide) (g := (mkF m 33 #[rv da0, iv 1] [(.ref b454), (.ref b450), (.ref b450)])) rfl (by rw [hml]; rfl) (a := b450) (argsL := [(.ref b454)]) (rest := [(.ref b450)]) (lenOf pd43 rfl) rfl rfl (Nat.le_of_eq rfl) (D d0_33)
  obtain ⟨da_462, kd_462, rfl, N462q, K462q, p462_0, p462_1, p462_2, p462_3, p462_4⟩ := q462
  have N462 := Fr.app N460 N462q
  have O468 := Old0.keep O461 K462q (allS g_b450 all0)
  have K468 := Keep.trans K461 K462q (allS (Or.inr z_b450) all0)
  have z_da_462 : h0.size ≤ da_462 := Nat.le_trans K461.1 p462_0
  have g_da_462 : Z.heap.size ≤ da_462 := Nat.le_trans O461.1 p462_0
  have ne_da0_da_462 : da0 ≠ da_462 := Nat.ne_of_lt (Nat.lt_of_lt_of_le f466.lt p462_0)
  have ne_b450_da_462 : b450 ≠ da_462 := Nat.ne_of_lt (Nat.lt_of_lt_of_le f463.lt p462_0)
  have ne_b454_da_462 : b454 ≠ da_462 := Nat.ne_of_lt (Nat.lt_of_lt_of_le f467.lt p462_0)
  have p462_3 : Arv Z T462.heap da_462 kd_462 .byte (1 : Int32) [(.int ((z0 &&& 255).toInt8.toInt32))] (.int 0) := p462_3
  have f469 : Exa Z T462.heap b450 "java/lang/String" := (Exa.keep f463 K462q)
  refine Go.of (T' := T462) (f' := (mkF m 36 #[rv da0, iv 1] [(.ref b450)])) (fun _ k => XS.iloadN X0.here hx rfl (D d0_0) rfl (XS.ifYes X0.here hx rfl (pc0 := 1) (pc' := 15) rfl (D d0_1) rfl ((if0 _ _).trans (feq (by decide : ¬ ((1 : Int32) = (0 : Int32)))).2) (by decide) (by decide) (XS.iloadN X0.here hx rfl (D d0_15) rfl (XS.iconst X0.here hx rfl (D d0_16) (XS.icmpNo X0.here hx rfl (D d0_17) rfl (teq (by decide : (1 : Int32) = (1 : Int32))).2 (st450 _ (XS.dup X450.here hx rfl (D d0_23) rfl rfl (XS.iconst X450.here hx rfl (D d0_24) (st454 _ (XS.dup X454.here hx rfl (D d0_27) rfl rfl (XS.iconst X454.here hx rfl (D d0_28) (XS.aloadN X454.here hx rfl (D d0_29) rfl rfl (XS.iconst X454.here hx rfl (D d0_30) (X454.caload hx (j := (0 : Int32)) (v := (.int (z0 &&& 255))) (by rw [e454]; exact Ar458.1) (State.isArrayOf_alike hZ.alike Ar458.2.1) Ar458.2.2 hin458 (H458.at hin458 rfl) (g := (mkF m 31 #[rv da0, iv 1] [(.int 0), (.ref da0), (.int 0), (.ref b454), (.ref b454), (.ref b450), (.ref b450)])) rfl rfl (D d0_31) _ (st460 _ (st462 _ k)))))))))))))))) ?_
  exact Go.retA X462 hx hlk hret rfl rfl (D d0_36) (by decide) (by decide) ⟨b450, da_462, kd_462, rfl, N462, K468, f469, p462_1, p462_2, p462_3⟩
theorem d0_37 : decode method_4_code 37 = .ok (.iload_n 1, 1) := by decide +kernel
theorem d0_38 : decode method_4_code 38 = .ok (.iconst 2, 1) := by decide +kernel
theorem d0_39 : decode method_4_code 39 = .ok (.if_icmp .ne 26, 3) := by decide +kernel
theorem d0_42 : decode method_4_code 42 = .ok (.new 22, 3) := by decide +kernel
theorem d0_45 : decode method_4_code 45 = .ok (.dup, 1) := by decide +kernel
theorem d0_46 : decode method_4_code 46 = .ok (.iconst 2, 1) := by decide +kernel
theorem d0_47 : decode method_4_code 47 = .ok (.newarray .char, 2) := by decide +kernel
theorem d0_49 : decode method_4_code 49 = .ok (.dup, 1) := by decide +kernel
theorem d0_50 : decode method_4_code 50 = .ok (.iconst 0, 1) := by decide +kernel
theorem d0_51 : decode method_4_code 51 = .ok (.aload_n 0, 1) := by decide +kernel
theorem d0_52 : decode method_4_code 52 = .ok (.iconst 0, 1) := by decide +kernel
theorem d0_53 : decode method_4_code 53 = .ok (.caload, 1) := by decide +kernel
theorem d0_54 : decode method_4_code 54 = .ok (.castore, 1) := by decide +kernel
theorem d0_55 : decode method_4_code 55 = .ok (.dup, 1) := by decide +kernel
theorem d0_56 : decode method_4_code 56 = .ok (.iconst 1, 1) := by decide +kernel
theorem d0_57 : decode method_4_code 57 = .ok (.aload_n 0, 1) := by decide +kernel
theorem d0_58 : decode method_4_code 58 = .ok (.iconst 1, 1) := by decide +kernel
theorem d0_59 : decode method_4_code 59 = .ok (.caload, 1) := by decide +kernel
theorem d0_60 : decode method_4_code 60 = .ok (.castore, 1) := by decide +kernel
theorem d0_61 : decode method_4_code 61 = .ok (.invokespecial 65, 3) := by decide +kernel
theorem d0_64 : decode method_4_code 64 = .ok (.areturn, 1) := by decide +kernel
theorem ef_rm_make2 (m : MethodId) (da0 : Addr) : entryFrame m #[(.ref da0), (.int (2 : Int32))] 2 = mkF m 0 #[rv da0, iv (2 : Int32)] [] := by first | (simp [entryFrame, mkF, argsToLocals, Value.category]; done) | rfl
set_option maxRecDepth 65536 in
set_option maxHeartbeats 40000000 in
theorem rm_make2 {l : Launch} {Z : State} {a0 : Array Value} {A : Nat → Addr} {KC : Nat → Cell} {IC : Nat → Int32} {VC : Nat → Value} (hw : ∀ d ∈ tables_1, d.before a0 Z = true) (G : own_Ctx Z A KC IC VC) (da0 : Addr) (kd0 : ClassId) (z0 : Int32) (z1 : Int32) (z2 : Int32) (z3 : Int32) (z4 : Int32) (z5 : Int32) (z6 : Int32) (z7 : Int32) (h0 : Heap) (O0 : Ext Z.heap h0) (prem0 : Arv Z h0 da0 kd0 .char (8 : Int32) [(.int (z0 &&& (255 : Int32))), (.int (z1 &&& (255 : Int32))), (.int (z2 &&& (255 : Int32))), (.int (z3 &&& (255 : Int32))), (.int (z4 &&& (255 : Int32))), (.int (z5 &&& (255 : Int32))), (.int (z6 &&& (255 : Int32))), (.int (z7 &&& (255 : Int32)))] (.int (0 : Int32))) :
    Ok l Z own_m44 method_4_code 2 (some (.object "java/lang/String")) ({ frames := 4, cells := 3, slots := 14, locals := 66 } : Room) #[(.ref da0), (.int (2 : Int32))] h0
      (fun v h L => ∃ so : Addr, ∃ sv : Addr, ∃ ks : ClassId, v = some (.ref so) ∧ (Fr Z.heap.size L) ∧ (Keep h0 h []) ∧ (Exa Z h so "java/lang/String") ∧ (Fld Z h so "java/lang/String" "value" "[B" (.ref sv)) ∧ (Fld Z h so "java/lang/String" "coder" "B" (.int (0 : Int32))) ∧ (Arv Z h sv ks .byte (2 : Int32) [(.int ((z0 &&& (255 : Int32)).toInt8.toInt32)), (.int ((z1 &&& (255 : Int32)).toInt8.toInt32))] (.int (0 : Int32)))) := by
  refine Ok.mk pn45 ?_
  intro p e s m below meth c T0 hx hby hml hown hnm hret hlk hZ e0 X0
  refine Go.cast (ef_rm_make2 m da0) ?_
  have D := @hb _ _ hby
  have N0 := Fr.nil Z.heap.size
  have K0 : Keep h0 h0 [] := Keep.refl _ _
  obtain ⟨T473, h473, b473, q473, X473, e473, E473, A473, D473, st473⟩ := newOb X0 hx hZ hown (own_w hw (i := 7) rfl) (own_w hw (i := 8) rfl) (own_w hw (i := 9) rfl) e0 (g := (mkF m 42 #[rv da0, iv 2] [])) rfl (D d0_42) (by decide) (by decide)
  have O474 := Old0.ext O0 E473
  have K474 := Keep.ext K0 E473
  have g_b473 : Z.heap.size ≤ b473 := q473 ▸ O0.1
  have z_b473 : h0.size ≤ b473 := q473 ▸ K0.1
  have ne_da0_b473 : da0 ≠ b473 := q473 ▸ Nat.ne_of_lt prem0.lt
  have f475 : Fld Z h473 b473 "java/lang/String" "value" "[B" .null := D473 (Or.inr (own_w hw (i := 22) rfl)) (ty := (.array .byte)) (by decide)
  have f476 : Fld Z h473 b473 "java/lang/String" "coder" "B" (.int 0) := D473 (Or.inr (own_w hw (i := 23) rfl)) (ty := .byte) (by decide)
  have f478 : Arv Z h473 da0 kd0 .char (8 : Int32) [(.int (z0 &&& 255)), (.int (z1 &&& 255)), (.int (z2 &&& 255)), (.int (z3 &&& 255)), (.int (z4 &&& 255)), (.int (z5 &&& 255)), (.int (z6 &&& 255)), (.int (z7 &&& 255))] (.int 0) := (Arv.ext prem0 E473)
  obtain ⟨T477, h477, k477, b477, q477, X477, e477, E477, V477, A477, st477⟩ := newAr X473 hx hZ (own_w hw (i := 0) rfl) e473 (g := (mkF m 47 #[rv da0, iv 2] [(.int 2), (.ref b473), (.ref b473)])) rfl (D d0_47) rfl (by decide) (cap := 2) (by decide) (by decide) (by decide) (by decide) (ad := "[C") (by decide)
  have O479 := Old0.ext O474 E477
  have K479 := Keep.ext K474 E477
  have g_b477 : Z.heap.size ≤ b477 := q477 ▸ O474.1
  have z_b477 : h0.size ≤ b477 := q477 ▸ K474.1
  have ne_da0_b477 : da0 ≠ b477 := q477 ▸ Nat.ne_of_lt f478.lt
  have ne_b473_b477 : b473 ≠ b477 := q477 ▸ Nat.ne_of_lt A473.lt
  have f480 : Arv Z h477 b477 k477 .char (2 : Int32) [(.int 0), (.int 0)] (.int 0) := Arv.pad V477 (pad_rep [] (.int 0) 2)
  have f482 : Arv Z h477 da0 kd0 .char (8 : Int32) [(.int (z0 &&& 255)), (.int (z1 &&& 255)), (.int (z2 &&& 255)), (.int (z3 &&& 255)), (.int (z4 &&& 255)), (.int (z5 &&& 255)), (.int (z6 &&& 255)), (.int (z7 &&& 255))] (.int 0) := (Arv.ext f478 E477)
  obtain ⟨cl481, Ar481, qk481, S481, Ng481, H481, G481⟩ := id f482
  have hin481 := inb_of (j := (0 : Int32)) S481 ⟨by decide, by decide⟩
  obtain ⟨cl483, Ar483, qk483, S483, Ng483, H483, G483⟩ := id f480
  obtain ⟨T483, h483, X483, e483, W483, st483⟩ := stC X477 hx hZ e477 Ar483 (j := (0 : Int32)) (inb_of S483 ⟨by decide, by decide⟩) (g := (mkF m 54 #[rv da0, iv 2] [(.int (z0 &&& 255)), (.int 0), (.ref b477), (.ref b477), (.ref b473), (.ref b473)])) rfl rfl (D d0_54)
  have W483 : Wr h477 h483 b477 ((0 : Int32)).toNatClampNeg (.int (z0 &&& 255)) := Eq.mp (congrArg (fun z => Wr h477 h483 b477 ((0 : Int32)).toNatClampNeg (Value.int z)) (i2c_mask z0)) W483
  have O484 := Old0.wr O479 W483 g_b477
  have K484 := Keep.wr K479 W483 (Or.inr z_b477)
  have f483 : Arv Z h483 b477 k477 .char (2 : Int32) [(.int (z0 &&& 255)), (.int 0)] (.int 0) := Arv.set Ar483 qk483 S483 Ng483 H483 G483 (v := (.int (z0 &&& 255))) (own_f255 z0) W483 0 rfl (Nat.le_of_ble_eq_true rfl)
  have N483 := Fr.snoc X483 N0 g_b477
  have f486 : Arv Z h483 da0 kd0 .char (8 : Int32) [(.int (z0 &&& 255)), (.int (z1 &&& 255)), (.int (z2 &&& 255)), (.int (z3 &&& 255)), (.int (z4 &&& 255)), (.int (z5 &&& 255)), (.int (z6 &&& 255)), (.int (z7 &&& 255))] (.int 0) := (Arv.other f482 W483 ne_da0_b477)
  obtain ⟨cl485, Ar485, qk485, S485, Ng485, H485, G485⟩ := id f486
  have hin485 := inb_of (j := (1 : Int32)) S485 ⟨by decide, by decide⟩
  obtain ⟨cl487, Ar487, qk487, S487, Ng487, H487, G487⟩ := id f483
  obtain ⟨T487, h487, X487, e487, W487, st487⟩ := stC X483 hx hZ e483 Ar487 (j := (1 : Int32)) (inb_of S487 ⟨by decide, by decide⟩) (g := (mkF m 60 #[rv da0, iv 2] [(.int (z1 &&& 255)), (.int 1), (.ref b477), (.ref b477), (.ref b473), (.ref b473)])) rfl rfl (D d0_60)
  have W487 : Wr h483 h487 b477 ((1 : Int32)).toNatClampNeg (.int (z1 &&& 255)) := Eq.mp (congrArg (fun z => Wr h483 h487 b477 ((1 : Int32)).toNatClampNeg (Value.int z)) (i2c_mask z1)) W487
  have O488 := Old0.wr O484 W487 g_b477
  have K488 := Keep.wr K484 W487 (Or.inr z_b477)
  have f487 : Arv Z h487 b477 k477 .char (2 : Int32) [(.int (z0 &&& 255)), (.int (z1 &&& 255))] (.int 0) := Arv.set Ar487 qk487 S487 Ng487 H487 G487 (v := (.int (z1 &&& 255))) (own_f255 z1) W487 1 rfl (Nat.le_of_ble_eq_true rfl)
  have N487 := Fr.snoc X487 N483 g_b477
  refine Go.of (T' := T487) (f' := (mkF m 61 #[rv da0, iv 2] [(.ref b477), (.ref b473), (.ref b473)])) (fun _ k => XS.iloadN X0.here hx rfl (D d0_0) rfl (XS.ifYes X0.here hx rfl (pc0 := 1) (pc' := 15) rfl (D d0_1) rfl ((if0 _ _).trans (feq (by decide : ¬ ((2 : Int32) = (0 : Int32)))).2) (by decide) (by decide) (XS.iloadN X0.here hx rfl (D d0_15) rfl (XS.iconst X0.here hx rfl (D d0_16) (XS.icmpYes X0.here hx rfl (pc0 := 17) (pc' := 37) rfl (D d0_17) rfl (feq (by decide : ¬ ((2 : Int32) = (1 : Int32)))).2 (by decide) (by decide) (XS.iloadN X0.here hx rfl (D d0_37) rfl (XS.iconst X0.here hx rfl (D d0_38) (XS.icmpNo X0.here hx rfl (D d0_39) rfl (teq (by decide : (2 : Int32) = (2 : Int32))).2 (st473 _ (XS.dup X473.here hx rfl (D d0_45) rfl rfl (XS.iconst X473.here hx rfl (D d0_46) (st477 _ (XS.dup X477.here hx rfl (D d0_49) rfl rfl (XS.iconst X477.here hx rfl (D d0_50) (XS.aloadN X477.here hx rfl (D d0_51) rfl rfl (XS.iconst X477.here hx rfl (D d0_52) (X477.caload hx (j := (0 : Int32)) (v := (.int (z0 &&& 255))) (by rw [e477]; exact Ar481.1) (State.isArrayOf_alike hZ.alike Ar481.2.1) Ar481.2.2 hin481 (H481.at hin481 rfl) (g := (mkF m 53 #[rv da0, iv 2] [(.int 0), (.ref da0), (.int 0), (.ref b477), (.ref b477), (.ref b473), (.ref b473)])) rfl rfl (D d0_53) _ (st483 _ (XS.dup X483.here hx rfl (D d0_55) rfl rfl (XS.iconst X483.here hx rfl (D d0_56) (XS.aloadN X483.here hx rfl (D d0_57) rfl rfl (XS.iconst X483.here hx rfl (D d0_58) (X483.caload hx (j := (1 : Int32)) (v := (.int (z1 &&& 255))) (by rw [e483]; exact Ar485.1) (State.isArrayOf_alike hZ.alike Ar485.2.1) Ar485.2.2 hin485 (H485.at hin485 rfl) (g := (mkF m 59 #[rv da0, iv 2] [(.int 1), (.ref da0), (.int 1), (.ref b477), (.ref b477), (.ref b473), (.ref b473)])) rfl rfl (D d0_59) _ (st487 _ k)))))))))))))))))))))))) ?_
  have f490 : Exa Z h487 b473 "java/lang/String" := (Exa.wr W487 (Exa.wr W483 (Exa.ext E477 A473)))
  have f491 : Fld Z h487 b473 "java/lang/String" "value" "[B" .null := (Fld.other W487 (Fld.other W483 (Fld.ext E477 f475) (Or.inl ne_b473_b477)) (Or.inl ne_b473_b477))
  have f492 : Fld Z h487 b473 "java/lang/String" "coder" "B" (.int 0) := (Fld.other W487 (Fld.other W483 (Fld.ext E477 f476) (Or.inl ne_b473_b477)) (Or.inl ne_b473_b477))
  have f493 : Arv Z h487 da0 kd0 .char (8 : Int32) [(.int (z0 &&& 255)), (.int (z1 &&& 255)), (.int (z2 &&& 255)), (.int (z3 &&& 255)), (.int (z4 &&& 255)), (.int (z5 &&& 255)), (.int (z6 &&& 255)), (.int (z7 &&& 255))] (.int 0) := (Arv.other f486 W487 ne_da0_b477)
  have f494 : Exa Z h487 b477 "[C" := (Exa.wr W487 (Exa.wr W483 A477))
  obtain ⟨T489, v489, L489, X489, q489, st489⟩ := callNew X487 hx hZ (y := own_m12) rfl hown (own_w hw (i := 10) rfl) (own_w hw (i := 11) rfl) (own_w hw (i := 9) rfl) (own_w hw (i := 12) rfl) (by decide) (rm_str hw G b473 b477 ((2 : Int32)) k477 (([(z0 &&& 255), (z1 &&& 255)] : List Int32)) h487 O488 (rfl) (And.intro (own_le255 _) (And.intro (own_le255 _) (trivial))) (Nat.le_of_ble_eq_true rfl) (Nat.succ_pos _) f490 f491 f492 g_b473 f487 ne_b473_b477) e487 (W := 1) (by decide) (by decide) (by decide) (by decide) (g := (mkF m 61 #[rv da0, iv 2] [(.ref b477), (.ref b473), (.ref b473)])) rfl (by rw [hml]; rfl) (a := b473) (argsL := [(.ref b477)]) (rest := [(.ref b473)]) (lenOf pd43 rfl) rfl rfl (Nat.le_of_eq rfl) (D d0_61)
  obtain ⟨da_489, kd_489, rfl, N489q, K489q, p489_0, p489_1, p489_2, p489_3, p489_4⟩ := q489
  have N489 := Fr.app N487 N489q
  have O495 := Old0.keep O488 K489q (allS g_b473 all0)
  have K495 := Keep.trans K488 K489q (allS (Or.inr z_b473) all0)
  have z_da_489 : h0.size ≤ da_489 := Nat.le_trans K488.1 p489_0
  have g_da_489 : Z.heap.size ≤ da_489 := Nat.le_trans O488.1 p489_0
  have ne_da0_da_489 : da0 ≠ da_489 := Nat.ne_of_lt (Nat.lt_of_lt_of_le f493.lt p489_0)
  have ne_b473_da_489 : b473 ≠ da_489 := Nat.ne_of_lt (Nat.lt_of_lt_of_le f490.lt p489_0)
  have ne_b477_da_489 : b477 ≠ da_489 := Nat.ne_of_lt (Nat.lt_of_lt_of_le f494.lt p489_0)
  have p489_3 : Arv Z T489.heap da_489 kd_489 .byte (2 : Int32) [(.int ((z0 &&& 255).toInt8.toInt32)), (.int ((z1 &&& 255).toInt8.toInt32))] (.int 0) := p489_3
  have f496 : Exa Z T489.heap b473 "java/lang/String" := (Exa.keep f490 K489q)
  refine Go.of (T' := T489) (f' := (mkF m 64 #[rv da0, iv 2] [(.ref b473)])) (fun _ k => st489 _ k) ?_
  exact Go.retA X489 hx hlk hret rfl rfl (D d0_64) (by decide) (by decide) ⟨b473, da_489, kd_489, rfl, N489, K495, f496, p489_1, p489_2, p489_3⟩
theorem d0_65 : decode method_4_code 65 = .ok (.iload_n 1, 1) := by decide +kernel
theorem d0_66 : decode method_4_code 66 = .ok (.iconst 3, 1) := by decide +kernel
theorem d0_67 : decode method_4_code 67 = .ok (.if_icmp .ne 32, 3) := by decide +kernel
theorem d0_70 : decode method_4_code 70 = .ok (.new 22, 3) := by decide +kernel
theorem d0_73 : decode method_4_code 73 = .ok (.dup, 1) := by decide +kernel
theorem d0_74 : decode method_4_code 74 = .ok (.iconst 3, 1) := by decide +kernel
theorem d0_75 : decode method_4_code 75 = .ok (.newarray .char, 2) := by decide +kernel
theorem d0_77 : decode method_4_code 77 = .ok (.dup, 1) := by decide +kernel
theorem d0_78 : decode method_4_code 78 = .ok (.iconst 0, 1) := by decide +kernel
theorem d0_79 : decode method_4_code 79 = .ok (.aload_n 0, 1) := by decide +kernel
theorem d0_80 : decode method_4_code 80 = .ok (.iconst 0, 1) := by decide +kernel
theorem d0_81 : decode method_4_code 81 = .ok (.caload, 1) := by decide +kernel
theorem d0_82 : decode method_4_code 82 = .ok (.castore, 1) := by decide +kernel
theorem d0_83 : decode method_4_code 83 = .ok (.dup, 1) := by decide +kernel
theorem d0_84 : decode method_4_code 84 = .ok (.iconst 1, 1) := by decide +kernel
theorem d0_85 : decode method_4_code 85 = .ok (.aload_n 0, 1) := by decide +kernel
theorem d0_86 : decode method_4_code 86 = .ok (.iconst 1, 1) := by decide +kernel
theorem d0_87 : decode method_4_code 87 = .ok (.caload, 1) := by decide +kernel
theorem d0_88 : decode method_4_code 88 = .ok (.castore, 1) := by decide +kernel
theorem d0_89 : decode method_4_code 89 = .ok (.dup, 1) := by decide +kernel
theorem d0_90 : decode method_4_code 90 = .ok (.iconst 2, 1) := by decide +kernel
theorem d0_91 : decode method_4_code 91 = .ok (.aload_n 0, 1) := by decide +kernel
theorem d0_92 : decode method_4_code 92 = .ok (.iconst 2, 1) := by decide +kernel
theorem d0_93 : decode method_4_code 93 = .ok (.caload, 1) := by decide +kernel
theorem d0_94 : decode method_4_code 94 = .ok (.castore, 1) := by decide +kernel
theorem d0_95 : decode method_4_code 95 = .ok (.invokespecial 65, 3) := by decide +kernel
theorem d0_98 : decode method_4_code 98 = .ok (.areturn, 1) := by decide +kernel
theorem ef_rm_make3 (m : MethodId) (da0 : Addr) : entryFrame m #[(.ref da0), (.int (3 : Int32))] 2 = mkF m 0 #[rv da0, iv (3 : Int32)] [] := by first | (simp [entryFrame, mkF, argsToLocals, Value.category]; done) | rfl
set_option maxRecDepth 65536 in
set_option maxHeartbeats 40000000 in
theorem rm_make3 {l : Launch} {Z : State} {a0 : Array Value} {A : Nat → Addr} {KC : Nat → Cell} {IC : Nat → Int32} {VC : Nat → Value} (hw : ∀ d ∈ tables_1, d.before a0 Z = true) (G : own_Ctx Z A KC IC VC) (da0 : Addr) (kd0 : ClassId) (z0 : Int32) (z1 : Int32) (z2 : Int32) (z3 : Int32) (z4 : Int32) (z5 : Int32) (z6 : Int32) (z7 : Int32) (h0 : Heap) (O0 : Ext Z.heap h0) (prem0 : Arv Z h0 da0 kd0 .char (8 : Int32) [(.int (z0 &&& (255 : Int32))), (.int (z1 &&& (255 : Int32))), (.int (z2 &&& (255 : Int32))), (.int (z3 &&& (255 : Int32))), (.int (z4 &&& (255 : Int32))), (.int (z5 &&& (255 : Int32))), (.int (z6 &&& (255 : Int32))), (.int (z7 &&& (255 : Int32)))] (.int (0 : Int32))) :
    Ok l Z own_m44 method_4_code 2 (some (.object "java/lang/String")) ({ frames := 4, cells := 3, slots := 15, locals := 66 } : Room) #[(.ref da0), (.int (3 : Int32))] h0
      (fun v h L => ∃ so : Addr, ∃ sv : Addr, ∃ ks : ClassId, v = some (.ref so) ∧ (Fr Z.heap.size L) ∧ (Keep h0 h []) ∧ (Exa Z h so "java/lang/String") ∧ (Fld Z h so "java/lang/String" "value" "[B" (.ref sv)) ∧ (Fld Z h so "java/lang/String" "coder" "B" (.int (0 : Int32))) ∧ (Arv Z h sv ks .byte (3 : Int32) [(.int ((z0 &&& (255 : Int32)).toInt8.toInt32)), (.int ((z1 &&& (255 : Int32)).toInt8.toInt32)), (.int ((z2 &&& (255 : Int32)).toInt8.toInt32))] (.int (0 : Int32)))) := by
  refine Ok.mk pn45 ?_
  intro p e s m below meth c T0 hx hby hml hown hnm hret hlk hZ e0 X0
  refine Go.cast (ef_rm_make3 m da0) ?_
  have D := @hb _ _ hby
  have N0 := Fr.nil Z.heap.size
  have K0 : Keep h0 h0 [] := Keep.refl _ _
  obtain ⟨T501, h501, b501, q501, X501, e501, E501, A501, D501, st501⟩ := newOb X0 hx hZ hown (own_w hw (i := 7) rfl) (own_w hw (i := 8) rfl) (own_w hw (i := 9) rfl) e0 (g := (mkF m 70 #[rv da0, iv 3] [])) rfl (D d0_70) (by decide) (by decide)
  have O502 := Old0.ext O0 E501
  have K502 := Keep.ext K0 E501
  have g_b501 : Z.heap.size ≤ b501 := q501 ▸ O0.1
  have z_b501 : h0.size ≤ b501 := q501 ▸ K0.1
  have ne_da0_b501 : da0 ≠ b501 := q501 ▸ Nat.ne_of_lt prem0.lt
  have f503 : Fld Z h501 b501 "java/lang/String" "value" "[B" .null := D501 (Or.inr (own_w hw (i := 22) rfl)) (ty := (.array .byte)) (by decide)
  have f504 : Fld Z h501 b501 "java/lang/String" "coder" "B" (.int 0) := D501 (Or.inr (own_w hw (i := 23) rfl)) (ty := .byte) (by decide)
  have f506 : Arv Z h501 da0 kd0 .char (8 : Int32) [(.int (z0 &&& 255)), (.int (z1 &&& 255)), (.int (z2 &&& 255)), (.int (z3 &&& 255)), (.int (z4 &&& 255)), (.int (z5 &&& 255)), (.int (z6 &&& 255)), (.int (z7 &&& 255))] (.int 0) := (Arv.ext prem0 E501)
  obtain ⟨T505, h505, k505, b505, q505, X505, e505, E505, V505, A505, st505⟩ := newAr X501 hx hZ (own_w hw (i := 0) rfl) e501 (g := (mkF m 75 #[rv da0, iv 3] [(.int 3), (.ref b501), (.ref b501)])) rfl (D d0_75) rfl (by decide) (cap := 3) (by decide) (by decide) (by decide) (by decide) (ad := "[C") (by decide)
  have O507 := Old0.ext O502 E505
  have K507 := Keep.ext K502 E505
  have g_b505 : Z.heap.size ≤ b505 := q505 ▸ O502.1
  have z_b505 : h0.size ≤ b505 := q505 ▸ K502.1
  have ne_da0_b505 : da0 ≠ b505 := q505 ▸ Nat.ne_of_lt f506.lt
  have ne_b501_b505 : b501 ≠ b505 := q505 ▸ Nat.ne_of_lt A501.lt
  have f508 : Arv Z h505 b505 k505 .char (3 : Int32) [(.int 0), (.int 0), (.int 0)] (.int 0) := Arv.pad V505 (pad_rep [] (.int 0) 3)
  have f510 : Arv Z h505 da0 kd0 .char (8 : Int32) [(.int (z0 &&& 255)), (.int (z1 &&& 255)), (.int (z2 &&& 255)), (.int (z3 &&& 255)), (.int (z4 &&& 255)), (.int (z5 &&& 255)), (.int (z6 &&& 255)), (.int (z7 &&& 255))] (.int 0) := (Arv.ext f506 E505)
  obtain ⟨cl509, Ar509, qk509, S509, Ng509, H509, G509⟩ := id f510
  have hin509 := inb_of (j := (0 : Int32)) S509 ⟨by decide, by decide⟩
  obtain ⟨cl511, Ar511, qk511, S511, Ng511, H511, G511⟩ := id f508
  obtain ⟨T511, h511, X511, e511, W511, st511⟩ := stC X505 hx hZ e505 Ar511 (j := (0 : Int32)) (inb_of S511 ⟨by decide, by decide⟩) (g := (mkF m 82 #[rv da0, iv 3] [(.int (z0 &&& 255)), (.int 0), (.ref b505), (.ref b505), (.ref b501), (.ref b501)])) rfl rfl (D d0_82)
  have W511 : Wr h505 h511 b505 ((0 : Int32)).toNatClampNeg (.int (z0 &&& 255)) := Eq.mp (congrArg (fun z => Wr h505 h511 b505 ((0 : Int32)).toNatClampNeg (Value.int z)) (i2c_mask z0)) W511
  have O512 := Old0.wr O507 W511 g_b505
  have K512 := Keep.wr K507 W511 (Or.inr z_b505)
  have f511 : Arv Z h511 b505 k505 .char (3 : Int32) [(.int (z0 &&& 255)), (.int 0), (.int 0)] (.int 0) := Arv.set Ar511 qk511 S511 Ng511 H511 G511 (v := (.int (z0 &&& 255))) (own_f255 z0) W511 0 rfl (Nat.le_of_ble_eq_true rfl)
  have N511 := Fr.snoc X511 N0 g_b505
  refine Go.of (T' := T511) (f' := (mkF m 86 #[rv da0, iv 3] [(.ref da0), (.int 1), (.ref b505), (.ref b505), (.ref b501), (.ref b501)])) (fun _ k => XS.iloadN X0.here hx rfl (D d0_0) rfl (XS.ifYes X0.here hx rfl (pc0 := 1) (pc' := 15) rfl (D d0_1) rfl ((if0 _ _).trans (feq (by decide : ¬ ((3 : Int32) = (0 : Int32)))).2) (by decide) (by decide) (XS.iloadN X0.here hx rfl (D d0_15) rfl (XS.iconst X0.here hx rfl (D d0_16) (XS.icmpYes X0.here hx rfl (pc0 := 17) (pc' := 37) rfl (D d0_17) rfl (feq (by decide : ¬ ((3 : Int32) = (1 : Int32)))).2 (by decide) (by decide) (XS.iloadN X0.here hx rfl (D d0_37) rfl (XS.iconst X0.here hx rfl (D d0_38) (XS.icmpYes X0.here hx rfl (pc0 := 39) (pc' := 65) rfl (D d0_39) rfl (feq (by decide : ¬ ((3 : Int32) = (2 : Int32)))).2 (by decide) (by decide) (XS.iloadN X0.here hx rfl (D d0_65) rfl (XS.iconst X0.here hx rfl (D d0_66) (XS.icmpNo X0.here hx rfl (D d0_67) rfl (teq (by decide : (3 : Int32) = (3 : Int32))).2 (st501 _ (XS.dup X501.here hx rfl (D d0_73) rfl rfl (XS.iconst X501.here hx rfl (D d0_74) (st505 _ (XS.dup X505.here hx rfl (D d0_77) rfl rfl (XS.iconst X505.here hx rfl (D d0_78) (XS.aloadN X505.here hx rfl (D d0_79) rfl rfl (XS.iconst X505.here hx rfl (D d0_80) (X505.caload hx (j := (0 : Int32)) (v := (.int (z0 &&& 255))) (by rw [e505]; exact Ar509.1) (State.isArrayOf_alike hZ.alike Ar509.2.1) Ar509.2.2 hin509 (H509.at hin509 rfl) (g := (mkF m 81 #[rv da0, iv 3] [(.int 0), (.ref da0), (.int 0), (.ref b505), (.ref b505), (.ref b501), (.ref b501)])) rfl rfl (D d0_81) _ (st511 _ (XS.dup X511.here hx rfl (D d0_83) rfl rfl (XS.iconst X511.here hx rfl (D d0_84) (XS.aloadN X511.here hx rfl (D d0_85) rfl rfl k)))))))))))))))))))))))) ?_
  have f514 : Arv Z h511 da0 kd0 .char (8 : Int32) [(.int (z0 &&& 255)), (.int (z1 &&& 255)), (.int (z2 &&& 255)), (.int (z3 &&& 255)), (.int (z4 &&& 255)), (.int (z5 &&& 255)), (.int (z6 &&& 255)), (.int (z7 &&& 255))] (.int 0) := (Arv.other f510 W511 ne_da0_b505)
  obtain ⟨cl513, Ar513, qk513, S513, Ng513, H513, G513⟩ := id f514
  have hin513 := inb_of (j := (1 : Int32)) S513 ⟨by decide, by decide⟩
  obtain ⟨cl515, Ar515, qk515, S515, Ng515, H515, G515⟩ := id f511
  obtain ⟨T515, h515, X515, e515, W515, st515⟩ := stC X511 hx hZ e511 Ar515 (j := (1 : Int32)) (inb_of S515 ⟨by decide, by decide⟩) (g := (mkF m 88 #[rv da0, iv 3] [(.int (z1 &&& 255)), (.int 1), (.ref b505), (.ref b505), (.ref b501), (.ref b501)])) rfl rfl (D d0_88)
  have W515 : Wr h511 h515 b505 ((1 : Int32)).toNatClampNeg (.int (z1 &&& 255)) := Eq.mp (congrArg (fun z => Wr h511 h515 b505 ((1 : Int32)).toNatClampNeg (Value.int z)) (i2c_mask z1)) W515
  have O516 := Old0.wr O512 W515 g_b505
  have K516 := Keep.wr K512 W515 (Or.inr z_b505)
  have f515 : Arv Z h515 b505 k505 .char (3 : Int32) [(.int (z0 &&& 255)), (.int (z1 &&& 255)), (.int 0)] (.int 0) := Arv.set Ar515 qk515 S515 Ng515 H515 G515 (v := (.int (z1 &&& 255))) (own_f255 z1) W515 1 rfl (Nat.le_of_ble_eq_true rfl)
  have N515 := Fr.snoc X515 N511 g_b505
  have f518 : Arv Z h515 da0 kd0 .char (8 : Int32) [(.int (z0 &&& 255)), (.int (z1 &&& 255)), (.int (z2 &&& 255)), (.int (z3 &&& 255)), (.int (z4 &&& 255)), (.int (z5 &&& 255)), (.int (z6 &&& 255)), (.int (z7 &&& 255))] (.int 0) := (Arv.other f514 W515 ne_da0_b505)
  obtain ⟨cl517, Ar517, qk517, S517, Ng517, H517, G517⟩ := id f518
  have hin517 := inb_of (j := (2 : Int32)) S517 ⟨by decide, by decide⟩
  obtain ⟨cl519, Ar519, qk519, S519, Ng519, H519, G519⟩ := id f515
  obtain ⟨T519, h519, X519, e519, W519, st519⟩ := stC X515 hx hZ e515 Ar519 (j := (2 : Int32)) (inb_of S519 ⟨by decide, by decide⟩) (g := (mkF m 94 #[rv da0, iv 3] [(.int (z2 &&& 255)), (.int 2), (.ref b505), (.ref b505), (.ref b501), (.ref b501)])) rfl rfl (D d0_94)
  have W519 : Wr h515 h519 b505 ((2 : Int32)).toNatClampNeg (.int (z2 &&& 255)) := Eq.mp (congrArg (fun z => Wr h515 h519 b505 ((2 : Int32)).toNatClampNeg (Value.int z)) (i2c_mask z2)) W519
  have O520 := Old0.wr O516 W519 g_b505
  have K520 := Keep.wr K516 W519 (Or.inr z_b505)
  have f519 : Arv Z h519 b505 k505 .char (3 : Int32) [(.int (z0 &&& 255)), (.int (z1 &&& 255)), (.int (z2 &&& 255))] (.int 0) := Arv.set Ar519 qk519 S519 Ng519 H519 G519 (v := (.int (z2 &&& 255))) (own_f255 z2) W519 2 rfl (Nat.le_of_ble_eq_true rfl)
  have N519 := Fr.snoc X519 N515 g_b505
  have f522 : Exa Z h519 b501 "java/lang/String" := (Exa.wr W519 (Exa.wr W515 (Exa.wr W511 (Exa.ext E505 A501))))
  have f523 : Fld Z h519 b501 "java/lang/String" "value" "[B" .null := (Fld.other W519 (Fld.other W515 (Fld.other W511 (Fld.ext E505 f503) (Or.inl ne_b501_b505)) (Or.inl ne_b501_b505)) (Or.inl ne_b501_b505))
  have f524 : Fld Z h519 b501 "java/lang/String" "coder" "B" (.int 0) := (Fld.other W519 (Fld.other W515 (Fld.other W511 (Fld.ext E505 f504) (Or.inl ne_b501_b505)) (Or.inl ne_b501_b505)) (Or.inl ne_b501_b505))
  have f525 : Arv Z h519 da0 kd0 .char (8 : Int32) [(.int (z0 &&& 255)), (.int (z1 &&& 255)), (.int (z2 &&& 255)), (.int (z3 &&& 255)), (.int (z4 &&& 255)), (.int (z5 &&& 255)), (.int (z6 &&& 255)), (.int (z7 &&& 255))] (.int 0) := (Arv.other f518 W519 ne_da0_b505)
  have f526 : Exa Z h519 b505 "[C" := (Exa.wr W519 (Exa.wr W515 (Exa.wr W511 A505)))
  obtain ⟨T521, v521, L521, X521, q521, st521⟩ := callNew X519 hx hZ (y := own_m12) rfl hown (own_w hw (i := 10) rfl) (own_w hw (i := 11) rfl) (own_w hw (i := 9) rfl) (own_w hw (i := 12) rfl) (by decide) (rm_str hw G b501 b505 ((3 : Int32)) k505 (([(z0 &&& 255), (z1 &&& 255), (z2 &&& 255)] : List Int32)) h519 O520 (rfl) (And.intro (own_le255 _) (And.intro (own_le255 _) (And.intro (own_le255 _) (trivial)))) (Nat.le_of_ble_eq_true rfl) (Nat.succ_pos _) f522 f523 f524 g_b501 f519 ne_b501_b505) e519 (W := 1) (by decide) (by decide) (by decide) (by decide) (g := (mkF m 95 #[rv da0, iv 3] [(.ref b505), (.ref b501), (.ref b501)])) rfl (by rw [hml]; rfl) (a := b501) (argsL := [(.ref b505)]) (rest := [(.ref b501)]) (lenOf pd43 rfl) rfl rfl (Nat.le_of_eq rfl) (D d0_95)
  obtain ⟨da_521, kd_521, rfl, N521q, K521q, p521_0, p521_1, p521_2, p521_3, p521_4⟩ := q521
  have N521 := Fr.app N519 N521q
  have O527 := Old0.keep O520 K521q (allS g_b501 all0)
  have K527 := Keep.trans K520 K521q (allS (Or.inr z_b501) all0)
  have z_da_521 : h0.size ≤ da_521 := Nat.le_trans K520.1 p521_0
  have g_da_521 : Z.heap.size ≤ da_521 := Nat.le_trans O520.1 p521_0
  have ne_da0_da_521 : da0 ≠ da_521 := Nat.ne_of_lt (Nat.lt_of_lt_of_le f525.lt p521_0)
  have ne_b501_da_521 : b501 ≠ da_521 := Nat.ne_of_lt (Nat.lt_of_lt_of_le f522.lt p521_0)
  have ne_b505_da_521 : b505 ≠ da_521 := Nat.ne_of_lt (Nat.lt_of_lt_of_le f526.lt p521_0)
  have p521_3 : Arv Z T521.heap da_521 kd_521 .byte (3 : Int32) [(.int ((z0 &&& 255).toInt8.toInt32)), (.int ((z1 &&& 255).toInt8.toInt32)), (.int ((z2 &&& 255).toInt8.toInt32))] (.int 0) := p521_3
  have f528 : Exa Z T521.heap b501 "java/lang/String" := (Exa.keep f522 K521q)
  refine Go.of (T' := T521) (f' := (mkF m 98 #[rv da0, iv 3] [(.ref b501)])) (fun _ k => XS.iconst X511.here hx rfl (D d0_86) (X511.caload hx (j := (1 : Int32)) (v := (.int (z1 &&& 255))) (by rw [e511]; exact Ar513.1) (State.isArrayOf_alike hZ.alike Ar513.2.1) Ar513.2.2 hin513 (H513.at hin513 rfl) (g := (mkF m 87 #[rv da0, iv 3] [(.int 1), (.ref da0), (.int 1), (.ref b505), (.ref b505), (.ref b501), (.ref b501)])) rfl rfl (D d0_87) _ (st515 _ (XS.dup X515.here hx rfl (D d0_89) rfl rfl (XS.iconst X515.here hx rfl (D d0_90) (XS.aloadN X515.here hx rfl (D d0_91) rfl rfl (XS.iconst X515.here hx rfl (D d0_92) (X515.caload hx (j := (2 : Int32)) (v := (.int (z2 &&& 255))) (by rw [e515]; exact Ar517.1) (State.isArrayOf_alike hZ.alike Ar517.2.1) Ar517.2.2 hin517 (H517.at hin517 rfl) (g := (mkF m 93 #[rv da0, iv 3] [(.int 2), (.ref da0), (.int 2), (.ref b505), (.ref b505), (.ref b501), (.ref b501)])) rfl rfl (D d0_93) _ (st519 _ (st521 _ k)))))))))) ?_
  exact Go.retA X521 hx hlk hret rfl rfl (D d0_98) (by decide) (by decide) ⟨b501, da_521, kd_521, rfl, N521, K527, f528, p521_1, p521_2, p521_3⟩
theorem d0_99 : decode method_4_code 99 = .ok (.iload_n 1, 1) := by decide +kernel
theorem d0_100 : decode method_4_code 100 = .ok (.iconst 4, 1) := by decide +kernel
theorem d0_101 : decode method_4_code 101 = .ok (.if_icmp .ne 38, 3) := by decide +kernel
theorem d0_104 : decode method_4_code 104 = .ok (.new 22, 3) := by decide +kernel
theorem d0_107 : decode method_4_code 107 = .ok (.dup, 1) := by decide +kernel
theorem d0_108 : decode method_4_code 108 = .ok (.iconst 4, 1) := by decide +kernel
theorem d0_109 : decode method_4_code 109 = .ok (.newarray .char, 2) := by decide +kernel
theorem d0_111 : decode method_4_code 111 = .ok (.dup, 1) := by decide +kernel
theorem d0_112 : decode method_4_code 112 = .ok (.iconst 0, 1) := by decide +kernel
theorem d0_113 : decode method_4_code 113 = .ok (.aload_n 0, 1) := by decide +kernel
theorem d0_114 : decode method_4_code 114 = .ok (.iconst 0, 1) := by decide +kernel
theorem d0_115 : decode method_4_code 115 = .ok (.caload, 1) := by decide +kernel
theorem d0_116 : decode method_4_code 116 = .ok (.castore, 1) := by decide +kernel
theorem d0_117 : decode method_4_code 117 = .ok (.dup, 1) := by decide +kernel
theorem d0_118 : decode method_4_code 118 = .ok (.iconst 1, 1) := by decide +kernel
theorem d0_119 : decode method_4_code 119 = .ok (.aload_n 0, 1) := by decide +kernel
theorem d0_120 : decode method_4_code 120 = .ok (.iconst 1, 1) := by decide +kernel
theorem d0_121 : decode method_4_code 121 = .ok (.caload, 1) := by decide +kernel
theorem d0_122 : decode method_4_code 122 = .ok (.castore, 1) := by decide +kernel
theorem d0_123 : decode method_4_code 123 = .ok (.dup, 1) := by decide +kernel
theorem d0_124 : decode method_4_code 124 = .ok (.iconst 2, 1) := by decide +kernel
theorem d0_125 : decode method_4_code 125 = .ok (.aload_n 0, 1) := by decide +kernel
theorem d0_126 : decode method_4_code 126 = .ok (.iconst 2, 1) := by decide +kernel
theorem d0_127 : decode method_4_code 127 = .ok (.caload, 1) := by decide +kernel
theorem d0_128 : decode method_4_code 128 = .ok (.castore, 1) := by decide +kernel
theorem d0_129 : decode method_4_code 129 = .ok (.dup, 1) := by decide +kernel
theorem d0_130 : decode method_4_code 130 = .ok (.iconst 3, 1) := by decide +kernel
theorem d0_131 : decode method_4_code 131 = .ok (.aload_n 0, 1) := by decide +kernel
theorem d0_132 : decode method_4_code 132 = .ok (.iconst 3, 1) := by decide +kernel
theorem d0_133 : decode method_4_code 133 = .ok (.caload, 1) := by decide +kernel
theorem d0_134 : decode method_4_code 134 = .ok (.castore, 1) := by decide +kernel
theorem d0_135 : decode method_4_code 135 = .ok (.invokespecial 65, 3) := by decide +kernel
theorem d0_138 : decode method_4_code 138 = .ok (.areturn, 1) := by decide +kernel
theorem ef_rm_make4 (m : MethodId) (da0 : Addr) : entryFrame m #[(.ref da0), (.int (4 : Int32))] 2 = mkF m 0 #[rv da0, iv (4 : Int32)] [] := by first | (simp [entryFrame, mkF, argsToLocals, Value.category]; done) | rfl
set_option maxRecDepth 65536 in
set_option maxHeartbeats 40000000 in
theorem rm_make4 {l : Launch} {Z : State} {a0 : Array Value} {A : Nat → Addr} {KC : Nat → Cell} {IC : Nat → Int32} {VC : Nat → Value} (hw : ∀ d ∈ tables_1, d.before a0 Z = true) (G : own_Ctx Z A KC IC VC) (da0 : Addr) (kd0 : ClassId) (z0 : Int32) (z1 : Int32) (z2 : Int32) (z3 : Int32) (z4 : Int32) (z5 : Int32) (z6 : Int32) (z7 : Int32) (h0 : Heap) (O0 : Ext Z.heap h0) (prem0 : Arv Z h0 da0 kd0 .char (8 : Int32) [(.int (z0 &&& (255 : Int32))), (.int (z1 &&& (255 : Int32))), (.int (z2 &&& (255 : Int32))), (.int (z3 &&& (255 : Int32))), (.int (z4 &&& (255 : Int32))), (.int (z5 &&& (255 : Int32))), (.int (z6 &&& (255 : Int32))), (.int (z7 &&& (255 : Int32)))] (.int (0 : Int32))) :
    Ok l Z own_m44 method_4_code 2 (some (.object "java/lang/String")) ({ frames := 4, cells := 3, slots := 16, locals := 66 } : Room) #[(.ref da0), (.int (4 : Int32))] h0
      (fun v h L => ∃ so : Addr, ∃ sv : Addr, ∃ ks : ClassId, v = some (.ref so) ∧ (Fr Z.heap.size L) ∧ (Keep h0 h []) ∧ (Exa Z h so "java/lang/String") ∧ (Fld Z h so "java/lang/String" "value" "[B" (.ref sv)) ∧ (Fld Z h so "java/lang/String" "coder" "B" (.int (0 : Int32))) ∧ (Arv Z h sv ks .byte (4 : Int32) [(.int ((z0 &&& (255 : Int32)).toInt8.toInt32)), (.int ((z1 &&& (255 : Int32)).toInt8.toInt32)), (.int ((z2 &&& (255 : Int32)).toInt8.toInt32)), (.int ((z3 &&& (255 : Int32)).toInt8.toInt32))] (.int (0 : Int32)))) := by
  refine Ok.mk pn45 ?_
  intro p e s m below meth c T0 hx hby hml hown hnm hret hlk hZ e0 X0
  refine Go.cast (ef_rm_make4 m da0) ?_
  have D := @hb _ _ hby
  have N0 := Fr.nil Z.heap.size
  have K0 : Keep h0 h0 [] := Keep.refl _ _
  obtain ⟨T534, h534, b534, q534, X534, e534, E534, A534, D534, st534⟩ := newOb X0 hx hZ hown (own_w hw (i := 7) rfl) (own_w hw (i := 8) rfl) (own_w hw (i := 9) rfl) e0 (g := (mkF m 104 #[rv da0, iv 4] [])) rfl (D d0_104) (by decide) (by decide)
  have O535 := Old0.ext O0 E534
  have K535 := Keep.ext K0 E534
  have g_b534 : Z.heap.size ≤ b534 := q534 ▸ O0.1
  have z_b534 : h0.size ≤ b534 := q534 ▸ K0.1
  have ne_da0_b534 : da0 ≠ b534 := q534 ▸ Nat.ne_of_lt prem0.lt
  have f536 : Fld Z h534 b534 "java/lang/String" "value" "[B" .null := D534 (Or.inr (own_w hw (i := 22) rfl)) (ty := (.array .byte)) (by decide)
  have f537 : Fld Z h534 b534 "java/lang/String" "coder" "B" (.int 0) := D534 (Or.inr (own_w hw (i := 23) rfl)) (ty := .byte) (by decide)
  have f539 : Arv Z h534 da0 kd0 .char (8 : Int32) [(.int (z0 &&& 255)), (.int (z1 &&& 255)), (.int (z2 &&& 255)), (.int (z3 &&& 255)), (.int (z4 &&& 255)), (.int (z5 &&& 255)), (.int (z6 &&& 255)), (.int (z7 &&& 255))] (.int 0) := (Arv.ext prem0 E534)
  obtain ⟨T538, h538, k538, b538, q538, X538, e538, E538, V538, A538, st538⟩ := newAr X534 hx hZ (own_w hw (i := 0) rfl) e534 (g := (mkF m 109 #[rv da0, iv 4] [(.int 4), (.ref b534), (.ref b534)])) rfl (D d0_109) rfl (by decide) (cap := 4) (by decide) (by decide) (by decide) (by decide) (ad := "[C") (by decide)
  have O540 := Old0.ext O535 E538
  have K540 := Keep.ext K535 E538
  have g_b538 : Z.heap.size ≤ b538 := q538 ▸ O535.1
  have z_b538 : h0.size ≤ b538 := q538 ▸ K535.1
  have ne_da0_b538 : da0 ≠ b538 := q538 ▸ Nat.ne_of_lt f539.lt
  have ne_b534_b538 : b534 ≠ b538 := q538 ▸ Nat.ne_of_lt A534.lt
  have f541 : Arv Z h538 b538 k538 .char (4 : Int32) [(.int 0), (.int 0), (.int 0), (.int 0)] (.int 0) := Arv.pad V538 (pad_rep [] (.int 0) 4)
  have f543 : Arv Z h538 da0 kd0 .char (8 : Int32) [(.int (z0 &&& 255)), (.int (z1 &&& 255)), (.int (z2 &&& 255)), (.int (z3 &&& 255)), (.int (z4 &&& 255)), (.int (z5 &&& 255)), (.int (z6 &&& 255)), (.int (z7 &&& 255))] (.int 0) := (Arv.ext f539 E538)
  obtain ⟨cl542, Ar542, qk542, S542, Ng542, H542, G542⟩ := id f543
  have hin542 := inb_of (j := (0 : Int32)) S542 ⟨by decide, by decide⟩
  obtain ⟨cl544, Ar544, qk544, S544, Ng544, H544, G544⟩ := id f541
  obtain ⟨T544, h544, X544, e544, W544, st544⟩ := stC X538 hx hZ e538 Ar544 (j := (0 : Int32)) (inb_of S544 ⟨by decide, by decide⟩) (g := (mkF m 116 #[rv da0, iv 4] [(.int (z0 &&& 255)), (.int 0), (.ref b538), (.ref b538), (.ref b534), (.ref b534)])) rfl rfl (D d0_116)
  have W544 : Wr h538 h544 b538 ((0 : Int32)).toNatClampNeg (.int (z0 &&& 255)) := Eq.mp (congrArg (fun z => Wr h538 h544 b538 ((0 : Int32)).toNatClampNeg (Value.int z)) (i2c_mask z0)) W544
  have O545 := Old0.wr O540 W544 g_b538
  have K545 := Keep.wr K540 W544 (Or.inr z_b538)
  have f544 : Arv Z h544 b538 k538 .char (4 : Int32) [(.int (z0 &&& 255)), (.int 0), (.int 0), (.int 0)] (.int 0) := Arv.set Ar544 qk544 S544 Ng544 H544 G544 (v := (.int (z0 &&& 255))) (own_f255 z0) W544 0 rfl (Nat.le_of_ble_eq_true rfl)
  have N544 := Fr.snoc X544 N0 g_b538
  refine Go.of (T' := T544) (f' := (mkF m 117 #[rv da0, iv 4] [(.ref b538), (.ref b534), (.ref b534)])) (fun _ k => XS.iloadN X0.here hx rfl (D d0_0) rfl (XS.ifYes X0.here hx rfl (pc0 := 1) (pc' := 15) rfl (D d0_1) rfl ((if0 _ _).trans (feq (by decide : ¬ ((4 : Int32) = (0 : Int32)))).2) (by decide) (by decide) (XS.iloadN X0.here hx rfl (D d0_15) rfl (XS.iconst X0.here hx rfl (D d0_16) (XS.icmpYes X0.here hx rfl (pc0 := 17) (pc' := 37) rfl (D d0_17) rfl (feq (by decide : ¬ ((4 : Int32) = (1 : Int32)))).2 (by decide) (by decide) (XS.iloadN X0.here hx rfl (D d0_37) rfl (XS.iconst X0.here hx rfl (D d0_38) (XS.icmpYes X0.here hx rfl (pc0 := 39) (pc' := 65) rfl (D d0_39) rfl (feq (by decide : ¬ ((4 : Int32) = (2 : Int32)))).2 (by decide) (by decide) (XS.iloadN X0.here hx rfl (D d0_65) rfl (XS.iconst X0.here hx rfl (D d0_66) (XS.icmpYes X0.here hx rfl (pc0 := 67) (pc' := 99) rfl (D d0_67) rfl (feq (by decide : ¬ ((4 : Int32) = (3 : Int32)))).2 (by decide) (by decide) (XS.iloadN X0.here hx rfl (D d0_99) rfl (XS.iconst X0.here hx rfl (D d0_100) (XS.icmpNo X0.here hx rfl (D d0_101) rfl (teq (by decide : (4 : Int32) = (4 : Int32))).2 (st534 _ (XS.dup X534.here hx rfl (D d0_107) rfl rfl (XS.iconst X534.here hx rfl (D d0_108) (st538 _ (XS.dup X538.here hx rfl (D d0_111) rfl rfl (XS.iconst X538.here hx rfl (D d0_112) (XS.aloadN X538.here hx rfl (D d0_113) rfl rfl (XS.iconst X538.here hx rfl (D d0_114) (X538.caload hx (j := (0 : Int32)) (v := (.int (z0 &&& 255))) (by rw [e538]; exact Ar542.1) (State.isArrayOf_alike hZ.alike Ar542.2.1) Ar542.2.2 hin542 (H542.at hin542 rfl) (g := (mkF m 115 #[rv da0, iv 4] [(.int 0), (.ref da0), (.int 0), (.ref b538), (.ref b538), (.ref b534), (.ref b534)])) rfl rfl (D d0_115) _ (st544 _ k)))))))))))))))))))))))) ?_
  have f547 : Arv Z h544 da0 kd0 .char (8 : Int32) [(.int (z0 &&& 255)), (.int (z1 &&& 255)), (.int (z2 &&& 255)), (.int (z3 &&& 255)), (.int (z4 &&& 255)), (.int (z5 &&& 255)), (.int (z6 &&& 255)), (.int (z7 &&& 255))] (.int 0) := (Arv.other f543 W544 ne_da0_b538)
  obtain ⟨cl546, Ar546, qk546, S546, Ng546, H546, G546⟩ := id f547
  have hin546 := inb_of (j := (1 : Int32)) S546 ⟨by decide, by decide⟩
  obtain ⟨cl548, Ar548, qk548, S548, Ng548, H548, G548⟩ := id f544
  obtain ⟨T548, h548, X548, e548, W548, st548⟩ := stC X544 hx hZ e544 Ar548 (j := (1 : Int32)) (inb_of S548 ⟨by decide, by decide⟩) (g := (mkF m 122 #[rv da0, iv 4] [(.int (z1 &&& 255)), (.int 1), (.ref b538), (.ref b538), (.ref b534), (.ref b534)])) rfl rfl (D d0_122)
  have W548 : Wr h544 h548 b538 ((1 : Int32)).toNatClampNeg (.int (z1 &&& 255)) := Eq.mp (congrArg (fun z => Wr h544 h548 b538 ((1 : Int32)).toNatClampNeg (Value.int z)) (i2c_mask z1)) W548
  have O549 := Old0.wr O545 W548 g_b538
  have K549 := Keep.wr K545 W548 (Or.inr z_b538)
  have f548 : Arv Z h548 b538 k538 .char (4 : Int32) [(.int (z0 &&& 255)), (.int (z1 &&& 255)), (.int 0), (.int 0)] (.int 0) := Arv.set Ar548 qk548 S548 Ng548 H548 G548 (v := (.int (z1 &&& 255))) (own_f255 z1) W548 1 rfl (Nat.le_of_ble_eq_true rfl)
  have N548 := Fr.snoc X548 N544 g_b538
  have f551 : Arv Z h548 da0 kd0 .char (8 : Int32) [(.int (z0 &&& 255)), (.int (z1 &&& 255)), (.int (z2 &&& 255)), (.int (z3 &&& 255)), (.int (z4 &&& 255)), (.int (z5 &&& 255)), (.int (z6 &&& 255)), (.int (z7 &&& 255))] (.int 0) := (Arv.other f547 W548 ne_da0_b538)
  obtain ⟨cl550, Ar550, qk550, S550, Ng550, H550, G550⟩ := id f551
  have hin550 := inb_of (j := (2 : Int32)) S550 ⟨by decide, by decide⟩
  obtain ⟨cl552, Ar552, qk552, S552, Ng552, H552, G552⟩ := id f548
  obtain ⟨T552, h552, X552, e552, W552, st552⟩ := stC X548 hx hZ e548 Ar552 (j := (2 : Int32)) (inb_of S552 ⟨by decide, by decide⟩) (g := (mkF m 128 #[rv da0, iv 4] [(.int (z2 &&& 255)), (.int 2), (.ref b538), (.ref b538), (.ref b534), (.ref b534)])) rfl rfl (D d0_128)
  have W552 : Wr h548 h552 b538 ((2 : Int32)).toNatClampNeg (.int (z2 &&& 255)) := Eq.mp (congrArg (fun z => Wr h548 h552 b538 ((2 : Int32)).toNatClampNeg (Value.int z)) (i2c_mask z2)) W552
  have O553 := Old0.wr O549 W552 g_b538
  have K553 := Keep.wr K549 W552 (Or.inr z_b538)
  have f552 : Arv Z h552 b538 k538 .char (4 : Int32) [(.int (z0 &&& 255)), (.int (z1 &&& 255)), (.int (z2 &&& 255)), (.int 0)] (.int 0) := Arv.set Ar552 qk552 S552 Ng552 H552 G552 (v := (.int (z2 &&& 255))) (own_f255 z2) W552 2 rfl (Nat.le_of_ble_eq_true rfl)
  have N552 := Fr.snoc X552 N548 g_b538
  have f555 : Arv Z h552 da0 kd0 .char (8 : Int32) [(.int (z0 &&& 255)), (.int (z1 &&& 255)), (.int (z2 &&& 255)), (.int (z3 &&& 255)), (.int (z4 &&& 255)), (.int (z5 &&& 255)), (.int (z6 &&& 255)), (.int (z7 &&& 255))] (.int 0) := (Arv.other f551 W552 ne_da0_b538)
  obtain ⟨cl554, Ar554, qk554, S554, Ng554, H554, G554⟩ := id f555
  have hin554 := inb_of (j := (3 : Int32)) S554 ⟨by decide, by decide⟩
  obtain ⟨cl556, Ar556, qk556, S556, Ng556, H556, G556⟩ := id f552
  obtain ⟨T556, h556, X556, e556, W556, st556⟩ := stC X552 hx hZ e552 Ar556 (j := (3 : Int32)) (inb_of S556 ⟨by decide, by decide⟩) (g := (mkF m 134 #[rv da0, iv 4] [(.int (z3 &&& 255)), (.int 3), (.ref b538), (.ref b538), (.ref b534), (.ref b534)])) rfl rfl (D d0_134)
  have W556 : Wr h552 h556 b538 ((3 : Int32)).toNatClampNeg (.int (z3 &&& 255)) := Eq.mp (congrArg (fun z => Wr h552 h556 b538 ((3 : Int32)).toNatClampNeg (Value.int z)) (i2c_mask z3)) W556
  have O557 := Old0.wr O553 W556 g_b538
  have K557 := Keep.wr K553 W556 (Or.inr z_b538)
  have f556 : Arv Z h556 b538 k538 .char (4 : Int32) [(.int (z0 &&& 255)), (.int (z1 &&& 255)), (.int (z2 &&& 255)), (.int (z3 &&& 255))] (.int 0) := Arv.set Ar556 qk556 S556 Ng556 H556 G556 (v := (.int (z3 &&& 255))) (own_f255 z3) W556 3 rfl (Nat.le_of_ble_eq_true rfl)
  have N556 := Fr.snoc X556 N552 g_b538
  have f559 : Exa Z h556 b534 "java/lang/String" := (Exa.wr W556 (Exa.wr W552 (Exa.wr W548 (Exa.wr W544 (Exa.ext E538 A534)))))
  have f560 : Fld Z h556 b534 "java/lang/String" "value" "[B" .null := (Fld.other W556 (Fld.other W552 (Fld.other W548 (Fld.other W544 (Fld.ext E538 f536) (Or.inl ne_b534_b538)) (Or.inl ne_b534_b538)) (Or.inl ne_b534_b538)) (Or.inl ne_b534_b538))
  have f561 : Fld Z h556 b534 "java/lang/String" "coder" "B" (.int 0) := (Fld.other W556 (Fld.other W552 (Fld.other W548 (Fld.other W544 (Fld.ext E538 f537) (Or.inl ne_b534_b538)) (Or.inl ne_b534_b538)) (Or.inl ne_b534_b538)) (Or.inl ne_b534_b538))
  have f562 : Arv Z h556 da0 kd0 .char (8 : Int32) [(.int (z0 &&& 255)), (.int (z1 &&& 255)), (.int (z2 &&& 255)), (.int (z3 &&& 255)), (.int (z4 &&& 255)), (.int (z5 &&& 255)), (.int (z6 &&& 255)), (.int (z7 &&& 255))] (.int 0) := (Arv.other f555 W556 ne_da0_b538)
  have f563 : Exa Z h556 b538 "[C" := (Exa.wr W556 (Exa.wr W552 (Exa.wr W548 (Exa.wr W544 A538))))
  obtain ⟨T558, v558, L558, X558, q558, st558⟩ := callNew X556 hx hZ (y := own_m12) rfl hown (own_w hw (i := 10) rfl) (own_w hw (i := 11) rfl) (own_w hw (i := 9) rfl) (own_w hw (i := 12) rfl) (by decide) (rm_str hw G b534 b538 ((4 : Int32)) k538 (([(z0 &&& 255), (z1 &&& 255), (z2 &&& 255), (z3 &&& 255)] : List Int32)) h556 O557 (rfl) (And.intro (own_le255 _) (And.intro (own_le255 _) (And.intro (own_le255 _) (And.intro (own_le255 _) (trivial))))) (Nat.le_of_ble_eq_true rfl) (Nat.succ_pos _) f559 f560 f561 g_b534 f556 ne_b534_b538) e556 (W := 1) (by decide) (by decide) (by decide) (by decide) (g := (mkF m 135 #[rv da0, iv 4] [(.ref b538), (.ref b534), (.ref b534)])) rfl (by rw [hml]; rfl) (a := b534) (argsL := [(.ref b538)]) (rest := [(.ref b534)]) (lenOf pd43 rfl) rfl rfl (Nat.le_of_eq rfl) (D d0_135)
  obtain ⟨da_558, kd_558, rfl, N558q, K558q, p558_0, p558_1, p558_2, p558_3, p558_4⟩ := q558
  have N558 := Fr.app N556 N558q
  have O564 := Old0.keep O557 K558q (allS g_b534 all0)
  have K564 := Keep.trans K557 K558q (allS (Or.inr z_b534) all0)
  have z_da_558 : h0.size ≤ da_558 := Nat.le_trans K557.1 p558_0
  have g_da_558 : Z.heap.size ≤ da_558 := Nat.le_trans O557.1 p558_0
  have ne_da0_da_558 : da0 ≠ da_558 := Nat.ne_of_lt (Nat.lt_of_lt_of_le f562.lt p558_0)
  have ne_b534_da_558 : b534 ≠ da_558 := Nat.ne_of_lt (Nat.lt_of_lt_of_le f559.lt p558_0)
  have ne_b538_da_558 : b538 ≠ da_558 := Nat.ne_of_lt (Nat.lt_of_lt_of_le f563.lt p558_0)
  have p558_3 : Arv Z T558.heap da_558 kd_558 .byte (4 : Int32) [(.int ((z0 &&& 255).toInt8.toInt32)), (.int ((z1 &&& 255).toInt8.toInt32)), (.int ((z2 &&& 255).toInt8.toInt32)), (.int ((z3 &&& 255).toInt8.toInt32))] (.int 0) := p558_3
  have f565 : Exa Z T558.heap b534 "java/lang/String" := (Exa.keep f559 K558q)
  refine Go.of (T' := T558) (f' := (mkF m 138 #[rv da0, iv 4] [(.ref b534)])) (fun _ k => XS.dup X544.here hx rfl (D d0_117) rfl rfl (XS.iconst X544.here hx rfl (D d0_118) (XS.aloadN X544.here hx rfl (D d0_119) rfl rfl (XS.iconst X544.here hx rfl (D d0_120) (X544.caload hx (j := (1 : Int32)) (v := (.int (z1 &&& 255))) (by rw [e544]; exact Ar546.1) (State.isArrayOf_alike hZ.alike Ar546.2.1) Ar546.2.2 hin546 (H546.at hin546 rfl) (g := (mkF m 121 #[rv da0, iv 4] [(.int 1), (.ref da0), (.int 1), (.ref b538), (.ref b538), (.ref b534), (.ref b534)])) rfl rfl (D d0_121) _ (st548 _ (XS.dup X548.here hx rfl (D d0_123) rfl rfl (XS.iconst X548.here hx rfl (D d0_124) (XS.aloadN X548.here hx rfl (D d0_125) rfl rfl (XS.iconst X548.here hx rfl (D d0_126) (X548.caload hx (j := (2 : Int32)) (v := (.int (z2 &&& 255))) (by rw [e548]; exact Ar550.1) (State.isArrayOf_alike hZ.alike Ar550.2.1) Ar550.2.2 hin550 (H550.at hin550 rfl) (g := (mkF m 127 #[rv da0, iv 4] [(.int 2), (.ref da0), (.int 2), (.ref b538), (.ref b538), (.ref b534), (.ref b534)])) rfl rfl (D d0_127) _ (st552 _ (XS.dup X552.here hx rfl (D d0_129) rfl rfl (XS.iconst X552.here hx rfl (D d0_130) (XS.aloadN X552.here hx rfl (D d0_131) rfl rfl (XS.iconst X552.here hx rfl (D d0_132) (X552.caload hx (j := (3 : Int32)) (v := (.int (z3 &&& 255))) (by rw [e552]; exact Ar554.1) (State.isArrayOf_alike hZ.alike Ar554.2.1) Ar554.2.2 hin554 (H554.at hin554 rfl) (g := (mkF m 133 #[rv da0, iv 4] [(.int 3), (.ref da0), (.int 3), (.ref b538), (.ref b538), (.ref b534), (.ref b534)])) rfl rfl (D d0_133) _ (st556 _ (st558 _ k))))))))))))))))))) ?_
  exact Go.retA X558 hx hlk hret rfl rfl (D d0_138) (by decide) (by decide) ⟨b534, da_558, kd_558, rfl, N558, K564, f565, p558_1, p558_2, p558_3⟩
theorem d0_139 : decode method_4_code 139 = .ok (.iload_n 1, 1) := by decide +kernel
theorem d0_140 : decode method_4_code 140 = .ok (.iconst 5, 1) := by decide +kernel
theorem d0_141 : decode method_4_code 141 = .ok (.if_icmp .ne 44, 3) := by decide +kernel
theorem d0_144 : decode method_4_code 144 = .ok (.new 22, 3) := by decide +kernel
theorem d0_147 : decode method_4_code 147 = .ok (.dup, 1) := by decide +kernel
theorem d0_148 : decode method_4_code 148 = .ok (.iconst 5, 1) := by decide +kernel
theorem d0_149 : decode method_4_code 149 = .ok (.newarray .char, 2) := by decide +kernel
theorem d0_151 : decode method_4_code 151 = .ok (.dup, 1) := by decide +kernel
theorem d0_152 : decode method_4_code 152 = .ok (.iconst 0, 1) := by decide +kernel
theorem d0_153 : decode method_4_code 153 = .ok (.aload_n 0, 1) := by decide +kernel
theorem d0_154 : decode method_4_code 154 = .ok (.iconst 0, 1) := by decide +kernel
theorem d0_155 : decode method_4_code 155 = .ok (.caload, 1) := by decide +kernel
theorem d0_156 : decode method_4_code 156 = .ok (.castore, 1) := by decide +kernel
theorem d0_157 : decode method_4_code 157 = .ok (.dup, 1) := by decide +kernel
theorem d0_158 : decode method_4_code 158 = .ok (.iconst 1, 1) := by decide +kernel
theorem d0_159 : decode method_4_code 159 = .ok (.aload_n 0, 1) := by decide +kernel
theorem d0_160 : decode method_4_code 160 = .ok (.iconst 1, 1) := by decide +kernel
theorem d0_161 : decode method_4_code 161 = .ok (.caload, 1) := by decide +kernel
theorem d0_162 : decode method_4_code 162 = .ok (.castore, 1) := by decide +kernel
theorem d0_163 : decode method_4_code 163 = .ok (.dup, 1) := by decide +kernel
theorem d0_164 : decode method_4_code 164 = .ok (.iconst 2, 1) := by decide +kernel
theorem d0_165 : decode method_4_code 165 = .ok (.aload_n 0, 1) := by decide +kernel
theorem d0_166 : decode method_4_code 166 = .ok (.iconst 2, 1) := by decide +kernel
theorem d0_167 : decode method_4_code 167 = .ok (.caload, 1) := by decide +kernel
theorem d0_168 : decode method_4_code 168 = .ok (.castore, 1) := by decide +kernel
theorem d0_169 : decode method_4_code 169 = .ok (.dup, 1) := by decide +kernel
theorem d0_170 : decode method_4_code 170 = .ok (.iconst 3, 1) := by decide +kernel
theorem d0_171 : decode method_4_code 171 = .ok (.aload_n 0, 1) := by decide +kernel
theorem d0_172 : decode method_4_code 172 = .ok (.iconst 3, 1) := by decide +kernel
theorem d0_173 : decode method_4_code 173 = .ok (.caload, 1) := by decide +kernel
theorem d0_174 : decode method_4_code 174 = .ok (.castore, 1) := by decide +kernel
theorem d0_175 : decode method_4_code 175 = .ok (.dup, 1) := by decide +kernel
theorem d0_176 : decode method_4_code 176 = .ok (.iconst 4, 1) := by decide +kernel
theorem d0_177 : decode method_4_code 177 = .ok (.aload_n 0, 1) := by decide +kernel
theorem d0_178 : decode method_4_code 178 = .ok (.iconst 4, 1) := by decide +kernel
theorem d0_179 : decode method_4_code 179 = .ok (.caload, 1) := by decide +kernel
theorem d0_180 : decode method_4_code 180 = .ok (.castore, 1) := by decide +kernel
theorem d0_181 : decode method_4_code 181 = .ok (.invokespecial 65, 3) := by decide +kernel
theorem d0_184 : decode method_4_code 184 = .ok (.areturn, 1) := by decide +kernel
theorem ef_rm_make5 (m : MethodId) (da0 : Addr) : entryFrame m #[(.ref da0), (.int (5 : Int32))] 2 = mkF m 0 #[rv da0, iv (5 : Int32)] [] := by first | (simp [entryFrame, mkF, argsToLocals, Value.category]; done) | rfl
set_option maxRecDepth 65536 in
set_option maxHeartbeats 40000000 in
theorem rm_make5 {l : Launch} {Z : State} {a0 : Array Value} {A : Nat → Addr} {KC : Nat → Cell} {IC : Nat → Int32} {VC : Nat → Value} (hw : ∀ d ∈ tables_1, d.before a0 Z = true) (G : own_Ctx Z A KC IC VC) (da0 : Addr) (kd0 : ClassId) (z0 : Int32) (z1 : Int32) (z2 : Int32) (z3 : Int32) (z4 : Int32) (z5 : Int32) (z6 : Int32) (z7 : Int32) (h0 : Heap) (O0 : Ext Z.heap h0) (prem0 : Arv Z h0 da0 kd0 .char (8 : Int32) [(.int (z0 &&& (255 : Int32))), (.int (z1 &&& (255 : Int32))), (.int (z2 &&& (255 : Int32))), (.int (z3 &&& (255 : Int32))), (.int (z4 &&& (255 : Int32))), (.int (z5 &&& (255 : Int32))), (.int (z6 &&& (255 : Int32))), (.int (z7 &&& (255 : Int32)))] (.int (0 : Int32))) :
    Ok l Z own_m44 method_4_code 2 (some (.object "java/lang/String")) ({ frames := 4, cells := 3, slots := 17, locals := 66 } : Room) #[(.ref da0), (.int (5 : Int32))] h0
      (fun v h L => ∃ so : Addr, ∃ sv : Addr, ∃ ks : ClassId, v = some (.ref so) ∧ (Fr Z.heap.size L) ∧ (Keep h0 h []) ∧ (Exa Z h so "java/lang/String") ∧ (Fld Z h so "java/lang/String" "value" "[B" (.ref sv)) ∧ (Fld Z h so "java/lang/String" "coder" "B" (.int (0 : Int32))) ∧ (Arv Z h sv ks .byte (5 : Int32) [(.int ((z0 &&& (255 : Int32)).toInt8.toInt32)), (.int ((z1 &&& (255 : Int32)).toInt8.toInt32)), (.int ((z2 &&& (255 : Int32)).toInt8.toInt32)), (.int ((z3 &&& (255 : Int32)).toInt8.toInt32)), (.int ((z4 &&& (255 : Int32)).toInt8.toInt32))] (.int (0 : Int32)))) := by
  refine Ok.mk pn45 ?_
  intro p e s m below meth c T0 hx hby hml hown hnm hret hlk hZ e0 X0
  refine Go.cast (ef_rm_make5 m da0) ?_
  have D := @hb _ _ hby
  have N0 := Fr.nil Z.heap.size
  have K0 : Keep h0 h0 [] := Keep.refl _ _
  obtain ⟨T572, h572, b572, q572, X572, e572, E572, A572, D572, st572⟩ := newOb X0 hx hZ hown (own_w hw (i := 7) rfl) (own_w hw (i := 8) rfl) (own_w hw (i := 9) rfl) e0 (g := (mkF m 144 #[rv da0, iv 5] [])) rfl (D d0_144) (by decide) (by decide)
  have O573 := Old0.ext O0 E572
  have K573 := Keep.ext K0 E572
  have g_b572 : Z.heap.size ≤ b572 := q572 ▸ O0.1
  have z_b572 : h0.size ≤ b572 := q572 ▸ K0.1
  have ne_da0_b572 : da0 ≠ b572 := q572 ▸ Nat.ne_of_lt prem0.lt
  have f574 : Fld Z h572 b572 "java/lang/String" "value" "[B" .null := D572 (Or.inr (own_w hw (i := 22) rfl)) (ty := (.array .byte)) (by decide)
  have f575 : Fld Z h572 b572 "java/lang/String" "coder" "B" (.int 0) := D572 (Or.inr (own_w hw (i := 23) rfl)) (ty := .byte) (by decide)
  have f577 : Arv Z h572 da0 kd0 .char (8 : Int32) [(.int (z0 &&& 255)), (.int (z1 &&& 255)), (.int (z2 &&& 255)), (.int (z3 &&& 255)), (.int (z4 &&& 255)), (.int (z5 &&& 255)), (.int (z6 &&& 255)), (.int (z7 &&& 255))] (.int 0) := (Arv.ext prem0 E572)
  obtain ⟨T576, h576, k576, b576, q576, X576, e576, E576, V576, A576, st576⟩ := newAr X572 hx hZ (own_w hw (i := 0) rfl) e572 (g := (mkF m 149 #[rv da0, iv 5] [(.int 5), (.ref b572), (.ref b572)])) rfl (D d0_149) rfl (by decide) (cap := 5) (by decide) (by decide) (by decide) (by decide) (ad := "[C") (by decide)
  have O578 := Old0.ext O573 E576
  have K578 := Keep.ext K573 E576
  have g_b576 : Z.heap.size ≤ b576 := q576 ▸ O573.1
  have z_b576 : h0.size ≤ b576 := q576 ▸ K573.1
  have ne_da0_b576 : da0 ≠ b576 := q576 ▸ Nat.ne_of_lt f577.lt
  have ne_b572_b576 : b572 ≠ b576 := q576 ▸ Nat.ne_of_lt A572.lt
  have f579 : Arv Z h576 b576 k576 .char (5 : Int32) [(.int 0), (.int 0), (.int 0), (.int 0), (.int 0)] (.int 0) := Arv.pad V576 (pad_rep [] (.int 0) 5)
  refine Go.of (T' := T576) (f' := (mkF m 154 #[rv da0, iv 5] [(.ref da0), (.int 0), (.ref b576), (.ref b576), (.ref b572), (.ref b572)])) (fun _ k => XS.iloadN X0.here hx rfl (D d0_0) rfl (XS.ifYes X0.here hx rfl (pc0 := 1) (pc' := 15) rfl (D d0_1) rfl ((if0 _ _).trans (feq (by decide : ¬ ((5 : Int32) = (0 : Int32)))).2) (by decide) (by decide) (XS.iloadN X0.here hx rfl (D d0_15) rfl (XS.iconst X0.here hx rfl (D d0_16) (XS.icmpYes X0.here hx rfl (pc0 := 17) (pc' := 37) rfl (D d0_17) rfl (feq (by decide : ¬ ((5 : Int32) = (1 : Int32)))).2 (by decide) (by decide) (XS.iloadN X0.here hx rfl (D d0_37) rfl (XS.iconst X0.here hx rfl (D d0_38) (XS.icmpYes X0.here hx rfl (pc0 := 39) (pc' := 65) rfl (D d0_39) rfl (feq (by decide : ¬ ((5 : Int32) = (2 : Int32)))).2 (by decide) (by decide) (XS.iloadN X0.here hx rfl (D d0_65) rfl (XS.iconst X0.here hx rfl (D d0_66) (XS.icmpYes X0.here hx rfl (pc0 := 67) (pc' := 99) rfl (D d0_67) rfl (feq (by decide : ¬ ((5 : Int32) = (3 : Int32)))).2 (by decide) (by decide) (XS.iloadN X0.here hx rfl (D d0_99) rfl (XS.iconst X0.here hx rfl (D d0_100) (XS.icmpYes X0.here hx rfl (pc0 := 101) (pc' := 139) rfl (D d0_101) rfl (feq (by decide : ¬ ((5 : Int32) = (4 : Int32)))).2 (by decide) (by decide) (XS.iloadN X0.here hx rfl (D d0_139) rfl (XS.iconst X0.here hx rfl (D d0_140) (XS.icmpNo X0.here hx rfl (D d0_141) rfl (teq (by decide : (5 : Int32) = (5 : Int32))).2 (st572 _ (XS.dup X572.here hx rfl (D d0_147) rfl rfl (XS.iconst X572.here hx rfl (D d0_148) (st576 _ (XS.dup X576.here hx rfl (D d0_151) rfl rfl (XS.iconst X576.here hx rfl (D d0_152) (XS.aloadN X576.here hx rfl (D d0_153) rfl rfl k)))))))))))))))))))))))) ?_
  have f581 : Arv Z h576 da0 kd0 .char (8 : Int32) [(.int (z0 &&& 255)), (.int (z1 &&& 255)), (.int (z2 &&& 255)), (.int (z3 &&& 255)), (.int (z4 &&& 255)), (.int (z5 &&& 255)), (.int (z6 &&& 255)), (.int (z7 &&& 255))] (.int 0) := (Arv.ext f577 E576)
  obtain ⟨cl580, Ar580, qk580, S580, Ng580, H580, G580⟩ := id f581
  have hin580 := inb_of (j := (0 : Int32)) S580 ⟨by decide, by decide⟩
  obtain ⟨cl582, Ar582, qk582, S582, Ng582, H582, G582⟩ := id f579
  obtain ⟨T582, h582, X582, e582, W582, st582⟩ := stC X576 hx hZ e576 Ar582 (j := (0 : Int32)) (inb_of S582 ⟨by decide, by decide⟩) (g := (mkF m 156 #[rv da0, iv 5] [(.int (z0 &&& 255)), (.int 0), (.ref b576), (.ref b576), (.ref b572), (.ref b572)])) rfl rfl (D d0_156)
  have W582 : Wr h576 h582 b576 ((0 : Int32)).toNatClampNeg (.int (z0 &&& 255)) := Eq.mp (congrArg (fun z => Wr h576 h582 b576 ((0 : Int32)).toNatClampNeg (Value.int z)) (i2c_mask z0)) W582
  have O583 := Old0.wr O578 W582 g_b576
  have K583 := Keep.wr K578 W582 (Or.inr z_b576)
  have f582 : Arv Z h582 b576 k576 .char (5 : Int32) [(.int (z0 &&& 255)), (.int 0), (.int 0), (.int 0), (.int 0)] (.int 0) := Arv.set Ar582 qk582 S582 Ng582 H582 G582 (v := (.int (z0 &&& 255))) (own_f255 z0) W582 0 rfl (Nat.le_of_ble_eq_true rfl)
  have N582 := Fr.snoc X582 N0 g_b576
  have f585 : Arv Z h582 da0 kd0 .char (8 : Int32) [(.int (z0 &&& 255)), (.int (z1 &&& 255)), (.int (z2 &&& 255)), (.int (z3 &&& 255)), (.int (z4 &&& 255)), (.int (z5 &&& 255)), (.int (z6 &&& 255)), (.int (z7 &&& 255))] (.int 0) := (Arv.other f581 W582 ne_da0_b576)
  obtain ⟨cl584, Ar584, qk584, S584, Ng584, H584, G584⟩ := id f585
  have hin584 := inb_of (j := (1 : Int32)) S584 ⟨by decide, by decide⟩
  obtain ⟨cl586, Ar586, qk586, S586, Ng586, H586, G586⟩ := id f582
  obtain ⟨T586, h586, X586, e586, W586, st586⟩ := stC X582 hx hZ e582 Ar586 (j := (1 : Int32)) (inb_of S586 ⟨by decide, by decide⟩) (g := (mkF m 162 #[rv da0, iv 5] [(.int (z1 &&& 255)), (.int 1), (.ref b576), (.ref b576), (.ref b572), (.ref b572)])) rfl rfl (D d0_162)
  have W586 : Wr h582 h586 b576 ((1 : Int32)).toNatClampNeg (.int (z1 &&& 255)) := Eq.mp (congrArg (fun z => Wr h582 h586 b576 ((1 : Int32)).toNatClampNeg (Value.int z)) (i2c_mask z1)) W586
  have O587 := Old0.wr O583 W586 g_b576
  have K587 := Keep.wr K583 W586 (Or.inr z_b576)
  have f586 : Arv Z h586 b576 k576 .char (5 : Int32) [(.int (z0 &&& 255)), (.int (z1 &&& 255)), (.int 0), (.int 0), (.int 0)] (.int 0) := Arv.set Ar586 qk586 S586 Ng586 H586 G586 (v := (.int (z1 &&& 255))) (own_f255 z1) W586 1 rfl (Nat.le_of_ble_eq_true rfl)
  have N586 := Fr.snoc X586 N582 g_b576
  have f589 : Arv Z h586 da0 kd0 .char (8 : Int32) [(.int (z0 &&& 255)), (.int (z1 &&& 255)), (.int (z2 &&& 255)), (.int (z3 &&& 255)), (.int (z4 &&& 255)), (.int (z5 &&& 255)), (.int (z6 &&& 255)), (.int (z7 &&& 255))] (.int 0) := (Arv.other f585 W586 ne_da0_b576)
  obtain ⟨cl588, Ar588, qk588, S588, Ng588, H588, G588⟩ := id f589
  have hin588 := inb_of (j := (2 : Int32)) S588 ⟨by decide, by decide⟩
  obtain ⟨cl590, Ar590, qk590, S590, Ng590, H590, G590⟩ := id f586
  obtain ⟨T590, h590, X590, e590, W590, st590⟩ := stC X586 hx hZ e586 Ar590 (j := (2 : Int32)) (inb_of S590 ⟨by decide, by decide⟩) (g := (mkF m 168 #[rv da0, iv 5] [(.int (z2 &&& 255)), (.int 2), (.ref b576), (.ref b576), (.ref b572), (.ref b572)])) rfl rfl (D d0_168)
  have W590 : Wr h586 h590 b576 ((2 : Int32)).toNatClampNeg (.int (z2 &&& 255)) := Eq.mp (congrArg (fun z => Wr h586 h590 b576 ((2 : Int32)).toNatClampNeg (Value.int z)) (i2c_mask z2)) W590
  have O591 := Old0.wr O587 W590 g_b576
  have K591 := Keep.wr K587 W590 (Or.inr z_b576)
  have f590 : Arv Z h590 b576 k576 .char (5 : Int32) [(.int (z0 &&& 255)), (.int (z1 &&& 255)), (.int (z2 &&& 255)), (.int 0), (.int 0)] (.int 0) := Arv.set Ar590 qk590 S590 Ng590 H590 G590 (v := (.int (z2 &&& 255))) (own_f255 z2) W590 2 rfl (Nat.le_of_ble_eq_true rfl)
  have N590 := Fr.snoc X590 N586 g_b576
  have f593 : Arv Z h590 da0 kd0 .char (8 : Int32) [(.int (z0 &&& 255)), (.int (z1 &&& 255)), (.int (z2 &&& 255)), (.int (z3 &&& 255)), (.int (z4 &&& 255)), (.int (z5 &&& 255)), (.int (z6 &&& 255)), (.int (z7 &&& 255))] (.int 0) := (Arv.other f589 W590 ne_da0_b576)
  obtain ⟨cl592, Ar592, qk592, S592, Ng592, H592, G592⟩ := id f593
  have hin592 := inb_of (j := (3 : Int32)) S592 ⟨by decide, by decide⟩
  obtain ⟨cl594, Ar594, qk594, S594, Ng594, H594, G594⟩ := id f590
  obtain ⟨T594, h594, X594, e594, W594, st594⟩ := stC X590 hx hZ e590 Ar594 (j := (3 : Int32)) (inb_of S594 ⟨by decide, by decide⟩) (g := (mkF m 174 #[rv da0, iv 5] [(.int (z3 &&& 255)), (.int 3), (.ref b576), (.ref b576), (.ref b572), (.ref b572)])) rfl rfl (D d0_174)
  have W594 : Wr h590 h594 b576 ((3 : Int32)).toNatClampNeg (.int (z3 &&& 255)) := Eq.mp (congrArg (fun z => Wr h590 h594 b576 ((3 : Int32)).toNatClampNeg (Value.int z)) (i2c_mask z3)) W594
  have O595 := Old0.wr O591 W594 g_b576
  have K595 := Keep.wr K591 W594 (Or.inr z_b576)
  have f594 : Arv Z h594 b576 k576 .char (5 : Int32) [(.int (z0 &&& 255)), (.int (z1 &&& 255)), (.int (z2 &&& 255)), (.int (z3 &&& 255)), (.int 0)] (.int 0) := Arv.set Ar594 qk594 S594 Ng594 H594 G594 (v := (.int (z3 &&& 255))) (own_f255 z3) W594 3 rfl (Nat.le_of_ble_eq_true rfl)
  have N594 := Fr.snoc X594 N590 g_b576
  refine Go.of (T' := T594) (f' := (mkF m 178 #[rv da0, iv 5] [(.ref da0), (.int 4), (.ref b576), (.ref b576), (.ref b572), (.ref b572)])) (fun _ k => XS.iconst X576.here hx rfl (D d0_154) (X576.caload hx (j := (0 : Int32)) (v := (.int (z0 &&& 255))) (by rw [e576]; exact Ar580.1) (State.isArrayOf_alike hZ.alike Ar580.2.1) Ar580.2.2 hin580 (H580.at hin580 rfl) (g := (mkF m 155 #[rv da0, iv 5] [(.int 0), (.ref da0), (.int 0), (.ref b576), (.ref b576), (.ref b572), (.ref b572)])) rfl rfl (D d0_155) _ (st582 _ (XS.dup X582.here hx rfl (D d0_157) rfl rfl (XS.iconst X582.here hx rfl (D d0_158) (XS.aloadN X582.here hx rfl (D d0_159) rfl rfl (XS.iconst X582.here hx rfl (D d0_160) (X582.caload hx (j := (1 : Int32)) (v := (.int (z1 &&& 255))) (by rw [e582]; exact Ar584.1) (State.isArrayOf_alike hZ.alike Ar584.2.1) Ar584.2.2 hin584 (H584.at hin584 rfl) (g := (mkF m 161 #[rv da0, iv 5] [(.int 1), (.ref da0), (.int 1), (.ref b576), (.ref b576), (.ref b572), (.ref b572)])) rfl rfl (D d0_161) _ (st586 _ (XS.dup X586.here hx rfl (D d0_163) rfl rfl (XS.iconst X586.here hx rfl (D d0_164) (XS.aloadN X586.here hx rfl (D d0_165) rfl rfl (XS.iconst X586.here hx rfl (D d0_166) (X586.caload hx (j := (2 : Int32)) (v := (.int (z2 &&& 255))) (by rw [e586]; exact Ar588.1) (State.isArrayOf_alike hZ.alike Ar588.2.1) Ar588.2.2 hin588 (H588.at hin588 rfl) (g := (mkF m 167 #[rv da0, iv 5] [(.int 2), (.ref da0), (.int 2), (.ref b576), (.ref b576), (.ref b572), (.ref b572)])) rfl rfl (D d0_167) _ (st590 _ (XS.dup X590.here hx rfl (D d0_169) rfl rfl (XS.iconst X590.here hx rfl (D d0_170) (XS.aloadN X590.here hx rfl (D d0_171) rfl rfl (XS.iconst X590.here hx rfl (D d0_172) (X590.caload hx (j := (3 : Int32)) (v := (.int (z3 &&& 255))) (by rw [e590]; exact Ar592.1) (State.isArrayOf_alike hZ.alike Ar592.2.1) Ar592.2.2 hin592 (H592.at hin592 rfl) (g := (mkF m 173 #[rv da0, iv 5] [(.int 3), (.ref da0), (.int 3), (.ref b576), (.ref b576), (.ref b572), (.ref b572)])) rfl rfl (D d0_173) _ (st594 _ (XS.dup X594.here hx rfl (D d0_175) rfl rfl (XS.iconst X594.here hx rfl (D d0_176) (XS.aloadN X594.here hx rfl (D d0_177) rfl rfl k)))))))))))))))))))))))) ?_
  have f597 : Arv Z h594 da0 kd0 .char (8 : Int32) [(.int (z0 &&& 255)), (.int (z1 &&& 255)), (.int (z2 &&& 255)), (.int (z3 &&& 255)), (.int (z4 &&& 255)), (.int (z5 &&& 255)), (.int (z6 &&& 255)), (.int (z7 &&& 255))] (.int 0) := (Arv.other f593 W594 ne_da0_b576)
  obtain ⟨cl596, Ar596, qk596, S596, Ng596, H596, G596⟩ := id f597
  have hin596 := inb_of (j := (4 : Int32)) S596 ⟨by decide, by decide⟩
  obtain ⟨cl598, Ar598, qk598, S598, Ng598, H598, G598⟩ := id f594
  obtain ⟨T598, h598, X598, e598, W598, st598⟩ := stC X594 hx hZ e594 Ar598 (j := (4 : Int32)) (inb_of S598 ⟨by decide, by decide⟩) (g := (mkF m 180 #[rv da0, iv 5] [(.int (z4 &&& 255)), (.int 4), (.ref b576), (.ref b576), (.ref b572), (.ref b572)])) rfl rfl (D d0_180)
  have W598 : Wr h594 h598 b576 ((4 : Int32)).toNatClampNeg (.int (z4 &&& 255)) := Eq.mp (congrArg (fun z => Wr h594 h598 b576 ((4 : Int32)).toNatClampNeg (Value.int z)) (i2c_mask z4)) W598
  have O599 := Old0.wr O595 W598 g_b576
  have K599 := Keep.wr K595 W598 (Or.inr z_b576)
  have f598 : Arv Z h598 b576 k576 .char (5 : Int32) [(.int (z0 &&& 255)), (.int (z1 &&& 255)), (.int (z2 &&& 255)), (.int (z3 &&& 255)), (.int (z4 &&& 255))] (.int 0) := Arv.set Ar598 qk598 S598 Ng598 H598 G598 (v := (.int (z4 &&& 255))) (own_f255 z4) W598 4 rfl (Nat.le_of_ble_eq_true rfl)
  have N598 := Fr.snoc X598 N594 g_b576
  have f601 : Exa Z h598 b572 "java/lang/String" := (Exa.wr W598 (Exa.wr W594 (Exa.wr W590 (Exa.wr W586 (Exa.wr W582 (Exa.ext E576 A572))))))
  have f602 : Fld Z h598 b572 "java/lang/String" "value" "[B" .null := (Fld.other W598 (Fld.other W594 (Fld.other W590 (Fld.other W586 (Fld.other W582 (Fld.ext E576 f574) (Or.inl ne_b572_b576)) (Or.inl ne_b572_b576)) (Or.inl ne_b572_b576)) (Or.inl ne_b572_b576)) (Or.inl ne_b572_b576))
  have f603 : Fld Z h598 b572 "java/lang/String" "coder" "B" (.int 0) := (Fld.other W598 (Fld.other W594 (Fld.other W590 (Fld.other W586 (Fld.other W582 (Fld.ext E576 f575) (Or.inl ne_b572_b576)) (Or.inl ne_b572_b576)) (Or.inl ne_b572_b576)) (Or.inl ne_b572_b576)) (Or.inl ne_b572_b576))
  have f604 : Arv Z h598 da0 kd0 .char (8 : Int32) [(.int (z0 &&& 255)), (.int (z1 &&& 255)), (.int (z2 &&& 255)), (.int (z3 &&& 255)), (.int (z4 &&& 255)), (.int (z5 &&& 255)), (.int (z6 &&& 255)), (.int (z7 &&& 255))] (.int 0) := (Arv.other f597 W598 ne_da0_b576)
  have f605 : Exa Z h598 b576 "[C" := (Exa.wr W598 (Exa.wr W594 (Exa.wr W590 (Exa.wr W586 (Exa.wr W582 A576)))))
  obtain ⟨T600, v600, L600, X600, q600, st600⟩ := callNew X598 hx hZ (y := own_m12) rfl hown (own_w hw (i := 10) rfl) (own_w hw (i := 11) rfl) (own_w hw (i := 9) rfl) (own_w hw (i := 12) rfl) (by decide) (rm_str hw G b572 b576 ((5 : Int32)) k576 (([(z0 &&& 255), (z1 &&& 255), (z2 &&& 255), (z3 &&& 255), (z4 &&& 255)] : List Int32)) h598 O599 (rfl) (And.intro (own_le255 _) (And.intro (own_le255 _) (And.intro (own_le255 _) (And.intro (own_le255 _) (And.intro (own_le255 _) (trivial)))))) (Nat.le_of_ble_eq_true rfl) (Nat.succ_pos _) f601 f602 f603 g_b572 f598 ne_b572_b576) e598 (W := 1) (by decide) (by decide) (by decide) (by decide) (g := (mkF m 181 #[rv da0, iv 5] [(.ref b576), (.ref b572), (.ref b572)])) rfl (by rw [hml]; rfl) (a := b572) (argsL := [(.ref b576)]) (rest := [(.ref b572)]) (lenOf pd43 rfl) rfl rfl (Nat.le_of_eq rfl) (D d0_181)
  obtain ⟨da_600, kd_600, rfl, N600q, K600q, p600_0, p600_1, p600_2, p600_3, p600_4⟩ := q600
  have N600 := Fr.app N598 N600q
  have O606 := Old0.keep O599 K600q (allS g_b572 all0)
  have K606 := Keep.trans K599 K600q (allS (Or.inr z_b572) all0)
  have z_da_600 : h0.size ≤ da_600 := Nat.le_trans K599.1 p600_0
  have g_da_600 : Z.heap.size ≤ da_600 := Nat.le_trans O599.1 p600_0
  have ne_da0_da_600 : da0 ≠ da_600 := Nat.ne_of_lt (Nat.lt_of_lt_of_le f604.lt p600_0)
  have ne_b572_da_600 : b572 ≠ da_600 := Nat.ne_of_lt (Nat.lt_of_lt_of_le f601.lt p600_0)
  have ne_b576_da_600 : b576 ≠ da_600 := Nat.ne_of_lt (Nat.lt_of_lt_of_le f605.lt p600_0)
  have p600_3 : Arv Z T600.heap da_600 kd_600 .byte (5 : Int32) [(.int ((z0 &&& 255).toInt8.toInt32)), (.int ((z1 &&& 255).toInt8.toInt32)), (.int ((z2 &&& 255).toInt8.toInt32)), (.int ((z3 &&& 255).toInt8.toInt32)), (.int ((z4 &&& 255).toInt8.toInt32))] (.int 0) := p600_3
  have f607 : Exa Z T600.heap b572 "java/lang/String" := (Exa.keep f601 K600q)
  refine Go.of (T' := T600) (f' := (mkF m 184 #[rv da0, iv 5] [(.ref b572)])) (fun _ k => XS.iconst X594.here hx rfl (D d0_178) (X594.caload hx (j := (4 : Int32)) (v := (.int (z4 &&& 255))) (by rw [e594]; exact Ar596.1) (State.isArrayOf_alike hZ.alike Ar596.2.1) Ar596.2.2 hin596 (H596.at hin596 rfl) (g := (mkF m 179 #[rv da0, iv 5] [(.int 4), (.ref da0), (.int 4), (.ref b576), (.ref b576), (.ref b572), (.ref b572)])) rfl rfl (D d0_179) _ (st598 _ (st600 _ k)))) ?_
  exact Go.retA X600 hx hlk hret rfl rfl (D d0_184) (by decide) (by decide) ⟨b572, da_600, kd_600, rfl, N600, K606, f607, p600_1, p600_2, p600_3⟩
theorem d0_185 : decode method_4_code 185 = .ok (.iload_n 1, 1) := by decide +kernel
theorem d0_186 : decode method_4_code 186 = .ok (.bipush 6, 2) := by decide +kernel
theorem d0_188 : decode method_4_code 188 = .ok (.if_icmp .ne 51, 3) := by decide +kernel
theorem d0_191 : decode method_4_code 191 = .ok (.new 22, 3) := by decide +kernel
theorem d0_194 : decode method_4_code 194 = .ok (.dup, 1) := by decide +kernel
theorem d0_195 : decode method_4_code 195 = .ok (.bipush 6, 2) := by decide +kernel
theorem d0_197 : decode method_4_code 197 = .ok (.newarray .char, 2) := by decide +kernel
theorem d0_199 : decode method_4_code 199 = .ok (.dup, 1) := by decide +kernel
theorem d0_200 : decode method_4_code 200 = .ok (.iconst 0, 1) := by decide +kernel
theorem d0_201 : decode method_4_code 201 = .ok (.aload_n 0, 1) := by decide +kernel
theorem d0_202 : decode method_4_code 202 = .ok (.iconst 0, 1) := by decide +kernel
theorem d0_203 : decode method_4_code 203 = .ok (.caload, 1) := by decide +kernel
theorem d0_204 : decode method_4_code 204 = .ok (.castore, 1) := by decide +kernel
theorem d0_205 : decode method_4_code 205 = .ok (.dup, 1) := by decide +kernel
theorem d0_206 : decode method_4_code 206 = .ok (.iconst 1, 1) := by decide +kernel
theorem d0_207 : decode method_4_code 207 = .ok (.aload_n 0, 1) := by decide +kernel
theorem d0_208 : decode method_4_code 208 = .ok (.iconst 1, 1) := by decide +kernel
theorem d0_209 : decode method_4_code 209 = .ok (.caload, 1) := by decide +kernel
theorem d0_210 : decode method_4_code 210 = .ok (.castore, 1) := by decide +kernel
theorem d0_211 : decode method_4_code 211 = .ok (.dup, 1) := by decide +kernel
theorem d0_212 : decode method_4_code 212 = .ok (.iconst 2, 1) := by decide +kernel
theorem d0_213 : decode method_4_code 213 = .ok (.aload_n 0, 1) := by decide +kernel
theorem d0_214 : decode method_4_code 214 = .ok (.iconst 2, 1) := by decide +kernel
theorem d0_215 : decode method_4_code 215 = .ok (.caload, 1) := by decide +kernel
theorem d0_216 : decode method_4_code 216 = .ok (.castore, 1) := by decide +kernel
theorem d0_217 : decode method_4_code 217 = .ok (.dup, 1) := by decide +kernel
theorem d0_218 : decode method_4_code 218 = .ok (.iconst 3, 1) := by decide +kernel
theorem d0_219 : decode method_4_code 219 = .ok (.aload_n 0, 1) := by decide +kernel
theorem d0_220 : decode method_4_code 220 = .ok (.iconst 3, 1) := by decide +kernel
theorem d0_221 : decode method_4_code 221 = .ok (.caload, 1) := by decide +kernel
theorem d0_222 : decode method_4_code 222 = .ok (.castore, 1) := by decide +kernel
theorem d0_223 : decode method_4_code 223 = .ok (.dup, 1) := by decide +kernel
theorem d0_224 : decode method_4_code 224 = .ok (.iconst 4, 1) := by decide +kernel
theorem d0_225 : decode method_4_code 225 = .ok (.aload_n 0, 1) := by decide +kernel
theorem d0_226 : decode method_4_code 226 = .ok (.iconst 4, 1) := by decide +kernel
theorem d0_227 : decode method_4_code 227 = .ok (.caload, 1) := by decide +kernel
theorem d0_228 : decode method_4_code 228 = .ok (.castore, 1) := by decide +kernel
theorem d0_229 : decode method_4_code 229 = .ok (.dup, 1) := by decide +kernel
theorem d0_230 : decode method_4_code 230 = .ok (.iconst 5, 1) := by decide +kernel
theorem d0_231 : decode method_4_code 231 = .ok (.aload_n 0, 1) := by decide +kernel
theorem d0_232 : decode method_4_code 232 = .ok (.iconst 5, 1) := by decide +kernel
theorem d0_233 : decode method_4_code 233 = .ok (.caload, 1) := by decide +kernel
theorem d0_234 : decode method_4_code 234 = .ok (.castore, 1) := by decide +kernel
theorem d0_235 : decode method_4_code 235 = .ok (.invokespecial 65, 3) := by decide +kernel
theorem d0_238 : decode method_4_code 238 = .ok (.areturn, 1) := by decide +kernel
theorem ef_rm_make6 (m : MethodId) (da0 : Addr) : entryFrame m #[(.ref da0), (.int (6 : Int32))] 2 = mkF m 0 #[rv da0, iv (6 : Int32)] [] := by first | (simp [entryFrame, mkF, argsToLocals, Value.category]; done) | rfl
set_option maxRecDepth 65536 in
set_option maxHeartbeats 40000000 in
theorem rm_make6 {l : Launch} {Z : State} {a0 : Array Value} {A : Nat → Addr} {KC : Nat → Cell} {IC : Nat → Int32} {VC : Nat → Value} (hw : ∀ d ∈ tables_1, d.before a0 Z = true) (G : own_Ctx Z A KC IC VC) (da0 : Addr) (kd0 : ClassId) (z0 : Int32) (z1 : Int32) (z2 : Int32) (z3 : Int32) (z4 : Int32) (z5 : Int32) (z6 : Int32) (z7 : Int32) (h0 : Heap) (O0 : Ext Z.heap h0) (prem0 : Arv Z h0 da0 kd0 .char (8 : Int32) [(.int (z0 &&& (255 : Int32))), (.int (z1 &&& (255 : Int32))), (.int (z2 &&& (255 : Int32))), (.int (z3 &&& (255 : Int32))), (.int (z4 &&& (255 : Int32))), (.int (z5 &&& (255 : Int32))), (.int (z6 &&& (255 : Int32))), (.int (z7 &&& (255 : Int32)))] (.int (0 : Int32))) :
    Ok l Z own_m44 method_4_code 2 (some (.object "java/lang/String")) ({ frames := 4, cells := 3, slots := 18, locals := 66 } : Room) #[(.ref da0), (.int (6 : Int32))] h0
      (fun v h L => ∃ so : Addr, ∃ sv : Addr, ∃ ks : ClassId, v = some (.ref so) ∧ (Fr Z.heap.size L) ∧ (Keep h0 h []) ∧ (Exa Z h so "java/lang/String") ∧ (Fld Z h so "java/lang/String" "value" "[B" (.ref sv)) ∧ (Fld Z h so "java/lang/String" "coder" "B" (.int (0 : Int32))) ∧ (Arv Z h sv ks .byte (6 : Int32) [(.int ((z0 &&& (255 : Int32)).toInt8.toInt32)), (.int ((z1 &&& (255 : Int32)).toInt8.toInt32)), (.int ((z2 &&& (255 : Int32)).toInt8.toInt32)), (.int ((z3 &&& (255 : Int32)).toInt8.toInt32)), (.int ((z4 &&& (255 : Int32)).toInt8.toInt32)), (.int ((z5 &&& (255 : Int32)).toInt8.toInt32))] (.int (0 : Int32)))) := by
  refine Ok.mk pn45 ?_
  intro p e s m below meth c T0 hx hby hml hown hnm hret hlk hZ e0 X0
  refine Go.cast (ef_rm_make6 m da0) ?_
  have D := @hb _ _ hby
  have N0 := Fr.nil Z.heap.size
  have K0 : Keep h0 h0 [] := Keep.refl _ _
  obtain ⟨T615, h615, b615, q615, X615, e615, E615, A615, D615, st615⟩ := newOb X0 hx hZ hown (own_w hw (i := 7) rfl) (own_w hw (i := 8) rfl) (own_w hw (i := 9) rfl) e0 (g := (mkF m 191 #[rv da0, iv 6] [])) rfl (D d0_191) (by decide) (by decide)
  have O616 := Old0.ext O0 E615
  have K616 := Keep.ext K0 E615
  have g_b615 : Z.heap.size ≤ b615 := q615 ▸ O0.1
  have z_b615 : h0.size ≤ b615 := q615 ▸ K0.1
  have ne_da0_b615 : da0 ≠ b615 := q615 ▸ Nat.ne_of_lt prem0.lt
  have f617 : Fld Z h615 b615 "java/lang/String" "value" "[B" .null := D615 (Or.inr (own_w hw (i := 22) rfl)) (ty := (.array .byte)) (by decide)
  have f618 : Fld Z h615 b615 "java/lang/String" "coder" "B" (.int 0) := D615 (Or.inr (own_w hw (i := 23) rfl)) (ty := .byte) (by decide)
  have f620 : Arv Z h615 da0 kd0 .char (8 : Int32) [(.int (z0 &&& 255)), (.int (z1 &&& 255)), (.int (z2 &&& 255)), (.int (z3 &&& 255)), (.int (z4 &&& 255)), (.int (z5 &&& 255)), (.int (z6 &&& 255)), (.int (z7 &&& 255))] (.int 0) := (Arv.ext prem0 E615)
  obtain ⟨T619, h619, k619, b619, q619, X619, e619, E619, V619, A619, st619⟩ := newAr X615 hx hZ (own_w hw (i := 0) rfl) e615 (g := (mkF m 197 #[rv da0, iv 6] [(.int 6), (.ref b615), (.ref b615)])) rfl (D d0_197) rfl (by decide) (cap := 6) (by decide) (by decide) (by decide) (by decide) (ad := "[C") (by decide)
  have O621 := Old0.ext O616 E619
  have K621 := Keep.ext K616 E619
  have g_b619 : Z.heap.size ≤ b619 := q619 ▸ O616.1
  have z_b619 : h0.size ≤ b619 := q619 ▸ K616.1
  have ne_da0_b619 : da0 ≠ b619 := q619 ▸ Nat.ne_of_lt f620.lt
  have ne_b615_b619 : b615 ≠ b619 := q619 ▸ Nat.ne_of_lt A615.lt
  have f622 : Arv Z h619 b619 k619 .char (6 : Int32) [(.int 0), (.int 0), (.int 0), (.int 0), (.int 0), (.int 0)] (.int 0) := Arv.pad V619 (pad_rep [] (.int 0) 6)
  refine Go.of (T' := T619) (f' := (mkF m 199 #[rv da0, iv 6] [(.ref b619), (.ref b615), (.ref b615)])) (fun _ k => XS.iloadN X0.here hx rfl (D d0_0) rfl (XS.ifYes X0.here hx rfl (pc0 := 1) (pc' := 15) rfl (D d0_1) rfl ((if0 _ _).trans (feq (by decide : ¬ ((6 : Int32) = (0 : Int32)))).2) (by decide) (by decide) (XS.iloadN X0.here hx rfl (D d0_15) rfl (XS.iconst X0.here hx rfl (D d0_16) (XS.icmpYes X0.here hx rfl (pc0 := 17) (pc' := 37) rfl (D d0_17) rfl (feq (by decide : ¬ ((6 : Int32) = (1 : Int32)))).2 (by decide) (by decide) (XS.iloadN X0.here hx rfl (D d0_37) rfl (XS.iconst X0.here hx rfl (D d0_38) (XS.icmpYes X0.here hx rfl (pc0 := 39) (pc' := 65) rfl (D d0_39) rfl (feq (by decide : ¬ ((6 : Int32) = (2 : Int32)))).2 (by decide) (by decide) (XS.iloadN X0.here hx rfl (D d0_65) rfl (XS.iconst X0.here hx rfl (D d0_66) (XS.icmpYes X0.here hx rfl (pc0 := 67) (pc' := 99) rfl (D d0_67) rfl (feq (by decide : ¬ ((6 : Int32) = (3 : Int32)))).2 (by decide) (by decide) (XS.iloadN X0.here hx rfl (D d0_99) rfl (XS.iconst X0.here hx rfl (D d0_100) (XS.icmpYes X0.here hx rfl (pc0 := 101) (pc' := 139) rfl (D d0_101) rfl (feq (by decide : ¬ ((6 : Int32) = (4 : Int32)))).2 (by decide) (by decide) (XS.iloadN X0.here hx rfl (D d0_139) rfl (XS.iconst X0.here hx rfl (D d0_140) (XS.icmpYes X0.here hx rfl (pc0 := 141) (pc' := 185) rfl (D d0_141) rfl (feq (by decide : ¬ ((6 : Int32) = (5 : Int32)))).2 (by decide) (by decide) (XS.iloadN X0.here hx rfl (D d0_185) rfl (XS.bipush X0.here hx rfl (D d0_186) (XS.icmpNo X0.here hx rfl (D d0_188) rfl (teq (by decide : (6 : Int32) = (6 : Int32))).2 (st615 _ (XS.dup X615.here hx rfl (D d0_194) rfl rfl (XS.bipush X615.here hx rfl (D d0_195) (st619 _ k)))))))))))))))))))))))) ?_
  have f624 : Arv Z h619 da0 kd0 .char (8 : Int32) [(.int (z0 &&& 255)), (.int (z1 &&& 255)), (.int (z2 &&& 255)), (.int (z3 &&& 255)), (.int (z4 &&& 255)), (.int (z5 &&& 255)), (.int (z6 &&& 255)), (.int (z7 &&& 255))] (.int 0) := (Arv.ext f620 E619)
  obtain ⟨cl623, Ar623, qk623, S623, Ng623, H623, G623⟩ := id f624
  have hin623 := inb_of (j := (0 : Int32)) S623 ⟨by decide, by decide⟩
  obtain ⟨cl625, Ar625, qk625, S625, Ng625, H625, G625⟩ := id f622
  obtain ⟨T625, h625, X625, e625, W625, st625⟩ := stC X619 hx hZ e619 Ar625 (j := (0 : Int32)) (inb_of S625 ⟨by decide, by decide⟩) (g := (mkF m 204 #[rv da0, iv 6] [(.int (z0 &&& 255)), (.int 0), (.ref b619), (.ref b619), (.ref b615), (.ref b615)])) rfl rfl (D d0_204)
  have W625 : Wr h619 h625 b619 ((0 : Int32)).toNatClampNeg (.int (z0 &&& 255)) := Eq.mp (congrArg (fun z => Wr h619 h625 b619 ((0 : Int32)).toNatClampNeg (Value.int z)) (i2c_mask z0)) W625
  have O626 := Old0.wr O621 W625 g_b619
  have K626 := Keep.wr K621 W625 (Or.inr z_b619)
  have f625 : Arv Z h625 b619 k619 .char (6 : Int32) [(.int (z0 &&& 255)), (.int 0), (.int 0), (.int 0), (.int 0), (.int 0)] (.int 0) := Arv.set Ar625 qk625 S625 Ng625 H625 G625 (v := (.int (z0 &&& 255))) (own_f255 z0) W625 0 rfl (Nat.le_of_ble_eq_true rfl)
  have N625 := Fr.snoc X625 N0 g_b619
  have f628 : Arv Z h625 da0 kd0 .char (8 : Int32) [(.int (z0 &&& 255)), (.int (z1 &&& 255)), (.int (z2 &&& 255)), (.int (z3 &&& 255)), (.int (z4 &&& 255)), (.int (z5 &&& 255)), (.int (z6 &&& 255)), (.int (z7 &&& 255))] (.int 0) := (Arv.other f624 W625 ne_da0_b619)
  obtain ⟨cl627, Ar627, qk627, S627, Ng627, H627, G627⟩ := id f628
  have hin627 := inb_of (j := (1 : Int32)) S627 ⟨by decide, by decide⟩
  obtain ⟨cl629, Ar629, qk629, S629, Ng629, H629, G629⟩ := id f625
  obtain ⟨T629, h629, X629, e629, W629, st629⟩ := stC X625 hx hZ e625 Ar629 (j := (1 : Int32)) (inb_of S629 ⟨by decide, by decide⟩) (g := (mkF m 210 #[rv da0, iv 6] [(.int (z1 &&& 255)), (.int 1), (.ref b619), (.ref b619), (.ref b615), (.ref b615)])) rfl rfl (D d0_210)
  have W629 : Wr h625 h629 b619 ((1 : Int32)).toNatClampNeg (.int (z1 &&& 255)) := Eq.mp (congrArg (fun z => Wr h625 h629 b619 ((1 : Int32)).toNatClampNeg (Value.int z)) (i2c_mask z1)) W629
  have O630 := Old0.wr O626 W629 g_b619
  have K630 := Keep.wr K626 W629 (Or.inr z_b619)
  have f629 : Arv Z h629 b619 k619 .char (6 : Int32) [(.int (z0 &&& 255)), (.int (z1 &&& 255)), (.int 0), (.int 0), (.int 0), (.int 0)] (.int 0) := Arv.set Ar629 qk629 S629 Ng629 H629 G629 (v := (.int (z1 &&& 255))) (own_f255 z1) W629 1 rfl (Nat.le_of_ble_eq_true rfl)
  have N629 := Fr.snoc X629 N625 g_b619
  have f632 : Arv Z h629 da0 kd0 .char (8 : Int32) [(.int (z0 &&& 255)), (.int (z1 &&& 255)), (.int (z2 &&& 255)), (.int (z3 &&& 255)), (.int (z4 &&& 255)), (.int (z5 &&& 255)), (.int (z6 &&& 255)), (.int (z7 &&& 255))] (.int 0) := (Arv.other f628 W629 ne_da0_b619)
  obtain ⟨cl631, Ar631, qk631, S631, Ng631, H631, G631⟩ := id f632
  have hin631 := inb_of (j := (2 : Int32)) S631 ⟨by decide, by decide⟩
  obtain ⟨cl633, Ar633, qk633, S633, Ng633, H633, G633⟩ := id f629
  obtain ⟨T633, h633, X633, e633, W633, st633⟩ := stC X629 hx hZ e629 Ar633 (j := (2 : Int32)) (inb_of S633 ⟨by decide, by decide⟩) (g := (mkF m 216 #[rv da0, iv 6] [(.int (z2 &&& 255)), (.int 2), (.ref b619), (.ref b619), (.ref b615), (.ref b615)])) rfl rfl (D d0_216)
  have W633 : Wr h629 h633 b619 ((2 : Int32)).toNatClampNeg (.int (z2 &&& 255)) := Eq.mp (congrArg (fun z => Wr h629 h633 b619 ((2 : Int32)).toNatClampNeg (Value.int z)) (i2c_mask z2)) W633
  have O634 := Old0.wr O630 W633 g_b619
  have K634 := Keep.wr K630 W633 (Or.inr z_b619)
  have f633 : Arv Z h633 b619 k619 .char (6 : Int32) [(.int (z0 &&& 255)), (.int (z1 &&& 255)), (.int (z2 &&& 255)), (.int 0), (.int 0), (.int 0)] (.int 0) := Arv.set Ar633 qk633 S633 Ng633 H633 G633 (v := (.int (z2 &&& 255))) (own_f255 z2) W633 2 rfl (Nat.le_of_ble_eq_true rfl)
  have N633 := Fr.snoc X633 N629 g_b619
  have f636 : Arv Z h633 da0 kd0 .char (8 : Int32) [(.int (z0 &&& 255)), (.int (z1 &&& 255)), (.int (z2 &&& 255)), (.int (z3 &&& 255)), (.int (z4 &&& 255)), (.int (z5 &&& 255)), (.int (z6 &&& 255)), (.int (z7 &&& 255))] (.int 0) := (Arv.other f632 W633 ne_da0_b619)
  obtain ⟨cl635, Ar635, qk635, S635, Ng635, H635, G635⟩ := id f636
  have hin635 := inb_of (j := (3 : Int32)) S635 ⟨by decide, by decide⟩
  obtain ⟨cl637, Ar637, qk637, S637, Ng637, H637, G637⟩ := id f633
  obtain ⟨T637, h637, X637, e637, W637, st637⟩ := stC X633 hx hZ e633 Ar637 (j := (3 : Int32)) (inb_of S637 ⟨by decide, by decide⟩) (g := (mkF m 222 #[rv da0, iv 6] [(.int (z3 &&& 255)), (.int 3), (.ref b619), (.ref b619), (.ref b615), (.ref b615)])) rfl rfl (D d0_222)
  have W637 : Wr h633 h637 b619 ((3 : Int32)).toNatClampNeg (.int (z3 &&& 255)) := Eq.mp (congrArg (fun z => Wr h633 h637 b619 ((3 : Int32)).toNatClampNeg (Value.int z)) (i2c_mask z3)) W637
  have O638 := Old0.wr O634 W637 g_b619
  have K638 := Keep.wr K634 W637 (Or.inr z_b619)
  have f637 : Arv Z h637 b619 k619 .char (6 : Int32) [(.int (z0 &&& 255)), (.int (z1 &&& 255)), (.int (z2 &&& 255)), (.int (z3 &&& 255)), (.int 0), (.int 0)] (.int 0) := Arv.set Ar637 qk637 S637 Ng637 H637 G637 (v := (.int (z3 &&& 255))) (own_f255 z3) W637 3 rfl (Nat.le_of_ble_eq_true rfl)
  have N637 := Fr.snoc X637 N633 g_b619
  refine Go.of (T' := T637) (f' := (mkF m 223 #[rv da0, iv 6] [(.ref b619), (.ref b615), (.ref b615)])) (fun _ k => XS.dup X619.here hx rfl (D d0_199) rfl rfl (XS.iconst X619.here hx rfl (D d0_200) (XS.aloadN X619.here hx rfl (D d0_201) rfl rfl (XS.iconst X619.here hx rfl (D d0_202) (X619.caload hx (j := (0 : Int32)) (v := (.int (z0 &&& 255))) (by rw [e619]; exact Ar623.1) (State.isArrayOf_alike hZ.alike Ar623.2.1) Ar623.2.2 hin623 (H623.at hin623 rfl) (g := (mkF m 203 #[rv da0, iv 6] [(.int 0), (.ref da0), (.int 0), (.ref b619), (.ref b619), (.ref b615), (.ref b615)])) rfl rfl (D d0_203) _ (st625 _ (XS.dup X625.here hx rfl (D d0_205) rfl rfl (XS.iconst X625.here hx rfl (D d0_206) (XS.aloadN X625.here hx rfl (D d0_207) rfl rfl (XS.iconst X625.here hx rfl (D d0_208) (X625.caload hx (j := (1 : Int32)) (v := (.int (z1 &&& 255))) (by rw [e625]; exact Ar627.1) (State.isArrayOf_alike hZ.alike Ar627.2.1) Ar627.2.2 hin627 (H627.at hin627 rfl) (g := (mkF m 209 #[rv da0, iv 6] [(.int 1), (.ref da0), (.int 1), (.ref b619), (.ref b619), (.ref b615), (.ref b615)])) rfl rfl (D d0_209) _ (st629 _ (XS.dup X629.here hx rfl (D d0_211) rfl rfl (XS.iconst X629.here hx rfl (D d0_212) (XS.aloadN X629.here hx rfl (D d0_213) rfl rfl (XS.iconst X629.here hx rfl (D d0_214) (X629.caload hx (j := (2 : Int32)) (v := (.int (z2 &&& 255))) (by rw [e629]; exact Ar631.1) (State.isArrayOf_alike hZ.alike Ar631.2.1) Ar631.2.2 hin631 (H631.at hin631 rfl) (g := (mkF m 215 #[rv da0, iv 6] [(.int 2), (.ref da0), (.int 2), (.ref b619), (.ref b619), (.ref b615), (.ref b615)])) rfl rfl (D d0_215) _ (st633 _ (XS.dup X633.here hx rfl (D d0_217) rfl rfl (XS.iconst X633.here hx rfl (D d0_218) (XS.aloadN X633.here hx rfl (D d0_219) rfl rfl (XS.iconst X633.here hx rfl (D d0_220) (X633.caload hx (j := (3 : Int32)) (v := (.int (z3 &&& 255))) (by rw [e633]; exact Ar635.1) (State.isArrayOf_alike hZ.alike Ar635.2.1) Ar635.2.2 hin635 (H635.at hin635 rfl) (g := (mkF m 221 #[rv da0, iv 6] [(.int 3), (.ref da0), (.int 3), (.ref b619), (.ref b619), (.ref b615), (.ref b615)])) rfl rfl (D d0_221) _ (st637 _ k)))))))))))))))))))))))) ?_
  have f640 : Arv Z h637 da0 kd0 .char (8 : Int32) [(.int (z0 &&& 255)), (.int (z1 &&& 255)), (.int (z2 &&& 255)), (.int (z3 &&& 255)), (.int (z4 &&& 255)), (.int (z5 &&& 255)), (.int (z6 &&& 255)), (.int (z7 &&& 255))] (.int 0) := (Arv.other f636 W637 ne_da0_b619)
  obtain ⟨cl639, Ar639, qk639, S639, Ng639, H639, G639⟩ := id f640
  have hin639 := inb_of (j := (4 : Int32)) S639 ⟨by decide, by decide⟩
  obtain ⟨cl641, Ar641, qk641, S641, Ng641, H641, G641⟩ := id f637
  obtain ⟨T641, h641, X641, e641, W641, st641⟩ := stC X637 hx hZ e637 Ar641 (j := (4 : Int32)) (inb_of S641 ⟨by decide, by decide⟩) (g := (mkF m 228 #[rv da0, iv 6] [(.int (z4 &&& 255)), (.int 4), (.ref b619), (.ref b619), (.ref b615), (.ref b615)])) rfl rfl (D d0_228)
  have W641 : Wr h637 h641 b619 ((4 : Int32)).toNatClampNeg (.int (z4 &&& 255)) := Eq.mp (congrArg (fun z => Wr h637 h641 b619 ((4 : Int32)).toNatClampNeg (Value.int z)) (i2c_mask z4)) W641
  have O642 := Old0.wr O638 W641 g_b619
  have K642 := Keep.wr K638 W641 (Or.inr z_b619)
  have f641 : Arv Z h641 b619 k619 .char (6 : Int32) [(.int (z0 &&& 255)), (.int (z1 &&& 255)), (.int (z2 &&& 255)), (.int (z3 &&& 255)), (.int (z4 &&& 255)), (.int 0)] (.int 0) := Arv.set Ar641 qk641 S641 Ng641 H641 G641 (v := (.int (z4 &&& 255))) (own_f255 z4) W641 4 rfl (Nat.le_of_ble_eq_true rfl)
  have N641 := Fr.snoc X641 N637 g_b619
  have f644 : Arv Z h641 da0 kd0 .char (8 : Int32) [(.int (z0 &&& 255)), (.int (z1 &&& 255)), (.int (z2 &&& 255)), (.int (z3 &&& 255)), (.int (z4 &&& 255)), (.int (z5 &&& 255)), (.int (z6 &&& 255)), (.int (z7 &&& 255))] (.int 0) := (Arv.other f640 W641 ne_da0_b619)
  obtain ⟨cl643, Ar643, qk643, S643, Ng643, H643, G643⟩ := id f644
  have hin643 := inb_of (j := (5 : Int32)) S643 ⟨by decide, by decide⟩
  obtain ⟨cl645, Ar645, qk645, S645, Ng645, H645, G645⟩ := id f641
  obtain ⟨T645, h645, X645, e645, W645, st645⟩ := stC X641 hx hZ e641 Ar645 (j := (5 : Int32)) (inb_of S645 ⟨by decide, by decide⟩) (g := (mkF m 234 #[rv da0, iv 6] [(.int (z5 &&& 255)), (.int 5), (.ref b619), (.ref b619), (.ref b615), (.ref b615)])) rfl rfl (D d0_234)
  have W645 : Wr h641 h645 b619 ((5 : Int32)).toNatClampNeg (.int (z5 &&& 255)) := Eq.mp (congrArg (fun z => Wr h641 h645 b619 ((5 : Int32)).toNatClampNeg (Value.int z)) (i2c_mask z5)) W645
  have O646 := Old0.wr O642 W645 g_b619
  have K646 := Keep.wr K642 W645 (Or.inr z_b619)
  have f645 : Arv Z h645 b619 k619 .char (6 : Int32) [(.int (z0 &&& 255)), (.int (z1 &&& 255)), (.int (z2 &&& 255)), (.int (z3 &&& 255)), (.int (z4 &&& 255)), (.int (z5 &&& 255))] (.int 0) := Arv.set Ar645 qk645 S645 Ng645 H645 G645 (v := (.int (z5 &&& 255))) (own_f255 z5) W645 5 rfl (Nat.le_of_ble_eq_true rfl)
  have N645 := Fr.snoc X645 N641 g_b619
  have f648 : Exa Z h645 b615 "java/lang/String" := (Exa.wr W645 (Exa.wr W641 (Exa.wr W637 (Exa.wr W633 (Exa.wr W629 (Exa.wr W625 (Exa.ext E619 A615)))))))
  have f649 : Fld Z h645 b615 "java/lang/String" "value" "[B" .null := (Fld.other W645 (Fld.other W641 (Fld.other W637 (Fld.other W633 (Fld.other W629 (Fld.other W625 (Fld.ext E619 f617) (Or.inl ne_b615_b619)) (Or.inl ne_b615_b619)) (Or.inl ne_b615_b619)) (Or.inl ne_b615_b619)) (Or.inl ne_b615_b619)) (Or.inl ne_b615_b619))
  have f650 : Fld Z h645 b615 "java/lang/String" "coder" "B" (.int 0) := (Fld.other W645 (Fld.other W641 (Fld.other W637 (Fld.other W633 (Fld.other W629 (Fld.other W625 (Fld.ext E619 f618) (Or.inl ne_b615_b619)) (Or.inl ne_b615_b619)) (Or.inl ne_b615_b619)) (Or.inl ne_b615_b619)) (Or.inl ne_b615_b619)) (Or.inl ne_b615_b619))
  have f651 : Arv Z h645 da0 kd0 .char (8 : Int32) [(.int (z0 &&& 255)), (.int (z1 &&& 255)), (.int (z2 &&& 255)), (.int (z3 &&& 255)), (.int (z4 &&& 255)), (.int (z5 &&& 255)), (.int (z6 &&& 255)), (.int (z7 &&& 255))] (.int 0) := (Arv.other f644 W645 ne_da0_b619)
  have f652 : Exa Z h645 b619 "[C" := (Exa.wr W645 (Exa.wr W641 (Exa.wr W637 (Exa.wr W633 (Exa.wr W629 (Exa.wr W625 A619))))))
  obtain ⟨T647, v647, L647, X647, q647, st647⟩ := callNew X645 hx hZ (y := own_m12) rfl hown (own_w hw (i := 10) rfl) (own_w hw (i := 11) rfl) (own_w hw (i := 9) rfl) (own_w hw (i := 12) rfl) (by decide) (rm_str hw G b615 b619 ((6 : Int32)) k619 (([(z0 &&& 255), (z1 &&& 255), (z2 &&& 255), (z3 &&& 255), (z4 &&& 255), (z5 &&& 255)] : List Int32)) h645 O646 (rfl) (And.intro (own_le255 _) (And.intro (own_le255 _) (And.intro (own_le255 _) (And.intro (own_le255 _) (And.intro (own_le255 _) (And.intro (own_le255 _) (trivial))))))) (Nat.le_of_ble_eq_true rfl) (Nat.succ_pos _) f648 f649 f650 g_b615 f645 ne_b615_b619) e645 (W := 1) (by decide) (by decide) (by decide) (by decide) (g := (mkF m 235 #[rv da0, iv 6] [(.ref b619), (.ref b615), (.ref b615)])) rfl (by rw [hml]; rfl) (a := b615) (argsL := [(.ref b619)]) (rest := [(.ref b615)]) (lenOf pd43 rfl) rfl rfl (Nat.le_of_eq rfl) (D d0_235)
  obtain ⟨da_647, kd_647, rfl, N647q, K647q, p647_0, p647_1, p647_2, p647_3, p647_4⟩ := q647
  have N647 := Fr.app N645 N647q
  have O653 := Old0.keep O646 K647q (allS g_b615 all0)
  have K653 := Keep.trans K646 K647q (allS (Or.inr z_b615) all0)
  have z_da_647 : h0.size ≤ da_647 := Nat.le_trans K646.1 p647_0
  have g_da_647 : Z.heap.size ≤ da_647 := Nat.le_trans O646.1 p647_0
  have ne_da0_da_647 : da0 ≠ da_647 := Nat.ne_of_lt (Nat.lt_of_lt_of_le f651.lt p647_0)
  have ne_b615_da_647 : b615 ≠ da_647 := Nat.ne_of_lt (Nat.lt_of_lt_of_le f648.lt p647_0)
  have ne_b619_da_647 : b619 ≠ da_647 := Nat.ne_of_lt (Nat.lt_of_lt_of_le f652.lt p647_0)
  have p647_3 : Arv Z T647.heap da_647 kd_647 .byte (6 : Int32) [(.int ((z0 &&& 255).toInt8.toInt32)), (.int ((z1 &&& 255).toInt8.toInt32)), (.int ((z2 &&& 255).toInt8.toInt32)), (.int ((z3 &&& 255).toInt8.toInt32)), (.int ((z4 &&& 255).toInt8.toInt32)), (.int ((z5 &&& 255).toInt8.toInt32))] (.int 0) := p647_3
  have f654 : Exa Z T647.heap b615 "java/lang/String" := (Exa.keep f648 K647q)
  refine Go.of (T' := T647) (f' := (mkF m 238 #[rv da0, iv 6] [(.ref b615)])) (fun _ k => XS.dup X637.here hx rfl (D d0_223) rfl rfl (XS.iconst X637.here hx rfl (D d0_224) (XS.aloadN X637.here hx rfl (D d0_225) rfl rfl (XS.iconst X637.here hx rfl (D d0_226) (X637.caload hx (j := (4 : Int32)) (v := (.int (z4 &&& 255))) (by rw [e637]; exact Ar639.1) (State.isArrayOf_alike hZ.alike Ar639.2.1) Ar639.2.2 hin639 (H639.at hin639 rfl) (g := (mkF m 227 #[rv da0, iv 6] [(.int 4), (.ref da0), (.int 4), (.ref b619), (.ref b619), (.ref b615), (.ref b615)])) rfl rfl (D d0_227) _ (st641 _ (XS.dup X641.here hx rfl (D d0_229) rfl rfl (XS.iconst X641.here hx rfl (D d0_230) (XS.aloadN X641.here hx rfl (D d0_231) rfl rfl (XS.iconst X641.here hx rfl (D d0_232) (X641.caload hx (j := (5 : Int32)) (v := (.int (z5 &&& 255))) (by rw [e641]; exact Ar643.1) (State.isArrayOf_alike hZ.alike Ar643.2.1) Ar643.2.2 hin643 (H643.at hin643 rfl) (g := (mkF m 233 #[rv da0, iv 6] [(.int 5), (.ref da0), (.int 5), (.ref b619), (.ref b619), (.ref b615), (.ref b615)])) rfl rfl (D d0_233) _ (st645 _ (st647 _ k))))))))))))) ?_
  exact Go.retA X647 hx hlk hret rfl rfl (D d0_238) (by decide) (by decide) ⟨b615, da_647, kd_647, rfl, N647, K653, f654, p647_1, p647_2, p647_3⟩
theorem d0_239 : decode method_4_code 239 = .ok (.iload_n 1, 1) := by decide +kernel
theorem d0_240 : decode method_4_code 240 = .ok (.bipush 7, 2) := by decide +kernel
theorem d0_242 : decode method_4_code 242 = .ok (.if_icmp .ne 59, 3) := by decide +kernel
theorem d0_245 : decode method_4_code 245 = .ok (.new 22, 3) := by decide +kernel
theorem d0_248 : decode method_4_code 248 = .ok (.dup, 1) := by decide +kernel
theorem d0_249 : decode method_4_code 249 = .ok (.bipush 7, 2) := by decide +kernel
theorem d0_251 : decode method_4_code 251 = .ok (.newarray .char, 2) := by decide +kernel
theorem d0_253 : decode method_4_code 253 = .ok (.dup, 1) := by decide +kernel
theorem d0_254 : decode method_4_code 254 = .ok (.iconst 0, 1) := by decide +kernel
theorem d0_255 : decode method_4_code 255 = .ok (.aload_n 0, 1) := by decide +kernel
theorem d0_256 : decode method_4_code 256 = .ok (.iconst 0, 1) := by decide +kernel
theorem d0_257 : decode method_4_code 257 = .ok (.caload, 1) := by decide +kernel
theorem d0_258 : decode method_4_code 258 = .ok (.castore, 1) := by decide +kernel
theorem d0_259 : decode method_4_code 259 = .ok (.dup, 1) := by decide +kernel
theorem d0_260 : decode method_4_code 260 = .ok (.iconst 1, 1) := by decide +kernel
theorem d0_261 : decode method_4_code 261 = .ok (.aload_n 0, 1) := by decide +kernel
theorem d0_262 : decode method_4_code 262 = .ok (.iconst 1, 1) := by decide +kernel
theorem d0_263 : decode method_4_code 263 = .ok (.caload, 1) := by decide +kernel
theorem d0_264 : decode method_4_code 264 = .ok (.castore, 1) := by decide +kernel
theorem d0_265 : decode method_4_code 265 = .ok (.dup, 1) := by decide +kernel
theorem d0_266 : decode method_4_code 266 = .ok (.iconst 2, 1) := by decide +kernel
theorem d0_267 : decode method_4_code 267 = .ok (.aload_n 0, 1) := by decide +kernel
theorem d0_268 : decode method_4_code 268 = .ok (.iconst 2, 1) := by decide +kernel
theorem d0_269 : decode method_4_code 269 = .ok (.caload, 1) := by decide +kernel
theorem d0_270 : decode method_4_code 270 = .ok (.castore, 1) := by decide +kernel
theorem d0_271 : decode method_4_code 271 = .ok (.dup, 1) := by decide +kernel
theorem d0_272 : decode method_4_code 272 = .ok (.iconst 3, 1) := by decide +kernel
theorem d0_273 : decode method_4_code 273 = .ok (.aload_n 0, 1) := by decide +kernel
theorem d0_274 : decode method_4_code 274 = .ok (.iconst 3, 1) := by decide +kernel
theorem d0_275 : decode method_4_code 275 = .ok (.caload, 1) := by decide +kernel
theorem d0_276 : decode method_4_code 276 = .ok (.castore, 1) := by decide +kernel
theorem d0_277 : decode method_4_code 277 = .ok (.dup, 1) := by decide +kernel
theorem d0_278 : decode method_4_code 278 = .ok (.iconst 4, 1) := by decide +kernel
theorem d0_279 : decode method_4_code 279 = .ok (.aload_n 0, 1) := by decide +kernel
theorem d0_280 : decode method_4_code 280 = .ok (.iconst 4, 1) := by decide +kernel
theorem d0_281 : decode method_4_code 281 = .ok (.caload, 1) := by decide +kernel
theorem d0_282 : decode method_4_code 282 = .ok (.castore, 1) := by decide +kernel
theorem d0_283 : decode method_4_code 283 = .ok (.dup, 1) := by decide +kernel
theorem d0_284 : decode method_4_code 284 = .ok (.iconst 5, 1) := by decide +kernel
theorem d0_285 : decode method_4_code 285 = .ok (.aload_n 0, 1) := by decide +kernel
theorem d0_286 : decode method_4_code 286 = .ok (.iconst 5, 1) := by decide +kernel
theorem d0_287 : decode method_4_code 287 = .ok (.caload, 1) := by decide +kernel
theorem d0_288 : decode method_4_code 288 = .ok (.castore, 1) := by decide +kernel
theorem d0_289 : decode method_4_code 289 = .ok (.dup, 1) := by decide +kernel
theorem d0_290 : decode method_4_code 290 = .ok (.bipush 6, 2) := by decide +kernel
theorem d0_292 : decode method_4_code 292 = .ok (.aload_n 0, 1) := by decide +kernel
theorem d0_293 : decode method_4_code 293 = .ok (.bipush 6, 2) := by decide +kernel
theorem d0_295 : decode method_4_code 295 = .ok (.caload, 1) := by decide +kernel
theorem d0_296 : decode method_4_code 296 = .ok (.castore, 1) := by decide +kernel
theorem d0_297 : decode method_4_code 297 = .ok (.invokespecial 65, 3) := by decide +kernel
theorem d0_300 : decode method_4_code 300 = .ok (.areturn, 1) := by decide +kernel
theorem ef_rm_make7 (m : MethodId) (da0 : Addr) : entryFrame m #[(.ref da0), (.int (7 : Int32))] 2 = mkF m 0 #[rv da0, iv (7 : Int32)] [] := by first | (simp [entryFrame, mkF, argsToLocals, Value.category]; done) | rfl
set_option maxRecDepth 65536 in
set_option maxHeartbeats 40000000 in
theorem rm_make7 {l : Launch} {Z : State} {a0 : Array Value} {A : Nat → Addr} {KC : Nat → Cell} {IC : Nat → Int32} {VC : Nat → Value} (hw : ∀ d ∈ tables_1, d.before a0 Z = true) (G : own_Ctx Z A KC IC VC) (da0 : Addr) (kd0 : ClassId) (z0 : Int32) (z1 : Int32) (z2 : Int32) (z3 : Int32) (z4 : Int32) (z5 : Int32) (z6 : Int32) (z7 : Int32) (h0 : Heap) (O0 : Ext Z.heap h0) (prem0 : Arv Z h0 da0 kd0 .char (8 : Int32) [(.int (z0 &&& (255 : Int32))), (.int (z1 &&& (255 : Int32))), (.int (z2 &&& (255 : Int32))), (.int (z3 &&& (255 : Int32))), (.int (z4 &&& (255 : Int32))), (.int (z5 &&& (255 : Int32))), (.int (z6 &&& (255 : Int32))), (.int (z7 &&& (255 : Int32)))] (.int (0 : Int32))) :
    Ok l Z own_m44 method_4_code 2 (some (.object "java/lang/String")) ({ frames := 4, cells := 3, slots := 19, locals := 66 } : Room) #[(.ref da0), (.int (7 : Int32))] h0
      (fun v h L => ∃ so : Addr, ∃ sv : Addr, ∃ ks : ClassId, v = some (.ref so) ∧ (Fr Z.heap.size L) ∧ (Keep h0 h []) ∧ (Exa Z h so "java/lang/String") ∧ (Fld Z h so "java/lang/String" "value" "[B" (.ref sv)) ∧ (Fld Z h so "java/lang/String" "coder" "B" (.int (0 : Int32))) ∧ (Arv Z h sv ks .byte (7 : Int32) [(.int ((z0 &&& (255 : Int32)).toInt8.toInt32)), (.int ((z1 &&& (255 : Int32)).toInt8.toInt32)), (.int ((z2 &&& (255 : Int32)).toInt8.toInt32)), (.int ((z3 &&& (255 : Int32)).toInt8.toInt32)), (.int ((z4 &&& (255 : Int32)).toInt8.toInt32)), (.int ((z5 &&& (255 : Int32)).toInt8.toInt32)), (.int ((z6 &&& (255 : Int32)).toInt8.toInt32))] (.int (0 : Int32)))) := by
  refine Ok.mk pn45 ?_
  intro p e s m below meth c T0 hx hby hml hown hnm hret hlk hZ e0 X0
  refine Go.cast (ef_rm_make7 m da0) ?_
  have D := @hb _ _ hby
  have N0 := Fr.nil Z.heap.size
  have K0 : Keep h0 h0 [] := Keep.refl _ _
  obtain ⟨T663, h663, b663, q663, X663, e663, E663, A663, D663, st663⟩ := newOb X0 hx hZ hown (own_w hw (i := 7) rfl) (own_w hw (i := 8) rfl) (own_w hw (i := 9) rfl) e0 (g := (mkF m 245 #[rv da0, iv 7] [])) rfl (D d0_245) (by decide) (by decide)
  have O664 := Old0.ext O0 E663
  have K664 := Keep.ext K0 E663
  have g_b663 : Z.heap.size ≤ b663 := q663 ▸ O0.1
  have z_b663 : h0.size ≤ b663 := q663 ▸ K0.1
  have ne_da0_b663 : da0 ≠ b663 := q663 ▸ Nat.ne_of_lt prem0.lt
  have f665 : Fld Z h663 b663 "java/lang/String" "value" "[B" .null := D663 (Or.inr (own_w hw (i := 22) rfl)) (ty := (.array .byte)) (by decide)
  have f666 : Fld Z h663 b663 "java/lang/String" "coder" "B" (.int 0) := D663 (Or.inr (own_w hw (i := 23) rfl)) (ty := .byte) (by decide)
  refine Go.of (T' := T663) (f' := (mkF m 248 #[rv da0, iv 7] [(.ref b663)])) (fun _ k => XS.iloadN X0.here hx rfl (D d0_0) rfl (XS.ifYes X0.here hx rfl (pc0 := 1) (pc' := 15) rfl (D d0_1) rfl ((if0 _ _).trans (feq (by decide : ¬ ((7 : Int32) = (0 : Int32)))).2) (by decide) (by decide) (XS.iloadN X0.here hx rfl (D d0_15) rfl (XS.iconst X0.here hx rfl (D d0_16) (XS.icmpYes X0.here hx rfl (pc0 := 17) (pc' := 37) rfl (D d0_17) rfl (feq (by decide : ¬ ((7 : Int32) = (1 : Int32)))).2 (by decide) (by decide) (XS.iloadN X0.here hx rfl (D d0_37) rfl (XS.iconst X0.here hx rfl (D d0_38) (XS.icmpYes X0.here hx rfl (pc0 := 39) (pc' := 65) rfl (D d0_39) rfl (feq (by decide : ¬ ((7 : Int32) = (2 : Int32)))).2 (by decide) (by decide) (XS.iloadN X0.here hx rfl (D d0_65) rfl (XS.iconst X0.here hx rfl (D d0_66) (XS.icmpYes X0.here hx rfl (pc0 := 67) (pc' := 99) rfl (D d0_67) rfl (feq (by decide : ¬ ((7 : Int32) = (3 : Int32)))).2 (by decide) (by decide) (XS.iloadN X0.here hx rfl (D d0_99) rfl (XS.iconst X0.here hx rfl (D d0_100) (XS.icmpYes X0.here hx rfl (pc0 := 101) (pc' := 139) rfl (D d0_101) rfl (feq (by decide : ¬ ((7 : Int32) = (4 : Int32)))).2 (by decide) (by decide) (XS.iloadN X0.here hx rfl (D d0_139) rfl (XS.iconst X0.here hx rfl (D d0_140) (XS.icmpYes X0.here hx rfl (pc0 := 141) (pc' := 185) rfl (D d0_141) rfl (feq (by decide : ¬ ((7 : Int32) = (5 : Int32)))).2 (by decide) (by decide) (XS.iloadN X0.here hx rfl (D d0_185) rfl (XS.bipush X0.here hx rfl (D d0_186) (XS.icmpYes X0.here hx rfl (pc0 := 188) (pc' := 239) rfl (D d0_188) rfl (feq (by decide : ¬ ((7 : Int32) = (6 : Int32)))).2 (by decide) (by decide) (XS.iloadN X0.here hx rfl (D d0_239) rfl (XS.bipush X0.here hx rfl (D d0_240) (XS.icmpNo X0.here hx rfl (D d0_242) rfl (teq (by decide : (7 : Int32) = (7 : Int32))).2 (st663 _ k)))))))))))))))))))))))) ?_
  have f668 : Arv Z h663 da0 kd0 .char (8 : Int32) [(.int (z0 &&& 255)), (.int (z1 &&& 255)), (.int (z2 &&& 255)), (.int (z3 &&& 255)), (.int (z4 &&& 255)), (.int (z5 &&& 255)), (.int (z6 &&& 255)), (.int (z7 &&& 255))] (.int 0) := (Arv.ext prem0 E663)
  obtain ⟨T667, h667, k667, b667, q667, X667, e667, E667, V667, A667, st667⟩ := newAr X663 hx hZ (own_w hw (i := 0) rfl) e663 (g := (mkF m 251 #[rv da0, iv 7] [(.int 7), (.ref b663), (.ref b663)])) rfl (D d0_251) rfl (by decide) (cap := 7) (by decide) (by decide) (by decide) (by decide) (ad := "[C") (by decide)
  have O669 := Old0.ext O664 E667
  have K669 := Keep.ext K664 E667
  have g_b667 : Z.heap.size ≤ b667 := q667 ▸ O664.1
  have z_b667 : h0.size ≤ b667 := q667 ▸ K664.1
  have ne_da0_b667 : da0 ≠ b667 := q667 ▸ Nat.ne_of_lt f668.lt
  have ne_b663_b667 : b663 ≠ b667 := q667 ▸ Nat.ne_of_lt A663.lt
  have f670 : Arv Z h667 b667 k667 .char (7 : Int32) [(.int 0), (.int 0), (.int 0), (.int 0), (.int 0), (.int 0), (.int 0)] (.int 0) := Arv.pad V667 (pad_rep [] (.int 0) 7)
  have f672 : Arv Z h667 da0 kd0 .char (8 : Int32) [(.int (z0 &&& 255)), (.int (z1 &&& 255)), (.int (z2 &&& 255)), (.int (z3 &&& 255)), (.int (z4 &&& 255)), (.int (z5 &&& 255)), (.int (z6 &&& 255)), (.int (z7 &&& 255))] (.int 0) := (Arv.ext f668 E667)
  obtain ⟨cl671, Ar671, qk671, S671, Ng671, H671, G671⟩ := id f672
  have hin671 := inb_of (j := (0 : Int32)) S671 ⟨by decide, by decide⟩
  obtain ⟨cl673, Ar673, qk673, S673, Ng673, H673, G673⟩ := id f670
  obtain ⟨T673, h673, X673, e673, W673, st673⟩ := stC X667 hx hZ e667 Ar673 (j := (0 : Int32)) (inb_of S673 ⟨by decide, by decide⟩) (g := (mkF m 258 #[rv da0, iv 7] [(.int (z0 &&& 255)), (.int 0), (.ref b667), (.ref b667), (.ref b663), (.ref b663)])) rfl rfl (D d0_258)
  have W673 : Wr h667 h673 b667 ((0 : Int32)).toNatClampNeg (.int (z0 &&& 255)) := Eq.mp (congrArg (fun z => Wr h667 h673 b667 ((0 : Int32)).toNatClampNeg (Value.int z)) (i2c_mask z0)) W673
  have O674 := Old0.wr O669 W673 g_b667
  have K674 := Keep.wr K669 W673 (Or.inr z_b667)
  have f673 : Arv Z h673 b667 k667 .char (7 : Int32) [(.int (z0 &&& 255)), (.int 0), (.int 0), (.int 0), (.int 0), (.int 0), (.int 0)] (.int 0) := Arv.set Ar673 qk673 S673 Ng673 H673 G673 (v := (.int (z0 &&& 255))) (own_f255 z0) W673 0 rfl (Nat.le_of_ble_eq_true rfl)
  have N673 := Fr.snoc X673 N0 g_b667
  have f676 : Arv Z h673 da0 kd0 .char (8 : Int32) [(.int (z0 &&& 255)), (.int (z1 &&& 255)), (.int (z2 &&& 255)), (.int (z3 &&& 255)), (.int (z4 &&& 255)), (.int (z5 &&& 255)), (.int (z6 &&& 255)), (.int (z7 &&& 255))] (.int 0) := (Arv.other f672 W673 ne_da0_b667)
  obtain ⟨cl675, Ar675, qk675, S675, Ng675, H675, G675⟩ := id f676
  have hin675 := inb_of (j := (1 : Int32)) S675 ⟨by decide, by decide⟩
  obtain ⟨cl677, Ar677, qk677, S677, Ng677, H677, G677⟩ := id f673
  obtain ⟨T677, h677, X677, e677, W677, st677⟩ := stC X673 hx hZ e673 Ar677 (j := (1 : Int32)) (inb_of S677 ⟨by decide, by decide⟩) (g := (mkF m 264 #[rv da0, iv 7] [(.int (z1 &&& 255)), (.int 1), (.ref b667), (.ref b667), (.ref b663), (.ref b663)])) rfl rfl (D d0_264)
  have W677 : Wr h673 h677 b667 ((1 : Int32)).toNatClampNeg (.int (z1 &&& 255)) := Eq.mp (congrArg (fun z => Wr h673 h677 b667 ((1 : Int32)).toNatClampNeg (Value.int z)) (i2c_mask z1)) W677
  have O678 := Old0.wr O674 W677 g_b667
  have K678 := Keep.wr K674 W677 (Or.inr z_b667)
  have f677 : Arv Z h677 b667 k667 .char (7 : Int32) [(.int (z0 &&& 255)), (.int (z1 &&& 255)), (.int 0), (.int 0), (.int 0), (.int 0), (.int 0)] (.int 0) := Arv.set Ar677 qk677 S677 Ng677 H677 G677 (v := (.int (z1 &&& 255))) (own_f255 z1) W677 1 rfl (Nat.le_of_ble_eq_true rfl)
  have N677 := Fr.snoc X677 N673 g_b667
  have f680 : Arv Z h677 da0 kd0 .char (8 : Int32) [(.int (z0 &&& 255)), (.int (z1 &&& 255)), (.int (z2 &&& 255)), (.int (z3 &&& 255)), (.int (z4 &&& 255)), (.int (z5 &&& 255)), (.int (z6 &&& 255)), (.int (z7 &&& 255))] (.int 0) := (Arv.other f676 W677 ne_da0_b667)
  obtain ⟨cl679, Ar679, qk679, S679, Ng679, H679, G679⟩ := id f680
  have hin679 := inb_of (j := (2 : Int32)) S679 ⟨by decide, by decide⟩
  obtain ⟨cl681, Ar681, qk681, S681, Ng681, H681, G681⟩ := id f677
  obtain ⟨T681, h681, X681, e681, W681, st681⟩ := stC X677 hx hZ e677 Ar681 (j := (2 : Int32)) (inb_of S681 ⟨by decide, by decide⟩) (g := (mkF m 270 #[rv da0, iv 7] [(.int (z2 &&& 255)), (.int 2), (.ref b667), (.ref b667), (.ref b663), (.ref b663)])) rfl rfl (D d0_270)
  have W681 : Wr h677 h681 b667 ((2 : Int32)).toNatClampNeg (.int (z2 &&& 255)) := Eq.mp (congrArg (fun z => Wr h677 h681 b667 ((2 : Int32)).toNatClampNeg (Value.int z)) (i2c_mask z2)) W681
  have O682 := Old0.wr O678 W681 g_b667
  have K682 := Keep.wr K678 W681 (Or.inr z_b667)
  have f681 : Arv Z h681 b667 k667 .char (7 : Int32) [(.int (z0 &&& 255)), (.int (z1 &&& 255)), (.int (z2 &&& 255)), (.int 0), (.int 0), (.int 0), (.int 0)] (.int 0) := Arv.set Ar681 qk681 S681 Ng681 H681 G681 (v := (.int (z2 &&& 255))) (own_f255 z2) W681 2 rfl (Nat.le_of_ble_eq_true rfl)
  have N681 := Fr.snoc X681 N677 g_b667
  refine Go.of (T' := T681) (f' := (mkF m 274 #[rv da0, iv 7] [(.ref da0), (.int 3), (.ref b667), (.ref b667), (.ref b663), (.ref b663)])) (fun _ k => XS.dup X663.here hx rfl (D d0_248) rfl rfl (XS.bipush X663.here hx rfl (D d0_249) (st667 _ (XS.dup X667.here hx rfl (D d0_253) rfl rfl (XS.iconst X667.here hx rfl (D d0_254) (XS.aloadN X667.here hx rfl (D d0_255) rfl rfl (XS.iconst X667.here hx rfl (D d0_256) (X667.caload hx (j := (0 : Int32)) (v := (.int (z0 &&& 255))) (by rw [e667]; exact Ar671.1) (State.isArrayOf_alike hZ.alike Ar671.2.1) Ar671.2.2 hin671 (H671.at hin671 rfl) (g := (mkF m 257 #[rv da0, iv 7] [(.int 0), (.ref da0), (.int 0), (.ref b667), (.ref b667), (.ref b663), (.ref b663)])) rfl rfl (D d0_257) _ (st673 _ (XS.dup X673.here hx rfl (D d0_259) rfl rfl (XS.iconst X673.here hx rfl (D d0_260) (XS.aloadN X673.here hx rfl (D d0_261) rfl rfl (XS.iconst X673.here hx rfl (D d0_262) (X673.caload hx (j := (1 : Int32)) (v := (.int (z1 &&& 255))) (by rw [e673]; exact Ar675.1) (State.isArrayOf_alike hZ.alike Ar675.2.1) Ar675.2.2 hin675 (H675.at hin675 rfl) (g := (mkF m 263 #[rv da0, iv 7] [(.int 1), (.ref da0), (.int 1), (.ref b667), (.ref b667), (.ref b663), (.ref b663)])) rfl rfl (D d0_263) _ (st677 _ (XS.dup X677.here hx rfl (D d0_265) rfl rfl (XS.iconst X677.here hx rfl (D d0_266) (XS.aloadN X677.here hx rfl (D d0_267) rfl rfl (XS.iconst X677.here hx rfl (D d0_268) (X677.caload hx (j := (2 : Int32)) (v := (.int (z2 &&& 255))) (by rw [e677]; exact Ar679.1) (State.isArrayOf_alike hZ.alike Ar679.2.1) Ar679.2.2 hin679 (H679.at hin679 rfl) (g := (mkF m 269 #[rv da0, iv 7] [(.int 2), (.ref da0), (.int 2), (.ref b667), (.ref b667), (.ref b663), (.ref b663)])) rfl rfl (D d0_269) _ (st681 _ (XS.dup X681.here hx rfl (D d0_271) rfl rfl (XS.iconst X681.here hx rfl (D d0_272) (XS.aloadN X681.here hx rfl (D d0_273) rfl rfl k)))))))))))))))))))))))) ?_
  have f684 : Arv Z h681 da0 kd0 .char (8 : Int32) [(.int (z0 &&& 255)), (.int (z1 &&& 255)), (.int (z2 &&& 255)), (.int (z3 &&& 255)), (.int (z4 &&& 255)), (.int (z5 &&& 255)), (.int (z6 &&& 255)), (.int (z7 &&& 255))] (.int 0) := (Arv.other f680 W681 ne_da0_b667)
  obtain ⟨cl683, Ar683, qk683, S683, Ng683, H683, G683⟩ := id f684
  have hin683 := inb_of (j := (3 : Int32)) S683 ⟨by decide, by decide⟩
  obtain ⟨cl685, Ar685, qk685, S685, Ng685, H685, G685⟩ := id f681
  obtain ⟨T685, h685, X685, e685, W685, st685⟩ := stC X681 hx hZ e681 Ar685 (j := (3 : Int32)) (inb_of S685 ⟨by decide, by decide⟩) (g := (mkF m 276 #[rv da0, iv 7] [(.int (z3 &&& 255)), (.int 3), (.ref b667), (.ref b667), (.ref b663), (.ref b663)])) rfl rfl (D d0_276)
  have W685 : Wr h681 h685 b667 ((3 : Int32)).toNatClampNeg (.int (z3 &&& 255)) := Eq.mp (congrArg (fun z => Wr h681 h685 b667 ((3 : Int32)).toNatClampNeg (Value.int z)) (i2c_mask z3)) W685
  have O686 := Old0.wr O682 W685 g_b667
  have K686 := Keep.wr K682 W685 (Or.inr z_b667)
  have f685 : Arv Z h685 b667 k667 .char (7 : Int32) [(.int (z0 &&& 255)), (.int (z1 &&& 255)), (.int (z2 &&& 255)), (.int (z3 &&& 255)), (.int 0), (.int 0), (.int 0)] (.int 0) := Arv.set Ar685 qk685 S685 Ng685 H685 G685 (v := (.int (z3 &&& 255))) (own_f255 z3) W685 3 rfl (Nat.le_of_ble_eq_true rfl)
  have N685 := Fr.snoc X685 N681 g_b667
  have f688 : Arv Z h685 da0 kd0 .char (8 : Int32) [(.int (z0 &&& 255)), (.int (z1 &&& 255)), (.int (z2 &&& 255)), (.int (z3 &&& 255)), (.int (z4 &&& 255)), (.int (z5 &&& 255)), (.int (z6 &&& 255)), (.int (z7 &&& 255))] (.int 0) := (Arv.other f684 W685 ne_da0_b667)
  obtain ⟨cl687, Ar687, qk687, S687, Ng687, H687, G687⟩ := id f688
  have hin687 := inb_of (j := (4 : Int32)) S687 ⟨by decide, by decide⟩
  obtain ⟨cl689, Ar689, qk689, S689, Ng689, H689, G689⟩ := id f685
  obtain ⟨T689, h689, X689, e689, W689, st689⟩ := stC X685 hx hZ e685 Ar689 (j := (4 : Int32)) (inb_of S689 ⟨by decide, by decide⟩) (g := (mkF m 282 #[rv da0, iv 7] [(.int (z4 &&& 255)), (.int 4), (.ref b667), (.ref b667), (.ref b663), (.ref b663)])) rfl rfl (D d0_282)
  have W689 : Wr h685 h689 b667 ((4 : Int32)).toNatClampNeg (.int (z4 &&& 255)) := Eq.mp (congrArg (fun z => Wr h685 h689 b667 ((4 : Int32)).toNatClampNeg (Value.int z)) (i2c_mask z4)) W689
  have O690 := Old0.wr O686 W689 g_b667
  have K690 := Keep.wr K686 W689 (Or.inr z_b667)
  have f689 : Arv Z h689 b667 k667 .char (7 : Int32) [(.int (z0 &&& 255)), (.int (z1 &&& 255)), (.int (z2 &&& 255)), (.int (z3 &&& 255)), (.int (z4 &&& 255)), (.int 0), (.int 0)] (.int 0) := Arv.set Ar689 qk689 S689 Ng689 H689 G689 (v := (.int (z4 &&& 255))) (own_f255 z4) W689 4 rfl (Nat.le_of_ble_eq_true rfl)
  have N689 := Fr.snoc X689 N685 g_b667
  have f692 : Arv Z h689 da0 kd0 .char (8 : Int32) [(.int (z0 &&& 255)), (.int (z1 &&& 255)), (.int (z2 &&& 255)), (.int (z3 &&& 255)), (.int (z4 &&& 255)), (.int (z5 &&& 255)), (.int (z6 &&& 255)), (.int (z7 &&& 255))] (.int 0) := (Arv.other f688 W689 ne_da0_b667)
  obtain ⟨cl691, Ar691, qk691, S691, Ng691, H691, G691⟩ := id f692
  have hin691 := inb_of (j := (5 : Int32)) S691 ⟨by decide, by decide⟩
  obtain ⟨cl693, Ar693, qk693, S693, Ng693, H693, G693⟩ := id f689
  obtain ⟨T693, h693, X693, e693, W693, st693⟩ := stC X689 hx hZ e689 Ar693 (j := (5 : Int32)) (inb_of S693 ⟨by decide, by decide⟩) (g := (mkF m 288 #[rv da0, iv 7] [(.int (z5 &&& 255)), (.int 5), (.ref b667), (.ref b667), (.ref b663), (.ref b663)])) rfl rfl (D d0_288)
  have W693 : Wr h689 h693 b667 ((5 : Int32)).toNatClampNeg (.int (z5 &&& 255)) := Eq.mp (congrArg (fun z => Wr h689 h693 b667 ((5 : Int32)).toNatClampNeg (Value.int z)) (i2c_mask z5)) W693
  have O694 := Old0.wr O690 W693 g_b667
  have K694 := Keep.wr K690 W693 (Or.inr z_b667)
  have f693 : Arv Z h693 b667 k667 .char (7 : Int32) [(.int (z0 &&& 255)), (.int (z1 &&& 255)), (.int (z2 &&& 255)), (.int (z3 &&& 255)), (.int (z4 &&& 255)), (.int (z5 &&& 255)), (.int 0)] (.int 0) := Arv.set Ar693 qk693 S693 Ng693 H693 G693 (v := (.int (z5 &&& 255))) (own_f255 z5) W693 5 rfl (Nat.le_of_ble_eq_true rfl)
  have N693 := Fr.snoc X693 N689 g_b667
  have f696 : Arv Z h693 da0 kd0 .char (8 : Int32) [(.int (z0 &&& 255)), (.int (z1 &&& 255)), (.int (z2 &&& 255)), (.int (z3 &&& 255)), (.int (z4 &&& 255)), (.int (z5 &&& 255)), (.int (z6 &&& 255)), (.int (z7 &&& 255))] (.int 0) := (Arv.other f692 W693 ne_da0_b667)
  obtain ⟨cl695, Ar695, qk695, S695, Ng695, H695, G695⟩ := id f696
  have hin695 := inb_of (j := (6 : Int32)) S695 ⟨by decide, by decide⟩
  obtain ⟨cl697, Ar697, qk697, S697, Ng697, H697, G697⟩ := id f693
  obtain ⟨T697, h697, X697, e697, W697, st697⟩ := stC X693 hx hZ e693 Ar697 (j := (6 : Int32)) (inb_of S697 ⟨by decide, by decide⟩) (g := (mkF m 296 #[rv da0, iv 7] [(.int (z6 &&& 255)), (.int 6), (.ref b667), (.ref b667), (.ref b663), (.ref b663)])) rfl rfl (D d0_296)
  have W697 : Wr h693 h697 b667 ((6 : Int32)).toNatClampNeg (.int (z6 &&& 255)) := Eq.mp (congrArg (fun z => Wr h693 h697 b667 ((6 : Int32)).toNatClampNeg (Value.int z)) (i2c_mask z6)) W697
  have O698 := Old0.wr O694 W697 g_b667
  have K698 := Keep.wr K694 W697 (Or.inr z_b667)
  have f697 : Arv Z h697 b667 k667 .char (7 : Int32) [(.int (z0 &&& 255)), (.int (z1 &&& 255)), (.int (z2 &&& 255)), (.int (z3 &&& 255)), (.int (z4 &&& 255)), (.int (z5 &&& 255)), (.int (z6 &&& 255))] (.int 0) := Arv.set Ar697 qk697 S697 Ng697 H697 G697 (v := (.int (z6 &&& 255))) (own_f255 z6) W697 6 rfl (Nat.le_of_ble_eq_true rfl)
  have N697 := Fr.snoc X697 N693 g_b667
  have f700 : Exa Z h697 b663 "java/lang/String" := (Exa.wr W697 (Exa.wr W693 (Exa.wr W689 (Exa.wr W685 (Exa.wr W681 (Exa.wr W677 (Exa.wr W673 (Exa.ext E667 A663))))))))
  have f701 : Fld Z h697 b663 "java/lang/String" "value" "[B" .null := (Fld.other W697 (Fld.other W693 (Fld.other W689 (Fld.other W685 (Fld.other W681 (Fld.other W677 (Fld.other W673 (Fld.ext E667 f665) (Or.inl ne_b663_b667)) (Or.inl ne_b663_b667)) (Or.inl ne_b663_b667)) (Or.inl ne_b663_b667)) (Or.inl ne_b663_b667)) (Or.inl ne_b663_b667)) (Or.inl ne_b663_b667))
  have f702 : Fld Z h697 b663 "java/lang/String" "coder" "B" (.int 0) := (Fld.other W697 (Fld.other W693 (Fld.other W689 (Fld.other W685 (Fld.other W681 (Fld.other W677 (Fld.other W673 (Fld.ext E667 f666) (Or.inl ne_b663_b667)) (Or.inl ne_b663_b667)) (Or.inl ne_b663_b667)) (Or.inl ne_b663_b667)) (Or.inl ne_b663_b667)) (Or.inl ne_b663_b667)) (Or.inl ne_b663_b667))
  have f703 : Arv Z h697 da0 kd0 .char (8 : Int32) [(.int (z0 &&& 255)), (.int (z1 &&& 255)), (.int (z2 &&& 255)), (.int (z3 &&& 255)), (.int (z4 &&& 255)), (.int (z5 &&& 255)), (.int (z6 &&& 255)), (.int (z7 &&& 255))] (.int 0) := (Arv.other f696 W697 ne_da0_b667)
  have f704 : Exa Z h697 b667 "[C" := (Exa.wr W697 (Exa.wr W693 (Exa.wr W689 (Exa.wr W685 (Exa.wr W681 (Exa.wr W677 (Exa.wr W673 A667)))))))
  obtain ⟨T699, v699, L699, X699, q699, st699⟩ := callNew X697 hx hZ (y := own_m12) rfl hown (own_w hw (i := 10) rfl) (own_w hw (i := 11) rfl) (own_w hw (i := 9) rfl) (own_w hw (i := 12) rfl) (by decide) (rm_str hw G b663 b667 ((7 : Int32)) k667 (([(z0 &&& 255), (z1 &&& 255), (z2 &&& 255), (z3 &&& 255), (z4 &&& 255), (z5 &&& 255), (z6 &&& 255)] : List Int32)) h697 O698 (rfl) (And.intro (own_le255 _) (And.intro (own_le255 _) (And.intro (own_le255 _) (And.intro (own_le255 _) (And.intro (own_le255 _) (And.intro (own_le255 _) (And.intro (own_le255 _) (trivial)))))))) (Nat.le_of_ble_eq_true rfl) (Nat.succ_pos _) f700 f701 f702 g_b663 f697 ne_b663_b667) e697 (W := 1) (by decide) (by decide) (by decide) (by decide) (g := (mkF m 297 #[rv da0, iv 7] [(.ref b667), (.ref b663), (.ref b663)])) rfl (by rw [hml]; rfl) (a := b663) (argsL := [(.ref b667)]) (rest := [(.ref b663)]) (lenOf pd43 rfl) rfl rfl (Nat.le_of_eq rfl) (D d0_297)
  obtain ⟨da_699, kd_699, rfl, N699q, K699q, p699_0, p699_1, p699_2, p699_3, p699_4⟩ := q699
  have N699 := Fr.app N697 N699q
  have O705 := Old0.keep O698 K699q (allS g_b663 all0)
  have K705 := Keep.trans K698 K699q (allS (Or.inr z_b663) all0)
  have z_da_699 : h0.size ≤ da_699 := Nat.le_trans K698.1 p699_0
  have g_da_699 : Z.heap.size ≤ da_699 := Nat.le_trans O698.1 p699_0
  have ne_da0_da_699 : da0 ≠ da_699 := Nat.ne_of_lt (Nat.lt_of_lt_of_le f703.lt p699_0)
  have ne_b663_da_699 : b663 ≠ da_699 := Nat.ne_of_lt (Nat.lt_of_lt_of_le f700.lt p699_0)
  have ne_b667_da_699 : b667 ≠ da_699 := Nat.ne_of_lt (Nat.lt_of_lt_of_le f704.lt p699_0)
  have p699_3 : Arv Z T699.heap da_699 kd_699 .byte (7 : Int32) [(.int ((z0 &&& 255).toInt8.toInt32)), (.int ((z1 &&& 255).toInt8.toInt32)), (.int ((z2 &&& 255).toInt8.toInt32)), (.int ((z3 &&& 255).toInt8.toInt32)), (.int ((z4 &&& 255).toInt8.toInt32)), (.int ((z5 &&& 255).toInt8.toInt32)), (.int ((z6 &&& 255).toInt8.toInt32))] (.int 0) := p699_3
  have f706 : Exa Z T699.heap b663 "java/lang/String" := (Exa.keep f700 K699q)
  refine Go.of (T' := T699) (f' := (mkF m 300 #[rv da0, iv 7] [(.ref b663)])) (fun _ k => XS.iconst X681.here hx rfl (D d0_274) (X681.caload hx (j := (3 : Int32)) (v := (.int (z3 &&& 255))) (by rw [e681]; exact Ar683.1) (State.isArrayOf_alike hZ.alike Ar683.2.1) Ar683.2.2 hin683 (H683.at hin683 rfl) (g := (mkF m 275 #[rv da0, iv 7] [(.int 3), (.ref da0), (.int 3), (.ref b667), (.ref b667), (.ref b663), (.ref b663)])) rfl rfl (D d0_275) _ (st685 _ (XS.dup X685.here hx rfl (D d0_277) rfl rfl (XS.iconst X685.here hx rfl (D d0_278) (XS.aloadN X685.here hx rfl (D d0_279) rfl rfl (XS.iconst X685.here hx rfl (D d0_280) (X685.caload hx (j := (4 : Int32)) (v := (.int (z4 &&& 255))) (by rw [e685]; exact Ar687.1) (State.isArrayOf_alike hZ.alike Ar687.2.1) Ar687.2.2 hin687 (H687.at hin687 rfl) (g := (mkF m 281 #[rv da0, iv 7] [(.int 4), (.ref da0), (.int 4), (.ref b667), (.ref b667), (.ref b663), (.ref b663)])) rfl rfl (D d0_281) _ (st689 _ (XS.dup X689.here hx rfl (D d0_283) rfl rfl (XS.iconst X689.here hx rfl (D d0_284) (XS.aloadN X689.here hx rfl (D d0_285) rfl rfl (XS.iconst X689.here hx rfl (D d0_286) (X689.caload hx (j := (5 : Int32)) (v := (.int (z5 &&& 255))) (by rw [e689]; exact Ar691.1) (State.isArrayOf_alike hZ.alike Ar691.2.1) Ar691.2.2 hin691 (H691.at hin691 rfl) (g := (mkF m 287 #[rv da0, iv 7] [(.int 5), (.ref da0), (.int 5), (.ref b667), (.ref b667), (.ref b663), (.ref b663)])) rfl rfl (D d0_287) _ (st693 _ (XS.dup X693.here hx rfl (D d0_289) rfl rfl (XS.bipush X693.here hx rfl (D d0_290) (XS.aloadN X693.here hx rfl (D d0_292) rfl rfl (XS.bipush X693.here hx rfl (D d0_293) (X693.caload hx (j := (6 : Int32)) (v := (.int (z6 &&& 255))) (by rw [e693]; exact Ar695.1) (State.isArrayOf_alike hZ.alike Ar695.2.1) Ar695.2.2 hin695 (H695.at hin695 rfl) (g := (mkF m 295 #[rv da0, iv 7] [(.int 6), (.ref da0), (.int 6), (.ref b667), (.ref b667), (.ref b663), (.ref b663)])) rfl rfl (D d0_295) _ (st697 _ (st699 _ k)))))))))))))))))))))) ?_
  exact Go.retA X699 hx hlk hret rfl rfl (D d0_300) (by decide) (by decide) ⟨b663, da_699, kd_699, rfl, N699, K705, f706, p699_1, p699_2, p699_3⟩
theorem d0_301 : decode method_4_code 301 = .ok (.new 22, 3) := by decide +kernel
theorem d0_304 : decode method_4_code 304 = .ok (.dup, 1) := by decide +kernel
theorem d0_305 : decode method_4_code 305 = .ok (.bipush 8, 2) := by decide +kernel
theorem d0_307 : decode method_4_code 307 = .ok (.newarray .char, 2) := by decide +kernel
theorem d0_309 : decode method_4_code 309 = .ok (.dup, 1) := by decide +kernel
theorem d0_310 : decode method_4_code 310 = .ok (.iconst 0, 1) := by decide +kernel
theorem d0_311 : decode method_4_code 311 = .ok (.aload_n 0, 1) := by decide +kernel
theorem d0_312 : decode method_4_code 312 = .ok (.iconst 0, 1) := by decide +kernel
theorem d0_313 : decode method_4_code 313 = .ok (.caload, 1) := by decide +kernel
theorem d0_314 : decode method_4_code 314 = .ok (.castore, 1) := by decide +kernel
theorem d0_315 : decode method_4_code 315 = .ok (.dup, 1) := by decide +kernel
theorem d0_316 : decode method_4_code 316 = .ok (.iconst 1, 1) := by decide +kernel
theorem d0_317 : decode method_4_code 317 = .ok (.aload_n 0, 1) := by decide +kernel
theorem d0_318 : decode method_4_code 318 = .ok (.iconst 1, 1) := by decide +kernel
theorem d0_319 : decode method_4_code 319 = .ok (.caload, 1) := by decide +kernel
theorem d0_320 : decode method_4_code 320 = .ok (.castore, 1) := by decide +kernel
theorem d0_321 : decode method_4_code 321 = .ok (.dup, 1) := by decide +kernel
theorem d0_322 : decode method_4_code 322 = .ok (.iconst 2, 1) := by decide +kernel
theorem d0_323 : decode method_4_code 323 = .ok (.aload_n 0, 1) := by decide +kernel
theorem d0_324 : decode method_4_code 324 = .ok (.iconst 2, 1) := by decide +kernel
theorem d0_325 : decode method_4_code 325 = .ok (.caload, 1) := by decide +kernel
theorem d0_326 : decode method_4_code 326 = .ok (.castore, 1) := by decide +kernel
theorem d0_327 : decode method_4_code 327 = .ok (.dup, 1) := by decide +kernel
theorem d0_328 : decode method_4_code 328 = .ok (.iconst 3, 1) := by decide +kernel
theorem d0_329 : decode method_4_code 329 = .ok (.aload_n 0, 1) := by decide +kernel
theorem d0_330 : decode method_4_code 330 = .ok (.iconst 3, 1) := by decide +kernel
theorem d0_331 : decode method_4_code 331 = .ok (.caload, 1) := by decide +kernel
theorem d0_332 : decode method_4_code 332 = .ok (.castore, 1) := by decide +kernel
theorem d0_333 : decode method_4_code 333 = .ok (.dup, 1) := by decide +kernel
theorem d0_334 : decode method_4_code 334 = .ok (.iconst 4, 1) := by decide +kernel
theorem d0_335 : decode method_4_code 335 = .ok (.aload_n 0, 1) := by decide +kernel
theorem d0_336 : decode method_4_code 336 = .ok (.iconst 4, 1) := by decide +kernel
theorem d0_337 : decode method_4_code 337 = .ok (.caload, 1) := by decide +kernel
theorem d0_338 : decode method_4_code 338 = .ok (.castore, 1) := by decide +kernel
theorem d0_339 : decode method_4_code 339 = .ok (.dup, 1) := by decide +kernel
theorem d0_340 : decode method_4_code 340 = .ok (.iconst 5, 1) := by decide +kernel
theorem d0_341 : decode method_4_code 341 = .ok (.aload_n 0, 1) := by decide +kernel
theorem d0_342 : decode method_4_code 342 = .ok (.iconst 5, 1) := by decide +kernel
theorem d0_343 : decode method_4_code 343 = .ok (.caload, 1) := by decide +kernel
theorem d0_344 : decode method_4_code 344 = .ok (.castore, 1) := by decide +kernel
theorem d0_345 : decode method_4_code 345 = .ok (.dup, 1) := by decide +kernel
theorem d0_346 : decode method_4_code 346 = .ok (.bipush 6, 2) := by decide +kernel
theorem d0_348 : decode method_4_code 348 = .ok (.aload_n 0, 1) := by decide +kernel
theorem d0_349 : decode method_4_code 349 = .ok (.bipush 6, 2) := by decide +kernel
theorem d0_351 : decode method_4_code 351 = .ok (.caload, 1) := by decide +kernel
theorem d0_352 : decode method_4_code 352 = .ok (.castore, 1) := by decide +kernel
theorem d0_353 : decode method_4_code 353 = .ok (.dup, 1) := by decide +kernel
theorem d0_354 : decode method_4_code 354 = .ok (.bipush 7, 2) := by decide +kernel
theorem d0_356 : decode method_4_code 356 = .ok (.aload_n 0, 1) := by decide +kernel
theorem d0_357 : decode method_4_code 357 = .ok (.bipush 7, 2) := by decide +kernel
theorem d0_359 : decode method_4_code 359 = .ok (.caload, 1) := by decide +kernel
theorem d0_360 : decode method_4_code 360 = .ok (.castore, 1) := by decide +kernel
theorem d0_361 : decode method_4_code 361 = .ok (.invokespecial 65, 3) := by decide +kernel
theorem d0_364 : decode method_4_code 364 = .ok (.areturn, 1) := by decide +kernel
theorem ef_rm_make8 (m : MethodId) (da0 : Addr) : entryFrame m #[(.ref da0), (.int (8 : Int32))] 2 = mkF m 0 #[rv da0, iv (8 : Int32)] [] := by first | (simp [entryFrame, mkF, argsToLocals, Value.category]; done) | rfl
set_option maxRecDepth 65536 in
set_option maxHeartbeats 40000000 in
theorem rm_make8 {l : Launch} {Z : State} {a0 : Array Value} {A : Nat → Addr} {KC : Nat → Cell} {IC : Nat → Int32} {VC : Nat → Value} (hw : ∀ d ∈ tables_1, d.before a0 Z = true) (G : own_Ctx Z A KC IC VC) (da0 : Addr) (kd0 : ClassId) (z0 : Int32) (z1 : Int32) (z2 : Int32) (z3 : Int32) (z4 : Int32) (z5 : Int32) (z6 : Int32) (z7 : Int32) (h0 : Heap) (O0 : Ext Z.heap h0) (prem0 : Arv Z h0 da0 kd0 .char (8 : Int32) [(.int (z0 &&& (255 : Int32))), (.int (z1 &&& (255 : Int32))), (.int (z2 &&& (255 : Int32))), (.int (z3 &&& (255 : Int32))), (.int (z4 &&& (255 : Int32))), (.int (z5 &&& (255 : Int32))), (.int (z6 &&& (255 : Int32))), (.int (z7 &&& (255 : Int32)))] (.int (0 : Int32))) :
    Ok l Z own_m44 method_4_code 2 (some (.object "java/lang/String")) ({ frames := 4, cells := 3, slots := 20, locals := 66 } : Room) #[(.ref da0), (.int (8 : Int32))] h0
      (fun v h L => ∃ so : Addr, ∃ sv : Addr, ∃ ks : ClassId, v = some (.ref so) ∧ (Fr Z.heap.size L) ∧ (Keep h0 h []) ∧ (Exa Z h so "java/lang/String") ∧ (Fld Z h so "java/lang/String" "value" "[B" (.ref sv)) ∧ (Fld Z h so "java/lang/String" "coder" "B" (.int (0 : Int32))) ∧ (Arv Z h sv ks .byte (8 : Int32) [(.int ((z0 &&& (255 : Int32)).toInt8.toInt32)), (.int ((z1 &&& (255 : Int32)).toInt8.toInt32)), (.int ((z2 &&& (255 : Int32)).toInt8.toInt32)), (.int ((z3 &&& (255 : Int32)).toInt8.toInt32)), (.int ((z4 &&& (255 : Int32)).toInt8.toInt32)), (.int ((z5 &&& (255 : Int32)).toInt8.toInt32)), (.int ((z6 &&& (255 : Int32)).toInt8.toInt32)), (.int ((z7 &&& (255 : Int32)).toInt8.toInt32))] (.int (0 : Int32)))) := by
  refine Ok.mk pn45 ?_
  intro p e s m below meth c T0 hx hby hml hown hnm hret hlk hZ e0 X0
  refine Go.cast (ef_rm_make8 m da0) ?_
  have D := @hb _ _ hby
  have N0 := Fr.nil Z.heap.size
  have K0 : Keep h0 h0 [] := Keep.refl _ _
  obtain ⟨T715, h715, b715, q715, X715, e715, E715, A715, D715, st715⟩ := newOb X0 hx hZ hown (own_w hw (i := 7) rfl) (own_w hw (i := 8) rfl) (own_w hw (i := 9) rfl) e0 (g := (mkF m 301 #[rv da0, iv 8] [])) rfl (D d0_301) (by decide) (by decide)
  have O716 := Old0.ext O0 E715
  have K716 := Keep.ext K0 E715
  have g_b715 : Z.heap.size ≤ b715 := q715 ▸ O0.1
  have z_b715 : h0.size ≤ b715 := q715 ▸ K0.1
  have ne_da0_b715 : da0 ≠ b715 := q715 ▸ Nat.ne_of_lt prem0.lt
  have f717 : Fld Z h715 b715 "java/lang/String" "value" "[B" .null := D715 (Or.inr (own_w hw (i := 22) rfl)) (ty := (.array .byte)) (by decide)
  have f718 : Fld Z h715 b715 "java/lang/String" "coder" "B" (.int 0) := D715 (Or.inr (own_w hw (i := 23) rfl)) (ty := .byte) (by decide)
  refine Go.of (T' := T715) (f' := (mkF m 304 #[rv da0, iv 8] [(.ref b715)])) (fun _ k => XS.iloadN X0.here hx rfl (D d0_0) rfl (XS.ifYes X0.here hx rfl (pc0 := 1) (pc' := 15) rfl (D d0_1) rfl ((if0 _ _).trans (feq (by decide : ¬ ((8 : Int32) = (0 : Int32)))).2) (by decide) (by decide) (XS.iloadN X0.here hx rfl (D d0_15) rfl (XS.iconst X0.here hx rfl (D d0_16) (XS.icmpYes X0.here hx rfl (pc0 := 17) (pc' := 37) rfl (D d0_17) rfl (feq (by decide : ¬ ((8 : Int32) = (1 : Int32)))).2 (by decide) (by decide) (XS.iloadN X0.here hx rfl (D d0_37) rfl (XS.iconst X0.here hx rfl (D d0_38) (XS.icmpYes X0.here hx rfl (pc0 := 39) (pc' := 65) rfl (D d0_39) rfl (feq (by decide : ¬ ((8 : Int32) = (2 : Int32)))).2 (by decide) (by decide) (XS.iloadN X0.here hx rfl (D d0_65) rfl (XS.iconst X0.here hx rfl (D d0_66) (XS.icmpYes X0.here hx rfl (pc0 := 67) (pc' := 99) rfl (D d0_67) rfl (feq (by decide : ¬ ((8 : Int32) = (3 : Int32)))).2 (by decide) (by decide) (XS.iloadN X0.here hx rfl (D d0_99) rfl (XS.iconst X0.here hx rfl (D d0_100) (XS.icmpYes X0.here hx rfl (pc0 := 101) (pc' := 139) rfl (D d0_101) rfl (feq (by decide : ¬ ((8 : Int32) = (4 : Int32)))).2 (by decide) (by decide) (XS.iloadN X0.here hx rfl (D d0_139) rfl (XS.iconst X0.here hx rfl (D d0_140) (XS.icmpYes X0.here hx rfl (pc0 := 141) (pc' := 185) rfl (D d0_141) rfl (feq (by decide : ¬ ((8 : Int32) = (5 : Int32)))).2 (by decide) (by decide) (XS.iloadN X0.here hx rfl (D d0_185) rfl (XS.bipush X0.here hx rfl (D d0_186) (XS.icmpYes X0.here hx rfl (pc0 := 188) (pc' := 239) rfl (D d0_188) rfl (feq (by decide : ¬ ((8 : Int32) = (6 : Int32)))).2 (by decide) (by decide) (XS.iloadN X0.here hx rfl (D d0_239) rfl (XS.bipush X0.here hx rfl (D d0_240) (XS.icmpYes X0.here hx rfl (pc0 := 242) (pc' := 301) rfl (D d0_242) rfl (feq (by decide : ¬ ((8 : Int32) = (7 : Int32)))).2 (by decide) (by decide) (st715 _ k)))))))))))))))))))))))) ?_
  have f720 : Arv Z h715 da0 kd0 .char (8 : Int32) [(.int (z0 &&& 255)), (.int (z1 &&& 255)), (.int (z2 &&& 255)), (.int (z3 &&& 255)), (.int (z4 &&& 255)), (.int (z5 &&& 255)), (.int (z6 &&& 255)), (.int (z7 &&& 255))] (.int 0) := (Arv.ext prem0 E715)
  obtain ⟨T719, h719, k719, b719, q719, X719, e719, E719, V719, A719, st719⟩ := newAr X715 hx hZ (own_w hw (i := 0) rfl) e715 (g := (mkF m 307 #[rv da0, iv 8] [(.int 8), (.ref b715), (.ref b715)])) rfl (D d0_307) rfl (by decide) (cap := 8) (by decide) (by decide) (by decide) (by decide) (ad := "[C") (by decide)
  have O721 := Old0.ext O716 E719
  have K721 := Keep.ext K716 E719
  have g_b719 : Z.heap.size ≤ b719 := q719 ▸ O716.1
  have z_b719 : h0.size ≤ b719 := q719 ▸ K716.1
  have ne_da0_b719 : da0 ≠ b719 := q719 ▸ Nat.ne_of_lt f720.lt
  have ne_b715_b719 : b715 ≠ b719 := q719 ▸ Nat.ne_of_lt A715.lt
  have f722 : Arv Z h719 b719 k719 .char (8 : Int32) [(.int 0), (.int 0), (.int 0), (.int 0), (.int 0), (.int 0), (.int 0), (.int 0)] (.int 0) := Arv.pad V719 (pad_rep [] (.int 0) 8)
  have f724 : Arv Z h719 da0 kd0 .char (8 : Int32) [(.int (z0 &&& 255)), (.int (z1 &&& 255)), (.int (z2 &&& 255)), (.int (z3 &&& 255)), (.int (z4 &&& 255)), (.int (z5 &&& 255)), (.int (z6 &&& 255)), (.int (z7 &&& 255))] (.int 0) := (Arv.ext f720 E719)
  obtain ⟨cl723, Ar723, qk723, S723, Ng723, H723, G723⟩ := id f724
  have hin723 := inb_of (j := (0 : Int32)) S723 ⟨by decide, by decide⟩
  obtain ⟨cl725, Ar725, qk725, S725, Ng725, H725, G725⟩ := id f722
  obtain ⟨T725, h725, X725, e725, W725, st725⟩ := stC X719 hx hZ e719 Ar725 (j := (0 : Int32)) (inb_of S725 ⟨by decide, by decide⟩) (g := (mkF m 314 #[rv da0, iv 8] [(.int (z0 &&& 255)), (.int 0), (.ref b719), (.ref b719), (.ref b715), (.ref b715)])) rfl rfl (D d0_314)
  have W725 : Wr h719 h725 b719 ((0 : Int32)).toNatClampNeg (.int (z0 &&& 255)) := Eq.mp (congrArg (fun z => Wr h719 h725 b719 ((0 : Int32)).toNatClampNeg (Value.int z)) (i2c_mask z0)) W725
  have O726 := Old0.wr O721 W725 g_b719
  have K726 := Keep.wr K721 W725 (Or.inr z_b719)
  have f725 : Arv Z h725 b719 k719 .char (8 : Int32) [(.int (z0 &&& 255)), (.int 0), (.int 0), (.int 0), (.int 0), (.int 0), (.int 0), (.int 0)] (.int 0) := Arv.set Ar725 qk725 S725 Ng725 H725 G725 (v := (.int (z0 &&& 255))) (own_f255 z0) W725 0 rfl (Nat.le_of_ble_eq_true rfl)
  have N725 := Fr.snoc X725 N0 g_b719
  have f728 : Arv Z h725 da0 kd0 .char (8 : Int32) [(.int (z0 &&& 255)), (.int (z1 &&& 255)), (.int (z2 &&& 255)), (.int (z3 &&& 255)), (.int (z4 &&& 255)), (.int (z5 &&& 255)), (.int (z6 &&& 255)), (.int (z7 &&& 255))] (.int 0) := (Arv.other f724 W725 ne_da0_b719)
  obtain ⟨cl727, Ar727, qk727, S727, Ng727, H727, G727⟩ := id f728
  have hin727 := inb_of (j := (1 : Int32)) S727 ⟨by decide, by decide⟩
  obtain ⟨cl729, Ar729, qk729, S729, Ng729, H729, G729⟩ := id f725
  obtain ⟨T729, h729, X729, e729, W729, st729⟩ := stC X725 hx hZ e725 Ar729 (j := (1 : Int32)) (inb_of S729 ⟨by decide, by decide⟩) (g := (mkF m 320 #[rv da0, iv 8] [(.int (z1 &&& 255)), (.int 1), (.ref b719), (.ref b719), (.ref b715), (.ref b715)])) rfl rfl (D d0_320)
  have W729 : Wr h725 h729 b719 ((1 : Int32)).toNatClampNeg (.int (z1 &&& 255)) := Eq.mp (congrArg (fun z => Wr h725 h729 b719 ((1 : Int32)).toNatClampNeg (Value.int z)) (i2c_mask z1)) W729
  have O730 := Old0.wr O726 W729 g_b719
  have K730 := Keep.wr K726 W729 (Or.inr z_b719)
  have f729 : Arv Z h729 b719 k719 .char (8 : Int32) [(.int (z0 &&& 255)), (.int (z1 &&& 255)), (.int 0), (.int 0), (.int 0), (.int 0), (.int 0), (.int 0)] (.int 0) := Arv.set Ar729 qk729 S729 Ng729 H729 G729 (v := (.int (z1 &&& 255))) (own_f255 z1) W729 1 rfl (Nat.le_of_ble_eq_true rfl)
  have N729 := Fr.snoc X729 N725 g_b719
  have f732 : Arv Z h729 da0 kd0 .char (8 : Int32) [(.int (z0 &&& 255)), (.int (z1 &&& 255)), (.int (z2 &&& 255)), (.int (z3 &&& 255)), (.int (z4 &&& 255)), (.int (z5 &&& 255)), (.int (z6 &&& 255)), (.int (z7 &&& 255))] (.int 0) := (Arv.other f728 W729 ne_da0_b719)
  obtain ⟨cl731, Ar731, qk731, S731, Ng731, H731, G731⟩ := id f732
  have hin731 := inb_of (j := (2 : Int32)) S731 ⟨by decide, by decide⟩
  obtain ⟨cl733, Ar733, qk733, S733, Ng733, H733, G733⟩ := id f729
  obtain ⟨T733, h733, X733, e733, W733, st733⟩ := stC X729 hx hZ e729 Ar733 (j := (2 : Int32)) (inb_of S733 ⟨by decide, by decide⟩) (g := (mkF m 326 #[rv da0, iv 8] [(.int (z2 &&& 255)), (.int 2), (.ref b719), (.ref b719), (.ref b715), (.ref b715)])) rfl rfl (D d0_326)
  have W733 : Wr h729 h733 b719 ((2 : Int32)).toNatClampNeg (.int (z2 &&& 255)) := Eq.mp (congrArg (fun z => Wr h729 h733 b719 ((2 : Int32)).toNatClampNeg (Value.int z)) (i2c_mask z2)) W733
  have O734 := Old0.wr O730 W733 g_b719
  have K734 := Keep.wr K730 W733 (Or.inr z_b719)
  have f733 : Arv Z h733 b719 k719 .char (8 : Int32) [(.int (z0 &&& 255)), (.int (z1 &&& 255)), (.int (z2 &&& 255)), (.int 0), (.int 0), (.int 0), (.int 0), (.int 0)] (.int 0) := Arv.set Ar733 qk733 S733 Ng733 H733 G733 (v := (.int (z2 &&& 255))) (own_f255 z2) W733 2 rfl (Nat.le_of_ble_eq_true rfl)
  have N733 := Fr.snoc X733 N729 g_b719
  refine Go.of (T' := T733) (f' := (mkF m 330 #[rv da0, iv 8] [(.ref da0), (.int 3), (.ref b719), (.ref b719), (.ref b715), (.ref b715)])) (fun _ k => XS.dup X715.here hx rfl (D d0_304) rfl rfl (XS.bipush X715.here hx rfl (D d0_305) (st719 _ (XS.dup X719.here hx rfl (D d0_309) rfl rfl (XS.iconst X719.here hx rfl (D d0_310) (XS.aloadN X719.here hx rfl (D d0_311) rfl rfl (XS.iconst X719.here hx rfl (D d0_312) (X719.caload hx (j := (0 : Int32)) (v := (.int (z0 &&& 255))) (by rw [e719]; exact Ar723.1) (State.isArrayOf_alike hZ.alike Ar723.2.1) Ar723.2.2 hin723 (H723.at hin723 rfl) (g := (mkF m 313 #[rv da0, iv 8] [(.int 0), (.ref da0), (.int 0), (.ref b719), (.ref b719), (.ref b715), (.ref b715)])) rfl rfl (D d0_313) _ (st725 _ (XS.dup X725.here hx rfl (D d0_315) rfl rfl (XS.iconst X725.here hx rfl (D d0_316) (XS.aloadN X725.here hx rfl (D d0_317) rfl rfl (XS.iconst X725.here hx rfl (D d0_318) (X725.caload hx (j := (1 : Int32)) (v := (.int (z1 &&& 255))) (by rw [e725]; exact Ar727.1) (State.isArrayOf_alike hZ.alike Ar727.2.1) Ar727.2.2 hin727 (H727.at hin727 rfl) (g := (mkF m 319 #[rv da0, iv 8] [(.int 1), (.ref da0), (.int 1), (.ref b719), (.ref b719), (.ref b715), (.ref b715)])) rfl rfl (D d0_319) _ (st729 _ (XS.dup X729.here hx rfl (D d0_321) rfl rfl (XS.iconst X729.here hx rfl (D d0_322) (XS.aloadN X729.here hx rfl (D d0_323) rfl rfl (XS.iconst X729.here hx rfl (D d0_324) (X729.caload hx (j := (2 : Int32)) (v := (.int (z2 &&& 255))) (by rw [e729]; exact Ar731.1) (State.isArrayOf_alike hZ.alike Ar731.2.1) Ar731.2.2 hin731 (H731.at hin731 rfl) (g := (mkF m 325 #[rv da0, iv 8] [(.int 2), (.ref da0), (.int 2), (.ref b719), (.ref b719), (.ref b715), (.ref b715)])) rfl rfl (D d0_325) _ (st733 _ (XS.dup X733.here hx rfl (D d0_327) rfl rfl (XS.iconst X733.here hx rfl (D d0_328) (XS.aloadN X733.here hx rfl (D d0_329) rfl rfl k)))))))))))))))))))))))) ?_
  have f736 : Arv Z h733 da0 kd0 .char (8 : Int32) [(.int (z0 &&& 255)), (.int (z1 &&& 255)), (.int (z2 &&& 255)), (.int (z3 &&& 255)), (.int (z4 &&& 255)), (.int (z5 &&& 255)), (.int (z6 &&& 255)), (.int (z7 &&& 255))] (.int 0) := (Arv.other f732 W733 ne_da0_b719)
  obtain ⟨cl735, Ar735, qk735, S735, Ng735, H735, G735⟩ := id f736
  have hin735 := inb_of (j := (3 : Int32)) S735 ⟨by decide, by decide⟩
  obtain ⟨cl737, Ar737, qk737, S737, Ng737, H737, G737⟩ := id f733
  obtain ⟨T737, h737, X737, e737, W737, st737⟩ := stC X733 hx hZ e733 Ar737 (j := (3 : Int32)) (inb_of S737 ⟨by decide, by decide⟩) (g := (mkF m 332 #[rv da0, iv 8] [(.int (z3 &&& 255)), (.int 3), (.ref b719), (.ref b719), (.ref b715), (.ref b715)])) rfl rfl (D d0_332)
  have W737 : Wr h733 h737 b719 ((3 : Int32)).toNatClampNeg (.int (z3 &&& 255)) := Eq.mp (congrArg (fun z => Wr h733 h737 b719 ((3 : Int32)).toNatClampNeg (Value.int z)) (i2c_mask z3)) W737
  have O738 := Old0.wr O734 W737 g_b719
  have K738 := Keep.wr K734 W737 (Or.inr z_b719)
  have f737 : Arv Z h737 b719 k719 .char (8 : Int32) [(.int (z0 &&& 255)), (.int (z1 &&& 255)), (.int (z2 &&& 255)), (.int (z3 &&& 255)), (.int 0), (.int 0), (.int 0), (.int 0)] (.int 0) := Arv.set Ar737 qk737 S737 Ng737 H737 G737 (v := (.int (z3 &&& 255))) (own_f255 z3) W737 3 rfl (Nat.le_of_ble_eq_true rfl)
  have N737 := Fr.snoc X737 N733 g_b719
  have f740 : Arv Z h737 da0 kd0 .char (8 : Int32) [(.int (z0 &&& 255)), (.int (z1 &&& 255)), (.int (z2 &&& 255)), (.int (z3 &&& 255)), (.int (z4 &&& 255)), (.int (z5 &&& 255)), (.int (z6 &&& 255)), (.int (z7 &&& 255))] (.int 0) := (Arv.other f736 W737 ne_da0_b719)
  obtain ⟨cl739, Ar739, qk739, S739, Ng739, H739, G739⟩ := id f740
  have hin739 := inb_of (j := (4 : Int32)) S739 ⟨by decide, by decide⟩
  obtain ⟨cl741, Ar741, qk741, S741, Ng741, H741, G741⟩ := id f737
  obtain ⟨T741, h741, X741, e741, W741, st741⟩ := stC X737 hx hZ e737 Ar741 (j := (4 : Int32)) (inb_of S741 ⟨by decide, by decide⟩) (g := (mkF m 338 #[rv da0, iv 8] [(.int (z4 &&& 255)), (.int 4), (.ref b719), (.ref b719), (.ref b715), (.ref b715)])) rfl rfl (D d0_338)
  have W741 : Wr h737 h741 b719 ((4 : Int32)).toNatClampNeg (.int (z4 &&& 255)) := Eq.mp (congrArg (fun z => Wr h737 h741 b719 ((4 : Int32)).toNatClampNeg (Value.int z)) (i2c_mask z4)) W741
  have O742 := Old0.wr O738 W741 g_b719
  have K742 := Keep.wr K738 W741 (Or.inr z_b719)
  have f741 : Arv Z h741 b719 k719 .char (8 : Int32) [(.int (z0 &&& 255)), (.int (z1 &&& 255)), (.int (z2 &&& 255)), (.int (z3 &&& 255)), (.int (z4 &&& 255)), (.int 0), (.int 0), (.int 0)] (.int 0) := Arv.set Ar741 qk741 S741 Ng741 H741 G741 (v := (.int (z4 &&& 255))) (own_f255 z4) W741 4 rfl (Nat.le_of_ble_eq_true rfl)
  have N741 := Fr.snoc X741 N737 g_b719
  have f744 : Arv Z h741 da0 kd0 .char (8 : Int32) [(.int (z0 &&& 255)), (.int (z1 &&& 255)), (.int (z2 &&& 255)), (.int (z3 &&& 255)), (.int (z4 &&& 255)), (.int (z5 &&& 255)), (.int (z6 &&& 255)), (.int (z7 &&& 255))] (.int 0) := (Arv.other f740 W741 ne_da0_b719)
  obtain ⟨cl743, Ar743, qk743, S743, Ng743, H743, G743⟩ := id f744
  have hin743 := inb_of (j := (5 : Int32)) S743 ⟨by decide, by decide⟩
  obtain ⟨cl745, Ar745, qk745, S745, Ng745, H745, G745⟩ := id f741
  obtain ⟨T745, h745, X745, e745, W745, st745⟩ := stC X741 hx hZ e741 Ar745 (j := (5 : Int32)) (inb_of S745 ⟨by decide, by decide⟩) (g := (mkF m 344 #[rv da0, iv 8] [(.int (z5 &&& 255)), (.int 5), (.ref b719), (.ref b719), (.ref b715), (.ref b715)])) rfl rfl (D d0_344)
  have W745 : Wr h741 h745 b719 ((5 : Int32)).toNatClampNeg (.int (z5 &&& 255)) := Eq.mp (congrArg (fun z => Wr h741 h745 b719 ((5 : Int32)).toNatClampNeg (Value.int z)) (i2c_mask z5)) W745
  have O746 := Old0.wr O742 W745 g_b719
  have K746 := Keep.wr K742 W745 (Or.inr z_b719)
  have f745 : Arv Z h745 b719 k719 .char (8 : Int32) [(.int (z0 &&& 255)), (.int (z1 &&& 255)), (.int (z2 &&& 255)), (.int (z3 &&& 255)), (.int (z4 &&& 255)), (.int (z5 &&& 255)), (.int 0), (.int 0)] (.int 0) := Arv.set Ar745 qk745 S745 Ng745 H745 G745 (v := (.int (z5 &&& 255))) (own_f255 z5) W745 5 rfl (Nat.le_of_ble_eq_true rfl)
  have N745 := Fr.snoc X745 N741 g_b719
  have f748 : Arv Z h745 da0 kd0 .char (8 : Int32) [(.int (z0 &&& 255)), (.int (z1 &&& 255)), (.int (z2 &&& 255)), (.int (z3 &&& 255)), (.int (z4 &&& 255)), (.int (z5 &&& 255)), (.int (z6 &&& 255)), (.int (z7 &&& 255))] (.int 0) := (Arv.other f744 W745 ne_da0_b719)
  obtain ⟨cl747, Ar747, qk747, S747, Ng747, H747, G747⟩ := id f748
  have hin747 := inb_of (j := (6 : Int32)) S747 ⟨by decide, by decide⟩
  obtain ⟨cl749, Ar749, qk749, S749, Ng749, H749, G749⟩ := id f745
  obtain ⟨T749, h749, X749, e749, W749, st749⟩ := stC X745 hx hZ e745 Ar749 (j := (6 : Int32)) (inb_of S749 ⟨by decide, by decide⟩) (g := (mkF m 352 #[rv da0, iv 8] [(.int (z6 &&& 255)), (.int 6), (.ref b719), (.ref b719), (.ref b715), (.ref b715)])) rfl rfl (D d0_352)
  have W749 : Wr h745 h749 b719 ((6 : Int32)).toNatClampNeg (.int (z6 &&& 255)) := Eq.mp (congrArg (fun z => Wr h745 h749 b719 ((6 : Int32)).toNatClampNeg (Value.int z)) (i2c_mask z6)) W749
  have O750 := Old0.wr O746 W749 g_b719
  have K750 := Keep.wr K746 W749 (Or.inr z_b719)
  have f749 : Arv Z h749 b719 k719 .char (8 : Int32) [(.int (z0 &&& 255)), (.int (z1 &&& 255)), (.int (z2 &&& 255)), (.int (z3 &&& 255)), (.int (z4 &&& 255)), (.int (z5 &&& 255)), (.int (z6 &&& 255)), (.int 0)] (.int 0) := Arv.set Ar749 qk749 S749 Ng749 H749 G749 (v := (.int (z6 &&& 255))) (own_f255 z6) W749 6 rfl (Nat.le_of_ble_eq_true rfl)
  have N749 := Fr.snoc X749 N745 g_b719
  refine Go.of (T' := T749) (f' := (mkF m 357 #[rv da0, iv 8] [(.ref da0), (.int 7), (.ref b719), (.ref b719), (.ref b715), (.ref b715)])) (fun _ k => XS.iconst X733.here hx rfl (D d0_330) (X733.caload hx (j := (3 : Int32)) (v := (.int (z3 &&& 255))) (by rw [e733]; exact Ar735.1) (State.isArrayOf_alike hZ.alike Ar735.2.1) Ar735.2.2 hin735 (H735.at hin735 rfl) (g := (mkF m 331 #[rv da0, iv 8] [(.int 3), (.ref da0), (.int 3), (.ref b719), (.ref b719), (.ref b715), (.ref b715)])) rfl rfl (D d0_331) _ (st737 _ (XS.dup X737.here hx rfl (D d0_333) rfl rfl (XS.iconst X737.here hx rfl (D d0_334) (XS.aloadN X737.here hx rfl (D d0_335) rfl rfl (XS.iconst X737.here hx rfl (D d0_336) (X737.caload hx (j := (4 : Int32)) (v := (.int (z4 &&& 255))) (by rw [e737]; exact Ar739.1) (State.isArrayOf_alike hZ.alike Ar739.2.1) Ar739.2.2 hin739 (H739.at hin739 rfl) (g := (mkF m 337 #[rv da0, iv 8] [(.int 4), (.ref da0), (.int 4), (.ref b719), (.ref b719), (.ref b715), (.ref b715)])) rfl rfl (D d0_337) _ (st741 _ (XS.dup X741.here hx rfl (D d0_339) rfl rfl (XS.iconst X741.here hx rfl (D d0_340) (XS.aloadN X741.here hx rfl (D d0_341) rfl rfl (XS.iconst X741.here hx rfl (D d0_342) (X741.caload hx (j := (5 : Int32)) (v := (.int (z5 &&& 255))) (by rw [e741]; exact Ar743.1) (State.isArrayOf_alike hZ.alike Ar743.2.1) Ar743.2.2 hin743 (H743.at hin743 rfl) (g := (mkF m 343 #[rv da0, iv 8] [(.int 5), (.ref da0), (.int 5), (.ref b719), (.ref b719), (.ref b715), (.ref b715)])) rfl rfl (D d0_343) _ (st745 _ (XS.dup X745.here hx rfl (D d0_345) rfl rfl (XS.bipush X745.here hx rfl (D d0_346) (XS.aloadN X745.here hx rfl (D d0_348) rfl rfl (XS.bipush X745.here hx rfl (D d0_349) (X745.caload hx (j := (6 : Int32)) (v := (.int (z6 &&& 255))) (by rw [e745]; exact Ar747.1) (State.isArrayOf_alike hZ.alike Ar747.2.1) Ar747.2.2 hin747 (H747.at hin747 rfl) (g := (mkF m 351 #[rv da0, iv 8] [(.int 6), (.ref da0), (.int 6), (.ref b719), (.ref b719), (.ref b715), (.ref b715)])) rfl rfl (D d0_351) _ (st749 _ (XS.dup X749.here hx rfl (D d0_353) rfl rfl (XS.bipush X749.here hx rfl (D d0_354) (XS.aloadN X749.here hx rfl (D d0_356) rfl rfl k)))))))))))))))))))))))) ?_
  have f752 : Arv Z h749 da0 kd0 .char (8 : Int32) [(.int (z0 &&& 255)), (.int (z1 &&& 255)), (.int (z2 &&& 255)), (.int (z3 &&& 255)), (.int (z4 &&& 255)), (.int (z5 &&& 255)), (.int (z6 &&& 255)), (.int (z7 &&& 255))] (.int 0) := (Arv.other f748 W749 ne_da0_b719)
  obtain ⟨cl751, Ar751, qk751, S751, Ng751, H751, G751⟩ := id f752
  have hin751 := inb_of (j := (7 : Int32)) S751 ⟨by decide, by decide⟩
  obtain ⟨cl753, Ar753, qk753, S753, Ng753, H753, G753⟩ := id f749
  obtain ⟨T753, h753, X753, e753, W753, st753⟩ := stC X749 hx hZ e749 Ar753 (j := (7 : Int32)) (inb_of S753 ⟨by decide, by decide⟩) (g := (mkF m 360 #[rv da0, iv 8] [(.int (z7 &&& 255)), (.int 7), (.ref b719), (.ref b719), (.ref b715), (.ref b715)])) rfl rfl (D d0_360)
  have W753 : Wr h749 h753 b719 ((7 : Int32)).toNatClampNeg (.int (z7 &&& 255)) := Eq.mp (congrArg (fun z => Wr h749 h753 b719 ((7 : Int32)).toNatClampNeg (Value.int z)) (i2c_mask z7)) W753
  have O754 := Old0.wr O750 W753 g_b719
  have K754 := Keep.wr K750 W753 (Or.inr z_b719)
  have f753 : Arv Z h753 b719 k719 .char (8 : Int32) [(.int (z0 &&& 255)), (.int (z1 &&& 255)), (.int (z2 &&& 255)), (.int (z3 &&& 255)), (.int (z4 &&& 255)), (.int (z5 &&& 255)), (.int (z6 &&& 255)), (.int (z7 &&& 255))] (.int 0) := Arv.set Ar753 qk753 S753 Ng753 H753 G753 (v := (.int (z7 &&& 255))) (own_f255 z7) W753 7 rfl (Nat.le_of_ble_eq_true rfl)
  have N753 := Fr.snoc X753 N749 g_b719
  have f756 : Exa Z h753 b715 "java/lang/String" := (Exa.wr W753 (Exa.wr W749 (Exa.wr W745 (Exa.wr W741 (Exa.wr W737 (Exa.wr W733 (Exa.wr W729 (Exa.wr W725 (Exa.ext E719 A715)))))))))
  have f757 : Fld Z h753 b715 "java/lang/String" "value" "[B" .null := (Fld.other W753 (Fld.other W749 (Fld.other W745 (Fld.other W741 (Fld.other W737 (Fld.other W733 (Fld.other W729 (Fld.other W725 (Fld.ext E719 f717) (Or.inl ne_b715_b719)) (Or.inl ne_b715_b719)) (Or.inl ne_b715_b719)) (Or.inl ne_b715_b719)) (Or.inl ne_b715_b719)) (Or.inl ne_b715_b719)) (Or.inl ne_b715_b719)) (Or.inl ne_b715_b719))
  have f758 : Fld Z h753 b715 "java/lang/String" "coder" "B" (.int 0) := (Fld.other W753 (Fld.other W749 (Fld.other W745 (Fld.other W741 (Fld.other W737 (Fld.other W733 (Fld.other W729 (Fld.other W725 (Fld.ext E719 f718) (Or.inl ne_b715_b719)) (Or.inl ne_b715_b719)) (Or.inl ne_b715_b719)) (Or.inl ne_b715_b719)) (Or.inl ne_b715_b719)) (Or.inl ne_b715_b719)) (Or.inl ne_b715_b719)) (Or.inl ne_b715_b719))
  have f759 : Arv Z h753 da0 kd0 .char (8 : Int32) [(.int (z0 &&& 255)), (.int (z1 &&& 255)), (.int (z2 &&& 255)), (.int (z3 &&& 255)), (.int (z4 &&& 255)), (.int (z5 &&& 255)), (.int (z6 &&& 255)), (.int (z7 &&& 255))] (.int 0) := (Arv.other f752 W753 ne_da0_b719)
  have f760 : Exa Z h753 b719 "[C" := (Exa.wr W753 (Exa.wr W749 (Exa.wr W745 (Exa.wr W741 (Exa.wr W737 (Exa.wr W733 (Exa.wr W729 (Exa.wr W725 A719))))))))
  obtain ⟨T755, v755, L755, X755, q755, st755⟩ := callNew X753 hx hZ (y := own_m12) rfl hown (own_w hw (i := 10) rfl) (own_w hw (i := 11) rfl) (own_w hw (i := 9) rfl) (own_w hw (i := 12) rfl) (by decide) (rm_str hw G b715 b719 ((8 : Int32)) k719 (([(z0 &&& 255), (z1 &&& 255), (z2 &&& 255), (z3 &&& 255), (z4 &&& 255), (z5 &&& 255), (z6 &&& 255), (z7 &&& 255)] : List Int32)) h753 O754 (rfl) (And.intro (own_le255 _) (And.intro (own_le255 _) (And.intro (own_le255 _) (And.intro (own_le255 _) (And.intro (own_le255 _) (And.intro (own_le255 _) (And.intro (own_le255 _) (And.intro (own_le255 _) (trivial))))))))) (Nat.le_of_ble_eq_true rfl) (Nat.succ_pos _) f756 f757 f758 g_b715 f753 ne_b715_b719) e753 (W := 1) (by decide) (by decide) (by decide) (by decide) (g := (mkF m 361 #[rv da0, iv 8] [(.ref b719), (.ref b715), (.ref b715)])) rfl (by rw [hml]; rfl) (a := b715) (argsL := [(.ref b719)]) (rest := [(.ref b715)]) (lenOf pd43 rfl) rfl rfl (Nat.le_of_eq rfl) (D d0_361)
  obtain ⟨da_755, kd_755, rfl, N755q, K755q, p755_0, p755_1, p755_2, p755_3, p755_4⟩ := q755
  have N755 := Fr.app N753 N755q
  have O761 := Old0.keep O754 K755q (allS g_b715 all0)
  have K761 := Keep.trans K754 K755q (allS (Or.inr z_b715) all0)
  have z_da_755 : h0.size ≤ da_755 := Nat.le_trans K754.1 p755_0
  have g_da_755 : Z.heap.size ≤ da_755 := Nat.le_trans O754.1 p755_0
  have ne_da0_da_755 : da0 ≠ da_755 := Nat.ne_of_lt (Nat.lt_of_lt_of_le f759.lt p755_0)
  have ne_b715_da_755 : b715 ≠ da_755 := Nat.ne_of_lt (Nat.lt_of_lt_of_le f756.lt p755_0)
  have ne_b719_da_755 : b719 ≠ da_755 := Nat.ne_of_lt (Nat.lt_of_lt_of_le f760.lt p755_0)
  have p755_3 : Arv Z T755.heap da_755 kd_755 .byte (8 : Int32) [(.int ((z0 &&& 255).toInt8.toInt32)), (.int ((z1 &&& 255).toInt8.toInt32)), (.int ((z2 &&& 255).toInt8.toInt32)), (.int ((z3 &&& 255).toInt8.toInt32)), (.int ((z4 &&& 255).toInt8.toInt32)), (.int ((z5 &&& 255).toInt8.toInt32)), (.int ((z6 &&& 255).toInt8.toInt32)), (.int ((z7 &&& 255).toInt8.toInt32))] (.int 0) := p755_3
  have f762 : Exa Z T755.heap b715 "java/lang/String" := (Exa.keep f756 K755q)
  refine Go.of (T' := T755) (f' := (mkF m 364 #[rv da0, iv 8] [(.ref b715)])) (fun _ k => XS.bipush X749.here hx rfl (D d0_357) (X749.caload hx (j := (7 : Int32)) (v := (.int (z7 &&& 255))) (by rw [e749]; exact Ar751.1) (State.isArrayOf_alike hZ.alike Ar751.2.1) Ar751.2.2 hin751 (H751.at hin751 rfl) (g := (mkF m 359 #[rv da0, iv 8] [(.int 7), (.ref da0), (.int 7), (.ref b719), (.ref b719), (.ref b715), (.ref b715)])) rfl rfl (D d0_359) _ (st753 _ (st755 _ k)))) ?_
  exact Go.retA X755 hx hlk hret rfl rfl (D d0_364) (by decide) (by decide) ⟨b715, da_755, kd_755, rfl, N755, K761, f762, p755_1, p755_2, p755_3⟩
theorem d7_0 : decode prog_4_method_1_code 0 = .ok (.getstatic 13, 3) := by decide +kernel
theorem d7_3 : decode prog_4_method_1_code 3 = .ok (.invokevirtual 17, 3) := by decide +kernel
theorem d7_6 : decode prog_4_method_1_code 6 = .ok (.checkcast 18, 3) := by decide +kernel
theorem d7_9 : decode prog_4_method_1_code 9 = .ok (.areturn, 1) := by decide +kernel
abbrev own_m46 : MethodName := (⟨"com/example/fair_index/fairindex/csw/ResultType", "values", "()[Lcom/example/fair_index/fairindex/csw/ResultType;"⟩ : MethodName)
theorem ef_rm_values (m : MethodId)  : entryFrame m #[] 0 = mkF m 0 #[] [] := by first | (simp [entryFrame, mkF, argsToLocals, Value.category]; done) | rfl
theorem pn47 : plainFor (⟨"com/example/fair_index/fairindex/csw/ResultType", "values", "()[Lcom/example/fair_index/fairindex/csw/ResultType;"⟩ : MethodName) = true := by first | exact plainFor_of_name (by first | (simp [plainName, overriddenIn]; done) | decide +kernel) | decide +kernel
set_option maxRecDepth 65536 in
set_option maxHeartbeats 40000000 in
theorem rm_values {l : Launch} {Z : State} {a0 : Array Value} {A : Nat → Addr} {KC : Nat → Cell} {IC : Nat → Int32} {VC : Nat → Value} (hw : ∀ d ∈ tables_1, d.before a0 Z = true) (G : own_Ctx Z A KC IC VC)   (h0 : Heap) (O0 : Ext Z.heap h0)  :
    Ok l Z own_m46 prog_4_method_1_code 0 (some (.array (.object "com/example/fair_index/fairindex/csw/ResultType"))) ({ frames := 1, cells := 1, slots := 3, locals := 14 } : Room) #[] h0
      (fun v h L => ∃ r : Addr, v = some (.ref r) ∧ (Fr Z.heap.size L) ∧ (Keep h0 h []) ∧ (h0.size ≤ r) ∧ (Arv Z h r (KC 0).cls (.object "com/example/fair_index/fairindex/csw/ResultType") (3 : Int32) [(.ref (A 1)), (.ref (A 2)), (.ref (A 3))] .null) ∧ (Exa Z h r "[Lcom/example/fair_index/fairindex/csw/ResultType;")) := by
  refine Ok.mk pn47 ?_
  intro p e s m below meth c T0 hx hby hml hown hnm hret hlk hZ e0 X0
  refine Go.cast (ef_rm_values m ) ?_
  obtain ⟨S__VALUES, E_s__VALUES, -, -, -, -, -, -, -, -, -, -, -, -, -, -, -, -, -, -, -, -, V_s__VALUES, -⟩ := id G
  have D := @hb _ _ hby
  have N0 := Fr.nil Z.heap.size
  have K0 : Keep h0 h0 [] := Keep.refl _ _
  obtain ⟨T763, X763, e763, st763⟩ := getS2 X0 hx hZ hown (host := "") (Or.inl (own_w hw (i := 49) rfl)) Via.refl e0 (Sta.ext O0 S__VALUES) (g := (mkF m 0 #[] [])) rfl (D d7_0)
  obtain ⟨T764, h764, b764, q764, X764, e764, E764, V764, A764, st764⟩ := cloneV X763 hx hZ hown (own_w hw (i := 51) rfl) (own_w hw (i := 52) rfl) (own_w hw (i := 56) rfl) (own_w hw (i := 54) rfl) (own_w hw (i := 55) rfl) (own_w hw (i := 57) rfl) e763 (Arv.ext V_s__VALUES O0) (Exa.ext O0 E_s__VALUES) (g := (mkF m 3 #[] [(.ref (A 0))])) rfl (by rw [hml]; rfl) rfl (D d7_3) (by decide) (W := 0) (cap := 3) (Nat.le_of_eq rfl) (by decide) (by decide) (by decide) (by decide)
  have O765 := Old0.ext O0 E764
  have K765 := Keep.ext K0 E764
  have g_b764 : Z.heap.size ≤ b764 := q764 ▸ O0.1
  have z_b764 : h0.size ≤ b764 := q764 ▸ K0.1
  obtain ⟨T766, X766, e766, st766⟩ := castY X764 hx hZ hown (own_w hw (i := 62) rfl) e764 (Ins.self A764) (g := (mkF m 6 #[] [(.ref b764)])) rfl rfl (D d7_6)
  refine Go.of (T' := T766) (f' := (mkF m 9 #[] [(.ref b764)])) (fun _ k => st763 _ (st764 _ (st766 _ k))) ?_
  exact Go.retA X766 hx hlk hret rfl rfl (D d7_9) (by decide) (by decide) (by rw [e766]; exact ⟨b764, rfl, N0, K765, z_b764, V764, A764⟩)
theorem d6_0 : decode prog_4_method_4_code 0 = .ok (.invokestatic 36, 3) := by decide +kernel
theorem pd48 : parseMethodDescriptor "()[Lcom/example/fair_index/fairindex/csw/ResultType;" = some ⟨[], some (.array (.object "com/example/fair_index/fairindex/csw/ResultType"))⟩ := by decide +kernel
theorem d6_3 : decode prog_4_method_4_code 3 = .ok (.astore_n 1, 1) := by decide +kernel
theorem d6_4 : decode prog_4_method_4_code 4 = .ok (.aload_n 1, 1) := by decide +kernel
theorem d6_5 : decode prog_4_method_4_code 5 = .ok (.arraylength, 1) := by decide +kernel
theorem d6_6 : decode prog_4_method_4_code 6 = .ok (.istore_n 2, 1) := by decide +kernel
theorem d6_7 : decode prog_4_method_4_code 7 = .ok (.iconst 0, 1) := by decide +kernel
theorem d6_8 : decode prog_4_method_4_code 8 = .ok (.istore_n 3, 1) := by decide +kernel
theorem d6_9 : decode prog_4_method_4_code 9 = .ok (.iload_n 3, 1) := by decide +kernel
theorem d6_10 : decode prog_4_method_4_code 10 = .ok (.iload_n 2, 1) := by decide +kernel
theorem d6_11 : decode prog_4_method_4_code 11 = .ok (.if_icmp .ge 29, 3) := by decide +kernel
theorem d6_14 : decode prog_4_method_4_code 14 = .ok (.aload_n 1, 1) := by decide +kernel
theorem d6_15 : decode prog_4_method_4_code 15 = .ok (.iload_n 3, 1) := by decide +kernel
theorem d6_16 : decode prog_4_method_4_code 16 = .ok (.aaload, 1) := by decide +kernel
theorem d6_17 : decode prog_4_method_4_code 17 = .ok (.astore 4, 2) := by decide +kernel
theorem d6_19 : decode prog_4_method_4_code 19 = .ok (.aload 4, 2) := by decide +kernel
theorem d6_21 : decode prog_4_method_4_code 21 = .ok (.getfield 32, 3) := by decide +kernel
theorem d6_24 : decode prog_4_method_4_code 24 = .ok (.aload_n 0, 1) := by decide +kernel
theorem d6_25 : decode prog_4_method_4_code 25 = .ok (.invokevirtual 40, 3) := by decide +kernel
theorem pd49 : parseMethodDescriptor "(Ljava/lang/Object;)Z" = some ⟨[(.object "java/lang/Object")], some .boolean⟩ := by decide +kernel
theorem d6_28 : decode prog_4_method_4_code 28 = .ok (.ifCond .eq 6, 3) := by decide +kernel
theorem d6_31 : decode prog_4_method_4_code 31 = .ok (.aload 4, 2) := by decide +kernel
theorem d6_33 : decode prog_4_method_4_code 33 = .ok (.areturn, 1) := by decide +kernel
abbrev own_m50 : MethodName := (⟨"com/example/fair_index/fairindex/csw/ResultType", "named", "(Ljava/lang/String;)Lcom/example/fair_index/fairindex/csw/ResultType;"⟩ : MethodName)
theorem ef_rm_named0 (m : MethodId) (so : Addr) : entryFrame m #[(.ref so)] 5 = mkF m 0 #[rv so, .unset, .unset, .unset, .unset] [] := by first | (simp [entryFrame, mkF, argsToLocals, Value.category]; done) | rfl
theorem pn51 : plainFor (⟨"com/example/fair_index/fairindex/csw/ResultType", "named", "(Ljava/lang/String;)Lcom/example/fair_index/fairindex/csw/ResultType;"⟩ : MethodName) = true := by first | exact plainFor_of_name (by first | (simp [plainName, overriddenIn]; done) | decide +kernel) | decide +kernel
set_option maxRecDepth 65536 in
set_option maxHeartbeats 40000000 in
theorem rm_named0 {l : Launch} {Z : State} {a0 : Array Value} {A : Nat → Addr} {KC : Nat → Cell} {IC : Nat → Int32} {VC : Nat → Value} (hw : ∀ d ∈ tables_1, d.before a0 Z = true) (G : own_Ctx Z A KC IC VC) (so : Addr) (sv : Addr) (kg : ClassId) (n : Int32) (bs : List Int32) (h0 : Heap) (O0 : Ext Z.heap h0) (prem0 : Exa Z h0 so "java/lang/String") (prem1 : Fld Z h0 so "java/lang/String" "value" "[B" (.ref sv)) (prem2 : Fld Z h0 so "java/lang/String" "coder" "B" (.int (0 : Int32))) (prem3 : Arv Z h0 sv kg .byte n (bs.map Value.int) (.int (0 : Int32))) (prem4 : own_eq_hits n bs = 1) (prem5 : own_eq_results n bs = 0) (prem6 : own_eq_validate n bs = 0) :
    Ok l Z own_m50 prog_4_method_4_code 5 (some (.object "com/example/fair_index/fairindex/csw/ResultType")) ({ frames := 2, cells := 1, slots := 3, locals := 28 } : Room) #[(.ref so)] h0
      (fun v h L => v = some (.ref (A 1)) ∧ (Fr Z.heap.size L) ∧ (Keep h0 h [])) := by
  refine Ok.mk pn51 ?_
  intro p e s m below meth c T0 hx hby hml hown hnm hret hlk hZ e0 X0
  refine Go.cast (ef_rm_named0 m so) ?_
  obtain ⟨-, -, -, -, -, -, -, -, F_s_HITS_name, E_s_HITS_name, -⟩ := id G
  have D := @hb _ _ hby
  have N0 := Fr.nil Z.heap.size
  have K0 : Keep h0 h0 [] := Keep.refl _ _
  obtain ⟨T767, v767, L767, X767, q767, st767⟩ := callSt X0 hx hZ (y := own_m46) hown (own_w hw (i := 46) rfl) (own_w hw (i := 47) rfl) (own_w hw (i := 44) rfl) (own_w hw (i := 48) rfl) (by decide) (rm_values hw G   h0 O0 ) e0 (W := 0) (by decide) (by decide) (by decide) (by decide) (g := (mkF m 0 #[rv so, .unset, .unset, .unset, .unset] [])) rfl (by rw [hml]; rfl) (argsL := []) (rest := []) (lenOf pd48 rfl) rfl rfl (Nat.le_of_eq rfl) (D d6_0)
  obtain ⟨r_767, rfl, N767q, K767q, p767_0, p767_1, p767_2⟩ := q767
  have N767 := Fr.app N0 N767q
  have O768 := Old0.keep O0 K767q all0
  have K768 := Keep.trans K0 K767q all0
  have z_r_767 : h0.size ≤ r_767 := Nat.le_trans K0.1 p767_0
  have g_r_767 : Z.heap.size ≤ r_767 := Nat.le_trans O0.1 p767_0
  have ne_so_r_767 : so ≠ r_767 := Nat.ne_of_lt (Nat.lt_of_lt_of_le prem0.lt p767_0)
  have ne_sv_r_767 : sv ≠ r_767 := Nat.ne_of_lt (Nat.lt_of_lt_of_le prem3.lt p767_0)
  obtain ⟨cl769, Ar769, qk769, S769, Ng769, H769, G769⟩ := id p767_1
  obtain ⟨cl771, Ar771, qk771, S771, Ng771, H771, G771⟩ := id p767_1
  have hin771 := inb_of (j := (0 : Int32)) S771 ⟨by decide, by decide⟩
  obtain ⟨T772, X772, e772, st772⟩ := getF X767 hx hZ hown (host := "") (Or.inl (own_w hw (i := 64) rfl)) Via.refl rfl (Fld.ext O768 F_s_HITS_name) (g := (mkF m 21 #[rv so, rv r_767, iv 3, iv 0, rv (A 1)] [(.ref (A 1))])) rfl rfl (D d6_21)
  have f774 : Exa Z T767.heap so "java/lang/String" := (Exa.keep prem0 K767q)
  have f775 : Fld Z T767.heap so "java/lang/String" "value" "[B" (.ref sv) := (Fld.keep prem1 K767q nin0)
  have f776 : Fld Z T767.heap so "java/lang/String" "coder" "B" (.int 0) := (Fld.keep prem2 K767q nin0)
  have f777 : Arv Z T767.heap sv kg .byte n (bs.map Value.int) (.int 0) := (Arv.keep prem3 K767q nin0)
  obtain ⟨T773, v773, L773, X773, q773, st773⟩ := callVi X772 hx hZ (y := own_m17) (z := own_m17) hown (own_w hw (i := 66) rfl) (own_w hw (i := 30) rfl) (notFace_of_selects (args := #[]) (mvT hZ (own_w hw (i := 32) rfl))) (own_w hw (i := 32) rfl) (own_w hw (i := 31) rfl) (own_w hw (i := 33) rfl) (own_w hw (i := 9) rfl) (by decide) (rm_eqn_hits hw G so sv kg n bs ((1 : Int32)) T767.heap O768 f774 f775 f776 f777 (prem4)) e772 (W := 0) (by decide) (by decide) (by decide) (by decide) (Exa.ext O768 E_s_HITS_name) (g := (mkF m 25 #[rv so, rv r_767, iv 3, iv 0, rv (A 1)] [(.ref so), (.ref (A 4))])) rfl (by rw [hml]; rfl) (argsL := [(.ref so)]) (rest := []) (lenOf pd49 rfl) rfl rfl (Nat.le_of_eq rfl) (D d6_25)
  obtain ⟨rfl, e773, rfl⟩ := q773
  have N773 := Fr.app N767 (Fr.nil _)
  refine Go.of (T' := T773) (f' := (mkF m 33 #[rv so, rv r_767, iv 3, iv 0, rv (A 1)] [(.ref (A 1))])) (fun _ k => st767 _ (XS.astoreN X767.here hx rfl (D d6_3) rfl rfl (l' := #[rv so, rv r_767, .unset, .unset, .unset]) rfl (XS.aloadN X767.here hx rfl (D d6_4) rfl rfl (X767.arraylength hx Ar769.1 (State.isArrayOf_alike hZ.alike Ar769.2.1) (g := (mkF m 5 #[rv so, rv r_767, .unset, .unset, .unset] [(.ref r_767)])) rfl rfl (D d6_5) _ (by rw [len_of S769 Ng769]; exact (XS.istoreN X767.here hx rfl (D d6_6) rfl (l' := #[rv so, rv r_767, iv 3, .unset, .unset]) rfl (XS.iconst X767.here hx rfl (D d6_7) (XS.istoreN X767.here hx rfl (D d6_8) rfl (l' := #[rv so, rv r_767, iv 3, iv 0, .unset]) rfl (XS.iloadN X767.here hx rfl (D d6_9) rfl (XS.iloadN X767.here hx rfl (D d6_10) rfl (XS.icmpNo X767.here hx rfl (D d6_11) rfl (tlt (by decide : (0 : Int32) < (3 : Int32))).2.1 (XS.aloadN X767.here hx rfl (D d6_14) rfl rfl (XS.iloadN X767.here hx rfl (D d6_15) rfl (X767.aaload hx (j := (0 : Int32)) (v := (.ref (A 1))) Ar771.1 (State.isArrayOf_alike hZ.alike Ar771.2.1) rfl Ar771.2.2 hin771 (H771.at hin771 rfl) (g := (mkF m 16 #[rv so, rv r_767, iv 3, iv 0, .unset] [(.int 0), (.ref r_767)])) rfl rfl (D d6_16) _ (XS.astore X767.here hx rfl (D d6_17) rfl rfl (l' := #[rv so, rv r_767, iv 3, iv 0, rv (A 1)]) rfl (XS.aload X767.here hx rfl (D d6_19) rfl rfl (st772 _ (XS.aloadN X772.here hx rfl (D d6_24) rfl rfl (st773 _ (XS.ifNo X773.here hx rfl (D d6_28) rfl ((if0 _ _).trans (feq (by decide : ¬ ((1 : Int32) = (0 : Int32)))).1) (XS.aload X773.here hx rfl (D d6_31) rfl rfl k))))))))))))))))))))) ?_
  exact Go.retA X773 hx hlk hret rfl rfl (D d6_33) (by decide) (by decide) (by rw [e773]; exact ⟨rfl, N773, K768⟩)
theorem d6_34 : decode prog_4_method_4_code 34 = .ok (.iinc 3 1, 3) := by decide +kernel
theorem d6_37 : decode prog_4_method_4_code 37 = .ok (.goto (-28), 3) := by decide +kernel
theorem ef_rm_named1 (m : MethodId) (so : Addr) : entryFrame m #[(.ref so)] 5 = mkF m 0 #[rv so, .unset, .unset, .unset, .unset] [] := by first | (simp [entryFrame, mkF, argsToLocals, Value.category]; done) | rfl
set_option maxRecDepth 65536 in
set_option maxHeartbeats 40000000 in
theorem rm_named1 {l : Launch} {Z : State} {a0 : Array Value} {A : Nat → Addr} {KC : Nat → Cell} {IC : Nat → Int32} {VC : Nat → Value} (hw : ∀ d ∈ tables_1, d.before a0 Z = true) (G : own_Ctx Z A KC IC VC) (so : Addr) (sv : Addr) (kg : ClassId) (n : Int32) (bs : List Int32) (h0 : Heap) (O0 : Ext Z.heap h0) (prem0 : Exa Z h0 so "java/lang/String") (prem1 : Fld Z h0 so "java/lang/String" "value" "[B" (.ref sv)) (prem2 : Fld Z h0 so "java/lang/String" "coder" "B" (.int (0 : Int32))) (prem3 : Arv Z h0 sv kg .byte n (bs.map Value.int) (.int (0 : Int32))) (prem4 : own_eq_hits n bs = 0) (prem5 : own_eq_results n bs = 1) (prem6 : own_eq_validate n bs = 0) :
    Ok l Z own_m50 prog_4_method_4_code 5 (some (.object "com/example/fair_index/fairindex/csw/ResultType")) ({ frames := 2, cells := 1, slots := 3, locals := 28 } : Room) #[(.ref so)] h0
      (fun v h L => v = some (.ref (A 2)) ∧ (Fr Z.heap.size L) ∧ (Keep h0 h [])) := by
  refine Ok.mk pn51 ?_
  intro p e s m below meth c T0 hx hby hml hown hnm hret hlk hZ e0 X0
  refine Go.cast (ef_rm_named1 m so) ?_
  obtain ⟨-, -, -, -, -, -, -, -, F_s_HITS_name, E_s_HITS_name, -, -, F_s_RESULTS_name, E_s_RESULTS_name, -⟩ := id G
  have D := @hb _ _ hby
  have N0 := Fr.nil Z.heap.size
  have K0 : Keep h0 h0 [] := Keep.refl _ _
  obtain ⟨T779, v779, L779, X779, q779, st779⟩ := callSt X0 hx hZ (y := own_m46) hown (own_w hw (i := 46) rfl) (own_w hw (i := 47) rfl) (own_w hw (i := 44) rfl) (own_w hw (i := 48) rfl) (by decide) (rm_values hw G   h0 O0 ) e0 (W := 0) (by decide) (by decide) (by decide) (by decide) (g := (mkF m 0 #[rv so, .unset, .unset, .unset, .unset] [])) rfl (by rw [hml]; rfl) (argsL := []) (rest := []) (lenOf pd48 rfl) rfl rfl (Nat.le_of_eq rfl) (D d6_0)
  obtain ⟨r_779, rfl, N779q, K779q, p779_0, p779_1, p779_2⟩ := q779
  have N779 := Fr.app N0 N779q
  have O780 := Old0.keep O0 K779q all0
  have K780 := Keep.trans K0 K779q all0
  have z_r_779 : h0.size ≤ r_779 := Nat.le_trans K0.1 p779_0
  have g_r_779 : Z.heap.size ≤ r_779 := Nat.le_trans O0.1 p779_0
  have ne_so_r_779 : so ≠ r_779 := Nat.ne_of_lt (Nat.lt_of_lt_of_le prem0.lt p779_0)
  have ne_sv_r_779 : sv ≠ r_779 := Nat.ne_of_lt (Nat.lt_of_lt_of_le prem3.lt p779_0)
  obtain ⟨cl781, Ar781, qk781, S781, Ng781, H781, G781⟩ := id p779_1
  obtain ⟨cl783, Ar783, qk783, S783, Ng783, H783, G783⟩ := id p779_1
  have hin783 := inb_of (j := (0 : Int32)) S783 ⟨by decide, by decide⟩
  obtain ⟨T784, X784, e784, st784⟩ := getF X779 hx hZ hown (host := "") (Or.inl (own_w hw (i := 64) rfl)) Via.refl rfl (Fld.ext O780 F_s_HITS_name) (g := (mkF m 21 #[rv so, rv r_779, iv 3, iv 0, rv (A 1)] [(.ref (A 1))])) rfl rfl (D d6_21)
  have f786 : Exa Z T779.heap so "java/lang/String" := (Exa.keep prem0 K779q)
  have f787 : Fld Z T779.heap so "java/lang/String" "value" "[B" (.ref sv) := (Fld.keep prem1 K779q nin0)
  have f788 : Fld Z T779.heap so "java/lang/String" "coder" "B" (.int 0) := (Fld.keep prem2 K779q nin0)
  have f789 : Arv Z T779.heap sv kg .byte n (bs.map Value.int) (.int 0) := (Arv.keep prem3 K779q nin0)
  obtain ⟨T785, v785, L785, X785, q785, st785⟩ := callVi X784 hx hZ (y := own_m17) (z := own_m17) hown (own_w hw (i := 66) rfl) (own_w hw (i := 30) rfl) (notFace_of_selects (args := #[]) (mvT hZ (own_w hw (i := 32) rfl))) (own_w hw (i := 32) rfl) (own_w hw (i := 31) rfl) (own_w hw (i := 33) rfl) (own_w hw (i := 9) rfl) (by decide) (rm_eqn_hits hw G so sv kg n bs ((0 : Int32)) T779.heap O780 f786 f787 f788 f789 (prem4)) e784 (W := 0) (by decide) (by decide) (by decide) (by decide) (Exa.ext O780 E_s_HITS_name) (g := (mkF m 25 #[rv so, rv r_779, iv 3, iv 0, rv (A 1)] [(.ref so), (.ref (A 4))])) rfl (by rw [hml]; rfl) (argsL := [(.ref so)]) (rest := []) (lenOf pd49 rfl) rfl rfl (Nat.le_of_eq rfl) (D d6_25)
  obtain ⟨rfl, e785, rfl⟩ := q785
  have N785 := Fr.app N779 (Fr.nil _)
  refine Go.of (T' := T785) (f' := (mkF m 14 #[rv so, rv r_779, iv 3, iv 1, rv (A 1)] [])) (fun _ k => st779 _ (XS.astoreN X779.here hx rfl (D d6_3) rfl rfl (l' := #[rv so, rv r_779, .unset, .unset, .unset]) rfl (XS.aloadN X779.here hx rfl (D d6_4) rfl rfl (X779.arraylength hx Ar781.1 (State.isArrayOf_alike hZ.alike Ar781.2.1) (g := (mkF m 5 #[rv so, rv r_779, .unset, .unset, .unset] [(.ref r_779)])) rfl rfl (D d6_5) _ (by rw [len_of S781 Ng781]; exact (XS.istoreN X779.here hx rfl (D d6_6) rfl (l' := #[rv so, rv r_779, iv 3, .unset, .unset]) rfl (XS.iconst X779.here hx rfl (D d6_7) (XS.istoreN X779.here hx rfl (D d6_8) rfl (l' := #[rv so, rv r_779, iv 3, iv 0, .unset]) rfl (XS.iloadN X779.here hx rfl (D d6_9) rfl (XS.iloadN X779.here hx rfl (D d6_10) rfl (XS.icmpNo X779.here hx rfl (D d6_11) rfl (tlt (by decide : (0 : Int32) < (3 : Int32))).2.1 (XS.aloadN X779.here hx rfl (D d6_14) rfl rfl (XS.iloadN X779.here hx rfl (D d6_15) rfl (X779.aaload hx (j := (0 : Int32)) (v := (.ref (A 1))) Ar783.1 (State.isArrayOf_alike hZ.alike Ar783.2.1) rfl Ar783.2.2 hin783 (H783.at hin783 rfl) (g := (mkF m 16 #[rv so, rv r_779, iv 3, iv 0, .unset] [(.int 0), (.ref r_779)])) rfl rfl (D d6_16) _ (XS.astore X779.here hx rfl (D d6_17) rfl rfl (l' := #[rv so, rv r_779, iv 3, iv 0, rv (A 1)]) rfl (XS.aload X779.here hx rfl (D d6_19) rfl rfl (st784 _ (XS.aloadN X784.here hx rfl (D d6_24) rfl rfl (st785 _ (XS.ifYes X785.here hx rfl (pc0 := 28) (pc' := 34) rfl (D d6_28) rfl ((if0 _ _).trans (teq (by decide : (0 : Int32) = (0 : Int32))).1) (by decide) (by decide) (XS.iinc X785.here hx rfl (D d6_34) rfl (l' := #[rv so, rv r_779, iv 3, iv 1, rv (A 1)]) rfl (XS.goto X785.here hx rfl (pc0 := 37) (pc' := 9) rfl (D d6_37) (by decide) (by decide) (XS.iloadN X785.here hx rfl (D d6_9) rfl (XS.iloadN X785.here hx rfl (D d6_10) rfl (XS.icmpNo X785.here hx rfl (D d6_11) rfl (tlt (by decide : (1 : Int32) < (3 : Int32))).2.1 k))))))))))))))))))))))))) ?_
  obtain ⟨cl792, Ar792, qk792, S792, Ng792, H792, G792⟩ := id p779_1
  have hin792 := inb_of (j := (1 : Int32)) S792 ⟨by decide, by decide⟩
  obtain ⟨T793, X793, e793, st793⟩ := getF X785 hx hZ hown (host := "") (Or.inl (own_w hw (i := 64) rfl)) Via.refl e785 (Fld.ext O780 F_s_RESULTS_name) (g := (mkF m 21 #[rv so, rv r_779, iv 3, iv 1, rv (A 2)] [(.ref (A 2))])) rfl rfl (D d6_21)
  obtain ⟨T794, v794, L794, X794, q794, st794⟩ := callVi X793 hx hZ (y := own_m17) (z := own_m17) hown (own_w hw (i := 66) rfl) (own_w hw (i := 30) rfl) (notFace_of_selects (args := #[]) (mvT hZ (own_w hw (i := 32) rfl))) (own_w hw (i := 32) rfl) (own_w hw (i := 31) rfl) (own_w hw (i := 33) rfl) (own_w hw (i := 9) rfl) (by decide) (rm_eqn_results hw G so sv kg n bs ((1 : Int32)) T779.heap O780 f786 f787 f788 f789 (prem5)) e793 (W := 0) (by decide) (by decide) (by decide) (by decide) (Exa.ext O780 E_s_RESULTS_name) (g := (mkF m 25 #[rv so, rv r_779, iv 3, iv 1, rv (A 2)] [(.ref so), (.ref (A 6))])) rfl (by rw [hml]; rfl) (argsL := [(.ref so)]) (rest := []) (lenOf pd49 rfl) rfl rfl (Nat.le_of_eq rfl) (D d6_25)
  obtain ⟨rfl, e794, rfl⟩ := q794
  have N794 := Fr.app N785 (Fr.nil _)
  refine Go.of (T' := T794) (f' := (mkF m 33 #[rv so, rv r_779, iv 3, iv 1, rv (A 2)] [(.ref (A 2))])) (fun _ k => XS.aloadN X785.here hx rfl (D d6_14) rfl rfl (XS.iloadN X785.here hx rfl (D d6_15) rfl (X785.aaload hx (j := (1 : Int32)) (v := (.ref (A 2))) (by rw [e785]; exact Ar792.1) (State.isArrayOf_alike hZ.alike Ar792.2.1) rfl Ar792.2.2 hin792 (H792.at hin792 rfl) (g := (mkF m 16 #[rv so, rv r_779, iv 3, iv 1, rv (A 1)] [(.int 1), (.ref r_779)])) rfl rfl (D d6_16) _ (XS.astore X785.here hx rfl (D d6_17) rfl rfl (l' := #[rv so, rv r_779, iv 3, iv 1, rv (A 2)]) rfl (XS.aload X785.here hx rfl (D d6_19) rfl rfl (st793 _ (XS.aloadN X793.here hx rfl (D d6_24) rfl rfl (st794 _ (XS.ifNo X794.here hx rfl (D d6_28) rfl ((if0 _ _).trans (feq (by decide : ¬ ((1 : Int32) = (0 : Int32)))).1) (XS.aload X794.here hx rfl (D d6_31) rfl rfl k)))))))))) ?_
  exact Go.retA X794 hx hlk hret rfl rfl (D d6_33) (by decide) (by decide) (by rw [e794]; exact ⟨rfl, N794, K780⟩)
theorem ef_rm_named2 (m : MethodId) (so : Addr) : entryFrame m #[(.ref so)] 5 = mkF m 0 #[rv so, .unset, .unset, .unset, .unset] [] := by first | (simp [entryFrame, mkF, argsToLocals, Value.category]; done) | rfl
set_option maxRecDepth 65536 in
set_option maxHeartbeats 40000000 in
theorem rm_named2 {l : Launch} {Z : State} {a0 : Array Value} {A : Nat → Addr} {KC : Nat → Cell} {IC : Nat → Int32} {VC : Nat → Value} (hw : ∀ d ∈ tables_1, d.before a0 Z = true) (G : own_Ctx Z A KC IC VC) (so : Addr) (sv : Addr) (kg : ClassId) (n : Int32) (bs : List Int32) (h0 : Heap) (O0 : Ext Z.heap h0) (prem0 : Exa Z h0 so "java/lang/String") (prem1 : Fld Z h0 so "java/lang/String" "value" "[B" (.ref sv)) (prem2 : Fld Z h0 so "java/lang/String" "coder" "B" (.int (0 : Int32))) (prem3 : Arv Z h0 sv kg .byte n (bs.map Value.int) (.int (0 : Int32))) (prem4 : own_eq_hits n bs = 0) (prem5 : own_eq_results n bs = 0) (prem6 : own_eq_validate n bs = 1) :
    Ok l Z own_m50 prog_4_method_4_code 5 (some (.object "com/example/fair_index/fairindex/csw/ResultType")) ({ frames := 2, cells := 1, slots := 3, locals := 28 } : Room) #[(.ref so)] h0
      (fun v h L => v = some (.ref (A 3)) ∧ (Fr Z.heap.size L) ∧ (Keep h0 h [])) := by
  refine Ok.mk pn51 ?_
  intro p e s m below meth c T0 hx hby hml hown hnm hret hlk hZ e0 X0
  refine Go.cast (ef_rm_named2 m so) ?_
  obtain ⟨-, -, -, -, -, -, -, -, F_s_HITS_name, E_s_HITS_name, -, -, F_s_RESULTS_name, E_s_RESULTS_name, -, -, F_s_VALIDATE_name, E_s_VALIDATE_name, -⟩ := id G
  have D := @hb _ _ hby
  have N0 := Fr.nil Z.heap.size
  have K0 : Keep h0 h0 [] := Keep.refl _ _
  obtain ⟨T796, v796, L796, X796, q796, st796⟩ := callSt X0 hx hZ (y := own_m46) hown (own_w hw (i := 46) rfl) (own_w hw (i := 47) rfl) (own_w hw (i := 44) rfl) (own_w hw (i := 48) rfl) (by decide) (rm_values hw G   h0 O0 ) e0 (W := 0) (by decide) (by decide) (by decide) (by decide) (g := (mkF m 0 #[rv so, .unset, .unset, .unset, .unset] [])) rfl (by rw [hml]; rfl) (argsL := []) (rest := []) (lenOf pd48 rfl) rfl rfl (Nat.le_of_eq rfl) (D d6_0)
  obtain ⟨r_796, rfl, N796q, K796q, p796_0, p796_1, p796_2⟩ := q796
  have N796 := Fr.app N0 N796q
  have O797 := Old0.keep O0 K796q all0
  have K797 := Keep.trans K0 K796q all0
  have z_r_796 : h0.size ≤ r_796 := Nat.le_trans K0.1 p796_0
  have g_r_796 : Z.heap.size ≤ r_796 := Nat.le_trans O0.1 p796_0
  have ne_so_r_796 : so ≠ r_796 := Nat.ne_of_lt (Nat.lt_of_lt_of_le prem0.lt p796_0)
  have ne_sv_r_796 : sv ≠ r_796 := Nat.ne_of_lt (Nat.lt_of_lt_of_le prem3.lt p796_0)
  obtain ⟨cl798, Ar798, qk798, S798, Ng798, H798, G798⟩ := id p796_1
  obtain ⟨cl800, Ar800, qk800, S800, Ng800, H800, G800⟩ := id p796_1
  have hin800 := inb_of (j := (0 : Int32)) S800 ⟨by decide, by decide⟩
  obtain ⟨T801, X801, e801, st801⟩ := getF X796 hx hZ hown (host := "") (Or.inl (own_w hw (i := 64) rfl)) Via.refl rfl (Fld.ext O797 F_s_HITS_name) (g := (mkF m 21 #[rv so, rv r_796, iv 3, iv 0, rv (A 1)] [(.ref (A 1))])) rfl rfl (D d6_21)
  have f803 : Exa Z T796.heap so "java/lang/String" := (Exa.keep prem0 K796q)
  have f804 : Fld Z T796.heap so "java/lang/String" "value" "[B" (.ref sv) := (Fld.keep prem1 K796q nin0)
  have f805 : Fld Z T796.heap so "java/lang/String" "coder" "B" (.int 0) := (Fld.keep prem2 K796q nin0)
  have f806 : Arv Z T796.heap sv kg .byte n (bs.map Value.int) (.int 0) := (Arv.keep prem3 K796q nin0)
  obtain ⟨T802, v802, L802, X802, q802, st802⟩ := callVi X801 hx hZ (y := own_m17) (z := own_m17) hown (own_w hw (i := 66) rfl) (own_w hw (i := 30) rfl) (notFace_of_selects (args := #[]) (mvT hZ (own_w hw (i := 32) rfl))) (own_w hw (i := 32) rfl) (own_w hw (i := 31) rfl) (own_w hw (i := 33) rfl) (own_w hw (i := 9) rfl) (by decide) (rm_eqn_hits hw G so sv kg n bs ((0 : Int32)) T796.heap O797 f803 f804 f805 f806 (prem4)) e801 (W := 0) (by decide) (by decide) (by decide) (by decide) (Exa.ext O797 E_s_HITS_name) (g := (mkF m 25 #[rv so, rv r_796, iv 3, iv 0, rv (A 1)] [(.ref so), (.ref (A 4))])) rfl (by rw [hml]; rfl) (argsL := [(.ref so)]) (rest := []) (lenOf pd49 rfl) rfl rfl (Nat.le_of_eq rfl) (D d6_25)
  obtain ⟨rfl, e802, rfl⟩ := q802
  have N802 := Fr.app N796 (Fr.nil _)
  refine Go.of (T' := T802) (f' := (mkF m 14 #[rv so, rv r_796, iv 3, iv 1, rv (A 1)] [])) (fun _ k => st796 _ (XS.astoreN X796.here hx rfl (D d6_3) rfl rfl (l' := #[rv so, rv r_796, .unset, .unset, .unset]) rfl (XS.aloadN X796.here hx rfl (D d6_4) rfl rfl (X796.arraylength hx Ar798.1 (State.isArrayOf_alike hZ.alike Ar798.2.1) (g := (mkF m 5 #[rv so, rv r_796, .unset, .unset, .unset] [(.ref r_796)])) rfl rfl (D d6_5) _ (by rw [len_of S798 Ng798]; exact (XS.istoreN X796.here hx rfl (D d6_6) rfl (l' := #[rv so, rv r_796, iv 3, .unset, .unset]) rfl (XS.iconst X796.here hx rfl (D d6_7) (XS.istoreN X796.here hx rfl (D d6_8) rfl (l' := #[rv so, rv r_796, iv 3, iv 0, .unset]) rfl (XS.iloadN X796.here hx rfl (D d6_9) rfl (XS.iloadN X796.here hx rfl (D d6_10) rfl (XS.icmpNo X796.here hx rfl (D d6_11) rfl (tlt (by decide : (0 : Int32) < (3 : Int32))).2.1 (XS.aloadN X796.here hx rfl (D d6_14) rfl rfl (XS.iloadN X796.here hx rfl (D d6_15) rfl (X796.aaload hx (j := (0 : Int32)) (v := (.ref (A 1))) Ar800.1 (State.isArrayOf_alike hZ.alike Ar800.2.1) rfl Ar800.2.2 hin800 (H800.at hin800 rfl) (g := (mkF m 16 #[rv so, rv r_796, iv 3, iv 0, .unset] [(.int 0), (.ref r_796)])) rfl rfl (D d6_16) _ (XS.astore X796.here hx rfl (D d6_17) rfl rfl (l' := #[rv so, rv r_796, iv 3, iv 0, rv (A 1)]) rfl (XS.aload X796.here hx rfl (D d6_19) rfl rfl (st801 _ (XS.aloadN X801.here hx rfl (D d6_24) rfl rfl (st802 _ (XS.ifYes X802.here hx rfl (pc0 := 28) (pc' := 34) rfl (D d6_28) rfl ((if0 _ _).trans (teq (by decide : (0 : Int32) = (0 : Int32))).1) (by decide) (by decide) (XS.iinc X802.here hx rfl (D d6_34) rfl (l' := #[rv so, rv r_796, iv 3, iv 1, rv (A 1)]) rfl (XS.goto X802.here hx rfl (pc0 := 37) (pc' := 9) rfl (D d6_37) (by decide) (by decide) (XS.iloadN X802.here hx rfl (D d6_9) rfl (XS.iloadN X802.here hx rfl (D d6_10) rfl (XS.icmpNo X802.here hx rfl (D d6_11) rfl (tlt (by decide : (1 : Int32) < (3 : Int32))).2.1 k))))))))))))))))))))))))) ?_
  obtain ⟨cl809, Ar809, qk809, S809, Ng809, H809, G809⟩ := id p796_1
  have hin809 := inb_of (j := (1 : Int32)) S809 ⟨by decide, by decide⟩
  obtain ⟨T810, X810, e810, st810⟩ := getF X802 hx hZ hown (host := "") (Or.inl (own_w hw (i := 64) rfl)) Via.refl e802 (Fld.ext O797 F_s_RESULTS_name) (g := (mkF m 21 #[rv so, rv r_796, iv 3, iv 1, rv (A 2)] [(.ref (A 2))])) rfl rfl (D d6_21)
  obtain ⟨T811, v811, L811, X811, q811, st811⟩ := callVi X810 hx hZ (y := own_m17) (z := own_m17) hown (own_w hw (i := 66) rfl) (own_w hw (i := 30) rfl) (notFace_of_selects (args := #[]) (mvT hZ (own_w hw (i := 32) rfl))) (own_w hw (i := 32) rfl) (own_w hw (i := 31) rfl) (own_w hw (i := 33) rfl) (own_w hw (i := 9) rfl) (by decide) (rm_eqn_results hw G so sv kg n bs ((0 : Int32)) T796.heap O797 f803 f804 f805 f806 (prem5)) e810 (W := 0) (by decide) (by decide) (by decide) (by decide) (Exa.ext O797 E_s_RESULTS_name) (g := (mkF m 25 #[rv so, rv r_796, iv 3, iv 1, rv (A 2)] [(.ref so), (.ref (A 6))])) rfl (by rw [hml]; rfl) (argsL := [(.ref so)]) (rest := []) (lenOf pd49 rfl) rfl rfl (Nat.le_of_eq rfl) (D d6_25)
  obtain ⟨rfl, e811, rfl⟩ := q811
  have N811 := Fr.app N802 (Fr.nil _)
  obtain ⟨cl814, Ar814, qk814, S814, Ng814, H814, G814⟩ := id p796_1
  have hin814 := inb_of (j := (2 : Int32)) S814 ⟨by decide, by decide⟩
  obtain ⟨T815, X815, e815, st815⟩ := getF X811 hx hZ hown (host := "") (Or.inl (own_w hw (i := 64) rfl)) Via.refl e811 (Fld.ext O797 F_s_VALIDATE_name) (g := (mkF m 21 #[rv so, rv r_796, iv 3, iv 2, rv (A 3)] [(.ref (A 3))])) rfl rfl (D d6_21)
  obtain ⟨T816, v816, L816, X816, q816, st816⟩ := callVi X815 hx hZ (y := own_m17) (z := own_m17) hown (own_w hw (i := 66) rfl) (own_w hw (i := 30) rfl) (notFace_of_selects (args := #[]) (mvT hZ (own_w hw (i := 32) rfl))) (own_w hw (i := 32) rfl) (own_w hw (i := 31) rfl) (own_w hw (i := 33) rfl) (own_w hw (i := 9) rfl) (by decide) (rm_eqn_validate hw G so sv kg n bs ((1 : Int32)) T796.heap O797 f803 f804 f805 f806 (prem6)) e815 (W := 0) (by decide) (by decide) (by decide) (by decide) (Exa.ext O797 E_s_VALIDATE_name) (g := (mkF m 25 #[rv so, rv r_796, iv 3, iv 2, rv (A 3)] [(.ref so), (.ref (A 8))])) rfl (by rw [hml]; rfl) (argsL := [(.ref so)]) (rest := []) (lenOf pd49 rfl) rfl rfl (Nat.le_of_eq rfl) (D d6_25)
  obtain ⟨rfl, e816, rfl⟩ := q816
  have N816 := Fr.app N811 (Fr.nil _)
  refine Go.of (T' := T816) (f' := (mkF m 33 #[rv so, rv r_796, iv 3, iv 2, rv (A 3)] [(.ref (A 3))])) (fun _ k => XS.aloadN X802.here hx rfl (D d6_14) rfl rfl (XS.iloadN X802.here hx rfl (D d6_15) rfl (X802.aaload hx (j := (1 : Int32)) (v := (.ref (A 2))) (by rw [e802]; exact Ar809.1) (State.isArrayOf_alike hZ.alike Ar809.2.1) rfl Ar809.2.2 hin809 (H809.at hin809 rfl) (g := (mkF m 16 #[rv so, rv r_796, iv 3, iv 1, rv (A 1)] [(.int 1), (.ref r_796)])) rfl rfl (D d6_16) _ (XS.astore X802.here hx rfl (D d6_17) rfl rfl (l' := #[rv so, rv r_796, iv 3, iv 1, rv (A 2)]) rfl (XS.aload X802.here hx rfl (D d6_19) rfl rfl (st810 _ (XS.aloadN X810.here hx rfl (D d6_24) rfl rfl (st811 _ (XS.ifYes X811.here hx rfl (pc0 := 28) (pc' := 34) rfl (D d6_28) rfl ((if0 _ _).trans (teq (by decide : (0 : Int32) = (0 : Int32))).1) (by decide) (by decide) (XS.iinc X811.here hx rfl (D d6_34) rfl (l' := #[rv so, rv r_796, iv 3, iv 2, rv (A 2)]) rfl (XS.goto X811.here hx rfl (pc0 := 37) (pc' := 9) rfl (D d6_37) (by decide) (by decide) (XS.iloadN X811.here hx rfl (D d6_9) rfl (XS.iloadN X811.here hx rfl (D d6_10) rfl (XS.icmpNo X811.here hx rfl (D d6_11) rfl (tlt (by decide : (2 : Int32) < (3 : Int32))).2.1 (XS.aloadN X811.here hx rfl (D d6_14) rfl rfl (XS.iloadN X811.here hx rfl (D d6_15) rfl (X811.aaload hx (j := (2 : Int32)) (v := (.ref (A 3))) (by rw [e811]; exact Ar814.1) (State.isArrayOf_alike hZ.alike Ar814.2.1) rfl Ar814.2.2 hin814 (H814.at hin814 rfl) (g := (mkF m 16 #[rv so, rv r_796, iv 3, iv 2, rv (A 2)] [(.int 2), (.ref r_796)])) rfl rfl (D d6_16) _ (XS.astore X811.here hx rfl (D d6_17) rfl rfl (l' := #[rv so, rv r_796, iv 3, iv 2, rv (A 3)]) rfl (XS.aload X811.here hx rfl (D d6_19) rfl rfl (st815 _ (XS.aloadN X815.here hx rfl (D d6_24) rfl rfl (st816 _ (XS.ifNo X816.here hx rfl (D d6_28) rfl ((if0 _ _).trans (feq (by decide : ¬ ((1 : Int32) = (0 : Int32)))).1) (XS.aload X816.here hx rfl (D d6_31) rfl rfl k)))))))))))))))))))))))) ?_
  exact Go.retA X816 hx hlk hret rfl rfl (D d6_33) (by decide) (by decide) (by rw [e816]; exact ⟨rfl, N816, K797⟩)
theorem d6_40 : decode prog_4_method_4_code 40 = .ok (.aconst_null, 1) := by decide +kernel
theorem d6_41 : decode prog_4_method_4_code 41 = .ok (.areturn, 1) := by decide +kernel
theorem ef_rm_named3 (m : MethodId) (so : Addr) : entryFrame m #[(.ref so)] 5 = mkF m 0 #[rv so, .unset, .unset, .unset, .unset] [] := by first | (simp [entryFrame, mkF, argsToLocals, Value.category]; done) | rfl
set_option maxRecDepth 65536 in
set_option maxHeartbeats 40000000 in
theorem rm_named3 {l : Launch} {Z : State} {a0 : Array Value} {A : Nat → Addr} {KC : Nat → Cell} {IC : Nat → Int32} {VC : Nat → Value} (hw : ∀ d ∈ tables_1, d.before a0 Z = true) (G : own_Ctx Z A KC IC VC) (so : Addr) (sv : Addr) (kg : ClassId) (n : Int32) (bs : List Int32) (h0 : Heap) (O0 : Ext Z.heap h0) (prem0 : Exa Z h0 so "java/lang/String") (prem1 : Fld Z h0 so "java/lang/String" "value" "[B" (.ref sv)) (prem2 : Fld Z h0 so "java/lang/String" "coder" "B" (.int (0 : Int32))) (prem3 : Arv Z h0 sv kg .byte n (bs.map Value.int) (.int (0 : Int32))) (prem4 : own_eq_hits n bs = 0) (prem5 : own_eq_results n bs = 0) (prem6 : own_eq_validate n bs = 0) :
    Ok l Z own_m50 prog_4_method_4_code 5 (some (.object "com/example/fair_index/fairindex/csw/ResultType")) ({ frames := 2, cells := 1, slots := 3, locals := 28 } : Room) #[(.ref so)] h0
      (fun v h L => v = some .null ∧ (Fr Z.heap.size L) ∧ (Keep h0 h [])) := by
  refine Ok.mk pn51 ?_
  intro p e s m below meth c T0 hx hby hml hown hnm hret hlk hZ e0 X0
  refine Go.cast (ef_rm_named3 m so) ?_
  obtain ⟨-, -, -, -, -, -, -, -, F_s_HITS_name, E_s_HITS_name, -, -, F_s_RESULTS_name, E_s_RESULTS_name, -, -, F_s_VALIDATE_name, E_s_VALIDATE_name, -⟩ := id G
  have D := @hb _ _ hby
  have N0 := Fr.nil Z.heap.size
  have K0 : Keep h0 h0 [] := Keep.refl _ _
  obtain ⟨T818, v818, L818, X818, q818, st818⟩ := callSt X0 hx hZ (y := own_m46) hown (own_w hw (i := 46) rfl) (own_w hw (i := 47) rfl) (own_w hw (i := 44) rfl) (own_w hw (i := 48) rfl) (by decide) (rm_values hw G   h0 O0 ) e0 (W := 0) (by decide) (by decide) (by decide) (by decide) (g := (mkF m 0 #[rv so, .unset, .unset, .unset, .unset] [])) rfl (by rw [hml]; rfl) (argsL := []) (rest := []) (lenOf pd48 rfl) rfl rfl (Nat.le_of_eq rfl) (D d6_0)
  obtain ⟨r_818, rfl, N818q, K818q, p818_0, p818_1, p818_2⟩ := q818
  have N818 := Fr.app N0 N818q
  have O819 := Old0.keep O0 K818q all0
  have K819 := Keep.trans K0 K818q all0
  have z_r_818 : h0.size ≤ r_818 := Nat.le_trans K0.1 p818_0
  have g_r_818 : Z.heap.size ≤ r_818 := Nat.le_trans O0.1 p818_0
  have ne_so_r_818 : so ≠ r_818 := Nat.ne_of_lt (Nat.lt_of_lt_of_le prem0.lt p818_0)
  have ne_sv_r_818 : sv ≠ r_818 := Nat.ne_of_lt (Nat.lt_of_lt_of_le prem3.lt p818_0)
  obtain ⟨cl820, Ar820, qk820, S820, Ng820, H820, G820⟩ := id p818_1
  obtain ⟨cl822, Ar822, qk822, S822, Ng822, H822, G822⟩ := id p818_1
  have hin822 := inb_of (j := (0 : Int32)) S822 ⟨by decide, by decide⟩
  obtain ⟨T823, X823, e823, st823⟩ := getF X818 hx hZ hown (host := "") (Or.inl (own_w hw (i := 64) rfl)) Via.refl rfl (Fld.ext O819 F_s_HITS_name) (g := (mkF m 21 #[rv so, rv r_818, iv 3, iv 0, rv (A 1)] [(.ref (A 1))])) rfl rfl (D d6_21)
  have f825 : Exa Z T818.heap so "java/lang/String" := (Exa.keep prem0 K818q)
  have f826 : Fld Z T818.heap so "java/lang/String" "value" "[B" (.ref sv) := (Fld.keep prem1 K818q nin0)
  have f827 : Fld Z T818.heap so "java/lang/String" "coder" "B" (.int 0) := (Fld.keep prem2 K818q nin0)
  have f828 : Arv Z T818.heap sv kg .byte n (bs.map Value.int) (.int 0) := (Arv.keep prem3 K818q nin0)
  obtain ⟨T824, v824, L824, X824, q824, st824⟩ := callVi X823 hx hZ (y := own_m17) (z := own_m17) hown (own_w hw (i := 66) rfl) (own_w hw (i := 30) rfl) (notFace_of_selects (args := #[]) (mvT hZ (own_w hw (i := 32) rfl))) (own_w hw (i := 32) rfl) (own_w hw (i := 31) rfl) (own_w hw (i := 33) rfl) (own_w hw (i := 9) rfl) (by decide) (rm_eqn_hits hw G so sv kg n bs ((0 : Int32)) T818.heap O819 f825 f826 f827 f828 (prem4)) e823 (W := 0) (by decide) (by decide) (by decide) (by decide) (Exa.ext O819 E_s_HITS_name) (g := (mkF m 25 #[rv so, rv r_818, iv 3, iv 0, rv (A 1)] [(.ref so), (.ref (A 4))])) rfl (by rw [hml]; rfl) (argsL := [(.ref so)]) (rest := []) (lenOf pd49 rfl) rfl rfl (Nat.le_of_eq rfl) (D d6_25)
  obtain ⟨rfl, e824, rfl⟩ := q824
  have N824 := Fr.app N818 (Fr.nil _)
  refine Go.of (T' := T824) (f' := (mkF m 14 #[rv so, rv r_818, iv 3, iv 1, rv (A 1)] [])) (fun _ k => st818 _ (XS.astoreN X818.here hx rfl (D d6_3) rfl rfl (l' := #[rv so, rv r_818, .unset, .unset, .unset]) rfl (XS.aloadN X818.here hx rfl (D d6_4) rfl rfl (X818.arraylength hx Ar820.1 (State.isArrayOf_alike hZ.alike Ar820.2.1) (g := (mkF m 5 #[rv so, rv r_818, .unset, .unset, .unset] [(.ref r_818)])) rfl rfl (D d6_5) _ (by rw [len_of S820 Ng820]; exact (XS.istoreN X818.here hx rfl (D d6_6) rfl (l' := #[rv so, rv r_818, iv 3, .unset, .unset]) rfl (XS.iconst X818.here hx rfl (D d6_7) (XS.istoreN X818.here hx rfl (D d6_8) rfl (l' := #[rv so, rv r_818, iv 3, iv 0, .unset]) rfl (XS.iloadN X818.here hx rfl (D d6_9) rfl (XS.iloadN X818.here hx rfl (D d6_10) rfl (XS.icmpNo X818.here hx rfl (D d6_11) rfl (tlt (by decide : (0 : Int32) < (3 : Int32))).2.1 (XS.aloadN X818.here hx rfl (D d6_14) rfl rfl (XS.iloadN X818.here hx rfl (D d6_15) rfl (X818.aaload hx (j := (0 : Int32)) (v := (.ref (A 1))) Ar822.1 (State.isArrayOf_alike hZ.alike Ar822.2.1) rfl Ar822.2.2 hin822 (H822.at hin822 rfl) (g := (mkF m 16 #[rv so, rv r_818, iv 3, iv 0, .unset] [(.int 0), (.ref r_818)])) rfl rfl (D d6_16) _ (XS.astore X818.here hx rfl (D d6_17) rfl rfl (l' := #[rv so, rv r_818, iv 3, iv 0, rv (A 1)]) rfl (XS.aload X818.here hx rfl (D d6_19) rfl rfl (st823 _ (XS.aloadN X823.here hx rfl (D d6_24) rfl rfl (st824 _ (XS.ifYes X824.here hx rfl (pc0 := 28) (pc' := 34) rfl (D d6_28) rfl ((if0 _ _).trans (teq (by decide : (0 : Int32) = (0 : Int32))).1) (by decide) (by decide) (XS.iinc X824.here hx rfl (D d6_34) rfl (l' := #[rv so, rv r_818, iv 3, iv 1, rv (A 1)]) rfl (XS.goto X824.here hx rfl (pc0 := 37) (pc' := 9) rfl (D d6_37) (by decide) (by decide) (XS.iloadN X824.here hx rfl (D d6_9) rfl (XS.iloadN X824.here hx rfl (D d6_10) rfl (XS.icmpNo X824.here hx rfl (D d6_11) rfl (tlt (by decide : (1 : Int32) < (3 : Int32))).2.1 k))))))))))))))))))))))))) ?_
  obtain ⟨cl831, Ar831, qk831, S831, Ng831, H831, G831⟩ := id p818_1
  have hin831 := inb_of (j := (1 : Int32)) S831 ⟨by decide, by decide⟩
  obtain ⟨T832, X832, e832, st832⟩ := getF X824 hx hZ hown (host := "") (Or.inl (own_w hw (i := 64) rfl)) Via.refl e824 (Fld.ext O819 F_s_RESULTS_name) (g := (mkF m 21 #[rv so, rv r_818, iv 3, iv 1, rv (A 2)] [(.ref (A 2))])) rfl rfl (D d6_21)
  obtain ⟨T833, v833, L833, X833, q833, st833⟩ := callVi X832 hx hZ (y := own_m17) (z := own_m17) hown (own_w hw (i := 66) rfl) (own_w hw (i := 30) rfl) (notFace_of_selects (args := #[]) (mvT hZ (own_w hw (i := 32) rfl))) (own_w hw (i := 32) rfl) (own_w hw (i := 31) rfl) (own_w hw (i := 33) rfl) (own_w hw (i := 9) rfl) (by decide) (rm_eqn_results hw G so sv kg n bs ((0 : Int32)) T818.heap O819 f825 f826 f827 f828 (prem5)) e832 (W := 0) (by decide) (by decide) (by decide) (by decide) (Exa.ext O819 E_s_RESULTS_name) (g := (mkF m 25 #[rv so, rv r_818, iv 3, iv 1, rv (A 2)] [(.ref so), (.ref (A 6))])) rfl (by rw [hml]; rfl) (argsL := [(.ref so)]) (rest := []) (lenOf pd49 rfl) rfl rfl (Nat.le_of_eq rfl) (D d6_25)
  obtain ⟨rfl, e833, rfl⟩ := q833
  have N833 := Fr.app N824 (Fr.nil _)
  obtain ⟨cl836, Ar836, qk836, S836, Ng836, H836, G836⟩ := id p818_1
  have hin836 := inb_of (j := (2 : Int32)) S836 ⟨by decide, by decide⟩
  obtain ⟨T837, X837, e837, st837⟩ := getF X833 hx hZ hown (host := "") (Or.inl (own_w hw (i := 64) rfl)) Via.refl e833 (Fld.ext O819 F_s_VALIDATE_name) (g := (mkF m 21 #[rv so, rv r_818, iv 3, iv 2, rv (A 3)] [(.ref (A 3))])) rfl rfl (D d6_21)
  obtain ⟨T838, v838, L838, X838, q838, st838⟩ := callVi X837 hx hZ (y := own_m17) (z := own_m17) hown (own_w hw (i := 66) rfl) (own_w hw (i := 30) rfl) (notFace_of_selects (args := #[]) (mvT hZ (own_w hw (i := 32) rfl))) (own_w hw (i := 32) rfl) (own_w hw (i := 31) rfl) (own_w hw (i := 33) rfl) (own_w hw (i := 9) rfl) (by decide) (rm_eqn_validate hw G so sv kg n bs ((0 : Int32)) T818.heap O819 f825 f826 f827 f828 (prem6)) e837 (W := 0) (by decide) (by decide) (by decide) (by decide) (Exa.ext O819 E_s_VALIDATE_name) (g := (mkF m 25 #[rv so, rv r_818, iv 3, iv 2, rv (A 3)] [(.ref so), (.ref (A 8))])) rfl (by rw [hml]; rfl) (argsL := [(.ref so)]) (rest := []) (lenOf pd49 rfl) rfl rfl (Nat.le_of_eq rfl) (D d6_25)
  obtain ⟨rfl, e838, rfl⟩ := q838
  have N838 := Fr.app N833 (Fr.nil _)
  refine Go.of (T' := T838) (f' := (mkF m 37 #[rv so, rv r_818, iv 3, iv 3, rv (A 3)] [])) (fun _ k => XS.aloadN X824.here hx rfl (D d6_14) rfl rfl (XS.iloadN X824.here hx rfl (D d6_15) rfl (X824.aaload hx (j := (1 : Int32)) (v := (.ref (A 2))) (by rw [e824]; exact Ar831.1) (State.isArrayOf_alike hZ.alike Ar831.2.1) rfl Ar831.2.2 hin831 (H831.at hin831 rfl) (g := (mkF m 16 #[rv so, rv r_818, iv 3, iv 1, rv (A 1)] [(.int 1), (.ref r_818)])) rfl rfl (D d6_16) _ (XS.astore X824.here hx rfl (D d6_17) rfl rfl (l' := #[rv so, rv r_818, iv 3, iv 1, rv (A 2)]) rfl (XS.aload X824.here hx rfl (D d6_19) rfl rfl (st832 _ (XS.aloadN X832.here hx rfl (D d6_24) rfl rfl (st833 _ (XS.ifYes X833.here hx rfl (pc0 := 28) (pc' := 34) rfl (D d6_28) rfl ((if0 _ _).trans (teq (by decide : (0 : Int32) = (0 : Int32))).1) (by decide) (by decide) (XS.iinc X833.here hx rfl (D d6_34) rfl (l' := #[rv so, rv r_818, iv 3, iv 2, rv (A 2)]) rfl (XS.goto X833.here hx rfl (pc0 := 37) (pc' := 9) rfl (D d6_37) (by decide) (by decide) (XS.iloadN X833.here hx rfl (D d6_9) rfl (XS.iloadN X833.here hx rfl (D d6_10) rfl (XS.icmpNo X833.here hx rfl (D d6_11) rfl (tlt (by decide : (2 : Int32) < (3 : Int32))).2.1 (XS.aloadN X833.here hx rfl (D d6_14) rfl rfl (XS.iloadN X833.here hx rfl (D d6_15) rfl (X833.aaload hx (j := (2 : Int32)) (v := (.ref (A 3))) (by rw [e833]; exact Ar836.1) (State.isArrayOf_alike hZ.alike Ar836.2.1) rfl Ar836.2.2 hin836 (H836.at hin836 rfl) (g := (mkF m 16 #[rv so, rv r_818, iv 3, iv 2, rv (A 2)] [(.int 2), (.ref r_818)])) rfl rfl (D d6_16) _ (XS.astore X833.here hx rfl (D d6_17) rfl rfl (l' := #[rv so, rv r_818, iv 3, iv 2, rv (A 3)]) rfl (XS.aload X833.here hx rfl (D d6_19) rfl rfl (st837 _ (XS.aloadN X837.here hx rfl (D d6_24) rfl rfl (st838 _ (XS.ifYes X838.here hx rfl (pc0 := 28) (pc' := 34) rfl (D d6_28) rfl ((if0 _ _).trans (teq (by decide : (0 : Int32) = (0 : Int32))).1) (by decide) (by decide) (XS.iinc X838.here hx rfl (D d6_34) rfl (l' := #[rv so, rv r_818, iv 3, iv 3, rv (A 3)]) rfl k)))))))))))))))))))))))) ?_
  refine Go.of (T' := T838) (f' := (mkF m 41 #[rv so, rv r_818, iv 3, iv 3, rv (A 3)] [.null])) (fun _ k => XS.goto X838.here hx rfl (pc0 := 37) (pc' := 9) rfl (D d6_37) (by decide) (by decide) (XS.iloadN X838.here hx rfl (D d6_9) rfl (XS.iloadN X838.here hx rfl (D d6_10) rfl (XS.icmpYes X838.here hx rfl (pc0 := 11) (pc' := 40) rfl (D d6_11) rfl (flt (by decide : ¬ ((3 : Int32) < (3 : Int32)))).2.1 (by decide) (by decide) (XS.aconstNull X838.here hx rfl (D d6_40) k))))) ?_
  exact Go.retA X838 hx hlk hret rfl rfl (D d6_41) (by decide) (by decide) (by rw [e838]; exact ⟨rfl, N838, K819⟩)
theorem ef_rm_namedz (m : MethodId)  : entryFrame m #[.null] 5 = mkF m 0 #[.val .null, .unset, .unset, .unset, .unset] [] := by first | (simp [entryFrame, mkF, argsToLocals, Value.category]; done) | rfl
set_option maxRecDepth 65536 in
set_option maxHeartbeats 40000000 in
theorem rm_namedz {l : Launch} {Z : State} {a0 : Array Value} {A : Nat → Addr} {KC : Nat → Cell} {IC : Nat → Int32} {VC : Nat → Value} (hw : ∀ d ∈ tables_1, d.before a0 Z = true) (G : own_Ctx Z A KC IC VC)   (h0 : Heap) (O0 : Ext Z.heap h0)  :
    Ok l Z own_m50 prog_4_method_4_code 5 (some (.object "com/example/fair_index/fairindex/csw/ResultType")) ({ frames := 2, cells := 1, slots := 3, locals := 25 } : Room) #[.null] h0
      (fun v h L => v = some .null ∧ (Fr Z.heap.size L) ∧ (Keep h0 h [])) := by
  refine Ok.mk pn51 ?_
  intro p e s m below meth c T0 hx hby hml hown hnm hret hlk hZ e0 X0
  refine Go.cast (ef_rm_namedz m ) ?_
  obtain ⟨-, -, -, -, -, -, -, -, F_s_HITS_name, E_s_HITS_name, -, -, F_s_RESULTS_name, E_s_RESULTS_name, -, -, F_s_VALIDATE_name, E_s_VALIDATE_name, -⟩ := id G
  have D := @hb _ _ hby
  have N0 := Fr.nil Z.heap.size
  have K0 : Keep h0 h0 [] := Keep.refl _ _
  obtain ⟨T841, v841, L841, X841, q841, st841⟩ := callSt X0 hx hZ (y := own_m46) hown (own_w hw (i := 46) rfl) (own_w hw (i := 47) rfl) (own_w hw (i := 44) rfl) (own_w hw (i := 48) rfl) (by decide) (rm_values hw G   h0 O0 ) e0 (W := 0) (by decide) (by decide) (by decide) (by decide) (g := (mkF m 0 #[.val .null, .unset, .unset, .unset, .unset] [])) rfl (by rw [hml]; rfl) (argsL := []) (rest := []) (lenOf pd48 rfl) rfl rfl (Nat.le_of_eq rfl) (D d6_0)
  obtain ⟨r_841, rfl, N841q, K841q, p841_0, p841_1, p841_2⟩ := q841
  have N841 := Fr.app N0 N841q
  have O842 := Old0.keep O0 K841q all0
  have K842 := Keep.trans K0 K841q all0
  have z_r_841 : h0.size ≤ r_841 := Nat.le_trans K0.1 p841_0
  have g_r_841 : Z.heap.size ≤ r_841 := Nat.le_trans O0.1 p841_0
  obtain ⟨cl843, Ar843, qk843, S843, Ng843, H843, G843⟩ := id p841_1
  obtain ⟨cl845, Ar845, qk845, S845, Ng845, H845, G845⟩ := id p841_1
  have hin845 := inb_of (j := (0 : Int32)) S845 ⟨by decide, by decide⟩
  obtain ⟨T846, X846, e846, st846⟩ := getF X841 hx hZ hown (host := "") (Or.inl (own_w hw (i := 64) rfl)) Via.refl rfl (Fld.ext O842 F_s_HITS_name) (g := (mkF m 21 #[.val .null, rv r_841, iv 3, iv 0, rv (A 1)] [(.ref (A 1))])) rfl rfl (D d6_21)
  obtain ⟨T847, v847, L847, X847, q847, st847⟩ := callVi X846 hx hZ (y := own_m17) (z := own_m17) hown (own_w hw (i := 66) rfl) (own_w hw (i := 30) rfl) (notFace_of_selects (args := #[]) (mvT hZ (own_w hw (i := 32) rfl))) (own_w hw (i := 32) rfl) (own_w hw (i := 31) rfl) (own_w hw (i := 33) rfl) (own_w hw (i := 9) rfl) (by decide) (rm_eqz_hits hw G   T841.heap O842 ) e846 (W := 0) (by decide) (by decide) (by decide) (by decide) (Exa.ext O842 E_s_HITS_name) (g := (mkF m 25 #[.val .null, rv r_841, iv 3, iv 0, rv (A 1)] [.null, (.ref (A 4))])) rfl (by rw [hml]; rfl) (argsL := [.null]) (rest := []) (lenOf pd49 rfl) rfl rfl (Nat.le_of_eq rfl) (D d6_25)
  obtain ⟨rfl, e847, rfl⟩ := q847
  have N847 := Fr.app N841 (Fr.nil _)
  refine Go.of (T' := T847) (f' := (mkF m 14 #[.val .null, rv r_841, iv 3, iv 1, rv (A 1)] [])) (fun _ k => st841 _ (XS.astoreN X841.here hx rfl (D d6_3) rfl rfl (l' := #[.val .null, rv r_841, .unset, .unset, .unset]) rfl (XS.aloadN X841.here hx rfl (D d6_4) rfl rfl (X841.arraylength hx Ar843.1 (State.isArrayOf_alike hZ.alike Ar843.2.1) (g := (mkF m 5 #[.val .null, rv r_841, .unset, .unset, .unset] [(.ref r_841)])) rfl rfl (D d6_5) _ (by rw [len_of S843 Ng843]; exact (XS.istoreN X841.here hx rfl (D d6_6) rfl (l' := #[.val .null, rv r_841, iv 3, .unset, .unset]) rfl (XS.iconst X841.here hx rfl (D d6_7) (XS.istoreN X841.here hx rfl (D d6_8) rfl (l' := #[.val .null, rv r_841, iv 3, iv 0, .unset]) rfl (XS.iloadN X841.here hx rfl (D d6_9) rfl (XS.iloadN X841.here hx rfl (D d6_10) rfl (XS.icmpNo X841.here hx rfl (D d6_11) rfl (tlt (by decide : (0 : Int32) < (3 : Int32))).2.1 (XS.aloadN X841.here hx rfl (D d6_14) rfl rfl (XS.iloadN X841.here hx rfl (D d6_15) rfl (X841.aaload hx (j := (0 : Int32)) (v := (.ref (A 1))) Ar845.1 (State.isArrayOf_alike hZ.alike Ar845.2.1) rfl Ar845.2.2 hin845 (H845.at hin845 rfl) (g := (mkF m 16 #[.val .null, rv r_841, iv 3, iv 0, .unset] [(.int 0), (.ref r_841)])) rfl rfl (D d6_16) _ (XS.astore X841.here hx rfl (D d6_17) rfl rfl (l' := #[.val .null, rv r_841, iv 3, iv 0, rv (A 1)]) rfl (XS.aload X841.here hx rfl (D d6_19) rfl rfl (st846 _ (XS.aloadN X846.here hx rfl (D d6_24) rfl rfl (st847 _ (XS.ifYes X847.here hx rfl (pc0 := 28) (pc' := 34) rfl (D d6_28) rfl ((if0 _ _).trans (teq (by decide : (0 : Int32) = (0 : Int32))).1) (by decide) (by decide) (XS.iinc X847.here hx rfl (D d6_34) rfl (l' := #[.val .null, rv r_841, iv 3, iv 1, rv (A 1)]) rfl (XS.goto X847.here hx rfl (pc0 := 37) (pc' := 9) rfl (D d6_37) (by decide) (by decide) (XS.iloadN X847.here hx rfl (D d6_9) rfl (XS.iloadN X847.here hx rfl (D d6_10) rfl (XS.icmpNo X847.here hx rfl (D d6_11) rfl (tlt (by decide : (1 : Int32) < (3 : Int32))).2.1 k))))))))))))))))))))))))) ?_
  obtain ⟨cl850, Ar850, qk850, S850, Ng850, H850, G850⟩ := id p841_1
  have hin850 := inb_of (j := (1 : Int32)) S850 ⟨by decide, by decide⟩
  obtain ⟨T851, X851, e851, st851⟩ := getF X847 hx hZ hown (host := "") (Or.inl (own_w hw (i := 64) rfl)) Via.refl e847 (Fld.ext O842 F_s_RESULTS_name) (g := (mkF m 21 #[.val .null, rv r_841, iv 3, iv 1, rv (A 2)] [(.ref (A 2))])) rfl rfl (D d6_21)
  obtain ⟨T852, v852, L852, X852, q852, st852⟩ := callVi X851 hx hZ (y := own_m17) (z := own_m17) hown (own_w hw (i := 66) rfl) (own_w hw (i := 30) rfl) (notFace_of_selects (args := #[]) (mvT hZ (own_w hw (i := 32) rfl))) (own_w hw (i := 32) rfl) (own_w hw (i := 31) rfl) (own_w hw (i := 33) rfl) (own_w hw (i := 9) rfl) (by decide) (rm_eqz_results hw G   T841.heap O842 ) e851 (W := 0) (by decide) (by decide) (by decide) (by decide) (Exa.ext O842 E_s_RESULTS_name) (g := (mkF m 25 #[.val .null, rv r_841, iv 3, iv 1, rv (A 2)] [.null, (.ref (A 6))])) rfl (by rw [hml]; rfl) (argsL := [.null]) (rest := []) (lenOf pd49 rfl) rfl rfl (Nat.le_of_eq rfl) (D d6_25)
  obtain ⟨rfl, e852, rfl⟩ := q852
  have N852 := Fr.app N847 (Fr.nil _)
  obtain ⟨cl855, Ar855, qk855, S855, Ng855, H855, G855⟩ := id p841_1
  have hin855 := inb_of (j := (2 : Int32)) S855 ⟨by decide, by decide⟩
  obtain ⟨T856, X856, e856, st856⟩ := getF X852 hx hZ hown (host := "") (Or.inl (own_w hw (i := 64) rfl)) Via.refl e852 (Fld.ext O842 F_s_VALIDATE_name) (g := (mkF m 21 #[.val .null, rv r_841, iv 3, iv 2, rv (A 3)] [(.ref (A 3))])) rfl rfl (D d6_21)
  obtain ⟨T857, v857, L857, X857, q857, st857⟩ := callVi X856 hx hZ (y := own_m17) (z := own_m17) hown (own_w hw (i := 66) rfl) (own_w hw (i := 30) rfl) (notFace_of_selects (args := #[]) (mvT hZ (own_w hw (i := 32) rfl))) (own_w hw (i := 32) rfl) (own_w hw (i := 31) rfl) (own_w hw (i := 33) rfl) (own_w hw (i := 9) rfl) (by decide) (rm_eqz_validate hw G   T841.heap O842 ) e856 (W := 0) (by decide) (by decide) (by decide) (by decide) (Exa.ext O842 E_s_VALIDATE_name) (g := (mkF m 25 #[.val .null, rv r_841, iv 3, iv 2, rv (A 3)] [.null, (.ref (A 8))])) rfl (by rw [hml]; rfl) (argsL := [.null]) (rest := []) (lenOf pd49 rfl) rfl rfl (Nat.le_of_eq rfl) (D d6_25)
  obtain ⟨rfl, e857, rfl⟩ := q857
  have N857 := Fr.app N852 (Fr.nil _)
  refine Go.of (T' := T857) (f' := (mkF m 37 #[.val .null, rv r_841, iv 3, iv 3, rv (A 3)] [])) (fun _ k => XS.aloadN X847.here hx rfl (D d6_14) rfl rfl (XS.iloadN X847.here hx rfl (D d6_15) rfl (X847.aaload hx (j := (1 : Int32)) (v := (.ref (A 2))) (by rw [e847]; exact Ar850.1) (State.isArrayOf_alike hZ.alike Ar850.2.1) rfl Ar850.2.2 hin850 (H850.at hin850 rfl) (g := (mkF m 16 #[.val .null, rv r_841, iv 3, iv 1, rv (A 1)] [(.int 1), (.ref r_841)])) rfl rfl (D d6_16) _ (XS.astore X847.here hx rfl (D d6_17) rfl rfl (l' := #[.val .null, rv r_841, iv 3, iv 1, rv (A 2)]) rfl (XS.aload X847.here hx rfl (D d6_19) rfl rfl (st851 _ (XS.aloadN X851.here hx rfl (D d6_24) rfl rfl (st852 _ (XS.ifYes X852.here hx rfl (pc0 := 28) (pc' := 34) rfl (D d6_28) rfl ((if0 _ _).trans (teq (by decide : (0 : Int32) = (0 : Int32))).1) (by decide) (by decide) (XS.iinc X852.here hx rfl (D d6_34) rfl (l' := #[.val .null, rv r_841, iv 3, iv 2, rv (A 2)]) rfl (XS.goto X852.here hx rfl (pc0 := 37) (pc' := 9) rfl (D d6_37) (by decide) (by decide) (XS.iloadN X852.here hx rfl (D d6_9) rfl (XS.iloadN X852.here hx rfl (D d6_10) rfl (XS.icmpNo X852.here hx rfl (D d6_11) rfl (tlt (by decide : (2 : Int32) < (3 : Int32))).2.1 (XS.aloadN X852.here hx rfl (D d6_14) rfl rfl (XS.iloadN X852.here hx rfl (D d6_15) rfl (X852.aaload hx (j := (2 : Int32)) (v := (.ref (A 3))) (by rw [e852]; exact Ar855.1) (State.isArrayOf_alike hZ.alike Ar855.2.1) rfl Ar855.2.2 hin855 (H855.at hin855 rfl) (g := (mkF m 16 #[.val .null, rv r_841, iv 3, iv 2, rv (A 2)] [(.int 2), (.ref r_841)])) rfl rfl (D d6_16) _ (XS.astore X852.here hx rfl (D d6_17) rfl rfl (l' := #[.val .null, rv r_841, iv 3, iv 2, rv (A 3)]) rfl (XS.aload X852.here hx rfl (D d6_19) rfl rfl (st856 _ (XS.aloadN X856.here hx rfl (D d6_24) rfl rfl (st857 _ (XS.ifYes X857.here hx rfl (pc0 := 28) (pc' := 34) rfl (D d6_28) rfl ((if0 _ _).trans (teq (by decide : (0 : Int32) = (0 : Int32))).1) (by decide) (by decide) (XS.iinc X857.here hx rfl (D d6_34) rfl (l' := #[.val .null, rv r_841, iv 3, iv 3, rv (A 3)]) rfl k)))))))))))))))))))))))) ?_
  refine Go.of (T' := T857) (f' := (mkF m 41 #[.val .null, rv r_841, iv 3, iv 3, rv (A 3)] [.null])) (fun _ k => XS.goto X857.here hx rfl (pc0 := 37) (pc' := 9) rfl (D d6_37) (by decide) (by decide) (XS.iloadN X857.here hx rfl (D d6_9) rfl (XS.iloadN X857.here hx rfl (D d6_10) rfl (XS.icmpYes X857.here hx rfl (pc0 := 11) (pc' := 40) rfl (D d6_11) rfl (flt (by decide : ¬ ((3 : Int32) < (3 : Int32)))).2.1 (by decide) (by decide) (XS.aconstNull X857.here hx rfl (D d6_40) k))))) ?_
  exact Go.retA X857 hx hlk hret rfl rfl (D d6_41) (by decide) (by decide) (by rw [e857]; exact ⟨rfl, N857, K842⟩)
theorem pd52 : parseMethodDescriptor "(Ljava/lang/String;)Lcom/example/fair_index/fairindex/csw/ResultType;" = some ⟨[(.object "java/lang/String")], some (.object "com/example/fair_index/fairindex/csw/ResultType")⟩ := by decide +kernel
set_option maxRecDepth 65536 in
set_option maxHeartbeats 40000000 in
theorem rm_tail {l : Launch} {Z : State} {a0 : Array Value} {A : Nat → Addr} {KC : Nat → Cell} {IC : Nat → Int32} {VC : Nat → Value} (hw : ∀ d ∈ tables_1, d.before a0 Z = true) (G : own_Ctx Z A KC IC VC) {p : Program} {e : Env} {s : State} {m : MethodId} {below : List Frame} {meth : Method} {c : Code} {T0 : State} {vm0 : Vm} {h0 : Heap} {k0 : Nat} {locs0 : List Loc} (p0 : Int32) (p1 : Int64) (p2 : Int64) (da0 : Addr) (ln : Int32) (so : Addr) (sv : Addr) (kg : ClassId) (n : Int32) (bs : List Int32) {s6 : Slot} (h_s6 : One s6) {s8 : Slot} (h_s8 : One s8) {s9 : Slot} (h_s9 : One s9) {s10 : Slot} (h_s10 : One s10)
    (hx : p.tables.exec = Jvm.exec) (hby : c.code = code) (hml : c.maxLocals = 11) (hown : vm0.findClass "com/example/fair_index/fairindex/csw/ResultTypeNamedPinLaw" = some m.cls) (hret : meth.sig.returnType = ret) (hlk : meth.locks = false) (hZ : Z.Warmed39 vm0) (hS : s.Since vm0 k0) (hk : k0 ≤ h0.size) (C0 : CHr Z own_EL s.vm s.heap vm0 h0) (e0 : T0.heap = h0) (X0 : Stand p l e room_1 (s.setVm vm0) m #[(.int p0), (.long p1), (.long p2)] below meth c T0 locs0 20 512) (N0 : Fr Z.heap.size locs0) (O0 : Ext Z.heap h0) (prem0 : Exa Z h0 so "java/lang/String") (prem1 : Fld Z h0 so "java/lang/String" "value" "[B" (.ref sv)) (prem2 : Fld Z h0 so "java/lang/String" "coder" "B" (.int (0 : Int32))) (prem3 : Arv Z h0 sv kg .byte n (bs.map Value.int) (.int (0 : Int32)))  :
    GoS p e s below room_1 Z own_EL (fun v h L => v = some (.int (1 : Int32)) ∧ (Fr Z.heap.size L)) T0 (mkF m 341 #[iv p0, .val (.long p1), .second, .val (.long p2), .second, rv da0, s6, iv ln, s8, s9, s10] [(.ref so)]) := by
  have hEL := own_EW hw
  have D := @hb _ _ hby
  obtain ⟨-, -, S_HITS, -, S_RESULTS, -, S_VALIDATE, -⟩ := id G
  have K0 : Keep h0 h0 [] := Keep.refl _ _
  by_cases hq0 : own_eq_hits n bs = 1
  · skip
    have hv0 : own_eq_hits n bs = 1 := hq0
    have hv1 : own_eq_results n bs = 0 := own_ex_hits_results hq0
    have hv2 : own_eq_validate n bs = 0 := own_ex_hits_validate hq0
    refine GoS.of (T' := T0) (f' := (mkF m 356 #[iv p0, .val (.long p1), .second, .val (.long p2), .second, rv da0, s6, iv ln, rv so, s9, s10] [(.ref so)])) (fun _ k => XS.astore X0.here hx rfl (D at_341) rfl rfl (l' := #[iv p0, .val (.long p1), .second, .val (.long p2), .second, rv da0, s6, iv ln, rv so, s9, s10]) (XS.store1 (o := s8) rfl h_s8 rfl) (XS.aload X0.here hx rfl (D at_343) rfl rfl (XS.ifnonnullYes X0.here hx rfl (pc0 := 345) (pc' := 354) rfl (D at_345) rfl (by decide) (by decide) (XS.aload X0.here hx rfl (D at_354) rfl rfl k)))) ?_
    obtain ⟨c860, T860, h860, k1860, v860, kc860, X860, e860, E860, hS, hk860, hZ, hown, A860, Fc860, Fv860, V860, -, -, Cq860, -, sn860, st860⟩ := ldcCH X0 hx hZ hown (own_w hw (i := 28) rfl) (own_wS hw) e0 hS hk hEL (by decide) C0.1 (vs := [(.int 104), (.int 105), (.int 116), (.int 115)]) (z := (4 : Int32)) ⟨by decide +kernel, by decide +kernel⟩ (by decide) rfl (g := (mkF m 356 #[iv p0, .val (.long p1), .second, .val (.long p2), .second, rv da0, s6, iv ln, rv so, s9, s10] [(.ref so)])) rfl (D at_356) (n := 16) (by decide +kernel) (by decide) (by decide) (by decide)
    have O860 := Old0.ext O0 E860
    have C860 := CHr.trans C0 Cq860
    have hk := hk860
    have f862 : Exa Z h860 so "java/lang/String" := (Exa.ext E860 prem0)
    have f863 : Fld Z h860 so "java/lang/String" "value" "[B" (.ref sv) := (Fld.ext E860 prem1)
    have f864 : Fld Z h860 so "java/lang/String" "coder" "B" (.int 0) := (Fld.ext E860 prem2)
    have f865 : Arv Z h860 sv kg .byte n (bs.map Value.int) (.int 0) := (Arv.ext prem3 E860)
    obtain ⟨T861, v861, L861, X861, q861, st861⟩ := callVi X860 hx hZ (y := own_m17) (z := own_m17) hown (own_w hw (i := 29) rfl) (own_w hw (i := 30) rfl) (notFace_of_selects (args := #[]) (mvT hZ (own_w hw (i := 32) rfl))) (own_w hw (i := 32) rfl) (own_w hw (i := 31) rfl) (own_w hw (i := 33) rfl) (own_w hw (i := 9) rfl) (by decide) (rm_eqg_hits hw G so c860 sv kg n bs v860 kc860 ((1 : Int32)) h860 O860 f862 f863 f864 f865 A860 Fc860 Fv860 V860 (hv0)) e860 (W := 0) (by decide) (by decide) (by decide) (by decide) f862 (g := (mkF m 358 #[iv p0, .val (.long p1), .second, .val (.long p2), .second, rv da0, s6, iv ln, rv so, s9, s10] [(.ref c860), (.ref so)])) rfl (by rw [hml]; rfl) (argsL := [(.ref c860)]) (rest := []) (lenOf pd49 rfl) rfl rfl (Nat.le_of_eq rfl) (D at_358)
    obtain ⟨rfl, e861, rfl⟩ := q861
    have N861 := Fr.app N0 (Fr.nil _)
    obtain ⟨T867, X867, e867, st867⟩ := getS2 X861 hx hZ hown (host := "") (Or.inl (own_w hw (i := 117) rfl)) Via.refl e861 (Sta.ext O860 S_HITS) (g := (mkF m 364 #[iv p0, .val (.long p1), .second, .val (.long p2), .second, rv da0, s6, iv ln, rv so, s9, s10] [])) rfl (D at_364)
    obtain ⟨T868, v868, L868, X868, q868, st868⟩ := callSt X867 hx hZ (y := own_m50) hown (own_w hw (i := 42) rfl) (own_w hw (i := 43) rfl) (own_w hw (i := 44) rfl) (own_w hw (i := 45) rfl) (by decide) (rm_named0 hw G so sv kg n bs h860 O860 f862 f863 f864 f865 (hv0) (hv1) (hv2)) e867 (W := 0) (by decide) (by decide) (by decide) (by decide) (g := (mkF m 413 #[iv p0, .val (.long p1), .second, .val (.long p2), .second, rv da0, s6, iv ln, rv so, rv (A 1), s10] [(.ref so)])) rfl (by rw [hml]; rfl) (argsL := [(.ref so)]) (rest := []) (lenOf pd52 rfl) rfl rfl (Nat.le_of_eq rfl) (D at_413)
    obtain ⟨rfl, N868q, K868q⟩ := q868
    have N868 := Fr.app N861 N868q
    have O870 := Old0.keep O860 K868q all0
    have C869 := CHr.trans C860 (CHr.keep K868q sf0 C860.1)
    have hk := Nat.le_trans hk K868q.1
    refine GoS.of (T' := T868) (f' := (mkF m 426 #[iv p0, .val (.long p1), .second, .val (.long p2), .second, rv da0, s6, iv ln, rv so, rv (A 1), s10] [(.int 1)])) (fun _ k => st860 _ (st861 _ (XS.ifNo X861.here hx rfl (D at_361) rfl ((if0 _ _).trans (feq (by decide : ¬ ((1 : Int32) = (0 : Int32)))).1) (st867 _ (XS.astore X867.here hx rfl (D at_367) rfl rfl (l' := #[iv p0, .val (.long p1), .second, .val (.long p2), .second, rv da0, s6, iv ln, rv so, rv (A 1), s10]) (XS.store1 (o := s9) rfl h_s9 rfl) (XS.goto X867.here hx rfl (pc0 := 369) (pc' := 411) rfl (D at_369) (by decide) (by decide) (XS.aload X867.here hx rfl (D at_411) rfl rfl (st868 _ (XS.aload X868.here hx rfl (D at_416) rfl rfl (Jvm.RoadKit.acmp (g := (mkF m 418 #[iv p0, .val (.long p1), .second, .val (.long p2), .second, rv da0, s6, iv ln, rv so, rv (A 1), s10] [(.ref (A 1)), (.ref (A 1))])) X868 hx rfl rfl rfl (pc0 := 418) (pc' := 421) (same := true) rfl (D at_418) rfl (decide_eq_true rfl) (by decide) (by decide) (XS.iconst X868.here hx rfl (D at_421) (XS.goto X868.here hx rfl (pc0 := 422) (pc' := 426) rfl (D at_422) (by decide) (by decide) k)))))))))))) ?_
    exact GoS.retB X868 hx hlk hS hk hZ hEL C869 rfl hret (by simp) (D at_426) (by decide) (by decide) (z' := (1 : Int32)) rfl ⟨rfl, N868⟩
  by_cases hq1 : own_eq_results n bs = 1
  · skip
    have hv0 : own_eq_hits n bs = 0 := own_ex_results_hits hq1
    have hv1 : own_eq_results n bs = 1 := hq1
    have hv2 : own_eq_validate n bs = 0 := own_ex_results_validate hq1
    refine GoS.of (T' := T0) (f' := (mkF m 356 #[iv p0, .val (.long p1), .second, .val (.long p2), .second, rv da0, s6, iv ln, rv so, s9, s10] [(.ref so)])) (fun _ k => XS.astore X0.here hx rfl (D at_341) rfl rfl (l' := #[iv p0, .val (.long p1), .second, .val (.long p2), .second, rv da0, s6, iv ln, rv so, s9, s10]) (XS.store1 (o := s8) rfl h_s8 rfl) (XS.aload X0.here hx rfl (D at_343) rfl rfl (XS.ifnonnullYes X0.here hx rfl (pc0 := 345) (pc' := 354) rfl (D at_345) rfl (by decide) (by decide) (XS.aload X0.here hx rfl (D at_354) rfl rfl k)))) ?_
    obtain ⟨c872, T872, h872, k1872, v872, kc872, X872, e872, E872, hS, hk872, hZ, hown, A872, Fc872, Fv872, V872, -, -, Cq872, -, sn872, st872⟩ := ldcCH X0 hx hZ hown (own_w hw (i := 28) rfl) (own_wS hw) e0 hS hk hEL (by decide) C0.1 (vs := [(.int 104), (.int 105), (.int 116), (.int 115)]) (z := (4 : Int32)) ⟨by decide +kernel, by decide +kernel⟩ (by decide) rfl (g := (mkF m 356 #[iv p0, .val (.long p1), .second, .val (.long p2), .second, rv da0, s6, iv ln, rv so, s9, s10] [(.ref so)])) rfl (D at_356) (n := 16) (by decide +kernel) (by decide) (by decide) (by decide)
    have O872 := Old0.ext O0 E872
    have C872 := CHr.trans C0 Cq872
    have hk := hk872
    have f874 : Exa Z h872 so "java/lang/String" := (Exa.ext E872 prem0)
    have f875 : Fld Z h872 so "java/lang/String" "value" "[B" (.ref sv) := (Fld.ext E872 prem1)
    have f876 : Fld Z h872 so "java/lang/String" "coder" "B" (.int 0) := (Fld.ext E872 prem2)
    have f877 : Arv Z h872 sv kg .byte n (bs.map Value.int) (.int 0) := (Arv.ext prem3 E872)
    obtain ⟨T873, v873, L873, X873, q873, st873⟩ := callVi X872 hx hZ (y := own_m17) (z := own_m17) hown (own_w hw (i := 29) rfl) (own_w hw (i := 30) rfl) (notFace_of_selects (args := #[]) (mvT hZ (own_w hw (i := 32) rfl))) (own_w hw (i := 32) rfl) (own_w hw (i := 31) rfl) (own_w hw (i := 33) rfl) (own_w hw (i := 9) rfl) (by decide) (rm_eqg_hits hw G so c872 sv kg n bs v872 kc872 ((0 : Int32)) h872 O872 f874 f875 f876 f877 A872 Fc872 Fv872 V872 (hv0)) e872 (W := 0) (by decide) (by decide) (by decide) (by decide) f874 (g := (mkF m 358 #[iv p0, .val (.long p1), .second, .val (.long p2), .second, rv da0, s6, iv ln, rv so, s9, s10] [(.ref c872), (.ref so)])) rfl (by rw [hml]; rfl) (argsL := [(.ref c872)]) (rest := []) (lenOf pd49 rfl) rfl rfl (Nat.le_of_eq rfl) (D at_358)
    obtain ⟨rfl, e873, rfl⟩ := q873
    have N873 := Fr.app N0 (Fr.nil _)
    refine GoS.of (T' := T873) (f' := (mkF m 374 #[iv p0, .val (.long p1), .second, .val (.long p2), .second, rv da0, s6, iv ln, rv so, s9, s10] [(.ref so)])) (fun _ k => st872 _ (st873 _ (XS.ifYes X873.here hx rfl (pc0 := 361) (pc' := 372) rfl (D at_361) rfl ((if0 _ _).trans (teq (by decide : (0 : Int32) = (0 : Int32))).1) (by decide) (by decide) (XS.aload X873.here hx rfl (D at_372) rfl rfl k)))) ?_
    obtain ⟨c879, T879, h879, k1879, v879, kc879, X879, e879, E879, hS, hk879, hZ, hown, A879, Fc879, Fv879, V879, -, -, Cq879, -, sn879, st879⟩ := ldcCH X873 hx hZ hown (own_w hw (i := 40) rfl) (own_wS hw) e873 hS hk hEL (by decide) C872.1 (vs := [(.int 114), (.int 101), (.int 115), (.int 117), (.int 108), (.int 116), (.int 115)]) (z := (7 : Int32)) ⟨by decide +kernel, by decide +kernel⟩ (by decide) rfl (g := (mkF m 374 #[iv p0, .val (.long p1), .second, .val (.long p2), .second, rv da0, s6, iv ln, rv so, s9, s10] [(.ref so)])) rfl (D at_374) (n := 28) (by decide +kernel) (by decide) (by decide) (by decide)
    have O879 := Old0.ext O872 E879
    have C879 := CHr.trans C872 Cq879
    have hk := hk879
    have f881 : Exa Z h879 so "java/lang/String" := (Exa.ext E879 f874)
    have f882 : Fld Z h879 so "java/lang/String" "value" "[B" (.ref sv) := (Fld.ext E879 f875)
    have f883 : Fld Z h879 so "java/lang/String" "coder" "B" (.int 0) := (Fld.ext E879 f876)
    have f884 : Arv Z h879 sv kg .byte n (bs.map Value.int) (.int 0) := (Arv.ext f877 E879)
    obtain ⟨T880, v880, L880, X880, q880, st880⟩ := callVi X879 hx hZ (y := own_m17) (z := own_m17) hown (own_w hw (i := 29) rfl) (own_w hw (i := 30) rfl) (notFace_of_selects (args := #[]) (mvT hZ (own_w hw (i := 32) rfl))) (own_w hw (i := 32) rfl) (own_w hw (i := 31) rfl) (own_w hw (i := 33) rfl) (own_w hw (i := 9) rfl) (by decide) (rm_eqg_results hw G so c879 sv kg n bs v879 kc879 ((1 : Int32)) h879 O879 f881 f882 f883 f884 A879 Fc879 Fv879 V879 (hv1)) e879 (W := 0) (by decide) (by decide) (by decide) (by decide) f881 (g := (mkF m 376 #[iv p0, .val (.long p1), .second, .val (.long p2), .second, rv da0, s6, iv ln, rv so, s9, s10] [(.ref c879), (.ref so)])) rfl (by rw [hml]; rfl) (argsL := [(.ref c879)]) (rest := []) (lenOf pd49 rfl) rfl rfl (Nat.le_of_eq rfl) (D at_376)
    obtain ⟨rfl, e880, rfl⟩ := q880
    have N880 := Fr.app N873 (Fr.nil _)
    obtain ⟨T886, X886, e886, st886⟩ := getS2 X880 hx hZ hown (host := "") (Or.inl (own_w hw (i := 118) rfl)) Via.refl e880 (Sta.ext O879 S_RESULTS) (g := (mkF m 382 #[iv p0, .val (.long p1), .second, .val (.long p2), .second, rv da0, s6, iv ln, rv so, s9, s10] [])) rfl (D at_382)
    obtain ⟨T887, v887, L887, X887, q887, st887⟩ := callSt X886 hx hZ (y := own_m50) hown (own_w hw (i := 42) rfl) (own_w hw (i := 43) rfl) (own_w hw (i := 44) rfl) (own_w hw (i := 45) rfl) (by decide) (rm_named1 hw G so sv kg n bs h879 O879 f881 f882 f883 f884 (hv0) (hv1) (hv2)) e886 (W := 0) (by decide) (by decide) (by decide) (by decide) (g := (mkF m 413 #[iv p0, .val (.long p1), .second, .val (.long p2), .second, rv da0, s6, iv ln, rv so, rv (A 2), s10] [(.ref so)])) rfl (by rw [hml]; rfl) (argsL := [(.ref so)]) (rest := []) (lenOf pd52 rfl) rfl rfl (Nat.le_of_eq rfl) (D at_413)
    obtain ⟨rfl, N887q, K887q⟩ := q887
    have N887 := Fr.app N880 N887q
    have O889 := Old0.keep O879 K887q all0
    have C888 := CHr.trans C879 (CHr.keep K887q sf0 C879.1)
    have hk := Nat.le_trans hk K887q.1
    refine GoS.of (T' := T887) (f' := (mkF m 426 #[iv p0, .val (.long p1), .second, .val (.long p2), .second, rv da0, s6, iv ln, rv so, rv (A 2), s10] [(.int 1)])) (fun _ k => st879 _ (st880 _ (XS.ifNo X880.here hx rfl (D at_379) rfl ((if0 _ _).trans (feq (by decide : ¬ ((1 : Int32) = (0 : Int32)))).1) (st886 _ (XS.astore X886.here hx rfl (D at_385) rfl rfl (l' := #[iv p0, .val (.long p1), .second, .val (.long p2), .second, rv da0, s6, iv ln, rv so, rv (A 2), s10]) (XS.store1 (o := s9) rfl h_s9 rfl) (XS.goto X886.here hx rfl (pc0 := 387) (pc' := 411) rfl (D at_387) (by decide) (by decide) (XS.aload X886.here hx rfl (D at_411) rfl rfl (st887 _ (XS.aload X887.here hx rfl (D at_416) rfl rfl (Jvm.RoadKit.acmp (g := (mkF m 418 #[iv p0, .val (.long p1), .second, .val (.long p2), .second, rv da0, s6, iv ln, rv so, rv (A 2), s10] [(.ref (A 2)), (.ref (A 2))])) X887 hx rfl rfl rfl (pc0 := 418) (pc' := 421) (same := true) rfl (D at_418) rfl (decide_eq_true rfl) (by decide) (by decide) (XS.iconst X887.here hx rfl (D at_421) (XS.goto X887.here hx rfl (pc0 := 422) (pc' := 426) rfl (D at_422) (by decide) (by decide) k)))))))))))) ?_
    exact GoS.retB X887 hx hlk hS hk hZ hEL C888 rfl hret (by simp) (D at_426) (by decide) (by decide) (z' := (1 : Int32)) rfl ⟨rfl, N887⟩
  by_cases hq2 : own_eq_validate n bs = 1
  · skip
    have hv0 : own_eq_hits n bs = 0 := own_ex_validate_hits hq2
    have hv1 : own_eq_results n bs = 0 := own_ex_validate_results hq2
    have hv2 : own_eq_validate n bs = 1 := hq2
    refine GoS.of (T' := T0) (f' := (mkF m 356 #[iv p0, .val (.long p1), .second, .val (.long p2), .second, rv da0, s6, iv ln, rv so, s9, s10] [(.ref so)])) (fun _ k => XS.astore X0.here hx rfl (D at_341) rfl rfl (l' := #[iv p0, .val (.long p1), .second, .val (.long p2), .second, rv da0, s6, iv ln, rv so, s9, s10]) (XS.store1 (o := s8) rfl h_s8 rfl) (XS.aload X0.here hx rfl (D at_343) rfl rfl (XS.ifnonnullYes X0.here hx rfl (pc0 := 345) (pc' := 354) rfl (D at_345) rfl (by decide) (by decide) (XS.aload X0.here hx rfl (D at_354) rfl rfl k)))) ?_
    obtain ⟨c891, T891, h891, k1891, v891, kc891, X891, e891, E891, hS, hk891, hZ, hown, A891, Fc891, Fv891, V891, -, -, Cq891, -, sn891, st891⟩ := ldcCH X0 hx hZ hown (own_w hw (i := 28) rfl) (own_wS hw) e0 hS hk hEL (by decide) C0.1 (vs := [(.int 104), (.int 105), (.int 116), (.int 115)]) (z := (4 : Int32)) ⟨by decide +kernel, by decide +kernel⟩ (by decide) rfl (g := (mkF m 356 #[iv p0, .val (.long p1), .second, .val (.long p2), .second, rv da0, s6, iv ln, rv so, s9, s10] [(.ref so)])) rfl (D at_356) (n := 16) (by decide +kernel) (by decide) (by decide) (by decide)
    have O891 := Old0.ext O0 E891
    have C891 := CHr.trans C0 Cq891
    have hk := hk891
    have f893 : Exa Z h891 so "java/lang/String" := (Exa.ext E891 prem0)
    have f894 : Fld Z h891 so "java/lang/String" "value" "[B" (.ref sv) := (Fld.ext E891 prem1)
    have f895 : Fld Z h891 so "java/lang/String" "coder" "B" (.int 0) := (Fld.ext E891 prem2)
    have f896 : Arv Z h891 sv kg .byte n (bs.map Value.int) (.int 0) := (Arv.ext prem3 E891)
    obtain ⟨T892, v892, L892, X892, q892, st892⟩ := callVi X891 hx hZ (y := own_m17) (z := own_m17) hown (own_w hw (i := 29) rfl) (own_w hw (i := 30) rfl) (notFace_of_selects (args := #[]) (mvT hZ (own_w hw (i := 32) rfl))) (own_w hw (i := 32) rfl) (own_w hw (i := 31) rfl) (own_w hw (i := 33) rfl) (own_w hw (i := 9) rfl) (by decide) (rm_eqg_hits hw G so c891 sv kg n bs v891 kc891 ((0 : Int32)) h891 O891 f893 f894 f895 f896 A891 Fc891 Fv891 V891 (hv0)) e891 (W := 0) (by decide) (by decide) (by decide) (by decide) f893 (g := (mkF m 358 #[iv p0, .val (.long p1), .second, .val (.long p2), .second, rv da0, s6, iv ln, rv so, s9, s10] [(.ref c891), (.ref so)])) rfl (by rw [hml]; rfl) (argsL := [(.ref c891)]) (rest := []) (lenOf pd49 rfl) rfl rfl (Nat.le_of_eq rfl) (D at_358)
    obtain ⟨rfl, e892, rfl⟩ := q892
    have N892 := Fr.app N0 (Fr.nil _)
    refine GoS.of (T' := T892) (f' := (mkF m 374 #[iv p0, .val (.long p1), .second, .val (.long p2), .second, rv da0, s6, iv ln, rv so, s9, s10] [(.ref so)])) (fun _ k => st891 _ (st892 _ (XS.ifYes X892.here hx rfl (pc0 := 361) (pc' := 372) rfl (D at_361) rfl ((if0 _ _).trans (teq (by decide : (0 : Int32) = (0 : Int32))).1) (by decide) (by decide) (XS.aload X892.here hx rfl (D at_372) rfl rfl k)))) ?_
    obtain ⟨c898, T898, h898, k1898, v898, kc898, X898, e898, E898, hS, hk898, hZ, hown, A898, Fc898, Fv898, V898, -, -, Cq898, -, sn898, st898⟩ := ldcCH X892 hx hZ hown (own_w hw (i := 40) rfl) (own_wS hw) e892 hS hk hEL (by decide) C891.1 (vs := [(.int 114), (.int 101), (.int 115), (.int 117), (.int 108), (.int 116), (.int 115)]) (z := (7 : Int32)) ⟨by decide +kernel, by decide +kernel⟩ (by decide) rfl (g := (mkF m 374 #[iv p0, .val (.long p1), .second, .val (.long p2), .second, rv da0, s6, iv ln, rv so, s9, s10] [(.ref so)])) rfl (D at_374) (n := 28) (by decide +kernel) (by decide) (by decide) (by decide)
    have O898 := Old0.ext O891 E898
    have C898 := CHr.trans C891 Cq898
    have hk := hk898
    have f900 : Exa Z h898 so "java/lang/String" := (Exa.ext E898 f893)
    have f901 : Fld Z h898 so "java/lang/String" "value" "[B" (.ref sv) := (Fld.ext E898 f894)
    have f902 : Fld Z h898 so "java/lang/String" "coder" "B" (.int 0) := (Fld.ext E898 f895)
    have f903 : Arv Z h898 sv kg .byte n (bs.map Value.int) (.int 0) := (Arv.ext f896 E898)
    obtain ⟨T899, v899, L899, X899, q899, st899⟩ := callVi X898 hx hZ (y := own_m17) (z := own_m17) hown (own_w hw (i := 29) rfl) (own_w hw (i := 30) rfl) (notFace_of_selects (args := #[]) (mvT hZ (own_w hw (i := 32) rfl))) (own_w hw (i := 32) rfl) (own_w hw (i := 31) rfl) (own_w hw (i := 33) rfl) (own_w hw (i := 9) rfl) (by decide) (rm_eqg_results hw G so c898 sv kg n bs v898 kc898 ((0 : Int32)) h898 O898 f900 f901 f902 f903 A898 Fc898 Fv898 V898 (hv1)) e898 (W := 0) (by decide) (by decide) (by decide) (by decide) f900 (g := (mkF m 376 #[iv p0, .val (.long p1), .second, .val (.long p2), .second, rv da0, s6, iv ln, rv so, s9, s10] [(.ref c898), (.ref so)])) rfl (by rw [hml]; rfl) (argsL := [(.ref c898)]) (rest := []) (lenOf pd49 rfl) rfl rfl (Nat.le_of_eq rfl) (D at_376)
    obtain ⟨rfl, e899, rfl⟩ := q899
    have N899 := Fr.app N892 (Fr.nil _)
    refine GoS.of (T' := T899) (f' := (mkF m 392 #[iv p0, .val (.long p1), .second, .val (.long p2), .second, rv da0, s6, iv ln, rv so, s9, s10] [(.ref so)])) (fun _ k => st898 _ (st899 _ (XS.ifYes X899.here hx rfl (pc0 := 379) (pc' := 390) rfl (D at_379) rfl ((if0 _ _).trans (teq (by decide : (0 : Int32) = (0 : Int32))).1) (by decide) (by decide) (XS.aload X899.here hx rfl (D at_390) rfl rfl k)))) ?_
    obtain ⟨c905, T905, h905, k1905, v905, kc905, X905, e905, E905, hS, hk905, hZ, hown, A905, Fc905, Fv905, V905, -, -, Cq905, -, sn905, st905⟩ := ldcCH X899 hx hZ hown (own_w hw (i := 41) rfl) (own_wS hw) e899 hS hk hEL (by decide) C898.1 (vs := [(.int 118), (.int 97), (.int 108), (.int 105), (.int 100), (.int 97), (.int 116), (.int 101)]) (z := (8 : Int32)) ⟨by decide +kernel, by decide +kernel⟩ (by decide) rfl (g := (mkF m 392 #[iv p0, .val (.long p1), .second, .val (.long p2), .second, rv da0, s6, iv ln, rv so, s9, s10] [(.ref so)])) rfl (D at_392) (n := 32) (by decide +kernel) (by decide) (by decide) (by decide)
    have O905 := Old0.ext O898 E905
    have C905 := CHr.trans C898 Cq905
    have hk := hk905
    have f907 : Exa Z h905 so "java/lang/String" := (Exa.ext E905 f900)
    have f908 : Fld Z h905 so "java/lang/String" "value" "[B" (.ref sv) := (Fld.ext E905 f901)
    have f909 : Fld Z h905 so "java/lang/String" "coder" "B" (.int 0) := (Fld.ext E905 f902)
    have f910 : Arv Z h905 sv kg .byte n (bs.map Value.int) (.int 0) := (Arv.ext f903 E905)
    obtain ⟨T906, v906, L906, X906, q906, st906⟩ := callVi X905 hx hZ (y := own_m17) (z := own_m17) hown (own_w hw (i := 29) rfl) (own_w hw (i := 30) rfl) (notFace_of_selects (args := #[]) (mvT hZ (own_w hw (i := 32) rfl))) (own_w hw (i := 32) rfl) (own_w hw (i := 31) rfl) (own_w hw (i := 33) rfl) (own_w hw (i := 9) rfl) (by decide) (rm_eqg_validate hw G so c905 sv kg n bs v905 kc905 ((1 : Int32)) h905 O905 f907 f908 f909 f910 A905 Fc905 Fv905 V905 (hv2)) e905 (W := 0) (by decide) (by decide) (by decide) (by decide) f907 (g := (mkF m 394 #[iv p0, .val (.long p1), .second, .val (.long p2), .second, rv da0, s6, iv ln, rv so, s9, s10] [(.ref c905), (.ref so)])) rfl (by rw [hml]; rfl) (argsL := [(.ref c905)]) (rest := []) (lenOf pd49 rfl) rfl rfl (Nat.le_of_eq rfl) (D at_394)
    obtain ⟨rfl, e906, rfl⟩ := q906
    have N906 := Fr.app N899 (Fr.nil _)
    obtain ⟨T912, X912, e912, st912⟩ := getS2 X906 hx hZ hown (host := "") (Or.inl (own_w hw (i := 116) rfl)) Via.refl e906 (Sta.ext O905 S_VALIDATE) (g := (mkF m 400 #[iv p0, .val (.long p1), .second, .val (.long p2), .second, rv da0, s6, iv ln, rv so, s9, s10] [])) rfl (D at_400)
    obtain ⟨T913, v913, L913, X913, q913, st913⟩ := callSt X912 hx hZ (y := own_m50) hown (own_w hw (i := 42) rfl) (own_w hw (i := 43) rfl) (own_w hw (i := 44) rfl) (own_w hw (i := 45) rfl) (by decide) (rm_named2 hw G so sv kg n bs h905 O905 f907 f908 f909 f910 (hv0) (hv1) (hv2)) e912 (W := 0) (by decide) (by decide) (by decide) (by decide) (g := (mkF m 413 #[iv p0, .val (.long p1), .second, .val (.long p2), .second, rv da0, s6, iv ln, rv so, rv (A 3), s10] [(.ref so)])) rfl (by rw [hml]; rfl) (argsL := [(.ref so)]) (rest := []) (lenOf pd52 rfl) rfl rfl (Nat.le_of_eq rfl) (D at_413)
    obtain ⟨rfl, N913q, K913q⟩ := q913
    have N913 := Fr.app N906 N913q
    have O915 := Old0.keep O905 K913q all0
    have C914 := CHr.trans C905 (CHr.keep K913q sf0 C905.1)
    have hk := Nat.le_trans hk K913q.1
    refine GoS.of (T' := T913) (f' := (mkF m 426 #[iv p0, .val (.long p1), .second, .val (.long p2), .second, rv da0, s6, iv ln, rv so, rv (A 3), s10] [(.int 1)])) (fun _ k => st905 _ (st906 _ (XS.ifNo X906.here hx rfl (D at_397) rfl ((if0 _ _).trans (feq (by decide : ¬ ((1 : Int32) = (0 : Int32)))).1) (st912 _ (XS.astore X912.here hx rfl (D at_403) rfl rfl (l' := #[iv p0, .val (.long p1), .second, .val (.long p2), .second, rv da0, s6, iv ln, rv so, rv (A 3), s10]) (XS.store1 (o := s9) rfl h_s9 rfl) (XS.goto X912.here hx rfl (pc0 := 405) (pc' := 411) rfl (D at_405) (by decide) (by decide) (XS.aload X912.here hx rfl (D at_411) rfl rfl (st913 _ (XS.aload X913.here hx rfl (D at_416) rfl rfl (Jvm.RoadKit.acmp (g := (mkF m 418 #[iv p0, .val (.long p1), .second, .val (.long p2), .second, rv da0, s6, iv ln, rv so, rv (A 3), s10] [(.ref (A 3)), (.ref (A 3))])) X913 hx rfl rfl rfl (pc0 := 418) (pc' := 421) (same := true) rfl (D at_418) rfl (decide_eq_true rfl) (by decide) (by decide) (XS.iconst X913.here hx rfl (D at_421) (XS.goto X913.here hx rfl (pc0 := 422) (pc' := 426) rfl (D at_422) (by decide) (by decide) k)))))))))))) ?_
    exact GoS.retB X913 hx hlk hS hk hZ hEL C914 rfl hret (by simp) (D at_426) (by decide) (by decide) (z' := (1 : Int32)) rfl ⟨rfl, N913⟩
  have hv0 := own_01_hits hq0
  have hv1 := own_01_results hq1
  have hv2 := own_01_validate hq2
  refine GoS.of (T' := T0) (f' := (mkF m 356 #[iv p0, .val (.long p1), .second, .val (.long p2), .second, rv da0, s6, iv ln, rv so, s9, s10] [(.ref so)])) (fun _ k => XS.astore X0.here hx rfl (D at_341) rfl rfl (l' := #[iv p0, .val (.long p1), .second, .val (.long p2), .second, rv da0, s6, iv ln, rv so, s9, s10]) (XS.store1 (o := s8) rfl h_s8 rfl) (XS.aload X0.here hx rfl (D at_343) rfl rfl (XS.ifnonnullYes X0.here hx rfl (pc0 := 345) (pc' := 354) rfl (D at_345) rfl (by decide) (by decide) (XS.aload X0.here hx rfl (D at_354) rfl rfl k)))) ?_
  obtain ⟨c917, T917, h917, k1917, v917, kc917, X917, e917, E917, hS, hk917, hZ, hown, A917, Fc917, Fv917, V917, -, -, Cq917, -, sn917, st917⟩ := ldcCH X0 hx hZ hown (own_w hw (i := 28) rfl) (own_wS hw) e0 hS hk hEL (by decide) C0.1 (vs := [(.int 104), (.int 105), (.int 116), (.int 115)]) (z := (4 : Int32)) ⟨by decide +kernel, by decide +kernel⟩ (by decide) rfl (g := (mkF m 356 #[iv p0, .val (.long p1), .second, .val (.long p2), .second, rv da0, s6, iv ln, rv so, s9, s10] [(.ref so)])) rfl (D at_356) (n := 16) (by decide +kernel) (by decide) (by decide) (by decide)
  have O917 := Old0.ext O0 E917
  have C917 := CHr.trans C0 Cq917
  have hk := hk917
  have f919 : Exa Z h917 so "java/lang/String" := (Exa.ext E917 prem0)
  have f920 : Fld Z h917 so "java/lang/String" "value" "[B" (.ref sv) := (Fld.ext E917 prem1)
  have f921 : Fld Z h917 so "java/lang/String" "coder" "B" (.int 0) := (Fld.ext E917 prem2)
  have f922 : Arv Z h917 sv kg .byte n (bs.map Value.int) (.int 0) := (Arv.ext prem3 E917)
  obtain ⟨T918, v918, L918, X918, q918, st918⟩ := callVi X917 hx hZ (y := own_m17) (z := own_m17) hown (own_w hw (i := 29) rfl) (own_w hw (i := 30) rfl) (notFace_of_selects (args := #[]) (mvT hZ (own_w hw (i := 32) rfl))) (own_w hw (i := 32) rfl) (own_w hw (i := 31) rfl) (own_w hw (i := 33) rfl) (own_w hw (i := 9) rfl) (by decide) (rm_eqg_hits hw G so c917 sv kg n bs v917 kc917 ((0 : Int32)) h917 O917 f919 f920 f921 f922 A917 Fc917 Fv917 V917 (hv0)) e917 (W := 0) (by decide) (by decide) (by decide) (by decide) f919 (g := (mkF m 358 #[iv p0, .val (.long p1), .second, .val (.long p2), .second, rv da0, s6, iv ln, rv so, s9, s10] [(.ref c917), (.ref so)])) rfl (by rw [hml]; rfl) (argsL := [(.ref c917)]) (rest := []) (lenOf pd49 rfl) rfl rfl (Nat.le_of_eq rfl) (D at_358)
  obtain ⟨rfl, e918, rfl⟩ := q918
  have N918 := Fr.app N0 (Fr.nil _)
  refine GoS.of (T' := T918) (f' := (mkF m 374 #[iv p0, .val (.long p1), .second, .val (.long p2), .second, rv da0, s6, iv ln, rv so, s9, s10] [(.ref so)])) (fun _ k => st917 _ (st918 _ (XS.ifYes X918.here hx rfl (pc0 := 361) (pc' := 372) rfl (D at_361) rfl ((if0 _ _).trans (teq (by decide : (0 : Int32) = (0 : Int32))).1) (by decide) (by decide) (XS.aload X918.here hx rfl (D at_372) rfl rfl k)))) ?_
  obtain ⟨c924, T924, h924, k1924, v924, kc924, X924, e924, E924, hS, hk924, hZ, hown, A924, Fc924, Fv924, V924, -, -, Cq924, -, sn924, st924⟩ := ldcCH X918 hx hZ hown (own_w hw (i := 40) rfl) (own_wS hw) e918 hS hk hEL (by decide) C917.1 (vs := [(.int 114), (.int 101), (.int 115), (.int 117), (.int 108), (.int 116), (.int 115)]) (z := (7 : Int32)) ⟨by decide +kernel, by decide +kernel⟩ (by decide) rfl (g := (mkF m 374 #[iv p0, .val (.long p1), .second, .val (.long p2), .second, rv da0, s6, iv ln, rv so, s9, s10] [(.ref so)])) rfl (D at_374) (n := 28) (by decide +kernel) (by decide) (by decide) (by decide)
  have O924 := Old0.ext O917 E924
  have C924 := CHr.trans C917 Cq924
  have hk := hk924
  have f926 : Exa Z h924 so "java/lang/String" := (Exa.ext E924 f919)
  have f927 : Fld Z h924 so "java/lang/String" "value" "[B" (.ref sv) := (Fld.ext E924 f920)
  have f928 : Fld Z h924 so "java/lang/String" "coder" "B" (.int 0) := (Fld.ext E924 f921)
  have f929 : Arv Z h924 sv kg .byte n (bs.map Value.int) (.int 0) := (Arv.ext f922 E924)
  obtain ⟨T925, v925, L925, X925, q925, st925⟩ := callVi X924 hx hZ (y := own_m17) (z := own_m17) hown (own_w hw (i := 29) rfl) (own_w hw (i := 30) rfl) (notFace_of_selects (args := #[]) (mvT hZ (own_w hw (i := 32) rfl))) (own_w hw (i := 32) rfl) (own_w hw (i := 31) rfl) (own_w hw (i := 33) rfl) (own_w hw (i := 9) rfl) (by decide) (rm_eqg_results hw G so c924 sv kg n bs v924 kc924 ((0 : Int32)) h924 O924 f926 f927 f928 f929 A924 Fc924 Fv924 V924 (hv1)) e924 (W := 0) (by decide) (by decide) (by decide) (by decide) f926 (g := (mkF m 376 #[iv p0, .val (.long p1), .second, .val (.long p2), .second, rv da0, s6, iv ln, rv so, s9, s10] [(.ref c924), (.ref so)])) rfl (by rw [hml]; rfl) (argsL := [(.ref c924)]) (rest := []) (lenOf pd49 rfl) rfl rfl (Nat.le_of_eq rfl) (D at_376)
  obtain ⟨rfl, e925, rfl⟩ := q925
  have N925 := Fr.app N918 (Fr.nil _)
  refine GoS.of (T' := T925) (f' := (mkF m 392 #[iv p0, .val (.long p1), .second, .val (.long p2), .second, rv da0, s6, iv ln, rv so, s9, s10] [(.ref so)])) (fun _ k => st924 _ (st925 _ (XS.ifYes X925.here hx rfl (pc0 := 379) (pc' := 390) rfl (D at_379) rfl ((if0 _ _).trans (teq (by decide : (0 : Int32) = (0 : Int32))).1) (by decide) (by decide) (XS.aload X925.here hx rfl (D at_390) rfl rfl k)))) ?_
  obtain ⟨c931, T931, h931, k1931, v931, kc931, X931, e931, E931, hS, hk931, hZ, hown, A931, Fc931, Fv931, V931, -, -, Cq931, -, sn931, st931⟩ := ldcCH X925 hx hZ hown (own_w hw (i := 41) rfl) (own_wS hw) e925 hS hk hEL (by decide) C924.1 (vs := [(.int 118), (.int 97), (.int 108), (.int 105), (.int 100), (.int 97), (.int 116), (.int 101)]) (z := (8 : Int32)) ⟨by decide +kernel, by decide +kernel⟩ (by decide) rfl (g := (mkF m 392 #[iv p0, .val (.long p1), .second, .val (.long p2), .second, rv da0, s6, iv ln, rv so, s9, s10] [(.ref so)])) rfl (D at_392) (n := 32) (by decide +kernel) (by decide) (by decide) (by decide)
  have O931 := Old0.ext O924 E931
  have C931 := CHr.trans C924 Cq931
  have hk := hk931
  have f933 : Exa Z h931 so "java/lang/String" := (Exa.ext E931 f926)
  have f934 : Fld Z h931 so "java/lang/String" "value" "[B" (.ref sv) := (Fld.ext E931 f927)
  have f935 : Fld Z h931 so "java/lang/String" "coder" "B" (.int 0) := (Fld.ext E931 f928)
  have f936 : Arv Z h931 sv kg .byte n (bs.map Value.int) (.int 0) := (Arv.ext f929 E931)
  obtain ⟨T932, v932, L932, X932, q932, st932⟩ := callVi X931 hx hZ (y := own_m17) (z := own_m17) hown (own_w hw (i := 29) rfl) (own_w hw (i := 30) rfl) (notFace_of_selects (args := #[]) (mvT hZ (own_w hw (i := 32) rfl))) (own_w hw (i := 32) rfl) (own_w hw (i := 31) rfl) (own_w hw (i := 33) rfl) (own_w hw (i := 9) rfl) (by decide) (rm_eqg_validate hw G so c931 sv kg n bs v931 kc931 ((0 : Int32)) h931 O931 f933 f934 f935 f936 A931 Fc931 Fv931 V931 (hv2)) e931 (W := 0) (by decide) (by decide) (by decide) (by decide) f933 (g := (mkF m 394 #[iv p0, .val (.long p1), .second, .val (.long p2), .second, rv da0, s6, iv ln, rv so, s9, s10] [(.ref c931), (.ref so)])) rfl (by rw [hml]; rfl) (argsL := [(.ref c931)]) (rest := []) (lenOf pd49 rfl) rfl rfl (Nat.le_of_eq rfl) (D at_394)
  obtain ⟨rfl, e932, rfl⟩ := q932
  have N932 := Fr.app N925 (Fr.nil _)
  obtain ⟨T938, v938, L938, X938, q938, st938⟩ := callSt X932 hx hZ (y := own_m50) hown (own_w hw (i := 42) rfl) (own_w hw (i := 43) rfl) (own_w hw (i := 44) rfl) (own_w hw (i := 45) rfl) (by decide) (rm_named3 hw G so sv kg n bs h931 O931 f933 f934 f935 f936 (hv0) (hv1) (hv2)) e932 (W := 0) (by decide) (by decide) (by decide) (by decide) (g := (mkF m 413 #[iv p0, .val (.long p1), .second, .val (.long p2), .second, rv da0, s6, iv ln, rv so, .val .null, s10] [(.ref so)])) rfl (by rw [hml]; rfl) (argsL := [(.ref so)]) (rest := []) (lenOf pd52 rfl) rfl rfl (Nat.le_of_eq rfl) (D at_413)
  obtain ⟨rfl, N938q, K938q⟩ := q938
  have N938 := Fr.app N932 N938q
  have O940 := Old0.keep O931 K938q all0
  have C939 := CHr.trans C931 (CHr.keep K938q sf0 C931.1)
  have hk := Nat.le_trans hk K938q.1
  refine GoS.of (T' := T938) (f' := (mkF m 426 #[iv p0, .val (.long p1), .second, .val (.long p2), .second, rv da0, s6, iv ln, rv so, .val .null, s10] [(.int 1)])) (fun _ k => st931 _ (st932 _ (XS.ifYes X932.here hx rfl (pc0 := 397) (pc' := 408) rfl (D at_397) rfl ((if0 _ _).trans (teq (by decide : (0 : Int32) = (0 : Int32))).1) (by decide) (by decide) (XS.aconstNull X932.here hx rfl (D at_408) (XS.astore X932.here hx rfl (D at_409) rfl rfl (l' := #[iv p0, .val (.long p1), .second, .val (.long p2), .second, rv da0, s6, iv ln, rv so, .val .null, s10]) (XS.store1 (o := s9) rfl h_s9 rfl) (XS.aload X932.here hx rfl (D at_411) rfl rfl (st938 _ (XS.aload X938.here hx rfl (D at_416) rfl rfl (Jvm.RoadKit.acmp (g := (mkF m 418 #[iv p0, .val (.long p1), .second, .val (.long p2), .second, rv da0, s6, iv ln, rv so, .val .null, s10] [.null, .null])) X938 hx rfl rfl rfl (pc0 := 418) (pc' := 421) (same := true) rfl (D at_418) rfl (decide_eq_true rfl) (by decide) (by decide) (XS.iconst X938.here hx rfl (D at_421) (XS.goto X938.here hx rfl (pc0 := 422) (pc' := 426) rfl (D at_422) (by decide) (by decide) k))))))))))) ?_
  exact GoS.retB X938 hx hlk hS hk hZ hEL C939 rfl hret (by simp) (D at_426) (by decide) (by decide) (z' := (1 : Int32)) rfl ⟨rfl, N938⟩
theorem pd53 : parseMethodDescriptor "([CI)Ljava/lang/String;" = some ⟨[(.array .char), .int], some (.object "java/lang/String")⟩ := by decide +kernel
set_option maxRecDepth 65536 in
set_option maxHeartbeats 40000000 in
theorem rm_t0 {l : Launch} {Z : State} {a0 : Array Value} {A : Nat → Addr} {KC : Nat → Cell} {IC : Nat → Int32} {VC : Nat → Value} (hw : ∀ d ∈ tables_1, d.before a0 Z = true) (G : own_Ctx Z A KC IC VC) {p : Program} {e : Env} {s : State} {m : MethodId} {below : List Frame} {meth : Method} {c : Code} {T0 : State} {vm0 : Vm} {h0 : Heap} {k0 : Nat} {locs0 : List Loc} (p0 : Int32) (p1 : Int64) (p2 : Int64) (da0 : Addr) (kd0 : ClassId) (z0 : Int32) (z1 : Int32) (z2 : Int32) (z3 : Int32) (z4 : Int32) (z5 : Int32) (z6 : Int32) (z7 : Int32) {s6 : Slot} (h_s6 : One s6) {s8 : Slot} (h_s8 : One s8) {s9 : Slot} (h_s9 : One s9) {s10 : Slot} (h_s10 : One s10)
    (hx : p.tables.exec = Jvm.exec) (hby : c.code = code) (hml : c.maxLocals = 11) (hown : vm0.findClass "com/example/fair_index/fairindex/csw/ResultTypeNamedPinLaw" = some m.cls) (hret : meth.sig.returnType = ret) (hlk : meth.locks = false) (hZ : Z.Warmed39 vm0) (hS : s.Since vm0 k0) (hk : k0 ≤ h0.size) (C0 : CHr Z own_EL s.vm s.heap vm0 h0) (e0 : T0.heap = h0) (X0 : Stand p l e room_1 (s.setVm vm0) m #[(.int p0), (.long p1), (.long p2)] below meth c T0 locs0 12 192) (N0 : Fr Z.heap.size locs0) (O0 : Ext Z.heap h0) (prem0 : Arv Z h0 da0 kd0 .char (8 : Int32) [(.int (z0 &&& (255 : Int32))), (.int (z1 &&& (255 : Int32))), (.int (z2 &&& (255 : Int32))), (.int (z3 &&& (255 : Int32))), (.int (z4 &&& (255 : Int32))), (.int (z5 &&& (255 : Int32))), (.int (z6 &&& (255 : Int32))), (.int (z7 &&& (255 : Int32)))] (.int (0 : Int32))) (prem1 : Z.heap.size ≤ da0)  :
    GoS p e s below room_1 Z own_EL (fun v h L => v = some (.int (1 : Int32)) ∧ (Fr Z.heap.size L)) T0 (mkF m 317 #[iv p0, .val (.long p1), .second, .val (.long p2), .second, rv da0, s6, iv (0 : Int32), s8, s9, s10] []) := by
  have hEL := own_EW hw
  have D := @hb _ _ hby
  have K0 : Keep h0 h0 [] := Keep.refl _ _
  refine GoS.of (T' := T0) (f' := (mkF m 321 #[iv p0, .val (.long p1), .second, .val (.long p2), .second, rv da0, s6, iv 0, s8, s9, s10] [(.long ((p2.toUInt64 >>> ((24 : Int32) &&& 0x3f).toInt64.toUInt64).toInt64))])) (fun _ k => XS.lloadN X0.here hx rfl (D at_317) rfl (XS.bipush X0.here hx rfl (D at_318) (XS.lushr X0.here hx rfl (D at_320) rfl k))) ?_
  generalize hpu : (((p2.toUInt64 >>> ((24 : Int32) &&& 0x3f).toInt64.toUInt64).toInt64) : Int64) = pu
  refine GoS.of (T' := T0) (f' := (mkF m 327 #[iv p0, .val (.long p1), .second, .val (.long p2), .second, rv da0, s6, iv 0, s8, s9, s10] [(.int (lcmpW (pu &&& (15 : Int64)) (0 : Int64)))])) (fun _ k => X0.ldc2Long hx hown (mvT hZ (own_w hw (i := 2) rfl)) (g := (mkF m 321 #[iv p0, .val (.long p1), .second, .val (.long p2), .second, rv da0, s6, iv 0, s8, s9, s10] [(.long pu)])) rfl (D at_321) _ (XS.land X0.here hx rfl (D at_324) rfl (XS.lconst X0.here hx rfl (D at_325) (XS.lcmp X0.here hx rfl (D at_326) rfl k)))) ?_
  by_cases hc942 : (lcmpW (pu &&& (15 : Int64)) (0 : Int64)) = (0 : Int32)
  · skip
    obtain ⟨T943, v943, L943, X943, q943, st943⟩ := callSt X0 hx hZ (y := own_m50) hown (own_w hw (i := 42) rfl) (own_w hw (i := 43) rfl) (own_w hw (i := 44) rfl) (own_w hw (i := 45) rfl) (by decide) (rm_namedz hw G   h0 O0 ) e0 (W := 0) (by decide) (by decide) (by decide) (by decide) (g := (mkF m 413 #[iv p0, .val (.long p1), .second, .val (.long p2), .second, rv da0, s6, iv 0, .val .null, .val .null, s10] [.null])) rfl (by rw [hml]; rfl) (argsL := [.null]) (rest := []) (lenOf pd52 rfl) rfl rfl (Nat.le_of_eq rfl) (D at_413)
    obtain ⟨rfl, N943q, K943q⟩ := q943
    have N943 := Fr.app N0 N943q
    have O945 := Old0.keep O0 K943q all0
    have C944 := CHr.trans C0 (CHr.keep K943q sf0 C0.1)
    have hk := Nat.le_trans hk K943q.1
    refine GoS.of (T' := T943) (f' := (mkF m 426 #[iv p0, .val (.long p1), .second, .val (.long p2), .second, rv da0, s6, iv 0, .val .null, .val .null, s10] [(.int 1)])) (fun _ k => XS.ifNo X0.here hx rfl (D at_327) rfl ((if0 _ _).trans (teq hc942).2) (XS.aconstNull X0.here hx rfl (D at_330) (XS.goto X0.here hx rfl (pc0 := 331) (pc' := 341) rfl (D at_331) (by decide) (by decide) (XS.astore X0.here hx rfl (D at_341) rfl rfl (l' := #[iv p0, .val (.long p1), .second, .val (.long p2), .second, rv da0, s6, iv 0, .val .null, s9, s10]) (XS.store1 (o := s8) rfl h_s8 rfl) (XS.aload X0.here hx rfl (D at_343) rfl rfl (XS.ifnonnullNo X0.here hx rfl (D at_345) rfl (XS.aconstNull X0.here hx rfl (D at_348) (XS.astore X0.here hx rfl (D at_349) rfl rfl (l' := #[iv p0, .val (.long p1), .second, .val (.long p2), .second, rv da0, s6, iv 0, .val .null, .val .null, s10]) (XS.store1 (o := s9) rfl h_s9 rfl) (XS.goto X0.here hx rfl (pc0 := 351) (pc' := 411) rfl (D at_351) (by decide) (by decide) (XS.aload X0.here hx rfl (D at_411) rfl rfl (st943 _ (XS.aload X943.here hx rfl (D at_416) rfl rfl (Jvm.RoadKit.acmp (g := (mkF m 418 #[iv p0, .val (.long p1), .second, .val (.long p2), .second, rv da0, s6, iv 0, .val .null, .val .null, s10] [.null, .null])) X943 hx rfl rfl rfl (pc0 := 418) (pc' := 421) (same := true) rfl (D at_418) rfl (decide_eq_true rfl) (by decide) (by decide) (XS.iconst X943.here hx rfl (D at_421) (XS.goto X943.here hx rfl (pc0 := 422) (pc' := 426) rfl (D at_422) (by decide) (by decide) k))))))))))))))) ?_
    exact GoS.retB X943 hx hlk hS hk hZ hEL C944 rfl hret (by simp) (D at_426) (by decide) (by decide) (z' := (1 : Int32)) rfl ⟨rfl, N943⟩
  · skip
    refine GoS.of (T' := T0) (f' := (mkF m 338 #[iv p0, .val (.long p1), .second, .val (.long p2), .second, rv da0, s6, iv 0, s8, s9, s10] [(.int 0), (.ref da0)])) (fun _ k => XS.ifYes X0.here hx rfl (pc0 := 327) (pc' := 334) rfl (D at_327) rfl ((if0 _ _).trans (feq hc942).2) (by decide) (by decide) (XS.aload X0.here hx rfl (D at_334) rfl rfl (XS.iload X0.here hx rfl (D at_336) rfl k))) ?_
    obtain ⟨T947, v947, L947, X947, q947, hS, hg947, hZ, hown, Cq947, st947⟩ := callStS X0 hx hZ (y := own_m44) hS hk hEL C0.1 hown (own_w hw (i := 3) rfl) (own_w hw (i := 4) rfl) (own_w hw (i := 5) rfl) (own_w hw (i := 6) rfl) (by decide) (rm_make0 hw G da0 kd0 z0 z1 z2 z3 z4 z5 z6 z7 h0 O0 prem0) e0 (W := 0) (by decide) (by decide) (by decide) (by decide) (g := (mkF m 338 #[iv p0, .val (.long p1), .second, .val (.long p2), .second, rv da0, s6, iv 0, s8, s9, s10] [(.int 0), (.ref da0)])) rfl (by rw [hml]; rfl) (argsL := [(.ref da0), (.int 0)]) (rest := []) (lenOf pd53 rfl) rfl rfl (Nat.le_of_eq rfl) (D at_338)
    obtain ⟨so_947, sv_947, ks_947, rfl, N947q, K947q, p947_0, p947_1, p947_2, p947_3⟩ := q947
    have N947 := Fr.app N0 N947q
    have O948 := Old0.keep O0 K947q all0
    have C947 := CHr.trans C0 Cq947
    have hk := Nat.le_refl T947.heap.size
    refine GoS.of (T' := T947) (f' := (mkF m 341 #[iv p0, .val (.long p1), .second, .val (.long p2), .second, rv da0, s6, iv 0, s8, s9, s10] [(.ref so_947)])) (fun _ k => st947 _ k) ?_
    exact rm_tail hw G p0 p1 p2 (da0) ((0 : Int32)) (so_947) (sv_947) (ks_947) ((0 : Int32)) (([] : List Int32)) (h_s6) (h_s8) (h_s9) (h_s10) hx hby hml hown hret hlk hZ hS hk  C947 rfl (Stand.more X947 (by decide) (by decide)) N947 O948 p947_0 p947_1 p947_2 p947_3 
set_option maxRecDepth 65536 in
set_option maxHeartbeats 40000000 in
theorem rm_t1 {l : Launch} {Z : State} {a0 : Array Value} {A : Nat → Addr} {KC : Nat → Cell} {IC : Nat → Int32} {VC : Nat → Value} (hw : ∀ d ∈ tables_1, d.before a0 Z = true) (G : own_Ctx Z A KC IC VC) {p : Program} {e : Env} {s : State} {m : MethodId} {below : List Frame} {meth : Method} {c : Code} {T0 : State} {vm0 : Vm} {h0 : Heap} {k0 : Nat} {locs0 : List Loc} (p0 : Int32) (p1 : Int64) (p2 : Int64) (da0 : Addr) (kd0 : ClassId) (z0 : Int32) (z1 : Int32) (z2 : Int32) (z3 : Int32) (z4 : Int32) (z5 : Int32) (z6 : Int32) (z7 : Int32) {s6 : Slot} (h_s6 : One s6) {s8 : Slot} (h_s8 : One s8) {s9 : Slot} (h_s9 : One s9) {s10 : Slot} (h_s10 : One s10)
    (hx : p.tables.exec = Jvm.exec) (hby : c.code = code) (hml : c.maxLocals = 11) (hown : vm0.findClass "com/example/fair_index/fairindex/csw/ResultTypeNamedPinLaw" = some m.cls) (hret : meth.sig.returnType = ret) (hlk : meth.locks = false) (hZ : Z.Warmed39 vm0) (hS : s.Since vm0 k0) (hk : k0 ≤ h0.size) (C0 : CHr Z own_EL s.vm s.heap vm0 h0) (e0 : T0.heap = h0) (X0 : Stand p l e room_1 (s.setVm vm0) m #[(.int p0), (.long p1), (.long p2)] below meth c T0 locs0 12 192) (N0 : Fr Z.heap.size locs0) (O0 : Ext Z.heap h0) (prem0 : Arv Z h0 da0 kd0 .char (8 : Int32) [(.int (z0 &&& (255 : Int32))), (.int (z1 &&& (255 : Int32))), (.int (z2 &&& (255 : Int32))), (.int (z3 &&& (255 : Int32))), (.int (z4 &&& (255 : Int32))), (.int (z5 &&& (255 : Int32))), (.int (z6 &&& (255 : Int32))), (.int (z7 &&& (255 : Int32)))] (.int (0 : Int32))) (prem1 : Z.heap.size ≤ da0)  :
    GoS p e s below room_1 Z own_EL (fun v h L => v = some (.int (1 : Int32)) ∧ (Fr Z.heap.size L)) T0 (mkF m 317 #[iv p0, .val (.long p1), .second, .val (.long p2), .second, rv da0, s6, iv (1 : Int32), s8, s9, s10] []) := by
  have hEL := own_EW hw
  have D := @hb _ _ hby
  have K0 : Keep h0 h0 [] := Keep.refl _ _
  refine GoS.of (T' := T0) (f' := (mkF m 321 #[iv p0, .val (.long p1), .second, .val (.long p2), .second, rv da0, s6, iv 1, s8, s9, s10] [(.long ((p2.toUInt64 >>> ((24 : Int32) &&& 0x3f).toInt64.toUInt64).toInt64))])) (fun _ k => XS.lloadN X0.here hx rfl (D at_317) rfl (XS.bipush X0.here hx rfl (D at_318) (XS.lushr X0.here hx rfl (D at_320) rfl k))) ?_
  generalize hpu : (((p2.toUInt64 >>> ((24 : Int32) &&& 0x3f).toInt64.toUInt64).toInt64) : Int64) = pu
  refine GoS.of (T' := T0) (f' := (mkF m 327 #[iv p0, .val (.long p1), .second, .val (.long p2), .second, rv da0, s6, iv 1, s8, s9, s10] [(.int (lcmpW (pu &&& (15 : Int64)) (0 : Int64)))])) (fun _ k => X0.ldc2Long hx hown (mvT hZ (own_w hw (i := 2) rfl)) (g := (mkF m 321 #[iv p0, .val (.long p1), .second, .val (.long p2), .second, rv da0, s6, iv 1, s8, s9, s10] [(.long pu)])) rfl (D at_321) _ (XS.land X0.here hx rfl (D at_324) rfl (XS.lconst X0.here hx rfl (D at_325) (XS.lcmp X0.here hx rfl (D at_326) rfl k)))) ?_
  by_cases hc949 : (lcmpW (pu &&& (15 : Int64)) (0 : Int64)) = (0 : Int32)
  · skip
    obtain ⟨T950, v950, L950, X950, q950, st950⟩ := callSt X0 hx hZ (y := own_m50) hown (own_w hw (i := 42) rfl) (own_w hw (i := 43) rfl) (own_w hw (i := 44) rfl) (own_w hw (i := 45) rfl) (by decide) (rm_namedz hw G   h0 O0 ) e0 (W := 0) (by decide) (by decide) (by decide) (by decide) (g := (mkF m 413 #[iv p0, .val (.long p1), .second, .val (.long p2), .second, rv da0, s6, iv 1, .val .null, .val .null, s10] [.null])) rfl (by rw [hml]; rfl) (argsL := [.null]) (rest := []) (lenOf pd52 rfl) rfl rfl (Nat.le_of_eq rfl) (D at_413)
    obtain ⟨rfl, N950q, K950q⟩ := q950
    have N950 := Fr.app N0 N950q
    have O952 := Old0.keep O0 K950q all0
    have C951 := CHr.trans C0 (CHr.keep K950q sf0 C0.1)
    have hk := Nat.le_trans hk K950q.1
    refine GoS.of (T' := T950) (f' := (mkF m 426 #[iv p0, .val (.long p1), .second, .val (.long p2), .second, rv da0, s6, iv 1, .val .null, .val .null, s10] [(.int 1)])) (fun _ k => XS.ifNo X0.here hx rfl (D at_327) rfl ((if0 _ _).trans (teq hc949).2) (XS.aconstNull X0.here hx rfl (D at_330) (XS.goto X0.here hx rfl (pc0 := 331) (pc' := 341) rfl (D at_331) (by decide) (by decide) (XS.astore X0.here hx rfl (D at_341) rfl rfl (l' := #[iv p0, .val (.long p1), .second, .val (.long p2), .second, rv da0, s6, iv 1, .val .null, s9, s10]) (XS.store1 (o := s8) rfl h_s8 rfl) (XS.aload X0.here hx rfl (D at_343) rfl rfl (XS.ifnonnullNo X0.here hx rfl (D at_345) rfl (XS.aconstNull X0.here hx rfl (D at_348) (XS.astore X0.here hx rfl (D at_349) rfl rfl (l' := #[iv p0, .val (.long p1), .second, .val (.long p2), .second, rv da0, s6, iv 1, .val .null, .val .null, s10]) (XS.store1 (o := s9) rfl h_s9 rfl) (XS.goto X0.here hx rfl (pc0 := 351) (pc' := 411) rfl (D at_351) (by decide) (by decide) (XS.aload X0.here hx rfl (D at_411) rfl rfl (st950 _ (XS.aload X950.here hx rfl (D at_416) rfl rfl (Jvm.RoadKit.acmp (g := (mkF m 418 #[iv p0, .val (.long p1), .second, .val (.long p2), .second, rv da0, s6, iv 1, .val .null, .val .null, s10] [.null, .null])) X950 hx rfl rfl rfl (pc0 := 418) (pc' := 421) (same := true) rfl (D at_418) rfl (decide_eq_true rfl) (by decide) (by decide) (XS.iconst X950.here hx rfl (D at_421) (XS.goto X950.here hx rfl (pc0 := 422) (pc' := 426) rfl (D at_422) (by decide) (by decide) k))))))))))))))) ?_
    exact GoS.retB X950 hx hlk hS hk hZ hEL C951 rfl hret (by simp) (D at_426) (by decide) (by decide) (z' := (1 : Int32)) rfl ⟨rfl, N950⟩
  · skip
    obtain ⟨T954, v954, L954, X954, q954, st954⟩ := callSt X0 hx hZ (y := own_m44) hown (own_w hw (i := 3) rfl) (own_w hw (i := 4) rfl) (own_w hw (i := 5) rfl) (own_w hw (i := 6) rfl) (by decide) (rm_make1 hw G da0 kd0 z0 z1 z2 z3 z4 z5 z6 z7 h0 O0 prem0) e0 (W := 0) (by decide) (by decide) (by decide) (by decide) (g := (mkF m 338 #[iv p0, .val (.long p1), .second, .val (.long p2), .second, rv da0, s6, iv 1, s8, s9, s10] [(.int 1), (.ref da0)])) rfl (by rw [hml]; rfl) (argsL := [(.ref da0), (.int 1)]) (rest := []) (lenOf pd53 rfl) rfl rfl (Nat.le_of_eq rfl) (D at_338)
    obtain ⟨so_954, sv_954, ks_954, rfl, N954q, K954q, p954_0, p954_1, p954_2, p954_3⟩ := q954
    have N954 := Fr.app N0 N954q
    have O956 := Old0.keep O0 K954q all0
    have C955 := CHr.trans C0 (CHr.keep K954q sf0 C0.1)
    have hk := Nat.le_trans hk K954q.1
    refine GoS.of (T' := T954) (f' := (mkF m 341 #[iv p0, .val (.long p1), .second, .val (.long p2), .second, rv da0, s6, iv 1, s8, s9, s10] [(.ref so_954)])) (fun _ k => XS.ifYes X0.here hx rfl (pc0 := 327) (pc' := 334) rfl (D at_327) rfl ((if0 _ _).trans (feq hc949).2) (by decide) (by decide) (XS.aload X0.here hx rfl (D at_334) rfl rfl (XS.iload X0.here hx rfl (D at_336) rfl (st954 _ k)))) ?_
    exact rm_tail hw G p0 p1 p2 (da0) ((1 : Int32)) (so_954) (sv_954) (ks_954) ((1 : Int32)) (([((z0 &&& 255).toInt8.toInt32)] : List Int32)) (h_s6) (h_s8) (h_s9) (h_s10) hx hby hml hown hret hlk hZ hS hk  C955 rfl (Stand.more X954 (by decide) (by decide)) N954 O956 p954_0 p954_1 p954_2 p954_3 
set_option maxRecDepth 65536 in
set_option maxHeartbeats 40000000 in
theorem rm_t2 {l : Launch} {Z : State} {a0 : Array Value} {A : Nat → Addr} {KC : Nat → Cell} {IC : Nat → Int32} {VC : Nat → Value} (hw : ∀ d ∈ tables_1, d.before a0 Z = true) (G : own_Ctx Z A KC IC VC) {p : Program} {e : Env} {s : State} {m : MethodId} {below : List Frame} {meth : Method} {c : Code} {T0 : State} {vm0 : Vm} {h0 : Heap} {k0 : Nat} {locs0 : List Loc} (p0 : Int32) (p1 : Int64) (p2 : Int64) (da0 : Addr) (kd0 : ClassId) (z0 : Int32) (z1 : Int32) (z2 : Int32) (z3 : Int32) (z4 : Int32) (z5 : Int32) (z6 : Int32) (z7 : Int32) {s6 : Slot} (h_s6 : One s6) {s8 : Slot} (h_s8 : One s8) {s9 : Slot} (h_s9 : One s9) {s10 : Slot} (h_s10 : One s10)
    (hx : p.tables.exec = Jvm.exec) (hby : c.code = code) (hml : c.maxLocals = 11) (hown : vm0.findClass "com/example/fair_index/fairindex/csw/ResultTypeNamedPinLaw" = some m.cls) (hret : meth.sig.returnType = ret) (hlk : meth.locks = false) (hZ : Z.Warmed39 vm0) (hS : s.Since vm0 k0) (hk : k0 ≤ h0.size) (C0 : CHr Z own_EL s.vm s.heap vm0 h0) (e0 : T0.heap = h0) (X0 : Stand p l e room_1 (s.setVm vm0) m #[(.int p0), (.long p1), (.long p2)] below meth c T0 locs0 12 192) (N0 : Fr Z.heap.size locs0) (O0 : Ext Z.heap h0) (prem0 : Arv Z h0 da0 kd0 .char (8 : Int32) [(.int (z0 &&& (255 : Int32))), (.int (z1 &&& (255 : Int32))), (.int (z2 &&& (255 : Int32))), (.int (z3 &&& (255 : Int32))), (.int (z4 &&& (255 : Int32))), (.int (z5 &&& (255 : Int32))), (.int (z6 &&& (255 : Int32))), (.int (z7 &&& (255 : Int32)))] (.int (0 : Int32))) (prem1 : Z.heap.size ≤ da0)  :
    GoS p e s below room_1 Z own_EL (fun v h L => v = some (.int (1 : Int32)) ∧ (Fr Z.heap.size L)) T0 (mkF m 317 #[iv p0, .val (.long p1), .second, .val (.long p2), .second, rv da0, s6, iv (2 : Int32), s8, s9, s10] []) := by
  have hEL := own_EW hw
  have D := @hb _ _ hby
  have K0 : Keep h0 h0 [] := Keep.refl _ _
  refine GoS.of (T' := T0) (f' := (mkF m 321 #[iv p0, .val (.long p1), .second, .val (.long p2), .second, rv da0, s6, iv 2, s8, s9, s10] [(.long ((p2.toUInt64 >>> ((24 : Int32) &&& 0x3f).toInt64.toUInt64).toInt64))])) (fun _ k => XS.lloadN X0.here hx rfl (D at_317) rfl (XS.bipush X0.here hx rfl (D at_318) (XS.lushr X0.here hx rfl (D at_320) rfl k))) ?_
  generalize hpu : (((p2.toUInt64 >>> ((24 : Int32) &&& 0x3f).toInt64.toUInt64).toInt64) : Int64) = pu
  refine GoS.of (T' := T0) (f' := (mkF m 327 #[iv p0, .val (.long p1), .second, .val (.long p2), .second, rv da0, s6, iv 2, s8, s9, s10] [(.int (lcmpW (pu &&& (15 : Int64)) (0 : Int64)))])) (fun _ k => X0.ldc2Long hx hown (mvT hZ (own_w hw (i := 2) rfl)) (g := (mkF m 321 #[iv p0, .val (.long p1), .second, .val (.long p2), .second, rv da0, s6, iv 2, s8, s9, s10] [(.long pu)])) rfl (D at_321) _ (XS.land X0.here hx rfl (D at_324) rfl (XS.lconst X0.here hx rfl (D at_325) (XS.lcmp X0.here hx rfl (D at_326) rfl k)))) ?_
  by_cases hc957 : (lcmpW (pu &&& (15 : Int64)) (0 : Int64)) = (0 : Int32)
  · skip
    obtain ⟨T958, v958, L958, X958, q958, st958⟩ := callSt X0 hx hZ (y := own_m50) hown (own_w hw (i := 42) rfl) (own_w hw (i := 43) rfl) (own_w hw (i := 44) rfl) (own_w hw (i := 45) rfl) (by decide) (rm_namedz hw G   h0 O0 ) e0 (W := 0) (by decide) (by decide) (by decide) (by decide) (g := (mkF m 413 #[iv p0, .val (.long p1), .second, .val (.long p2), .second, rv da0, s6, iv 2, .val .null, .val .null, s10] [.null])) rfl (by rw [hml]; rfl) (argsL := [.null]) (rest := []) (lenOf pd52 rfl) rfl rfl (Nat.le_of_eq rfl) (D at_413)
    obtain ⟨rfl, N958q, K958q⟩ := q958
    have N958 := Fr.app N0 N958q
    have O960 := Old0.keep O0 K958q all0
    have C959 := CHr.trans C0 (CHr.keep K958q sf0 C0.1)
    have hk := Nat.le_trans hk K958q.1
    refine GoS.of (T' := T958) (f' := (mkF m 426 #[iv p0, .val (.long p1), .second, .val (.long p2), .second, rv da0, s6, iv 2, .val .null, .val .null, s10] [(.int 1)])) (fun _ k => XS.ifNo X0.here hx rfl (D at_327) rfl ((if0 _ _).trans (teq hc957).2) (XS.aconstNull X0.here hx rfl (D at_330) (XS.goto X0.here hx rfl (pc0 := 331) (pc' := 341) rfl (D at_331) (by decide) (by decide) (XS.astore X0.here hx rfl (D at_341) rfl rfl (l' := #[iv p0, .val (.long p1), .second, .val (.long p2), .second, rv da0, s6, iv 2, .val .null, s9, s10]) (XS.store1 (o := s8) rfl h_s8 rfl) (XS.aload X0.here hx rfl (D at_343) rfl rfl (XS.ifnonnullNo X0.here hx rfl (D at_345) rfl (XS.aconstNull X0.here hx rfl (D at_348) (XS.astore X0.here hx rfl (D at_349) rfl rfl (l' := #[iv p0, .val (.long p1), .second, .val (.long p2), .second, rv da0, s6, iv 2, .val .null, .val .null, s10]) (XS.store1 (o := s9) rfl h_s9 rfl) (XS.goto X0.here hx rfl (pc0 := 351) (pc' := 411) rfl (D at_351) (by decide) (by decide) (XS.aload X0.here hx rfl (D at_411) rfl rfl (st958 _ (XS.aload X958.here hx rfl (D at_416) rfl rfl (Jvm.RoadKit.acmp (g := (mkF m 418 #[iv p0, .val (.long p1), .second, .val (.long p2), .second, rv da0, s6, iv 2, .val .null, .val .null, s10] [.null, .null])) X958 hx rfl rfl rfl (pc0 := 418) (pc' := 421) (same := true) rfl (D at_418) rfl (decide_eq_true rfl) (by decide) (by decide) (XS.iconst X958.here hx rfl (D at_421) (XS.goto X958.here hx rfl (pc0 := 422) (pc' := 426) rfl (D at_422) (by decide) (by decide) k))))))))))))))) ?_
    exact GoS.retB X958 hx hlk hS hk hZ hEL C959 rfl hret (by simp) (D at_426) (by decide) (by decide) (z' := (1 : Int32)) rfl ⟨rfl, N958⟩
  · skip
    obtain ⟨T962, v962, L962, X962, q962, st962⟩ := callSt X0 hx hZ (y := own_m44) hown (own_w hw (i := 3) rfl) (own_w hw (i := 4) rfl) (own_w hw (i := 5) rfl) (own_w hw (i := 6) rfl) (by decide) (rm_make2 hw G da0 kd0 z0 z1 z2 z3 z4 z5 z6 z7 h0 O0 prem0) e0 (W := 0) (by decide) (by decide) (by decide) (by decide) (g := (mkF m 338 #[iv p0, .val (.long p1), .second, .val (.long p2), .second, rv da0, s6, iv 2, s8, s9, s10] [(.int 2), (.ref da0)])) rfl (by rw [hml]; rfl) (argsL := [(.ref da0), (.int 2)]) (rest := []) (lenOf pd53 rfl) rfl rfl (Nat.le_of_eq rfl) (D at_338)
    obtain ⟨so_962, sv_962, ks_962, rfl, N962q, K962q, p962_0, p962_1, p962_2, p962_3⟩ := q962
    have N962 := Fr.app N0 N962q
    have O964 := Old0.keep O0 K962q all0
    have C963 := CHr.trans C0 (CHr.keep K962q sf0 C0.1)
    have hk := Nat.le_trans hk K962q.1
    refine GoS.of (T' := T962) (f' := (mkF m 341 #[iv p0, .val (.long p1), .second, .val (.long p2), .second, rv da0, s6, iv 2, s8, s9, s10] [(.ref so_962)])) (fun _ k => XS.ifYes X0.here hx rfl (pc0 := 327) (pc' := 334) rfl (D at_327) rfl ((if0 _ _).trans (feq hc957).2) (by decide) (by decide) (XS.aload X0.here hx rfl (D at_334) rfl rfl (XS.iload X0.here hx rfl (D at_336) rfl (st962 _ k)))) ?_
    exact rm_tail hw G p0 p1 p2 (da0) ((2 : Int32)) (so_962) (sv_962) (ks_962) ((2 : Int32)) (([((z0 &&& 255).toInt8.toInt32), ((z1 &&& 255).toInt8.toInt32)] : List Int32)) (h_s6) (h_s8) (h_s9) (h_s10) hx hby hml hown hret hlk hZ hS hk  C963 rfl (Stand.more X962 (by decide) (by decide)) N962 O964 p962_0 p962_1 p962_2 p962_3 
set_option maxRecDepth 65536 in
set_option maxHeartbeats 40000000 in
theorem rm_t3 {l : Launch} {Z : State} {a0 : Array Value} {A : Nat → Addr} {KC : Nat → Cell} {IC : Nat → Int32} {VC : Nat → Value} (hw : ∀ d ∈ tables_1, d.before a0 Z = true) (G : own_Ctx Z A KC IC VC) {p : Program} {e : Env} {s : State} {m : MethodId} {below : List Frame} {meth : Method} {c : Code} {T0 : State} {vm0 : Vm} {h0 : Heap} {k0 : Nat} {locs0 : List Loc} (p0 : Int32) (p1 : Int64) (p2 : Int64) (da0 : Addr) (kd0 : ClassId) (z0 : Int32) (z1 : Int32) (z2 : Int32) (z3 : Int32) (z4 : Int32) (z5 : Int32) (z6 : Int32) (z7 : Int32) {s6 : Slot} (h_s6 : One s6) {s8 : Slot} (h_s8 : One s8) {s9 : Slot} (h_s9 : One s9) {s10 : Slot} (h_s10 : One s10)
    (hx : p.tables.exec = Jvm.exec) (hby : c.code = code) (hml : c.maxLocals = 11) (hown : vm0.findClass "com/example/fair_index/fairindex/csw/ResultTypeNamedPinLaw" = some m.cls) (hret : meth.sig.returnType = ret) (hlk : meth.locks = false) (hZ : Z.Warmed39 vm0) (hS : s.Since vm0 k0) (hk : k0 ≤ h0.size) (C0 : CHr Z own_EL s.vm s.heap vm0 h0) (e0 : T0.heap = h0) (X0 : Stand p l e room_1 (s.setVm vm0) m #[(.int p0), (.long p1), (.long p2)] below meth c T0 locs0 12 192) (N0 : Fr Z.heap.size locs0) (O0 : Ext Z.heap h0) (prem0 : Arv Z h0 da0 kd0 .char (8 : Int32) [(.int (z0 &&& (255 : Int32))), (.int (z1 &&& (255 : Int32))), (.int (z2 &&& (255 : Int32))), (.int (z3 &&& (255 : Int32))), (.int (z4 &&& (255 : Int32))), (.int (z5 &&& (255 : Int32))), (.int (z6 &&& (255 : Int32))), (.int (z7 &&& (255 : Int32)))] (.int (0 : Int32))) (prem1 : Z.heap.size ≤ da0)  :
    GoS p e s below room_1 Z own_EL (fun v h L => v = some (.int (1 : Int32)) ∧ (Fr Z.heap.size L)) T0 (mkF m 317 #[iv p0, .val (.long p1), .second, .val (.long p2), .second, rv da0, s6, iv (3 : Int32), s8, s9, s10] []) := by
  have hEL := own_EW hw
  have D := @hb _ _ hby
  have K0 : Keep h0 h0 [] := Keep.refl _ _
  refine GoS.of (T' := T0) (f' := (mkF m 321 #[iv p0, .val (.long p1), .second, .val (.long p2), .second, rv da0, s6, iv 3, s8, s9, s10] [(.long ((p2.toUInt64 >>> ((24 : Int32) &&& 0x3f).toInt64.toUInt64).toInt64))])) (fun _ k => XS.lloadN X0.here hx rfl (D at_317) rfl (XS.bipush X0.here hx rfl (D at_318) (XS.lushr X0.here hx rfl (D at_320) rfl k))) ?_
  generalize hpu : (((p2.toUInt64 >>> ((24 : Int32) &&& 0x3f).toInt64.toUInt64).toInt64) : Int64) = pu
  refine GoS.of (T' := T0) (f' := (mkF m 327 #[iv p0, .val (.long p1), .second, .val (.long p2), .second, rv da0, s6, iv 3, s8, s9, s10] [(.int (lcmpW (pu &&& (15 : Int64)) (0 : Int64)))])) (fun _ k => X0.ldc2Long hx hown (mvT hZ (own_w hw (i := 2) rfl)) (g := (mkF m 321 #[iv p0, .val (.long p1), .second, .val (.long p2), .second, rv da0, s6, iv 3, s8, s9, s10] [(.long pu)])) rfl (D at_321) _ (XS.land X0.here hx rfl (D at_324) rfl (XS.lconst X0.here hx rfl (D at_325) (XS.lcmp X0.here hx rfl (D at_326) rfl k)))) ?_
  by_cases hc965 : (lcmpW (pu &&& (15 : Int64)) (0 : Int64)) = (0 : Int32)
  · skip
    obtain ⟨T966, v966, L966, X966, q966, st966⟩ := callSt X0 hx hZ (y := own_m50) hown (own_w hw (i := 42) rfl) (own_w hw (i := 43) rfl) (own_w hw (i := 44) rfl) (own_w hw (i := 45) rfl) (by decide) (rm_namedz hw G   h0 O0 ) e0 (W := 0) (by decide) (by decide) (by decide) (by decide) (g := (mkF m 413 #[iv p0, .val (.long p1), .second, .val (.long p2), .second, rv da0, s6, iv 3, .val .null, .val .null, s10] [.null])) rfl (by rw [hml]; rfl) (argsL := [.null]) (rest := []) (lenOf pd52 rfl) rfl rfl (Nat.le_of_eq rfl) (D at_413)
    obtain ⟨rfl, N966q, K966q⟩ := q966
    have N966 := Fr.app N0 N966q
    have O968 := Old0.keep O0 K966q all0
    have C967 := CHr.trans C0 (CHr.keep K966q sf0 C0.1)
    have hk := Nat.le_trans hk K966q.1
    refine GoS.of (T' := T966) (f' := (mkF m 426 #[iv p0, .val (.long p1), .second, .val (.long p2), .second, rv da0, s6, iv 3, .val .null, .val .null, s10] [(.int 1)])) (fun _ k => XS.ifNo X0.here hx rfl (D at_327) rfl ((if0 _ _).trans (teq hc965).2) (XS.aconstNull X0.here hx rfl (D at_330) (XS.goto X0.here hx rfl (pc0 := 331) (pc' := 341) rfl (D at_331) (by decide) (by decide) (XS.astore X0.here hx rfl (D at_341) rfl rfl (l' := #[iv p0, .val (.long p1), .second, .val (.long p2), .second, rv da0, s6, iv 3, .val .null, s9, s10]) (XS.store1 (o := s8) rfl h_s8 rfl) (XS.aload X0.here hx rfl (D at_343) rfl rfl (XS.ifnonnullNo X0.here hx rfl (D at_345) rfl (XS.aconstNull X0.here hx rfl (D at_348) (XS.astore X0.here hx rfl (D at_349) rfl rfl (l' := #[iv p0, .val (.long p1), .second, .val (.long p2), .second, rv da0, s6, iv 3, .val .null, .val .null, s10]) (XS.store1 (o := s9) rfl h_s9 rfl) (XS.goto X0.here hx rfl (pc0 := 351) (pc' := 411) rfl (D at_351) (by decide) (by decide) (XS.aload X0.here hx rfl (D at_411) rfl rfl (st966 _ (XS.aload X966.here hx rfl (D at_416) rfl rfl (Jvm.RoadKit.acmp (g := (mkF m 418 #[iv p0, .val (.long p1), .second, .val (.long p2), .second, rv da0, s6, iv 3, .val .null, .val .null, s10] [.null, .null])) X966 hx rfl rfl rfl (pc0 := 418) (pc' := 421) (same := true) rfl (D at_418) rfl (decide_eq_true rfl) (by decide) (by decide) (XS.iconst X966.here hx rfl (D at_421) (XS.goto X966.here hx rfl (pc0 := 422) (pc' := 426) rfl (D at_422) (by decide) (by decide) k))))))))))))))) ?_
    exact GoS.retB X966 hx hlk hS hk hZ hEL C967 rfl hret (by simp) (D at_426) (by decide) (by decide) (z' := (1 : Int32)) rfl ⟨rfl, N966⟩
  · skip
    obtain ⟨T970, v970, L970, X970, q970, st970⟩ := callSt X0 hx hZ (y := own_m44) hown (own_w hw (i := 3) rfl) (own_w hw (i := 4) rfl) (own_w hw (i := 5) rfl) (own_w hw (i := 6) rfl) (by decide) (rm_make3 hw G da0 kd0 z0 z1 z2 z3 z4 z5 z6 z7 h0 O0 prem0) e0 (W := 0) (by decide) (by decide) (by decide) (by decide) (g := (mkF m 338 #[iv p0, .val (.long p1), .second, .val (.long p2), .second, rv da0, s6, iv 3, s8, s9, s10] [(.int 3), (.ref da0)])) rfl (by rw [hml]; rfl) (argsL := [(.ref da0), (.int 3)]) (rest := []) (lenOf pd53 rfl) rfl rfl (Nat.le_of_eq rfl) (D at_338)
    obtain ⟨so_970, sv_970, ks_970, rfl, N970q, K970q, p970_0, p970_1, p970_2, p970_3⟩ := q970
    have N970 := Fr.app N0 N970q
    have O972 := Old0.keep O0 K970q all0
    have C971 := CHr.trans C0 (CHr.keep K970q sf0 C0.1)
    have hk := Nat.le_trans hk K970q.1
    refine GoS.of (T' := T970) (f' := (mkF m 341 #[iv p0, .val (.long p1), .second, .val (.long p2), .second, rv da0, s6, iv 3, s8, s9, s10] [(.ref so_970)])) (fun _ k => XS.ifYes X0.here hx rfl (pc0 := 327) (pc' := 334) rfl (D at_327) rfl ((if0 _ _).trans (feq hc965).2) (by decide) (by decide) (XS.aload X0.here hx rfl (D at_334) rfl rfl (XS.iload X0.here hx rfl (D at_336) rfl (st970 _ k)))) ?_
    exact rm_tail hw G p0 p1 p2 (da0) ((3 : Int32)) (so_970) (sv_970) (ks_970) ((3 : Int32)) (([((z0 &&& 255).toInt8.toInt32), ((z1 &&& 255).toInt8.toInt32), ((z2 &&& 255).toInt8.toInt32)] : List Int32)) (h_s6) (h_s8) (h_s9) (h_s10) hx hby hml hown hret hlk hZ hS hk  C971 rfl (Stand.more X970 (by decide) (by decide)) N970 O972 p970_0 p970_1 p970_2 p970_3 
set_option maxRecDepth 65536 in
set_option maxHeartbeats 40000000 in
theorem rm_t4 {l : Launch} {Z : State} {a0 : Array Value} {A : Nat → Addr} {KC : Nat → Cell} {IC : Nat → Int32} {VC : Nat → Value} (hw : ∀ d ∈ tables_1, d.before a0 Z = true) (G : own_Ctx Z A KC IC VC) {p : Program} {e : Env} {s : State} {m : MethodId} {below : List Frame} {meth : Method} {c : Code} {T0 : State} {vm0 : Vm} {h0 : Heap} {k0 : Nat} {locs0 : List Loc} (p0 : Int32) (p1 : Int64) (p2 : Int64) (da0 : Addr) (kd0 : ClassId) (z0 : Int32) (z1 : Int32) (z2 : Int32) (z3 : Int32) (z4 : Int32) (z5 : Int32) (z6 : Int32) (z7 : Int32) {s6 : Slot} (h_s6 : One s6) {s8 : Slot} (h_s8 : One s8) {s9 : Slot} (h_s9 : One s9) {s10 : Slot} (h_s10 : One s10)
    (hx : p.tables.exec = Jvm.exec) (hby : c.code = code) (hml : c.maxLocals = 11) (hown : vm0.findClass "com/example/fair_index/fairindex/csw/ResultTypeNamedPinLaw" = some m.cls) (hret : meth.sig.returnType = ret) (hlk : meth.locks = false) (hZ : Z.Warmed39 vm0) (hS : s.Since vm0 k0) (hk : k0 ≤ h0.size) (C0 : CHr Z own_EL s.vm s.heap vm0 h0) (e0 : T0.heap = h0) (X0 : Stand p l e room_1 (s.setVm vm0) m #[(.int p0), (.long p1), (.long p2)] below meth c T0 locs0 12 192) (N0 : Fr Z.heap.size locs0) (O0 : Ext Z.heap h0) (prem0 : Arv Z h0 da0 kd0 .char (8 : Int32) [(.int (z0 &&& (255 : Int32))), (.int (z1 &&& (255 : Int32))), (.int (z2 &&& (255 : Int32))), (.int (z3 &&& (255 : Int32))), (.int (z4 &&& (255 : Int32))), (.int (z5 &&& (255 : Int32))), (.int (z6 &&& (255 : Int32))), (.int (z7 &&& (255 : Int32)))] (.int (0 : Int32))) (prem1 : Z.heap.size ≤ da0)  :
    GoS p e s below room_1 Z own_EL (fun v h L => v = some (.int (1 : Int32)) ∧ (Fr Z.heap.size L)) T0 (mkF m 317 #[iv p0, .val (.long p1), .second, .val (.long p2), .second, rv da0, s6, iv (4 : Int32), s8, s9, s10] []) := by
  have hEL := own_EW hw
  have D := @hb _ _ hby
  have K0 : Keep h0 h0 [] := Keep.refl _ _
  refine GoS.of (T' := T0) (f' := (mkF m 321 #[iv p0, .val (.long p1), .second, .val (.long p2), .second, rv da0, s6, iv 4, s8, s9, s10] [(.long ((p2.toUInt64 >>> ((24 : Int32) &&& 0x3f).toInt64.toUInt64).toInt64))])) (fun _ k => XS.lloadN X0.here hx rfl (D at_317) rfl (XS.bipush X0.here hx rfl (D at_318) (XS.lushr X0.here hx rfl (D at_320) rfl k))) ?_
  generalize hpu : (((p2.toUInt64 >>> ((24 : Int32) &&& 0x3f).toInt64.toUInt64).toInt64) : Int64) = pu
  refine GoS.of (T' := T0) (f' := (mkF m 327 #[iv p0, .val (.long p1), .second, .val (.long p2), .second, rv da0, s6, iv 4, s8, s9, s10] [(.int (lcmpW (pu &&& (15 : Int64)) (0 : Int64)))])) (fun _ k => X0.ldc2Long hx hown (mvT hZ (own_w hw (i := 2) rfl)) (g := (mkF m 321 #[iv p0, .val (.long p1), .second, .val (.long p2), .second, rv da0, s6, iv 4, s8, s9, s10] [(.long pu)])) rfl (D at_321) _ (XS.land X0.here hx rfl (D at_324) rfl (XS.lconst X0.here hx rfl (D at_325) (XS.lcmp X0.here hx rfl (D at_326) rfl k)))) ?_
  by_cases hc973 : (lcmpW (pu &&& (15 : Int64)) (0 : Int64)) = (0 : Int32)
  · skip
    obtain ⟨T974, v974, L974, X974, q974, st974⟩ := callSt X0 hx hZ (y := own_m50) hown (own_w hw (i := 42) rfl) (own_w hw (i := 43) rfl) (own_w hw (i := 44) rfl) (own_w hw (i := 45) rfl) (by decide) (rm_namedz hw G   h0 O0 ) e0 (W := 0) (by decide) (by decide) (by decide) (by decide) (g := (mkF m 413 #[iv p0, .val (.long p1), .second, .val (.long p2), .second, rv da0, s6, iv 4, .val .null, .val .null, s10] [.null])) rfl (by rw [hml]; rfl) (argsL := [.null]) (rest := []) (lenOf pd52 rfl) rfl rfl (Nat.le_of_eq rfl) (D at_413)
    obtain ⟨rfl, N974q, K974q⟩ := q974
    have N974 := Fr.app N0 N974q
    have O976 := Old0.keep O0 K974q all0
    have C975 := CHr.trans C0 (CHr.keep K974q sf0 C0.1)
    have hk := Nat.le_trans hk K974q.1
    refine GoS.of (T' := T974) (f' := (mkF m 426 #[iv p0, .val (.long p1), .second, .val (.long p2), .second, rv da0, s6, iv 4, .val .null, .val .null, s10] [(.int 1)])) (fun _ k => XS.ifNo X0.here hx rfl (D at_327) rfl ((if0 _ _).trans (teq hc973).2) (XS.aconstNull X0.here hx rfl (D at_330) (XS.goto X0.here hx rfl (pc0 := 331) (pc' := 341) rfl (D at_331) (by decide) (by decide) (XS.astore X0.here hx rfl (D at_341) rfl rfl (l' := #[iv p0, .val (.long p1), .second, .val (.long p2), .second, rv da0, s6, iv 4, .val .null, s9, s10]) (XS.store1 (o := s8) rfl h_s8 rfl) (XS.aload X0.here hx rfl (D at_343) rfl rfl (XS.ifnonnullNo X0.here hx rfl (D at_345) rfl (XS.aconstNull X0.here hx rfl (D at_348) (XS.astore X0.here hx rfl (D at_349) rfl rfl (l' := #[iv p0, .val (.long p1), .second, .val (.long p2), .second, rv da0, s6, iv 4, .val .null, .val .null, s10]) (XS.store1 (o := s9) rfl h_s9 rfl) (XS.goto X0.here hx rfl (pc0 := 351) (pc' := 411) rfl (D at_351) (by decide) (by decide) (XS.aload X0.here hx rfl (D at_411) rfl rfl (st974 _ (XS.aload X974.here hx rfl (D at_416) rfl rfl (Jvm.RoadKit.acmp (g := (mkF m 418 #[iv p0, .val (.long p1), .second, .val (.long p2), .second, rv da0, s6, iv 4, .val .null, .val .null, s10] [.null, .null])) X974 hx rfl rfl rfl (pc0 := 418) (pc' := 421) (same := true) rfl (D at_418) rfl (decide_eq_true rfl) (by decide) (by decide) (XS.iconst X974.here hx rfl (D at_421) (XS.goto X974.here hx rfl (pc0 := 422) (pc' := 426) rfl (D at_422) (by decide) (by decide) k))))))))))))))) ?_
    exact GoS.retB X974 hx hlk hS hk hZ hEL C975 rfl hret (by simp) (D at_426) (by decide) (by decide) (z' := (1 : Int32)) rfl ⟨rfl, N974⟩
  · skip
    obtain ⟨T978, v978, L978, X978, q978, st978⟩ := callSt X0 hx hZ (y := own_m44) hown (own_w hw (i := 3) rfl) (own_w hw (i := 4) rfl) (own_w hw (i := 5) rfl) (own_w hw (i := 6) rfl) (by decide) (rm_make4 hw G da0 kd0 z0 z1 z2 z3 z4 z5 z6 z7 h0 O0 prem0) e0 (W := 0) (by decide) (by decide) (by decide) (by decide) (g := (mkF m 338 #[iv p0, .val (.long p1), .second, .val (.long p2), .second, rv da0, s6, iv 4, s8, s9, s10] [(.int 4), (.ref da0)])) rfl (by rw [hml]; rfl) (argsL := [(.ref da0), (.int 4)]) (rest := []) (lenOf pd53 rfl) rfl rfl (Nat.le_of_eq rfl) (D at_338)
    obtain ⟨so_978, sv_978, ks_978, rfl, N978q, K978q, p978_0, p978_1, p978_2, p978_3⟩ := q978
    have N978 := Fr.app N0 N978q
    have O980 := Old0.keep O0 K978q all0
    have C979 := CHr.trans C0 (CHr.keep K978q sf0 C0.1)
    have hk := Nat.le_trans hk K978q.1
    refine GoS.of (T' := T978) (f' := (mkF m 341 #[iv p0, .val (.long p1), .second, .val (.long p2), .second, rv da0, s6, iv 4, s8, s9, s10] [(.ref so_978)])) (fun _ k => XS.ifYes X0.here hx rfl (pc0 := 327) (pc' := 334) rfl (D at_327) rfl ((if0 _ _).trans (feq hc973).2) (by decide) (by decide) (XS.aload X0.here hx rfl (D at_334) rfl rfl (XS.iload X0.here hx rfl (D at_336) rfl (st978 _ k)))) ?_
    exact rm_tail hw G p0 p1 p2 (da0) ((4 : Int32)) (so_978) (sv_978) (ks_978) ((4 : Int32)) (([((z0 &&& 255).toInt8.toInt32), ((z1 &&& 255).toInt8.toInt32), ((z2 &&& 255).toInt8.toInt32), ((z3 &&& 255).toInt8.toInt32)] : List Int32)) (h_s6) (h_s8) (h_s9) (h_s10) hx hby hml hown hret hlk hZ hS hk  C979 rfl (Stand.more X978 (by decide) (by decide)) N978 O980 p978_0 p978_1 p978_2 p978_3 
set_option maxRecDepth 65536 in
set_option maxHeartbeats 40000000 in
theorem rm_t5 {l : Launch} {Z : State} {a0 : Array Value} {A : Nat → Addr} {KC : Nat → Cell} {IC : Nat → Int32} {VC : Nat → Value} (hw : ∀ d ∈ tables_1, d.before a0 Z = true) (G : own_Ctx Z A KC IC VC) {p : Program} {e : Env} {s : State} {m : MethodId} {below : List Frame} {meth : Method} {c : Code} {T0 : State} {vm0 : Vm} {h0 : Heap} {k0 : Nat} {locs0 : List Loc} (p0 : Int32) (p1 : Int64) (p2 : Int64) (da0 : Addr) (kd0 : ClassId) (z0 : Int32) (z1 : Int32) (z2 : Int32) (z3 : Int32) (z4 : Int32) (z5 : Int32) (z6 : Int32) (z7 : Int32) {s6 : Slot} (h_s6 : One s6) {s8 : Slot} (h_s8 : One s8) {s9 : Slot} (h_s9 : One s9) {s10 : Slot} (h_s10 : One s10)
    (hx : p.tables.exec = Jvm.exec) (hby : c.code = code) (hml : c.maxLocals = 11) (hown : vm0.findClass "com/example/fair_index/fairindex/csw/ResultTypeNamedPinLaw" = some m.cls) (hret : meth.sig.returnType = ret) (hlk : meth.locks = false) (hZ : Z.Warmed39 vm0) (hS : s.Since vm0 k0) (hk : k0 ≤ h0.size) (C0 : CHr Z own_EL s.vm s.heap vm0 h0) (e0 : T0.heap = h0) (X0 : Stand p l e room_1 (s.setVm vm0) m #[(.int p0), (.long p1), (.long p2)] below meth c T0 locs0 12 192) (N0 : Fr Z.heap.size locs0) (O0 : Ext Z.heap h0) (prem0 : Arv Z h0 da0 kd0 .char (8 : Int32) [(.int (z0 &&& (255 : Int32))), (.int (z1 &&& (255 : Int32))), (.int (z2 &&& (255 : Int32))), (.int (z3 &&& (255 : Int32))), (.int (z4 &&& (255 : Int32))), (.int (z5 &&& (255 : Int32))), (.int (z6 &&& (255 : Int32))), (.int (z7 &&& (255 : Int32)))] (.int (0 : Int32))) (prem1 : Z.heap.size ≤ da0)  :
    GoS p e s below room_1 Z own_EL (fun v h L => v = some (.int (1 : Int32)) ∧ (Fr Z.heap.size L)) T0 (mkF m 317 #[iv p0, .val (.long p1), .second, .val (.long p2), .second, rv da0, s6, iv (5 : Int32), s8, s9, s10] []) := by
  have hEL := own_EW hw
  have D := @hb _ _ hby
  have K0 : Keep h0 h0 [] := Keep.refl _ _
  refine GoS.of (T' := T0) (f' := (mkF m 321 #[iv p0, .val (.long p1), .second, .val (.long p2), .second, rv da0, s6, iv 5, s8, s9, s10] [(.long ((p2.toUInt64 >>> ((24 : Int32) &&& 0x3f).toInt64.toUInt64).toInt64))])) (fun _ k => XS.lloadN X0.here hx rfl (D at_317) rfl (XS.bipush X0.here hx rfl (D at_318) (XS.lushr X0.here hx rfl (D at_320) rfl k))) ?_
  generalize hpu : (((p2.toUInt64 >>> ((24 : Int32) &&& 0x3f).toInt64.toUInt64).toInt64) : Int64) = pu
  refine GoS.of (T' := T0) (f' := (mkF m 327 #[iv p0, .val (.long p1), .second, .val (.long p2), .second, rv da0, s6, iv 5, s8, s9, s10] [(.int (lcmpW (pu &&& (15 : Int64)) (0 : Int64)))])) (fun _ k => X0.ldc2Long hx hown (mvT hZ (own_w hw (i := 2) rfl)) (g := (mkF m 321 #[iv p0, .val (.long p1), .second, .val (.long p2), .second, rv da0, s6, iv 5, s8, s9, s10] [(.long pu)])) rfl (D at_321) _ (XS.land X0.here hx rfl (D at_324) rfl (XS.lconst X0.here hx rfl (D at_325) (XS.lcmp X0.here hx rfl (D at_326) rfl k)))) ?_
  by_cases hc981 : (lcmpW (pu &&& (15 : Int64)) (0 : Int64)) = (0 : Int32)
  · skip
    obtain ⟨T982, v982, L982, X982, q982, st982⟩ := callSt X0 hx hZ (y := own_m50) hown (own_w hw (i := 42) rfl) (own_w hw (i := 43) rfl) (own_w hw (i := 44) rfl) (own_w hw (i := 45) rfl) (by decide) (rm_namedz hw G   h0 O0 ) e0 (W := 0) (by decide) (by decide) (by decide) (by decide) (g := (mkF m 413 #[iv p0, .val (.long p1), .second, .val (.long p2), .second, rv da0, s6, iv 5, .val .null, .val .null, s10] [.null])) rfl (by rw [hml]; rfl) (argsL := [.null]) (rest := []) (lenOf pd52 rfl) rfl rfl (Nat.le_of_eq rfl) (D at_413)
    obtain ⟨rfl, N982q, K982q⟩ := q982
    have N982 := Fr.app N0 N982q
    have O984 := Old0.keep O0 K982q all0
    have C983 := CHr.trans C0 (CHr.keep K982q sf0 C0.1)
    have hk := Nat.le_trans hk K982q.1
    refine GoS.of (T' := T982) (f' := (mkF m 426 #[iv p0, .val (.long p1), .second, .val (.long p2), .second, rv da0, s6, iv 5, .val .null, .val .null, s10] [(.int 1)])) (fun _ k => XS.ifNo X0.here hx rfl (D at_327) rfl ((if0 _ _).trans (teq hc981).2) (XS.aconstNull X0.here hx rfl (D at_330) (XS.goto X0.here hx rfl (pc0 := 331) (pc' := 341) rfl (D at_331) (by decide) (by decide) (XS.astore X0.here hx rfl (D at_341) rfl rfl (l' := #[iv p0, .val (.long p1), .second, .val (.long p2), .second, rv da0, s6, iv 5, .val .null, s9, s10]) (XS.store1 (o := s8) rfl h_s8 rfl) (XS.aload X0.here hx rfl (D at_343) rfl rfl (XS.ifnonnullNo X0.here hx rfl (D at_345) rfl (XS.aconstNull X0.here hx rfl (D at_348) (XS.astore X0.here hx rfl (D at_349) rfl rfl (l' := #[iv p0, .val (.long p1), .second, .val (.long p2), .second, rv da0, s6, iv 5, .val .null, .val .null, s10]) (XS.store1 (o := s9) rfl h_s9 rfl) (XS.goto X0.here hx rfl (pc0 := 351) (pc' := 411) rfl (D at_351) (by decide) (by decide) (XS.aload X0.here hx rfl (D at_411) rfl rfl (st982 _ (XS.aload X982.here hx rfl (D at_416) rfl rfl (Jvm.RoadKit.acmp (g := (mkF m 418 #[iv p0, .val (.long p1), .second, .val (.long p2), .second, rv da0, s6, iv 5, .val .null, .val .null, s10] [.null, .null])) X982 hx rfl rfl rfl (pc0 := 418) (pc' := 421) (same := true) rfl (D at_418) rfl (decide_eq_true rfl) (by decide) (by decide) (XS.iconst X982.here hx rfl (D at_421) (XS.goto X982.here hx rfl (pc0 := 422) (pc' := 426) rfl (D at_422) (by decide) (by decide) k))))))))))))))) ?_
    exact GoS.retB X982 hx hlk hS hk hZ hEL C983 rfl hret (by simp) (D at_426) (by decide) (by decide) (z' := (1 : Int32)) rfl ⟨rfl, N982⟩
  · skip
    obtain ⟨T986, v986, L986, X986, q986, st986⟩ := callSt X0 hx hZ (y := own_m44) hown (own_w hw (i := 3) rfl) (own_w hw (i := 4) rfl) (own_w hw (i := 5) rfl) (own_w hw (i := 6) rfl) (by decide) (rm_make5 hw G da0 kd0 z0 z1 z2 z3 z4 z5 z6 z7 h0 O0 prem0) e0 (W := 0) (by decide) (by decide) (by decide) (by decide) (g := (mkF m 338 #[iv p0, .val (.long p1), .second, .val (.long p2), .second, rv da0, s6, iv 5, s8, s9, s10] [(.int 5), (.ref da0)])) rfl (by rw [hml]; rfl) (argsL := [(.ref da0), (.int 5)]) (rest := []) (lenOf pd53 rfl) rfl rfl (Nat.le_of_eq rfl) (D at_338)
    obtain ⟨so_986, sv_986, ks_986, rfl, N986q, K986q, p986_0, p986_1, p986_2, p986_3⟩ := q986
    have N986 := Fr.app N0 N986q
    have O988 := Old0.keep O0 K986q all0
    have C987 := CHr.trans C0 (CHr.keep K986q sf0 C0.1)
    have hk := Nat.le_trans hk K986q.1
    refine GoS.of (T' := T986) (f' := (mkF m 341 #[iv p0, .val (.long p1), .second, .val (.long p2), .second, rv da0, s6, iv 5, s8, s9, s10] [(.ref so_986)])) (fun _ k => XS.ifYes X0.here hx rfl (pc0 := 327) (pc' := 334) rfl (D at_327) rfl ((if0 _ _).trans (feq hc981).2) (by decide) (by decide) (XS.aload X0.here hx rfl (D at_334) rfl rfl (XS.iload X0.here hx rfl (D at_336) rfl (st986 _ k)))) ?_
    exact rm_tail hw G p0 p1 p2 (da0) ((5 : Int32)) (so_986) (sv_986) (ks_986) ((5 : Int32)) (([((z0 &&& 255).toInt8.toInt32), ((z1 &&& 255).toInt8.toInt32), ((z2 &&& 255).toInt8.toInt32), ((z3 &&& 255).toInt8.toInt32), ((z4 &&& 255).toInt8.toInt32)] : List Int32)) (h_s6) (h_s8) (h_s9) (h_s10) hx hby hml hown hret hlk hZ hS hk  C987 rfl (Stand.more X986 (by decide) (by decide)) N986 O988 p986_0 p986_1 p986_2 p986_3 
set_option maxRecDepth 65536 in
set_option maxHeartbeats 40000000 in
theorem rm_t6 {l : Launch} {Z : State} {a0 : Array Value} {A : Nat → Addr} {KC : Nat → Cell} {IC : Nat → Int32} {VC : Nat → Value} (hw : ∀ d ∈ tables_1, d.before a0 Z = true) (G : own_Ctx Z A KC IC VC) {p : Program} {e : Env} {s : State} {m : MethodId} {below : List Frame} {meth : Method} {c : Code} {T0 : State} {vm0 : Vm} {h0 : Heap} {k0 : Nat} {locs0 : List Loc} (p0 : Int32) (p1 : Int64) (p2 : Int64) (da0 : Addr) (kd0 : ClassId) (z0 : Int32) (z1 : Int32) (z2 : Int32) (z3 : Int32) (z4 : Int32) (z5 : Int32) (z6 : Int32) (z7 : Int32) {s6 : Slot} (h_s6 : One s6) {s8 : Slot} (h_s8 : One s8) {s9 : Slot} (h_s9 : One s9) {s10 : Slot} (h_s10 : One s10)
    (hx : p.tables.exec = Jvm.exec) (hby : c.code = code) (hml : c.maxLocals = 11) (hown : vm0.findClass "com/example/fair_index/fairindex/csw/ResultTypeNamedPinLaw" = some m.cls) (hret : meth.sig.returnType = ret) (hlk : meth.locks = false) (hZ : Z.Warmed39 vm0) (hS : s.Since vm0 k0) (hk : k0 ≤ h0.size) (C0 : CHr Z own_EL s.vm s.heap vm0 h0) (e0 : T0.heap = h0) (X0 : Stand p l e room_1 (s.setVm vm0) m #[(.int p0), (.long p1), (.long p2)] below meth c T0 locs0 12 192) (N0 : Fr Z.heap.size locs0) (O0 : Ext Z.heap h0) (prem0 : Arv Z h0 da0 kd0 .char (8 : Int32) [(.int (z0 &&& (255 : Int32))), (.int (z1 &&& (255 : Int32))), (.int (z2 &&& (255 : Int32))), (.int (z3 &&& (255 : Int32))), (.int (z4 &&& (255 : Int32))), (.int (z5 &&& (255 : Int32))), (.int (z6 &&& (255 : Int32))), (.int (z7 &&& (255 : Int32)))] (.int (0 : Int32))) (prem1 : Z.heap.size ≤ da0)  :
    GoS p e s below room_1 Z own_EL (fun v h L => v = some (.int (1 : Int32)) ∧ (Fr Z.heap.size L)) T0 (mkF m 317 #[iv p0, .val (.long p1), .second, .val (.long p2), .second, rv da0, s6, iv (6 : Int32), s8, s9, s10] []) := by
  have hEL := own_EW hw
  have D := @hb _ _ hby
  have K0 : Keep h0 h0 [] := Keep.refl _ _
  refine GoS.of (T' := T0) (f' := (mkF m 321 #[iv p0, .val (.long p1), .second, .val (.long p2), .second, rv da0, s6, iv 6, s8, s9, s10] [(.long ((p2.toUInt64 >>> ((24 : Int32) &&& 0x3f).toInt64.toUInt64).toInt64))])) (fun _ k => XS.lloadN X0.here hx rfl (D at_317) rfl (XS.bipush X0.here hx rfl (D at_318) (XS.lushr X0.here hx rfl (D at_320) rfl k))) ?_
  generalize hpu : (((p2.toUInt64 >>> ((24 : Int32) &&& 0x3f).toInt64.toUInt64).toInt64) : Int64) = pu
  refine GoS.of (T' := T0) (f' := (mkF m 327 #[iv p0, .val (.long p1), .second, .val (.long p2), .second, rv da0, s6, iv 6, s8, s9, s10] [(.int (lcmpW (pu &&& (15 : Int64)) (0 : Int64)))])) (fun _ k => X0.ldc2Long hx hown (mvT hZ (own_w hw (i := 2) rfl)) (g := (mkF m 321 #[iv p0, .val (.long p1), .second, .val (.long p2), .second, rv da0, s6, iv 6, s8, s9, s10] [(.long pu)])) rfl (D at_321) _ (XS.land X0.here hx rfl (D at_324) rfl (XS.lconst X0.here hx rfl (D at_325) (XS.lcmp X0.here hx rfl (D at_326) rfl k)))) ?_
  by_cases hc989 : (lcmpW (pu &&& (15 : Int64)) (0 : Int64)) = (0 : Int32)
  · skip
    obtain ⟨T990, v990, L990, X990, q990, st990⟩ := callSt X0 hx hZ (y := own_m50) hown (own_w hw (i := 42) rfl) (own_w hw (i := 43) rfl) (own_w hw (i := 44) rfl) (own_w hw (i := 45) rfl) (by decide) (rm_namedz hw G   h0 O0 ) e0 (W := 0) (by decide) (by decide) (by decide) (by decide) (g := (mkF m 413 #[iv p0, .val (.long p1), .second, .val (.long p2), .second, rv da0, s6, iv 6, .val .null, .val .null, s10] [.null])) rfl (by rw [hml]; rfl) (argsL := [.null]) (rest := []) (lenOf pd52 rfl) rfl rfl (Nat.le_of_eq rfl) (D at_413)
    obtain ⟨rfl, N990q, K990q⟩ := q990
    have N990 := Fr.app N0 N990q
    have O992 := Old0.keep O0 K990q all0
    have C991 := CHr.trans C0 (CHr.keep K990q sf0 C0.1)
    have hk := Nat.le_trans hk K990q.1
    refine GoS.of (T' := T990) (f' := (mkF m 426 #[iv p0, .val (.long p1), .second, .val (.long p2), .second, rv da0, s6, iv 6, .val .null, .val .null, s10] [(.int 1)])) (fun _ k => XS.ifNo X0.here hx rfl (D at_327) rfl ((if0 _ _).trans (teq hc989).2) (XS.aconstNull X0.here hx rfl (D at_330) (XS.goto X0.here hx rfl (pc0 := 331) (pc' := 341) rfl (D at_331) (by decide) (by decide) (XS.astore X0.here hx rfl (D at_341) rfl rfl (l' := #[iv p0, .val (.long p1), .second, .val (.long p2), .second, rv da0, s6, iv 6, .val .null, s9, s10]) (XS.store1 (o := s8) rfl h_s8 rfl) (XS.aload X0.here hx rfl (D at_343) rfl rfl (XS.ifnonnullNo X0.here hx rfl (D at_345) rfl (XS.aconstNull X0.here hx rfl (D at_348) (XS.astore X0.here hx rfl (D at_349) rfl rfl (l' := #[iv p0, .val (.long p1), .second, .val (.long p2), .second, rv da0, s6, iv 6, .val .null, .val .null, s10]) (XS.store1 (o := s9) rfl h_s9 rfl) (XS.goto X0.here hx rfl (pc0 := 351) (pc' := 411) rfl (D at_351) (by decide) (by decide) (XS.aload X0.here hx rfl (D at_411) rfl rfl (st990 _ (XS.aload X990.here hx rfl (D at_416) rfl rfl (Jvm.RoadKit.acmp (g := (mkF m 418 #[iv p0, .val (.long p1), .second, .val (.long p2), .second, rv da0, s6, iv 6, .val .null, .val .null, s10] [.null, .null])) X990 hx rfl rfl rfl (pc0 := 418) (pc' := 421) (same := true) rfl (D at_418) rfl (decide_eq_true rfl) (by decide) (by decide) (XS.iconst X990.here hx rfl (D at_421) (XS.goto X990.here hx rfl (pc0 := 422) (pc' := 426) rfl (D at_422) (by decide) (by decide) k))))))))))))))) ?_
    exact GoS.retB X990 hx hlk hS hk hZ hEL C991 rfl hret (by simp) (D at_426) (by decide) (by decide) (z' := (1 : Int32)) rfl ⟨rfl, N990⟩
  · skip
    obtain ⟨T994, v994, L994, X994, q994, st994⟩ := callSt X0 hx hZ (y := own_m44) hown (own_w hw (i := 3) rfl) (own_w hw (i := 4) rfl) (own_w hw (i := 5) rfl) (own_w hw (i := 6) rfl) (by decide) (rm_make6 hw G da0 kd0 z0 z1 z2 z3 z4 z5 z6 z7 h0 O0 prem0) e0 (W := 0) (by decide) (by decide) (by decide) (by decide) (g := (mkF m 338 #[iv p0, .val (.long p1), .second, .val (.long p2), .second, rv da0, s6, iv 6, s8, s9, s10] [(.int 6), (.ref da0)])) rfl (by rw [hml]; rfl) (argsL := [(.ref da0), (.int 6)]) (rest := []) (lenOf pd53 rfl) rfl rfl (Nat.le_of_eq rfl) (D at_338)
    obtain ⟨so_994, sv_994, ks_994, rfl, N994q, K994q, p994_0, p994_1, p994_2, p994_3⟩ := q994
    have N994 := Fr.app N0 N994q
    have O996 := Old0.keep O0 K994q all0
    have C995 := CHr.trans C0 (CHr.keep K994q sf0 C0.1)
    have hk := Nat.le_trans hk K994q.1
    refine GoS.of (T' := T994) (f' := (mkF m 341 #[iv p0, .val (.long p1), .second, .val (.long p2), .second, rv da0, s6, iv 6, s8, s9, s10] [(.ref so_994)])) (fun _ k => XS.ifYes X0.here hx rfl (pc0 := 327) (pc' := 334) rfl (D at_327) rfl ((if0 _ _).trans (feq hc989).2) (by decide) (by decide) (XS.aload X0.here hx rfl (D at_334) rfl rfl (XS.iload X0.here hx rfl (D at_336) rfl (st994 _ k)))) ?_
    exact rm_tail hw G p0 p1 p2 (da0) ((6 : Int32)) (so_994) (sv_994) (ks_994) ((6 : Int32)) (([((z0 &&& 255).toInt8.toInt32), ((z1 &&& 255).toInt8.toInt32), ((z2 &&& 255).toInt8.toInt32), ((z3 &&& 255).toInt8.toInt32), ((z4 &&& 255).toInt8.toInt32), ((z5 &&& 255).toInt8.toInt32)] : List Int32)) (h_s6) (h_s8) (h_s9) (h_s10) hx hby hml hown hret hlk hZ hS hk  C995 rfl (Stand.more X994 (by decide) (by decide)) N994 O996 p994_0 p994_1 p994_2 p994_3 
set_option maxRecDepth 65536 in
set_option maxHeartbeats 40000000 in
theorem rm_t7 {l : Launch} {Z : State} {a0 : Array Value} {A : Nat → Addr} {KC : Nat → Cell} {IC : Nat → Int32} {VC : Nat → Value} (hw : ∀ d ∈ tables_1, d.before a0 Z = true) (G : own_Ctx Z A KC IC VC) {p : Program} {e : Env} {s : State} {m : MethodId} {below : List Frame} {meth : Method} {c : Code} {T0 : State} {vm0 : Vm} {h0 : Heap} {k0 : Nat} {locs0 : List Loc} (p0 : Int32) (p1 : Int64) (p2 : Int64) (da0 : Addr) (kd0 : ClassId) (z0 : Int32) (z1 : Int32) (z2 : Int32) (z3 : Int32) (z4 : Int32) (z5 : Int32) (z6 : Int32) (z7 : Int32) {s6 : Slot} (h_s6 : One s6) {s8 : Slot} (h_s8 : One s8) {s9 : Slot} (h_s9 : One s9) {s10 : Slot} (h_s10 : One s10)
    (hx : p.tables.exec = Jvm.exec) (hby : c.code = code) (hml : c.maxLocals = 11) (hown : vm0.findClass "com/example/fair_index/fairindex/csw/ResultTypeNamedPinLaw" = some m.cls) (hret : meth.sig.returnType = ret) (hlk : meth.locks = false) (hZ : Z.Warmed39 vm0) (hS : s.Since vm0 k0) (hk : k0 ≤ h0.size) (C0 : CHr Z own_EL s.vm s.heap vm0 h0) (e0 : T0.heap = h0) (X0 : Stand p l e room_1 (s.setVm vm0) m #[(.int p0), (.long p1), (.long p2)] below meth c T0 locs0 12 192) (N0 : Fr Z.heap.size locs0) (O0 : Ext Z.heap h0) (prem0 : Arv Z h0 da0 kd0 .char (8 : Int32) [(.int (z0 &&& (255 : Int32))), (.int (z1 &&& (255 : Int32))), (.int (z2 &&& (255 : Int32))), (.int (z3 &&& (255 : Int32))), (.int (z4 &&& (255 : Int32))), (.int (z5 &&& (255 : Int32))), (.int (z6 &&& (255 : Int32))), (.int (z7 &&& (255 : Int32)))] (.int (0 : Int32))) (prem1 : Z.heap.size ≤ da0)  :
    GoS p e s below room_1 Z own_EL (fun v h L => v = some (.int (1 : Int32)) ∧ (Fr Z.heap.size L)) T0 (mkF m 317 #[iv p0, .val (.long p1), .second, .val (.long p2), .second, rv da0, s6, iv (7 : Int32), s8, s9, s10] []) := by
  have hEL := own_EW hw
  have D := @hb _ _ hby
  have K0 : Keep h0 h0 [] := Keep.refl _ _
  refine GoS.of (T' := T0) (f' := (mkF m 321 #[iv p0, .val (.long p1), .second, .val (.long p2), .second, rv da0, s6, iv 7, s8, s9, s10] [(.long ((p2.toUInt64 >>> ((24 : Int32) &&& 0x3f).toInt64.toUInt64).toInt64))])) (fun _ k => XS.lloadN X0.here hx rfl (D at_317) rfl (XS.bipush X0.here hx rfl (D at_318) (XS.lushr X0.here hx rfl (D at_320) rfl k))) ?_
  generalize hpu : (((p2.toUInt64 >>> ((24 : Int32) &&& 0x3f).toInt64.toUInt64).toInt64) : Int64) = pu
  refine GoS.of (T' := T0) (f' := (mkF m 327 #[iv p0, .val (.long p1), .second, .val (.long p2), .second, rv da0, s6, iv 7, s8, s9, s10] [(.int (lcmpW (pu &&& (15 : Int64)) (0 : Int64)))])) (fun _ k => X0.ldc2Long hx hown (mvT hZ (own_w hw (i := 2) rfl)) (g := (mkF m 321 #[iv p0, .val (.long p1), .second, .val (.long p2), .second, rv da0, s6, iv 7, s8, s9, s10] [(.long pu)])) rfl (D at_321) _ (XS.land X0.here hx rfl (D at_324) rfl (XS.lconst X0.here hx rfl (D at_325) (XS.lcmp X0.here hx rfl (D at_326) rfl k)))) ?_
  by_cases hc997 : (lcmpW (pu &&& (15 : Int64)) (0 : Int64)) = (0 : Int32)
  · skip
    obtain ⟨T998, v998, L998, X998, q998, st998⟩ := callSt X0 hx hZ (y := own_m50) hown (own_w hw (i := 42) rfl) (own_w hw (i := 43) rfl) (own_w hw (i := 44) rfl) (own_w hw (i := 45) rfl) (by decide) (rm_namedz hw G   h0 O0 ) e0 (W := 0) (by decide) (by decide) (by decide) (by decide) (g := (mkF m 413 #[iv p0, .val (.long p1), .second, .val (.long p2), .second, rv da0, s6, iv 7, .val .null, .val .null, s10] [.null])) rfl (by rw [hml]; rfl) (argsL := [.null]) (rest := []) (lenOf pd52 rfl) rfl rfl (Nat.le_of_eq rfl) (D at_413)
    obtain ⟨rfl, N998q, K998q⟩ := q998
    have N998 := Fr.app N0 N998q
    have O1000 := Old0.keep O0 K998q all0
    have C999 := CHr.trans C0 (CHr.keep K998q sf0 C0.1)
    have hk := Nat.le_trans hk K998q.1
    refine GoS.of (T' := T998) (f' := (mkF m 426 #[iv p0, .val (.long p1), .second, .val (.long p2), .second, rv da0, s6, iv 7, .val .null, .val .null, s10] [(.int 1)])) (fun _ k => XS.ifNo X0.here hx rfl (D at_327) rfl ((if0 _ _).trans (teq hc997).2) (XS.aconstNull X0.here hx rfl (D at_330) (XS.goto X0.here hx rfl (pc0 := 331) (pc' := 341) rfl (D at_331) (by decide) (by decide) (XS.astore X0.here hx rfl (D at_341) rfl rfl (l' := #[iv p0, .val (.long p1), .second, .val (.long p2), .second, rv da0, s6, iv 7, .val .null, s9, s10]) (XS.store1 (o := s8) rfl h_s8 rfl) (XS.aload X0.here hx rfl (D at_343) rfl rfl (XS.ifnonnullNo X0.here hx rfl (D at_345) rfl (XS.aconstNull X0.here hx rfl (D at_348) (XS.astore X0.here hx rfl (D at_349) rfl rfl (l' := #[iv p0, .val (.long p1), .second, .val (.long p2), .second, rv da0, s6, iv 7, .val .null, .val .null, s10]) (XS.store1 (o := s9) rfl h_s9 rfl) (XS.goto X0.here hx rfl (pc0 := 351) (pc' := 411) rfl (D at_351) (by decide) (by decide) (XS.aload X0.here hx rfl (D at_411) rfl rfl (st998 _ (XS.aload X998.here hx rfl (D at_416) rfl rfl (Jvm.RoadKit.acmp (g := (mkF m 418 #[iv p0, .val (.long p1), .second, .val (.long p2), .second, rv da0, s6, iv 7, .val .null, .val .null, s10] [.null, .null])) X998 hx rfl rfl rfl (pc0 := 418) (pc' := 421) (same := true) rfl (D at_418) rfl (decide_eq_true rfl) (by decide) (by decide) (XS.iconst X998.here hx rfl (D at_421) (XS.goto X998.here hx rfl (pc0 := 422) (pc' := 426) rfl (D at_422) (by decide) (by decide) k))))))))))))))) ?_
    exact GoS.retB X998 hx hlk hS hk hZ hEL C999 rfl hret (by simp) (D at_426) (by decide) (by decide) (z' := (1 : Int32)) rfl ⟨rfl, N998⟩
  · skip
    obtain ⟨T1002, v1002, L1002, X1002, q1002, st1002⟩ := callSt X0 hx hZ (y := own_m44) hown (own_w hw (i := 3) rfl) (own_w hw (i := 4) rfl) (own_w hw (i := 5) rfl) (own_w hw (i := 6) rfl) (by decide) (rm_make7 hw G da0 kd0 z0 z1 z2 z3 z4 z5 z6 z7 h0 O0 prem0) e0 (W := 0) (by decide) (by decide) (by decide) (by decide) (g := (mkF m 338 #[iv p0, .val (.long p1), .second, .val (.long p2), .second, rv da0, s6, iv 7, s8, s9, s10] [(.int 7), (.ref da0)])) rfl (by rw [hml]; rfl) (argsL := [(.ref da0), (.int 7)]) (rest := []) (lenOf pd53 rfl) rfl rfl (Nat.le_of_eq rfl) (D at_338)
    obtain ⟨so_1002, sv_1002, ks_1002, rfl, N1002q, K1002q, p1002_0, p1002_1, p1002_2, p1002_3⟩ := q1002
    have N1002 := Fr.app N0 N1002q
    have O1004 := Old0.keep O0 K1002q all0
    have C1003 := CHr.trans C0 (CHr.keep K1002q sf0 C0.1)
    have hk := Nat.le_trans hk K1002q.1
    refine GoS.of (T' := T1002) (f' := (mkF m 341 #[iv p0, .val (.long p1), .second, .val (.long p2), .second, rv da0, s6, iv 7, s8, s9, s10] [(.ref so_1002)])) (fun _ k => XS.ifYes X0.here hx rfl (pc0 := 327) (pc' := 334) rfl (D at_327) rfl ((if0 _ _).trans (feq hc997).2) (by decide) (by decide) (XS.aload X0.here hx rfl (D at_334) rfl rfl (XS.iload X0.here hx rfl (D at_336) rfl (st1002 _ k)))) ?_
    exact rm_tail hw G p0 p1 p2 (da0) ((7 : Int32)) (so_1002) (sv_1002) (ks_1002) ((7 : Int32)) (([((z0 &&& 255).toInt8.toInt32), ((z1 &&& 255).toInt8.toInt32), ((z2 &&& 255).toInt8.toInt32), ((z3 &&& 255).toInt8.toInt32), ((z4 &&& 255).toInt8.toInt32), ((z5 &&& 255).toInt8.toInt32), ((z6 &&& 255).toInt8.toInt32)] : List Int32)) (h_s6) (h_s8) (h_s9) (h_s10) hx hby hml hown hret hlk hZ hS hk  C1003 rfl (Stand.more X1002 (by decide) (by decide)) N1002 O1004 p1002_0 p1002_1 p1002_2 p1002_3 
set_option maxRecDepth 65536 in
set_option maxHeartbeats 40000000 in
theorem rm_t8 {l : Launch} {Z : State} {a0 : Array Value} {A : Nat → Addr} {KC : Nat → Cell} {IC : Nat → Int32} {VC : Nat → Value} (hw : ∀ d ∈ tables_1, d.before a0 Z = true) (G : own_Ctx Z A KC IC VC) {p : Program} {e : Env} {s : State} {m : MethodId} {below : List Frame} {meth : Method} {c : Code} {T0 : State} {vm0 : Vm} {h0 : Heap} {k0 : Nat} {locs0 : List Loc} (p0 : Int32) (p1 : Int64) (p2 : Int64) (da0 : Addr) (kd0 : ClassId) (z0 : Int32) (z1 : Int32) (z2 : Int32) (z3 : Int32) (z4 : Int32) (z5 : Int32) (z6 : Int32) (z7 : Int32) {s6 : Slot} (h_s6 : One s6) {s8 : Slot} (h_s8 : One s8) {s9 : Slot} (h_s9 : One s9) {s10 : Slot} (h_s10 : One s10)
    (hx : p.tables.exec = Jvm.exec) (hby : c.code = code) (hml : c.maxLocals = 11) (hown : vm0.findClass "com/example/fair_index/fairindex/csw/ResultTypeNamedPinLaw" = some m.cls) (hret : meth.sig.returnType = ret) (hlk : meth.locks = false) (hZ : Z.Warmed39 vm0) (hS : s.Since vm0 k0) (hk : k0 ≤ h0.size) (C0 : CHr Z own_EL s.vm s.heap vm0 h0) (e0 : T0.heap = h0) (X0 : Stand p l e room_1 (s.setVm vm0) m #[(.int p0), (.long p1), (.long p2)] below meth c T0 locs0 12 192) (N0 : Fr Z.heap.size locs0) (O0 : Ext Z.heap h0) (prem0 : Arv Z h0 da0 kd0 .char (8 : Int32) [(.int (z0 &&& (255 : Int32))), (.int (z1 &&& (255 : Int32))), (.int (z2 &&& (255 : Int32))), (.int (z3 &&& (255 : Int32))), (.int (z4 &&& (255 : Int32))), (.int (z5 &&& (255 : Int32))), (.int (z6 &&& (255 : Int32))), (.int (z7 &&& (255 : Int32)))] (.int (0 : Int32))) (prem1 : Z.heap.size ≤ da0)  :
    GoS p e s below room_1 Z own_EL (fun v h L => v = some (.int (1 : Int32)) ∧ (Fr Z.heap.size L)) T0 (mkF m 317 #[iv p0, .val (.long p1), .second, .val (.long p2), .second, rv da0, s6, iv (8 : Int32), s8, s9, s10] []) := by
  have hEL := own_EW hw
  have D := @hb _ _ hby
  have K0 : Keep h0 h0 [] := Keep.refl _ _
  refine GoS.of (T' := T0) (f' := (mkF m 321 #[iv p0, .val (.long p1), .second, .val (.long p2), .second, rv da0, s6, iv 8, s8, s9, s10] [(.long ((p2.toUInt64 >>> ((24 : Int32) &&& 0x3f).toInt64.toUInt64).toInt64))])) (fun _ k => XS.lloadN X0.here hx rfl (D at_317) rfl (XS.bipush X0.here hx rfl (D at_318) (XS.lushr X0.here hx rfl (D at_320) rfl k))) ?_
  generalize hpu : (((p2.toUInt64 >>> ((24 : Int32) &&& 0x3f).toInt64.toUInt64).toInt64) : Int64) = pu
  refine GoS.of (T' := T0) (f' := (mkF m 327 #[iv p0, .val (.long p1), .second, .val (.long p2), .second, rv da0, s6, iv 8, s8, s9, s10] [(.int (lcmpW (pu &&& (15 : Int64)) (0 : Int64)))])) (fun _ k => X0.ldc2Long hx hown (mvT hZ (own_w hw (i := 2) rfl)) (g := (mkF m 321 #[iv p0, .val (.long p1), .second, .val (.long p2), .second, rv da0, s6, iv 8, s8, s9, s10] [(.long pu)])) rfl (D at_321) _ (XS.land X0.here hx rfl (D at_324) rfl (XS.lconst X0.here hx rfl (D at_325) (XS.lcmp X0.here hx rfl (D at_326) rfl k)))) ?_
  by_cases hc1005 : (lcmpW (pu &&& (15 : Int64)) (0 : Int64)) = (0 : Int32)
  · skip
    obtain ⟨T1006, v1006, L1006, X1006, q1006, st1006⟩ := callSt X0 hx hZ (y := own_m50) hown (own_w hw (i := 42) rfl) (own_w hw (i := 43) rfl) (own_w hw (i := 44) rfl) (own_w hw (i := 45) rfl) (by decide) (rm_namedz hw G   h0 O0 ) e0 (W := 0) (by decide) (by decide) (by decide) (by decide) (g := (mkF m 413 #[iv p0, .val (.long p1), .second, .val (.long p2), .second, rv da0, s6, iv 8, .val .null, .val .null, s10] [.null])) rfl (by rw [hml]; rfl) (argsL := [.null]) (rest := []) (lenOf pd52 rfl) rfl rfl (Nat.le_of_eq rfl) (D at_413)
    obtain ⟨rfl, N1006q, K1006q⟩ := q1006
    have N1006 := Fr.app N0 N1006q
    have O1008 := Old0.keep O0 K1006q all0
    have C1007 := CHr.trans C0 (CHr.keep K1006q sf0 C0.1)
    have hk := Nat.le_trans hk K1006q.1
    refine GoS.of (T' := T1006) (f' := (mkF m 426 #[iv p0, .val (.long p1), .second, .val (.long p2), .second, rv da0, s6, iv 8, .val .null, .val .null, s10] [(.int 1)])) (fun _ k => XS.ifNo X0.here hx rfl (D at_327) rfl ((if0 _ _).trans (teq hc1005).2) (XS.aconstNull X0.here hx rfl (D at_330) (XS.goto X0.here hx rfl (pc0 := 331) (pc' := 341) rfl (D at_331) (by decide) (by decide) (XS.astore X0.here hx rfl (D at_341) rfl rfl (l' := #[iv p0, .val (.long p1), .second, .val (.long p2), .second, rv da0, s6, iv 8, .val .null, s9, s10]) (XS.store1 (o := s8) rfl h_s8 rfl) (XS.aload X0.here hx rfl (D at_343) rfl rfl (XS.ifnonnullNo X0.here hx rfl (D at_345) rfl (XS.aconstNull X0.here hx rfl (D at_348) (XS.astore X0.here hx rfl (D at_349) rfl rfl (l' := #[iv p0, .val (.long p1), .second, .val (.long p2), .second, rv da0, s6, iv 8, .val .null, .val .null, s10]) (XS.store1 (o := s9) rfl h_s9 rfl) (XS.goto X0.here hx rfl (pc0 := 351) (pc' := 411) rfl (D at_351) (by decide) (by decide) (XS.aload X0.here hx rfl (D at_411) rfl rfl (st1006 _ (XS.aload X1006.here hx rfl (D at_416) rfl rfl (Jvm.RoadKit.acmp (g := (mkF m 418 #[iv p0, .val (.long p1), .second, .val (.long p2), .second, rv da0, s6, iv 8, .val .null, .val .null, s10] [.null, .null])) X1006 hx rfl rfl rfl (pc0 := 418) (pc' := 421) (same := true) rfl (D at_418) rfl (decide_eq_true rfl) (by decide) (by decide) (XS.iconst X1006.here hx rfl (D at_421) (XS.goto X1006.here hx rfl (pc0 := 422) (pc' := 426) rfl (D at_422) (by decide) (by decide) k))))))))))))))) ?_
    exact GoS.retB X1006 hx hlk hS hk hZ hEL C1007 rfl hret (by simp) (D at_426) (by decide) (by decide) (z' := (1 : Int32)) rfl ⟨rfl, N1006⟩
  · skip
    obtain ⟨T1010, v1010, L1010, X1010, q1010, st1010⟩ := callSt X0 hx hZ (y := own_m44) hown (own_w hw (i := 3) rfl) (own_w hw (i := 4) rfl) (own_w hw (i := 5) rfl) (own_w hw (i := 6) rfl) (by decide) (rm_make8 hw G da0 kd0 z0 z1 z2 z3 z4 z5 z6 z7 h0 O0 prem0) e0 (W := 0) (by decide) (by decide) (by decide) (by decide) (g := (mkF m 338 #[iv p0, .val (.long p1), .second, .val (.long p2), .second, rv da0, s6, iv 8, s8, s9, s10] [(.int 8), (.ref da0)])) rfl (by rw [hml]; rfl) (argsL := [(.ref da0), (.int 8)]) (rest := []) (lenOf pd53 rfl) rfl rfl (Nat.le_of_eq rfl) (D at_338)
    obtain ⟨so_1010, sv_1010, ks_1010, rfl, N1010q, K1010q, p1010_0, p1010_1, p1010_2, p1010_3⟩ := q1010
    have N1010 := Fr.app N0 N1010q
    have O1012 := Old0.keep O0 K1010q all0
    have C1011 := CHr.trans C0 (CHr.keep K1010q sf0 C0.1)
    have hk := Nat.le_trans hk K1010q.1
    refine GoS.of (T' := T1010) (f' := (mkF m 341 #[iv p0, .val (.long p1), .second, .val (.long p2), .second, rv da0, s6, iv 8, s8, s9, s10] [(.ref so_1010)])) (fun _ k => XS.ifYes X0.here hx rfl (pc0 := 327) (pc' := 334) rfl (D at_327) rfl ((if0 _ _).trans (feq hc1005).2) (by decide) (by decide) (XS.aload X0.here hx rfl (D at_334) rfl rfl (XS.iload X0.here hx rfl (D at_336) rfl (st1010 _ k)))) ?_
    exact rm_tail hw G p0 p1 p2 (da0) ((8 : Int32)) (so_1010) (sv_1010) (ks_1010) ((8 : Int32)) (([((z0 &&& 255).toInt8.toInt32), ((z1 &&& 255).toInt8.toInt32), ((z2 &&& 255).toInt8.toInt32), ((z3 &&& 255).toInt8.toInt32), ((z4 &&& 255).toInt8.toInt32), ((z5 &&& 255).toInt8.toInt32), ((z6 &&& 255).toInt8.toInt32), ((z7 &&& 255).toInt8.toInt32)] : List Int32)) (h_s6) (h_s8) (h_s9) (h_s10) hx hby hml hown hret hlk hZ hS hk  C1011 rfl (Stand.more X1010 (by decide) (by decide)) N1010 O1012 p1010_0 p1010_1 p1010_2 p1010_3 
theorem own_mod (x : Int32) (hx : 0 ≤ x.toInt) (m : Int32) (k : Nat) (hm : m.toInt = k) (hk : 0 < k) : ∃ j : Nat, j < k ∧ x % m = Int32.ofNat j := by
  have h2 := (c_irem x m k hm).1 hx
  have r := rng32 (x % m)
  have r2 := rng32 m
  have p1 := Int.emod_nonneg x.toInt (show (k : Int) ≠ 0 by omega)
  have p2 := Int.emod_lt_of_pos x.toInt (show (0 : Int) < k by omega)
  refine ⟨(x.toInt % k).toNat, by omega, ?_⟩
  rw [← Int32.toInt_inj, h2, Int32.toInt_ofNat_of_lt (by omega)]
  omega
theorem own_ush (x : Int32) : 0 ≤ ((x.toUInt32 >>> ((2 : Int32) &&& 31).toUInt32).toInt32).toInt := by
  rw [c_iushr x 2 2 (by decide) (by decide)]
  omega
theorem own_land (x : Int64) : 0 ≤ (x &&& (255 : Int64)).toInt := by
  have h : (x &&& (255 : Int64)).toBitVec.toNat ≤ 255 := by
    rw [Int64.toBitVec_and, BitVec.toNat_and]
    exact Nat.and_le_right
  show 0 ≤ (x &&& (255 : Int64)).toBitVec.toInt
  rw [BitVec.toInt_eq_toNat_of_lt (by omega)]
  omega
theorem own_modL (x m : Int64) (k : Nat) (hm : m.toInt = k) (hk : 0 < k) (hk2 : k ≤ 100) : ∃ j : Nat, j < k ∧ ((x &&& (255 : Int64)) % m).toInt32 = Int32.ofNat j := by
  have h0 := own_land x
  have h2 : ((x &&& (255 : Int64)) % m).toInt = (x &&& (255 : Int64)).toInt % k := by
    rw [← lrem_mod]
    exact (c_lrem _ m k hm).1 h0
  have p1 := Int.emod_nonneg (x &&& (255 : Int64)).toInt (show (k : Int) ≠ 0 by omega)
  have p2 := Int.emod_lt_of_pos (x &&& (255 : Int64)).toInt (show (0 : Int) < k by omega)
  have h3 := c_l2i ((x &&& (255 : Int64)) % m)
  have r := rng32 ((x &&& (255 : Int64)) % m).toInt32
  refine ⟨((x &&& (255 : Int64)).toInt % k).toNat, by omega, ?_⟩
  rw [← Int32.toInt_inj, Int32.toInt_ofNat_of_lt (by omega)]
  omega
theorem own_cL255 (x : Int64) : nar .char ((x &&& (255 : Int64)).toInt32.toUInt32.toUInt16.toUInt32.toInt32) = x.toInt32 &&& 255 := by
  rw [Int64.toInt32_and]
  exact own_c255 _
set_option maxRecDepth 65536 in
set_option maxHeartbeats 40000000 in
theorem rm_u3 {l : Launch} {Z : State} {a0 : Array Value} {A : Nat → Addr} {KC : Nat → Cell} {IC : Nat → Int32} {VC : Nat → Value} (hw : ∀ d ∈ tables_1, d.before a0 Z = true) (G : own_Ctx Z A KC IC VC) {p : Program} {e : Env} {s : State} {m : MethodId} {below : List Frame} {meth : Method} {c : Code} {T0 : State} {vm0 : Vm} {h0 : Heap} {k0 : Nat} {locs0 : List Loc} (p0 : Int32) (p1 : Int64) (p2 : Int64) (da0 : Addr) (kd0 : ClassId) (z0 : Int32) (z1 : Int32) (z2 : Int32) (z3 : Int32) (z4 : Int32) (z5 : Int32) (z6 : Int32) (z7 : Int32) {s6 : Slot} (h_s6 : One s6) {s8 : Slot} (h_s8 : One s8) {s9 : Slot} (h_s9 : One s9) {s10 : Slot} (h_s10 : One s10)
    (hx : p.tables.exec = Jvm.exec) (hby : c.code = code) (hml : c.maxLocals = 11) (hown : vm0.findClass "com/example/fair_index/fairindex/csw/ResultTypeNamedPinLaw" = some m.cls) (hret : meth.sig.returnType = ret) (hlk : meth.locks = false) (hZ : Z.Warmed39 vm0) (hS : s.Since vm0 k0) (hk : k0 ≤ h0.size) (C0 : CHr Z own_EL s.vm s.heap vm0 h0) (e0 : T0.heap = h0) (X0 : Stand p l e room_1 (s.setVm vm0) m #[(.int p0), (.long p1), (.long p2)] below meth c T0 locs0 8 128) (N0 : Fr Z.heap.size locs0) (O0 : Ext Z.heap h0) (prem0 : Arv Z h0 da0 kd0 .char (8 : Int32) [(.int (z0 &&& (255 : Int32))), (.int (z1 &&& (255 : Int32))), (.int (z2 &&& (255 : Int32))), (.int (z3 &&& (255 : Int32))), (.int (z4 &&& (255 : Int32))), (.int (z5 &&& (255 : Int32))), (.int (z6 &&& (255 : Int32))), (.int (z7 &&& (255 : Int32)))] (.int (0 : Int32))) (prem1 : Z.heap.size ≤ da0)  :
    GoS p e s below room_1 Z own_EL (fun v h L => v = some (.int (1 : Int32)) ∧ (Fr Z.heap.size L)) T0 (mkF m 280 #[iv p0, .val (.long p1), .second, .val (.long p2), .second, rv da0, s6, iv (3 : Int32), s8, s9, s10] []) := by
  have hEL := own_EW hw
  have D := @hb _ _ hby
  have K0 : Keep h0 h0 [] := Keep.refl _ _
  refine GoS.of (T' := T0) (f' := (mkF m 285 #[iv p0, .val (.long p1), .second, .val (.long p2), .second, rv da0, s6, iv 3, s8, s9, s10] [(.int (lcmpW (p2 &&& (1 : Int64)) (0 : Int64)))])) (fun _ k => XS.lloadN X0.here hx rfl (D at_280) rfl (XS.lconst X0.here hx rfl (D at_281) (XS.land X0.here hx rfl (D at_282) rfl (XS.lconst X0.here hx rfl (D at_283) (XS.lcmp X0.here hx rfl (D at_284) rfl k))))) ?_
  by_cases hc1013 : (lcmpW (p2 &&& (1 : Int64)) (0 : Int64)) = (0 : Int32)
  · skip
    refine GoS.of (T' := T0) (f' := (mkF m 317 #[iv p0, .val (.long p1), .second, .val (.long p2), .second, rv da0, s6, iv 3, s8, s9, s10] [])) (fun _ k => XS.ifYes X0.here hx rfl (pc0 := 285) (pc' := 317) rfl (D at_285) rfl ((if0 _ _).trans (teq hc1013).1) (by decide) (by decide) k) ?_
    exact rm_t3 hw G p0 p1 p2 (da0) (kd0) (z0) (z1) (z2) (z3) (z4) (z5) (z6) (z7) (h_s6) (h_s8) (h_s9) (h_s10) hx hby hml hown hret hlk hZ hS hk  C0 e0 (Stand.more X0 (by decide) (by decide)) N0 O0 prem0 prem1 
  · skip
    refine GoS.of (T' := T0) (f' := (mkF m 291 #[iv p0, .val (.long p1), .second, .val (.long p2), .second, rv da0, s6, iv 3, s8, s9, s10] [(.long ((p2.toUInt64 >>> ((1 : Int32) &&& 0x3f).toInt64.toUInt64).toInt64))])) (fun _ k => XS.ifNo X0.here hx rfl (D at_285) rfl ((if0 _ _).trans (feq hc1013).1) (XS.lloadN X0.here hx rfl (D at_288) rfl (XS.iconst X0.here hx rfl (D at_289) (XS.lushr X0.here hx rfl (D at_290) rfl k)))) ?_
    generalize hpz : (((p2.toUInt64 >>> ((1 : Int32) &&& 0x3f).toInt64.toUInt64).toInt64) : Int64) = pz
    obtain ⟨j, hj, hje⟩ := own_modL pz (3 : Int64) 3 (by decide) (by decide) (by decide)
    refine GoS.of (T' := T0) (f' := (mkF m 302 #[iv p0, .val (.long p1), .second, .val (.long p2), .second, rv da0, s6, iv 3, s8, s9, iv (((pz &&& (255 : Int64)) % (3 : Int64)).toInt32)] [])) (fun _ k => X0.ldc2Long hx hown (mvT hZ (own_w hw (i := 1) rfl)) (g := (mkF m 291 #[iv p0, .val (.long p1), .second, .val (.long p2), .second, rv da0, s6, iv 3, s8, s9, s10] [(.long pz)])) rfl (D at_291) _ (XS.land X0.here hx rfl (D at_294) rfl (XS.iload X0.here hx rfl (D at_295) rfl (XS.i2l X0.here hx rfl (D at_297) rfl (XS.lrem X0.here hx rfl (D at_298) rfl (by decide) (by rw [lrem_mod]; exact (XS.l2i X0.here hx rfl (D at_299) rfl (XS.istore X0.here hx rfl (D at_300) rfl (l' := #[iv p0, .val (.long p1), .second, .val (.long p2), .second, rv da0, s6, iv 3, s8, s9, iv (((pz &&& (255 : Int64)) % (3 : Int64)).toInt32)]) (XS.store1 (o := s10) rfl h_s10 rfl) k)))))))) ?_
    rw [hje]
    match j, hj with
    | 0, _ =>
      refine GoS.cast (f' := (mkF m 302 #[iv p0, .val (.long p1), .second, .val (.long p2), .second, rv da0, s6, iv 3, s8, s9, iv 0] [])) rfl ?_
      refine GoS.of (T' := T0) (f' := (mkF m 310 #[iv p0, .val (.long p1), .second, .val (.long p2), .second, rv da0, s6, iv 3, s8, s9, iv 0] [(.long ((p2.toUInt64 >>> ((16 : Int32) &&& 0x3f).toInt64.toUInt64).toInt64)), (.int 0), (.ref da0)])) (fun _ k => XS.aload X0.here hx rfl (D at_302) rfl rfl (XS.iload X0.here hx rfl (D at_304) rfl (XS.lloadN X0.here hx rfl (D at_306) rfl (XS.bipush X0.here hx rfl (D at_307) (XS.lushr X0.here hx rfl (D at_309) rfl k))))) ?_
      generalize hpy : (((p2.toUInt64 >>> ((16 : Int32) &&& 0x3f).toInt64.toUInt64).toInt64) : Int64) = py
      obtain ⟨cl1014, Ar1014, qk1014, S1014, Ng1014, H1014, G1014⟩ := id prem0
      obtain ⟨T1014, h1014, X1014, e1014, W1014, st1014⟩ := stC X0 hx hZ e0 Ar1014 (j := (0 : Int32)) (inb_of S1014 ⟨by decide, by decide⟩) (g := (mkF m 316 #[iv p0, .val (.long p1), .second, .val (.long p2), .second, rv da0, s6, iv 3, s8, s9, iv 0] [(.int (((py &&& (255 : Int64)).toInt32).toUInt32.toUInt16.toUInt32.toInt32)), (.int 0), (.ref da0)])) rfl rfl (D at_316)
      have W1014 : Wr h0 h1014 da0 ((0 : Int32)).toNatClampNeg (.int (py.toInt32 &&& 255)) := Eq.mp (congrArg (fun z => Wr h0 h1014 da0 ((0 : Int32)).toNatClampNeg (Value.int z)) (own_cL255 py)) W1014
      have O1016 := Old0.wr O0 W1014 prem1
      have C1015 := CHr.trans C0 (CHr.wr W1014 (Safe.arv hZ.alike prem0 (by decide)) C0.1)
      have hk := Nat.le_trans hk (Keep.of_wr W1014).1
      have f1014 : Arv Z h1014 da0 kd0 .char (8 : Int32) [(.int (py.toInt32 &&& 255)), (.int (z1 &&& 255)), (.int (z2 &&& 255)), (.int (z3 &&& 255)), (.int (z4 &&& 255)), (.int (z5 &&& 255)), (.int (z6 &&& 255)), (.int (z7 &&& 255))] (.int 0) := Arv.set Ar1014 qk1014 S1014 Ng1014 H1014 G1014 (v := (.int (py.toInt32 &&& 255))) (own_f255 py.toInt32) W1014 0 rfl (Nat.le_of_ble_eq_true rfl)
      have N1014 := Fr.snoc X1014 N0 prem1
      refine GoS.of (T' := T1014) (f' := (mkF m 317 #[iv p0, .val (.long p1), .second, .val (.long p2), .second, rv da0, s6, iv 3, s8, s9, iv 0] [])) (fun _ k => X0.ldc2Long hx hown (mvT hZ (own_w hw (i := 1) rfl)) (g := (mkF m 310 #[iv p0, .val (.long p1), .second, .val (.long p2), .second, rv da0, s6, iv 3, s8, s9, iv 0] [(.long py), (.int 0), (.ref da0)])) rfl (D at_310) _ (XS.land X0.here hx rfl (D at_313) rfl (XS.l2i X0.here hx rfl (D at_314) rfl (XS.i2c X0.here hx rfl (D at_315) rfl (st1014 _ k))))) ?_
      exact rm_t3 hw G p0 p1 p2 (da0) (kd0) (py.toInt32) (z1) (z2) (z3) (z4) (z5) (z6) (z7) (h_s6) (h_s8) (h_s9) (One.val rfl) hx hby hml hown hret hlk hZ hS hk  C1015 e1014 (Stand.more X1014 (by decide) (by decide)) N1014 O1016 f1014 prem1 
    | 1, _ =>
      refine GoS.cast (f' := (mkF m 302 #[iv p0, .val (.long p1), .second, .val (.long p2), .second, rv da0, s6, iv 3, s8, s9, iv 1] [])) rfl ?_
      refine GoS.of (T' := T0) (f' := (mkF m 310 #[iv p0, .val (.long p1), .second, .val (.long p2), .second, rv da0, s6, iv 3, s8, s9, iv 1] [(.long ((p2.toUInt64 >>> ((16 : Int32) &&& 0x3f).toInt64.toUInt64).toInt64)), (.int 1), (.ref da0)])) (fun _ k => XS.aload X0.here hx rfl (D at_302) rfl rfl (XS.iload X0.here hx rfl (D at_304) rfl (XS.lloadN X0.here hx rfl (D at_306) rfl (XS.bipush X0.here hx rfl (D at_307) (XS.lushr X0.here hx rfl (D at_309) rfl k))))) ?_
      generalize hpy : (((p2.toUInt64 >>> ((16 : Int32) &&& 0x3f).toInt64.toUInt64).toInt64) : Int64) = py
      obtain ⟨cl1017, Ar1017, qk1017, S1017, Ng1017, H1017, G1017⟩ := id prem0
      obtain ⟨T1017, h1017, X1017, e1017, W1017, st1017⟩ := stC X0 hx hZ e0 Ar1017 (j := (1 : Int32)) (inb_of S1017 ⟨by decide, by decide⟩) (g := (mkF m 316 #[iv p0, .val (.long p1), .second, .val (.long p2), .second, rv da0, s6, iv 3, s8, s9, iv 1] [(.int (((py &&& (255 : Int64)).toInt32).toUInt32.toUInt16.toUInt32.toInt32)), (.int 1), (.ref da0)])) rfl rfl (D at_316)
      have W1017 : Wr h0 h1017 da0 ((1 : Int32)).toNatClampNeg (.int (py.toInt32 &&& 255)) := Eq.mp (congrArg (fun z => Wr h0 h1017 da0 ((1 : Int32)).toNatClampNeg (Value.int z)) (own_cL255 py)) W1017
      have O1019 := Old0.wr O0 W1017 prem1
      have C1018 := CHr.trans C0 (CHr.wr W1017 (Safe.arv hZ.alike prem0 (by decide)) C0.1)
      have hk := Nat.le_trans hk (Keep.of_wr W1017).1
      have f1017 : Arv Z h1017 da0 kd0 .char (8 : Int32) [(.int (z0 &&& 255)), (.int (py.toInt32 &&& 255)), (.int (z2 &&& 255)), (.int (z3 &&& 255)), (.int (z4 &&& 255)), (.int (z5 &&& 255)), (.int (z6 &&& 255)), (.int (z7 &&& 255))] (.int 0) := Arv.set Ar1017 qk1017 S1017 Ng1017 H1017 G1017 (v := (.int (py.toInt32 &&& 255))) (own_f255 py.toInt32) W1017 1 rfl (Nat.le_of_ble_eq_true rfl)
      have N1017 := Fr.snoc X1017 N0 prem1
      refine GoS.of (T' := T1017) (f' := (mkF m 317 #[iv p0, .val (.long p1), .second, .val (.long p2), .second, rv da0, s6, iv 3, s8, s9, iv 1] [])) (fun _ k => X0.ldc2Long hx hown (mvT hZ (own_w hw (i := 1) rfl)) (g := (mkF m 310 #[iv p0, .val (.long p1), .second, .val (.long p2), .second, rv da0, s6, iv 3, s8, s9, iv 1] [(.long py), (.int 1), (.ref da0)])) rfl (D at_310) _ (XS.land X0.here hx rfl (D at_313) rfl (XS.l2i X0.here hx rfl (D at_314) rfl (XS.i2c X0.here hx rfl (D at_315) rfl (st1017 _ k))))) ?_
      exact rm_t3 hw G p0 p1 p2 (da0) (kd0) (z0) (py.toInt32) (z2) (z3) (z4) (z5) (z6) (z7) (h_s6) (h_s8) (h_s9) (One.val rfl) hx hby hml hown hret hlk hZ hS hk  C1018 e1017 (Stand.more X1017 (by decide) (by decide)) N1017 O1019 f1017 prem1 
    | 2, _ =>
      refine GoS.cast (f' := (mkF m 302 #[iv p0, .val (.long p1), .second, .val (.long p2), .second, rv da0, s6, iv 3, s8, s9, iv 2] [])) rfl ?_
      refine GoS.of (T' := T0) (f' := (mkF m 310 #[iv p0, .val (.long p1), .second, .val (.long p2), .second, rv da0, s6, iv 3, s8, s9, iv 2] [(.long ((p2.toUInt64 >>> ((16 : Int32) &&& 0x3f).toInt64.toUInt64).toInt64)), (.int 2), (.ref da0)])) (fun _ k => XS.aload X0.here hx rfl (D at_302) rfl rfl (XS.iload X0.here hx rfl (D at_304) rfl (XS.lloadN X0.here hx rfl (D at_306) rfl (XS.bipush X0.here hx rfl (D at_307) (XS.lushr X0.here hx rfl (D at_309) rfl k))))) ?_
      generalize hpy : (((p2.toUInt64 >>> ((16 : Int32) &&& 0x3f).toInt64.toUInt64).toInt64) : Int64) = py
      obtain ⟨cl1020, Ar1020, qk1020, S1020, Ng1020, H1020, G1020⟩ := id prem0
      obtain ⟨T1020, h1020, X1020, e1020, W1020, st1020⟩ := stC X0 hx hZ e0 Ar1020 (j := (2 : Int32)) (inb_of S1020 ⟨by decide, by decide⟩) (g := (mkF m 316 #[iv p0, .val (.long p1), .second, .val (.long p2), .second, rv da0, s6, iv 3, s8, s9, iv 2] [(.int (((py &&& (255 : Int64)).toInt32).toUInt32.toUInt16.toUInt32.toInt32)), (.int 2), (.ref da0)])) rfl rfl (D at_316)
      have W1020 : Wr h0 h1020 da0 ((2 : Int32)).toNatClampNeg (.int (py.toInt32 &&& 255)) := Eq.mp (congrArg (fun z => Wr h0 h1020 da0 ((2 : Int32)).toNatClampNeg (Value.int z)) (own_cL255 py)) W1020
      have O1022 := Old0.wr O0 W1020 prem1
      have C1021 := CHr.trans C0 (CHr.wr W1020 (Safe.arv hZ.alike prem0 (by decide)) C0.1)
      have hk := Nat.le_trans hk (Keep.of_wr W1020).1
      have f1020 : Arv Z h1020 da0 kd0 .char (8 : Int32) [(.int (z0 &&& 255)), (.int (z1 &&& 255)), (.int (py.toInt32 &&& 255)), (.int (z3 &&& 255)), (.int (z4 &&& 255)), (.int (z5 &&& 255)), (.int (z6 &&& 255)), (.int (z7 &&& 255))] (.int 0) := Arv.set Ar1020 qk1020 S1020 Ng1020 H1020 G1020 (v := (.int (py.toInt32 &&& 255))) (own_f255 py.toInt32) W1020 2 rfl (Nat.le_of_ble_eq_true rfl)
      have N1020 := Fr.snoc X1020 N0 prem1
      refine GoS.of (T' := T1020) (f' := (mkF m 317 #[iv p0, .val (.long p1), .second, .val (.long p2), .second, rv da0, s6, iv 3, s8, s9, iv 2] [])) (fun _ k => X0.ldc2Long hx hown (mvT hZ (own_w hw (i := 1) rfl)) (g := (mkF m 310 #[iv p0, .val (.long p1), .second, .val (.long p2), .second, rv da0, s6, iv 3, s8, s9, iv 2] [(.long py), (.int 2), (.ref da0)])) rfl (D at_310) _ (XS.land X0.here hx rfl (D at_313) rfl (XS.l2i X0.here hx rfl (D at_314) rfl (XS.i2c X0.here hx rfl (D at_315) rfl (st1020 _ k))))) ?_
      exact rm_t3 hw G p0 p1 p2 (da0) (kd0) (z0) (z1) (py.toInt32) (z3) (z4) (z5) (z6) (z7) (h_s6) (h_s8) (h_s9) (One.val rfl) hx hby hml hown hret hlk hZ hS hk  C1021 e1020 (Stand.more X1020 (by decide) (by decide)) N1020 O1022 f1020 prem1 
    | n + 3, h => exact absurd h (by omega)
set_option maxRecDepth 65536 in
set_option maxHeartbeats 40000000 in
theorem rm_u4 {l : Launch} {Z : State} {a0 : Array Value} {A : Nat → Addr} {KC : Nat → Cell} {IC : Nat → Int32} {VC : Nat → Value} (hw : ∀ d ∈ tables_1, d.before a0 Z = true) (G : own_Ctx Z A KC IC VC) {p : Program} {e : Env} {s : State} {m : MethodId} {below : List Frame} {meth : Method} {c : Code} {T0 : State} {vm0 : Vm} {h0 : Heap} {k0 : Nat} {locs0 : List Loc} (p0 : Int32) (p1 : Int64) (p2 : Int64) (da0 : Addr) (kd0 : ClassId) (z0 : Int32) (z1 : Int32) (z2 : Int32) (z3 : Int32) (z4 : Int32) (z5 : Int32) (z6 : Int32) (z7 : Int32) {s6 : Slot} (h_s6 : One s6) {s8 : Slot} (h_s8 : One s8) {s9 : Slot} (h_s9 : One s9) {s10 : Slot} (h_s10 : One s10)
    (hx : p.tables.exec = Jvm.exec) (hby : c.code = code) (hml : c.maxLocals = 11) (hown : vm0.findClass "com/example/fair_index/fairindex/csw/ResultTypeNamedPinLaw" = some m.cls) (hret : meth.sig.returnType = ret) (hlk : meth.locks = false) (hZ : Z.Warmed39 vm0) (hS : s.Since vm0 k0) (hk : k0 ≤ h0.size) (C0 : CHr Z own_EL s.vm s.heap vm0 h0) (e0 : T0.heap = h0) (X0 : Stand p l e room_1 (s.setVm vm0) m #[(.int p0), (.long p1), (.long p2)] below meth c T0 locs0 8 128) (N0 : Fr Z.heap.size locs0) (O0 : Ext Z.heap h0) (prem0 : Arv Z h0 da0 kd0 .char (8 : Int32) [(.int (z0 &&& (255 : Int32))), (.int (z1 &&& (255 : Int32))), (.int (z2 &&& (255 : Int32))), (.int (z3 &&& (255 : Int32))), (.int (z4 &&& (255 : Int32))), (.int (z5 &&& (255 : Int32))), (.int (z6 &&& (255 : Int32))), (.int (z7 &&& (255 : Int32)))] (.int (0 : Int32))) (prem1 : Z.heap.size ≤ da0)  :
    GoS p e s below room_1 Z own_EL (fun v h L => v = some (.int (1 : Int32)) ∧ (Fr Z.heap.size L)) T0 (mkF m 280 #[iv p0, .val (.long p1), .second, .val (.long p2), .second, rv da0, s6, iv (4 : Int32), s8, s9, s10] []) := by
  have hEL := own_EW hw
  have D := @hb _ _ hby
  have K0 : Keep h0 h0 [] := Keep.refl _ _
  refine GoS.of (T' := T0) (f' := (mkF m 285 #[iv p0, .val (.long p1), .second, .val (.long p2), .second, rv da0, s6, iv 4, s8, s9, s10] [(.int (lcmpW (p2 &&& (1 : Int64)) (0 : Int64)))])) (fun _ k => XS.lloadN X0.here hx rfl (D at_280) rfl (XS.lconst X0.here hx rfl (D at_281) (XS.land X0.here hx rfl (D at_282) rfl (XS.lconst X0.here hx rfl (D at_283) (XS.lcmp X0.here hx rfl (D at_284) rfl k))))) ?_
  by_cases hc1023 : (lcmpW (p2 &&& (1 : Int64)) (0 : Int64)) = (0 : Int32)
  · skip
    refine GoS.of (T' := T0) (f' := (mkF m 317 #[iv p0, .val (.long p1), .second, .val (.long p2), .second, rv da0, s6, iv 4, s8, s9, s10] [])) (fun _ k => XS.ifYes X0.here hx rfl (pc0 := 285) (pc' := 317) rfl (D at_285) rfl ((if0 _ _).trans (teq hc1023).1) (by decide) (by decide) k) ?_
    exact rm_t4 hw G p0 p1 p2 (da0) (kd0) (z0) (z1) (z2) (z3) (z4) (z5) (z6) (z7) (h_s6) (h_s8) (h_s9) (h_s10) hx hby hml hown hret hlk hZ hS hk  C0 e0 (Stand.more X0 (by decide) (by decide)) N0 O0 prem0 prem1 
  · skip
    refine GoS.of (T' := T0) (f' := (mkF m 291 #[iv p0, .val (.long p1), .second, .val (.long p2), .second, rv da0, s6, iv 4, s8, s9, s10] [(.long ((p2.toUInt64 >>> ((1 : Int32) &&& 0x3f).toInt64.toUInt64).toInt64))])) (fun _ k => XS.ifNo X0.here hx rfl (D at_285) rfl ((if0 _ _).trans (feq hc1023).1) (XS.lloadN X0.here hx rfl (D at_288) rfl (XS.iconst X0.here hx rfl (D at_289) (XS.lushr X0.here hx rfl (D at_290) rfl k)))) ?_
    generalize hpz : (((p2.toUInt64 >>> ((1 : Int32) &&& 0x3f).toInt64.toUInt64).toInt64) : Int64) = pz
    obtain ⟨j, hj, hje⟩ := own_modL pz (4 : Int64) 4 (by decide) (by decide) (by decide)
    refine GoS.of (T' := T0) (f' := (mkF m 302 #[iv p0, .val (.long p1), .second, .val (.long p2), .second, rv da0, s6, iv 4, s8, s9, iv (((pz &&& (255 : Int64)) % (4 : Int64)).toInt32)] [])) (fun _ k => X0.ldc2Long hx hown (mvT hZ (own_w hw (i := 1) rfl)) (g := (mkF m 291 #[iv p0, .val (.long p1), .second, .val (.long p2), .second, rv da0, s6, iv 4, s8, s9, s10] [(.long pz)])) rfl (D at_291) _ (XS.land X0.here hx rfl (D at_294) rfl (XS.iload X0.here hx rfl (D at_295) rfl (XS.i2l X0.here hx rfl (D at_297) rfl (XS.lrem X0.here hx rfl (D at_298) rfl (by decide) (by rw [lrem_mod]; exact (XS.l2i X0.here hx rfl (D at_299) rfl (XS.istore X0.here hx rfl (D at_300) rfl (l' := #[iv p0, .val (.long p1), .second, .val (.long p2), .second, rv da0, s6, iv 4, s8, s9, iv (((pz &&& (255 : Int64)) % (4 : Int64)).toInt32)]) (XS.store1 (o := s10) rfl h_s10 rfl) k)))))))) ?_
    rw [hje]
    match j, hj with
    | 0, _ =>
      refine GoS.cast (f' := (mkF m 302 #[iv p0, .val (.long p1), .second, .val (.long p2), .second, rv da0, s6, iv 4, s8, s9, iv 0] [])) rfl ?_
      refine GoS.of (T' := T0) (f' := (mkF m 310 #[iv p0, .val (.long p1), .second, .val (.long p2), .second, rv da0, s6, iv 4, s8, s9, iv 0] [(.long ((p2.toUInt64 >>> ((16 : Int32) &&& 0x3f).toInt64.toUInt64).toInt64)), (.int 0), (.ref da0)])) (fun _ k => XS.aload X0.here hx rfl (D at_302) rfl rfl (XS.iload X0.here hx rfl (D at_304) rfl (XS.lloadN X0.here hx rfl (D at_306) rfl (XS.bipush X0.here hx rfl (D at_307) (XS.lushr X0.here hx rfl (D at_309) rfl k))))) ?_
      generalize hpy : (((p2.toUInt64 >>> ((16 : Int32) &&& 0x3f).toInt64.toUInt64).toInt64) : Int64) = py
      obtain ⟨cl1024, Ar1024, qk1024, S1024, Ng1024, H1024, G1024⟩ := id prem0
      obtain ⟨T1024, h1024, X1024, e1024, W1024, st1024⟩ := stC X0 hx hZ e0 Ar1024 (j := (0 : Int32)) (inb_of S1024 ⟨by decide, by decide⟩) (g := (mkF m 316 #[iv p0, .val (.long p1), .second, .val (.long p2), .second, rv da0, s6, iv 4, s8, s9, iv 0] [(.int (((py &&& (255 : Int64)).toInt32).toUInt32.toUInt16.toUInt32.toInt32)), (.int 0), (.ref da0)])) rfl rfl (D at_316)
      have W1024 : Wr h0 h1024 da0 ((0 : Int32)).toNatClampNeg (.int (py.toInt32 &&& 255)) := Eq.mp (congrArg (fun z => Wr h0 h1024 da0 ((0 : Int32)).toNatClampNeg (Value.int z)) (own_cL255 py)) W1024
      have O1026 := Old0.wr O0 W1024 prem1
      have C1025 := CHr.trans C0 (CHr.wr W1024 (Safe.arv hZ.alike prem0 (by decide)) C0.1)
      have hk := Nat.le_trans hk (Keep.of_wr W1024).1
      have f1024 : Arv Z h1024 da0 kd0 .char (8 : Int32) [(.int (py.toInt32 &&& 255)), (.int (z1 &&& 255)), (.int (z2 &&& 255)), (.int (z3 &&& 255)), (.int (z4 &&& 255)), (.int (z5 &&& 255)), (.int (z6 &&& 255)), (.int (z7 &&& 255))] (.int 0) := Arv.set Ar1024 qk1024 S1024 Ng1024 H1024 G1024 (v := (.int (py.toInt32 &&& 255))) (own_f255 py.toInt32) W1024 0 rfl (Nat.le_of_ble_eq_true rfl)
      have N1024 := Fr.snoc X1024 N0 prem1
      refine GoS.of (T' := T1024) (f' := (mkF m 317 #[iv p0, .val (.long p1), .second, .val (.long p2), .second, rv da0, s6, iv 4, s8, s9, iv 0] [])) (fun _ k => X0.ldc2Long hx hown (mvT hZ (own_w hw (i := 1) rfl)) (g := (mkF m 310 #[iv p0, .val (.long p1), .second, .val (.long p2), .second, rv da0, s6, iv 4, s8, s9, iv 0] [(.long py), (.int 0), (.ref da0)])) rfl (D at_310) _ (XS.land X0.here hx rfl (D at_313) rfl (XS.l2i X0.here hx rfl (D at_314) rfl (XS.i2c X0.here hx rfl (D at_315) rfl (st1024 _ k))))) ?_
      exact rm_t4 hw G p0 p1 p2 (da0) (kd0) (py.toInt32) (z1) (z2) (z3) (z4) (z5) (z6) (z7) (h_s6) (h_s8) (h_s9) (One.val rfl) hx hby hml hown hret hlk hZ hS hk  C1025 e1024 (Stand.more X1024 (by decide) (by decide)) N1024 O1026 f1024 prem1 
    | 1, _ =>
      refine GoS.cast (f' := (mkF m 302 #[iv p0, .val (.long p1), .second, .val (.long p2), .second, rv da0, s6, iv 4, s8, s9, iv 1] [])) rfl ?_
      refine GoS.of (T' := T0) (f' := (mkF m 310 #[iv p0, .val (.long p1), .second, .val (.long p2), .second, rv da0, s6, iv 4, s8, s9, iv 1] [(.long ((p2.toUInt64 >>> ((16 : Int32) &&& 0x3f).toInt64.toUInt64).toInt64)), (.int 1), (.ref da0)])) (fun _ k => XS.aload X0.here hx rfl (D at_302) rfl rfl (XS.iload X0.here hx rfl (D at_304) rfl (XS.lloadN X0.here hx rfl (D at_306) rfl (XS.bipush X0.here hx rfl (D at_307) (XS.lushr X0.here hx rfl (D at_309) rfl k))))) ?_
      generalize hpy : (((p2.toUInt64 >>> ((16 : Int32) &&& 0x3f).toInt64.toUInt64).toInt64) : Int64) = py
      obtain ⟨cl1027, Ar1027, qk1027, S1027, Ng1027, H1027, G1027⟩ := id prem0
      obtain ⟨T1027, h1027, X1027, e1027, W1027, st1027⟩ := stC X0 hx hZ e0 Ar1027 (j := (1 : Int32)) (inb_of S1027 ⟨by decide, by decide⟩) (g := (mkF m 316 #[iv p0, .val (.long p1), .second, .val (.long p2), .second, rv da0, s6, iv 4, s8, s9, iv 1] [(.int (((py &&& (255 : Int64)).toInt32).toUInt32.toUInt16.toUInt32.toInt32)), (.int 1), (.ref da0)])) rfl rfl (D at_316)
      have W1027 : Wr h0 h1027 da0 ((1 : Int32)).toNatClampNeg (.int (py.toInt32 &&& 255)) := Eq.mp (congrArg (fun z => Wr h0 h1027 da0 ((1 : Int32)).toNatClampNeg (Value.int z)) (own_cL255 py)) W1027
      have O1029 := Old0.wr O0 W1027 prem1
      have C1028 := CHr.trans C0 (CHr.wr W1027 (Safe.arv hZ.alike prem0 (by decide)) C0.1)
      have hk := Nat.le_trans hk (Keep.of_wr W1027).1
      have f1027 : Arv Z h1027 da0 kd0 .char (8 : Int32) [(.int (z0 &&& 255)), (.int (py.toInt32 &&& 255)), (.int (z2 &&& 255)), (.int (z3 &&& 255)), (.int (z4 &&& 255)), (.int (z5 &&& 255)), (.int (z6 &&& 255)), (.int (z7 &&& 255))] (.int 0) := Arv.set Ar1027 qk1027 S1027 Ng1027 H1027 G1027 (v := (.int (py.toInt32 &&& 255))) (own_f255 py.toInt32) W1027 1 rfl (Nat.le_of_ble_eq_true rfl)
      have N1027 := Fr.snoc X1027 N0 prem1
      refine GoS.of (T' := T1027) (f' := (mkF m 317 #[iv p0, .val (.long p1), .second, .val (.long p2), .second, rv da0, s6, iv 4, s8, s9, iv 1] [])) (fun _ k => X0.ldc2Long hx hown (mvT hZ (own_w hw (i := 1) rfl)) (g := (mkF m 310 #[iv p0, .val (.long p1), .second, .val (.long p2), .second, rv da0, s6, iv 4, s8, s9, iv 1] [(.long py), (.int 1), (.ref da0)])) rfl (D at_310) _ (XS.land X0.here hx rfl (D at_313) rfl (XS.l2i X0.here hx rfl (D at_314) rfl (XS.i2c X0.here hx rfl (D at_315) rfl (st1027 _ k))))) ?_
      exact rm_t4 hw G p0 p1 p2 (da0) (kd0) (z0) (py.toInt32) (z2) (z3) (z4) (z5) (z6) (z7) (h_s6) (h_s8) (h_s9) (One.val rfl) hx hby hml hown hret hlk hZ hS hk  C1028 e1027 (Stand.more X1027 (by decide) (by decide)) N1027 O1029 f1027 prem1 
    | 2, _ =>
      refine GoS.cast (f' := (mkF m 302 #[iv p0, .val (.long p1), .second, .val (.long p2), .second, rv da0, s6, iv 4, s8, s9, iv 2] [])) rfl ?_
      refine GoS.of (T' := T0) (f' := (mkF m 310 #[iv p0, .val (.long p1), .second, .val (.long p2), .second, rv da0, s6, iv 4, s8, s9, iv 2] [(.long ((p2.toUInt64 >>> ((16 : Int32) &&& 0x3f).toInt64.toUInt64).toInt64)), (.int 2), (.ref da0)])) (fun _ k => XS.aload X0.here hx rfl (D at_302) rfl rfl (XS.iload X0.here hx rfl (D at_304) rfl (XS.lloadN X0.here hx rfl (D at_306) rfl (XS.bipush X0.here hx rfl (D at_307) (XS.lushr X0.here hx rfl (D at_309) rfl k))))) ?_
      generalize hpy : (((p2.toUInt64 >>> ((16 : Int32) &&& 0x3f).toInt64.toUInt64).toInt64) : Int64) = py
      obtain ⟨cl1030, Ar1030, qk1030, S1030, Ng1030, H1030, G1030⟩ := id prem0
      obtain ⟨T1030, h1030, X1030, e1030, W1030, st1030⟩ := stC X0 hx hZ e0 Ar1030 (j := (2 : Int32)) (inb_of S1030 ⟨by decide, by decide⟩) (g := (mkF m 316 #[iv p0, .val (.long p1), .second, .val (.long p2), .second, rv da0, s6, iv 4, s8, s9, iv 2] [(.int (((py &&& (255 : Int64)).toInt32).toUInt32.toUInt16.toUInt32.toInt32)), (.int 2), (.ref da0)])) rfl rfl (D at_316)
      have W1030 : Wr h0 h1030 da0 ((2 : Int32)).toNatClampNeg (.int (py.toInt32 &&& 255)) := Eq.mp (congrArg (fun z => Wr h0 h1030 da0 ((2 : Int32)).toNatClampNeg (Value.int z)) (own_cL255 py)) W1030
      have O1032 := Old0.wr O0 W1030 prem1
      have C1031 := CHr.trans C0 (CHr.wr W1030 (Safe.arv hZ.alike prem0 (by decide)) C0.1)
      have hk := Nat.le_trans hk (Keep.of_wr W1030).1
      have f1030 : Arv Z h1030 da0 kd0 .char (8 : Int32) [(.int (z0 &&& 255)), (.int (z1 &&& 255)), (.int (py.toInt32 &&& 255)), (.int (z3 &&& 255)), (.int (z4 &&& 255)), (.int (z5 &&& 255)), (.int (z6 &&& 255)), (.int (z7 &&& 255))] (.int 0) := Arv.set Ar1030 qk1030 S1030 Ng1030 H1030 G1030 (v := (.int (py.toInt32 &&& 255))) (own_f255 py.toInt32) W1030 2 rfl (Nat.le_of_ble_eq_true rfl)
      have N1030 := Fr.snoc X1030 N0 prem1
      refine GoS.of (T' := T1030) (f' := (mkF m 317 #[iv p0, .val (.long p1), .second, .val (.long p2), .second, rv da0, s6, iv 4, s8, s9, iv 2] [])) (fun _ k => X0.ldc2Long hx hown (mvT hZ (own_w hw (i := 1) rfl)) (g := (mkF m 310 #[iv p0, .val (.long p1), .second, .val (.long p2), .second, rv da0, s6, iv 4, s8, s9, iv 2] [(.long py), (.int 2), (.ref da0)])) rfl (D at_310) _ (XS.land X0.here hx rfl (D at_313) rfl (XS.l2i X0.here hx rfl (D at_314) rfl (XS.i2c X0.here hx rfl (D at_315) rfl (st1030 _ k))))) ?_
      exact rm_t4 hw G p0 p1 p2 (da0) (kd0) (z0) (z1) (py.toInt32) (z3) (z4) (z5) (z6) (z7) (h_s6) (h_s8) (h_s9) (One.val rfl) hx hby hml hown hret hlk hZ hS hk  C1031 e1030 (Stand.more X1030 (by decide) (by decide)) N1030 O1032 f1030 prem1 
    | 3, _ =>
      refine GoS.cast (f' := (mkF m 302 #[iv p0, .val (.long p1), .second, .val (.long p2), .second, rv da0, s6, iv 4, s8, s9, iv 3] [])) rfl ?_
      refine GoS.of (T' := T0) (f' := (mkF m 310 #[iv p0, .val (.long p1), .second, .val (.long p2), .second, rv da0, s6, iv 4, s8, s9, iv 3] [(.long ((p2.toUInt64 >>> ((16 : Int32) &&& 0x3f).toInt64.toUInt64).toInt64)), (.int 3), (.ref da0)])) (fun _ k => XS.aload X0.here hx rfl (D at_302) rfl rfl (XS.iload X0.here hx rfl (D at_304) rfl (XS.lloadN X0.here hx rfl (D at_306) rfl (XS.bipush X0.here hx rfl (D at_307) (XS.lushr X0.here hx rfl (D at_309) rfl k))))) ?_
      generalize hpy : (((p2.toUInt64 >>> ((16 : Int32) &&& 0x3f).toInt64.toUInt64).toInt64) : Int64) = py
      obtain ⟨cl1033, Ar1033, qk1033, S1033, Ng1033, H1033, G1033⟩ := id prem0
      obtain ⟨T1033, h1033, X1033, e1033, W1033, st1033⟩ := stC X0 hx hZ e0 Ar1033 (j := (3 : Int32)) (inb_of S1033 ⟨by decide, by decide⟩) (g := (mkF m 316 #[iv p0, .val (.long p1), .second, .val (.long p2), .second, rv da0, s6, iv 4, s8, s9, iv 3] [(.int (((py &&& (255 : Int64)).toInt32).toUInt32.toUInt16.toUInt32.toInt32)), (.int 3), (.ref da0)])) rfl rfl (D at_316)
      have W1033 : Wr h0 h1033 da0 ((3 : Int32)).toNatClampNeg (.int (py.toInt32 &&& 255)) := Eq.mp (congrArg (fun z => Wr h0 h1033 da0 ((3 : Int32)).toNatClampNeg (Value.int z)) (own_cL255 py)) W1033
      have O1035 := Old0.wr O0 W1033 prem1
      have C1034 := CHr.trans C0 (CHr.wr W1033 (Safe.arv hZ.alike prem0 (by decide)) C0.1)
      have hk := Nat.le_trans hk (Keep.of_wr W1033).1
      have f1033 : Arv Z h1033 da0 kd0 .char (8 : Int32) [(.int (z0 &&& 255)), (.int (z1 &&& 255)), (.int (z2 &&& 255)), (.int (py.toInt32 &&& 255)), (.int (z4 &&& 255)), (.int (z5 &&& 255)), (.int (z6 &&& 255)), (.int (z7 &&& 255))] (.int 0) := Arv.set Ar1033 qk1033 S1033 Ng1033 H1033 G1033 (v := (.int (py.toInt32 &&& 255))) (own_f255 py.toInt32) W1033 3 rfl (Nat.le_of_ble_eq_true rfl)
      have N1033 := Fr.snoc X1033 N0 prem1
      refine GoS.of (T' := T1033) (f' := (mkF m 317 #[iv p0, .val (.long p1), .second, .val (.long p2), .second, rv da0, s6, iv 4, s8, s9, iv 3] [])) (fun _ k => X0.ldc2Long hx hown (mvT hZ (own_w hw (i := 1) rfl)) (g := (mkF m 310 #[iv p0, .val (.long p1), .second, .val (.long p2), .second, rv da0, s6, iv 4, s8, s9, iv 3] [(.long py), (.int 3), (.ref da0)])) rfl (D at_310) _ (XS.land X0.here hx rfl (D at_313) rfl (XS.l2i X0.here hx rfl (D at_314) rfl (XS.i2c X0.here hx rfl (D at_315) rfl (st1033 _ k))))) ?_
      exact rm_t4 hw G p0 p1 p2 (da0) (kd0) (z0) (z1) (z2) (py.toInt32) (z4) (z5) (z6) (z7) (h_s6) (h_s8) (h_s9) (One.val rfl) hx hby hml hown hret hlk hZ hS hk  C1034 e1033 (Stand.more X1033 (by decide) (by decide)) N1033 O1035 f1033 prem1 
    | n + 4, h => exact absurd h (by omega)
set_option maxRecDepth 65536 in
set_option maxHeartbeats 40000000 in
theorem rm_u5 {l : Launch} {Z : State} {a0 : Array Value} {A : Nat → Addr} {KC : Nat → Cell} {IC : Nat → Int32} {VC : Nat → Value} (hw : ∀ d ∈ tables_1, d.before a0 Z = true) (G : own_Ctx Z A KC IC VC) {p : Program} {e : Env} {s : State} {m : MethodId} {below : List Frame} {meth : Method} {c : Code} {T0 : State} {vm0 : Vm} {h0 : Heap} {k0 : Nat} {locs0 : List Loc} (p0 : Int32) (p1 : Int64) (p2 : Int64) (da0 : Addr) (kd0 : ClassId) (z0 : Int32) (z1 : Int32) (z2 : Int32) (z3 : Int32) (z4 : Int32) (z5 : Int32) (z6 : Int32) (z7 : Int32) {s6 : Slot} (h_s6 : One s6) {s8 : Slot} (h_s8 : One s8) {s9 : Slot} (h_s9 : One s9) {s10 : Slot} (h_s10 : One s10)
    (hx : p.tables.exec = Jvm.exec) (hby : c.code = code) (hml : c.maxLocals = 11) (hown : vm0.findClass "com/example/fair_index/fairindex/csw/ResultTypeNamedPinLaw" = some m.cls) (hret : meth.sig.returnType = ret) (hlk : meth.locks = false) (hZ : Z.Warmed39 vm0) (hS : s.Since vm0 k0) (hk : k0 ≤ h0.size) (C0 : CHr Z own_EL s.vm s.heap vm0 h0) (e0 : T0.heap = h0) (X0 : Stand p l e room_1 (s.setVm vm0) m #[(.int p0), (.long p1), (.long p2)] below meth c T0 locs0 8 128) (N0 : Fr Z.heap.size locs0) (O0 : Ext Z.heap h0) (prem0 : Arv Z h0 da0 kd0 .char (8 : Int32) [(.int (z0 &&& (255 : Int32))), (.int (z1 &&& (255 : Int32))), (.int (z2 &&& (255 : Int32))), (.int (z3 &&& (255 : Int32))), (.int (z4 &&& (255 : Int32))), (.int (z5 &&& (255 : Int32))), (.int (z6 &&& (255 : Int32))), (.int (z7 &&& (255 : Int32)))] (.int (0 : Int32))) (prem1 : Z.heap.size ≤ da0)  :
    GoS p e s below room_1 Z own_EL (fun v h L => v = some (.int (1 : Int32)) ∧ (Fr Z.heap.size L)) T0 (mkF m 280 #[iv p0, .val (.long p1), .second, .val (.long p2), .second, rv da0, s6, iv (5 : Int32), s8, s9, s10] []) := by
  have hEL := own_EW hw
  have D := @hb _ _ hby
  have K0 : Keep h0 h0 [] := Keep.refl _ _
  refine GoS.of (T' := T0) (f' := (mkF m 285 #[iv p0, .val (.long p1), .second, .val (.long p2), .second, rv da0, s6, iv 5, s8, s9, s10] [(.int (lcmpW (p2 &&& (1 : Int64)) (0 : Int64)))])) (fun _ k => XS.lloadN X0.here hx rfl (D at_280) rfl (XS.lconst X0.here hx rfl (D at_281) (XS.land X0.here hx rfl (D at_282) rfl (XS.lconst X0.here hx rfl (D at_283) (XS.lcmp X0.here hx rfl (D at_284) rfl k))))) ?_
  by_cases hc1036 : (lcmpW (p2 &&& (1 : Int64)) (0 : Int64)) = (0 : Int32)
  · skip
    refine GoS.of (T' := T0) (f' := (mkF m 317 #[iv p0, .val (.long p1), .second, .val (.long p2), .second, rv da0, s6, iv 5, s8, s9, s10] [])) (fun _ k => XS.ifYes X0.here hx rfl (pc0 := 285) (pc' := 317) rfl (D at_285) rfl ((if0 _ _).trans (teq hc1036).1) (by decide) (by decide) k) ?_
    exact rm_t5 hw G p0 p1 p2 (da0) (kd0) (z0) (z1) (z2) (z3) (z4) (z5) (z6) (z7) (h_s6) (h_s8) (h_s9) (h_s10) hx hby hml hown hret hlk hZ hS hk  C0 e0 (Stand.more X0 (by decide) (by decide)) N0 O0 prem0 prem1 
  · skip
    refine GoS.of (T' := T0) (f' := (mkF m 291 #[iv p0, .val (.long p1), .second, .val (.long p2), .second, rv da0, s6, iv 5, s8, s9, s10] [(.long ((p2.toUInt64 >>> ((1 : Int32) &&& 0x3f).toInt64.toUInt64).toInt64))])) (fun _ k => XS.ifNo X0.here hx rfl (D at_285) rfl ((if0 _ _).trans (feq hc1036).1) (XS.lloadN X0.here hx rfl (D at_288) rfl (XS.iconst X0.here hx rfl (D at_289) (XS.lushr X0.here hx rfl (D at_290) rfl k)))) ?_
    generalize hpz : (((p2.toUInt64 >>> ((1 : Int32) &&& 0x3f).toInt64.toUInt64).toInt64) : Int64) = pz
    obtain ⟨j, hj, hje⟩ := own_modL pz (5 : Int64) 5 (by decide) (by decide) (by decide)
    refine GoS.of (T' := T0) (f' := (mkF m 302 #[iv p0, .val (.long p1), .second, .val (.long p2), .second, rv da0, s6, iv 5, s8, s9, iv (((pz &&& (255 : Int64)) % (5 : Int64)).toInt32)] [])) (fun _ k => X0.ldc2Long hx hown (mvT hZ (own_w hw (i := 1) rfl)) (g := (mkF m 291 #[iv p0, .val (.long p1), .second, .val (.long p2), .second, rv da0, s6, iv 5, s8, s9, s10] [(.long pz)])) rfl (D at_291) _ (XS.land X0.here hx rfl (D at_294) rfl (XS.iload X0.here hx rfl (D at_295) rfl (XS.i2l X0.here hx rfl (D at_297) rfl (XS.lrem X0.here hx rfl (D at_298) rfl (by decide) (by rw [lrem_mod]; exact (XS.l2i X0.here hx rfl (D at_299) rfl (XS.istore X0.here hx rfl (D at_300) rfl (l' := #[iv p0, .val (.long p1), .second, .val (.long p2), .second, rv da0, s6, iv 5, s8, s9, iv (((pz &&& (255 : Int64)) % (5 : Int64)).toInt32)]) (XS.store1 (o := s10) rfl h_s10 rfl) k)))))))) ?_
    rw [hje]
    match j, hj with
    | 0, _ =>
      refine GoS.cast (f' := (mkF m 302 #[iv p0, .val (.long p1), .second, .val (.long p2), .second, rv da0, s6, iv 5, s8, s9, iv 0] [])) rfl ?_
      refine GoS.of (T' := T0) (f' := (mkF m 310 #[iv p0, .val (.long p1), .second, .val (.long p2), .second, rv da0, s6, iv 5, s8, s9, iv 0] [(.long ((p2.toUInt64 >>> ((16 : Int32) &&& 0x3f).toInt64.toUInt64).toInt64)), (.int 0), (.ref da0)])) (fun _ k => XS.aload X0.here hx rfl (D at_302) rfl rfl (XS.iload X0.here hx rfl (D at_304) rfl (XS.lloadN X0.here hx rfl (D at_306) rfl (XS.bipush X0.here hx rfl (D at_307) (XS.lushr X0.here hx rfl (D at_309) rfl k))))) ?_
      generalize hpy : (((p2.toUInt64 >>> ((16 : Int32) &&& 0x3f).toInt64.toUInt64).toInt64) : Int64) = py
      obtain ⟨cl1037, Ar1037, qk1037, S1037, Ng1037, H1037, G1037⟩ := id prem0
      obtain ⟨T1037, h1037, X1037, e1037, W1037, st1037⟩ := stC X0 hx hZ e0 Ar1037 (j := (0 : Int32)) (inb_of S1037 ⟨by decide, by decide⟩) (g := (mkF m 316 #[iv p0, .val (.long p1), .second, .val (.long p2), .second, rv da0, s6, iv 5, s8, s9, iv 0] [(.int (((py &&& (255 : Int64)).toInt32).toUInt32.toUInt16.toUInt32.toInt32)), (.int 0), (.ref da0)])) rfl rfl (D at_316)
      have W1037 : Wr h0 h1037 da0 ((0 : Int32)).toNatClampNeg (.int (py.toInt32 &&& 255)) := Eq.mp (congrArg (fun z => Wr h0 h1037 da0 ((0 : Int32)).toNatClampNeg (Value.int z)) (own_cL255 py)) W1037
      have O1039 := Old0.wr O0 W1037 prem1
      have C1038 := CHr.trans C0 (CHr.wr W1037 (Safe.arv hZ.alike prem0 (by decide)) C0.1)
      have hk := Nat.le_trans hk (Keep.of_wr W1037).1
      have f1037 : Arv Z h1037 da0 kd0 .char (8 : Int32) [(.int (py.toInt32 &&& 255)), (.int (z1 &&& 255)), (.int (z2 &&& 255)), (.int (z3 &&& 255)), (.int (z4 &&& 255)), (.int (z5 &&& 255)), (.int (z6 &&& 255)), (.int (z7 &&& 255))] (.int 0) := Arv.set Ar1037 qk1037 S1037 Ng1037 H1037 G1037 (v := (.int (py.toInt32 &&& 255))) (own_f255 py.toInt32) W1037 0 rfl (Nat.le_of_ble_eq_true rfl)
      have N1037 := Fr.snoc X1037 N0 prem1
      refine GoS.of (T' := T1037) (f' := (mkF m 317 #[iv p0, .val (.long p1), .second, .val (.long p2), .second, rv da0, s6, iv 5, s8, s9, iv 0] [])) (fun _ k => X0.ldc2Long hx hown (mvT hZ (own_w hw (i := 1) rfl)) (g := (mkF m 310 #[iv p0, .val (.long p1), .second, .val (.long p2), .second, rv da0, s6, iv 5, s8, s9, iv 0] [(.long py), (.int 0), (.ref da0)])) rfl (D at_310) _ (XS.land X0.here hx rfl (D at_313) rfl (XS.l2i X0.here hx rfl (D at_314) rfl (XS.i2c X0.here hx rfl (D at_315) rfl (st1037 _ k))))) ?_
      exact rm_t5 hw G p0 p1 p2 (da0) (kd0) (py.toInt32) (z1) (z2) (z3) (z4) (z5) (z6) (z7) (h_s6) (h_s8) (h_s9) (One.val rfl) hx hby hml hown hret hlk hZ hS hk  C1038 e1037 (Stand.more X1037 (by decide) (by decide)) N1037 O1039 f1037 prem1 
    | 1, _ =>
      refine GoS.cast (f' := (mkF m 302 #[iv p0, .val (.long p1), .second, .val (.long p2), .second, rv da0, s6, iv 5, s8, s9, iv 1] [])) rfl ?_
      refine GoS.of (T' := T0) (f' := (mkF m 310 #[iv p0, .val (.long p1), .second, .val (.long p2), .second, rv da0, s6, iv 5, s8, s9, iv 1] [(.long ((p2.toUInt64 >>> ((16 : Int32) &&& 0x3f).toInt64.toUInt64).toInt64)), (.int 1), (.ref da0)])) (fun _ k => XS.aload X0.here hx rfl (D at_302) rfl rfl (XS.iload X0.here hx rfl (D at_304) rfl (XS.lloadN X0.here hx rfl (D at_306) rfl (XS.bipush X0.here hx rfl (D at_307) (XS.lushr X0.here hx rfl (D at_309) rfl k))))) ?_
      generalize hpy : (((p2.toUInt64 >>> ((16 : Int32) &&& 0x3f).toInt64.toUInt64).toInt64) : Int64) = py
      obtain ⟨cl1040, Ar1040, qk1040, S1040, Ng1040, H1040, G1040⟩ := id prem0
      obtain ⟨T1040, h1040, X1040, e1040, W1040, st1040⟩ := stC X0 hx hZ e0 Ar1040 (j := (1 : Int32)) (inb_of S1040 ⟨by decide, by decide⟩) (g := (mkF m 316 #[iv p0, .val (.long p1), .second, .val (.long p2), .second, rv da0, s6, iv 5, s8, s9, iv 1] [(.int (((py &&& (255 : Int64)).toInt32).toUInt32.toUInt16.toUInt32.toInt32)), (.int 1), (.ref da0)])) rfl rfl (D at_316)
      have W1040 : Wr h0 h1040 da0 ((1 : Int32)).toNatClampNeg (.int (py.toInt32 &&& 255)) := Eq.mp (congrArg (fun z => Wr h0 h1040 da0 ((1 : Int32)).toNatClampNeg (Value.int z)) (own_cL255 py)) W1040
      have O1042 := Old0.wr O0 W1040 prem1
      have C1041 := CHr.trans C0 (CHr.wr W1040 (Safe.arv hZ.alike prem0 (by decide)) C0.1)
      have hk := Nat.le_trans hk (Keep.of_wr W1040).1
      have f1040 : Arv Z h1040 da0 kd0 .char (8 : Int32) [(.int (z0 &&& 255)), (.int (py.toInt32 &&& 255)), (.int (z2 &&& 255)), (.int (z3 &&& 255)), (.int (z4 &&& 255)), (.int (z5 &&& 255)), (.int (z6 &&& 255)), (.int (z7 &&& 255))] (.int 0) := Arv.set Ar1040 qk1040 S1040 Ng1040 H1040 G1040 (v := (.int (py.toInt32 &&& 255))) (own_f255 py.toInt32) W1040 1 rfl (Nat.le_of_ble_eq_true rfl)
      have N1040 := Fr.snoc X1040 N0 prem1
      refine GoS.of (T' := T1040) (f' := (mkF m 317 #[iv p0, .val (.long p1), .second, .val (.long p2), .second, rv da0, s6, iv 5, s8, s9, iv 1] [])) (fun _ k => X0.ldc2Long hx hown (mvT hZ (own_w hw (i := 1) rfl)) (g := (mkF m 310 #[iv p0, .val (.long p1), .second, .val (.long p2), .second, rv da0, s6, iv 5, s8, s9, iv 1] [(.long py), (.int 1), (.ref da0)])) rfl (D at_310) _ (XS.land X0.here hx rfl (D at_313) rfl (XS.l2i X0.here hx rfl (D at_314) rfl (XS.i2c X0.here hx rfl (D at_315) rfl (st1040 _ k))))) ?_
      exact rm_t5 hw G p0 p1 p2 (da0) (kd0) (z0) (py.toInt32) (z2) (z3) (z4) (z5) (z6) (z7) (h_s6) (h_s8) (h_s9) (One.val rfl) hx hby hml hown hret hlk hZ hS hk  C1041 e1040 (Stand.more X1040 (by decide) (by decide)) N1040 O1042 f1040 prem1 
    | 2, _ =>
      refine GoS.cast (f' := (mkF m 302 #[iv p0, .val (.long p1), .second, .val (.long p2), .second, rv da0, s6, iv 5, s8, s9, iv 2] [])) rfl ?_
      refine GoS.of (T' := T0) (f' := (mkF m 310 #[iv p0, .val (.long p1), .second, .val (.long p2), .second, rv da0, s6, iv 5, s8, s9, iv 2] [(.long ((p2.toUInt64 >>> ((16 : Int32) &&& 0x3f).toInt64.toUInt64).toInt64)), (.int 2), (.ref da0)])) (fun _ k => XS.aload X0.here hx rfl (D at_302) rfl rfl (XS.iload X0.here hx rfl (D at_304) rfl (XS.lloadN X0.here hx rfl (D at_306) rfl (XS.bipush X0.here hx rfl (D at_307) (XS.lushr X0.here hx rfl (D at_309) rfl k))))) ?_
      generalize hpy : (((p2.toUInt64 >>> ((16 : Int32) &&& 0x3f).toInt64.toUInt64).toInt64) : Int64) = py
      obtain ⟨cl1043, Ar1043, qk1043, S1043, Ng1043, H1043, G1043⟩ := id prem0
      obtain ⟨T1043, h1043, X1043, e1043, W1043, st1043⟩ := stC X0 hx hZ e0 Ar1043 (j := (2 : Int32)) (inb_of S1043 ⟨by decide, by decide⟩) (g := (mkF m 316 #[iv p0, .val (.long p1), .second, .val (.long p2), .second, rv da0, s6, iv 5, s8, s9, iv 2] [(.int (((py &&& (255 : Int64)).toInt32).toUInt32.toUInt16.toUInt32.toInt32)), (.int 2), (.ref da0)])) rfl rfl (D at_316)
      have W1043 : Wr h0 h1043 da0 ((2 : Int32)).toNatClampNeg (.int (py.toInt32 &&& 255)) := Eq.mp (congrArg (fun z => Wr h0 h1043 da0 ((2 : Int32)).toNatClampNeg (Value.int z)) (own_cL255 py)) W1043
      have O1045 := Old0.wr O0 W1043 prem1
      have C1044 := CHr.trans C0 (CHr.wr W1043 (Safe.arv hZ.alike prem0 (by decide)) C0.1)
      have hk := Nat.le_trans hk (Keep.of_wr W1043).1
      have f1043 : Arv Z h1043 da0 kd0 .char (8 : Int32) [(.int (z0 &&& 255)), (.int (z1 &&& 255)), (.int (py.toInt32 &&& 255)), (.int (z3 &&& 255)), (.int (z4 &&& 255)), (.int (z5 &&& 255)), (.int (z6 &&& 255)), (.int (z7 &&& 255))] (.int 0) := Arv.set Ar1043 qk1043 S1043 Ng1043 H1043 G1043 (v := (.int (py.toInt32 &&& 255))) (own_f255 py.toInt32) W1043 2 rfl (Nat.le_of_ble_eq_true rfl)
      have N1043 := Fr.snoc X1043 N0 prem1
      refine GoS.of (T' := T1043) (f' := (mkF m 317 #[iv p0, .val (.long p1), .second, .val (.long p2), .second, rv da0, s6, iv 5, s8, s9, iv 2] [])) (fun _ k => X0.ldc2Long hx hown (mvT hZ (own_w hw (i := 1) rfl)) (g := (mkF m 310 #[iv p0, .val (.long p1), .second, .val (.long p2), .second, rv da0, s6, iv 5, s8, s9, iv 2] [(.long py), (.int 2), (.ref da0)])) rfl (D at_310) _ (XS.land X0.here hx rfl (D at_313) rfl (XS.l2i X0.here hx rfl (D at_314) rfl (XS.i2c X0.here hx rfl (D at_315) rfl (st1043 _ k))))) ?_
      exact rm_t5 hw G p0 p1 p2 (da0) (kd0) (z0) (z1) (py.toInt32) (z3) (z4) (z5) (z6) (z7) (h_s6) (h_s8) (h_s9) (One.val rfl) hx hby hml hown hret hlk hZ hS hk  C1044 e1043 (Stand.more X1043 (by decide) (by decide)) N1043 O1045 f1043 prem1 
    | 3, _ =>
      refine GoS.cast (f' := (mkF m 302 #[iv p0, .val (.long p1), .second, .val (.long p2), .second, rv da0, s6, iv 5, s8, s9, iv 3] [])) rfl ?_
      refine GoS.of (T' := T0) (f' := (mkF m 310 #[iv p0, .val (.long p1), .second, .val (.long p2), .second, rv da0, s6, iv 5, s8, s9, iv 3] [(.long ((p2.toUInt64 >>> ((16 : Int32) &&& 0x3f).toInt64.toUInt64).toInt64)), (.int 3), (.ref da0)])) (fun _ k => XS.aload X0.here hx rfl (D at_302) rfl rfl (XS.iload X0.here hx rfl (D at_304) rfl (XS.lloadN X0.here hx rfl (D at_306) rfl (XS.bipush X0.here hx rfl (D at_307) (XS.lushr X0.here hx rfl (D at_309) rfl k))))) ?_
      generalize hpy : (((p2.toUInt64 >>> ((16 : Int32) &&& 0x3f).toInt64.toUInt64).toInt64) : Int64) = py
      obtain ⟨cl1046, Ar1046, qk1046, S1046, Ng1046, H1046, G1046⟩ := id prem0
      obtain ⟨T1046, h1046, X1046, e1046, W1046, st1046⟩ := stC X0 hx hZ e0 Ar1046 (j := (3 : Int32)) (inb_of S1046 ⟨by decide, by decide⟩) (g := (mkF m 316 #[iv p0, .val (.long p1), .second, .val (.long p2), .second, rv da0, s6, iv 5, s8, s9, iv 3] [(.int (((py &&& (255 : Int64)).toInt32).toUInt32.toUInt16.toUInt32.toInt32)), (.int 3), (.ref da0)])) rfl rfl (D at_316)
      have W1046 : Wr h0 h1046 da0 ((3 : Int32)).toNatClampNeg (.int (py.toInt32 &&& 255)) := Eq.mp (congrArg (fun z => Wr h0 h1046 da0 ((3 : Int32)).toNatClampNeg (Value.int z)) (own_cL255 py)) W1046
      have O1048 := Old0.wr O0 W1046 prem1
      have C1047 := CHr.trans C0 (CHr.wr W1046 (Safe.arv hZ.alike prem0 (by decide)) C0.1)
      have hk := Nat.le_trans hk (Keep.of_wr W1046).1
      have f1046 : Arv Z h1046 da0 kd0 .char (8 : Int32) [(.int (z0 &&& 255)), (.int (z1 &&& 255)), (.int (z2 &&& 255)), (.int (py.toInt32 &&& 255)), (.int (z4 &&& 255)), (.int (z5 &&& 255)), (.int (z6 &&& 255)), (.int (z7 &&& 255))] (.int 0) := Arv.set Ar1046 qk1046 S1046 Ng1046 H1046 G1046 (v := (.int (py.toInt32 &&& 255))) (own_f255 py.toInt32) W1046 3 rfl (Nat.le_of_ble_eq_true rfl)
      have N1046 := Fr.snoc X1046 N0 prem1
      refine GoS.of (T' := T1046) (f' := (mkF m 317 #[iv p0, .val (.long p1), .second, .val (.long p2), .second, rv da0, s6, iv 5, s8, s9, iv 3] [])) (fun _ k => X0.ldc2Long hx hown (mvT hZ (own_w hw (i := 1) rfl)) (g := (mkF m 310 #[iv p0, .val (.long p1), .second, .val (.long p2), .second, rv da0, s6, iv 5, s8, s9, iv 3] [(.long py), (.int 3), (.ref da0)])) rfl (D at_310) _ (XS.land X0.here hx rfl (D at_313) rfl (XS.l2i X0.here hx rfl (D at_314) rfl (XS.i2c X0.here hx rfl (D at_315) rfl (st1046 _ k))))) ?_
      exact rm_t5 hw G p0 p1 p2 (da0) (kd0) (z0) (z1) (z2) (py.toInt32) (z4) (z5) (z6) (z7) (h_s6) (h_s8) (h_s9) (One.val rfl) hx hby hml hown hret hlk hZ hS hk  C1047 e1046 (Stand.more X1046 (by decide) (by decide)) N1046 O1048 f1046 prem1 
    | 4, _ =>
      refine GoS.cast (f' := (mkF m 302 #[iv p0, .val (.long p1), .second, .val (.long p2), .second, rv da0, s6, iv 5, s8, s9, iv 4] [])) rfl ?_
      refine GoS.of (T' := T0) (f' := (mkF m 310 #[iv p0, .val (.long p1), .second, .val (.long p2), .second, rv da0, s6, iv 5, s8, s9, iv 4] [(.long ((p2.toUInt64 >>> ((16 : Int32) &&& 0x3f).toInt64.toUInt64).toInt64)), (.int 4), (.ref da0)])) (fun _ k => XS.aload X0.here hx rfl (D at_302) rfl rfl (XS.iload X0.here hx rfl (D at_304) rfl (XS.lloadN X0.here hx rfl (D at_306) rfl (XS.bipush X0.here hx rfl (D at_307) (XS.lushr X0.here hx rfl (D at_309) rfl k))))) ?_
      generalize hpy : (((p2.toUInt64 >>> ((16 : Int32) &&& 0x3f).toInt64.toUInt64).toInt64) : Int64) = py
      obtain ⟨cl1049, Ar1049, qk1049, S1049, Ng1049, H1049, G1049⟩ := id prem0
      obtain ⟨T1049, h1049, X1049, e1049, W1049, st1049⟩ := stC X0 hx hZ e0 Ar1049 (j := (4 : Int32)) (inb_of S1049 ⟨by decide, by decide⟩) (g := (mkF m 316 #[iv p0, .val (.long p1), .second, .val (.long p2), .second, rv da0, s6, iv 5, s8, s9, iv 4] [(.int (((py &&& (255 : Int64)).toInt32).toUInt32.toUInt16.toUInt32.toInt32)), (.int 4), (.ref da0)])) rfl rfl (D at_316)
      have W1049 : Wr h0 h1049 da0 ((4 : Int32)).toNatClampNeg (.int (py.toInt32 &&& 255)) := Eq.mp (congrArg (fun z => Wr h0 h1049 da0 ((4 : Int32)).toNatClampNeg (Value.int z)) (own_cL255 py)) W1049
      have O1051 := Old0.wr O0 W1049 prem1
      have C1050 := CHr.trans C0 (CHr.wr W1049 (Safe.arv hZ.alike prem0 (by decide)) C0.1)
      have hk := Nat.le_trans hk (Keep.of_wr W1049).1
      have f1049 : Arv Z h1049 da0 kd0 .char (8 : Int32) [(.int (z0 &&& 255)), (.int (z1 &&& 255)), (.int (z2 &&& 255)), (.int (z3 &&& 255)), (.int (py.toInt32 &&& 255)), (.int (z5 &&& 255)), (.int (z6 &&& 255)), (.int (z7 &&& 255))] (.int 0) := Arv.set Ar1049 qk1049 S1049 Ng1049 H1049 G1049 (v := (.int (py.toInt32 &&& 255))) (own_f255 py.toInt32) W1049 4 rfl (Nat.le_of_ble_eq_true rfl)
      have N1049 := Fr.snoc X1049 N0 prem1
      refine GoS.of (T' := T1049) (f' := (mkF m 317 #[iv p0, .val (.long p1), .second, .val (.long p2), .second, rv da0, s6, iv 5, s8, s9, iv 4] [])) (fun _ k => X0.ldc2Long hx hown (mvT hZ (own_w hw (i := 1) rfl)) (g := (mkF m 310 #[iv p0, .val (.long p1), .second, .val (.long p2), .second, rv da0, s6, iv 5, s8, s9, iv 4] [(.long py), (.int 4), (.ref da0)])) rfl (D at_310) _ (XS.land X0.here hx rfl (D at_313) rfl (XS.l2i X0.here hx rfl (D at_314) rfl (XS.i2c X0.here hx rfl (D at_315) rfl (st1049 _ k))))) ?_
      exact rm_t5 hw G p0 p1 p2 (da0) (kd0) (z0) (z1) (z2) (z3) (py.toInt32) (z5) (z6) (z7) (h_s6) (h_s8) (h_s9) (One.val rfl) hx hby hml hown hret hlk hZ hS hk  C1050 e1049 (Stand.more X1049 (by decide) (by decide)) N1049 O1051 f1049 prem1 
    | n + 5, h => exact absurd h (by omega)
set_option maxRecDepth 65536 in
set_option maxHeartbeats 40000000 in
theorem rm_u6 {l : Launch} {Z : State} {a0 : Array Value} {A : Nat → Addr} {KC : Nat → Cell} {IC : Nat → Int32} {VC : Nat → Value} (hw : ∀ d ∈ tables_1, d.before a0 Z = true) (G : own_Ctx Z A KC IC VC) {p : Program} {e : Env} {s : State} {m : MethodId} {below : List Frame} {meth : Method} {c : Code} {T0 : State} {vm0 : Vm} {h0 : Heap} {k0 : Nat} {locs0 : List Loc} (p0 : Int32) (p1 : Int64) (p2 : Int64) (da0 : Addr) (kd0 : ClassId) (z0 : Int32) (z1 : Int32) (z2 : Int32) (z3 : Int32) (z4 : Int32) (z5 : Int32) (z6 : Int32) (z7 : Int32) {s6 : Slot} (h_s6 : One s6) {s8 : Slot} (h_s8 : One s8) {s9 : Slot} (h_s9 : One s9) {s10 : Slot} (h_s10 : One s10)
    (hx : p.tables.exec = Jvm.exec) (hby : c.code = code) (hml : c.maxLocals = 11) (hown : vm0.findClass "com/example/fair_index/fairindex/csw/ResultTypeNamedPinLaw" = some m.cls) (hret : meth.sig.returnType = ret) (hlk : meth.locks = false) (hZ : Z.Warmed39 vm0) (hS : s.Since vm0 k0) (hk : k0 ≤ h0.size) (C0 : CHr Z own_EL s.vm s.heap vm0 h0) (e0 : T0.heap = h0) (X0 : Stand p l e room_1 (s.setVm vm0) m #[(.int p0), (.long p1), (.long p2)] below meth c T0 locs0 8 128) (N0 : Fr Z.heap.size locs0) (O0 : Ext Z.heap h0) (prem0 : Arv Z h0 da0 kd0 .char (8 : Int32) [(.int (z0 &&& (255 : Int32))), (.int (z1 &&& (255 : Int32))), (.int (z2 &&& (255 : Int32))), (.int (z3 &&& (255 : Int32))), (.int (z4 &&& (255 : Int32))), (.int (z5 &&& (255 : Int32))), (.int (z6 &&& (255 : Int32))), (.int (z7 &&& (255 : Int32)))] (.int (0 : Int32))) (prem1 : Z.heap.size ≤ da0)  :
    GoS p e s below room_1 Z own_EL (fun v h L => v = some (.int (1 : Int32)) ∧ (Fr Z.heap.size L)) T0 (mkF m 280 #[iv p0, .val (.long p1), .second, .val (.long p2), .second, rv da0, s6, iv (6 : Int32), s8, s9, s10] []) := by
  have hEL := own_EW hw
  have D := @hb _ _ hby
  have K0 : Keep h0 h0 [] := Keep.refl _ _
  refine GoS.of (T' := T0) (f' := (mkF m 285 #[iv p0, .val (.long p1), .second, .val (.long p2), .second, rv da0, s6, iv 6, s8, s9, s10] [(.int (lcmpW (p2 &&& (1 : Int64)) (0 : Int64)))])) (fun _ k => XS.lloadN X0.here hx rfl (D at_280) rfl (XS.lconst X0.here hx rfl (D at_281) (XS.land X0.here hx rfl (D at_282) rfl (XS.lconst X0.here hx rfl (D at_283) (XS.lcmp X0.here hx rfl (D at_284) rfl k))))) ?_
  by_cases hc1052 : (lcmpW (p2 &&& (1 : Int64)) (0 : Int64)) = (0 : Int32)
  · skip
    refine GoS.of (T' := T0) (f' := (mkF m 317 #[iv p0, .val (.long p1), .second, .val (.long p2), .second, rv da0, s6, iv 6, s8, s9, s10] [])) (fun _ k => XS.ifYes X0.here hx rfl (pc0 := 285) (pc' := 317) rfl (D at_285) rfl ((if0 _ _).trans (teq hc1052).1) (by decide) (by decide) k) ?_
    exact rm_t6 hw G p0 p1 p2 (da0) (kd0) (z0) (z1) (z2) (z3) (z4) (z5) (z6) (z7) (h_s6) (h_s8) (h_s9) (h_s10) hx hby hml hown hret hlk hZ hS hk  C0 e0 (Stand.more X0 (by decide) (by decide)) N0 O0 prem0 prem1 
  · skip
    refine GoS.of (T' := T0) (f' := (mkF m 291 #[iv p0, .val (.long p1), .second, .val (.long p2), .second, rv da0, s6, iv 6, s8, s9, s10] [(.long ((p2.toUInt64 >>> ((1 : Int32) &&& 0x3f).toInt64.toUInt64).toInt64))])) (fun _ k => XS.ifNo X0.here hx rfl (D at_285) rfl ((if0 _ _).trans (feq hc1052).1) (XS.lloadN X0.here hx rfl (D at_288) rfl (XS.iconst X0.here hx rfl (D at_289) (XS.lushr X0.here hx rfl (D at_290) rfl k)))) ?_
    generalize hpz : (((p2.toUInt64 >>> ((1 : Int32) &&& 0x3f).toInt64.toUInt64).toInt64) : Int64) = pz
    obtain ⟨j, hj, hje⟩ := own_modL pz (6 : Int64) 6 (by decide) (by decide) (by decide)
    refine GoS.of (T' := T0) (f' := (mkF m 302 #[iv p0, .val (.long p1), .second, .val (.long p2), .second, rv da0, s6, iv 6, s8, s9, iv (((pz &&& (255 : Int64)) % (6 : Int64)).toInt32)] [])) (fun _ k => X0.ldc2Long hx hown (mvT hZ (own_w hw (i := 1) rfl)) (g := (mkF m 291 #[iv p0, .val (.long p1), .second, .val (.long p2), .second, rv da0, s6, iv 6, s8, s9, s10] [(.long pz)])) rfl (D at_291) _ (XS.land X0.here hx rfl (D at_294) rfl (XS.iload X0.here hx rfl (D at_295) rfl (XS.i2l X0.here hx rfl (D at_297) rfl (XS.lrem X0.here hx rfl (D at_298) rfl (by decide) (by rw [lrem_mod]; exact (XS.l2i X0.here hx rfl (D at_299) rfl (XS.istore X0.here hx rfl (D at_300) rfl (l' := #[iv p0, .val (.long p1), .second, .val (.long p2), .second, rv da0, s6, iv 6, s8, s9, iv (((pz &&& (255 : Int64)) % (6 : Int64)).toInt32)]) (XS.store1 (o := s10) rfl h_s10 rfl) k)))))))) ?_
    rw [hje]
    match j, hj with
    | 0, _ =>
      refine GoS.cast (f' := (mkF m 302 #[iv p0, .val (.long p1), .second, .val (.long p2), .second, rv da0, s6, iv 6, s8, s9, iv 0] [])) rfl ?_
      refine GoS.of (T' := T0) (f' := (mkF m 310 #[iv p0, .val (.long p1), .second, .val (.long p2), .second, rv da0, s6, iv 6, s8, s9, iv 0] [(.long ((p2.toUInt64 >>> ((16 : Int32) &&& 0x3f).toInt64.toUInt64).toInt64)), (.int 0), (.ref da0)])) (fun _ k => XS.aload X0.here hx rfl (D at_302) rfl rfl (XS.iload X0.here hx rfl (D at_304) rfl (XS.lloadN X0.here hx rfl (D at_306) rfl (XS.bipush X0.here hx rfl (D at_307) (XS.lushr X0.here hx rfl (D at_309) rfl k))))) ?_
      generalize hpy : (((p2.toUInt64 >>> ((16 : Int32) &&& 0x3f).toInt64.toUInt64).toInt64) : Int64) = py
      obtain ⟨cl1053, Ar1053, qk1053, S1053, Ng1053, H1053, G1053⟩ := id prem0
      obtain ⟨T1053, h1053, X1053, e1053, W1053, st1053⟩ := stC X0 hx hZ e0 Ar1053 (j := (0 : Int32)) (inb_of S1053 ⟨by decide, by decide⟩) (g := (mkF m 316 #[iv p0, .val (.long p1), .second, .val (.long p2), .second, rv da0, s6, iv 6, s8, s9, iv 0] [(.int (((py &&& (255 : Int64)).toInt32).toUInt32.toUInt16.toUInt32.toInt32)), (.int 0), (.ref da0)])) rfl rfl (D at_316)
      have W1053 : Wr h0 h1053 da0 ((0 : Int32)).toNatClampNeg (.int (py.toInt32 &&& 255)) := Eq.mp (congrArg (fun z => Wr h0 h1053 da0 ((0 : Int32)).toNatClampNeg (Value.int z)) (own_cL255 py)) W1053
      have O1055 := Old0.wr O0 W1053 prem1
      have C1054 := CHr.trans C0 (CHr.wr W1053 (Safe.arv hZ.alike prem0 (by decide)) C0.1)
      have hk := Nat.le_trans hk (Keep.of_wr W1053).1
      have f1053 : Arv Z h1053 da0 kd0 .char (8 : Int32) [(.int (py.toInt32 &&& 255)), (.int (z1 &&& 255)), (.int (z2 &&& 255)), (.int (z3 &&& 255)), (.int (z4 &&& 255)), (.int (z5 &&& 255)), (.int (z6 &&& 255)), (.int (z7 &&& 255))] (.int 0) := Arv.set Ar1053 qk1053 S1053 Ng1053 H1053 G1053 (v := (.int (py.toInt32 &&& 255))) (own_f255 py.toInt32) W1053 0 rfl (Nat.le_of_ble_eq_true rfl)
      have N1053 := Fr.snoc X1053 N0 prem1
      refine GoS.of (T' := T1053) (f' := (mkF m 317 #[iv p0, .val (.long p1), .second, .val (.long p2), .second, rv da0, s6, iv 6, s8, s9, iv 0] [])) (fun _ k => X0.ldc2Long hx hown (mvT hZ (own_w hw (i := 1) rfl)) (g := (mkF m 310 #[iv p0, .val (.long p1), .second, .val (.long p2), .second, rv da0, s6, iv 6, s8, s9, iv 0] [(.long py), (.int 0), (.ref da0)])) rfl (D at_310) _ (XS.land X0.here hx rfl (D at_313) rfl (XS.l2i X0.here hx rfl (D at_314) rfl (XS.i2c X0.here hx rfl (D at_315) rfl (st1053 _ k))))) ?_
      exact rm_t6 hw G p0 p1 p2 (da0) (kd0) (py.toInt32) (z1) (z2) (z3) (z4) (z5) (z6) (z7) (h_s6) (h_s8) (h_s9) (One.val rfl) hx hby hml hown hret hlk hZ hS hk  C1054 e1053 (Stand.more X1053 (by decide) (by decide)) N1053 O1055 f1053 prem1 
    | 1, _ =>
      refine GoS.cast (f' := (mkF m 302 #[iv p0, .val (.long p1), .second, .val (.long p2), .second, rv da0, s6, iv 6, s8, s9, iv 1] [])) rfl ?_
      refine GoS.of (T' := T0) (f' := (mkF m 310 #[iv p0, .val (.long p1), .second, .val (.long p2), .second, rv da0, s6, iv 6, s8, s9, iv 1] [(.long ((p2.toUInt64 >>> ((16 : Int32) &&& 0x3f).toInt64.toUInt64).toInt64)), (.int 1), (.ref da0)])) (fun _ k => XS.aload X0.here hx rfl (D at_302) rfl rfl (XS.iload X0.here hx rfl (D at_304) rfl (XS.lloadN X0.here hx rfl (D at_306) rfl (XS.bipush X0.here hx rfl (D at_307) (XS.lushr X0.here hx rfl (D at_309) rfl k))))) ?_
      generalize hpy : (((p2.toUInt64 >>> ((16 : Int32) &&& 0x3f).toInt64.toUInt64).toInt64) : Int64) = py
      obtain ⟨cl1056, Ar1056, qk1056, S1056, Ng1056, H1056, G1056⟩ := id prem0
      obtain ⟨T1056, h1056, X1056, e1056, W1056, st1056⟩ := stC X0 hx hZ e0 Ar1056 (j := (1 : Int32)) (inb_of S1056 ⟨by decide, by decide⟩) (g := (mkF m 316 #[iv p0, .val (.long p1), .second, .val (.long p2), .second, rv da0, s6, iv 6, s8, s9, iv 1] [(.int (((py &&& (255 : Int64)).toInt32).toUInt32.toUInt16.toUInt32.toInt32)), (.int 1), (.ref da0)])) rfl rfl (D at_316)
      have W1056 : Wr h0 h1056 da0 ((1 : Int32)).toNatClampNeg (.int (py.toInt32 &&& 255)) := Eq.mp (congrArg (fun z => Wr h0 h1056 da0 ((1 : Int32)).toNatClampNeg (Value.int z)) (own_cL255 py)) W1056
      have O1058 := Old0.wr O0 W1056 prem1
      have C1057 := CHr.trans C0 (CHr.wr W1056 (Safe.arv hZ.alike prem0 (by decide)) C0.1)
      have hk := Nat.le_trans hk (Keep.of_wr W1056).1
      have f1056 : Arv Z h1056 da0 kd0 .char (8 : Int32) [(.int (z0 &&& 255)), (.int (py.toInt32 &&& 255)), (.int (z2 &&& 255)), (.int (z3 &&& 255)), (.int (z4 &&& 255)), (.int (z5 &&& 255)), (.int (z6 &&& 255)), (.int (z7 &&& 255))] (.int 0) := Arv.set Ar1056 qk1056 S1056 Ng1056 H1056 G1056 (v := (.int (py.toInt32 &&& 255))) (own_f255 py.toInt32) W1056 1 rfl (Nat.le_of_ble_eq_true rfl)
      have N1056 := Fr.snoc X1056 N0 prem1
      refine GoS.of (T' := T1056) (f' := (mkF m 317 #[iv p0, .val (.long p1), .second, .val (.long p2), .second, rv da0, s6, iv 6, s8, s9, iv 1] [])) (fun _ k => X0.ldc2Long hx hown (mvT hZ (own_w hw (i := 1) rfl)) (g := (mkF m 310 #[iv p0, .val (.long p1), .second, .val (.long p2), .second, rv da0, s6, iv 6, s8, s9, iv 1] [(.long py), (.int 1), (.ref da0)])) rfl (D at_310) _ (XS.land X0.here hx rfl (D at_313) rfl (XS.l2i X0.here hx rfl (D at_314) rfl (XS.i2c X0.here hx rfl (D at_315) rfl (st1056 _ k))))) ?_
      exact rm_t6 hw G p0 p1 p2 (da0) (kd0) (z0) (py.toInt32) (z2) (z3) (z4) (z5) (z6) (z7) (h_s6) (h_s8) (h_s9) (One.val rfl) hx hby hml hown hret hlk hZ hS hk  C1057 e1056 (Stand.more X1056 (by decide) (by decide)) N1056 O1058 f1056 prem1 
    | 2, _ =>
      refine GoS.cast (f' := (mkF m 302 #[iv p0, .val (.long p1), .second, .val (.long p2), .second, rv da0, s6, iv 6, s8, s9, iv 2] [])) rfl ?_
      refine GoS.of (T' := T0) (f' := (mkF m 310 #[iv p0, .val (.long p1), .second, .val (.long p2), .second, rv da0, s6, iv 6, s8, s9, iv 2] [(.long ((p2.toUInt64 >>> ((16 : Int32) &&& 0x3f).toInt64.toUInt64).toInt64)), (.int 2), (.ref da0)])) (fun _ k => XS.aload X0.here hx rfl (D at_302) rfl rfl (XS.iload X0.here hx rfl (D at_304) rfl (XS.lloadN X0.here hx rfl (D at_306) rfl (XS.bipush X0.here hx rfl (D at_307) (XS.lushr X0.here hx rfl (D at_309) rfl k))))) ?_
      generalize hpy : (((p2.toUInt64 >>> ((16 : Int32) &&& 0x3f).toInt64.toUInt64).toInt64) : Int64) = py
      obtain ⟨cl1059, Ar1059, qk1059, S1059, Ng1059, H1059, G1059⟩ := id prem0
      obtain ⟨T1059, h1059, X1059, e1059, W1059, st1059⟩ := stC X0 hx hZ e0 Ar1059 (j := (2 : Int32)) (inb_of S1059 ⟨by decide, by decide⟩) (g := (mkF m 316 #[iv p0, .val (.long p1), .second, .val (.long p2), .second, rv da0, s6, iv 6, s8, s9, iv 2] [(.int (((py &&& (255 : Int64)).toInt32).toUInt32.toUInt16.toUInt32.toInt32)), (.int 2), (.ref da0)])) rfl rfl (D at_316)
      have W1059 : Wr h0 h1059 da0 ((2 : Int32)).toNatClampNeg (.int (py.toInt32 &&& 255)) := Eq.mp (congrArg (fun z => Wr h0 h1059 da0 ((2 : Int32)).toNatClampNeg (Value.int z)) (own_cL255 py)) W1059
      have O1061 := Old0.wr O0 W1059 prem1
      have C1060 := CHr.trans C0 (CHr.wr W1059 (Safe.arv hZ.alike prem0 (by decide)) C0.1)
      have hk := Nat.le_trans hk (Keep.of_wr W1059).1
      have f1059 : Arv Z h1059 da0 kd0 .char (8 : Int32) [(.int (z0 &&& 255)), (.int (z1 &&& 255)), (.int (py.toInt32 &&& 255)), (.int (z3 &&& 255)), (.int (z4 &&& 255)), (.int (z5 &&& 255)), (.int (z6 &&& 255)), (.int (z7 &&& 255))] (.int 0) := Arv.set Ar1059 qk1059 S1059 Ng1059 H1059 G1059 (v := (.int (py.toInt32 &&& 255))) (own_f255 py.toInt32) W1059 2 rfl (Nat.le_of_ble_eq_true rfl)
      have N1059 := Fr.snoc X1059 N0 prem1
      refine GoS.of (T' := T1059) (f' := (mkF m 317 #[iv p0, .val (.long p1), .second, .val (.long p2), .second, rv da0, s6, iv 6, s8, s9, iv 2] [])) (fun _ k => X0.ldc2Long hx hown (mvT hZ (own_w hw (i := 1) rfl)) (g := (mkF m 310 #[iv p0, .val (.long p1), .second, .val (.long p2), .second, rv da0, s6, iv 6, s8, s9, iv 2] [(.long py), (.int 2), (.ref da0)])) rfl (D at_310) _ (XS.land X0.here hx rfl (D at_313) rfl (XS.l2i X0.here hx rfl (D at_314) rfl (XS.i2c X0.here hx rfl (D at_315) rfl (st1059 _ k))))) ?_
      exact rm_t6 hw G p0 p1 p2 (da0) (kd0) (z0) (z1) (py.toInt32) (z3) (z4) (z5) (z6) (z7) (h_s6) (h_s8) (h_s9) (One.val rfl) hx hby hml hown hret hlk hZ hS hk  C1060 e1059 (Stand.more X1059 (by decide) (by decide)) N1059 O1061 f1059 prem1 
    | 3, _ =>
      refine GoS.cast (f' := (mkF m 302 #[iv p0, .val (.long p1), .second, .val (.long p2), .second, rv da0, s6, iv 6, s8, s9, iv 3] [])) rfl ?_
      refine GoS.of (T' := T0) (f' := (mkF m 310 #[iv p0, .val (.long p1), .second, .val (.long p2), .second, rv da0, s6, iv 6, s8, s9, iv 3] [(.long ((p2.toUInt64 >>> ((16 : Int32) &&& 0x3f).toInt64.toUInt64).toInt64)), (.int 3), (.ref da0)])) (fun _ k => XS.aload X0.here hx rfl (D at_302) rfl rfl (XS.iload X0.here hx rfl (D at_304) rfl (XS.lloadN X0.here hx rfl (D at_306) rfl (XS.bipush X0.here hx rfl (D at_307) (XS.lushr X0.here hx rfl (D at_309) rfl k))))) ?_
      generalize hpy : (((p2.toUInt64 >>> ((16 : Int32) &&& 0x3f).toInt64.toUInt64).toInt64) : Int64) = py
      obtain ⟨cl1062, Ar1062, qk1062, S1062, Ng1062, H1062, G1062⟩ := id prem0
      obtain ⟨T1062, h1062, X1062, e1062, W1062, st1062⟩ := stC X0 hx hZ e0 Ar1062 (j := (3 : Int32)) (inb_of S1062 ⟨by decide, by decide⟩) (g := (mkF m 316 #[iv p0, .val (.long p1), .second, .val (.long p2), .second, rv da0, s6, iv 6, s8, s9, iv 3] [(.int (((py &&& (255 : Int64)).toInt32).toUInt32.toUInt16.toUInt32.toInt32)), (.int 3), (.ref da0)])) rfl rfl (D at_316)
      have W1062 : Wr h0 h1062 da0 ((3 : Int32)).toNatClampNeg (.int (py.toInt32 &&& 255)) := Eq.mp (congrArg (fun z => Wr h0 h1062 da0 ((3 : Int32)).toNatClampNeg (Value.int z)) (own_cL255 py)) W1062
      have O1064 := Old0.wr O0 W1062 prem1
      have C1063 := CHr.trans C0 (CHr.wr W1062 (Safe.arv hZ.alike prem0 (by decide)) C0.1)
      have hk := Nat.le_trans hk (Keep.of_wr W1062).1
      have f1062 : Arv Z h1062 da0 kd0 .char (8 : Int32) [(.int (z0 &&& 255)), (.int (z1 &&& 255)), (.int (z2 &&& 255)), (.int (py.toInt32 &&& 255)), (.int (z4 &&& 255)), (.int (z5 &&& 255)), (.int (z6 &&& 255)), (.int (z7 &&& 255))] (.int 0) := Arv.set Ar1062 qk1062 S1062 Ng1062 H1062 G1062 (v := (.int (py.toInt32 &&& 255))) (own_f255 py.toInt32) W1062 3 rfl (Nat.le_of_ble_eq_true rfl)
      have N1062 := Fr.snoc X1062 N0 prem1
      refine GoS.of (T' := T1062) (f' := (mkF m 317 #[iv p0, .val (.long p1), .second, .val (.long p2), .second, rv da0, s6, iv 6, s8, s9, iv 3] [])) (fun _ k => X0.ldc2Long hx hown (mvT hZ (own_w hw (i := 1) rfl)) (g := (mkF m 310 #[iv p0, .val (.long p1), .second, .val (.long p2), .second, rv da0, s6, iv 6, s8, s9, iv 3] [(.long py), (.int 3), (.ref da0)])) rfl (D at_310) _ (XS.land X0.here hx rfl (D at_313) rfl (XS.l2i X0.here hx rfl (D at_314) rfl (XS.i2c X0.here hx rfl (D at_315) rfl (st1062 _ k))))) ?_
      exact rm_t6 hw G p0 p1 p2 (da0) (kd0) (z0) (z1) (z2) (py.toInt32) (z4) (z5) (z6) (z7) (h_s6) (h_s8) (h_s9) (One.val rfl) hx hby hml hown hret hlk hZ hS hk  C1063 e1062 (Stand.more X1062 (by decide) (by decide)) N1062 O1064 f1062 prem1 
    | 4, _ =>
      refine GoS.cast (f' := (mkF m 302 #[iv p0, .val (.long p1), .second, .val (.long p2), .second, rv da0, s6, iv 6, s8, s9, iv 4] [])) rfl ?_
      refine GoS.of (T' := T0) (f' := (mkF m 310 #[iv p0, .val (.long p1), .second, .val (.long p2), .second, rv da0, s6, iv 6, s8, s9, iv 4] [(.long ((p2.toUInt64 >>> ((16 : Int32) &&& 0x3f).toInt64.toUInt64).toInt64)), (.int 4), (.ref da0)])) (fun _ k => XS.aload X0.here hx rfl (D at_302) rfl rfl (XS.iload X0.here hx rfl (D at_304) rfl (XS.lloadN X0.here hx rfl (D at_306) rfl (XS.bipush X0.here hx rfl (D at_307) (XS.lushr X0.here hx rfl (D at_309) rfl k))))) ?_
      generalize hpy : (((p2.toUInt64 >>> ((16 : Int32) &&& 0x3f).toInt64.toUInt64).toInt64) : Int64) = py
      obtain ⟨cl1065, Ar1065, qk1065, S1065, Ng1065, H1065, G1065⟩ := id prem0
      obtain ⟨T1065, h1065, X1065, e1065, W1065, st1065⟩ := stC X0 hx hZ e0 Ar1065 (j := (4 : Int32)) (inb_of S1065 ⟨by decide, by decide⟩) (g := (mkF m 316 #[iv p0, .val (.long p1), .second, .val (.long p2), .second, rv da0, s6, iv 6, s8, s9, iv 4] [(.int (((py &&& (255 : Int64)).toInt32).toUInt32.toUInt16.toUInt32.toInt32)), (.int 4), (.ref da0)])) rfl rfl (D at_316)
      have W1065 : Wr h0 h1065 da0 ((4 : Int32)).toNatClampNeg (.int (py.toInt32 &&& 255)) := Eq.mp (congrArg (fun z => Wr h0 h1065 da0 ((4 : Int32)).toNatClampNeg (Value.int z)) (own_cL255 py)) W1065
      have O1067 := Old0.wr O0 W1065 prem1
      have C1066 := CHr.trans C0 (CHr.wr W1065 (Safe.arv hZ.alike prem0 (by decide)) C0.1)
      have hk := Nat.le_trans hk (Keep.of_wr W1065).1
      have f1065 : Arv Z h1065 da0 kd0 .char (8 : Int32) [(.int (z0 &&& 255)), (.int (z1 &&& 255)), (.int (z2 &&& 255)), (.int (z3 &&& 255)), (.int (py.toInt32 &&& 255)), (.int (z5 &&& 255)), (.int (z6 &&& 255)), (.int (z7 &&& 255))] (.int 0) := Arv.set Ar1065 qk1065 S1065 Ng1065 H1065 G1065 (v := (.int (py.toInt32 &&& 255))) (own_f255 py.toInt32) W1065 4 rfl (Nat.le_of_ble_eq_true rfl)
      have N1065 := Fr.snoc X1065 N0 prem1
      refine GoS.of (T' := T1065) (f' := (mkF m 317 #[iv p0, .val (.long p1), .second, .val (.long p2), .second, rv da0, s6, iv 6, s8, s9, iv 4] [])) (fun _ k => X0.ldc2Long hx hown (mvT hZ (own_w hw (i := 1) rfl)) (g := (mkF m 310 #[iv p0, .val (.long p1), .second, .val (.long p2), .second, rv da0, s6, iv 6, s8, s9, iv 4] [(.long py), (.int 4), (.ref da0)])) rfl (D at_310) _ (XS.land X0.here hx rfl (D at_313) rfl (XS.l2i X0.here hx rfl (D at_314) rfl (XS.i2c X0.here hx rfl (D at_315) rfl (st1065 _ k))))) ?_
      exact rm_t6 hw G p0 p1 p2 (da0) (kd0) (z0) (z1) (z2) (z3) (py.toInt32) (z5) (z6) (z7) (h_s6) (h_s8) (h_s9) (One.val rfl) hx hby hml hown hret hlk hZ hS hk  C1066 e1065 (Stand.more X1065 (by decide) (by decide)) N1065 O1067 f1065 prem1 
    | 5, _ =>
      refine GoS.cast (f' := (mkF m 302 #[iv p0, .val (.long p1), .second, .val (.long p2), .second, rv da0, s6, iv 6, s8, s9, iv 5] [])) rfl ?_
      refine GoS.of (T' := T0) (f' := (mkF m 310 #[iv p0, .val (.long p1), .second, .val (.long p2), .second, rv da0, s6, iv 6, s8, s9, iv 5] [(.long ((p2.toUInt64 >>> ((16 : Int32) &&& 0x3f).toInt64.toUInt64).toInt64)), (.int 5), (.ref da0)])) (fun _ k => XS.aload X0.here hx rfl (D at_302) rfl rfl (XS.iload X0.here hx rfl (D at_304) rfl (XS.lloadN X0.here hx rfl (D at_306) rfl (XS.bipush X0.here hx rfl (D at_307) (XS.lushr X0.here hx rfl (D at_309) rfl k))))) ?_
      generalize hpy : (((p2.toUInt64 >>> ((16 : Int32) &&& 0x3f).toInt64.toUInt64).toInt64) : Int64) = py
      obtain ⟨cl1068, Ar1068, qk1068, S1068, Ng1068, H1068, G1068⟩ := id prem0
      obtain ⟨T1068, h1068, X1068, e1068, W1068, st1068⟩ := stC X0 hx hZ e0 Ar1068 (j := (5 : Int32)) (inb_of S1068 ⟨by decide, by decide⟩) (g := (mkF m 316 #[iv p0, .val (.long p1), .second, .val (.long p2), .second, rv da0, s6, iv 6, s8, s9, iv 5] [(.int (((py &&& (255 : Int64)).toInt32).toUInt32.toUInt16.toUInt32.toInt32)), (.int 5), (.ref da0)])) rfl rfl (D at_316)
      have W1068 : Wr h0 h1068 da0 ((5 : Int32)).toNatClampNeg (.int (py.toInt32 &&& 255)) := Eq.mp (congrArg (fun z => Wr h0 h1068 da0 ((5 : Int32)).toNatClampNeg (Value.int z)) (own_cL255 py)) W1068
      have O1070 := Old0.wr O0 W1068 prem1
      have C1069 := CHr.trans C0 (CHr.wr W1068 (Safe.arv hZ.alike prem0 (by decide)) C0.1)
      have hk := Nat.le_trans hk (Keep.of_wr W1068).1
      have f1068 : Arv Z h1068 da0 kd0 .char (8 : Int32) [(.int (z0 &&& 255)), (.int (z1 &&& 255)), (.int (z2 &&& 255)), (.int (z3 &&& 255)), (.int (z4 &&& 255)), (.int (py.toInt32 &&& 255)), (.int (z6 &&& 255)), (.int (z7 &&& 255))] (.int 0) := Arv.set Ar1068 qk1068 S1068 Ng1068 H1068 G1068 (v := (.int (py.toInt32 &&& 255))) (own_f255 py.toInt32) W1068 5 rfl (Nat.le_of_ble_eq_true rfl)
      have N1068 := Fr.snoc X1068 N0 prem1
      refine GoS.of (T' := T1068) (f' := (mkF m 317 #[iv p0, .val (.long p1), .second, .val (.long p2), .second, rv da0, s6, iv 6, s8, s9, iv 5] [])) (fun _ k => X0.ldc2Long hx hown (mvT hZ (own_w hw (i := 1) rfl)) (g := (mkF m 310 #[iv p0, .val (.long p1), .second, .val (.long p2), .second, rv da0, s6, iv 6, s8, s9, iv 5] [(.long py), (.int 5), (.ref da0)])) rfl (D at_310) _ (XS.land X0.here hx rfl (D at_313) rfl (XS.l2i X0.here hx rfl (D at_314) rfl (XS.i2c X0.here hx rfl (D at_315) rfl (st1068 _ k))))) ?_
      exact rm_t6 hw G p0 p1 p2 (da0) (kd0) (z0) (z1) (z2) (z3) (z4) (py.toInt32) (z6) (z7) (h_s6) (h_s8) (h_s9) (One.val rfl) hx hby hml hown hret hlk hZ hS hk  C1069 e1068 (Stand.more X1068 (by decide) (by decide)) N1068 O1070 f1068 prem1 
    | n + 6, h => exact absurd h (by omega)
set_option maxRecDepth 65536 in
set_option maxHeartbeats 40000000 in
theorem rm_u7 {l : Launch} {Z : State} {a0 : Array Value} {A : Nat → Addr} {KC : Nat → Cell} {IC : Nat → Int32} {VC : Nat → Value} (hw : ∀ d ∈ tables_1, d.before a0 Z = true) (G : own_Ctx Z A KC IC VC) {p : Program} {e : Env} {s : State} {m : MethodId} {below : List Frame} {meth : Method} {c : Code} {T0 : State} {vm0 : Vm} {h0 : Heap} {k0 : Nat} {locs0 : List Loc} (p0 : Int32) (p1 : Int64) (p2 : Int64) (da0 : Addr) (kd0 : ClassId) (z0 : Int32) (z1 : Int32) (z2 : Int32) (z3 : Int32) (z4 : Int32) (z5 : Int32) (z6 : Int32) (z7 : Int32) {s6 : Slot} (h_s6 : One s6) {s8 : Slot} (h_s8 : One s8) {s9 : Slot} (h_s9 : One s9) {s10 : Slot} (h_s10 : One s10)
    (hx : p.tables.exec = Jvm.exec) (hby : c.code = code) (hml : c.maxLocals = 11) (hown : vm0.findClass "com/example/fair_index/fairindex/csw/ResultTypeNamedPinLaw" = some m.cls) (hret : meth.sig.returnType = ret) (hlk : meth.locks = false) (hZ : Z.Warmed39 vm0) (hS : s.Since vm0 k0) (hk : k0 ≤ h0.size) (C0 : CHr Z own_EL s.vm s.heap vm0 h0) (e0 : T0.heap = h0) (X0 : Stand p l e room_1 (s.setVm vm0) m #[(.int p0), (.long p1), (.long p2)] below meth c T0 locs0 8 128) (N0 : Fr Z.heap.size locs0) (O0 : Ext Z.heap h0) (prem0 : Arv Z h0 da0 kd0 .char (8 : Int32) [(.int (z0 &&& (255 : Int32))), (.int (z1 &&& (255 : Int32))), (.int (z2 &&& (255 : Int32))), (.int (z3 &&& (255 : Int32))), (.int (z4 &&& (255 : Int32))), (.int (z5 &&& (255 : Int32))), (.int (z6 &&& (255 : Int32))), (.int (z7 &&& (255 : Int32)))] (.int (0 : Int32))) (prem1 : Z.heap.size ≤ da0)  :
    GoS p e s below room_1 Z own_EL (fun v h L => v = some (.int (1 : Int32)) ∧ (Fr Z.heap.size L)) T0 (mkF m 280 #[iv p0, .val (.long p1), .second, .val (.long p2), .second, rv da0, s6, iv (7 : Int32), s8, s9, s10] []) := by
  have hEL := own_EW hw
  have D := @hb _ _ hby
  have K0 : Keep h0 h0 [] := Keep.refl _ _
  refine GoS.of (T' := T0) (f' := (mkF m 285 #[iv p0, .val (.long p1), .second, .val (.long p2), .second, rv da0, s6, iv 7, s8, s9, s10] [(.int (lcmpW (p2 &&& (1 : Int64)) (0 : Int64)))])) (fun _ k => XS.lloadN X0.here hx rfl (D at_280) rfl (XS.lconst X0.here hx rfl (D at_281) (XS.land X0.here hx rfl (D at_282) rfl (XS.lconst X0.here hx rfl (D at_283) (XS.lcmp X0.here hx rfl (D at_284) rfl k))))) ?_
  by_cases hc1071 : (lcmpW (p2 &&& (1 : Int64)) (0 : Int64)) = (0 : Int32)
  · skip
    refine GoS.of (T' := T0) (f' := (mkF m 317 #[iv p0, .val (.long p1), .second, .val (.long p2), .second, rv da0, s6, iv 7, s8, s9, s10] [])) (fun _ k => XS.ifYes X0.here hx rfl (pc0 := 285) (pc' := 317) rfl (D at_285) rfl ((if0 _ _).trans (teq hc1071).1) (by decide) (by decide) k) ?_
    exact rm_t7 hw G p0 p1 p2 (da0) (kd0) (z0) (z1) (z2) (z3) (z4) (z5) (z6) (z7) (h_s6) (h_s8) (h_s9) (h_s10) hx hby hml hown hret hlk hZ hS hk  C0 e0 (Stand.more X0 (by decide) (by decide)) N0 O0 prem0 prem1 
  · skip
    refine GoS.of (T' := T0) (f' := (mkF m 291 #[iv p0, .val (.long p1), .second, .val (.long p2), .second, rv da0, s6, iv 7, s8, s9, s10] [(.long ((p2.toUInt64 >>> ((1 : Int32) &&& 0x3f).toInt64.toUInt64).toInt64))])) (fun _ k => XS.ifNo X0.here hx rfl (D at_285) rfl ((if0 _ _).trans (feq hc1071).1) (XS.lloadN X0.here hx rfl (D at_288) rfl (XS.iconst X0.here hx rfl (D at_289) (XS.lushr X0.here hx rfl (D at_290) rfl k)))) ?_
    generalize hpz : (((p2.toUInt64 >>> ((1 : Int32) &&& 0x3f).toInt64.toUInt64).toInt64) : Int64) = pz
    obtain ⟨j, hj, hje⟩ := own_modL pz (7 : Int64) 7 (by decide) (by decide) (by decide)
    refine GoS.of (T' := T0) (f' := (mkF m 302 #[iv p0, .val (.long p1), .second, .val (.long p2), .second, rv da0, s6, iv 7, s8, s9, iv (((pz &&& (255 : Int64)) % (7 : Int64)).toInt32)] [])) (fun _ k => X0.ldc2Long hx hown (mvT hZ (own_w hw (i := 1) rfl)) (g := (mkF m 291 #[iv p0, .val (.long p1), .second, .val (.long p2), .second, rv da0, s6, iv 7, s8, s9, s10] [(.long pz)])) rfl (D at_291) _ (XS.land X0.here hx rfl (D at_294) rfl (XS.iload X0.here hx rfl (D at_295) rfl (XS.i2l X0.here hx rfl (D at_297) rfl (XS.lrem X0.here hx rfl (D at_298) rfl (by decide) (by rw [lrem_mod]; exact (XS.l2i X0.here hx rfl (D at_299) rfl (XS.istore X0.here hx rfl (D at_300) rfl (l' := #[iv p0, .val (.long p1), .second, .val (.long p2), .second, rv da0, s6, iv 7, s8, s9, iv (((pz &&& (255 : Int64)) % (7 : Int64)).toInt32)]) (XS.store1 (o := s10) rfl h_s10 rfl) k)))))))) ?_
    rw [hje]
    match j, hj with
    | 0, _ =>
      refine GoS.cast (f' := (mkF m 302 #[iv p0, .val (.long p1), .second, .val (.long p2), .second, rv da0, s6, iv 7, s8, s9, iv 0] [])) rfl ?_
      refine GoS.of (T' := T0) (f' := (mkF m 310 #[iv p0, .val (.long p1), .second, .val (.long p2), .second, rv da0, s6, iv 7, s8, s9, iv 0] [(.long ((p2.toUInt64 >>> ((16 : Int32) &&& 0x3f).toInt64.toUInt64).toInt64)), (.int 0), (.ref da0)])) (fun _ k => XS.aload X0.here hx rfl (D at_302) rfl rfl (XS.iload X0.here hx rfl (D at_304) rfl (XS.lloadN X0.here hx rfl (D at_306) rfl (XS.bipush X0.here hx rfl (D at_307) (XS.lushr X0.here hx rfl (D at_309) rfl k))))) ?_
      generalize hpy : (((p2.toUInt64 >>> ((16 : Int32) &&& 0x3f).toInt64.toUInt64).toInt64) : Int64) = py
      obtain ⟨cl1072, Ar1072, qk1072, S1072, Ng1072, H1072, G1072⟩ := id prem0
      obtain ⟨T1072, h1072, X1072, e1072, W1072, st1072⟩ := stC X0 hx hZ e0 Ar1072 (j := (0 : Int32)) (inb_of S1072 ⟨by decide, by decide⟩) (g := (mkF m 316 #[iv p0, .val (.long p1), .second, .val (.long p2), .second, rv da0, s6, iv 7, s8, s9, iv 0] [(.int (((py &&& (255 : Int64)).toInt32).toUInt32.toUInt16.toUInt32.toInt32)), (.int 0), (.ref da0)])) rfl rfl (D at_316)
      have W1072 : Wr h0 h1072 da0 ((0 : Int32)).toNatClampNeg (.int (py.toInt32 &&& 255)) := Eq.mp (congrArg (fun z => Wr h0 h1072 da0 ((0 : Int32)).toNatClampNeg (Value.int z)) (own_cL255 py)) W1072
      have O1074 := Old0.wr O0 W1072 prem1
      have C1073 := CHr.trans C0 (CHr.wr W1072 (Safe.arv hZ.alike prem0 (by decide)) C0.1)
      have hk := Nat.le_trans hk (Keep.of_wr W1072).1
      have f1072 : Arv Z h1072 da0 kd0 .char (8 : Int32) [(.int (py.toInt32 &&& 255)), (.int (z1 &&& 255)), (.int (z2 &&& 255)), (.int (z3 &&& 255)), (.int (z4 &&& 255)), (.int (z5 &&& 255)), (.int (z6 &&& 255)), (.int (z7 &&& 255))] (.int 0) := Arv.set Ar1072 qk1072 S1072 Ng1072 H1072 G1072 (v := (.int (py.toInt32 &&& 255))) (own_f255 py.toInt32) W1072 0 rfl (Nat.le_of_ble_eq_true rfl)
      have N1072 := Fr.snoc X1072 N0 prem1
      refine GoS.of (T' := T1072) (f' := (mkF m 317 #[iv p0, .val (.long p1), .second, .val (.long p2), .second, rv da0, s6, iv 7, s8, s9, iv 0] [])) (fun _ k => X0.ldc2Long hx hown (mvT hZ (own_w hw (i := 1) rfl)) (g := (mkF m 310 #[iv p0, .val (.long p1), .second, .val (.long p2), .second, rv da0, s6, iv 7, s8, s9, iv 0] [(.long py), (.int 0), (.ref da0)])) rfl (D at_310) _ (XS.land X0.here hx rfl (D at_313) rfl (XS.l2i X0.here hx rfl (D at_314) rfl (XS.i2c X0.here hx rfl (D at_315) rfl (st1072 _ k))))) ?_
      exact rm_t7 hw G p0 p1 p2 (da0) (kd0) (py.toInt32) (z1) (z2) (z3) (z4) (z5) (z6) (z7) (h_s6) (h_s8) (h_s9) (One.val rfl) hx hby hml hown hret hlk hZ hS hk  C1073 e1072 (Stand.more X1072 (by decide) (by decide)) N1072 O1074 f1072 prem1 
    | 1, _ =>
      refine GoS.cast (f' := (mkF m 302 #[iv p0, .val (.long p1), .second, .val (.long p2), .second, rv da0, s6, iv 7, s8, s9, iv 1] [])) rfl ?_
      refine GoS.of (T' := T0) (f' := (mkF m 310 #[iv p0, .val (.long p1), .second, .val (.long p2), .second, rv da0, s6, iv 7, s8, s9, iv 1] [(.long ((p2.toUInt64 >>> ((16 : Int32) &&& 0x3f).toInt64.toUInt64).toInt64)), (.int 1), (.ref da0)])) (fun _ k => XS.aload X0.here hx rfl (D at_302) rfl rfl (XS.iload X0.here hx rfl (D at_304) rfl (XS.lloadN X0.here hx rfl (D at_306) rfl (XS.bipush X0.here hx rfl (D at_307) (XS.lushr X0.here hx rfl (D at_309) rfl k))))) ?_
      generalize hpy : (((p2.toUInt64 >>> ((16 : Int32) &&& 0x3f).toInt64.toUInt64).toInt64) : Int64) = py
      obtain ⟨cl1075, Ar1075, qk1075, S1075, Ng1075, H1075, G1075⟩ := id prem0
      obtain ⟨T1075, h1075, X1075, e1075, W1075, st1075⟩ := stC X0 hx hZ e0 Ar1075 (j := (1 : Int32)) (inb_of S1075 ⟨by decide, by decide⟩) (g := (mkF m 316 #[iv p0, .val (.long p1), .second, .val (.long p2), .second, rv da0, s6, iv 7, s8, s9, iv 1] [(.int (((py &&& (255 : Int64)).toInt32).toUInt32.toUInt16.toUInt32.toInt32)), (.int 1), (.ref da0)])) rfl rfl (D at_316)
      have W1075 : Wr h0 h1075 da0 ((1 : Int32)).toNatClampNeg (.int (py.toInt32 &&& 255)) := Eq.mp (congrArg (fun z => Wr h0 h1075 da0 ((1 : Int32)).toNatClampNeg (Value.int z)) (own_cL255 py)) W1075
      have O1077 := Old0.wr O0 W1075 prem1
      have C1076 := CHr.trans C0 (CHr.wr W1075 (Safe.arv hZ.alike prem0 (by decide)) C0.1)
      have hk := Nat.le_trans hk (Keep.of_wr W1075).1
      have f1075 : Arv Z h1075 da0 kd0 .char (8 : Int32) [(.int (z0 &&& 255)), (.int (py.toInt32 &&& 255)), (.int (z2 &&& 255)), (.int (z3 &&& 255)), (.int (z4 &&& 255)), (.int (z5 &&& 255)), (.int (z6 &&& 255)), (.int (z7 &&& 255))] (.int 0) := Arv.set Ar1075 qk1075 S1075 Ng1075 H1075 G1075 (v := (.int (py.toInt32 &&& 255))) (own_f255 py.toInt32) W1075 1 rfl (Nat.le_of_ble_eq_true rfl)
      have N1075 := Fr.snoc X1075 N0 prem1
      refine GoS.of (T' := T1075) (f' := (mkF m 317 #[iv p0, .val (.long p1), .second, .val (.long p2), .second, rv da0, s6, iv 7, s8, s9, iv 1] [])) (fun _ k => X0.ldc2Long hx hown (mvT hZ (own_w hw (i := 1) rfl)) (g := (mkF m 310 #[iv p0, .val (.long p1), .second, .val (.long p2), .second, rv da0, s6, iv 7, s8, s9, iv 1] [(.long py), (.int 1), (.ref da0)])) rfl (D at_310) _ (XS.land X0.here hx rfl (D at_313) rfl (XS.l2i X0.here hx rfl (D at_314) rfl (XS.i2c X0.here hx rfl (D at_315) rfl (st1075 _ k))))) ?_
      exact rm_t7 hw G p0 p1 p2 (da0) (kd0) (z0) (py.toInt32) (z2) (z3) (z4) (z5) (z6) (z7) (h_s6) (h_s8) (h_s9) (One.val rfl) hx hby hml hown hret hlk hZ hS hk  C1076 e1075 (Stand.more X1075 (by decide) (by decide)) N1075 O1077 f1075 prem1 
    | 2, _ =>
      refine GoS.cast (f' := (mkF m 302 #[iv p0, .val (.long p1), .second, .val (.long p2), .second, rv da0, s6, iv 7, s8, s9, iv 2] [])) rfl ?_
      refine GoS.of (T' := T0) (f' := (mkF m 310 #[iv p0, .val (.long p1), .second, .val (.long p2), .second, rv da0, s6, iv 7, s8, s9, iv 2] [(.long ((p2.toUInt64 >>> ((16 : Int32) &&& 0x3f).toInt64.toUInt64).toInt64)), (.int 2), (.ref da0)])) (fun _ k => XS.aload X0.here hx rfl (D at_302) rfl rfl (XS.iload X0.here hx rfl (D at_304) rfl (XS.lloadN X0.here hx rfl (D at_306) rfl (XS.bipush X0.here hx rfl (D at_307) (XS.lushr X0.here hx rfl (D at_309) rfl k))))) ?_
      generalize hpy : (((p2.toUInt64 >>> ((16 : Int32) &&& 0x3f).toInt64.toUInt64).toInt64) : Int64) = py
      obtain ⟨cl1078, Ar1078, qk1078, S1078, Ng1078, H1078, G1078⟩ := id prem0
      obtain ⟨T1078, h1078, X1078, e1078, W1078, st1078⟩ := stC X0 hx hZ e0 Ar1078 (j := (2 : Int32)) (inb_of S1078 ⟨by decide, by decide⟩) (g := (mkF m 316 #[iv p0, .val (.long p1), .second, .val (.long p2), .second, rv da0, s6, iv 7, s8, s9, iv 2] [(.int (((py &&& (255 : Int64)).toInt32).toUInt32.toUInt16.toUInt32.toInt32)), (.int 2), (.ref da0)])) rfl rfl (D at_316)
      have W1078 : Wr h0 h1078 da0 ((2 : Int32)).toNatClampNeg (.int (py.toInt32 &&& 255)) := Eq.mp (congrArg (fun z => Wr h0 h1078 da0 ((2 : Int32)).toNatClampNeg (Value.int z)) (own_cL255 py)) W1078
      have O1080 := Old0.wr O0 W1078 prem1
      have C1079 := CHr.trans C0 (CHr.wr W1078 (Safe.arv hZ.alike prem0 (by decide)) C0.1)
      have hk := Nat.le_trans hk (Keep.of_wr W1078).1
      have f1078 : Arv Z h1078 da0 kd0 .char (8 : Int32) [(.int (z0 &&& 255)), (.int (z1 &&& 255)), (.int (py.toInt32 &&& 255)), (.int (z3 &&& 255)), (.int (z4 &&& 255)), (.int (z5 &&& 255)), (.int (z6 &&& 255)), (.int (z7 &&& 255))] (.int 0) := Arv.set Ar1078 qk1078 S1078 Ng1078 H1078 G1078 (v := (.int (py.toInt32 &&& 255))) (own_f255 py.toInt32) W1078 2 rfl (Nat.le_of_ble_eq_true rfl)
      have N1078 := Fr.snoc X1078 N0 prem1
      refine GoS.of (T' := T1078) (f' := (mkF m 317 #[iv p0, .val (.long p1), .second, .val (.long p2), .second, rv da0, s6, iv 7, s8, s9, iv 2] [])) (fun _ k => X0.ldc2Long hx hown (mvT hZ (own_w hw (i := 1) rfl)) (g := (mkF m 310 #[iv p0, .val (.long p1), .second, .val (.long p2), .second, rv da0, s6, iv 7, s8, s9, iv 2] [(.long py), (.int 2), (.ref da0)])) rfl (D at_310) _ (XS.land X0.here hx rfl (D at_313) rfl (XS.l2i X0.here hx rfl (D at_314) rfl (XS.i2c X0.here hx rfl (D at_315) rfl (st1078 _ k))))) ?_
      exact rm_t7 hw G p0 p1 p2 (da0) (kd0) (z0) (z1) (py.toInt32) (z3) (z4) (z5) (z6) (z7) (h_s6) (h_s8) (h_s9) (One.val rfl) hx hby hml hown hret hlk hZ hS hk  C1079 e1078 (Stand.more X1078 (by decide) (by decide)) N1078 O1080 f1078 prem1 
    | 3, _ =>
      refine GoS.cast (f' := (mkF m 302 #[iv p0, .val (.long p1), .second, .val (.long p2), .second, rv da0, s6, iv 7, s8, s9, iv 3] [])) rfl ?_
      refine GoS.of (T' := T0) (f' := (mkF m 310 #[iv p0, .val (.long p1), .second, .val (.long p2), .second, rv da0, s6, iv 7, s8, s9, iv 3] [(.long ((p2.toUInt64 >>> ((16 : Int32) &&& 0x3f).toInt64.toUInt64).toInt64)), (.int 3), (.ref da0)])) (fun _ k => XS.aload X0.here hx rfl (D at_302) rfl rfl (XS.iload X0.here hx rfl (D at_304) rfl (XS.lloadN X0.here hx rfl (D at_306) rfl (XS.bipush X0.here hx rfl (D at_307) (XS.lushr X0.here hx rfl (D at_309) rfl k))))) ?_
      generalize hpy : (((p2.toUInt64 >>> ((16 : Int32) &&& 0x3f).toInt64.toUInt64).toInt64) : Int64) = py
      obtain ⟨cl1081, Ar1081, qk1081, S1081, Ng1081, H1081, G1081⟩ := id prem0
      obtain ⟨T1081, h1081, X1081, e1081, W1081, st1081⟩ := stC X0 hx hZ e0 Ar1081 (j := (3 : Int32)) (inb_of S1081 ⟨by decide, by decide⟩) (g := (mkF m 316 #[iv p0, .val (.long p1), .second, .val (.long p2), .second, rv da0, s6, iv 7, s8, s9, iv 3] [(.int (((py &&& (255 : Int64)).toInt32).toUInt32.toUInt16.toUInt32.toInt32)), (.int 3), (.ref da0)])) rfl rfl (D at_316)
      have W1081 : Wr h0 h1081 da0 ((3 : Int32)).toNatClampNeg (.int (py.toInt32 &&& 255)) := Eq.mp (congrArg (fun z => Wr h0 h1081 da0 ((3 : Int32)).toNatClampNeg (Value.int z)) (own_cL255 py)) W1081
      have O1083 := Old0.wr O0 W1081 prem1
      have C1082 := CHr.trans C0 (CHr.wr W1081 (Safe.arv hZ.alike prem0 (by decide)) C0.1)
      have hk := Nat.le_trans hk (Keep.of_wr W1081).1
      have f1081 : Arv Z h1081 da0 kd0 .char (8 : Int32) [(.int (z0 &&& 255)), (.int (z1 &&& 255)), (.int (z2 &&& 255)), (.int (py.toInt32 &&& 255)), (.int (z4 &&& 255)), (.int (z5 &&& 255)), (.int (z6 &&& 255)), (.int (z7 &&& 255))] (.int 0) := Arv.set Ar1081 qk1081 S1081 Ng1081 H1081 G1081 (v := (.int (py.toInt32 &&& 255))) (own_f255 py.toInt32) W1081 3 rfl (Nat.le_of_ble_eq_true rfl)
      have N1081 := Fr.snoc X1081 N0 prem1
      refine GoS.of (T' := T1081) (f' := (mkF m 317 #[iv p0, .val (.long p1), .second, .val (.long p2), .second, rv da0, s6, iv 7, s8, s9, iv 3] [])) (fun _ k => X0.ldc2Long hx hown (mvT hZ (own_w hw (i := 1) rfl)) (g := (mkF m 310 #[iv p0, .val (.long p1), .second, .val (.long p2), .second, rv da0, s6, iv 7, s8, s9, iv 3] [(.long py), (.int 3), (.ref da0)])) rfl (D at_310) _ (XS.land X0.here hx rfl (D at_313) rfl (XS.l2i X0.here hx rfl (D at_314) rfl (XS.i2c X0.here hx rfl (D at_315) rfl (st1081 _ k))))) ?_
      exact rm_t7 hw G p0 p1 p2 (da0) (kd0) (z0) (z1) (z2) (py.toInt32) (z4) (z5) (z6) (z7) (h_s6) (h_s8) (h_s9) (One.val rfl) hx hby hml hown hret hlk hZ hS hk  C1082 e1081 (Stand.more X1081 (by decide) (by decide)) N1081 O1083 f1081 prem1 
    | 4, _ =>
      refine GoS.cast (f' := (mkF m 302 #[iv p0, .val (.long p1), .second, .val (.long p2), .second, rv da0, s6, iv 7, s8, s9, iv 4] [])) rfl ?_
      refine GoS.of (T' := T0) (f' := (mkF m 310 #[iv p0, .val (.long p1), .second, .val (.long p2), .second, rv da0, s6, iv 7, s8, s9, iv 4] [(.long ((p2.toUInt64 >>> ((16 : Int32) &&& 0x3f).toInt64.toUInt64).toInt64)), (.int 4), (.ref da0)])) (fun _ k => XS.aload X0.here hx rfl (D at_302) rfl rfl (XS.iload X0.here hx rfl (D at_304) rfl (XS.lloadN X0.here hx rfl (D at_306) rfl (XS.bipush X0.here hx rfl (D at_307) (XS.lushr X0.here hx rfl (D at_309) rfl k))))) ?_
      generalize hpy : (((p2.toUInt64 >>> ((16 : Int32) &&& 0x3f).toInt64.toUInt64).toInt64) : Int64) = py
      obtain ⟨cl1084, Ar1084, qk1084, S1084, Ng1084, H1084, G1084⟩ := id prem0
      obtain ⟨T1084, h1084, X1084, e1084, W1084, st1084⟩ := stC X0 hx hZ e0 Ar1084 (j := (4 : Int32)) (inb_of S1084 ⟨by decide, by decide⟩) (g := (mkF m 316 #[iv p0, .val (.long p1), .second, .val (.long p2), .second, rv da0, s6, iv 7, s8, s9, iv 4] [(.int (((py &&& (255 : Int64)).toInt32).toUInt32.toUInt16.toUInt32.toInt32)), (.int 4), (.ref da0)])) rfl rfl (D at_316)
      have W1084 : Wr h0 h1084 da0 ((4 : Int32)).toNatClampNeg (.int (py.toInt32 &&& 255)) := Eq.mp (congrArg (fun z => Wr h0 h1084 da0 ((4 : Int32)).toNatClampNeg (Value.int z)) (own_cL255 py)) W1084
      have O1086 := Old0.wr O0 W1084 prem1
      have C1085 := CHr.trans C0 (CHr.wr W1084 (Safe.arv hZ.alike prem0 (by decide)) C0.1)
      have hk := Nat.le_trans hk (Keep.of_wr W1084).1
      have f1084 : Arv Z h1084 da0 kd0 .char (8 : Int32) [(.int (z0 &&& 255)), (.int (z1 &&& 255)), (.int (z2 &&& 255)), (.int (z3 &&& 255)), (.int (py.toInt32 &&& 255)), (.int (z5 &&& 255)), (.int (z6 &&& 255)), (.int (z7 &&& 255))] (.int 0) := Arv.set Ar1084 qk1084 S1084 Ng1084 H1084 G1084 (v := (.int (py.toInt32 &&& 255))) (own_f255 py.toInt32) W1084 4 rfl (Nat.le_of_ble_eq_true rfl)
      have N1084 := Fr.snoc X1084 N0 prem1
      refine GoS.of (T' := T1084) (f' := (mkF m 317 #[iv p0, .val (.long p1), .second, .val (.long p2), .second, rv da0, s6, iv 7, s8, s9, iv 4] [])) (fun _ k => X0.ldc2Long hx hown (mvT hZ (own_w hw (i := 1) rfl)) (g := (mkF m 310 #[iv p0, .val (.long p1), .second, .val (.long p2), .second, rv da0, s6, iv 7, s8, s9, iv 4] [(.long py), (.int 4), (.ref da0)])) rfl (D at_310) _ (XS.land X0.here hx rfl (D at_313) rfl (XS.l2i X0.here hx rfl (D at_314) rfl (XS.i2c X0.here hx rfl (D at_315) rfl (st1084 _ k))))) ?_
      exact rm_t7 hw G p0 p1 p2 (da0) (kd0) (z0) (z1) (z2) (z3) (py.toInt32) (z5) (z6) (z7) (h_s6) (h_s8) (h_s9) (One.val rfl) hx hby hml hown hret hlk hZ hS hk  C1085 e1084 (Stand.more X1084 (by decide) (by decide)) N1084 O1086 f1084 prem1 
    | 5, _ =>
      refine GoS.cast (f' := (mkF m 302 #[iv p0, .val (.long p1), .second, .val (.long p2), .second, rv da0, s6, iv 7, s8, s9, iv 5] [])) rfl ?_
      refine GoS.of (T' := T0) (f' := (mkF m 310 #[iv p0, .val (.long p1), .second, .val (.long p2), .second, rv da0, s6, iv 7, s8, s9, iv 5] [(.long ((p2.toUInt64 >>> ((16 : Int32) &&& 0x3f).toInt64.toUInt64).toInt64)), (.int 5), (.ref da0)])) (fun _ k => XS.aload X0.here hx rfl (D at_302) rfl rfl (XS.iload X0.here hx rfl (D at_304) rfl (XS.lloadN X0.here hx rfl (D at_306) rfl (XS.bipush X0.here hx rfl (D at_307) (XS.lushr X0.here hx rfl (D at_309) rfl k))))) ?_
      generalize hpy : (((p2.toUInt64 >>> ((16 : Int32) &&& 0x3f).toInt64.toUInt64).toInt64) : Int64) = py
      obtain ⟨cl1087, Ar1087, qk1087, S1087, Ng1087, H1087, G1087⟩ := id prem0
      obtain ⟨T1087, h1087, X1087, e1087, W1087, st1087⟩ := stC X0 hx hZ e0 Ar1087 (j := (5 : Int32)) (inb_of S1087 ⟨by decide, by decide⟩) (g := (mkF m 316 #[iv p0, .val (.long p1), .second, .val (.long p2), .second, rv da0, s6, iv 7, s8, s9, iv 5] [(.int (((py &&& (255 : Int64)).toInt32).toUInt32.toUInt16.toUInt32.toInt32)), (.int 5), (.ref da0)])) rfl rfl (D at_316)
      have W1087 : Wr h0 h1087 da0 ((5 : Int32)).toNatClampNeg (.int (py.toInt32 &&& 255)) := Eq.mp (congrArg (fun z => Wr h0 h1087 da0 ((5 : Int32)).toNatClampNeg (Value.int z)) (own_cL255 py)) W1087
      have O1089 := Old0.wr O0 W1087 prem1
      have C1088 := CHr.trans C0 (CHr.wr W1087 (Safe.arv hZ.alike prem0 (by decide)) C0.1)
      have hk := Nat.le_trans hk (Keep.of_wr W1087).1
      have f1087 : Arv Z h1087 da0 kd0 .char (8 : Int32) [(.int (z0 &&& 255)), (.int (z1 &&& 255)), (.int (z2 &&& 255)), (.int (z3 &&& 255)), (.int (z4 &&& 255)), (.int (py.toInt32 &&& 255)), (.int (z6 &&& 255)), (.int (z7 &&& 255))] (.int 0) := Arv.set Ar1087 qk1087 S1087 Ng1087 H1087 G1087 (v := (.int (py.toInt32 &&& 255))) (own_f255 py.toInt32) W1087 5 rfl (Nat.le_of_ble_eq_true rfl)
      have N1087 := Fr.snoc X1087 N0 prem1
      refine GoS.of (T' := T1087) (f' := (mkF m 317 #[iv p0, .val (.long p1), .second, .val (.long p2), .second, rv da0, s6, iv 7, s8, s9, iv 5] [])) (fun _ k => X0.ldc2Long hx hown (mvT hZ (own_w hw (i := 1) rfl)) (g := (mkF m 310 #[iv p0, .val (.long p1), .second, .val (.long p2), .second, rv da0, s6, iv 7, s8, s9, iv 5] [(.long py), (.int 5), (.ref da0)])) rfl (D at_310) _ (XS.land X0.here hx rfl (D at_313) rfl (XS.l2i X0.here hx rfl (D at_314) rfl (XS.i2c X0.here hx rfl (D at_315) rfl (st1087 _ k))))) ?_
      exact rm_t7 hw G p0 p1 p2 (da0) (kd0) (z0) (z1) (z2) (z3) (z4) (py.toInt32) (z6) (z7) (h_s6) (h_s8) (h_s9) (One.val rfl) hx hby hml hown hret hlk hZ hS hk  C1088 e1087 (Stand.more X1087 (by decide) (by decide)) N1087 O1089 f1087 prem1 
    | 6, _ =>
      refine GoS.cast (f' := (mkF m 302 #[iv p0, .val (.long p1), .second, .val (.long p2), .second, rv da0, s6, iv 7, s8, s9, iv 6] [])) rfl ?_
      refine GoS.of (T' := T0) (f' := (mkF m 310 #[iv p0, .val (.long p1), .second, .val (.long p2), .second, rv da0, s6, iv 7, s8, s9, iv 6] [(.long ((p2.toUInt64 >>> ((16 : Int32) &&& 0x3f).toInt64.toUInt64).toInt64)), (.int 6), (.ref da0)])) (fun _ k => XS.aload X0.here hx rfl (D at_302) rfl rfl (XS.iload X0.here hx rfl (D at_304) rfl (XS.lloadN X0.here hx rfl (D at_306) rfl (XS.bipush X0.here hx rfl (D at_307) (XS.lushr X0.here hx rfl (D at_309) rfl k))))) ?_
      generalize hpy : (((p2.toUInt64 >>> ((16 : Int32) &&& 0x3f).toInt64.toUInt64).toInt64) : Int64) = py
      obtain ⟨cl1090, Ar1090, qk1090, S1090, Ng1090, H1090, G1090⟩ := id prem0
      obtain ⟨T1090, h1090, X1090, e1090, W1090, st1090⟩ := stC X0 hx hZ e0 Ar1090 (j := (6 : Int32)) (inb_of S1090 ⟨by decide, by decide⟩) (g := (mkF m 316 #[iv p0, .val (.long p1), .second, .val (.long p2), .second, rv da0, s6, iv 7, s8, s9, iv 6] [(.int (((py &&& (255 : Int64)).toInt32).toUInt32.toUInt16.toUInt32.toInt32)), (.int 6), (.ref da0)])) rfl rfl (D at_316)
      have W1090 : Wr h0 h1090 da0 ((6 : Int32)).toNatClampNeg (.int (py.toInt32 &&& 255)) := Eq.mp (congrArg (fun z => Wr h0 h1090 da0 ((6 : Int32)).toNatClampNeg (Value.int z)) (own_cL255 py)) W1090
      have O1092 := Old0.wr O0 W1090 prem1
      have C1091 := CHr.trans C0 (CHr.wr W1090 (Safe.arv hZ.alike prem0 (by decide)) C0.1)
      have hk := Nat.le_trans hk (Keep.of_wr W1090).1
      have f1090 : Arv Z h1090 da0 kd0 .char (8 : Int32) [(.int (z0 &&& 255)), (.int (z1 &&& 255)), (.int (z2 &&& 255)), (.int (z3 &&& 255)), (.int (z4 &&& 255)), (.int (z5 &&& 255)), (.int (py.toInt32 &&& 255)), (.int (z7 &&& 255))] (.int 0) := Arv.set Ar1090 qk1090 S1090 Ng1090 H1090 G1090 (v := (.int (py.toInt32 &&& 255))) (own_f255 py.toInt32) W1090 6 rfl (Nat.le_of_ble_eq_true rfl)
      have N1090 := Fr.snoc X1090 N0 prem1
      refine GoS.of (T' := T1090) (f' := (mkF m 317 #[iv p0, .val (.long p1), .second, .val (.long p2), .second, rv da0, s6, iv 7, s8, s9, iv 6] [])) (fun _ k => X0.ldc2Long hx hown (mvT hZ (own_w hw (i := 1) rfl)) (g := (mkF m 310 #[iv p0, .val (.long p1), .second, .val (.long p2), .second, rv da0, s6, iv 7, s8, s9, iv 6] [(.long py), (.int 6), (.ref da0)])) rfl (D at_310) _ (XS.land X0.here hx rfl (D at_313) rfl (XS.l2i X0.here hx rfl (D at_314) rfl (XS.i2c X0.here hx rfl (D at_315) rfl (st1090 _ k))))) ?_
      exact rm_t7 hw G p0 p1 p2 (da0) (kd0) (z0) (z1) (z2) (z3) (z4) (z5) (py.toInt32) (z7) (h_s6) (h_s8) (h_s9) (One.val rfl) hx hby hml hown hret hlk hZ hS hk  C1091 e1090 (Stand.more X1090 (by decide) (by decide)) N1090 O1092 f1090 prem1 
    | n + 7, h => exact absurd h (by omega)
set_option maxRecDepth 65536 in
set_option maxHeartbeats 40000000 in
theorem rm_u8 {l : Launch} {Z : State} {a0 : Array Value} {A : Nat → Addr} {KC : Nat → Cell} {IC : Nat → Int32} {VC : Nat → Value} (hw : ∀ d ∈ tables_1, d.before a0 Z = true) (G : own_Ctx Z A KC IC VC) {p : Program} {e : Env} {s : State} {m : MethodId} {below : List Frame} {meth : Method} {c : Code} {T0 : State} {vm0 : Vm} {h0 : Heap} {k0 : Nat} {locs0 : List Loc} (p0 : Int32) (p1 : Int64) (p2 : Int64) (da0 : Addr) (kd0 : ClassId) (z0 : Int32) (z1 : Int32) (z2 : Int32) (z3 : Int32) (z4 : Int32) (z5 : Int32) (z6 : Int32) (z7 : Int32) {s6 : Slot} (h_s6 : One s6) {s8 : Slot} (h_s8 : One s8) {s9 : Slot} (h_s9 : One s9) {s10 : Slot} (h_s10 : One s10)
    (hx : p.tables.exec = Jvm.exec) (hby : c.code = code) (hml : c.maxLocals = 11) (hown : vm0.findClass "com/example/fair_index/fairindex/csw/ResultTypeNamedPinLaw" = some m.cls) (hret : meth.sig.returnType = ret) (hlk : meth.locks = false) (hZ : Z.Warmed39 vm0) (hS : s.Since vm0 k0) (hk : k0 ≤ h0.size) (C0 : CHr Z own_EL s.vm s.heap vm0 h0) (e0 : T0.heap = h0) (X0 : Stand p l e room_1 (s.setVm vm0) m #[(.int p0), (.long p1), (.long p2)] below meth c T0 locs0 8 128) (N0 : Fr Z.heap.size locs0) (O0 : Ext Z.heap h0) (prem0 : Arv Z h0 da0 kd0 .char (8 : Int32) [(.int (z0 &&& (255 : Int32))), (.int (z1 &&& (255 : Int32))), (.int (z2 &&& (255 : Int32))), (.int (z3 &&& (255 : Int32))), (.int (z4 &&& (255 : Int32))), (.int (z5 &&& (255 : Int32))), (.int (z6 &&& (255 : Int32))), (.int (z7 &&& (255 : Int32)))] (.int (0 : Int32))) (prem1 : Z.heap.size ≤ da0)  :
    GoS p e s below room_1 Z own_EL (fun v h L => v = some (.int (1 : Int32)) ∧ (Fr Z.heap.size L)) T0 (mkF m 280 #[iv p0, .val (.long p1), .second, .val (.long p2), .second, rv da0, s6, iv (8 : Int32), s8, s9, s10] []) := by
  have hEL := own_EW hw
  have D := @hb _ _ hby
  have K0 : Keep h0 h0 [] := Keep.refl _ _
  refine GoS.of (T' := T0) (f' := (mkF m 285 #[iv p0, .val (.long p1), .second, .val (.long p2), .second, rv da0, s6, iv 8, s8, s9, s10] [(.int (lcmpW (p2 &&& (1 : Int64)) (0 : Int64)))])) (fun _ k => XS.lloadN X0.here hx rfl (D at_280) rfl (XS.lconst X0.here hx rfl (D at_281) (XS.land X0.here hx rfl (D at_282) rfl (XS.lconst X0.here hx rfl (D at_283) (XS.lcmp X0.here hx rfl (D at_284) rfl k))))) ?_
  by_cases hc1093 : (lcmpW (p2 &&& (1 : Int64)) (0 : Int64)) = (0 : Int32)
  · skip
    refine GoS.of (T' := T0) (f' := (mkF m 317 #[iv p0, .val (.long p1), .second, .val (.long p2), .second, rv da0, s6, iv 8, s8, s9, s10] [])) (fun _ k => XS.ifYes X0.here hx rfl (pc0 := 285) (pc' := 317) rfl (D at_285) rfl ((if0 _ _).trans (teq hc1093).1) (by decide) (by decide) k) ?_
    exact rm_t8 hw G p0 p1 p2 (da0) (kd0) (z0) (z1) (z2) (z3) (z4) (z5) (z6) (z7) (h_s6) (h_s8) (h_s9) (h_s10) hx hby hml hown hret hlk hZ hS hk  C0 e0 (Stand.more X0 (by decide) (by decide)) N0 O0 prem0 prem1 
  · skip
    refine GoS.of (T' := T0) (f' := (mkF m 291 #[iv p0, .val (.long p1), .second, .val (.long p2), .second, rv da0, s6, iv 8, s8, s9, s10] [(.long ((p2.toUInt64 >>> ((1 : Int32) &&& 0x3f).toInt64.toUInt64).toInt64))])) (fun _ k => XS.ifNo X0.here hx rfl (D at_285) rfl ((if0 _ _).trans (feq hc1093).1) (XS.lloadN X0.here hx rfl (D at_288) rfl (XS.iconst X0.here hx rfl (D at_289) (XS.lushr X0.here hx rfl (D at_290) rfl k)))) ?_
    generalize hpz : (((p2.toUInt64 >>> ((1 : Int32) &&& 0x3f).toInt64.toUInt64).toInt64) : Int64) = pz
    obtain ⟨j, hj, hje⟩ := own_modL pz (8 : Int64) 8 (by decide) (by decide) (by decide)
    refine GoS.of (T' := T0) (f' := (mkF m 302 #[iv p0, .val (.long p1), .second, .val (.long p2), .second, rv da0, s6, iv 8, s8, s9, iv (((pz &&& (255 : Int64)) % (8 : Int64)).toInt32)] [])) (fun _ k => X0.ldc2Long hx hown (mvT hZ (own_w hw (i := 1) rfl)) (g := (mkF m 291 #[iv p0, .val (.long p1), .second, .val (.long p2), .second, rv da0, s6, iv 8, s8, s9, s10] [(.long pz)])) rfl (D at_291) _ (XS.land X0.here hx rfl (D at_294) rfl (XS.iload X0.here hx rfl (D at_295) rfl (XS.i2l X0.here hx rfl (D at_297) rfl (XS.lrem X0.here hx rfl (D at_298) rfl (by decide) (by rw [lrem_mod]; exact (XS.l2i X0.here hx rfl (D at_299) rfl (XS.istore X0.here hx rfl (D at_300) rfl (l' := #[iv p0, .val (.long p1), .second, .val (.long p2), .second, rv da0, s6, iv 8, s8, s9, iv (((pz &&& (255 : Int64)) % (8 : Int64)).toInt32)]) (XS.store1 (o := s10) rfl h_s10 rfl) k)))))))) ?_
    rw [hje]
    match j, hj with
    | 0, _ =>
      refine GoS.cast (f' := (mkF m 302 #[iv p0, .val (.long p1), .second, .val (.long p2), .second, rv da0, s6, iv 8, s8, s9, iv 0] [])) rfl ?_
      refine GoS.of (T' := T0) (f' := (mkF m 310 #[iv p0, .val (.long p1), .second, .val (.long p2), .second, rv da0, s6, iv 8, s8, s9, iv 0] [(.long ((p2.toUInt64 >>> ((16 : Int32) &&& 0x3f).toInt64.toUInt64).toInt64)), (.int 0), (.ref da0)])) (fun _ k => XS.aload X0.here hx rfl (D at_302) rfl rfl (XS.iload X0.here hx rfl (D at_304) rfl (XS.lloadN X0.here hx rfl (D at_306) rfl (XS.bipush X0.here hx rfl (D at_307) (XS.lushr X0.here hx rfl (D at_309) rfl k))))) ?_
      generalize hpy : (((p2.toUInt64 >>> ((16 : Int32) &&& 0x3f).toInt64.toUInt64).toInt64) : Int64) = py
      obtain ⟨cl1094, Ar1094, qk1094, S1094, Ng1094, H1094, G1094⟩ := id prem0
      obtain ⟨T1094, h1094, X1094, e1094, W1094, st1094⟩ := stC X0 hx hZ e0 Ar1094 (j := (0 : Int32)) (inb_of S1094 ⟨by decide, by decide⟩) (g := (mkF m 316 #[iv p0, .val (.long p1), .second, .val (.long p2), .second, rv da0, s6, iv 8, s8, s9, iv 0] [(.int (((py &&& (255 : Int64)).toInt32).toUInt32.toUInt16.toUInt32.toInt32)), (.int 0), (.ref da0)])) rfl rfl (D at_316)
      have W1094 : Wr h0 h1094 da0 ((0 : Int32)).toNatClampNeg (.int (py.toInt32 &&& 255)) := Eq.mp (congrArg (fun z => Wr h0 h1094 da0 ((0 : Int32)).toNatClampNeg (Value.int z)) (own_cL255 py)) W1094
      have O1096 := Old0.wr O0 W1094 prem1
      have C1095 := CHr.trans C0 (CHr.wr W1094 (Safe.arv hZ.alike prem0 (by decide)) C0.1)
      have hk := Nat.le_trans hk (Keep.of_wr W1094).1
      have f1094 : Arv Z h1094 da0 kd0 .char (8 : Int32) [(.int (py.toInt32 &&& 255)), (.int (z1 &&& 255)), (.int (z2 &&& 255)), (.int (z3 &&& 255)), (.int (z4 &&& 255)), (.int (z5 &&& 255)), (.int (z6 &&& 255)), (.int (z7 &&& 255))] (.int 0) := Arv.set Ar1094 qk1094 S1094 Ng1094 H1094 G1094 (v := (.int (py.toInt32 &&& 255))) (own_f255 py.toInt32) W1094 0 rfl (Nat.le_of_ble_eq_true rfl)
      have N1094 := Fr.snoc X1094 N0 prem1
      refine GoS.of (T' := T1094) (f' := (mkF m 317 #[iv p0, .val (.long p1), .second, .val (.long p2), .second, rv da0, s6, iv 8, s8, s9, iv 0] [])) (fun _ k => X0.ldc2Long hx hown (mvT hZ (own_w hw (i := 1) rfl)) (g := (mkF m 310 #[iv p0, .val (.long p1), .second, .val (.long p2), .second, rv da0, s6, iv 8, s8, s9, iv 0] [(.long py), (.int 0), (.ref da0)])) rfl (D at_310) _ (XS.land X0.here hx rfl (D at_313) rfl (XS.l2i X0.here hx rfl (D at_314) rfl (XS.i2c X0.here hx rfl (D at_315) rfl (st1094 _ k))))) ?_
      exact rm_t8 hw G p0 p1 p2 (da0) (kd0) (py.toInt32) (z1) (z2) (z3) (z4) (z5) (z6) (z7) (h_s6) (h_s8) (h_s9) (One.val rfl) hx hby hml hown hret hlk hZ hS hk  C1095 e1094 (Stand.more X1094 (by decide) (by decide)) N1094 O1096 f1094 prem1 
    | 1, _ =>
      refine GoS.cast (f' := (mkF m 302 #[iv p0, .val (.long p1), .second, .val (.long p2), .second, rv da0, s6, iv 8, s8, s9, iv 1] [])) rfl ?_
      refine GoS.of (T' := T0) (f' := (mkF m 310 #[iv p0, .val (.long p1), .second, .val (.long p2), .second, rv da0, s6, iv 8, s8, s9, iv 1] [(.long ((p2.toUInt64 >>> ((16 : Int32) &&& 0x3f).toInt64.toUInt64).toInt64)), (.int 1), (.ref da0)])) (fun _ k => XS.aload X0.here hx rfl (D at_302) rfl rfl (XS.iload X0.here hx rfl (D at_304) rfl (XS.lloadN X0.here hx rfl (D at_306) rfl (XS.bipush X0.here hx rfl (D at_307) (XS.lushr X0.here hx rfl (D at_309) rfl k))))) ?_
      generalize hpy : (((p2.toUInt64 >>> ((16 : Int32) &&& 0x3f).toInt64.toUInt64).toInt64) : Int64) = py
      obtain ⟨cl1097, Ar1097, qk1097, S1097, Ng1097, H1097, G1097⟩ := id prem0
      obtain ⟨T1097, h1097, X1097, e1097, W1097, st1097⟩ := stC X0 hx hZ e0 Ar1097 (j := (1 : Int32)) (inb_of S1097 ⟨by decide, by decide⟩) (g := (mkF m 316 #[iv p0, .val (.long p1), .second, .val (.long p2), .second, rv da0, s6, iv 8, s8, s9, iv 1] [(.int (((py &&& (255 : Int64)).toInt32).toUInt32.toUInt16.toUInt32.toInt32)), (.int 1), (.ref da0)])) rfl rfl (D at_316)
      have W1097 : Wr h0 h1097 da0 ((1 : Int32)).toNatClampNeg (.int (py.toInt32 &&& 255)) := Eq.mp (congrArg (fun z => Wr h0 h1097 da0 ((1 : Int32)).toNatClampNeg (Value.int z)) (own_cL255 py)) W1097
      have O1099 := Old0.wr O0 W1097 prem1
      have C1098 := CHr.trans C0 (CHr.wr W1097 (Safe.arv hZ.alike prem0 (by decide)) C0.1)
      have hk := Nat.le_trans hk (Keep.of_wr W1097).1
      have f1097 : Arv Z h1097 da0 kd0 .char (8 : Int32) [(.int (z0 &&& 255)), (.int (py.toInt32 &&& 255)), (.int (z2 &&& 255)), (.int (z3 &&& 255)), (.int (z4 &&& 255)), (.int (z5 &&& 255)), (.int (z6 &&& 255)), (.int (z7 &&& 255))] (.int 0) := Arv.set Ar1097 qk1097 S1097 Ng1097 H1097 G1097 (v := (.int (py.toInt32 &&& 255))) (own_f255 py.toInt32) W1097 1 rfl (Nat.le_of_ble_eq_true rfl)
      have N1097 := Fr.snoc X1097 N0 prem1
      refine GoS.of (T' := T1097) (f' := (mkF m 317 #[iv p0, .val (.long p1), .second, .val (.long p2), .second, rv da0, s6, iv 8, s8, s9, iv 1] [])) (fun _ k => X0.ldc2Long hx hown (mvT hZ (own_w hw (i := 1) rfl)) (g := (mkF m 310 #[iv p0, .val (.long p1), .second, .val (.long p2), .second, rv da0, s6, iv 8, s8, s9, iv 1] [(.long py), (.int 1), (.ref da0)])) rfl (D at_310) _ (XS.land X0.here hx rfl (D at_313) rfl (XS.l2i X0.here hx rfl (D at_314) rfl (XS.i2c X0.here hx rfl (D at_315) rfl (st1097 _ k))))) ?_
      exact rm_t8 hw G p0 p1 p2 (da0) (kd0) (z0) (py.toInt32) (z2) (z3) (z4) (z5) (z6) (z7) (h_s6) (h_s8) (h_s9) (One.val rfl) hx hby hml hown hret hlk hZ hS hk  C1098 e1097 (Stand.more X1097 (by decide) (by decide)) N1097 O1099 f1097 prem1 
    | 2, _ =>
      refine GoS.cast (f' := (mkF m 302 #[iv p0, .val (.long p1), .second, .val (.long p2), .second, rv da0, s6, iv 8, s8, s9, iv 2] [])) rfl ?_
      refine GoS.of (T' := T0) (f' := (mkF m 310 #[iv p0, .val (.long p1), .second, .val (.long p2), .second, rv da0, s6, iv 8, s8, s9, iv 2] [(.long ((p2.toUInt64 >>> ((16 : Int32) &&& 0x3f).toInt64.toUInt64).toInt64)), (.int 2), (.ref da0)])) (fun _ k => XS.aload X0.here hx rfl (D at_302) rfl rfl (XS.iload X0.here hx rfl (D at_304) rfl (XS.lloadN X0.here hx rfl (D at_306) rfl (XS.bipush X0.here hx rfl (D at_307) (XS.lushr X0.here hx rfl (D at_309) rfl k))))) ?_
      generalize hpy : (((p2.toUInt64 >>> ((16 : Int32) &&& 0x3f).toInt64.toUInt64).toInt64) : Int64) = py
      obtain ⟨cl1100, Ar1100, qk1100, S1100, Ng1100, H1100, G1100⟩ := id prem0
      obtain ⟨T1100, h1100, X1100, e1100, W1100, st1100⟩ := stC X0 hx hZ e0 Ar1100 (j := (2 : Int32)) (inb_of S1100 ⟨by decide, by decide⟩) (g := (mkF m 316 #[iv p0, .val (.long p1), .second, .val (.long p2), .second, rv da0, s6, iv 8, s8, s9, iv 2] [(.int (((py &&& (255 : Int64)).toInt32).toUInt32.toUInt16.toUInt32.toInt32)), (.int 2), (.ref da0)])) rfl rfl (D at_316)
      have W1100 : Wr h0 h1100 da0 ((2 : Int32)).toNatClampNeg (.int (py.toInt32 &&& 255)) := Eq.mp (congrArg (fun z => Wr h0 h1100 da0 ((2 : Int32)).toNatClampNeg (Value.int z)) (own_cL255 py)) W1100
      have O1102 := Old0.wr O0 W1100 prem1
      have C1101 := CHr.trans C0 (CHr.wr W1100 (Safe.arv hZ.alike prem0 (by decide)) C0.1)
      have hk := Nat.le_trans hk (Keep.of_wr W1100).1
      have f1100 : Arv Z h1100 da0 kd0 .char (8 : Int32) [(.int (z0 &&& 255)), (.int (z1 &&& 255)), (.int (py.toInt32 &&& 255)), (.int (z3 &&& 255)), (.int (z4 &&& 255)), (.int (z5 &&& 255)), (.int (z6 &&& 255)), (.int (z7 &&& 255))] (.int 0) := Arv.set Ar1100 qk1100 S1100 Ng1100 H1100 G1100 (v := (.int (py.toInt32 &&& 255))) (own_f255 py.toInt32) W1100 2 rfl (Nat.le_of_ble_eq_true rfl)
      have N1100 := Fr.snoc X1100 N0 prem1
      refine GoS.of (T' := T1100) (f' := (mkF m 317 #[iv p0, .val (.long p1), .second, .val (.long p2), .second, rv da0, s6, iv 8, s8, s9, iv 2] [])) (fun _ k => X0.ldc2Long hx hown (mvT hZ (own_w hw (i := 1) rfl)) (g := (mkF m 310 #[iv p0, .val (.long p1), .second, .val (.long p2), .second, rv da0, s6, iv 8, s8, s9, iv 2] [(.long py), (.int 2), (.ref da0)])) rfl (D at_310) _ (XS.land X0.here hx rfl (D at_313) rfl (XS.l2i X0.here hx rfl (D at_314) rfl (XS.i2c X0.here hx rfl (D at_315) rfl (st1100 _ k))))) ?_
      exact rm_t8 hw G p0 p1 p2 (da0) (kd0) (z0) (z1) (py.toInt32) (z3) (z4) (z5) (z6) (z7) (h_s6) (h_s8) (h_s9) (One.val rfl) hx hby hml hown hret hlk hZ hS hk  C1101 e1100 (Stand.more X1100 (by decide) (by decide)) N1100 O1102 f1100 prem1 
    | 3, _ =>
      refine GoS.cast (f' := (mkF m 302 #[iv p0, .val (.long p1), .second, .val (.long p2), .second, rv da0, s6, iv 8, s8, s9, iv 3] [])) rfl ?_
      refine GoS.of (T' := T0) (f' := (mkF m 310 #[iv p0, .val (.long p1), .second, .val (.long p2), .second, rv da0, s6, iv 8, s8, s9, iv 3] [(.long ((p2.toUInt64 >>> ((16 : Int32) &&& 0x3f).toInt64.toUInt64).toInt64)), (.int 3), (.ref da0)])) (fun _ k => XS.aload X0.here hx rfl (D at_302) rfl rfl (XS.iload X0.here hx rfl (D at_304) rfl (XS.lloadN X0.here hx rfl (D at_306) rfl (XS.bipush X0.here hx rfl (D at_307) (XS.lushr X0.here hx rfl (D at_309) rfl k))))) ?_
      generalize hpy : (((p2.toUInt64 >>> ((16 : Int32) &&& 0x3f).toInt64.toUInt64).toInt64) : Int64) = py
      obtain ⟨cl1103, Ar1103, qk1103, S1103, Ng1103, H1103, G1103⟩ := id prem0
      obtain ⟨T1103, h1103, X1103, e1103, W1103, st1103⟩ := stC X0 hx hZ e0 Ar1103 (j := (3 : Int32)) (inb_of S1103 ⟨by decide, by decide⟩) (g := (mkF m 316 #[iv p0, .val (.long p1), .second, .val (.long p2), .second, rv da0, s6, iv 8, s8, s9, iv 3] [(.int (((py &&& (255 : Int64)).toInt32).toUInt32.toUInt16.toUInt32.toInt32)), (.int 3), (.ref da0)])) rfl rfl (D at_316)
      have W1103 : Wr h0 h1103 da0 ((3 : Int32)).toNatClampNeg (.int (py.toInt32 &&& 255)) := Eq.mp (congrArg (fun z => Wr h0 h1103 da0 ((3 : Int32)).toNatClampNeg (Value.int z)) (own_cL255 py)) W1103
      have O1105 := Old0.wr O0 W1103 prem1
      have C1104 := CHr.trans C0 (CHr.wr W1103 (Safe.arv hZ.alike prem0 (by decide)) C0.1)
      have hk := Nat.le_trans hk (Keep.of_wr W1103).1
      have f1103 : Arv Z h1103 da0 kd0 .char (8 : Int32) [(.int (z0 &&& 255)), (.int (z1 &&& 255)), (.int (z2 &&& 255)), (.int (py.toInt32 &&& 255)), (.int (z4 &&& 255)), (.int (z5 &&& 255)), (.int (z6 &&& 255)), (.int (z7 &&& 255))] (.int 0) := Arv.set Ar1103 qk1103 S1103 Ng1103 H1103 G1103 (v := (.int (py.toInt32 &&& 255))) (own_f255 py.toInt32) W1103 3 rfl (Nat.le_of_ble_eq_true rfl)
      have N1103 := Fr.snoc X1103 N0 prem1
      refine GoS.of (T' := T1103) (f' := (mkF m 317 #[iv p0, .val (.long p1), .second, .val (.long p2), .second, rv da0, s6, iv 8, s8, s9, iv 3] [])) (fun _ k => X0.ldc2Long hx hown (mvT hZ (own_w hw (i := 1) rfl)) (g := (mkF m 310 #[iv p0, .val (.long p1), .second, .val (.long p2), .second, rv da0, s6, iv 8, s8, s9, iv 3] [(.long py), (.int 3), (.ref da0)])) rfl (D at_310) _ (XS.land X0.here hx rfl (D at_313) rfl (XS.l2i X0.here hx rfl (D at_314) rfl (XS.i2c X0.here hx rfl (D at_315) rfl (st1103 _ k))))) ?_
      exact rm_t8 hw G p0 p1 p2 (da0) (kd0) (z0) (z1) (z2) (py.toInt32) (z4) (z5) (z6) (z7) (h_s6) (h_s8) (h_s9) (One.val rfl) hx hby hml hown hret hlk hZ hS hk  C1104 e1103 (Stand.more X1103 (by decide) (by decide)) N1103 O1105 f1103 prem1 
    | 4, _ =>
      refine GoS.cast (f' := (mkF m 302 #[iv p0, .val (.long p1), .second, .val (.long p2), .second, rv da0, s6, iv 8, s8, s9, iv 4] [])) rfl ?_
      refine GoS.of (T' := T0) (f' := (mkF m 310 #[iv p0, .val (.long p1), .second, .val (.long p2), .second, rv da0, s6, iv 8, s8, s9, iv 4] [(.long ((p2.toUInt64 >>> ((16 : Int32) &&& 0x3f).toInt64.toUInt64).toInt64)), (.int 4), (.ref da0)])) (fun _ k => XS.aload X0.here hx rfl (D at_302) rfl rfl (XS.iload X0.here hx rfl (D at_304) rfl (XS.lloadN X0.here hx rfl (D at_306) rfl (XS.bipush X0.here hx rfl (D at_307) (XS.lushr X0.here hx rfl (D at_309) rfl k))))) ?_
      generalize hpy : (((p2.toUInt64 >>> ((16 : Int32) &&& 0x3f).toInt64.toUInt64).toInt64) : Int64) = py
      obtain ⟨cl1106, Ar1106, qk1106, S1106, Ng1106, H1106, G1106⟩ := id prem0
      obtain ⟨T1106, h1106, X1106, e1106, W1106, st1106⟩ := stC X0 hx hZ e0 Ar1106 (j := (4 : Int32)) (inb_of S1106 ⟨by decide, by decide⟩) (g := (mkF m 316 #[iv p0, .val (.long p1), .second, .val (.long p2), .second, rv da0, s6, iv 8, s8, s9, iv 4] [(.int (((py &&& (255 : Int64)).toInt32).toUInt32.toUInt16.toUInt32.toInt32)), (.int 4), (.ref da0)])) rfl rfl (D at_316)
      have W1106 : Wr h0 h1106 da0 ((4 : Int32)).toNatClampNeg (.int (py.toInt32 &&& 255)) := Eq.mp (congrArg (fun z => Wr h0 h1106 da0 ((4 : Int32)).toNatClampNeg (Value.int z)) (own_cL255 py)) W1106
      have O1108 := Old0.wr O0 W1106 prem1
      have C1107 := CHr.trans C0 (CHr.wr W1106 (Safe.arv hZ.alike prem0 (by decide)) C0.1)
      have hk := Nat.le_trans hk (Keep.of_wr W1106).1
      have f1106 : Arv Z h1106 da0 kd0 .char (8 : Int32) [(.int (z0 &&& 255)), (.int (z1 &&& 255)), (.int (z2 &&& 255)), (.int (z3 &&& 255)), (.int (py.toInt32 &&& 255)), (.int (z5 &&& 255)), (.int (z6 &&& 255)), (.int (z7 &&& 255))] (.int 0) := Arv.set Ar1106 qk1106 S1106 Ng1106 H1106 G1106 (v := (.int (py.toInt32 &&& 255))) (own_f255 py.toInt32) W1106 4 rfl (Nat.le_of_ble_eq_true rfl)
      have N1106 := Fr.snoc X1106 N0 prem1
      refine GoS.of (T' := T1106) (f' := (mkF m 317 #[iv p0, .val (.long p1), .second, .val (.long p2), .second, rv da0, s6, iv 8, s8, s9, iv 4] [])) (fun _ k => X0.ldc2Long hx hown (mvT hZ (own_w hw (i := 1) rfl)) (g := (mkF m 310 #[iv p0, .val (.long p1), .second, .val (.long p2), .second, rv da0, s6, iv 8, s8, s9, iv 4] [(.long py), (.int 4), (.ref da0)])) rfl (D at_310) _ (XS.land X0.here hx rfl (D at_313) rfl (XS.l2i X0.here hx rfl (D at_314) rfl (XS.i2c X0.here hx rfl (D at_315) rfl (st1106 _ k))))) ?_
      exact rm_t8 hw G p0 p1 p2 (da0) (kd0) (z0) (z1) (z2) (z3) (py.toInt32) (z5) (z6) (z7) (h_s6) (h_s8) (h_s9) (One.val rfl) hx hby hml hown hret hlk hZ hS hk  C1107 e1106 (Stand.more X1106 (by decide) (by decide)) N1106 O1108 f1106 prem1 
    | 5, _ =>
      refine GoS.cast (f' := (mkF m 302 #[iv p0, .val (.long p1), .second, .val (.long p2), .second, rv da0, s6, iv 8, s8, s9, iv 5] [])) rfl ?_
      refine GoS.of (T' := T0) (f' := (mkF m 310 #[iv p0, .val (.long p1), .second, .val (.long p2), .second, rv da0, s6, iv 8, s8, s9, iv 5] [(.long ((p2.toUInt64 >>> ((16 : Int32) &&& 0x3f).toInt64.toUInt64).toInt64)), (.int 5), (.ref da0)])) (fun _ k => XS.aload X0.here hx rfl (D at_302) rfl rfl (XS.iload X0.here hx rfl (D at_304) rfl (XS.lloadN X0.here hx rfl (D at_306) rfl (XS.bipush X0.here hx rfl (D at_307) (XS.lushr X0.here hx rfl (D at_309) rfl k))))) ?_
      generalize hpy : (((p2.toUInt64 >>> ((16 : Int32) &&& 0x3f).toInt64.toUInt64).toInt64) : Int64) = py
      obtain ⟨cl1109, Ar1109, qk1109, S1109, Ng1109, H1109, G1109⟩ := id prem0
      obtain ⟨T1109, h1109, X1109, e1109, W1109, st1109⟩ := stC X0 hx hZ e0 Ar1109 (j := (5 : Int32)) (inb_of S1109 ⟨by decide, by decide⟩) (g := (mkF m 316 #[iv p0, .val (.long p1), .second, .val (.long p2), .second, rv da0, s6, iv 8, s8, s9, iv 5] [(.int (((py &&& (255 : Int64)).toInt32).toUInt32.toUInt16.toUInt32.toInt32)), (.int 5), (.ref da0)])) rfl rfl (D at_316)
      have W1109 : Wr h0 h1109 da0 ((5 : Int32)).toNatClampNeg (.int (py.toInt32 &&& 255)) := Eq.mp (congrArg (fun z => Wr h0 h1109 da0 ((5 : Int32)).toNatClampNeg (Value.int z)) (own_cL255 py)) W1109
      have O1111 := Old0.wr O0 W1109 prem1
      have C1110 := CHr.trans C0 (CHr.wr W1109 (Safe.arv hZ.alike prem0 (by decide)) C0.1)
      have hk := Nat.le_trans hk (Keep.of_wr W1109).1
      have f1109 : Arv Z h1109 da0 kd0 .char (8 : Int32) [(.int (z0 &&& 255)), (.int (z1 &&& 255)), (.int (z2 &&& 255)), (.int (z3 &&& 255)), (.int (z4 &&& 255)), (.int (py.toInt32 &&& 255)), (.int (z6 &&& 255)), (.int (z7 &&& 255))] (.int 0) := Arv.set Ar1109 qk1109 S1109 Ng1109 H1109 G1109 (v := (.int (py.toInt32 &&& 255))) (own_f255 py.toInt32) W1109 5 rfl (Nat.le_of_ble_eq_true rfl)
      have N1109 := Fr.snoc X1109 N0 prem1
      refine GoS.of (T' := T1109) (f' := (mkF m 317 #[iv p0, .val (.long p1), .second, .val (.long p2), .second, rv da0, s6, iv 8, s8, s9, iv 5] [])) (fun _ k => X0.ldc2Long hx hown (mvT hZ (own_w hw (i := 1) rfl)) (g := (mkF m 310 #[iv p0, .val (.long p1), .second, .val (.long p2), .second, rv da0, s6, iv 8, s8, s9, iv 5] [(.long py), (.int 5), (.ref da0)])) rfl (D at_310) _ (XS.land X0.here hx rfl (D at_313) rfl (XS.l2i X0.here hx rfl (D at_314) rfl (XS.i2c X0.here hx rfl (D at_315) rfl (st1109 _ k))))) ?_
      exact rm_t8 hw G p0 p1 p2 (da0) (kd0) (z0) (z1) (z2) (z3) (z4) (py.toInt32) (z6) (z7) (h_s6) (h_s8) (h_s9) (One.val rfl) hx hby hml hown hret hlk hZ hS hk  C1110 e1109 (Stand.more X1109 (by decide) (by decide)) N1109 O1111 f1109 prem1 
    | 6, _ =>
      refine GoS.cast (f' := (mkF m 302 #[iv p0, .val (.long p1), .second, .val (.long p2), .second, rv da0, s6, iv 8, s8, s9, iv 6] [])) rfl ?_
      refine GoS.of (T' := T0) (f' := (mkF m 310 #[iv p0, .val (.long p1), .second, .val (.long p2), .second, rv da0, s6, iv 8, s8, s9, iv 6] [(.long ((p2.toUInt64 >>> ((16 : Int32) &&& 0x3f).toInt64.toUInt64).toInt64)), (.int 6), (.ref da0)])) (fun _ k => XS.aload X0.here hx rfl (D at_302) rfl rfl (XS.iload X0.here hx rfl (D at_304) rfl (XS.lloadN X0.here hx rfl (D at_306) rfl (XS.bipush X0.here hx rfl (D at_307) (XS.lushr X0.here hx rfl (D at_309) rfl k))))) ?_
      generalize hpy : (((p2.toUInt64 >>> ((16 : Int32) &&& 0x3f).toInt64.toUInt64).toInt64) : Int64) = py
      obtain ⟨cl1112, Ar1112, qk1112, S1112, Ng1112, H1112, G1112⟩ := id prem0
      obtain ⟨T1112, h1112, X1112, e1112, W1112, st1112⟩ := stC X0 hx hZ e0 Ar1112 (j := (6 : Int32)) (inb_of S1112 ⟨by decide, by decide⟩) (g := (mkF m 316 #[iv p0, .val (.long p1), .second, .val (.long p2), .second, rv da0, s6, iv 8, s8, s9, iv 6] [(.int (((py &&& (255 : Int64)).toInt32).toUInt32.toUInt16.toUInt32.toInt32)), (.int 6), (.ref da0)])) rfl rfl (D at_316)
      have W1112 : Wr h0 h1112 da0 ((6 : Int32)).toNatClampNeg (.int (py.toInt32 &&& 255)) := Eq.mp (congrArg (fun z => Wr h0 h1112 da0 ((6 : Int32)).toNatClampNeg (Value.int z)) (own_cL255 py)) W1112
      have O1114 := Old0.wr O0 W1112 prem1
      have C1113 := CHr.trans C0 (CHr.wr W1112 (Safe.arv hZ.alike prem0 (by decide)) C0.1)
      have hk := Nat.le_trans hk (Keep.of_wr W1112).1
      have f1112 : Arv Z h1112 da0 kd0 .char (8 : Int32) [(.int (z0 &&& 255)), (.int (z1 &&& 255)), (.int (z2 &&& 255)), (.int (z3 &&& 255)), (.int (z4 &&& 255)), (.int (z5 &&& 255)), (.int (py.toInt32 &&& 255)), (.int (z7 &&& 255))] (.int 0) := Arv.set Ar1112 qk1112 S1112 Ng1112 H1112 G1112 (v := (.int (py.toInt32 &&& 255))) (own_f255 py.toInt32) W1112 6 rfl (Nat.le_of_ble_eq_true rfl)
      have N1112 := Fr.snoc X1112 N0 prem1
      refine GoS.of (T' := T1112) (f' := (mkF m 317 #[iv p0, .val (.long p1), .second, .val (.long p2), .second, rv da0, s6, iv 8, s8, s9, iv 6] [])) (fun _ k => X0.ldc2Long hx hown (mvT hZ (own_w hw (i := 1) rfl)) (g := (mkF m 310 #[iv p0, .val (.long p1), .second, .val (.long p2), .second, rv da0, s6, iv 8, s8, s9, iv 6] [(.long py), (.int 6), (.ref da0)])) rfl (D at_310) _ (XS.land X0.here hx rfl (D at_313) rfl (XS.l2i X0.here hx rfl (D at_314) rfl (XS.i2c X0.here hx rfl (D at_315) rfl (st1112 _ k))))) ?_
      exact rm_t8 hw G p0 p1 p2 (da0) (kd0) (z0) (z1) (z2) (z3) (z4) (z5) (py.toInt32) (z7) (h_s6) (h_s8) (h_s9) (One.val rfl) hx hby hml hown hret hlk hZ hS hk  C1113 e1112 (Stand.more X1112 (by decide) (by decide)) N1112 O1114 f1112 prem1 
    | 7, _ =>
      refine GoS.cast (f' := (mkF m 302 #[iv p0, .val (.long p1), .second, .val (.long p2), .second, rv da0, s6, iv 8, s8, s9, iv 7] [])) rfl ?_
      refine GoS.of (T' := T0) (f' := (mkF m 310 #[iv p0, .val (.long p1), .second, .val (.long p2), .second, rv da0, s6, iv 8, s8, s9, iv 7] [(.long ((p2.toUInt64 >>> ((16 : Int32) &&& 0x3f).toInt64.toUInt64).toInt64)), (.int 7), (.ref da0)])) (fun _ k => XS.aload X0.here hx rfl (D at_302) rfl rfl (XS.iload X0.here hx rfl (D at_304) rfl (XS.lloadN X0.here hx rfl (D at_306) rfl (XS.bipush X0.here hx rfl (D at_307) (XS.lushr X0.here hx rfl (D at_309) rfl k))))) ?_
      generalize hpy : (((p2.toUInt64 >>> ((16 : Int32) &&& 0x3f).toInt64.toUInt64).toInt64) : Int64) = py
      obtain ⟨cl1115, Ar1115, qk1115, S1115, Ng1115, H1115, G1115⟩ := id prem0
      obtain ⟨T1115, h1115, X1115, e1115, W1115, st1115⟩ := stC X0 hx hZ e0 Ar1115 (j := (7 : Int32)) (inb_of S1115 ⟨by decide, by decide⟩) (g := (mkF m 316 #[iv p0, .val (.long p1), .second, .val (.long p2), .second, rv da0, s6, iv 8, s8, s9, iv 7] [(.int (((py &&& (255 : Int64)).toInt32).toUInt32.toUInt16.toUInt32.toInt32)), (.int 7), (.ref da0)])) rfl rfl (D at_316)
      have W1115 : Wr h0 h1115 da0 ((7 : Int32)).toNatClampNeg (.int (py.toInt32 &&& 255)) := Eq.mp (congrArg (fun z => Wr h0 h1115 da0 ((7 : Int32)).toNatClampNeg (Value.int z)) (own_cL255 py)) W1115
      have O1117 := Old0.wr O0 W1115 prem1
      have C1116 := CHr.trans C0 (CHr.wr W1115 (Safe.arv hZ.alike prem0 (by decide)) C0.1)
      have hk := Nat.le_trans hk (Keep.of_wr W1115).1
      have f1115 : Arv Z h1115 da0 kd0 .char (8 : Int32) [(.int (z0 &&& 255)), (.int (z1 &&& 255)), (.int (z2 &&& 255)), (.int (z3 &&& 255)), (.int (z4 &&& 255)), (.int (z5 &&& 255)), (.int (z6 &&& 255)), (.int (py.toInt32 &&& 255))] (.int 0) := Arv.set Ar1115 qk1115 S1115 Ng1115 H1115 G1115 (v := (.int (py.toInt32 &&& 255))) (own_f255 py.toInt32) W1115 7 rfl (Nat.le_of_ble_eq_true rfl)
      have N1115 := Fr.snoc X1115 N0 prem1
      refine GoS.of (T' := T1115) (f' := (mkF m 317 #[iv p0, .val (.long p1), .second, .val (.long p2), .second, rv da0, s6, iv 8, s8, s9, iv 7] [])) (fun _ k => X0.ldc2Long hx hown (mvT hZ (own_w hw (i := 1) rfl)) (g := (mkF m 310 #[iv p0, .val (.long p1), .second, .val (.long p2), .second, rv da0, s6, iv 8, s8, s9, iv 7] [(.long py), (.int 7), (.ref da0)])) rfl (D at_310) _ (XS.land X0.here hx rfl (D at_313) rfl (XS.l2i X0.here hx rfl (D at_314) rfl (XS.i2c X0.here hx rfl (D at_315) rfl (st1115 _ k))))) ?_
      exact rm_t8 hw G p0 p1 p2 (da0) (kd0) (z0) (z1) (z2) (z3) (z4) (z5) (z6) (py.toInt32) (h_s6) (h_s8) (h_s9) (One.val rfl) hx hby hml hown hret hlk hZ hS hk  C1116 e1115 (Stand.more X1115 (by decide) (by decide)) N1115 O1117 f1115 prem1 
    | n + 8, h => exact absurd h (by omega)
theorem pd54 : parseMethodDescriptor "([CLjava/lang/String;I)V" = some ⟨[(.array .char), (.object "java/lang/String"), .int], none⟩ := by decide +kernel
theorem pd55 : parseMethodDescriptor "(II)I" = some ⟨[.int, .int], some .int⟩ := by decide +kernel
theorem ef_rm_law (m : MethodId) (p0 : Int32) (p1 : Int64) (p2 : Int64) : entryFrame m #[(.int p0), (.long p1), (.long p2)] maxLocals = mkF m 0 #[iv p0, .val (.long p1), .second, .val (.long p2), .second, .unset, .unset, .unset, .unset, .unset, .unset] [] := by first | (simp [entryFrame, mkF, argsToLocals, Value.category, maxLocals]; done) | rfl
theorem pn56 : plainFor (⟨"com/example/fair_index/fairindex/csw/ResultTypeNamedPinLaw", "law", "(IJJ)Z"⟩ : MethodName) = true := by first | exact plainFor_of_name (by first | (simp [plainName, overriddenIn]; done) | decide +kernel) | decide +kernel
set_option maxRecDepth 65536 in
set_option maxHeartbeats 40000000 in
theorem rm_law {l : Launch} {Z : State} {a0 : Array Value} {A : Nat → Addr} {KC : Nat → Cell} {IC : Nat → Int32} {VC : Nat → Value} (hw : ∀ d ∈ tables_1, d.before a0 Z = true) (G : own_Ctx Z A KC IC VC) (p0 : Int32) (p1 : Int64) (p2 : Int64)  (h0 : Heap) (O0 : Ext Z.heap h0)  :
    OkS l Z own_EL x code maxLocals ret room_1 #[(.int p0), (.long p1), (.long p2)] h0
      (fun v h L => v = some (.int (1 : Int32)) ∧ (Fr Z.heap.size L)) := by
  refine OkS.mk pn56 ?_
  intro p e s m below meth c T0 hx hby hml hown hnm hret hlk hZ e0 C0 hS X0
  have hk := Nat.zero_le h0.size
  have hEL := own_EW hw
  have hml : c.maxLocals = 11 := hml
  have hown : s.vm.findClass "com/example/fair_index/fairindex/csw/ResultTypeNamedPinLaw" = some m.cls := hown
  refine GoS.cast (ef_rm_law m p0 p1 p2) ?_
  have D := @hb _ _ hby
  have N0 := Fr.nil Z.heap.size
  have K0 : Keep h0 h0 [] := Keep.refl _ _
  obtain ⟨T1118, h1118, k1118, b1118, q1118, X1118, e1118, E1118, V1118, A1118, st1118⟩ := newAr X0 hx hZ (own_w hw (i := 0) rfl) e0 (g := (mkF m 2 #[iv p0, .val (.long p1), .second, .val (.long p2), .second, .unset, .unset, .unset, .unset, .unset, .unset] [(.int 8)])) rfl (D at_2) rfl (by decide) (cap := 8) (by decide) (by decide) (by decide) (by decide) (ad := "[C") (by decide)
  have O1120 := Old0.ext O0 E1118
  have C1119 := CHr.trans C0 (CHr.ext E1118 C0.1)
  have hk := Nat.le_trans hk E1118.1
  have g_b1118 : Z.heap.size ≤ b1118 := q1118 ▸ O0.1
  have f1121 : Arv Z h1118 b1118 k1118 .char (8 : Int32) [(.int 0), (.int 0), (.int 0), (.int 0), (.int 0), (.int 0), (.int 0), (.int 0)] (.int 0) := Arv.pad V1118 (pad_rep [] (.int 0) 8)
  obtain ⟨cl1122, Ar1122, qk1122, S1122, Ng1122, H1122, G1122⟩ := id f1121
  obtain ⟨T1122, h1122, X1122, e1122, W1122, st1122⟩ := stC X1118 hx hZ e1118 Ar1122 (j := (0 : Int32)) (inb_of S1122 ⟨by decide, by decide⟩) (g := (mkF m 16 #[iv p0, .val (.long p1), .second, .val (.long p2), .second, rv b1118, .unset, .unset, .unset, .unset, .unset] [(.int (((p1 &&& (255 : Int64)).toInt32).toUInt32.toUInt16.toUInt32.toInt32)), (.int 0), (.ref b1118)])) rfl rfl (D at_16)
  have W1122 : Wr h1118 h1122 b1118 ((0 : Int32)).toNatClampNeg (.int (p1.toInt32 &&& 255)) := Eq.mp (congrArg (fun z => Wr h1118 h1122 b1118 ((0 : Int32)).toNatClampNeg (Value.int z)) (own_cL255 p1)) W1122
  have O1124 := Old0.wr O1120 W1122 g_b1118
  have C1123 := CHr.trans C1119 (CHr.wr W1122 (Safe.exa hZ.alike A1118 (by decide) (by decide)) C1119.1)
  have hk := Nat.le_trans hk (Keep.of_wr W1122).1
  have f1122 : Arv Z h1122 b1118 k1118 .char (8 : Int32) [(.int (p1.toInt32 &&& 255)), (.int 0), (.int 0), (.int 0), (.int 0), (.int 0), (.int 0), (.int 0)] (.int 0) := Arv.set Ar1122 qk1122 S1122 Ng1122 H1122 G1122 (v := (.int (p1.toInt32 &&& 255))) (own_f255 p1.toInt32) W1122 0 rfl (Nat.le_of_ble_eq_true rfl)
  have N1122 := Fr.snoc X1122 N0 g_b1118
  refine GoS.of (T' := T1122) (f' := (mkF m 24 #[iv p0, .val (.long p1), .second, .val (.long p2), .second, rv b1118, .unset, .unset, .unset, .unset, .unset] [(.long ((p1.toUInt64 >>> ((8 : Int32) &&& 0x3f).toInt64.toUInt64).toInt64)), (.int 1), (.ref b1118)])) (fun _ k => XS.bipush X0.here hx rfl (D at_0) (st1118 _ (XS.astore X1118.here hx rfl (D at_4) rfl rfl (l' := #[iv p0, .val (.long p1), .second, .val (.long p2), .second, rv b1118, .unset, .unset, .unset, .unset, .unset]) rfl (XS.aload X1118.here hx rfl (D at_6) rfl rfl (XS.iconst X1118.here hx rfl (D at_8) (XS.lloadN X1118.here hx rfl (D at_9) rfl (X1118.ldc2Long hx hown (mvT hZ (own_w hw (i := 1) rfl)) (g := (mkF m 10 #[iv p0, .val (.long p1), .second, .val (.long p2), .second, rv b1118, .unset, .unset, .unset, .unset, .unset] [(.long p1), (.int 0), (.ref b1118)])) rfl (D at_10) _ (XS.land X1118.here hx rfl (D at_13) rfl (XS.l2i X1118.here hx rfl (D at_14) rfl (XS.i2c X1118.here hx rfl (D at_15) rfl (st1122 _ (XS.aload X1122.here hx rfl (D at_17) rfl rfl (XS.iconst X1122.here hx rfl (D at_19) (XS.lloadN X1122.here hx rfl (D at_20) rfl (XS.bipush X1122.here hx rfl (D at_21) (XS.lushr X1122.here hx rfl (D at_23) rfl k)))))))))))))))) ?_
  generalize hy1 : (((p1.toUInt64 >>> ((8 : Int32) &&& 0x3f).toInt64.toUInt64).toInt64) : Int64) = y1
  obtain ⟨cl1125, Ar1125, qk1125, S1125, Ng1125, H1125, G1125⟩ := id f1122
  obtain ⟨T1125, h1125, X1125, e1125, W1125, st1125⟩ := stC X1122 hx hZ e1122 Ar1125 (j := (1 : Int32)) (inb_of S1125 ⟨by decide, by decide⟩) (g := (mkF m 30 #[iv p0, .val (.long p1), .second, .val (.long p2), .second, rv b1118, .unset, .unset, .unset, .unset, .unset] [(.int (((y1 &&& (255 : Int64)).toInt32).toUInt32.toUInt16.toUInt32.toInt32)), (.int 1), (.ref b1118)])) rfl rfl (D at_30)
  have W1125 : Wr h1122 h1125 b1118 ((1 : Int32)).toNatClampNeg (.int (y1.toInt32 &&& 255)) := Eq.mp (congrArg (fun z => Wr h1122 h1125 b1118 ((1 : Int32)).toNatClampNeg (Value.int z)) (own_cL255 y1)) W1125
  have f1127 : Exa Z h1122 b1118 "[C" := (Exa.wr W1122 A1118)
  have O1128 := Old0.wr O1124 W1125 g_b1118
  have C1126 := CHr.trans C1123 (CHr.wr W1125 (Safe.exa hZ.alike f1127 (by decide) (by decide)) C1123.1)
  have hk := Nat.le_trans hk (Keep.of_wr W1125).1
  have f1125 : Arv Z h1125 b1118 k1118 .char (8 : Int32) [(.int (p1.toInt32 &&& 255)), (.int (y1.toInt32 &&& 255)), (.int 0), (.int 0), (.int 0), (.int 0), (.int 0), (.int 0)] (.int 0) := Arv.set Ar1125 qk1125 S1125 Ng1125 H1125 G1125 (v := (.int (y1.toInt32 &&& 255))) (own_f255 y1.toInt32) W1125 1 rfl (Nat.le_of_ble_eq_true rfl)
  have N1125 := Fr.snoc X1125 N1122 g_b1118
  refine GoS.of (T' := T1125) (f' := (mkF m 38 #[iv p0, .val (.long p1), .second, .val (.long p2), .second, rv b1118, .unset, .unset, .unset, .unset, .unset] [(.long ((p1.toUInt64 >>> ((16 : Int32) &&& 0x3f).toInt64.toUInt64).toInt64)), (.int 2), (.ref b1118)])) (fun _ k => X1122.ldc2Long hx hown (mvT hZ (own_w hw (i := 1) rfl)) (g := (mkF m 24 #[iv p0, .val (.long p1), .second, .val (.long p2), .second, rv b1118, .unset, .unset, .unset, .unset, .unset] [(.long y1), (.int 1), (.ref b1118)])) rfl (D at_24) _ (XS.land X1122.here hx rfl (D at_27) rfl (XS.l2i X1122.here hx rfl (D at_28) rfl (XS.i2c X1122.here hx rfl (D at_29) rfl (st1125 _ (XS.aload X1125.here hx rfl (D at_31) rfl rfl (XS.iconst X1125.here hx rfl (D at_33) (XS.lloadN X1125.here hx rfl (D at_34) rfl (XS.bipush X1125.here hx rfl (D at_35) (XS.lushr X1125.here hx rfl (D at_37) rfl k)))))))))) ?_
  generalize hy2 : (((p1.toUInt64 >>> ((16 : Int32) &&& 0x3f).toInt64.toUInt64).toInt64) : Int64) = y2
  obtain ⟨cl1129, Ar1129, qk1129, S1129, Ng1129, H1129, G1129⟩ := id f1125
  obtain ⟨T1129, h1129, X1129, e1129, W1129, st1129⟩ := stC X1125 hx hZ e1125 Ar1129 (j := (2 : Int32)) (inb_of S1129 ⟨by decide, by decide⟩) (g := (mkF m 44 #[iv p0, .val (.long p1), .second, .val (.long p2), .second, rv b1118, .unset, .unset, .unset, .unset, .unset] [(.int (((y2 &&& (255 : Int64)).toInt32).toUInt32.toUInt16.toUInt32.toInt32)), (.int 2), (.ref b1118)])) rfl rfl (D at_44)
  have W1129 : Wr h1125 h1129 b1118 ((2 : Int32)).toNatClampNeg (.int (y2.toInt32 &&& 255)) := Eq.mp (congrArg (fun z => Wr h1125 h1129 b1118 ((2 : Int32)).toNatClampNeg (Value.int z)) (own_cL255 y2)) W1129
  have f1131 : Exa Z h1125 b1118 "[C" := (Exa.wr W1125 f1127)
  have O1132 := Old0.wr O1128 W1129 g_b1118
  have C1130 := CHr.trans C1126 (CHr.wr W1129 (Safe.exa hZ.alike f1131 (by decide) (by decide)) C1126.1)
  have hk := Nat.le_trans hk (Keep.of_wr W1129).1
  have f1129 : Arv Z h1129 b1118 k1118 .char (8 : Int32) [(.int (p1.toInt32 &&& 255)), (.int (y1.toInt32 &&& 255)), (.int (y2.toInt32 &&& 255)), (.int 0), (.int 0), (.int 0), (.int 0), (.int 0)] (.int 0) := Arv.set Ar1129 qk1129 S1129 Ng1129 H1129 G1129 (v := (.int (y2.toInt32 &&& 255))) (own_f255 y2.toInt32) W1129 2 rfl (Nat.le_of_ble_eq_true rfl)
  have N1129 := Fr.snoc X1129 N1125 g_b1118
  refine GoS.of (T' := T1129) (f' := (mkF m 52 #[iv p0, .val (.long p1), .second, .val (.long p2), .second, rv b1118, .unset, .unset, .unset, .unset, .unset] [(.long ((p1.toUInt64 >>> ((24 : Int32) &&& 0x3f).toInt64.toUInt64).toInt64)), (.int 3), (.ref b1118)])) (fun _ k => X1125.ldc2Long hx hown (mvT hZ (own_w hw (i := 1) rfl)) (g := (mkF m 38 #[iv p0, .val (.long p1), .second, .val (.long p2), .second, rv b1118, .unset, .unset, .unset, .unset, .unset] [(.long y2), (.int 2), (.ref b1118)])) rfl (D at_38) _ (XS.land X1125.here hx rfl (D at_41) rfl (XS.l2i X1125.here hx rfl (D at_42) rfl (XS.i2c X1125.here hx rfl (D at_43) rfl (st1129 _ (XS.aload X1129.here hx rfl (D at_45) rfl rfl (XS.iconst X1129.here hx rfl (D at_47) (XS.lloadN X1129.here hx rfl (D at_48) rfl (XS.bipush X1129.here hx rfl (D at_49) (XS.lushr X1129.here hx rfl (D at_51) rfl k)))))))))) ?_
  generalize hy3 : (((p1.toUInt64 >>> ((24 : Int32) &&& 0x3f).toInt64.toUInt64).toInt64) : Int64) = y3
  obtain ⟨cl1133, Ar1133, qk1133, S1133, Ng1133, H1133, G1133⟩ := id f1129
  obtain ⟨T1133, h1133, X1133, e1133, W1133, st1133⟩ := stC X1129 hx hZ e1129 Ar1133 (j := (3 : Int32)) (inb_of S1133 ⟨by decide, by decide⟩) (g := (mkF m 58 #[iv p0, .val (.long p1), .second, .val (.long p2), .second, rv b1118, .unset, .unset, .unset, .unset, .unset] [(.int (((y3 &&& (255 : Int64)).toInt32).toUInt32.toUInt16.toUInt32.toInt32)), (.int 3), (.ref b1118)])) rfl rfl (D at_58)
  have W1133 : Wr h1129 h1133 b1118 ((3 : Int32)).toNatClampNeg (.int (y3.toInt32 &&& 255)) := Eq.mp (congrArg (fun z => Wr h1129 h1133 b1118 ((3 : Int32)).toNatClampNeg (Value.int z)) (own_cL255 y3)) W1133
  have f1135 : Exa Z h1129 b1118 "[C" := (Exa.wr W1129 f1131)
  have O1136 := Old0.wr O1132 W1133 g_b1118
  have C1134 := CHr.trans C1130 (CHr.wr W1133 (Safe.exa hZ.alike f1135 (by decide) (by decide)) C1130.1)
  have hk := Nat.le_trans hk (Keep.of_wr W1133).1
  have f1133 : Arv Z h1133 b1118 k1118 .char (8 : Int32) [(.int (p1.toInt32 &&& 255)), (.int (y1.toInt32 &&& 255)), (.int (y2.toInt32 &&& 255)), (.int (y3.toInt32 &&& 255)), (.int 0), (.int 0), (.int 0), (.int 0)] (.int 0) := Arv.set Ar1133 qk1133 S1133 Ng1133 H1133 G1133 (v := (.int (y3.toInt32 &&& 255))) (own_f255 y3.toInt32) W1133 3 rfl (Nat.le_of_ble_eq_true rfl)
  have N1133 := Fr.snoc X1133 N1129 g_b1118
  refine GoS.of (T' := T1133) (f' := (mkF m 66 #[iv p0, .val (.long p1), .second, .val (.long p2), .second, rv b1118, .unset, .unset, .unset, .unset, .unset] [(.long ((p1.toUInt64 >>> ((32 : Int32) &&& 0x3f).toInt64.toUInt64).toInt64)), (.int 4), (.ref b1118)])) (fun _ k => X1129.ldc2Long hx hown (mvT hZ (own_w hw (i := 1) rfl)) (g := (mkF m 52 #[iv p0, .val (.long p1), .second, .val (.long p2), .second, rv b1118, .unset, .unset, .unset, .unset, .unset] [(.long y3), (.int 3), (.ref b1118)])) rfl (D at_52) _ (XS.land X1129.here hx rfl (D at_55) rfl (XS.l2i X1129.here hx rfl (D at_56) rfl (XS.i2c X1129.here hx rfl (D at_57) rfl (st1133 _ (XS.aload X1133.here hx rfl (D at_59) rfl rfl (XS.iconst X1133.here hx rfl (D at_61) (XS.lloadN X1133.here hx rfl (D at_62) rfl (XS.bipush X1133.here hx rfl (D at_63) (XS.lushr X1133.here hx rfl (D at_65) rfl k)))))))))) ?_
  generalize hy4 : (((p1.toUInt64 >>> ((32 : Int32) &&& 0x3f).toInt64.toUInt64).toInt64) : Int64) = y4
  obtain ⟨cl1137, Ar1137, qk1137, S1137, Ng1137, H1137, G1137⟩ := id f1133
  obtain ⟨T1137, h1137, X1137, e1137, W1137, st1137⟩ := stC X1133 hx hZ e1133 Ar1137 (j := (4 : Int32)) (inb_of S1137 ⟨by decide, by decide⟩) (g := (mkF m 72 #[iv p0, .val (.long p1), .second, .val (.long p2), .second, rv b1118, .unset, .unset, .unset, .unset, .unset] [(.int (((y4 &&& (255 : Int64)).toInt32).toUInt32.toUInt16.toUInt32.toInt32)), (.int 4), (.ref b1118)])) rfl rfl (D at_72)
  have W1137 : Wr h1133 h1137 b1118 ((4 : Int32)).toNatClampNeg (.int (y4.toInt32 &&& 255)) := Eq.mp (congrArg (fun z => Wr h1133 h1137 b1118 ((4 : Int32)).toNatClampNeg (Value.int z)) (own_cL255 y4)) W1137
  have f1139 : Exa Z h1133 b1118 "[C" := (Exa.wr W1133 f1135)
  have O1140 := Old0.wr O1136 W1137 g_b1118
  have C1138 := CHr.trans C1134 (CHr.wr W1137 (Safe.exa hZ.alike f1139 (by decide) (by decide)) C1134.1)
  have hk := Nat.le_trans hk (Keep.of_wr W1137).1
  have f1137 : Arv Z h1137 b1118 k1118 .char (8 : Int32) [(.int (p1.toInt32 &&& 255)), (.int (y1.toInt32 &&& 255)), (.int (y2.toInt32 &&& 255)), (.int (y3.toInt32 &&& 255)), (.int (y4.toInt32 &&& 255)), (.int 0), (.int 0), (.int 0)] (.int 0) := Arv.set Ar1137 qk1137 S1137 Ng1137 H1137 G1137 (v := (.int (y4.toInt32 &&& 255))) (own_f255 y4.toInt32) W1137 4 rfl (Nat.le_of_ble_eq_true rfl)
  have N1137 := Fr.snoc X1137 N1133 g_b1118
  refine GoS.of (T' := T1137) (f' := (mkF m 80 #[iv p0, .val (.long p1), .second, .val (.long p2), .second, rv b1118, .unset, .unset, .unset, .unset, .unset] [(.long ((p1.toUInt64 >>> ((40 : Int32) &&& 0x3f).toInt64.toUInt64).toInt64)), (.int 5), (.ref b1118)])) (fun _ k => X1133.ldc2Long hx hown (mvT hZ (own_w hw (i := 1) rfl)) (g := (mkF m 66 #[iv p0, .val (.long p1), .second, .val (.long p2), .second, rv b1118, .unset, .unset, .unset, .unset, .unset] [(.long y4), (.int 4), (.ref b1118)])) rfl (D at_66) _ (XS.land X1133.here hx rfl (D at_69) rfl (XS.l2i X1133.here hx rfl (D at_70) rfl (XS.i2c X1133.here hx rfl (D at_71) rfl (st1137 _ (XS.aload X1137.here hx rfl (D at_73) rfl rfl (XS.iconst X1137.here hx rfl (D at_75) (XS.lloadN X1137.here hx rfl (D at_76) rfl (XS.bipush X1137.here hx rfl (D at_77) (XS.lushr X1137.here hx rfl (D at_79) rfl k)))))))))) ?_
  generalize hy5 : (((p1.toUInt64 >>> ((40 : Int32) &&& 0x3f).toInt64.toUInt64).toInt64) : Int64) = y5
  obtain ⟨cl1141, Ar1141, qk1141, S1141, Ng1141, H1141, G1141⟩ := id f1137
  obtain ⟨T1141, h1141, X1141, e1141, W1141, st1141⟩ := stC X1137 hx hZ e1137 Ar1141 (j := (5 : Int32)) (inb_of S1141 ⟨by decide, by decide⟩) (g := (mkF m 86 #[iv p0, .val (.long p1), .second, .val (.long p2), .second, rv b1118, .unset, .unset, .unset, .unset, .unset] [(.int (((y5 &&& (255 : Int64)).toInt32).toUInt32.toUInt16.toUInt32.toInt32)), (.int 5), (.ref b1118)])) rfl rfl (D at_86)
  have W1141 : Wr h1137 h1141 b1118 ((5 : Int32)).toNatClampNeg (.int (y5.toInt32 &&& 255)) := Eq.mp (congrArg (fun z => Wr h1137 h1141 b1118 ((5 : Int32)).toNatClampNeg (Value.int z)) (own_cL255 y5)) W1141
  have f1143 : Exa Z h1137 b1118 "[C" := (Exa.wr W1137 f1139)
  have O1144 := Old0.wr O1140 W1141 g_b1118
  have C1142 := CHr.trans C1138 (CHr.wr W1141 (Safe.exa hZ.alike f1143 (by decide) (by decide)) C1138.1)
  have hk := Nat.le_trans hk (Keep.of_wr W1141).1
  have f1141 : Arv Z h1141 b1118 k1118 .char (8 : Int32) [(.int (p1.toInt32 &&& 255)), (.int (y1.toInt32 &&& 255)), (.int (y2.toInt32 &&& 255)), (.int (y3.toInt32 &&& 255)), (.int (y4.toInt32 &&& 255)), (.int (y5.toInt32 &&& 255)), (.int 0), (.int 0)] (.int 0) := Arv.set Ar1141 qk1141 S1141 Ng1141 H1141 G1141 (v := (.int (y5.toInt32 &&& 255))) (own_f255 y5.toInt32) W1141 5 rfl (Nat.le_of_ble_eq_true rfl)
  have N1141 := Fr.snoc X1141 N1137 g_b1118
  refine GoS.of (T' := T1141) (f' := (mkF m 95 #[iv p0, .val (.long p1), .second, .val (.long p2), .second, rv b1118, .unset, .unset, .unset, .unset, .unset] [(.long ((p1.toUInt64 >>> ((48 : Int32) &&& 0x3f).toInt64.toUInt64).toInt64)), (.int 6), (.ref b1118)])) (fun _ k => X1137.ldc2Long hx hown (mvT hZ (own_w hw (i := 1) rfl)) (g := (mkF m 80 #[iv p0, .val (.long p1), .second, .val (.long p2), .second, rv b1118, .unset, .unset, .unset, .unset, .unset] [(.long y5), (.int 5), (.ref b1118)])) rfl (D at_80) _ (XS.land X1137.here hx rfl (D at_83) rfl (XS.l2i X1137.here hx rfl (D at_84) rfl (XS.i2c X1137.here hx rfl (D at_85) rfl (st1141 _ (XS.aload X1141.here hx rfl (D at_87) rfl rfl (XS.bipush X1141.here hx rfl (D at_89) (XS.lloadN X1141.here hx rfl (D at_91) rfl (XS.bipush X1141.here hx rfl (D at_92) (XS.lushr X1141.here hx rfl (D at_94) rfl k)))))))))) ?_
  generalize hy6 : (((p1.toUInt64 >>> ((48 : Int32) &&& 0x3f).toInt64.toUInt64).toInt64) : Int64) = y6
  obtain ⟨cl1145, Ar1145, qk1145, S1145, Ng1145, H1145, G1145⟩ := id f1141
  obtain ⟨T1145, h1145, X1145, e1145, W1145, st1145⟩ := stC X1141 hx hZ e1141 Ar1145 (j := (6 : Int32)) (inb_of S1145 ⟨by decide, by decide⟩) (g := (mkF m 101 #[iv p0, .val (.long p1), .second, .val (.long p2), .second, rv b1118, .unset, .unset, .unset, .unset, .unset] [(.int (((y6 &&& (255 : Int64)).toInt32).toUInt32.toUInt16.toUInt32.toInt32)), (.int 6), (.ref b1118)])) rfl rfl (D at_101)
  have W1145 : Wr h1141 h1145 b1118 ((6 : Int32)).toNatClampNeg (.int (y6.toInt32 &&& 255)) := Eq.mp (congrArg (fun z => Wr h1141 h1145 b1118 ((6 : Int32)).toNatClampNeg (Value.int z)) (own_cL255 y6)) W1145
  have f1147 : Exa Z h1141 b1118 "[C" := (Exa.wr W1141 f1143)
  have O1148 := Old0.wr O1144 W1145 g_b1118
  have C1146 := CHr.trans C1142 (CHr.wr W1145 (Safe.exa hZ.alike f1147 (by decide) (by decide)) C1142.1)
  have hk := Nat.le_trans hk (Keep.of_wr W1145).1
  have f1145 : Arv Z h1145 b1118 k1118 .char (8 : Int32) [(.int (p1.toInt32 &&& 255)), (.int (y1.toInt32 &&& 255)), (.int (y2.toInt32 &&& 255)), (.int (y3.toInt32 &&& 255)), (.int (y4.toInt32 &&& 255)), (.int (y5.toInt32 &&& 255)), (.int (y6.toInt32 &&& 255)), (.int 0)] (.int 0) := Arv.set Ar1145 qk1145 S1145 Ng1145 H1145 G1145 (v := (.int (y6.toInt32 &&& 255))) (own_f255 y6.toInt32) W1145 6 rfl (Nat.le_of_ble_eq_true rfl)
  have N1145 := Fr.snoc X1145 N1141 g_b1118
  refine GoS.of (T' := T1145) (f' := (mkF m 110 #[iv p0, .val (.long p1), .second, .val (.long p2), .second, rv b1118, .unset, .unset, .unset, .unset, .unset] [(.long ((p1.toUInt64 >>> ((56 : Int32) &&& 0x3f).toInt64.toUInt64).toInt64)), (.int 7), (.ref b1118)])) (fun _ k => X1141.ldc2Long hx hown (mvT hZ (own_w hw (i := 1) rfl)) (g := (mkF m 95 #[iv p0, .val (.long p1), .second, .val (.long p2), .second, rv b1118, .unset, .unset, .unset, .unset, .unset] [(.long y6), (.int 6), (.ref b1118)])) rfl (D at_95) _ (XS.land X1141.here hx rfl (D at_98) rfl (XS.l2i X1141.here hx rfl (D at_99) rfl (XS.i2c X1141.here hx rfl (D at_100) rfl (st1145 _ (XS.aload X1145.here hx rfl (D at_102) rfl rfl (XS.bipush X1145.here hx rfl (D at_104) (XS.lloadN X1145.here hx rfl (D at_106) rfl (XS.bipush X1145.here hx rfl (D at_107) (XS.lushr X1145.here hx rfl (D at_109) rfl k)))))))))) ?_
  generalize hy7 : (((p1.toUInt64 >>> ((56 : Int32) &&& 0x3f).toInt64.toUInt64).toInt64) : Int64) = y7
  obtain ⟨cl1149, Ar1149, qk1149, S1149, Ng1149, H1149, G1149⟩ := id f1145
  obtain ⟨T1149, h1149, X1149, e1149, W1149, st1149⟩ := stC X1145 hx hZ e1145 Ar1149 (j := (7 : Int32)) (inb_of S1149 ⟨by decide, by decide⟩) (g := (mkF m 116 #[iv p0, .val (.long p1), .second, .val (.long p2), .second, rv b1118, .unset, .unset, .unset, .unset, .unset] [(.int (((y7 &&& (255 : Int64)).toInt32).toUInt32.toUInt16.toUInt32.toInt32)), (.int 7), (.ref b1118)])) rfl rfl (D at_116)
  have W1149 : Wr h1145 h1149 b1118 ((7 : Int32)).toNatClampNeg (.int (y7.toInt32 &&& 255)) := Eq.mp (congrArg (fun z => Wr h1145 h1149 b1118 ((7 : Int32)).toNatClampNeg (Value.int z)) (own_cL255 y7)) W1149
  have f1151 : Exa Z h1145 b1118 "[C" := (Exa.wr W1145 f1147)
  have O1152 := Old0.wr O1148 W1149 g_b1118
  have C1150 := CHr.trans C1146 (CHr.wr W1149 (Safe.exa hZ.alike f1151 (by decide) (by decide)) C1146.1)
  have hk := Nat.le_trans hk (Keep.of_wr W1149).1
  have f1149 : Arv Z h1149 b1118 k1118 .char (8 : Int32) [(.int (p1.toInt32 &&& 255)), (.int (y1.toInt32 &&& 255)), (.int (y2.toInt32 &&& 255)), (.int (y3.toInt32 &&& 255)), (.int (y4.toInt32 &&& 255)), (.int (y5.toInt32 &&& 255)), (.int (y6.toInt32 &&& 255)), (.int (y7.toInt32 &&& 255))] (.int 0) := Arv.set Ar1149 qk1149 S1149 Ng1149 H1149 G1149 (v := (.int (y7.toInt32 &&& 255))) (own_f255 y7.toInt32) W1149 7 rfl (Nat.le_of_ble_eq_true rfl)
  have N1149 := Fr.snoc X1149 N1145 g_b1118
  refine GoS.of (T' := T1149) (f' := (mkF m 120 #[iv p0, .val (.long p1), .second, .val (.long p2), .second, rv b1118, .unset, .unset, .unset, .unset, .unset] [(.int (p0 &&& (3 : Int32)))])) (fun _ k => X1145.ldc2Long hx hown (mvT hZ (own_w hw (i := 1) rfl)) (g := (mkF m 110 #[iv p0, .val (.long p1), .second, .val (.long p2), .second, rv b1118, .unset, .unset, .unset, .unset, .unset] [(.long y7), (.int 7), (.ref b1118)])) rfl (D at_110) _ (XS.land X1145.here hx rfl (D at_113) rfl (XS.l2i X1145.here hx rfl (D at_114) rfl (XS.i2c X1145.here hx rfl (D at_115) rfl (st1149 _ (XS.iloadN X1149.here hx rfl (D at_117) rfl (XS.iconst X1149.here hx rfl (D at_118) (XS.iand X1149.here hx rfl (D at_119) rfl k)))))))) ?_
  generalize hpk : ((p0 &&& (3 : Int32)) : Int32) = pk
  refine GoS.of (T' := T1149) (f' := (mkF m 124 #[iv p0, .val (.long p1), .second, .val (.long p2), .second, rv b1118, iv pk, .unset, .unset, .unset, .unset] [(.int pk)])) (fun _ k => XS.istore X1149.here hx rfl (D at_120) rfl (l' := #[iv p0, .val (.long p1), .second, .val (.long p2), .second, rv b1118, iv pk, .unset, .unset, .unset, .unset]) rfl (XS.iload X1149.here hx rfl (D at_122) rfl k)) ?_
  by_cases hc1153 : pk = (0 : Int32)
  · skip
    refine GoS.of (T' := T1149) (f' := (mkF m 130 #[iv p0, .val (.long p1), .second, .val (.long p2), .second, rv b1118, iv pk, .unset, .unset, .unset, .unset] [(.int ((p0.toUInt32 >>> ((2 : Int32) &&& 31).toUInt32).toInt32))])) (fun _ k => XS.ifNo X1149.here hx rfl (D at_124) rfl ((if0 _ _).trans (teq hc1153).2) (XS.iloadN X1149.here hx rfl (D at_127) rfl (XS.iconst X1149.here hx rfl (D at_128) (XS.iushr X1149.here hx rfl (D at_129) rfl k)))) ?_
    generalize hpw : (((p0.toUInt32 >>> ((2 : Int32) &&& 31).toUInt32).toInt32) : Int32) = pw
    obtain ⟨j, hj, hje⟩ := own_mod pw (hpw ▸ own_ush _) 9 9 (by decide) (by decide)
    refine GoS.of (T' := T1149) (f' := (mkF m 135 #[iv p0, .val (.long p1), .second, .val (.long p2), .second, rv b1118, iv pk, iv (pw % (9 : Int32)), .unset, .unset, .unset] [])) (fun _ k => XS.bipush X1149.here hx rfl (D at_130) (iremM X1149 hx rfl (D at_132) rfl (by decide) (XS.istore X1149.here hx rfl (D at_133) rfl (l' := #[iv p0, .val (.long p1), .second, .val (.long p2), .second, rv b1118, iv pk, iv (pw % (9 : Int32)), .unset, .unset, .unset]) rfl k))) ?_
    rw [hje]
    match j, hj with
    | 0, _ =>
      refine GoS.cast (f' := (mkF m 135 #[iv p0, .val (.long p1), .second, .val (.long p2), .second, rv b1118, iv pk, iv 0, .unset, .unset, .unset] [])) rfl ?_
      refine GoS.of (T' := T1149) (f' := (mkF m 317 #[iv p0, .val (.long p1), .second, .val (.long p2), .second, rv b1118, iv pk, iv 0, .unset, .unset, .unset] [])) (fun _ k => XS.goto X1149.here hx rfl (pc0 := 135) (pc' := 317) rfl (D at_135) (by decide) (by decide) k) ?_
      exact rm_t0 hw G p0 p1 p2 (b1118) (k1118) (p1.toInt32) (y1.toInt32) (y2.toInt32) (y3.toInt32) (y4.toInt32) (y5.toInt32) (y6.toInt32) (y7.toInt32) (One.val rfl) (One.u) (One.u) (One.u) hx hby hml hown hret hlk hZ hS hk  C1150 e1149 (Stand.more X1149 (by decide) (by decide)) N1149 O1152 f1149 g_b1118 
    | 1, _ =>
      refine GoS.cast (f' := (mkF m 135 #[iv p0, .val (.long p1), .second, .val (.long p2), .second, rv b1118, iv pk, iv 1, .unset, .unset, .unset] [])) rfl ?_
      refine GoS.of (T' := T1149) (f' := (mkF m 317 #[iv p0, .val (.long p1), .second, .val (.long p2), .second, rv b1118, iv pk, iv 1, .unset, .unset, .unset] [])) (fun _ k => XS.goto X1149.here hx rfl (pc0 := 135) (pc' := 317) rfl (D at_135) (by decide) (by decide) k) ?_
      exact rm_t1 hw G p0 p1 p2 (b1118) (k1118) (p1.toInt32) (y1.toInt32) (y2.toInt32) (y3.toInt32) (y4.toInt32) (y5.toInt32) (y6.toInt32) (y7.toInt32) (One.val rfl) (One.u) (One.u) (One.u) hx hby hml hown hret hlk hZ hS hk  C1150 e1149 (Stand.more X1149 (by decide) (by decide)) N1149 O1152 f1149 g_b1118 
    | 2, _ =>
      refine GoS.cast (f' := (mkF m 135 #[iv p0, .val (.long p1), .second, .val (.long p2), .second, rv b1118, iv pk, iv 2, .unset, .unset, .unset] [])) rfl ?_
      refine GoS.of (T' := T1149) (f' := (mkF m 317 #[iv p0, .val (.long p1), .second, .val (.long p2), .second, rv b1118, iv pk, iv 2, .unset, .unset, .unset] [])) (fun _ k => XS.goto X1149.here hx rfl (pc0 := 135) (pc' := 317) rfl (D at_135) (by decide) (by decide) k) ?_
      exact rm_t2 hw G p0 p1 p2 (b1118) (k1118) (p1.toInt32) (y1.toInt32) (y2.toInt32) (y3.toInt32) (y4.toInt32) (y5.toInt32) (y6.toInt32) (y7.toInt32) (One.val rfl) (One.u) (One.u) (One.u) hx hby hml hown hret hlk hZ hS hk  C1150 e1149 (Stand.more X1149 (by decide) (by decide)) N1149 O1152 f1149 g_b1118 
    | 3, _ =>
      refine GoS.cast (f' := (mkF m 135 #[iv p0, .val (.long p1), .second, .val (.long p2), .second, rv b1118, iv pk, iv 3, .unset, .unset, .unset] [])) rfl ?_
      refine GoS.of (T' := T1149) (f' := (mkF m 317 #[iv p0, .val (.long p1), .second, .val (.long p2), .second, rv b1118, iv pk, iv 3, .unset, .unset, .unset] [])) (fun _ k => XS.goto X1149.here hx rfl (pc0 := 135) (pc' := 317) rfl (D at_135) (by decide) (by decide) k) ?_
      exact rm_t3 hw G p0 p1 p2 (b1118) (k1118) (p1.toInt32) (y1.toInt32) (y2.toInt32) (y3.toInt32) (y4.toInt32) (y5.toInt32) (y6.toInt32) (y7.toInt32) (One.val rfl) (One.u) (One.u) (One.u) hx hby hml hown hret hlk hZ hS hk  C1150 e1149 (Stand.more X1149 (by decide) (by decide)) N1149 O1152 f1149 g_b1118 
    | 4, _ =>
      refine GoS.cast (f' := (mkF m 135 #[iv p0, .val (.long p1), .second, .val (.long p2), .second, rv b1118, iv pk, iv 4, .unset, .unset, .unset] [])) rfl ?_
      refine GoS.of (T' := T1149) (f' := (mkF m 317 #[iv p0, .val (.long p1), .second, .val (.long p2), .second, rv b1118, iv pk, iv 4, .unset, .unset, .unset] [])) (fun _ k => XS.goto X1149.here hx rfl (pc0 := 135) (pc' := 317) rfl (D at_135) (by decide) (by decide) k) ?_
      exact rm_t4 hw G p0 p1 p2 (b1118) (k1118) (p1.toInt32) (y1.toInt32) (y2.toInt32) (y3.toInt32) (y4.toInt32) (y5.toInt32) (y6.toInt32) (y7.toInt32) (One.val rfl) (One.u) (One.u) (One.u) hx hby hml hown hret hlk hZ hS hk  C1150 e1149 (Stand.more X1149 (by decide) (by decide)) N1149 O1152 f1149 g_b1118 
    | 5, _ =>
      refine GoS.cast (f' := (mkF m 135 #[iv p0, .val (.long p1), .second, .val (.long p2), .second, rv b1118, iv pk, iv 5, .unset, .unset, .unset] [])) rfl ?_
      refine GoS.of (T' := T1149) (f' := (mkF m 317 #[iv p0, .val (.long p1), .second, .val (.long p2), .second, rv b1118, iv pk, iv 5, .unset, .unset, .unset] [])) (fun _ k => XS.goto X1149.here hx rfl (pc0 := 135) (pc' := 317) rfl (D at_135) (by decide) (by decide) k) ?_
      exact rm_t5 hw G p0 p1 p2 (b1118) (k1118) (p1.toInt32) (y1.toInt32) (y2.toInt32) (y3.toInt32) (y4.toInt32) (y5.toInt32) (y6.toInt32) (y7.toInt32) (One.val rfl) (One.u) (One.u) (One.u) hx hby hml hown hret hlk hZ hS hk  C1150 e1149 (Stand.more X1149 (by decide) (by decide)) N1149 O1152 f1149 g_b1118 
    | 6, _ =>
      refine GoS.cast (f' := (mkF m 135 #[iv p0, .val (.long p1), .second, .val (.long p2), .second, rv b1118, iv pk, iv 6, .unset, .unset, .unset] [])) rfl ?_
      refine GoS.of (T' := T1149) (f' := (mkF m 317 #[iv p0, .val (.long p1), .second, .val (.long p2), .second, rv b1118, iv pk, iv 6, .unset, .unset, .unset] [])) (fun _ k => XS.goto X1149.here hx rfl (pc0 := 135) (pc' := 317) rfl (D at_135) (by decide) (by decide) k) ?_
      exact rm_t6 hw G p0 p1 p2 (b1118) (k1118) (p1.toInt32) (y1.toInt32) (y2.toInt32) (y3.toInt32) (y4.toInt32) (y5.toInt32) (y6.toInt32) (y7.toInt32) (One.val rfl) (One.u) (One.u) (One.u) hx hby hml hown hret hlk hZ hS hk  C1150 e1149 (Stand.more X1149 (by decide) (by decide)) N1149 O1152 f1149 g_b1118 
    | 7, _ =>
      refine GoS.cast (f' := (mkF m 135 #[iv p0, .val (.long p1), .second, .val (.long p2), .second, rv b1118, iv pk, iv 7, .unset, .unset, .unset] [])) rfl ?_
      refine GoS.of (T' := T1149) (f' := (mkF m 317 #[iv p0, .val (.long p1), .second, .val (.long p2), .second, rv b1118, iv pk, iv 7, .unset, .unset, .unset] [])) (fun _ k => XS.goto X1149.here hx rfl (pc0 := 135) (pc' := 317) rfl (D at_135) (by decide) (by decide) k) ?_
      exact rm_t7 hw G p0 p1 p2 (b1118) (k1118) (p1.toInt32) (y1.toInt32) (y2.toInt32) (y3.toInt32) (y4.toInt32) (y5.toInt32) (y6.toInt32) (y7.toInt32) (One.val rfl) (One.u) (One.u) (One.u) hx hby hml hown hret hlk hZ hS hk  C1150 e1149 (Stand.more X1149 (by decide) (by decide)) N1149 O1152 f1149 g_b1118 
    | 8, _ =>
      refine GoS.cast (f' := (mkF m 135 #[iv p0, .val (.long p1), .second, .val (.long p2), .second, rv b1118, iv pk, iv 8, .unset, .unset, .unset] [])) rfl ?_
      refine GoS.of (T' := T1149) (f' := (mkF m 317 #[iv p0, .val (.long p1), .second, .val (.long p2), .second, rv b1118, iv pk, iv 8, .unset, .unset, .unset] [])) (fun _ k => XS.goto X1149.here hx rfl (pc0 := 135) (pc' := 317) rfl (D at_135) (by decide) (by decide) k) ?_
      exact rm_t8 hw G p0 p1 p2 (b1118) (k1118) (p1.toInt32) (y1.toInt32) (y2.toInt32) (y3.toInt32) (y4.toInt32) (y5.toInt32) (y6.toInt32) (y7.toInt32) (One.val rfl) (One.u) (One.u) (One.u) hx hby hml hown hret hlk hZ hS hk  C1150 e1149 (Stand.more X1149 (by decide) (by decide)) N1149 O1152 f1149 g_b1118 
    | n + 9, h => exact absurd h (by omega)
  · skip
    refine GoS.of (T' := T1149) (f' := (mkF m 141 #[iv p0, .val (.long p1), .second, .val (.long p2), .second, rv b1118, iv pk, .unset, .unset, .unset, .unset] [(.int 1), (.int pk)])) (fun _ k => XS.ifYes X1149.here hx rfl (pc0 := 124) (pc' := 138) rfl (D at_124) rfl ((if0 _ _).trans (feq hc1153).2) (by decide) (by decide) (XS.iload X1149.here hx rfl (D at_138) rfl (XS.iconst X1149.here hx rfl (D at_140) k))) ?_
    by_cases hc1154 : pk = (1 : Int32)
    · skip
      refine GoS.of (T' := T1149) (f' := (mkF m 144 #[iv p0, .val (.long p1), .second, .val (.long p2), .second, rv b1118, iv pk, .unset, .unset, .unset, .unset] [])) (fun _ k => XS.icmpNo X1149.here hx rfl (D at_141) rfl (teq hc1154).2 k) ?_
      have f1156 : Exa Z h1149 b1118 "[C" := (Exa.wr W1149 f1151)
      have sp1155_b1118 : Safe Z own_EL s.vm h1149 b1118 := (Safe.exa hZ.alike f1156 (by decide) (by decide))
      obtain ⟨c1155, T1155, h1155, k11155, v1155, kc1155, X1155, e1155, E1155, hS, hk1155, hZ, hown, A1155, Fc1155, Fv1155, V1155, -, -, Cq1155, -, sn1155, st1155⟩ := ldcCH X1149 hx hZ hown (own_w hw (i := 28) rfl) (own_wS hw) e1149 hS hk hEL (by decide) C1150.1 (vs := [(.int 104), (.int 105), (.int 116), (.int 115)]) (z := (4 : Int32)) ⟨by decide +kernel, by decide +kernel⟩ (by decide) rfl (g := (mkF m 144 #[iv p0, .val (.long p1), .second, .val (.long p2), .second, rv b1118, iv pk, .unset, .unset, .unset, .unset] [])) rfl (D at_144) (n := 16) (by decide +kernel) (by decide) (by decide) (by decide)
      have O1155 := Old0.ext O1152 E1155
      have C1155 := CHr.trans C1150 Cq1155
      have hk := hk1155
      have sf1155_b1118 : Safe Z own_EL T1155.vm h1155 b1118 := CHr.safe Cq1155 f1156.lt sp1155_b1118
      have ne_b1118_c1155 : b1118 ≠ c1155 := (sn1155 b1118 sf1155_b1118).1
      have ne_b1118_v1155 : b1118 ≠ v1155 := (sn1155 b1118 sf1155_b1118).2
      have f1158 : Arv Z h1155 b1118 k1118 .char (8 : Int32) [(.int (p1.toInt32 &&& 255)), (.int (y1.toInt32 &&& 255)), (.int (y2.toInt32 &&& 255)), (.int (y3.toInt32 &&& 255)), (.int (y4.toInt32 &&& 255)), (.int (y5.toInt32 &&& 255)), (.int (y6.toInt32 &&& 255)), (.int (y7.toInt32 &&& 255))] (.int 0) := (Arv.ext f1149 E1155)
      obtain ⟨T1157, v1157, L1157, X1157, q1157, st1157⟩ := callSt X1155 hx hZ (y := own_m40) hown (own_w hw (i := 67) rfl) (own_w hw (i := 68) rfl) (own_w hw (i := 5) rfl) (own_w hw (i := 69) rfl) (by decide) (rm_put0 hw G b1118 c1155 v1155 kc1155 ((4 : Int32)) (([(104 : Int32), (105 : Int32), (116 : Int32), (115 : Int32)] : List Int32)) k1118 ((p1.toInt32 &&& 255)) ((y1.toInt32 &&& 255)) ((y2.toInt32 &&& 255)) ((y3.toInt32 &&& 255)) ((y4.toInt32 &&& 255)) ((y5.toInt32 &&& 255)) ((y6.toInt32 &&& 255)) ((y7.toInt32 &&& 255)) h1155 O1155 (by decide) A1155 Fv1155 Fc1155 V1155 (by decide) f1158 g_b1118) e1155 (W := 0) (by decide) (by decide) (by decide) (by decide) (g := (mkF m 169 #[iv p0, .val (.long p1), .second, .val (.long p2), .second, rv b1118, iv pk, .unset, rv c1155, .unset, .unset] [(.int 0), (.ref c1155), (.ref b1118)])) rfl (by rw [hml]; rfl) (argsL := [(.ref b1118), (.ref c1155), (.int 0)]) (rest := []) (lenOf pd54 rfl) rfl rfl (Nat.le_of_eq rfl) (D at_169)
      obtain ⟨r_1157, rfl, N1157q, K1157q, p1157_0⟩ := q1157
      have N1157 := Fr.app N1149 N1157q
      have f1160 : Exa Z h1155 b1118 "[C" := (Exa.ext E1155 f1156)
      have O1161 := Old0.keep O1155 K1157q (allS g_b1118 all0)
      have C1159 := CHr.trans C1155 (CHr.keep K1157q (sfS (Safe.exa hZ.alike f1160 (by decide) (by decide)) sf0) C1155.1)
      have hk := Nat.le_trans hk K1157q.1
      have f1163 : Exa Z T1157.heap c1155 "java/lang/String" := (Exa.keep A1155 K1157q)
      have f1164 : Fld Z T1157.heap c1155 "java/lang/String" "value" "[B" (.ref v1155) := (Fld.keep Fv1155 K1157q (ninS (Ne.symm ne_b1118_c1155) nin0))
      have f1165 : Fld Z T1157.heap c1155 "java/lang/String" "coder" "B" (.int 0) := (Fld.keep Fc1155 K1157q (ninS (Ne.symm ne_b1118_c1155) nin0))
      have f1166 : Arv Z T1157.heap v1155 kc1155 .byte (4 : Int32) [(.int 104), (.int 105), (.int 116), (.int 115)] (.int 0) := (Arv.keep V1155 K1157q (ninS (Ne.symm ne_b1118_v1155) nin0))
      obtain ⟨T1162, v1162, L1162, X1162, q1162, st1162⟩ := callSt X1157 hx hZ (y := own_m40) hown (own_w hw (i := 67) rfl) (own_w hw (i := 68) rfl) (own_w hw (i := 5) rfl) (own_w hw (i := 69) rfl) (by decide) (rm_put1 hw G b1118 c1155 v1155 kc1155 ((4 : Int32)) (([(104 : Int32), (105 : Int32), (116 : Int32), (115 : Int32)] : List Int32)) k1118 ((r_1157 &&& 255)) ((y1.toInt32 &&& 255)) ((y2.toInt32 &&& 255)) ((y3.toInt32 &&& 255)) ((y4.toInt32 &&& 255)) ((y5.toInt32 &&& 255)) ((y6.toInt32 &&& 255)) ((y7.toInt32 &&& 255)) T1157.heap O1161 (by decide) f1163 f1164 f1165 f1166 (by decide) p1157_0 g_b1118) rfl (W := 0) (by decide) (by decide) (by decide) (by decide) (g := (mkF m 177 #[iv p0, .val (.long p1), .second, .val (.long p2), .second, rv b1118, iv pk, .unset, rv c1155, .unset, .unset] [(.int 1), (.ref c1155), (.ref b1118)])) rfl (by rw [hml]; rfl) (argsL := [(.ref b1118), (.ref c1155), (.int 1)]) (rest := []) (lenOf pd54 rfl) rfl rfl (Nat.le_of_eq rfl) (D at_177)
      obtain ⟨r_1162, rfl, N1162q, K1162q, p1162_0⟩ := q1162
      have N1162 := Fr.app N1157 N1162q
      have f1168 : Exa Z T1157.heap b1118 "[C" := (Exa.keep f1160 K1157q)
      have O1169 := Old0.keep O1161 K1162q (allS g_b1118 all0)
      have C1167 := CHr.trans C1159 (CHr.keep K1162q (sfS (Safe.exa hZ.alike f1168 (by decide) (by decide)) sf0) C1159.1)
      have hk := Nat.le_trans hk K1162q.1
      have f1171 : Exa Z T1162.heap c1155 "java/lang/String" := (Exa.keep f1163 K1162q)
      have f1172 : Fld Z T1162.heap c1155 "java/lang/String" "value" "[B" (.ref v1155) := (Fld.keep f1164 K1162q (ninS (Ne.symm ne_b1118_c1155) nin0))
      have f1173 : Fld Z T1162.heap c1155 "java/lang/String" "coder" "B" (.int 0) := (Fld.keep f1165 K1162q (ninS (Ne.symm ne_b1118_c1155) nin0))
      have f1174 : Arv Z T1162.heap v1155 kc1155 .byte (4 : Int32) [(.int 104), (.int 105), (.int 116), (.int 115)] (.int 0) := (Arv.keep f1166 K1162q (ninS (Ne.symm ne_b1118_v1155) nin0))
      obtain ⟨T1170, v1170, L1170, X1170, q1170, st1170⟩ := callSt X1162 hx hZ (y := own_m40) hown (own_w hw (i := 67) rfl) (own_w hw (i := 68) rfl) (own_w hw (i := 5) rfl) (own_w hw (i := 69) rfl) (by decide) (rm_put2 hw G b1118 c1155 v1155 kc1155 ((4 : Int32)) (([(104 : Int32), (105 : Int32), (116 : Int32), (115 : Int32)] : List Int32)) k1118 ((r_1157 &&& 255)) ((r_1162 &&& 255)) ((y2.toInt32 &&& 255)) ((y3.toInt32 &&& 255)) ((y4.toInt32 &&& 255)) ((y5.toInt32 &&& 255)) ((y6.toInt32 &&& 255)) ((y7.toInt32 &&& 255)) T1162.heap O1169 (by decide) f1171 f1172 f1173 f1174 (by decide) p1162_0 g_b1118) rfl (W := 0) (by decide) (by decide) (by decide) (by decide) (g := (mkF m 185 #[iv p0, .val (.long p1), .second, .val (.long p2), .second, rv b1118, iv pk, .unset, rv c1155, .unset, .unset] [(.int 2), (.ref c1155), (.ref b1118)])) rfl (by rw [hml]; rfl) (argsL := [(.ref b1118), (.ref c1155), (.int 2)]) (rest := []) (lenOf pd54 rfl) rfl rfl (Nat.le_of_eq rfl) (D at_185)
      obtain ⟨r_1170, rfl, N1170q, K1170q, p1170_0⟩ := q1170
      have N1170 := Fr.app N1162 N1170q
      have f1176 : Exa Z T1162.heap b1118 "[C" := (Exa.keep f1168 K1162q)
      have O1177 := Old0.keep O1169 K1170q (allS g_b1118 all0)
      have C1175 := CHr.trans C1167 (CHr.keep K1170q (sfS (Safe.exa hZ.alike f1176 (by decide) (by decide)) sf0) C1167.1)
      have hk := Nat.le_trans hk K1170q.1
      have f1179 : Exa Z T1170.heap c1155 "java/lang/String" := (Exa.keep f1171 K1170q)
      have f1180 : Fld Z T1170.heap c1155 "java/lang/String" "value" "[B" (.ref v1155) := (Fld.keep f1172 K1170q (ninS (Ne.symm ne_b1118_c1155) nin0))
      have f1181 : Fld Z T1170.heap c1155 "java/lang/String" "coder" "B" (.int 0) := (Fld.keep f1173 K1170q (ninS (Ne.symm ne_b1118_c1155) nin0))
      have f1182 : Arv Z T1170.heap v1155 kc1155 .byte (4 : Int32) [(.int 104), (.int 105), (.int 116), (.int 115)] (.int 0) := (Arv.keep f1174 K1170q (ninS (Ne.symm ne_b1118_v1155) nin0))
      obtain ⟨T1178, v1178, L1178, X1178, q1178, st1178⟩ := callSt X1170 hx hZ (y := own_m40) hown (own_w hw (i := 67) rfl) (own_w hw (i := 68) rfl) (own_w hw (i := 5) rfl) (own_w hw (i := 69) rfl) (by decide) (rm_put3 hw G b1118 c1155 v1155 kc1155 ((4 : Int32)) (([(104 : Int32), (105 : Int32), (116 : Int32), (115 : Int32)] : List Int32)) k1118 ((r_1157 &&& 255)) ((r_1162 &&& 255)) ((r_1170 &&& 255)) ((y3.toInt32 &&& 255)) ((y4.toInt32 &&& 255)) ((y5.toInt32 &&& 255)) ((y6.toInt32 &&& 255)) ((y7.toInt32 &&& 255)) T1170.heap O1177 (by decide) f1179 f1180 f1181 f1182 (by decide) p1170_0 g_b1118) rfl (W := 0) (by decide) (by decide) (by decide) (by decide) (g := (mkF m 193 #[iv p0, .val (.long p1), .second, .val (.long p2), .second, rv b1118, iv pk, .unset, rv c1155, .unset, .unset] [(.int 3), (.ref c1155), (.ref b1118)])) rfl (by rw [hml]; rfl) (argsL := [(.ref b1118), (.ref c1155), (.int 3)]) (rest := []) (lenOf pd54 rfl) rfl rfl (Nat.le_of_eq rfl) (D at_193)
      obtain ⟨r_1178, rfl, N1178q, K1178q, p1178_0⟩ := q1178
      have N1178 := Fr.app N1170 N1178q
      have f1184 : Exa Z T1170.heap b1118 "[C" := (Exa.keep f1176 K1170q)
      have O1185 := Old0.keep O1177 K1178q (allS g_b1118 all0)
      have C1183 := CHr.trans C1175 (CHr.keep K1178q (sfS (Safe.exa hZ.alike f1184 (by decide) (by decide)) sf0) C1175.1)
      have hk := Nat.le_trans hk K1178q.1
      have f1187 : Exa Z T1178.heap c1155 "java/lang/String" := (Exa.keep f1179 K1178q)
      have f1188 : Fld Z T1178.heap c1155 "java/lang/String" "value" "[B" (.ref v1155) := (Fld.keep f1180 K1178q (ninS (Ne.symm ne_b1118_c1155) nin0))
      have f1189 : Fld Z T1178.heap c1155 "java/lang/String" "coder" "B" (.int 0) := (Fld.keep f1181 K1178q (ninS (Ne.symm ne_b1118_c1155) nin0))
      have f1190 : Arv Z T1178.heap v1155 kc1155 .byte (4 : Int32) [(.int 104), (.int 105), (.int 116), (.int 115)] (.int 0) := (Arv.keep f1182 K1178q (ninS (Ne.symm ne_b1118_v1155) nin0))
      obtain ⟨T1186, v1186, L1186, X1186, q1186, st1186⟩ := callSt X1178 hx hZ (y := own_m40) hown (own_w hw (i := 67) rfl) (own_w hw (i := 68) rfl) (own_w hw (i := 5) rfl) (own_w hw (i := 69) rfl) (by decide) (rm_putN hw G b1118 c1155 ((4 : Int32)) v1155 kc1155 ((4 : Int32)) (([(104 : Int32), (105 : Int32), (116 : Int32), (115 : Int32)] : List Int32)) T1178.heap O1185 (by decide) f1187 f1188 f1189 f1190 (by decide)) rfl (W := 0) (by decide) (by decide) (by decide) (by decide) (g := (mkF m 201 #[iv p0, .val (.long p1), .second, .val (.long p2), .second, rv b1118, iv pk, .unset, rv c1155, .unset, .unset] [(.int 4), (.ref c1155), (.ref b1118)])) rfl (by rw [hml]; rfl) (argsL := [(.ref b1118), (.ref c1155), (.int 4)]) (rest := []) (lenOf pd54 rfl) rfl rfl (Nat.le_of_eq rfl) (D at_201)
      obtain ⟨rfl, e1186, rfl⟩ := q1186
      have N1186 := Fr.app N1178 (Fr.nil _)
      refine GoS.of (T' := T1186) (f' := (mkF m 206 #[iv p0, .val (.long p1), .second, .val (.long p2), .second, rv b1118, iv pk, .unset, rv c1155, .unset, .unset] [(.ref b1118)])) (fun _ k => st1155 _ (XS.goto X1155.here hx rfl (pc0 := 146) (pc' := 162) rfl (D at_146) (by decide) (by decide) (XS.astore X1155.here hx rfl (D at_162) rfl rfl (l' := #[iv p0, .val (.long p1), .second, .val (.long p2), .second, rv b1118, iv pk, .unset, rv c1155, .unset, .unset]) rfl (XS.aload X1155.here hx rfl (D at_164) rfl rfl (XS.aload X1155.here hx rfl (D at_166) rfl rfl (XS.iconst X1155.here hx rfl (D at_168) (st1157 _ (XS.aload X1157.here hx rfl (D at_172) rfl rfl (XS.aload X1157.here hx rfl (D at_174) rfl rfl (XS.iconst X1157.here hx rfl (D at_176) (st1162 _ (XS.aload X1162.here hx rfl (D at_180) rfl rfl (XS.aload X1162.here hx rfl (D at_182) rfl rfl (XS.iconst X1162.here hx rfl (D at_184) (st1170 _ (XS.aload X1170.here hx rfl (D at_188) rfl rfl (XS.aload X1170.here hx rfl (D at_190) rfl rfl (XS.iconst X1170.here hx rfl (D at_192) (st1178 _ (XS.aload X1178.here hx rfl (D at_196) rfl rfl (XS.aload X1178.here hx rfl (D at_198) rfl rfl (XS.iconst X1178.here hx rfl (D at_200) (st1186 _ (XS.aload X1186.here hx rfl (D at_204) rfl rfl k)))))))))))))))))))))))) ?_
      obtain ⟨T1191, v1191, L1191, X1191, q1191, st1191⟩ := callSt X1186 hx hZ (y := own_m40) hown (own_w hw (i := 67) rfl) (own_w hw (i := 68) rfl) (own_w hw (i := 5) rfl) (own_w hw (i := 69) rfl) (by decide) (rm_putN hw G b1118 c1155 ((5 : Int32)) v1155 kc1155 ((4 : Int32)) (([(104 : Int32), (105 : Int32), (116 : Int32), (115 : Int32)] : List Int32)) T1178.heap O1185 (by decide) f1187 f1188 f1189 f1190 (by decide)) e1186 (W := 0) (by decide) (by decide) (by decide) (by decide) (g := (mkF m 209 #[iv p0, .val (.long p1), .second, .val (.long p2), .second, rv b1118, iv pk, .unset, rv c1155, .unset, .unset] [(.int 5), (.ref c1155), (.ref b1118)])) rfl (by rw [hml]; rfl) (argsL := [(.ref b1118), (.ref c1155), (.int 5)]) (rest := []) (lenOf pd54 rfl) rfl rfl (Nat.le_of_eq rfl) (D at_209)
      obtain ⟨rfl, e1191, rfl⟩ := q1191
      have N1191 := Fr.app N1186 (Fr.nil _)
      obtain ⟨T1192, v1192, L1192, X1192, q1192, st1192⟩ := callSt X1191 hx hZ (y := own_m40) hown (own_w hw (i := 67) rfl) (own_w hw (i := 68) rfl) (own_w hw (i := 5) rfl) (own_w hw (i := 69) rfl) (by decide) (rm_putN hw G b1118 c1155 ((6 : Int32)) v1155 kc1155 ((4 : Int32)) (([(104 : Int32), (105 : Int32), (116 : Int32), (115 : Int32)] : List Int32)) T1178.heap O1185 (by decide) f1187 f1188 f1189 f1190 (by decide)) e1191 (W := 0) (by decide) (by decide) (by decide) (by decide) (g := (mkF m 218 #[iv p0, .val (.long p1), .second, .val (.long p2), .second, rv b1118, iv pk, .unset, rv c1155, .unset, .unset] [(.int 6), (.ref c1155), (.ref b1118)])) rfl (by rw [hml]; rfl) (argsL := [(.ref b1118), (.ref c1155), (.int 6)]) (rest := []) (lenOf pd54 rfl) rfl rfl (Nat.le_of_eq rfl) (D at_218)
      obtain ⟨rfl, e1192, rfl⟩ := q1192
      have N1192 := Fr.app N1191 (Fr.nil _)
      obtain ⟨T1193, v1193, L1193, X1193, q1193, st1193⟩ := callSt X1192 hx hZ (y := own_m40) hown (own_w hw (i := 67) rfl) (own_w hw (i := 68) rfl) (own_w hw (i := 5) rfl) (own_w hw (i := 69) rfl) (by decide) (rm_putN hw G b1118 c1155 ((7 : Int32)) v1155 kc1155 ((4 : Int32)) (([(104 : Int32), (105 : Int32), (116 : Int32), (115 : Int32)] : List Int32)) T1178.heap O1185 (by decide) f1187 f1188 f1189 f1190 (by decide)) e1192 (W := 0) (by decide) (by decide) (by decide) (by decide) (g := (mkF m 227 #[iv p0, .val (.long p1), .second, .val (.long p2), .second, rv b1118, iv pk, .unset, rv c1155, .unset, .unset] [(.int 7), (.ref c1155), (.ref b1118)])) rfl (by rw [hml]; rfl) (argsL := [(.ref b1118), (.ref c1155), (.int 7)]) (rest := []) (lenOf pd54 rfl) rfl rfl (Nat.le_of_eq rfl) (D at_227)
      obtain ⟨rfl, e1193, rfl⟩ := q1193
      have N1193 := Fr.app N1192 (Fr.nil _)
      obtain ⟨T1194, v1194, L1194, X1194, q1194, st1194⟩ := callVi X1193 hx hZ (y := own_m36) (z := own_m36) hown (own_w hw (i := 70) rfl) (own_w hw (i := 71) rfl) (notFace_of_selects (args := #[]) (mvT hZ (own_w hw (i := 73) rfl))) (own_w hw (i := 73) rfl) (own_w hw (i := 72) rfl) (own_w hw (i := 74) rfl) (own_w hw (i := 9) rfl) (by decide) (rm_len hw G c1155 v1155 kc1155 ((4 : Int32)) (([(104 : Int32), (105 : Int32), (116 : Int32), (115 : Int32)] : List Int32)) T1178.heap O1185 f1187 f1188 f1189 f1190 (by first | decide | assumption | omega)) e1193 (W := 0) (by decide) (by decide) (by decide) (by decide) f1187 (g := (mkF m 232 #[iv p0, .val (.long p1), .second, .val (.long p2), .second, rv b1118, iv pk, .unset, rv c1155, .unset, .unset] [(.ref c1155)])) rfl (by rw [hml]; rfl) (argsL := []) (rest := []) (lenOf pd38 rfl) rfl rfl (Nat.le_of_eq rfl) (D at_232)
      obtain ⟨rfl, e1194, rfl⟩ := q1194
      have N1194 := Fr.app N1193 (Fr.nil _)
      refine GoS.of (T' := T1194) (f' := (mkF m 246 #[iv p0, .val (.long p1), .second, .val (.long p2), .second, rv b1118, iv pk, iv 4, rv c1155, .unset, .unset] [(.int ((((p2.toUInt64 >>> ((12 : Int32) &&& 0x3f).toInt64.toUInt64).toInt64) &&& (3 : Int64)).toInt32))])) (fun _ k => XS.aload X1186.here hx rfl (D at_206) rfl rfl (XS.iconst X1186.here hx rfl (D at_208) (st1191 _ (XS.aload X1191.here hx rfl (D at_212) rfl rfl (XS.aload X1191.here hx rfl (D at_214) rfl rfl (XS.bipush X1191.here hx rfl (D at_216) (st1192 _ (XS.aload X1192.here hx rfl (D at_221) rfl rfl (XS.aload X1192.here hx rfl (D at_223) rfl rfl (XS.bipush X1192.here hx rfl (D at_225) (st1193 _ (XS.aload X1193.here hx rfl (D at_230) rfl rfl (st1194 _ (XS.istore X1194.here hx rfl (D at_235) rfl (l' := #[iv p0, .val (.long p1), .second, .val (.long p2), .second, rv b1118, iv pk, iv 4, rv c1155, .unset, .unset]) rfl (XS.lloadN X1194.here hx rfl (D at_237) rfl (XS.bipush X1194.here hx rfl (D at_238) (XS.lushr X1194.here hx rfl (D at_240) rfl (X1194.ldc2Long hx hown (mvT hZ (own_w hw (i := 101) rfl)) (g := (mkF m 241 #[iv p0, .val (.long p1), .second, .val (.long p2), .second, rv b1118, iv pk, iv 4, rv c1155, .unset, .unset] [(.long ((p2.toUInt64 >>> ((12 : Int32) &&& 0x3f).toInt64.toUInt64).toInt64))])) rfl (D at_241) _ (XS.land X1194.here hx rfl (D at_244) rfl (XS.l2i X1194.here hx rfl (D at_245) rfl k)))))))))))))))))))) ?_
      generalize hed : (((((p2.toUInt64 >>> ((12 : Int32) &&& 0x3f).toInt64.toUInt64).toInt64) &&& (3 : Int64)).toInt32) : Int32) = ed
      refine GoS.of (T' := T1194) (f' := (mkF m 251 #[iv p0, .val (.long p1), .second, .val (.long p2), .second, rv b1118, iv pk, iv 4, rv c1155, iv ed, .unset] [(.int 1), (.int ed)])) (fun _ k => XS.istore X1194.here hx rfl (D at_246) rfl (l' := #[iv p0, .val (.long p1), .second, .val (.long p2), .second, rv b1118, iv pk, iv 4, rv c1155, iv ed, .unset]) rfl (XS.iload X1194.here hx rfl (D at_248) rfl (XS.iconst X1194.here hx rfl (D at_250) k))) ?_
      by_cases hc1195 : ed = (1 : Int32)
      · skip
        refine GoS.of (T' := T1194) (f' := (mkF m 280 #[iv p0, .val (.long p1), .second, .val (.long p2), .second, rv b1118, iv pk, iv 3, rv c1155, iv ed, .unset] [])) (fun _ k => XS.icmpNo X1194.here hx rfl (D at_251) rfl (teq hc1195).2 (XS.iload X1194.here hx rfl (D at_254) rfl (XS.iconst X1194.here hx rfl (D at_256) (XS.isub X1194.here hx rfl (D at_257) rfl (XS.istore X1194.here hx rfl (D at_258) rfl (l' := #[iv p0, .val (.long p1), .second, .val (.long p2), .second, rv b1118, iv pk, iv 3, rv c1155, iv ed, .unset]) rfl (XS.goto X1194.here hx rfl (pc0 := 260) (pc' := 280) rfl (D at_260) (by decide) (by decide) k)))))) ?_
        exact rm_u3 hw G p0 p1 p2 (b1118) (k1118) (r_1157) (r_1162) (r_1170) (r_1178) (y4.toInt32) (y5.toInt32) (y6.toInt32) (y7.toInt32) (One.val rfl) (One.val rfl) (One.val rfl) (One.u) hx hby hml hown hret hlk hZ hS hk  C1183 e1194 (Stand.more X1194 (by decide) (by decide)) N1194 O1185 p1178_0 g_b1118 
      · skip
        refine GoS.of (T' := T1194) (f' := (mkF m 266 #[iv p0, .val (.long p1), .second, .val (.long p2), .second, rv b1118, iv pk, iv 4, rv c1155, iv ed, .unset] [(.int 2), (.int ed)])) (fun _ k => XS.icmpYes X1194.here hx rfl (pc0 := 251) (pc' := 263) rfl (D at_251) rfl (feq hc1195).2 (by decide) (by decide) (XS.iload X1194.here hx rfl (D at_263) rfl (XS.iconst X1194.here hx rfl (D at_265) k))) ?_
        by_cases hc1196 : ed = (2 : Int32)
        · skip
          obtain ⟨T1197, v1197, L1197, X1197, q1197, st1197⟩ := callSt X1194 hx hZ (y := own_m42) hown (own_w hw (i := 112) rfl) (own_w hw (i := 113) rfl) (own_w hw (i := 114) rfl) (own_w hw (i := 115) rfl) (by decide) (rm_min5 hw G   T1178.heap O1185 ) e1194 (W := 0) (by decide) (by decide) (by decide) (by decide) (g := (mkF m 275 #[iv p0, .val (.long p1), .second, .val (.long p2), .second, rv b1118, iv pk, iv 4, rv c1155, iv ed, .unset] [(.int 5), (.int 8)])) rfl (by rw [hml]; rfl) (argsL := [(.int 8), (.int 5)]) (rest := []) (lenOf pd55 rfl) rfl rfl (Nat.le_of_eq rfl) (D at_275)
          obtain ⟨rfl, e1197, rfl⟩ := q1197
          have N1197 := Fr.app N1194 (Fr.nil _)
          refine GoS.of (T' := T1197) (f' := (mkF m 280 #[iv p0, .val (.long p1), .second, .val (.long p2), .second, rv b1118, iv pk, iv 5, rv c1155, iv ed, .unset] [])) (fun _ k => XS.icmpNo X1194.here hx rfl (D at_266) rfl (teq hc1196).2 (XS.bipush X1194.here hx rfl (D at_269) (XS.iload X1194.here hx rfl (D at_271) rfl (XS.iconst X1194.here hx rfl (D at_273) (XS.iadd X1194.here hx rfl (D at_274) rfl (st1197 _ (XS.istore X1197.here hx rfl (D at_278) rfl (l' := #[iv p0, .val (.long p1), .second, .val (.long p2), .second, rv b1118, iv pk, iv 5, rv c1155, iv ed, .unset]) rfl k))))))) ?_
          exact rm_u5 hw G p0 p1 p2 (b1118) (k1118) (r_1157) (r_1162) (r_1170) (r_1178) (y4.toInt32) (y5.toInt32) (y6.toInt32) (y7.toInt32) (One.val rfl) (One.val rfl) (One.val rfl) (One.u) hx hby hml hown hret hlk hZ hS hk  C1183 e1197 (Stand.more X1197 (by decide) (by decide)) N1197 O1185 p1178_0 g_b1118 
        · skip
          refine GoS.of (T' := T1194) (f' := (mkF m 280 #[iv p0, .val (.long p1), .second, .val (.long p2), .second, rv b1118, iv pk, iv 4, rv c1155, iv ed, .unset] [])) (fun _ k => XS.icmpYes X1194.here hx rfl (pc0 := 266) (pc' := 280) rfl (D at_266) rfl (feq hc1196).2 (by decide) (by decide) k) ?_
          exact rm_u4 hw G p0 p1 p2 (b1118) (k1118) (r_1157) (r_1162) (r_1170) (r_1178) (y4.toInt32) (y5.toInt32) (y6.toInt32) (y7.toInt32) (One.val rfl) (One.val rfl) (One.val rfl) (One.u) hx hby hml hown hret hlk hZ hS hk  C1183 e1194 (Stand.more X1194 (by decide) (by decide)) N1194 O1185 p1178_0 g_b1118 
    · skip
      refine GoS.of (T' := T1149) (f' := (mkF m 152 #[iv p0, .val (.long p1), .second, .val (.long p2), .second, rv b1118, iv pk, .unset, .unset, .unset, .unset] [(.int 2), (.int pk)])) (fun _ k => XS.icmpYes X1149.here hx rfl (pc0 := 141) (pc' := 149) rfl (D at_141) rfl (feq hc1154).2 (by decide) (by decide) (XS.iload X1149.here hx rfl (D at_149) rfl (XS.iconst X1149.here hx rfl (D at_151) k))) ?_
      by_cases hc1198 : pk = (2 : Int32)
      · skip
        refine GoS.of (T' := T1149) (f' := (mkF m 155 #[iv p0, .val (.long p1), .second, .val (.long p2), .second, rv b1118, iv pk, .unset, .unset, .unset, .unset] [])) (fun _ k => XS.icmpNo X1149.here hx rfl (D at_152) rfl (teq hc1198).2 k) ?_
        have f1200 : Exa Z h1149 b1118 "[C" := (Exa.wr W1149 f1151)
        have sp1199_b1118 : Safe Z own_EL s.vm h1149 b1118 := (Safe.exa hZ.alike f1200 (by decide) (by decide))
        obtain ⟨c1199, T1199, h1199, k11199, v1199, kc1199, X1199, e1199, E1199, hS, hk1199, hZ, hown, A1199, Fc1199, Fv1199, V1199, -, -, Cq1199, -, sn1199, st1199⟩ := ldcCH X1149 hx hZ hown (own_w hw (i := 40) rfl) (own_wS hw) e1149 hS hk hEL (by decide) C1150.1 (vs := [(.int 114), (.int 101), (.int 115), (.int 117), (.int 108), (.int 116), (.int 115)]) (z := (7 : Int32)) ⟨by decide +kernel, by decide +kernel⟩ (by decide) rfl (g := (mkF m 155 #[iv p0, .val (.long p1), .second, .val (.long p2), .second, rv b1118, iv pk, .unset, .unset, .unset, .unset] [])) rfl (D at_155) (n := 28) (by decide +kernel) (by decide) (by decide) (by decide)
        have O1199 := Old0.ext O1152 E1199
        have C1199 := CHr.trans C1150 Cq1199
        have hk := hk1199
        have sf1199_b1118 : Safe Z own_EL T1199.vm h1199 b1118 := CHr.safe Cq1199 f1200.lt sp1199_b1118
        have ne_b1118_c1199 : b1118 ≠ c1199 := (sn1199 b1118 sf1199_b1118).1
        have ne_b1118_v1199 : b1118 ≠ v1199 := (sn1199 b1118 sf1199_b1118).2
        have f1202 : Arv Z h1199 b1118 k1118 .char (8 : Int32) [(.int (p1.toInt32 &&& 255)), (.int (y1.toInt32 &&& 255)), (.int (y2.toInt32 &&& 255)), (.int (y3.toInt32 &&& 255)), (.int (y4.toInt32 &&& 255)), (.int (y5.toInt32 &&& 255)), (.int (y6.toInt32 &&& 255)), (.int (y7.toInt32 &&& 255))] (.int 0) := (Arv.ext f1149 E1199)
        obtain ⟨T1201, v1201, L1201, X1201, q1201, st1201⟩ := callSt X1199 hx hZ (y := own_m40) hown (own_w hw (i := 67) rfl) (own_w hw (i := 68) rfl) (own_w hw (i := 5) rfl) (own_w hw (i := 69) rfl) (by decide) (rm_put0 hw G b1118 c1199 v1199 kc1199 ((7 : Int32)) (([(114 : Int32), (101 : Int32), (115 : Int32), (117 : Int32), (108 : Int32), (116 : Int32), (115 : Int32)] : List Int32)) k1118 ((p1.toInt32 &&& 255)) ((y1.toInt32 &&& 255)) ((y2.toInt32 &&& 255)) ((y3.toInt32 &&& 255)) ((y4.toInt32 &&& 255)) ((y5.toInt32 &&& 255)) ((y6.toInt32 &&& 255)) ((y7.toInt32 &&& 255)) h1199 O1199 (by decide) A1199 Fv1199 Fc1199 V1199 (by decide) f1202 g_b1118) e1199 (W := 0) (by decide) (by decide) (by decide) (by decide) (g := (mkF m 169 #[iv p0, .val (.long p1), .second, .val (.long p2), .second, rv b1118, iv pk, .unset, rv c1199, .unset, .unset] [(.int 0), (.ref c1199), (.ref b1118)])) rfl (by rw [hml]; rfl) (argsL := [(.ref b1118), (.ref c1199), (.int 0)]) (rest := []) (lenOf pd54 rfl) rfl rfl (Nat.le_of_eq rfl) (D at_169)
        obtain ⟨r_1201, rfl, N1201q, K1201q, p1201_0⟩ := q1201
        have N1201 := Fr.app N1149 N1201q
        have f1204 : Exa Z h1199 b1118 "[C" := (Exa.ext E1199 f1200)
        have O1205 := Old0.keep O1199 K1201q (allS g_b1118 all0)
        have C1203 := CHr.trans C1199 (CHr.keep K1201q (sfS (Safe.exa hZ.alike f1204 (by decide) (by decide)) sf0) C1199.1)
        have hk := Nat.le_trans hk K1201q.1
        have f1207 : Exa Z T1201.heap c1199 "java/lang/String" := (Exa.keep A1199 K1201q)
        have f1208 : Fld Z T1201.heap c1199 "java/lang/String" "value" "[B" (.ref v1199) := (Fld.keep Fv1199 K1201q (ninS (Ne.symm ne_b1118_c1199) nin0))
        have f1209 : Fld Z T1201.heap c1199 "java/lang/String" "coder" "B" (.int 0) := (Fld.keep Fc1199 K1201q (ninS (Ne.symm ne_b1118_c1199) nin0))
        have f1210 : Arv Z T1201.heap v1199 kc1199 .byte (7 : Int32) [(.int 114), (.int 101), (.int 115), (.int 117), (.int 108), (.int 116), (.int 115)] (.int 0) := (Arv.keep V1199 K1201q (ninS (Ne.symm ne_b1118_v1199) nin0))
        obtain ⟨T1206, v1206, L1206, X1206, q1206, st1206⟩ := callSt X1201 hx hZ (y := own_m40) hown (own_w hw (i := 67) rfl) (own_w hw (i := 68) rfl) (own_w hw (i := 5) rfl) (own_w hw (i := 69) rfl) (by decide) (rm_put1 hw G b1118 c1199 v1199 kc1199 ((7 : Int32)) (([(114 : Int32), (101 : Int32), (115 : Int32), (117 : Int32), (108 : Int32), (116 : Int32), (115 : Int32)] : List Int32)) k1118 ((r_1201 &&& 255)) ((y1.toInt32 &&& 255)) ((y2.toInt32 &&& 255)) ((y3.toInt32 &&& 255)) ((y4.toInt32 &&& 255)) ((y5.toInt32 &&& 255)) ((y6.toInt32 &&& 255)) ((y7.toInt32 &&& 255)) T1201.heap O1205 (by decide) f1207 f1208 f1209 f1210 (by decide) p1201_0 g_b1118) rfl (W := 0) (by decide) (by decide) (by decide) (by decide) (g := (mkF m 177 #[iv p0, .val (.long p1), .second, .val (.long p2), .second, rv b1118, iv pk, .unset, rv c1199, .unset, .unset] [(.int 1), (.ref c1199), (.ref b1118)])) rfl (by rw [hml]; rfl) (argsL := [(.ref b1118), (.ref c1199), (.int 1)]) (rest := []) (lenOf pd54 rfl) rfl rfl (Nat.le_of_eq rfl) (D at_177)
        obtain ⟨r_1206, rfl, N1206q, K1206q, p1206_0⟩ := q1206
        have N1206 := Fr.app N1201 N1206q
        have f1212 : Exa Z T1201.heap b1118 "[C" := (Exa.keep f1204 K1201q)
        have O1213 := Old0.keep O1205 K1206q (allS g_b1118 all0)
        have C1211 := CHr.trans C1203 (CHr.keep K1206q (sfS (Safe.exa hZ.alike f1212 (by decide) (by decide)) sf0) C1203.1)
        have hk := Nat.le_trans hk K1206q.1
        have f1215 : Exa Z T1206.heap c1199 "java/lang/String" := (Exa.keep f1207 K1206q)
        have f1216 : Fld Z T1206.heap c1199 "java/lang/String" "value" "[B" (.ref v1199) := (Fld.keep f1208 K1206q (ninS (Ne.symm ne_b1118_c1199) nin0))
        have f1217 : Fld Z T1206.heap c1199 "java/lang/String" "coder" "B" (.int 0) := (Fld.keep f1209 K1206q (ninS (Ne.symm ne_b1118_c1199) nin0))
        have f1218 : Arv Z T1206.heap v1199 kc1199 .byte (7 : Int32) [(.int 114), (.int 101), (.int 115), (.int 117), (.int 108), (.int 116), (.int 115)] (.int 0) := (Arv.keep f1210 K1206q (ninS (Ne.symm ne_b1118_v1199) nin0))
        obtain ⟨T1214, v1214, L1214, X1214, q1214, st1214⟩ := callSt X1206 hx hZ (y := own_m40) hown (own_w hw (i := 67) rfl) (own_w hw (i := 68) rfl) (own_w hw (i := 5) rfl) (own_w hw (i := 69) rfl) (by decide) (rm_put2 hw G b1118 c1199 v1199 kc1199 ((7 : Int32)) (([(114 : Int32), (101 : Int32), (115 : Int32), (117 : Int32), (108 : Int32), (116 : Int32), (115 : Int32)] : List Int32)) k1118 ((r_1201 &&& 255)) ((r_1206 &&& 255)) ((y2.toInt32 &&& 255)) ((y3.toInt32 &&& 255)) ((y4.toInt32 &&& 255)) ((y5.toInt32 &&& 255)) ((y6.toInt32 &&& 255)) ((y7.toInt32 &&& 255)) T1206.heap O1213 (by decide) f1215 f1216 f1217 f1218 (by decide) p1206_0 g_b1118) rfl (W := 0) (by decide) (by decide) (by decide) (by decide) (g := (mkF m 185 #[iv p0, .val (.long p1), .second, .val (.long p2), .second, rv b1118, iv pk, .unset, rv c1199, .unset, .unset] [(.int 2), (.ref c1199), (.ref b1118)])) rfl (by rw [hml]; rfl) (argsL := [(.ref b1118), (.ref c1199), (.int 2)]) (rest := []) (lenOf pd54 rfl) rfl rfl (Nat.le_of_eq rfl) (D at_185)
        obtain ⟨r_1214, rfl, N1214q, K1214q, p1214_0⟩ := q1214
        have N1214 := Fr.app N1206 N1214q
        have f1220 : Exa Z T1206.heap b1118 "[C" := (Exa.keep f1212 K1206q)
        have O1221 := Old0.keep O1213 K1214q (allS g_b1118 all0)
        have C1219 := CHr.trans C1211 (CHr.keep K1214q (sfS (Safe.exa hZ.alike f1220 (by decide) (by decide)) sf0) C1211.1)
        have hk := Nat.le_trans hk K1214q.1
        have f1223 : Exa Z T1214.heap c1199 "java/lang/String" := (Exa.keep f1215 K1214q)
        have f1224 : Fld Z T1214.heap c1199 "java/lang/String" "value" "[B" (.ref v1199) := (Fld.keep f1216 K1214q (ninS (Ne.symm ne_b1118_c1199) nin0))
        have f1225 : Fld Z T1214.heap c1199 "java/lang/String" "coder" "B" (.int 0) := (Fld.keep f1217 K1214q (ninS (Ne.symm ne_b1118_c1199) nin0))
        have f1226 : Arv Z T1214.heap v1199 kc1199 .byte (7 : Int32) [(.int 114), (.int 101), (.int 115), (.int 117), (.int 108), (.int 116), (.int 115)] (.int 0) := (Arv.keep f1218 K1214q (ninS (Ne.symm ne_b1118_v1199) nin0))
        obtain ⟨T1222, v1222, L1222, X1222, q1222, st1222⟩ := callSt X1214 hx hZ (y := own_m40) hown (own_w hw (i := 67) rfl) (own_w hw (i := 68) rfl) (own_w hw (i := 5) rfl) (own_w hw (i := 69) rfl) (by decide) (rm_put3 hw G b1118 c1199 v1199 kc1199 ((7 : Int32)) (([(114 : Int32), (101 : Int32), (115 : Int32), (117 : Int32), (108 : Int32), (116 : Int32), (115 : Int32)] : List Int32)) k1118 ((r_1201 &&& 255)) ((r_1206 &&& 255)) ((r_1214 &&& 255)) ((y3.toInt32 &&& 255)) ((y4.toInt32 &&& 255)) ((y5.toInt32 &&& 255)) ((y6.toInt32 &&& 255)) ((y7.toInt32 &&& 255)) T1214.heap O1221 (by decide) f1223 f1224 f1225 f1226 (by decide) p1214_0 g_b1118) rfl (W := 0) (by decide) (by decide) (by decide) (by decide) (g := (mkF m 193 #[iv p0, .val (.long p1), .second, .val (.long p2), .second, rv b1118, iv pk, .unset, rv c1199, .unset, .unset] [(.int 3), (.ref c1199), (.ref b1118)])) rfl (by rw [hml]; rfl) (argsL := [(.ref b1118), (.ref c1199), (.int 3)]) (rest := []) (lenOf pd54 rfl) rfl rfl (Nat.le_of_eq rfl) (D at_193)
        obtain ⟨r_1222, rfl, N1222q, K1222q, p1222_0⟩ := q1222
        have N1222 := Fr.app N1214 N1222q
        have f1228 : Exa Z T1214.heap b1118 "[C" := (Exa.keep f1220 K1214q)
        have O1229 := Old0.keep O1221 K1222q (allS g_b1118 all0)
        have C1227 := CHr.trans C1219 (CHr.keep K1222q (sfS (Safe.exa hZ.alike f1228 (by decide) (by decide)) sf0) C1219.1)
        have hk := Nat.le_trans hk K1222q.1
        have f1231 : Exa Z T1222.heap c1199 "java/lang/String" := (Exa.keep f1223 K1222q)
        have f1232 : Fld Z T1222.heap c1199 "java/lang/String" "value" "[B" (.ref v1199) := (Fld.keep f1224 K1222q (ninS (Ne.symm ne_b1118_c1199) nin0))
        have f1233 : Fld Z T1222.heap c1199 "java/lang/String" "coder" "B" (.int 0) := (Fld.keep f1225 K1222q (ninS (Ne.symm ne_b1118_c1199) nin0))
        have f1234 : Arv Z T1222.heap v1199 kc1199 .byte (7 : Int32) [(.int 114), (.int 101), (.int 115), (.int 117), (.int 108), (.int 116), (.int 115)] (.int 0) := (Arv.keep f1226 K1222q (ninS (Ne.symm ne_b1118_v1199) nin0))
        obtain ⟨T1230, v1230, L1230, X1230, q1230, st1230⟩ := callSt X1222 hx hZ (y := own_m40) hown (own_w hw (i := 67) rfl) (own_w hw (i := 68) rfl) (own_w hw (i := 5) rfl) (own_w hw (i := 69) rfl) (by decide) (rm_put4 hw G b1118 c1199 v1199 kc1199 ((7 : Int32)) (([(114 : Int32), (101 : Int32), (115 : Int32), (117 : Int32), (108 : Int32), (116 : Int32), (115 : Int32)] : List Int32)) k1118 ((r_1201 &&& 255)) ((r_1206 &&& 255)) ((r_1214 &&& 255)) ((r_1222 &&& 255)) ((y4.toInt32 &&& 255)) ((y5.toInt32 &&& 255)) ((y6.toInt32 &&& 255)) ((y7.toInt32 &&& 255)) T1222.heap O1229 (by decide) f1231 f1232 f1233 f1234 (by decide) p1222_0 g_b1118) rfl (W := 0) (by decide) (by decide) (by decide) (by decide) (g := (mkF m 201 #[iv p0, .val (.long p1), .second, .val (.long p2), .second, rv b1118, iv pk, .unset, rv c1199, .unset, .unset] [(.int 4), (.ref c1199), (.ref b1118)])) rfl (by rw [hml]; rfl) (argsL := [(.ref b1118), (.ref c1199), (.int 4)]) (rest := []) (lenOf pd54 rfl) rfl rfl (Nat.le_of_eq rfl) (D at_201)
        obtain ⟨r_1230, rfl, N1230q, K1230q, p1230_0⟩ := q1230
        have N1230 := Fr.app N1222 N1230q
        have f1236 : Exa Z T1222.heap b1118 "[C" := (Exa.keep f1228 K1222q)
        have O1237 := Old0.keep O1229 K1230q (allS g_b1118 all0)
        have C1235 := CHr.trans C1227 (CHr.keep K1230q (sfS (Safe.exa hZ.alike f1236 (by decide) (by decide)) sf0) C1227.1)
        have hk := Nat.le_trans hk K1230q.1
        refine GoS.of (T' := T1230) (f' := (mkF m 206 #[iv p0, .val (.long p1), .second, .val (.long p2), .second, rv b1118, iv pk, .unset, rv c1199, .unset, .unset] [(.ref b1118)])) (fun _ k => st1199 _ (XS.goto X1199.here hx rfl (pc0 := 157) (pc' := 162) rfl (D at_157) (by decide) (by decide) (XS.astore X1199.here hx rfl (D at_162) rfl rfl (l' := #[iv p0, .val (.long p1), .second, .val (.long p2), .second, rv b1118, iv pk, .unset, rv c1199, .unset, .unset]) rfl (XS.aload X1199.here hx rfl (D at_164) rfl rfl (XS.aload X1199.here hx rfl (D at_166) rfl rfl (XS.iconst X1199.here hx rfl (D at_168) (st1201 _ (XS.aload X1201.here hx rfl (D at_172) rfl rfl (XS.aload X1201.here hx rfl (D at_174) rfl rfl (XS.iconst X1201.here hx rfl (D at_176) (st1206 _ (XS.aload X1206.here hx rfl (D at_180) rfl rfl (XS.aload X1206.here hx rfl (D at_182) rfl rfl (XS.iconst X1206.here hx rfl (D at_184) (st1214 _ (XS.aload X1214.here hx rfl (D at_188) rfl rfl (XS.aload X1214.here hx rfl (D at_190) rfl rfl (XS.iconst X1214.here hx rfl (D at_192) (st1222 _ (XS.aload X1222.here hx rfl (D at_196) rfl rfl (XS.aload X1222.here hx rfl (D at_198) rfl rfl (XS.iconst X1222.here hx rfl (D at_200) (st1230 _ (XS.aload X1230.here hx rfl (D at_204) rfl rfl k)))))))))))))))))))))))) ?_
        have f1239 : Exa Z T1230.heap c1199 "java/lang/String" := (Exa.keep f1231 K1230q)
        have f1240 : Fld Z T1230.heap c1199 "java/lang/String" "value" "[B" (.ref v1199) := (Fld.keep f1232 K1230q (ninS (Ne.symm ne_b1118_c1199) nin0))
        have f1241 : Fld Z T1230.heap c1199 "java/lang/String" "coder" "B" (.int 0) := (Fld.keep f1233 K1230q (ninS (Ne.symm ne_b1118_c1199) nin0))
        have f1242 : Arv Z T1230.heap v1199 kc1199 .byte (7 : Int32) [(.int 114), (.int 101), (.int 115), (.int 117), (.int 108), (.int 116), (.int 115)] (.int 0) := (Arv.keep f1234 K1230q (ninS (Ne.symm ne_b1118_v1199) nin0))
        obtain ⟨T1238, v1238, L1238, X1238, q1238, st1238⟩ := callSt X1230 hx hZ (y := own_m40) hown (own_w hw (i := 67) rfl) (own_w hw (i := 68) rfl) (own_w hw (i := 5) rfl) (own_w hw (i := 69) rfl) (by decide) (rm_put5 hw G b1118 c1199 v1199 kc1199 ((7 : Int32)) (([(114 : Int32), (101 : Int32), (115 : Int32), (117 : Int32), (108 : Int32), (116 : Int32), (115 : Int32)] : List Int32)) k1118 ((r_1201 &&& 255)) ((r_1206 &&& 255)) ((r_1214 &&& 255)) ((r_1222 &&& 255)) ((r_1230 &&& 255)) ((y5.toInt32 &&& 255)) ((y6.toInt32 &&& 255)) ((y7.toInt32 &&& 255)) T1230.heap O1237 (by decide) f1239 f1240 f1241 f1242 (by decide) p1230_0 g_b1118) rfl (W := 0) (by decide) (by decide) (by decide) (by decide) (g := (mkF m 209 #[iv p0, .val (.long p1), .second, .val (.long p2), .second, rv b1118, iv pk, .unset, rv c1199, .unset, .unset] [(.int 5), (.ref c1199), (.ref b1118)])) rfl (by rw [hml]; rfl) (argsL := [(.ref b1118), (.ref c1199), (.int 5)]) (rest := []) (lenOf pd54 rfl) rfl rfl (Nat.le_of_eq rfl) (D at_209)
        obtain ⟨r_1238, rfl, N1238q, K1238q, p1238_0⟩ := q1238
        have N1238 := Fr.app N1230 N1238q
        have f1244 : Exa Z T1230.heap b1118 "[C" := (Exa.keep f1236 K1230q)
        have O1245 := Old0.keep O1237 K1238q (allS g_b1118 all0)
        have C1243 := CHr.trans C1235 (CHr.keep K1238q (sfS (Safe.exa hZ.alike f1244 (by decide) (by decide)) sf0) C1235.1)
        have hk := Nat.le_trans hk K1238q.1
        have f1247 : Exa Z T1238.heap c1199 "java/lang/String" := (Exa.keep f1239 K1238q)
        have f1248 : Fld Z T1238.heap c1199 "java/lang/String" "value" "[B" (.ref v1199) := (Fld.keep f1240 K1238q (ninS (Ne.symm ne_b1118_c1199) nin0))
        have f1249 : Fld Z T1238.heap c1199 "java/lang/String" "coder" "B" (.int 0) := (Fld.keep f1241 K1238q (ninS (Ne.symm ne_b1118_c1199) nin0))
        have f1250 : Arv Z T1238.heap v1199 kc1199 .byte (7 : Int32) [(.int 114), (.int 101), (.int 115), (.int 117), (.int 108), (.int 116), (.int 115)] (.int 0) := (Arv.keep f1242 K1238q (ninS (Ne.symm ne_b1118_v1199) nin0))
        obtain ⟨T1246, v1246, L1246, X1246, q1246, st1246⟩ := callSt X1238 hx hZ (y := own_m40) hown (own_w hw (i := 67) rfl) (own_w hw (i := 68) rfl) (own_w hw (i := 5) rfl) (own_w hw (i := 69) rfl) (by decide) (rm_put6 hw G b1118 c1199 v1199 kc1199 ((7 : Int32)) (([(114 : Int32), (101 : Int32), (115 : Int32), (117 : Int32), (108 : Int32), (116 : Int32), (115 : Int32)] : List Int32)) k1118 ((r_1201 &&& 255)) ((r_1206 &&& 255)) ((r_1214 &&& 255)) ((r_1222 &&& 255)) ((r_1230 &&& 255)) ((r_1238 &&& 255)) ((y6.toInt32 &&& 255)) ((y7.toInt32 &&& 255)) T1238.heap O1245 (by decide) f1247 f1248 f1249 f1250 (by decide) p1238_0 g_b1118) rfl (W := 0) (by decide) (by decide) (by decide) (by decide) (g := (mkF m 218 #[iv p0, .val (.long p1), .second, .val (.long p2), .second, rv b1118, iv pk, .unset, rv c1199, .unset, .unset] [(.int 6), (.ref c1199), (.ref b1118)])) rfl (by rw [hml]; rfl) (argsL := [(.ref b1118), (.ref c1199), (.int 6)]) (rest := []) (lenOf pd54 rfl) rfl rfl (Nat.le_of_eq rfl) (D at_218)
        obtain ⟨r_1246, rfl, N1246q, K1246q, p1246_0⟩ := q1246
        have N1246 := Fr.app N1238 N1246q
        have f1252 : Exa Z T1238.heap b1118 "[C" := (Exa.keep f1244 K1238q)
        have O1253 := Old0.keep O1245 K1246q (allS g_b1118 all0)
        have C1251 := CHr.trans C1243 (CHr.keep K1246q (sfS (Safe.exa hZ.alike f1252 (by decide) (by decide)) sf0) C1243.1)
        have hk := Nat.le_trans hk K1246q.1
        have f1255 : Exa Z T1246.heap c1199 "java/lang/String" := (Exa.keep f1247 K1246q)
        have f1256 : Fld Z T1246.heap c1199 "java/lang/String" "value" "[B" (.ref v1199) := (Fld.keep f1248 K1246q (ninS (Ne.symm ne_b1118_c1199) nin0))
        have f1257 : Fld Z T1246.heap c1199 "java/lang/String" "coder" "B" (.int 0) := (Fld.keep f1249 K1246q (ninS (Ne.symm ne_b1118_c1199) nin0))
        have f1258 : Arv Z T1246.heap v1199 kc1199 .byte (7 : Int32) [(.int 114), (.int 101), (.int 115), (.int 117), (.int 108), (.int 116), (.int 115)] (.int 0) := (Arv.keep f1250 K1246q (ninS (Ne.symm ne_b1118_v1199) nin0))
        obtain ⟨T1254, v1254, L1254, X1254, q1254, st1254⟩ := callSt X1246 hx hZ (y := own_m40) hown (own_w hw (i := 67) rfl) (own_w hw (i := 68) rfl) (own_w hw (i := 5) rfl) (own_w hw (i := 69) rfl) (by decide) (rm_putN hw G b1118 c1199 ((7 : Int32)) v1199 kc1199 ((7 : Int32)) (([(114 : Int32), (101 : Int32), (115 : Int32), (117 : Int32), (108 : Int32), (116 : Int32), (115 : Int32)] : List Int32)) T1246.heap O1253 (by decide) f1255 f1256 f1257 f1258 (by decide)) rfl (W := 0) (by decide) (by decide) (by decide) (by decide) (g := (mkF m 227 #[iv p0, .val (.long p1), .second, .val (.long p2), .second, rv b1118, iv pk, .unset, rv c1199, .unset, .unset] [(.int 7), (.ref c1199), (.ref b1118)])) rfl (by rw [hml]; rfl) (argsL := [(.ref b1118), (.ref c1199), (.int 7)]) (rest := []) (lenOf pd54 rfl) rfl rfl (Nat.le_of_eq rfl) (D at_227)
        obtain ⟨rfl, e1254, rfl⟩ := q1254
        have N1254 := Fr.app N1246 (Fr.nil _)
        obtain ⟨T1259, v1259, L1259, X1259, q1259, st1259⟩ := callVi X1254 hx hZ (y := own_m36) (z := own_m36) hown (own_w hw (i := 70) rfl) (own_w hw (i := 71) rfl) (notFace_of_selects (args := #[]) (mvT hZ (own_w hw (i := 73) rfl))) (own_w hw (i := 73) rfl) (own_w hw (i := 72) rfl) (own_w hw (i := 74) rfl) (own_w hw (i := 9) rfl) (by decide) (rm_len hw G c1199 v1199 kc1199 ((7 : Int32)) (([(114 : Int32), (101 : Int32), (115 : Int32), (117 : Int32), (108 : Int32), (116 : Int32), (115 : Int32)] : List Int32)) T1246.heap O1253 f1255 f1256 f1257 f1258 (by first | decide | assumption | omega)) e1254 (W := 0) (by decide) (by decide) (by decide) (by decide) f1255 (g := (mkF m 232 #[iv p0, .val (.long p1), .second, .val (.long p2), .second, rv b1118, iv pk, .unset, rv c1199, .unset, .unset] [(.ref c1199)])) rfl (by rw [hml]; rfl) (argsL := []) (rest := []) (lenOf pd38 rfl) rfl rfl (Nat.le_of_eq rfl) (D at_232)
        obtain ⟨rfl, e1259, rfl⟩ := q1259
        have N1259 := Fr.app N1254 (Fr.nil _)
        refine GoS.of (T' := T1259) (f' := (mkF m 246 #[iv p0, .val (.long p1), .second, .val (.long p2), .second, rv b1118, iv pk, iv 7, rv c1199, .unset, .unset] [(.int ((((p2.toUInt64 >>> ((12 : Int32) &&& 0x3f).toInt64.toUInt64).toInt64) &&& (3 : Int64)).toInt32))])) (fun _ k => XS.aload X1230.here hx rfl (D at_206) rfl rfl (XS.iconst X1230.here hx rfl (D at_208) (st1238 _ (XS.aload X1238.here hx rfl (D at_212) rfl rfl (XS.aload X1238.here hx rfl (D at_214) rfl rfl (XS.bipush X1238.here hx rfl (D at_216) (st1246 _ (XS.aload X1246.here hx rfl (D at_221) rfl rfl (XS.aload X1246.here hx rfl (D at_223) rfl rfl (XS.bipush X1246.here hx rfl (D at_225) (st1254 _ (XS.aload X1254.here hx rfl (D at_230) rfl rfl (st1259 _ (XS.istore X1259.here hx rfl (D at_235) rfl (l' := #[iv p0, .val (.long p1), .second, .val (.long p2), .second, rv b1118, iv pk, iv 7, rv c1199, .unset, .unset]) rfl (XS.lloadN X1259.here hx rfl (D at_237) rfl (XS.bipush X1259.here hx rfl (D at_238) (XS.lushr X1259.here hx rfl (D at_240) rfl (X1259.ldc2Long hx hown (mvT hZ (own_w hw (i := 101) rfl)) (g := (mkF m 241 #[iv p0, .val (.long p1), .second, .val (.long p2), .second, rv b1118, iv pk, iv 7, rv c1199, .unset, .unset] [(.long ((p2.toUInt64 >>> ((12 : Int32) &&& 0x3f).toInt64.toUInt64).toInt64))])) rfl (D at_241) _ (XS.land X1259.here hx rfl (D at_244) rfl (XS.l2i X1259.here hx rfl (D at_245) rfl k)))))))))))))))))))) ?_
        generalize hed : (((((p2.toUInt64 >>> ((12 : Int32) &&& 0x3f).toInt64.toUInt64).toInt64) &&& (3 : Int64)).toInt32) : Int32) = ed
        refine GoS.of (T' := T1259) (f' := (mkF m 251 #[iv p0, .val (.long p1), .second, .val (.long p2), .second, rv b1118, iv pk, iv 7, rv c1199, iv ed, .unset] [(.int 1), (.int ed)])) (fun _ k => XS.istore X1259.here hx rfl (D at_246) rfl (l' := #[iv p0, .val (.long p1), .second, .val (.long p2), .second, rv b1118, iv pk, iv 7, rv c1199, iv ed, .unset]) rfl (XS.iload X1259.here hx rfl (D at_248) rfl (XS.iconst X1259.here hx rfl (D at_250) k))) ?_
        by_cases hc1260 : ed = (1 : Int32)
        · skip
          refine GoS.of (T' := T1259) (f' := (mkF m 280 #[iv p0, .val (.long p1), .second, .val (.long p2), .second, rv b1118, iv pk, iv 6, rv c1199, iv ed, .unset] [])) (fun _ k => XS.icmpNo X1259.here hx rfl (D at_251) rfl (teq hc1260).2 (XS.iload X1259.here hx rfl (D at_254) rfl (XS.iconst X1259.here hx rfl (D at_256) (XS.isub X1259.here hx rfl (D at_257) rfl (XS.istore X1259.here hx rfl (D at_258) rfl (l' := #[iv p0, .val (.long p1), .second, .val (.long p2), .second, rv b1118, iv pk, iv 6, rv c1199, iv ed, .unset]) rfl (XS.goto X1259.here hx rfl (pc0 := 260) (pc' := 280) rfl (D at_260) (by decide) (by decide) k)))))) ?_
          exact rm_u6 hw G p0 p1 p2 (b1118) (k1118) (r_1201) (r_1206) (r_1214) (r_1222) (r_1230) (r_1238) (r_1246) (y7.toInt32) (One.val rfl) (One.val rfl) (One.val rfl) (One.u) hx hby hml hown hret hlk hZ hS hk  C1251 e1259 (Stand.more X1259 (by decide) (by decide)) N1259 O1253 p1246_0 g_b1118 
        · skip
          refine GoS.of (T' := T1259) (f' := (mkF m 266 #[iv p0, .val (.long p1), .second, .val (.long p2), .second, rv b1118, iv pk, iv 7, rv c1199, iv ed, .unset] [(.int 2), (.int ed)])) (fun _ k => XS.icmpYes X1259.here hx rfl (pc0 := 251) (pc' := 263) rfl (D at_251) rfl (feq hc1260).2 (by decide) (by decide) (XS.iload X1259.here hx rfl (D at_263) rfl (XS.iconst X1259.here hx rfl (D at_265) k))) ?_
          by_cases hc1261 : ed = (2 : Int32)
          · skip
            obtain ⟨T1262, v1262, L1262, X1262, q1262, st1262⟩ := callSt X1259 hx hZ (y := own_m42) hown (own_w hw (i := 112) rfl) (own_w hw (i := 113) rfl) (own_w hw (i := 114) rfl) (own_w hw (i := 115) rfl) (by decide) (rm_min8 hw G   T1246.heap O1253 ) e1259 (W := 0) (by decide) (by decide) (by decide) (by decide) (g := (mkF m 275 #[iv p0, .val (.long p1), .second, .val (.long p2), .second, rv b1118, iv pk, iv 7, rv c1199, iv ed, .unset] [(.int 8), (.int 8)])) rfl (by rw [hml]; rfl) (argsL := [(.int 8), (.int 8)]) (rest := []) (lenOf pd55 rfl) rfl rfl (Nat.le_of_eq rfl) (D at_275)
            obtain ⟨rfl, e1262, rfl⟩ := q1262
            have N1262 := Fr.app N1259 (Fr.nil _)
            refine GoS.of (T' := T1262) (f' := (mkF m 280 #[iv p0, .val (.long p1), .second, .val (.long p2), .second, rv b1118, iv pk, iv 8, rv c1199, iv ed, .unset] [])) (fun _ k => XS.icmpNo X1259.here hx rfl (D at_266) rfl (teq hc1261).2 (XS.bipush X1259.here hx rfl (D at_269) (XS.iload X1259.here hx rfl (D at_271) rfl (XS.iconst X1259.here hx rfl (D at_273) (XS.iadd X1259.here hx rfl (D at_274) rfl (st1262 _ (XS.istore X1262.here hx rfl (D at_278) rfl (l' := #[iv p0, .val (.long p1), .second, .val (.long p2), .second, rv b1118, iv pk, iv 8, rv c1199, iv ed, .unset]) rfl k))))))) ?_
            exact rm_u8 hw G p0 p1 p2 (b1118) (k1118) (r_1201) (r_1206) (r_1214) (r_1222) (r_1230) (r_1238) (r_1246) (y7.toInt32) (One.val rfl) (One.val rfl) (One.val rfl) (One.u) hx hby hml hown hret hlk hZ hS hk  C1251 e1262 (Stand.more X1262 (by decide) (by decide)) N1262 O1253 p1246_0 g_b1118 
          · skip
            refine GoS.of (T' := T1259) (f' := (mkF m 280 #[iv p0, .val (.long p1), .second, .val (.long p2), .second, rv b1118, iv pk, iv 7, rv c1199, iv ed, .unset] [])) (fun _ k => XS.icmpYes X1259.here hx rfl (pc0 := 266) (pc' := 280) rfl (D at_266) rfl (feq hc1261).2 (by decide) (by decide) k) ?_
            exact rm_u7 hw G p0 p1 p2 (b1118) (k1118) (r_1201) (r_1206) (r_1214) (r_1222) (r_1230) (r_1238) (r_1246) (y7.toInt32) (One.val rfl) (One.val rfl) (One.val rfl) (One.u) hx hby hml hown hret hlk hZ hS hk  C1251 e1259 (Stand.more X1259 (by decide) (by decide)) N1259 O1253 p1246_0 g_b1118 
      · skip
        refine GoS.of (T' := T1149) (f' := (mkF m 160 #[iv p0, .val (.long p1), .second, .val (.long p2), .second, rv b1118, iv pk, .unset, .unset, .unset, .unset] [])) (fun _ k => XS.icmpYes X1149.here hx rfl (pc0 := 152) (pc' := 160) rfl (D at_152) rfl (feq hc1198).2 (by decide) (by decide) k) ?_
        have f1264 : Exa Z h1149 b1118 "[C" := (Exa.wr W1149 f1151)
        have sp1263_b1118 : Safe Z own_EL s.vm h1149 b1118 := (Safe.exa hZ.alike f1264 (by decide) (by decide))
        obtain ⟨c1263, T1263, h1263, k11263, v1263, kc1263, X1263, e1263, E1263, hS, hk1263, hZ, hown, A1263, Fc1263, Fv1263, V1263, -, -, Cq1263, -, sn1263, st1263⟩ := ldcCH X1149 hx hZ hown (own_w hw (i := 41) rfl) (own_wS hw) e1149 hS hk hEL (by decide) C1150.1 (vs := [(.int 118), (.int 97), (.int 108), (.int 105), (.int 100), (.int 97), (.int 116), (.int 101)]) (z := (8 : Int32)) ⟨by decide +kernel, by decide +kernel⟩ (by decide) rfl (g := (mkF m 160 #[iv p0, .val (.long p1), .second, .val (.long p2), .second, rv b1118, iv pk, .unset, .unset, .unset, .unset] [])) rfl (D at_160) (n := 32) (by decide +kernel) (by decide) (by decide) (by decide)
        have O1263 := Old0.ext O1152 E1263
        have C1263 := CHr.trans C1150 Cq1263
        have hk := hk1263
        have sf1263_b1118 : Safe Z own_EL T1263.vm h1263 b1118 := CHr.safe Cq1263 f1264.lt sp1263_b1118
        have ne_b1118_c1263 : b1118 ≠ c1263 := (sn1263 b1118 sf1263_b1118).1
        have ne_b1118_v1263 : b1118 ≠ v1263 := (sn1263 b1118 sf1263_b1118).2
        have f1266 : Arv Z h1263 b1118 k1118 .char (8 : Int32) [(.int (p1.toInt32 &&& 255)), (.int (y1.toInt32 &&& 255)), (.int (y2.toInt32 &&& 255)), (.int (y3.toInt32 &&& 255)), (.int (y4.toInt32 &&& 255)), (.int (y5.toInt32 &&& 255)), (.int (y6.toInt32 &&& 255)), (.int (y7.toInt32 &&& 255))] (.int 0) := (Arv.ext f1149 E1263)
        obtain ⟨T1265, v1265, L1265, X1265, q1265, st1265⟩ := callSt X1263 hx hZ (y := own_m40) hown (own_w hw (i := 67) rfl) (own_w hw (i := 68) rfl) (own_w hw (i := 5) rfl) (own_w hw (i := 69) rfl) (by decide) (rm_put0 hw G b1118 c1263 v1263 kc1263 ((8 : Int32)) (([(118 : Int32), (97 : Int32), (108 : Int32), (105 : Int32), (100 : Int32), (97 : Int32), (116 : Int32), (101 : Int32)] : List Int32)) k1118 ((p1.toInt32 &&& 255)) ((y1.toInt32 &&& 255)) ((y2.toInt32 &&& 255)) ((y3.toInt32 &&& 255)) ((y4.toInt32 &&& 255)) ((y5.toInt32 &&& 255)) ((y6.toInt32 &&& 255)) ((y7.toInt32 &&& 255)) h1263 O1263 (by decide) A1263 Fv1263 Fc1263 V1263 (by decide) f1266 g_b1118) e1263 (W := 0) (by decide) (by decide) (by decide) (by decide) (g := (mkF m 169 #[iv p0, .val (.long p1), .second, .val (.long p2), .second, rv b1118, iv pk, .unset, rv c1263, .unset, .unset] [(.int 0), (.ref c1263), (.ref b1118)])) rfl (by rw [hml]; rfl) (argsL := [(.ref b1118), (.ref c1263), (.int 0)]) (rest := []) (lenOf pd54 rfl) rfl rfl (Nat.le_of_eq rfl) (D at_169)
        obtain ⟨r_1265, rfl, N1265q, K1265q, p1265_0⟩ := q1265
        have N1265 := Fr.app N1149 N1265q
        have f1268 : Exa Z h1263 b1118 "[C" := (Exa.ext E1263 f1264)
        have O1269 := Old0.keep O1263 K1265q (allS g_b1118 all0)
        have C1267 := CHr.trans C1263 (CHr.keep K1265q (sfS (Safe.exa hZ.alike f1268 (by decide) (by decide)) sf0) C1263.1)
        have hk := Nat.le_trans hk K1265q.1
        have f1271 : Exa Z T1265.heap c1263 "java/lang/String" := (Exa.keep A1263 K1265q)
        have f1272 : Fld Z T1265.heap c1263 "java/lang/String" "value" "[B" (.ref v1263) := (Fld.keep Fv1263 K1265q (ninS (Ne.symm ne_b1118_c1263) nin0))
        have f1273 : Fld Z T1265.heap c1263 "java/lang/String" "coder" "B" (.int 0) := (Fld.keep Fc1263 K1265q (ninS (Ne.symm ne_b1118_c1263) nin0))
        have f1274 : Arv Z T1265.heap v1263 kc1263 .byte (8 : Int32) [(.int 118), (.int 97), (.int 108), (.int 105), (.int 100), (.int 97), (.int 116), (.int 101)] (.int 0) := (Arv.keep V1263 K1265q (ninS (Ne.symm ne_b1118_v1263) nin0))
        obtain ⟨T1270, v1270, L1270, X1270, q1270, st1270⟩ := callSt X1265 hx hZ (y := own_m40) hown (own_w hw (i := 67) rfl) (own_w hw (i := 68) rfl) (own_w hw (i := 5) rfl) (own_w hw (i := 69) rfl) (by decide) (rm_put1 hw G b1118 c1263 v1263 kc1263 ((8 : Int32)) (([(118 : Int32), (97 : Int32), (108 : Int32), (105 : Int32), (100 : Int32), (97 : Int32), (116 : Int32), (101 : Int32)] : List Int32)) k1118 ((r_1265 &&& 255)) ((y1.toInt32 &&& 255)) ((y2.toInt32 &&& 255)) ((y3.toInt32 &&& 255)) ((y4.toInt32 &&& 255)) ((y5.toInt32 &&& 255)) ((y6.toInt32 &&& 255)) ((y7.toInt32 &&& 255)) T1265.heap O1269 (by decide) f1271 f1272 f1273 f1274 (by decide) p1265_0 g_b1118) rfl (W := 0) (by decide) (by decide) (by decide) (by decide) (g := (mkF m 177 #[iv p0, .val (.long p1), .second, .val (.long p2), .second, rv b1118, iv pk, .unset, rv c1263, .unset, .unset] [(.int 1), (.ref c1263), (.ref b1118)])) rfl (by rw [hml]; rfl) (argsL := [(.ref b1118), (.ref c1263), (.int 1)]) (rest := []) (lenOf pd54 rfl) rfl rfl (Nat.le_of_eq rfl) (D at_177)
        obtain ⟨r_1270, rfl, N1270q, K1270q, p1270_0⟩ := q1270
        have N1270 := Fr.app N1265 N1270q
        have f1276 : Exa Z T1265.heap b1118 "[C" := (Exa.keep f1268 K1265q)
        have O1277 := Old0.keep O1269 K1270q (allS g_b1118 all0)
        have C1275 := CHr.trans C1267 (CHr.keep K1270q (sfS (Safe.exa hZ.alike f1276 (by decide) (by decide)) sf0) C1267.1)
        have hk := Nat.le_trans hk K1270q.1
        have f1279 : Exa Z T1270.heap c1263 "java/lang/String" := (Exa.keep f1271 K1270q)
        have f1280 : Fld Z T1270.heap c1263 "java/lang/String" "value" "[B" (.ref v1263) := (Fld.keep f1272 K1270q (ninS (Ne.symm ne_b1118_c1263) nin0))
        have f1281 : Fld Z T1270.heap c1263 "java/lang/String" "coder" "B" (.int 0) := (Fld.keep f1273 K1270q (ninS (Ne.symm ne_b1118_c1263) nin0))
        have f1282 : Arv Z T1270.heap v1263 kc1263 .byte (8 : Int32) [(.int 118), (.int 97), (.int 108), (.int 105), (.int 100), (.int 97), (.int 116), (.int 101)] (.int 0) := (Arv.keep f1274 K1270q (ninS (Ne.symm ne_b1118_v1263) nin0))
        obtain ⟨T1278, v1278, L1278, X1278, q1278, st1278⟩ := callSt X1270 hx hZ (y := own_m40) hown (own_w hw (i := 67) rfl) (own_w hw (i := 68) rfl) (own_w hw (i := 5) rfl) (own_w hw (i := 69) rfl) (by decide) (rm_put2 hw G b1118 c1263 v1263 kc1263 ((8 : Int32)) (([(118 : Int32), (97 : Int32), (108 : Int32), (105 : Int32), (100 : Int32), (97 : Int32), (116 : Int32), (101 : Int32)] : List Int32)) k1118 ((r_1265 &&& 255)) ((r_1270 &&& 255)) ((y2.toInt32 &&& 255)) ((y3.toInt32 &&& 255)) ((y4.toInt32 &&& 255)) ((y5.toInt32 &&& 255)) ((y6.toInt32 &&& 255)) ((y7.toInt32 &&& 255)) T1270.heap O1277 (by decide) f1279 f1280 f1281 f1282 (by decide) p1270_0 g_b1118) rfl (W := 0) (by decide) (by decide) (by decide) (by decide) (g := (mkF m 185 #[iv p0, .val (.long p1), .second, .val (.long p2), .second, rv b1118, iv pk, .unset, rv c1263, .unset, .unset] [(.int 2), (.ref c1263), (.ref b1118)])) rfl (by rw [hml]; rfl) (argsL := [(.ref b1118), (.ref c1263), (.int 2)]) (rest := []) (lenOf pd54 rfl) rfl rfl (Nat.le_of_eq rfl) (D at_185)
        obtain ⟨r_1278, rfl, N1278q, K1278q, p1278_0⟩ := q1278
        have N1278 := Fr.app N1270 N1278q
        have f1284 : Exa Z T1270.heap b1118 "[C" := (Exa.keep f1276 K1270q)
        have O1285 := Old0.keep O1277 K1278q (allS g_b1118 all0)
        have C1283 := CHr.trans C1275 (CHr.keep K1278q (sfS (Safe.exa hZ.alike f1284 (by decide) (by decide)) sf0) C1275.1)
        have hk := Nat.le_trans hk K1278q.1
        have f1287 : Exa Z T1278.heap c1263 "java/lang/String" := (Exa.keep f1279 K1278q)
        have f1288 : Fld Z T1278.heap c1263 "java/lang/String" "value" "[B" (.ref v1263) := (Fld.keep f1280 K1278q (ninS (Ne.symm ne_b1118_c1263) nin0))
        have f1289 : Fld Z T1278.heap c1263 "java/lang/String" "coder" "B" (.int 0) := (Fld.keep f1281 K1278q (ninS (Ne.symm ne_b1118_c1263) nin0))
        have f1290 : Arv Z T1278.heap v1263 kc1263 .byte (8 : Int32) [(.int 118), (.int 97), (.int 108), (.int 105), (.int 100), (.int 97), (.int 116), (.int 101)] (.int 0) := (Arv.keep f1282 K1278q (ninS (Ne.symm ne_b1118_v1263) nin0))
        obtain ⟨T1286, v1286, L1286, X1286, q1286, st1286⟩ := callSt X1278 hx hZ (y := own_m40) hown (own_w hw (i := 67) rfl) (own_w hw (i := 68) rfl) (own_w hw (i := 5) rfl) (own_w hw (i := 69) rfl) (by decide) (rm_put3 hw G b1118 c1263 v1263 kc1263 ((8 : Int32)) (([(118 : Int32), (97 : Int32), (108 : Int32), (105 : Int32), (100 : Int32), (97 : Int32), (116 : Int32), (101 : Int32)] : List Int32)) k1118 ((r_1265 &&& 255)) ((r_1270 &&& 255)) ((r_1278 &&& 255)) ((y3.toInt32 &&& 255)) ((y4.toInt32 &&& 255)) ((y5.toInt32 &&& 255)) ((y6.toInt32 &&& 255)) ((y7.toInt32 &&& 255)) T1278.heap O1285 (by decide) f1287 f1288 f1289 f1290 (by decide) p1278_0 g_b1118) rfl (W := 0) (by decide) (by decide) (by decide) (by decide) (g := (mkF m 193 #[iv p0, .val (.long p1), .second, .val (.long p2), .second, rv b1118, iv pk, .unset, rv c1263, .unset, .unset] [(.int 3), (.ref c1263), (.ref b1118)])) rfl (by rw [hml]; rfl) (argsL := [(.ref b1118), (.ref c1263), (.int 3)]) (rest := []) (lenOf pd54 rfl) rfl rfl (Nat.le_of_eq rfl) (D at_193)
        obtain ⟨r_1286, rfl, N1286q, K1286q, p1286_0⟩ := q1286
        have N1286 := Fr.app N1278 N1286q
        have f1292 : Exa Z T1278.heap b1118 "[C" := (Exa.keep f1284 K1278q)
        have O1293 := Old0.keep O1285 K1286q (allS g_b1118 all0)
        have C1291 := CHr.trans C1283 (CHr.keep K1286q (sfS (Safe.exa hZ.alike f1292 (by decide) (by decide)) sf0) C1283.1)
        have hk := Nat.le_trans hk K1286q.1
        have f1295 : Exa Z T1286.heap c1263 "java/lang/String" := (Exa.keep f1287 K1286q)
        have f1296 : Fld Z T1286.heap c1263 "java/lang/String" "value" "[B" (.ref v1263) := (Fld.keep f1288 K1286q (ninS (Ne.symm ne_b1118_c1263) nin0))
        have f1297 : Fld Z T1286.heap c1263 "java/lang/String" "coder" "B" (.int 0) := (Fld.keep f1289 K1286q (ninS (Ne.symm ne_b1118_c1263) nin0))
        have f1298 : Arv Z T1286.heap v1263 kc1263 .byte (8 : Int32) [(.int 118), (.int 97), (.int 108), (.int 105), (.int 100), (.int 97), (.int 116), (.int 101)] (.int 0) := (Arv.keep f1290 K1286q (ninS (Ne.symm ne_b1118_v1263) nin0))
        obtain ⟨T1294, v1294, L1294, X1294, q1294, st1294⟩ := callSt X1286 hx hZ (y := own_m40) hown (own_w hw (i := 67) rfl) (own_w hw (i := 68) rfl) (own_w hw (i := 5) rfl) (own_w hw (i := 69) rfl) (by decide) (rm_put4 hw G b1118 c1263 v1263 kc1263 ((8 : Int32)) (([(118 : Int32), (97 : Int32), (108 : Int32), (105 : Int32), (100 : Int32), (97 : Int32), (116 : Int32), (101 : Int32)] : List Int32)) k1118 ((r_1265 &&& 255)) ((r_1270 &&& 255)) ((r_1278 &&& 255)) ((r_1286 &&& 255)) ((y4.toInt32 &&& 255)) ((y5.toInt32 &&& 255)) ((y6.toInt32 &&& 255)) ((y7.toInt32 &&& 255)) T1286.heap O1293 (by decide) f1295 f1296 f1297 f1298 (by decide) p1286_0 g_b1118) rfl (W := 0) (by decide) (by decide) (by decide) (by decide) (g := (mkF m 201 #[iv p0, .val (.long p1), .second, .val (.long p2), .second, rv b1118, iv pk, .unset, rv c1263, .unset, .unset] [(.int 4), (.ref c1263), (.ref b1118)])) rfl (by rw [hml]; rfl) (argsL := [(.ref b1118), (.ref c1263), (.int 4)]) (rest := []) (lenOf pd54 rfl) rfl rfl (Nat.le_of_eq rfl) (D at_201)
        obtain ⟨r_1294, rfl, N1294q, K1294q, p1294_0⟩ := q1294
        have N1294 := Fr.app N1286 N1294q
        have f1300 : Exa Z T1286.heap b1118 "[C" := (Exa.keep f1292 K1286q)
        have O1301 := Old0.keep O1293 K1294q (allS g_b1118 all0)
        have C1299 := CHr.trans C1291 (CHr.keep K1294q (sfS (Safe.exa hZ.alike f1300 (by decide) (by decide)) sf0) C1291.1)
        have hk := Nat.le_trans hk K1294q.1
        refine GoS.of (T' := T1294) (f' := (mkF m 208 #[iv p0, .val (.long p1), .second, .val (.long p2), .second, rv b1118, iv pk, .unset, rv c1263, .unset, .unset] [(.ref c1263), (.ref b1118)])) (fun _ k => st1263 _ (XS.astore X1263.here hx rfl (D at_162) rfl rfl (l' := #[iv p0, .val (.long p1), .second, .val (.long p2), .second, rv b1118, iv pk, .unset, rv c1263, .unset, .unset]) rfl (XS.aload X1263.here hx rfl (D at_164) rfl rfl (XS.aload X1263.here hx rfl (D at_166) rfl rfl (XS.iconst X1263.here hx rfl (D at_168) (st1265 _ (XS.aload X1265.here hx rfl (D at_172) rfl rfl (XS.aload X1265.here hx rfl (D at_174) rfl rfl (XS.iconst X1265.here hx rfl (D at_176) (st1270 _ (XS.aload X1270.here hx rfl (D at_180) rfl rfl (XS.aload X1270.here hx rfl (D at_182) rfl rfl (XS.iconst X1270.here hx rfl (D at_184) (st1278 _ (XS.aload X1278.here hx rfl (D at_188) rfl rfl (XS.aload X1278.here hx rfl (D at_190) rfl rfl (XS.iconst X1278.here hx rfl (D at_192) (st1286 _ (XS.aload X1286.here hx rfl (D at_196) rfl rfl (XS.aload X1286.here hx rfl (D at_198) rfl rfl (XS.iconst X1286.here hx rfl (D at_200) (st1294 _ (XS.aload X1294.here hx rfl (D at_204) rfl rfl (XS.aload X1294.here hx rfl (D at_206) rfl rfl k)))))))))))))))))))))))) ?_
        have f1303 : Exa Z T1294.heap c1263 "java/lang/String" := (Exa.keep f1295 K1294q)
        have f1304 : Fld Z T1294.heap c1263 "java/lang/String" "value" "[B" (.ref v1263) := (Fld.keep f1296 K1294q (ninS (Ne.symm ne_b1118_c1263) nin0))
        have f1305 : Fld Z T1294.heap c1263 "java/lang/String" "coder" "B" (.int 0) := (Fld.keep f1297 K1294q (ninS (Ne.symm ne_b1118_c1263) nin0))
        have f1306 : Arv Z T1294.heap v1263 kc1263 .byte (8 : Int32) [(.int 118), (.int 97), (.int 108), (.int 105), (.int 100), (.int 97), (.int 116), (.int 101)] (.int 0) := (Arv.keep f1298 K1294q (ninS (Ne.symm ne_b1118_v1263) nin0))
        obtain ⟨T1302, v1302, L1302, X1302, q1302, st1302⟩ := callSt X1294 hx hZ (y := own_m40) hown (own_w hw (i := 67) rfl) (own_w hw (i := 68) rfl) (own_w hw (i := 5) rfl) (own_w hw (i := 69) rfl) (by decide) (rm_put5 hw G b1118 c1263 v1263 kc1263 ((8 : Int32)) (([(118 : Int32), (97 : Int32), (108 : Int32), (105 : Int32), (100 : Int32), (97 : Int32), (116 : Int32), (101 : Int32)] : List Int32)) k1118 ((r_1265 &&& 255)) ((r_1270 &&& 255)) ((r_1278 &&& 255)) ((r_1286 &&& 255)) ((r_1294 &&& 255)) ((y5.toInt32 &&& 255)) ((y6.toInt32 &&& 255)) ((y7.toInt32 &&& 255)) T1294.heap O1301 (by decide) f1303 f1304 f1305 f1306 (by decide) p1294_0 g_b1118) rfl (W := 0) (by decide) (by decide) (by decide) (by decide) (g := (mkF m 209 #[iv p0, .val (.long p1), .second, .val (.long p2), .second, rv b1118, iv pk, .unset, rv c1263, .unset, .unset] [(.int 5), (.ref c1263), (.ref b1118)])) rfl (by rw [hml]; rfl) (argsL := [(.ref b1118), (.ref c1263), (.int 5)]) (rest := []) (lenOf pd54 rfl) rfl rfl (Nat.le_of_eq rfl) (D at_209)
        obtain ⟨r_1302, rfl, N1302q, K1302q, p1302_0⟩ := q1302
        have N1302 := Fr.app N1294 N1302q
        have f1308 : Exa Z T1294.heap b1118 "[C" := (Exa.keep f1300 K1294q)
        have O1309 := Old0.keep O1301 K1302q (allS g_b1118 all0)
        have C1307 := CHr.trans C1299 (CHr.keep K1302q (sfS (Safe.exa hZ.alike f1308 (by decide) (by decide)) sf0) C1299.1)
        have hk := Nat.le_trans hk K1302q.1
        have f1311 : Exa Z T1302.heap c1263 "java/lang/String" := (Exa.keep f1303 K1302q)
        have f1312 : Fld Z T1302.heap c1263 "java/lang/String" "value" "[B" (.ref v1263) := (Fld.keep f1304 K1302q (ninS (Ne.symm ne_b1118_c1263) nin0))
        have f1313 : Fld Z T1302.heap c1263 "java/lang/String" "coder" "B" (.int 0) := (Fld.keep f1305 K1302q (ninS (Ne.symm ne_b1118_c1263) nin0))
        have f1314 : Arv Z T1302.heap v1263 kc1263 .byte (8 : Int32) [(.int 118), (.int 97), (.int 108), (.int 105), (.int 100), (.int 97), (.int 116), (.int 101)] (.int 0) := (Arv.keep f1306 K1302q (ninS (Ne.symm ne_b1118_v1263) nin0))
        obtain ⟨T1310, v1310, L1310, X1310, q1310, st1310⟩ := callSt X1302 hx hZ (y := own_m40) hown (own_w hw (i := 67) rfl) (own_w hw (i := 68) rfl) (own_w hw (i := 5) rfl) (own_w hw (i := 69) rfl) (by decide) (rm_put6 hw G b1118 c1263 v1263 kc1263 ((8 : Int32)) (([(118 : Int32), (97 : Int32), (108 : Int32), (105 : Int32), (100 : Int32), (97 : Int32), (116 : Int32), (101 : Int32)] : List Int32)) k1118 ((r_1265 &&& 255)) ((r_1270 &&& 255)) ((r_1278 &&& 255)) ((r_1286 &&& 255)) ((r_1294 &&& 255)) ((r_1302 &&& 255)) ((y6.toInt32 &&& 255)) ((y7.toInt32 &&& 255)) T1302.heap O1309 (by decide) f1311 f1312 f1313 f1314 (by decide) p1302_0 g_b1118) rfl (W := 0) (by decide) (by decide) (by decide) (by decide) (g := (mkF m 218 #[iv p0, .val (.long p1), .second, .val (.long p2), .second, rv b1118, iv pk, .unset, rv c1263, .unset, .unset] [(.int 6), (.ref c1263), (.ref b1118)])) rfl (by rw [hml]; rfl) (argsL := [(.ref b1118), (.ref c1263), (.int 6)]) (rest := []) (lenOf pd54 rfl) rfl rfl (Nat.le_of_eq rfl) (D at_218)
        obtain ⟨r_1310, rfl, N1310q, K1310q, p1310_0⟩ := q1310
        have N1310 := Fr.app N1302 N1310q
        have f1316 : Exa Z T1302.heap b1118 "[C" := (Exa.keep f1308 K1302q)
        have O1317 := Old0.keep O1309 K1310q (allS g_b1118 all0)
        have C1315 := CHr.trans C1307 (CHr.keep K1310q (sfS (Safe.exa hZ.alike f1316 (by decide) (by decide)) sf0) C1307.1)
        have hk := Nat.le_trans hk K1310q.1
        have f1319 : Exa Z T1310.heap c1263 "java/lang/String" := (Exa.keep f1311 K1310q)
        have f1320 : Fld Z T1310.heap c1263 "java/lang/String" "value" "[B" (.ref v1263) := (Fld.keep f1312 K1310q (ninS (Ne.symm ne_b1118_c1263) nin0))
        have f1321 : Fld Z T1310.heap c1263 "java/lang/String" "coder" "B" (.int 0) := (Fld.keep f1313 K1310q (ninS (Ne.symm ne_b1118_c1263) nin0))
        have f1322 : Arv Z T1310.heap v1263 kc1263 .byte (8 : Int32) [(.int 118), (.int 97), (.int 108), (.int 105), (.int 100), (.int 97), (.int 116), (.int 101)] (.int 0) := (Arv.keep f1314 K1310q (ninS (Ne.symm ne_b1118_v1263) nin0))
        obtain ⟨T1318, v1318, L1318, X1318, q1318, st1318⟩ := callSt X1310 hx hZ (y := own_m40) hown (own_w hw (i := 67) rfl) (own_w hw (i := 68) rfl) (own_w hw (i := 5) rfl) (own_w hw (i := 69) rfl) (by decide) (rm_put7 hw G b1118 c1263 v1263 kc1263 ((8 : Int32)) (([(118 : Int32), (97 : Int32), (108 : Int32), (105 : Int32), (100 : Int32), (97 : Int32), (116 : Int32), (101 : Int32)] : List Int32)) k1118 ((r_1265 &&& 255)) ((r_1270 &&& 255)) ((r_1278 &&& 255)) ((r_1286 &&& 255)) ((r_1294 &&& 255)) ((r_1302 &&& 255)) ((r_1310 &&& 255)) ((y7.toInt32 &&& 255)) T1310.heap O1317 (by decide) f1319 f1320 f1321 f1322 (by decide) p1310_0 g_b1118) rfl (W := 0) (by decide) (by decide) (by decide) (by decide) (g := (mkF m 227 #[iv p0, .val (.long p1), .second, .val (.long p2), .second, rv b1118, iv pk, .unset, rv c1263, .unset, .unset] [(.int 7), (.ref c1263), (.ref b1118)])) rfl (by rw [hml]; rfl) (argsL := [(.ref b1118), (.ref c1263), (.int 7)]) (rest := []) (lenOf pd54 rfl) rfl rfl (Nat.le_of_eq rfl) (D at_227)
        obtain ⟨r_1318, rfl, N1318q, K1318q, p1318_0⟩ := q1318
        have N1318 := Fr.app N1310 N1318q
        have f1324 : Exa Z T1310.heap b1118 "[C" := (Exa.keep f1316 K1310q)
        have O1325 := Old0.keep O1317 K1318q (allS g_b1118 all0)
        have C1323 := CHr.trans C1315 (CHr.keep K1318q (sfS (Safe.exa hZ.alike f1324 (by decide) (by decide)) sf0) C1315.1)
        have hk := Nat.le_trans hk K1318q.1
        have f1327 : Exa Z T1318.heap c1263 "java/lang/String" := (Exa.keep f1319 K1318q)
        have f1328 : Fld Z T1318.heap c1263 "java/lang/String" "value" "[B" (.ref v1263) := (Fld.keep f1320 K1318q (ninS (Ne.symm ne_b1118_c1263) nin0))
        have f1329 : Fld Z T1318.heap c1263 "java/lang/String" "coder" "B" (.int 0) := (Fld.keep f1321 K1318q (ninS (Ne.symm ne_b1118_c1263) nin0))
        have f1330 : Arv Z T1318.heap v1263 kc1263 .byte (8 : Int32) [(.int 118), (.int 97), (.int 108), (.int 105), (.int 100), (.int 97), (.int 116), (.int 101)] (.int 0) := (Arv.keep f1322 K1318q (ninS (Ne.symm ne_b1118_v1263) nin0))
        obtain ⟨T1326, v1326, L1326, X1326, q1326, st1326⟩ := callVi X1318 hx hZ (y := own_m36) (z := own_m36) hown (own_w hw (i := 70) rfl) (own_w hw (i := 71) rfl) (notFace_of_selects (args := #[]) (mvT hZ (own_w hw (i := 73) rfl))) (own_w hw (i := 73) rfl) (own_w hw (i := 72) rfl) (own_w hw (i := 74) rfl) (own_w hw (i := 9) rfl) (by decide) (rm_len hw G c1263 v1263 kc1263 ((8 : Int32)) (([(118 : Int32), (97 : Int32), (108 : Int32), (105 : Int32), (100 : Int32), (97 : Int32), (116 : Int32), (101 : Int32)] : List Int32)) T1318.heap O1325 f1327 f1328 f1329 f1330 (by first | decide | assumption | omega)) rfl (W := 0) (by decide) (by decide) (by decide) (by decide) f1327 (g := (mkF m 232 #[iv p0, .val (.long p1), .second, .val (.long p2), .second, rv b1118, iv pk, .unset, rv c1263, .unset, .unset] [(.ref c1263)])) rfl (by rw [hml]; rfl) (argsL := []) (rest := []) (lenOf pd38 rfl) rfl rfl (Nat.le_of_eq rfl) (D at_232)
        obtain ⟨rfl, e1326, rfl⟩ := q1326
        have N1326 := Fr.app N1318 (Fr.nil _)
        refine GoS.of (T' := T1326) (f' := (mkF m 246 #[iv p0, .val (.long p1), .second, .val (.long p2), .second, rv b1118, iv pk, iv 8, rv c1263, .unset, .unset] [(.int ((((p2.toUInt64 >>> ((12 : Int32) &&& 0x3f).toInt64.toUInt64).toInt64) &&& (3 : Int64)).toInt32))])) (fun _ k => XS.iconst X1294.here hx rfl (D at_208) (st1302 _ (XS.aload X1302.here hx rfl (D at_212) rfl rfl (XS.aload X1302.here hx rfl (D at_214) rfl rfl (XS.bipush X1302.here hx rfl (D at_216) (st1310 _ (XS.aload X1310.here hx rfl (D at_221) rfl rfl (XS.aload X1310.here hx rfl (D at_223) rfl rfl (XS.bipush X1310.here hx rfl (D at_225) (st1318 _ (XS.aload X1318.here hx rfl (D at_230) rfl rfl (st1326 _ (XS.istore X1326.here hx rfl (D at_235) rfl (l' := #[iv p0, .val (.long p1), .second, .val (.long p2), .second, rv b1118, iv pk, iv 8, rv c1263, .unset, .unset]) rfl (XS.lloadN X1326.here hx rfl (D at_237) rfl (XS.bipush X1326.here hx rfl (D at_238) (XS.lushr X1326.here hx rfl (D at_240) rfl (X1326.ldc2Long hx hown (mvT hZ (own_w hw (i := 101) rfl)) (g := (mkF m 241 #[iv p0, .val (.long p1), .second, .val (.long p2), .second, rv b1118, iv pk, iv 8, rv c1263, .unset, .unset] [(.long ((p2.toUInt64 >>> ((12 : Int32) &&& 0x3f).toInt64.toUInt64).toInt64))])) rfl (D at_241) _ (XS.land X1326.here hx rfl (D at_244) rfl (XS.l2i X1326.here hx rfl (D at_245) rfl k))))))))))))))))))) ?_
        generalize hed : (((((p2.toUInt64 >>> ((12 : Int32) &&& 0x3f).toInt64.toUInt64).toInt64) &&& (3 : Int64)).toInt32) : Int32) = ed
        refine GoS.of (T' := T1326) (f' := (mkF m 251 #[iv p0, .val (.long p1), .second, .val (.long p2), .second, rv b1118, iv pk, iv 8, rv c1263, iv ed, .unset] [(.int 1), (.int ed)])) (fun _ k => XS.istore X1326.here hx rfl (D at_246) rfl (l' := #[iv p0, .val (.long p1), .second, .val (.long p2), .second, rv b1118, iv pk, iv 8, rv c1263, iv ed, .unset]) rfl (XS.iload X1326.here hx rfl (D at_248) rfl (XS.iconst X1326.here hx rfl (D at_250) k))) ?_
        by_cases hc1331 : ed = (1 : Int32)
        · skip
          refine GoS.of (T' := T1326) (f' := (mkF m 280 #[iv p0, .val (.long p1), .second, .val (.long p2), .second, rv b1118, iv pk, iv 7, rv c1263, iv ed, .unset] [])) (fun _ k => XS.icmpNo X1326.here hx rfl (D at_251) rfl (teq hc1331).2 (XS.iload X1326.here hx rfl (D at_254) rfl (XS.iconst X1326.here hx rfl (D at_256) (XS.isub X1326.here hx rfl (D at_257) rfl (XS.istore X1326.here hx rfl (D at_258) rfl (l' := #[iv p0, .val (.long p1), .second, .val (.long p2), .second, rv b1118, iv pk, iv 7, rv c1263, iv ed, .unset]) rfl (XS.goto X1326.here hx rfl (pc0 := 260) (pc' := 280) rfl (D at_260) (by decide) (by decide) k)))))) ?_
          exact rm_u7 hw G p0 p1 p2 (b1118) (k1118) (r_1265) (r_1270) (r_1278) (r_1286) (r_1294) (r_1302) (r_1310) (r_1318) (One.val rfl) (One.val rfl) (One.val rfl) (One.u) hx hby hml hown hret hlk hZ hS hk  C1323 e1326 (Stand.more X1326 (by decide) (by decide)) N1326 O1325 p1318_0 g_b1118 
        · skip
          refine GoS.of (T' := T1326) (f' := (mkF m 266 #[iv p0, .val (.long p1), .second, .val (.long p2), .second, rv b1118, iv pk, iv 8, rv c1263, iv ed, .unset] [(.int 2), (.int ed)])) (fun _ k => XS.icmpYes X1326.here hx rfl (pc0 := 251) (pc' := 263) rfl (D at_251) rfl (feq hc1331).2 (by decide) (by decide) (XS.iload X1326.here hx rfl (D at_263) rfl (XS.iconst X1326.here hx rfl (D at_265) k))) ?_
          by_cases hc1332 : ed = (2 : Int32)
          · skip
            obtain ⟨T1333, v1333, L1333, X1333, q1333, st1333⟩ := callSt X1326 hx hZ (y := own_m42) hown (own_w hw (i := 112) rfl) (own_w hw (i := 113) rfl) (own_w hw (i := 114) rfl) (own_w hw (i := 115) rfl) (by decide) (rm_min9 hw G   T1318.heap O1325 ) e1326 (W := 0) (by decide) (by decide) (by decide) (by decide) (g := (mkF m 275 #[iv p0, .val (.long p1), .second, .val (.long p2), .second, rv b1118, iv pk, iv 8, rv c1263, iv ed, .unset] [(.int 9), (.int 8)])) rfl (by rw [hml]; rfl) (argsL := [(.int 8), (.int 9)]) (rest := []) (lenOf pd55 rfl) rfl rfl (Nat.le_of_eq rfl) (D at_275)
            obtain ⟨rfl, e1333, rfl⟩ := q1333
            have N1333 := Fr.app N1326 (Fr.nil _)
            refine GoS.of (T' := T1333) (f' := (mkF m 280 #[iv p0, .val (.long p1), .second, .val (.long p2), .second, rv b1118, iv pk, iv 8, rv c1263, iv ed, .unset] [])) (fun _ k => XS.icmpNo X1326.here hx rfl (D at_266) rfl (teq hc1332).2 (XS.bipush X1326.here hx rfl (D at_269) (XS.iload X1326.here hx rfl (D at_271) rfl (XS.iconst X1326.here hx rfl (D at_273) (XS.iadd X1326.here hx rfl (D at_274) rfl (st1333 _ (XS.istore X1333.here hx rfl (D at_278) rfl (l' := #[iv p0, .val (.long p1), .second, .val (.long p2), .second, rv b1118, iv pk, iv 8, rv c1263, iv ed, .unset]) rfl k))))))) ?_
            exact rm_u8 hw G p0 p1 p2 (b1118) (k1118) (r_1265) (r_1270) (r_1278) (r_1286) (r_1294) (r_1302) (r_1310) (r_1318) (One.val rfl) (One.val rfl) (One.val rfl) (One.u) hx hby hml hown hret hlk hZ hS hk  C1323 e1333 (Stand.more X1333 (by decide) (by decide)) N1333 O1325 p1318_0 g_b1118 
          · skip
            refine GoS.of (T' := T1326) (f' := (mkF m 280 #[iv p0, .val (.long p1), .second, .val (.long p2), .second, rv b1118, iv pk, iv 8, rv c1263, iv ed, .unset] [])) (fun _ k => XS.icmpYes X1326.here hx rfl (pc0 := 266) (pc' := 280) rfl (D at_266) rfl (feq hc1332).2 (by decide) (by decide) k) ?_
            exact rm_u8 hw G p0 p1 p2 (b1118) (k1118) (r_1265) (r_1270) (r_1278) (r_1286) (r_1294) (r_1302) (r_1310) (r_1318) (One.val rfl) (One.val rfl) (One.val rfl) (One.u) hx hby hml hown hret hlk hZ hS hk  C1323 e1326 (Stand.more X1326 (by decide) (by decide)) N1326 O1325 p1318_0 g_b1118 
set_option maxRecDepth 65536 in
set_option maxHeartbeats 40000000 in
theorem comes_1 {Post : Tables → Env → Array Value → State → Outcome → State → Prop} (hpost : ∀ tb e args s v u, (limb_1_1.after args s (.returned v) u = true ∧ limb_1_2.after args s (.returned v) u = true ∧ True) → ReturnedEndW s (.returned v) u (Jvm.fieldLocs frame_1_writes args s ++ Jvm.arrayLocs frame_1_arrays args s ++ Jvm.staticLocs frame_1_statics s) 32 4288 → Post tb e args s (.returned v) u) :
    ArmFor flags0 classFile x code maxLocals ret World_1 tables_1 room_1 Calls_1 rest_1 Pre_1 Post := by
  intro l hfl _ _ p e ha hc hk s m args below hf hA hF happ hP
  obtain ⟨hcalls, hrest, hpre⟩ := hP
  obtain ⟨-, -, -, hnamed, -, -, -, hat⟩ := (Spec.applies_iff hf).mp happ
  obtain ⟨hg, hn⟩ := and_e (Cond.before_iff.mp (show (Jvm.Cond.and given_1 narrow_1).before args s = true from hpre))
  obtain ⟨ga0, gb0⟩ := and_e hg
  obtain ⟨ga1, gb1⟩ := and_e gb0
  obtain ⟨ga2, gb2⟩ := and_e gb1
  obtain ⟨w0, w1, w2, rfl⟩ : ∃ w0 w1 w2 : Value, args = #[w0, w1, w2] := by
    have hs : args.size = 3 := by simpa [Cond.value, given_1] using ga0
    obtain ⟨L⟩ := args
    match L, hs with
    | [w0, w1, w2], _ => exact ⟨w0, w1, w2, rfl⟩
  have hw := fun d (hd : d ∈ tables_1) => atoms_spec (ws := Jvm.Cond.code x code maxLocals ret :: tables_1) hat d (List.mem_cons_of_mem _ hd)
  have hfit : Fit s := fun {y c} hc i hi => by
    obtain ⟨ha, rfl⟩ := Array.getElem?_eq_some_iff.mp hc
    have q := List.all_eq_true.mp ((Array.all_eq_true_iff_forall_mem.mp hF) _ (Array.getElem_mem ha)) i (List.mem_range.mpr hi)
    simpa [Array.getElem?_eq_getElem hi] using q
  obtain ⟨hsets, hown0⟩ := atoms_of _ (rest_1_c_eq ▸ (show rest_1_c.before _ s = true from hrest))
  obtain ⟨i0, ei0⟩ := is_v ga1
  obtain rfl : w0 = (.int i0) := Option.some.inj ei0
  obtain ⟨i1, ei1⟩ := isL_v ga2
  obtain rfl : w1 = (.long i1) := Option.some.inj ei1
  obtain ⟨i2, ei2⟩ := isL_v gb2
  obtain rfl : w2 = (.long i2) := Option.some.inj ei2
  obtain ⟨na1, nb1⟩ := and_e hn
  obtain ⟨s__VALUES, ev_s__VALUES⟩ := arr_v na1
  have S__VALUES : Sta s s.heap "com/example/fair_index/fairindex/csw/ResultType" "$VALUES" "[Lcom/example/fair_index/fairindex/csw/ResultType;" (.ref s__VALUES) := Sta.start ev_s__VALUES (Or.inl (own_w hw (i := 61) rfl))
  obtain ⟨cl_s__VALUES, A_s__VALUES⟩ := Arr.start ev_s__VALUES na1
  obtain ⟨na2, nb2⟩ := and_e nb1
  have E_s__VALUES : Exa s s.heap s__VALUES "[Lcom/example/fair_index/fairindex/csw/ResultType;" := Exa.start ev_s__VALUES na2
  obtain ⟨na3, nb3⟩ := and_e nb2
  have ev3 := eqI_v na3
  obtain ⟨na5, nb5⟩ := and_e nb3
  obtain ⟨s_HITS, ev_s_HITS⟩ := exa_v na5
  have S_HITS : Sta s s.heap "com/example/fair_index/fairindex/csw/ResultType" "HITS" "Lcom/example/fair_index/fairindex/csw/ResultType;" (.ref s_HITS) := Sta.start ev_s_HITS (Or.inr ⟨(own_w hw (i := 44) rfl), (own_w hw (i := 58) rfl)⟩)
  have E_s_HITS : Exa s s.heap s_HITS "com/example/fair_index/fairindex/csw/ResultType" := Exa.start ev_s_HITS na5
  obtain ⟨na6, nb6⟩ := and_e nb5
  have ev6 := eqR_v ev_s_HITS na6
  obtain ⟨na8, nb8⟩ := and_e nb6
  obtain ⟨s_RESULTS, ev_s_RESULTS⟩ := exa_v na8
  have S_RESULTS : Sta s s.heap "com/example/fair_index/fairindex/csw/ResultType" "RESULTS" "Lcom/example/fair_index/fairindex/csw/ResultType;" (.ref s_RESULTS) := Sta.start ev_s_RESULTS (Or.inr ⟨(own_w hw (i := 44) rfl), (own_w hw (i := 59) rfl)⟩)
  have E_s_RESULTS : Exa s s.heap s_RESULTS "com/example/fair_index/fairindex/csw/ResultType" := Exa.start ev_s_RESULTS na8
  obtain ⟨na9, nb9⟩ := and_e nb8
  have ev9 := eqR_v ev_s_RESULTS na9
  obtain ⟨na11, nb11⟩ := and_e nb9
  obtain ⟨s_VALIDATE, ev_s_VALIDATE⟩ := exa_v na11
  have S_VALIDATE : Sta s s.heap "com/example/fair_index/fairindex/csw/ResultType" "VALIDATE" "Lcom/example/fair_index/fairindex/csw/ResultType;" (.ref s_VALIDATE) := Sta.start ev_s_VALIDATE (Or.inr ⟨(own_w hw (i := 44) rfl), (own_w hw (i := 60) rfl)⟩)
  have E_s_VALIDATE : Exa s s.heap s_VALIDATE "com/example/fair_index/fairindex/csw/ResultType" := Exa.start ev_s_VALIDATE na11
  obtain ⟨na12, nb12⟩ := and_e nb11
  have ev12 := eqR_v ev_s_VALIDATE na12
  obtain ⟨na14, nb14⟩ := and_e nb12
  obtain ⟨s_HITS_name, ev_s_HITS_name⟩ := exa_v na14
  have F_s_HITS_name : Fld s s.heap s_HITS "com/example/fair_index/fairindex/csw/ResultType" "name" "Ljava/lang/String;" (.ref s_HITS_name) := Fld.start ((fld_at ev_s_HITS).symm.trans ev_s_HITS_name)
  have E_s_HITS_name : Exa s s.heap s_HITS_name "java/lang/String" := Exa.start ev_s_HITS_name na14
  obtain ⟨na15, nb15⟩ := and_e nb14
  have ev15 := eqI_v na15
  have F_s_HITS_name_coder : Fld s s.heap s_HITS_name "java/lang/String" "coder" "B" (.int (0 : Int32)) := Fld.start ((fld_at ev_s_HITS_name).symm.trans ev15)
  obtain ⟨na17, nb17⟩ := and_e nb15
  obtain ⟨s_HITS_name_value, ev_s_HITS_name_value⟩ := arr_v na17
  have F_s_HITS_name_value : Fld s s.heap s_HITS_name "java/lang/String" "value" "[B" (.ref s_HITS_name_value) := Fld.start ((fld_at ev_s_HITS_name).symm.trans ev_s_HITS_name_value)
  obtain ⟨cl_s_HITS_name_value, A_s_HITS_name_value⟩ := Arr.start ev_s_HITS_name_value na17
  obtain ⟨na18, nb18⟩ := and_e nb17
  have ev18 := eqI_v na18
  obtain ⟨na20, nb20⟩ := and_e nb18
  obtain ⟨s_RESULTS_name, ev_s_RESULTS_name⟩ := exa_v na20
  have F_s_RESULTS_name : Fld s s.heap s_RESULTS "com/example/fair_index/fairindex/csw/ResultType" "name" "Ljava/lang/String;" (.ref s_RESULTS_name) := Fld.start ((fld_at ev_s_RESULTS).symm.trans ev_s_RESULTS_name)
  have E_s_RESULTS_name : Exa s s.heap s_RESULTS_name "java/lang/String" := Exa.start ev_s_RESULTS_name na20
  obtain ⟨na21, nb21⟩ := and_e nb20
  have ev21 := eqI_v na21
  have F_s_RESULTS_name_coder : Fld s s.heap s_RESULTS_name "java/lang/String" "coder" "B" (.int (0 : Int32)) := Fld.start ((fld_at ev_s_RESULTS_name).symm.trans ev21)
  obtain ⟨na23, nb23⟩ := and_e nb21
  obtain ⟨s_RESULTS_name_value, ev_s_RESULTS_name_value⟩ := arr_v na23
  have F_s_RESULTS_name_value : Fld s s.heap s_RESULTS_name "java/lang/String" "value" "[B" (.ref s_RESULTS_name_value) := Fld.start ((fld_at ev_s_RESULTS_name).symm.trans ev_s_RESULTS_name_value)
  obtain ⟨cl_s_RESULTS_name_value, A_s_RESULTS_name_value⟩ := Arr.start ev_s_RESULTS_name_value na23
  obtain ⟨na24, nb24⟩ := and_e nb23
  have ev24 := eqI_v na24
  obtain ⟨na26, nb26⟩ := and_e nb24
  obtain ⟨s_VALIDATE_name, ev_s_VALIDATE_name⟩ := exa_v na26
  have F_s_VALIDATE_name : Fld s s.heap s_VALIDATE "com/example/fair_index/fairindex/csw/ResultType" "name" "Ljava/lang/String;" (.ref s_VALIDATE_name) := Fld.start ((fld_at ev_s_VALIDATE).symm.trans ev_s_VALIDATE_name)
  have E_s_VALIDATE_name : Exa s s.heap s_VALIDATE_name "java/lang/String" := Exa.start ev_s_VALIDATE_name na26
  obtain ⟨na27, nb27⟩ := and_e nb26
  have ev27 := eqI_v na27
  have F_s_VALIDATE_name_coder : Fld s s.heap s_VALIDATE_name "java/lang/String" "coder" "B" (.int (0 : Int32)) := Fld.start ((fld_at ev_s_VALIDATE_name).symm.trans ev27)
  obtain ⟨na29, nb29⟩ := and_e nb27
  obtain ⟨s_VALIDATE_name_value, ev_s_VALIDATE_name_value⟩ := arr_v na29
  have F_s_VALIDATE_name_value : Fld s s.heap s_VALIDATE_name "java/lang/String" "value" "[B" (.ref s_VALIDATE_name_value) := Fld.start ((fld_at ev_s_VALIDATE_name).symm.trans ev_s_VALIDATE_name_value)
  obtain ⟨cl_s_VALIDATE_name_value, A_s_VALIDATE_name_value⟩ := Arr.start ev_s_VALIDATE_name_value na29
  obtain ⟨na30, nb30⟩ := and_e nb29
  have ev30 := eqI_v na30
  obtain ⟨na32, nb32⟩ := and_e nb30
  have ev32 := eqI_v na32
  obtain ⟨na34, nb34⟩ := and_e nb32
  have ev34 := eqI_v na34
  obtain ⟨na36, nb36⟩ := and_e nb34
  have ev36 := eqI_v na36
  obtain ⟨na38, nb38⟩ := and_e nb36
  have ev38 := eqI_v na38
  obtain ⟨na40, nb40⟩ := and_e nb38
  have ev40 := eqI_v na40
  obtain ⟨na42, nb42⟩ := and_e nb40
  have ev42 := eqI_v na42
  obtain ⟨na44, nb44⟩ := and_e nb42
  have ev44 := eqI_v na44
  obtain ⟨na46, nb46⟩ := and_e nb44
  have ev46 := eqI_v na46
  obtain ⟨na48, nb48⟩ := and_e nb46
  have ev48 := eqI_v na48
  obtain ⟨na50, nb50⟩ := and_e nb48
  have ev50 := eqI_v na50
  obtain ⟨na52, nb52⟩ := and_e nb50
  have ev52 := eqI_v na52
  obtain ⟨na54, nb54⟩ := and_e nb52
  have ev54 := eqI_v na54
  obtain ⟨na56, nb56⟩ := and_e nb54
  have ev56 := eqI_v na56
  obtain ⟨na58, nb58⟩ := and_e nb56
  have ev58 := eqI_v na58
  obtain ⟨na60, nb60⟩ := and_e nb58
  have ev60 := eqI_v na60
  obtain ⟨na62, nb62⟩ := and_e nb60
  have ev62 := eqI_v na62
  obtain ⟨na64, nb64⟩ := and_e nb62
  have ev64 := eqI_v na64
  obtain ⟨na66, nb66⟩ := and_e nb64
  have ev66 := eqI_v na66
  have ev67 := eqI_v nb66
  have js1 := Cond.before_iff.mp (hsets _ (List.mem_of_getElem? (i := 1) rfl))
  obtain ⟨s_COMPACT_STRINGS, ev_s_COMPACT_STRINGS⟩ := is_v js1
  have S_COMPACT_STRINGS : Sta s s.heap "java/lang/String" "COMPACT_STRINGS" "Z" (.int s_COMPACT_STRINGS) := Sta.start ev_s_COMPACT_STRINGS (Or.inl (hsets _ (List.mem_of_getElem? (i := 0) rfl)))
  have js2 := Cond.before_iff.mp (hsets _ (List.mem_of_getElem? (i := 2) rfl))
  have hne_s_COMPACT_STRINGS_0 : ¬ (s_COMPACT_STRINGS = (0 : Int32)) := neI_v ev_s_COMPACT_STRINGS js2
  obtain ⟨hl_s__VALUES, hz_s__VALUES⟩ := own_len ev_s__VALUES A_s__VALUES ev3
  have H_s__VALUES : HasL cl_s__VALUES 0 [(.ref s_HITS), (.ref s_RESULTS), (.ref s_VALIDATE)] := ⟨own_el ev_s__VALUES A_s__VALUES ev6, own_el ev_s__VALUES A_s__VALUES ev9, own_el ev_s__VALUES A_s__VALUES ev12, trivial⟩
  have V_s__VALUES : Arv s s.heap s__VALUES cl_s__VALUES.cls (.object "com/example/fair_index/fairindex/csw/ResultType") (3 : Int32) [(.ref s_HITS), (.ref s_RESULTS), (.ref s_VALIDATE)] .null := Arv.start hfit A_s__VALUES hl_s__VALUES hz_s__VALUES (by decide) rfl H_s__VALUES
  obtain ⟨hl_s_HITS_name_value, hz_s_HITS_name_value⟩ := own_len ev_s_HITS_name_value A_s_HITS_name_value ev18
  have H_s_HITS_name_value : HasL cl_s_HITS_name_value 0 [(.int (104 : Int32)), (.int (105 : Int32)), (.int (116 : Int32)), (.int (115 : Int32))] := ⟨own_el ev_s_HITS_name_value A_s_HITS_name_value ev32, own_el ev_s_HITS_name_value A_s_HITS_name_value ev34, own_el ev_s_HITS_name_value A_s_HITS_name_value ev36, own_el ev_s_HITS_name_value A_s_HITS_name_value ev38, trivial⟩
  have V_s_HITS_name_value : Arv s s.heap s_HITS_name_value cl_s_HITS_name_value.cls .byte (4 : Int32) [(.int (104 : Int32)), (.int (105 : Int32)), (.int (116 : Int32)), (.int (115 : Int32))] (.int (0 : Int32)) := Arv.start hfit A_s_HITS_name_value hl_s_HITS_name_value hz_s_HITS_name_value (by decide) rfl H_s_HITS_name_value
  obtain ⟨hl_s_RESULTS_name_value, hz_s_RESULTS_name_value⟩ := own_len ev_s_RESULTS_name_value A_s_RESULTS_name_value ev24
  have H_s_RESULTS_name_value : HasL cl_s_RESULTS_name_value 0 [(.int (114 : Int32)), (.int (101 : Int32)), (.int (115 : Int32)), (.int (117 : Int32)), (.int (108 : Int32)), (.int (116 : Int32)), (.int (115 : Int32))] := ⟨own_el ev_s_RESULTS_name_value A_s_RESULTS_name_value ev40, own_el ev_s_RESULTS_name_value A_s_RESULTS_name_value ev42, own_el ev_s_RESULTS_name_value A_s_RESULTS_name_value ev44, own_el ev_s_RESULTS_name_value A_s_RESULTS_name_value ev46, own_el ev_s_RESULTS_name_value A_s_RESULTS_name_value ev48, own_el ev_s_RESULTS_name_value A_s_RESULTS_name_value ev50, own_el ev_s_RESULTS_name_value A_s_RESULTS_name_value ev52, trivial⟩
  have V_s_RESULTS_name_value : Arv s s.heap s_RESULTS_name_value cl_s_RESULTS_name_value.cls .byte (7 : Int32) [(.int (114 : Int32)), (.int (101 : Int32)), (.int (115 : Int32)), (.int (117 : Int32)), (.int (108 : Int32)), (.int (116 : Int32)), (.int (115 : Int32))] (.int (0 : Int32)) := Arv.start hfit A_s_RESULTS_name_value hl_s_RESULTS_name_value hz_s_RESULTS_name_value (by decide) rfl H_s_RESULTS_name_value
  obtain ⟨hl_s_VALIDATE_name_value, hz_s_VALIDATE_name_value⟩ := own_len ev_s_VALIDATE_name_value A_s_VALIDATE_name_value ev30
  have H_s_VALIDATE_name_value : HasL cl_s_VALIDATE_name_value 0 [(.int (118 : Int32)), (.int (97 : Int32)), (.int (108 : Int32)), (.int (105 : Int32)), (.int (100 : Int32)), (.int (97 : Int32)), (.int (116 : Int32)), (.int (101 : Int32))] := ⟨own_el ev_s_VALIDATE_name_value A_s_VALIDATE_name_value ev54, own_el ev_s_VALIDATE_name_value A_s_VALIDATE_name_value ev56, own_el ev_s_VALIDATE_name_value A_s_VALIDATE_name_value ev58, own_el ev_s_VALIDATE_name_value A_s_VALIDATE_name_value ev60, own_el ev_s_VALIDATE_name_value A_s_VALIDATE_name_value ev62, own_el ev_s_VALIDATE_name_value A_s_VALIDATE_name_value ev64, own_el ev_s_VALIDATE_name_value A_s_VALIDATE_name_value ev66, own_el ev_s_VALIDATE_name_value A_s_VALIDATE_name_value ev67, trivial⟩
  have V_s_VALIDATE_name_value : Arv s s.heap s_VALIDATE_name_value cl_s_VALIDATE_name_value.cls .byte (8 : Int32) [(.int (118 : Int32)), (.int (97 : Int32)), (.int (108 : Int32)), (.int (105 : Int32)), (.int (100 : Int32)), (.int (97 : Int32)), (.int (116 : Int32)), (.int (101 : Int32))] (.int (0 : Int32)) := Arv.start hfit A_s_VALIDATE_name_value hl_s_VALIDATE_name_value hz_s_VALIDATE_name_value (by decide) rfl H_s_VALIDATE_name_value
  obtain ⟨s_SIO, ev_SIO, hr_SIO⟩ := isR_v (Cond.before_iff.mp (hsets _ (List.mem_of_getElem? (i := 8) rfl)))
  have S_SIO : Sta s s.heap "jdk/internal/util/Preconditions" "SIOOBE_FORMATTER" "Ljava/util/function/BiFunction;" s_SIO := Sta.start ev_SIO (Or.inl (hsets _ (List.mem_of_getElem? (i := 7) rfl)))
  have R_SIO : s_SIO = .null ∨ ∃ fa, s_SIO = .ref fa := ref_cases hr_SIO
  have hCH : CHv s own_EL s.vm s.heap := CHv.start (own_EW hw) (fun p hp => hcalls.1 p hp) (hsets _ (List.mem_of_getElem? (i := 2) rfl)) (own_w hw (i := 21) rfl) (own_w hw (i := 8) rfl)
  obtain ⟨n, o, h1, h2, h3, _, L, rfl, ⟨rfl, N⟩, -, hq⟩ := rm_law hw (A := fun n => ([s__VALUES, s_HITS, s_RESULTS, s_VALIDATE, s_HITS_name, s_HITS_name_value, s_RESULTS_name, s_RESULTS_name_value, s_VALIDATE_name, s_VALIDATE_name_value] : List Addr).getD n 0) (KC := fun n => ([cl_s__VALUES, cl_s_HITS_name_value, cl_s_RESULTS_name_value, cl_s_VALIDATE_name_value] : List Cell).getD n cl_s__VALUES) (IC := fun n => ([s_COMPACT_STRINGS] : List Int32).getD n 0) (VC := fun n => ([s_SIO] : List Value).getD n .null) ⟨S__VALUES, E_s__VALUES, S_HITS, E_s_HITS, S_RESULTS, E_s_RESULTS, S_VALIDATE, E_s_VALIDATE, F_s_HITS_name, E_s_HITS_name, F_s_HITS_name_coder, F_s_HITS_name_value, F_s_RESULTS_name, E_s_RESULTS_name, F_s_RESULTS_name_coder, F_s_RESULTS_name_value, F_s_VALIDATE_name, E_s_VALIDATE_name, F_s_VALIDATE_name_coder, F_s_VALIDATE_name_value, S_COMPACT_STRINGS, hne_s_COMPACT_STRINGS_0, V_s__VALUES, V_s_HITS_name_value, V_s_RESULTS_name_value, V_s_VALIDATE_name_value, S_SIO, R_SIO⟩ i0 i1 i2 s.heap ext_rfl tables_1 p e ha hc hk s m _ below hf ((Spec.applies_iff_loose hf).mp happ).1 ⟨rfl, State.Warmed39.refl s, rfl, hCH⟩ trivial
  refine ⟨n, _, h1, h2, h3, hpost _ _ _ _ _ _ ⟨Cond.after_iff.mpr rfl, Cond.after_iff.mpr (eq_i res_at (Term.int_eval (1)) rfl), trivial⟩ ⟨hq.1, hq.2.1, hq.2.2.1, (hq.2.2.2.sift fun y hy => Or.inr (N y hy)).mono (by decide) (by decide)⟩⟩
theorem main_1_1 : Claimed_1_1 := comes_1 fun _ _ _ _ _ _ h hF => ⟨h.1, hF⟩
theorem main_1_2 : Claimed_1_2 := comes_1 fun _ _ _ _ _ _ h hF => ⟨h.2.1, hF⟩
end Jvm.Pilot.@@N@@
namespace Jvm.Pilot.@@N@@
open Jvm Jvm.ClassFile Sem Op Lib Jvm.Free Jvm.Stand Jvm.Pilot.@@N@@.Jvm.D
/-! MADE BY PROGRAM (witnessworld.py) out of the Statement's table words and the real class files: 23 classes; the members and pool entries that the words name. The judged class is class 1, her method 1. -/
namespace start1
open Jvm.ClassFile
def u (s : String) : CpInfo := .utf8 (stringToUtf16 s)
/-- a pool by its gaps: so many unusable entries, then the entry; so many at the end -/
def gap : Nat → List CpInfo → List CpInfo
  | 0, r => r
  | n + 1, r => .unusable :: gap n r
def poolList (es : List (Nat × CpInfo)) (last : Nat) : List CpInfo := es.foldr (fun e r => gap e.1 (e.2 :: r)) (gap last [])
def pool (es : List (Nat × CpInfo)) (last : Nat) : Array CpInfo := ⟨poolList es last⟩
def fileOf (pool : Array CpInfo) (this : Nat) (attrs : Array Attribute := #[]) (ms : Array MethodInfo := #[]) (fl : Nat := 33) (sup : Nat := 0) (ifs : Array Nat := #[]) (fds : Array FieldInfo := #[]) : ClassFile where
  minorVersion := 0
  majorVersion := 65
  constantPool := pool
  accessFlags := fl
  thisClass := this
  superClass := sup
  interfaces := ifs
  fields := fds
  methods := ms
  attributes := attrs
def plain (name : String) (sup : Option ClassId) : Class where
  name := name
  kind := .ordinary
  loader := none
  accessFlags := 33
  super := sup
  interfaces := #[]
  cf := none
  fields := #[]
  methods := #[]
  instanceTypes := #[]
  staticTypes := #[]
  resolved := #[]
  callSites := []
  init := .initialized
  statics := none
  mirror := none

def pool0 : Array CpInfo := pool [(5, u "<init>"), (0, u "()V"), (1, .class_ 10), (1, u "java/lang/Object"), (85, u "clone"), (0, u "()Ljava/lang/Object;")] 26

def k0c0 : Code := { maxStack := 0, maxLocals := 1, code := object_method_1_code, exceptionTable := #[], attributes := #[] }
def k0m0 : Method := { name := "<init>", desc := "()V", sig := { parameters := [], returnType := none }, accessFlags := 1, code := some k0c0 }
def k0m1 : Method := { name := "clone", desc := "()Ljava/lang/Object;", sig := { parameters := [], returnType := some (.object "java/lang/Object") }, accessFlags := 260, code := none }
/-- java/lang/Object -/
def k0 : Class := { plain "java/lang/Object" none with
  accessFlags := 33
  interfaces := #[]
  cf := some (fileOf pool0 8 #[] #[{ accessFlags := 1, nameIndex := 5, descriptorIndex := 6, attributes := #[] }, { accessFlags := 260, nameIndex := 96, descriptorIndex := 97, attributes := #[] }] 33 0 #[] #[])
  fields := #[]
  methods := #[k0m0, k0m1]
  instanceTypes := #[]
  staticTypes := #[]
  resolved := Array.replicate 124 none
  statics := none }

def pool1 : Array CpInfo := pool [(2, .class_ 4), (1, u "java/lang/Object"), (0, u "<init>"), (0, u "()V"), (0, .long 255), (1, .string 10), (0, u "hits"), (0, .string 12), (0, u "results"), (0, .string 14), (0, u "validate"), (0, .methodref 16 17), (0, .class_ 18), (0, .nameAndType 19 20), (0, u "com/example/fair_index/fairindex/csw/ResultTypeNamedPinLaw"), (0, u "put"), (0, u "([CLjava/lang/String;I)V"), (0, .methodref 22 23), (0, .class_ 24), (0, .nameAndType 25 26), (0, u "java/lang/String"), (0, u "length"), (0, u "()I"), (0, .long 3), (1, .methodref 30 31), (0, .class_ 32), (0, .nameAndType 33 34), (0, u "java/lang/Math"), (0, u "min"), (0, u "(II)I"), (0, .long 15), (1, .methodref 16 38), (0, .nameAndType 39 40), (0, u "make"), (0, u "([CI)Ljava/lang/String;"), (0, .methodref 22 42), (0, .nameAndType 43 44), (0, u "equals"), (0, u "(Ljava/lang/Object;)Z"), (0, .fieldref 46 47), (0, .class_ 48), (0, .nameAndType 49 50), (0, u "com/example/fair_index/fairindex/csw/ResultType"), (0, u "HITS"), (0, u "Lcom/example/fair_index/fairindex/csw/ResultType;"), (0, .fieldref 46 52), (0, .nameAndType 53 50), (0, u "RESULTS"), (0, .fieldref 46 55), (0, .nameAndType 56 50), (0, u "VALIDATE"), (0, .methodref 46 58), (0, .nameAndType 59 60), (0, u "named"), (0, u "(Ljava/lang/String;)Lcom/example/fair_index/fairindex/csw/ResultType;"), (0, .methodref 22 62), (0, .nameAndType 63 64), (0, u "charAt"), (0, u "(I)C"), (0, .methodref 22 66), (0, .nameAndType 5 67), (0, u "([C)V"), (2, u "law"), (0, u "(IJJ)Z")] 5

def k1m0 : Method := { name := "<init>", desc := "()V", sig := { parameters := [], returnType := none }, accessFlags := 1, code := none }
def k1c1 : Code := { maxStack := 6, maxLocals := 11, code := code, exceptionTable := #[], attributes := #[] }
def k1m1 : Method := { name := "law", desc := "(IJJ)Z", sig := { parameters := [.int, .long, .long], returnType := some .boolean }, accessFlags := 9, code := some k1c1 }
def k1c2 : Code := { maxStack := 4, maxLocals := 3, code := method_3_code, exceptionTable := #[], attributes := #[] }
def k1m2 : Method := { name := "put", desc := "([CLjava/lang/String;I)V", sig := { parameters := [(.array .char), (.object "java/lang/String"), .int], returnType := none }, accessFlags := 10, code := some k1c2 }
def k1c3 : Code := { maxStack := 7, maxLocals := 2, code := method_4_code, exceptionTable := #[], attributes := #[] }
def k1m3 : Method := { name := "make", desc := "([CI)Ljava/lang/String;", sig := { parameters := [(.array .char), .int], returnType := some (.object "java/lang/String") }, accessFlags := 10, code := some k1c3 }
/-- com/example/fair_index/fairindex/csw/ResultTypeNamedPinLaw -/
def k1 : Class := { plain "com/example/fair_index/fairindex/csw/ResultTypeNamedPinLaw" (some 0) with
  accessFlags := 49
  interfaces := #[]
  cf := some (fileOf pool1 16 #[] #[{ accessFlags := 1, nameIndex := 5, descriptorIndex := 6, attributes := #[] }, { accessFlags := 9, nameIndex := 70, descriptorIndex := 71, attributes := #[] }, { accessFlags := 10, nameIndex := 19, descriptorIndex := 20, attributes := #[] }, { accessFlags := 10, nameIndex := 39, descriptorIndex := 40, attributes := #[] }] 49 2 #[] #[])
  fields := #[]
  methods := #[k1m0, k1m1, k1m2, k1m3]
  instanceTypes := #[]
  staticTypes := #[]
  resolved := Array.replicate 77 none
  statics := none }

def pool2 : Array CpInfo := pool [(1, .class_ 2), (0, u "java/io/Serializable"), (0, .class_ 4), (0, u "java/lang/Object")] 2

/-- java/io/Serializable -/
def k2 : Class := { plain "java/io/Serializable" (some 0) with
  accessFlags := 1537
  interfaces := #[]
  cf := some (fileOf pool2 1 #[] #[] 1537 3 #[] #[])
  fields := #[]
  methods := #[]
  instanceTypes := #[]
  staticTypes := #[]
  resolved := Array.replicate 7 none
  statics := none }

def pool3 : Array CpInfo := pool [(1, .class_ 2), (0, u "java/lang/Comparable"), (0, .class_ 4), (0, u "java/lang/Object")] 7

/-- java/lang/Comparable -/
def k3 : Class := { plain "java/lang/Comparable" (some 0) with
  accessFlags := 1537
  interfaces := #[]
  cf := some (fileOf pool3 1 #[] #[] 1537 3 #[] #[])
  fields := #[]
  methods := #[]
  instanceTypes := #[]
  staticTypes := #[]
  resolved := Array.replicate 12 none
  statics := none }

def pool4 : Array CpInfo := pool [(2, .class_ 4), (1, u "java/lang/CharSequence"), (42, .class_ 48), (0, u "java/lang/CharSequence$1CodePointIterator"), (10, .class_ 60), (0, u "java/lang/CharSequence$1CharIterator"), (5, .class_ 67), (0, u "java/lang/Object")] 63

/-- java/lang/CharSequence -/
def k4 : Class := { plain "java/lang/CharSequence" (some 0) with
  accessFlags := 1537
  interfaces := #[]
  cf := some (fileOf pool4 2 #[.nestMembers #[47, 59]] #[] 1537 66 #[] #[])
  fields := #[]
  methods := #[]
  instanceTypes := #[]
  staticTypes := #[]
  resolved := Array.replicate 131 none
  statics := none }

def pool5 : Array CpInfo := pool [(1, .class_ 2), (0, u "java/lang/constant/Constable"), (0, .class_ 4), (0, u "java/lang/Object")] 6

/-- java/lang/constant/Constable -/
def k5 : Class := { plain "java/lang/constant/Constable" (some 0) with
  accessFlags := 1537
  interfaces := #[]
  cf := some (fileOf pool5 1 #[] #[] 1537 3 #[] #[])
  fields := #[]
  methods := #[]
  instanceTypes := #[]
  staticTypes := #[]
  resolved := Array.replicate 11 none
  statics := none }

def pool6 : Array CpInfo := pool [(1, .class_ 2), (0, u "java/lang/constant/ConstantDesc"), (0, .class_ 4), (0, u "java/lang/Object")] 32

/-- java/lang/constant/ConstantDesc -/
def k6 : Class := { plain "java/lang/constant/ConstantDesc" (some 0) with
  accessFlags := 1537
  interfaces := #[]
  cf := some (fileOf pool6 1 #[] #[] 1537 3 #[] #[])
  fields := #[]
  methods := #[]
  instanceTypes := #[]
  staticTypes := #[]
  resolved := Array.replicate 37 none
  statics := none }

def pool7 : Array CpInfo := pool [(1, .methodref 2 3), (0, .class_ 4), (0, .nameAndType 5 6), (0, u "java/lang/Object"), (0, u "<init>"), (0, u "()V"), (0, .string 8), (0, u ""), (0, .fieldref 10 11), (0, .class_ 12), (0, .nameAndType 13 14), (0, u "java/lang/String"), (0, u "value"), (0, u "[B"), (0, .fieldref 10 16), (0, .nameAndType 17 18), (0, u "coder"), (0, u "B"), (2, u "hash"), (0, u "I"), (2, u "hashIsZero"), (0, u "Z"), (0, .methodref 10 28), (0, .nameAndType 5 29), (0, u "([CIILjava/lang/Void;)V"), (8, .fieldref 10 39), (0, .nameAndType 40 26), (0, u "COMPACT_STRINGS"), (1, .class_ 44), (1, u "java/lang/StringUTF16"), (0, u "compress"), (1, .methodref 42 48), (0, .nameAndType 49 50), (0, u "coderFromArrayLen"), (0, u "([BI)B"), (56, .class_ 109), (1, u "java/lang/StringLatin1"), (32, u "()Z"), (34, .methodref 42 178), (0, .nameAndType 45 179), (0, u "([CII)[B"), (154, u "()I"), (0, .methodref 10 336), (0, .nameAndType 17 337), (0, u "()B"), (25, u "([BI)C"), (27, u "(II)V"), (35, u "(I)C"), (64, .methodref 10 493), (0, .nameAndType 494 142), (0, u "isLatin1"), (0, .methodref 107 496), (0, .nameAndType 497 363), (0, u "charAt"), (3, u "checkIndex"), (5, u "length"), (33, .methodref 107 542), (0, .nameAndType 543 544), (0, u "equals"), (0, u "([B[B)Z"), (28, u "(Ljava/lang/Object;)Z"), (1, .class_ 576), (0, u "java/lang/CharSequence"), (22, u "CASE_INSENSITIVE_ORDER"), (0, u "Ljava/util/Comparator;"), (409, u "([C)V"), (42, .fieldref 1054 1055), (0, .class_ 1056), (0, .nameAndType 1057 1058), (0, u "jdk/internal/util/Preconditions"), (0, u "SIOOBE_FORMATTER"), (0, u "Ljava/util/function/BiFunction;"), (0, .methodref 1054 1060), (0, .nameAndType 501 1061), (0, u "(IILjava/util/function/BiFunction;)I"), (39, u "serialPersistentFields"), (0, u "[Ljava/io/ObjectStreamField;"), (0, .class_ 1104), (0, u "java/lang/String$CaseInsensitiveComparator"), (1, .class_ 1107), (0, u "java/io/Serializable"), (0, .class_ 1109), (0, u "java/lang/Comparable"), (0, .class_ 1111), (0, u "java/lang/constant/Constable"), (0, .class_ 1113), (0, u "java/lang/constant/ConstantDesc"), (2, u "serialVersionUID"), (0, u "J"), (3, u "REPL"), (0, u "C"), (2, u "LATIN1"), (1, u "UTF16")] 323

def k7m0 : Method := { name := "<init>", desc := "()V", sig := { parameters := [], returnType := none }, accessFlags := 1, code := none }
def k7c1 : Code := { maxStack := 5, maxLocals := 2, code := jdk_42_method_3_code, exceptionTable := #[], attributes := #[] }
def k7m1 : Method := { name := "<init>", desc := "([C)V", sig := { parameters := [(.array .char)], returnType := none }, accessFlags := 1, code := some k7c1 }
def k7c2 : Code := { maxStack := 2, maxLocals := 1, code := jdk_42_method_54_code, exceptionTable := #[], attributes := #[] }
def k7m2 : Method := { name := "length", desc := "()I", sig := { parameters := [], returnType := some .int }, accessFlags := 1, code := some k7c2 }
def k7c3 : Code := { maxStack := 2, maxLocals := 2, code := jdk_42_method_56_code, exceptionTable := #[], attributes := #[] }
def k7m3 : Method := { name := "charAt", desc := "(I)C", sig := { parameters := [.int], returnType := some .char }, accessFlags := 1, code := some k7c3 }
def k7c4 : Code := { maxStack := 2, maxLocals := 3, code := jdk_42_method_66_code, exceptionTable := #[], attributes := #[] }
def k7m4 : Method := { name := "equals", desc := "(Ljava/lang/Object;)Z", sig := { parameters := [(.object "java/lang/Object")], returnType := some .boolean }, accessFlags := 1, code := some k7c4 }
def k7c5 : Code := { maxStack := 4, maxLocals := 6, code := jdk_42_method_149_code, exceptionTable := #[], attributes := #[] }
def k7m5 : Method := { name := "<init>", desc := "([CIILjava/lang/Void;)V", sig := { parameters := [(.array .char), .int, .int, (.object "java/lang/Void")], returnType := none }, accessFlags := 2, code := some k7c5 }
def k7c6 : Code := { maxStack := 1, maxLocals := 1, code := jdk_42_method_152_code, exceptionTable := #[], attributes := #[] }
def k7m6 : Method := { name := "coder", desc := "()B", sig := { parameters := [], returnType := some .byte }, accessFlags := 0, code := some k7c6 }
def k7c7 : Code := { maxStack := 1, maxLocals := 1, code := jdk_42_method_154_code, exceptionTable := #[], attributes := #[] }
def k7m7 : Method := { name := "isLatin1", desc := "()Z", sig := { parameters := [], returnType := some .boolean }, accessFlags := 0, code := some k7c7 }
def k7c8 : Code := { maxStack := 3, maxLocals := 2, code := jdk_42_method_155_code, exceptionTable := #[], attributes := #[] }
def k7m8 : Method := { name := "checkIndex", desc := "(II)V", sig := { parameters := [.int, .int], returnType := none }, accessFlags := 8, code := some k7c8 }
/-- java/lang/String -/
def k7 : Class := { plain "java/lang/String" (some 0) with
  accessFlags := 49
  interfaces := #[2, 3, 4, 5, 6]
  cf := some (fileOf pool7 10 #[.nestMembers #[1103]] #[{ accessFlags := 1, nameIndex := 5, descriptorIndex := 6, attributes := #[] }, { accessFlags := 1, nameIndex := 5, descriptorIndex := 1010, attributes := #[] }, { accessFlags := 1, nameIndex := 507, descriptorIndex := 334, attributes := #[] }, { accessFlags := 1, nameIndex := 497, descriptorIndex := 427, attributes := #[] }, { accessFlags := 1, nameIndex := 543, descriptorIndex := 573, attributes := #[] }, { accessFlags := 2, nameIndex := 5, descriptorIndex := 29, attributes := #[] }, { accessFlags := 0, nameIndex := 17, descriptorIndex := 337, attributes := #[] }, { accessFlags := 0, nameIndex := 494, descriptorIndex := 142, attributes := #[] }, { accessFlags := 8, nameIndex := 501, descriptorIndex := 391, attributes := #[] }] 49 2 #[1106, 1108, 575, 1110, 1112] #[{ accessFlags := 18, nameIndex := 13, descriptorIndex := 14, attributes := #[] }, { accessFlags := 18, nameIndex := 17, descriptorIndex := 18, attributes := #[] }, { accessFlags := 2, nameIndex := 21, descriptorIndex := 22, attributes := #[] }, { accessFlags := 2, nameIndex := 25, descriptorIndex := 26, attributes := #[] }, { accessFlags := 26, nameIndex := 1116, descriptorIndex := 1117, attributes := #[] }, { accessFlags := 24, nameIndex := 40, descriptorIndex := 26, attributes := #[] }, { accessFlags := 26, nameIndex := 1101, descriptorIndex := 1102, attributes := #[] }, { accessFlags := 26, nameIndex := 1121, descriptorIndex := 1122, attributes := #[] }, { accessFlags := 25, nameIndex := 599, descriptorIndex := 600, attributes := #[] }, { accessFlags := 24, nameIndex := 1125, descriptorIndex := 18, attributes := #[] }, { accessFlags := 24, nameIndex := 1127, descriptorIndex := 18, attributes := #[] }])
  fields := #[{ name := "value", type := (.array .byte), accessFlags := 18, slot := 0, constantValue := 0 }, { name := "coder", type := .byte, accessFlags := 18, slot := 1, constantValue := 0 }, { name := "hash", type := .int, accessFlags := 2, slot := 2, constantValue := 0 }, { name := "hashIsZero", type := .boolean, accessFlags := 2, slot := 3, constantValue := 0 }, { name := "serialVersionUID", type := .long, accessFlags := 26, slot := 0, constantValue := 0 }, { name := "COMPACT_STRINGS", type := .boolean, accessFlags := 24, slot := 1, constantValue := 0 }, { name := "serialPersistentFields", type := (.array (.object "java/io/ObjectStreamField")), accessFlags := 26, slot := 2, constantValue := 0 }, { name := "REPL", type := .char, accessFlags := 26, slot := 3, constantValue := 0 }, { name := "CASE_INSENSITIVE_ORDER", type := (.object "java/util/Comparator"), accessFlags := 25, slot := 4, constantValue := 0 }, { name := "LATIN1", type := .byte, accessFlags := 24, slot := 5, constantValue := 0 }, { name := "UTF16", type := .byte, accessFlags := 24, slot := 6, constantValue := 0 }]
  methods := #[k7m0, k7m1, k7m2, k7m3, k7m4, k7m5, k7m6, k7m7, k7m8]
  instanceTypes := #[(.array .byte), .byte, .int, .boolean]
  staticTypes := #[.long, .boolean, (.array (.object "java/io/ObjectStreamField")), .char, (.object "java/util/Comparator"), .byte, .byte]
  resolved := Array.replicate 1451 none
  statics := some 0 }

def pool8 : Array CpInfo := pool [(1, .class_ 2), (0, u "java/lang/String"), (1, .class_ 6), (1, u "java/lang/Object"), (0, u "<init>"), (0, u "()V"), (0, .methodref 1 10), (0, .nameAndType 11 12), (0, u "checkIndex"), (0, u "(II)V"), (1, .class_ 16), (1, u "java/lang/StringLatin1"), (36, u "([BI)C"), (67, u "$assertionsDisabled"), (0, u "Z"), (98, .class_ 223), (1, u "java/lang/StringLatin1$LinesSpliterator"), (28, u "charAt"), (28, u "equals"), (0, u "([B[B)Z"), (107, .class_ 391), (0, u "java/lang/StringLatin1$CharsSpliterator")] 3

def k8m0 : Method := { name := "<init>", desc := "()V", sig := { parameters := [], returnType := none }, accessFlags := 0, code := none }
def k8c1 : Code := { maxStack := 2, maxLocals := 2, code := jdk_43_method_2_code, exceptionTable := #[], attributes := #[] }
def k8m1 : Method := { name := "charAt", desc := "([BI)C", sig := { parameters := [(.array .byte), .int], returnType := some .char }, accessFlags := 9, code := some k8c1 }
def k8c2 : Code := { maxStack := 3, maxLocals := 3, code := jdk_43_method_13_code, exceptionTable := #[], attributes := #[] }
def k8m2 : Method := { name := "equals", desc := "([B[B)Z", sig := { parameters := [(.array .byte), (.array .byte)], returnType := some .boolean }, accessFlags := 9, code := some k8c2 }
/-- java/lang/StringLatin1 -/
def k8 : Class := { plain "java/lang/StringLatin1" (some 0) with
  accessFlags := 48
  interfaces := #[]
  cf := some (fileOf pool8 14 #[.nestMembers #[390, 221]] #[{ accessFlags := 0, nameIndex := 7, descriptorIndex := 8, attributes := #[] }, { accessFlags := 9, nameIndex := 252, descriptorIndex := 53, attributes := #[] }, { accessFlags := 9, nameIndex := 281, descriptorIndex := 282, attributes := #[] }] 48 4 #[] #[{ accessFlags := 4120, nameIndex := 121, descriptorIndex := 122, attributes := #[] }])
  fields := #[{ name := "$assertionsDisabled", type := .boolean, accessFlags := 4120, slot := 0, constantValue := 0 }]
  methods := #[k8m0, k8m1, k8m2]
  instanceTypes := #[]
  staticTypes := #[.boolean]
  resolved := Array.replicate 395 none
  statics := none }

def pool9 : Array CpInfo := pool [(2, .class_ 4), (1, u "java/lang/Enum"), (0, u "name"), (0, u "Ljava/lang/String;"), (2, u "ordinal"), (0, u "I"), (1, .class_ 14), (1, u "java/lang/Object"), (4, u "hash"), (86, .class_ 108), (1, u "java/lang/Enum$EnumDesc"), (2, .class_ 112), (0, u "java/lang/constant/Constable"), (0, .class_ 114), (0, u "java/lang/Comparable"), (0, .class_ 116), (0, u "java/io/Serializable")] 87

/-- java/lang/Enum -/
def k9 : Class := { plain "java/lang/Enum" (some 0) with
  accessFlags := 1057
  interfaces := #[5, 3, 2]
  cf := some (fileOf pool9 2 #[.nestMembers #[106]] #[] 1057 12 #[111, 113, 115] #[{ accessFlags := 18, nameIndex := 5, descriptorIndex := 6, attributes := #[] }, { accessFlags := 18, nameIndex := 9, descriptorIndex := 10, attributes := #[] }, { accessFlags := 2, nameIndex := 19, descriptorIndex := 10, attributes := #[] }])
  fields := #[{ name := "name", type := (.object "java/lang/String"), accessFlags := 18, slot := 0, constantValue := 0 }, { name := "ordinal", type := .int, accessFlags := 18, slot := 1, constantValue := 0 }, { name := "hash", type := .int, accessFlags := 2, slot := 2, constantValue := 0 }]
  methods := #[]
  instanceTypes := #[(.object "java/lang/String"), .int, .int]
  staticTypes := #[]
  resolved := Array.replicate 204 none
  statics := none }

def pool10 : Array CpInfo := pool [(1, .class_ 2), (0, u "com/example/fair_index/fairindex/csw/ResultType"), (2, u "HITS"), (0, u "Lcom/example/fair_index/fairindex/csw/ResultType;"), (2, u "RESULTS"), (2, u "VALIDATE"), (0, .fieldref 1 14), (0, .nameAndType 15 16), (0, u "$VALUES"), (0, u "[Lcom/example/fair_index/fairindex/csw/ResultType;"), (0, .methodref 18 19), (0, .class_ 16), (0, .nameAndType 20 21), (0, u "clone"), (0, u "()Ljava/lang/Object;"), (1, .class_ 25), (1, u "java/lang/Enum"), (6, .fieldref 1 33), (0, .nameAndType 34 35), (0, u "name"), (0, u "Ljava/lang/String;"), (0, .methodref 1 37), (0, .nameAndType 38 39), (0, u "values"), (0, u "()[Lcom/example/fair_index/fairindex/csw/ResultType;"), (0, .methodref 41 42), (0, .class_ 43), (0, .nameAndType 44 45), (0, u "java/lang/String"), (0, u "equals"), (0, u "(Ljava/lang/Object;)Z"), (27, u "(Ljava/lang/String;)Lcom/example/fair_index/fairindex/csw/ResultType;"), (3, u "named")] 10

def k10c0 : Code := { maxStack := 1, maxLocals := 0, code := prog_4_method_1_code, exceptionTable := #[], attributes := #[] }
def k10m0 : Method := { name := "values", desc := "()[Lcom/example/fair_index/fairindex/csw/ResultType;", sig := { parameters := [], returnType := some (.array (.object "com/example/fair_index/fairindex/csw/ResultType")) }, accessFlags := 9, code := some k10c0 }
def k10c1 : Code := { maxStack := 2, maxLocals := 5, code := prog_4_method_4_code, exceptionTable := #[], attributes := #[] }
def k10m1 : Method := { name := "named", desc := "(Ljava/lang/String;)Lcom/example/fair_index/fairindex/csw/ResultType;", sig := { parameters := [(.object "java/lang/String")], returnType := some (.object "com/example/fair_index/fairindex/csw/ResultType") }, accessFlags := 8, code := some k10c1 }
/-- com/example/fair_index/fairindex/csw/ResultType -/
def k10 : Class := { plain "com/example/fair_index/fairindex/csw/ResultType" (some 9) with
  accessFlags := 16432
  interfaces := #[]
  cf := some (fileOf pool10 1 #[] #[{ accessFlags := 9, nameIndex := 38, descriptorIndex := 39, attributes := #[] }, { accessFlags := 8, nameIndex := 77, descriptorIndex := 73, attributes := #[] }] 16432 23 #[] #[{ accessFlags := 16409, nameIndex := 5, descriptorIndex := 6, attributes := #[] }, { accessFlags := 16409, nameIndex := 9, descriptorIndex := 6, attributes := #[] }, { accessFlags := 16409, nameIndex := 12, descriptorIndex := 6, attributes := #[] }, { accessFlags := 18, nameIndex := 34, descriptorIndex := 35, attributes := #[] }, { accessFlags := 4122, nameIndex := 15, descriptorIndex := 16, attributes := #[] }])
  fields := #[{ name := "HITS", type := (.object "com/example/fair_index/fairindex/csw/ResultType"), accessFlags := 16409, slot := 0, constantValue := 0 }, { name := "RESULTS", type := (.object "com/example/fair_index/fairindex/csw/ResultType"), accessFlags := 16409, slot := 1, constantValue := 0 }, { name := "VALIDATE", type := (.object "com/example/fair_index/fairindex/csw/ResultType"), accessFlags := 16409, slot := 2, constantValue := 0 }, { name := "name", type := (.object "java/lang/String"), accessFlags := 18, slot := 3, constantValue := 0 }, { name := "$VALUES", type := (.array (.object "com/example/fair_index/fairindex/csw/ResultType")), accessFlags := 4122, slot := 3, constantValue := 0 }]
  methods := #[k10m0, k10m1]
  instanceTypes := #[(.object "java/lang/String"), .int, .int, (.object "java/lang/String")]
  staticTypes := #[(.object "com/example/fair_index/fairindex/csw/ResultType"), (.object "com/example/fair_index/fairindex/csw/ResultType"), (.object "com/example/fair_index/fairindex/csw/ResultType"), (.array (.object "com/example/fair_index/fairindex/csw/ResultType"))]
  resolved := Array.replicate 88 none
  statics := some 1 }

def pool11 : Array CpInfo := pool [(1, .class_ 2), (0, u "java/lang/Cloneable"), (0, .class_ 4), (0, u "java/lang/Object")] 2

/-- java/lang/Cloneable -/
def k11 : Class := { plain "java/lang/Cloneable" (some 0) with
  accessFlags := 1537
  interfaces := #[]
  cf := some (fileOf pool11 1 #[] #[] 1537 3 #[] #[])
  fields := #[]
  methods := #[]
  instanceTypes := #[]
  staticTypes := #[]
  resolved := Array.replicate 7 none
  statics := none }

def pool12 : Array CpInfo := pool [(2, .class_ 4), (1, u "java/lang/Object"), (0, u "<init>"), (0, u "()V"), (17, .class_ 26), (1, u "jdk/internal/util/Preconditions"), (6, u "checkIndex"), (21, .class_ 56), (0, u "jdk/internal/util/Preconditions$4"), (57, .class_ 115), (0, u "jdk/internal/util/Preconditions$1"), (7, u "SIOOBE_FORMATTER"), (0, u "Ljava/util/function/BiFunction;"), (0, .class_ 126), (0, u "jdk/internal/util/Preconditions$2"), (3, u "AIOOBE_FORMATTER"), (0, .class_ 132), (0, u "jdk/internal/util/Preconditions$3"), (3, u "IOOBE_FORMATTER"), (41, u "(IILjava/util/function/BiFunction;)I")] 15

def k12m0 : Method := { name := "<init>", desc := "()V", sig := { parameters := [], returnType := none }, accessFlags := 1, code := none }
def k12c1 : Code := { maxStack := 3, maxLocals := 3, code := jdk_41_method_11_code, exceptionTable := #[], attributes := #[] }
def k12m1 : Method := { name := "checkIndex", desc := "(IILjava/util/function/BiFunction;)I", sig := { parameters := [.int, .int, (.object "java/util/function/BiFunction")], returnType := some .int }, accessFlags := 9, code := some k12c1 }
/-- jdk/internal/util/Preconditions -/
def k12 : Class := { plain "jdk/internal/util/Preconditions" (some 0) with
  accessFlags := 33
  interfaces := #[]
  cf := some (fileOf pool12 24 #[.nestMembers #[55, 131, 125, 114]] #[{ accessFlags := 1, nameIndex := 5, descriptorIndex := 6, attributes := #[] }, { accessFlags := 9, nameIndex := 33, descriptorIndex := 178, attributes := #[] }] 33 2 #[] #[{ accessFlags := 25, nameIndex := 123, descriptorIndex := 124, attributes := #[] }, { accessFlags := 25, nameIndex := 130, descriptorIndex := 124, attributes := #[] }, { accessFlags := 25, nameIndex := 136, descriptorIndex := 124, attributes := #[] }])
  fields := #[{ name := "SIOOBE_FORMATTER", type := (.object "java/util/function/BiFunction"), accessFlags := 25, slot := 0, constantValue := 0 }, { name := "AIOOBE_FORMATTER", type := (.object "java/util/function/BiFunction"), accessFlags := 25, slot := 1, constantValue := 0 }, { name := "IOOBE_FORMATTER", type := (.object "java/util/function/BiFunction"), accessFlags := 25, slot := 2, constantValue := 0 }]
  methods := #[k12m0, k12m1]
  instanceTypes := #[]
  staticTypes := #[(.object "java/util/function/BiFunction"), (.object "java/util/function/BiFunction"), (.object "java/util/function/BiFunction")]
  resolved := Array.replicate 194 none
  statics := some 2 }

def pool13 : Array CpInfo := pool [(6, .class_ 8), (1, u "java/lang/Object"), (0, u "<init>"), (0, u "()V"), (1, .class_ 14), (1, u "java/lang/StringUTF16"), (31, u "$assertionsDisabled"), (0, u "Z"), (13, u "HI_BYTE_SHIFT"), (0, u "I"), (2, u "LO_BYTE_SHIFT"), (49, .methodref 12 116), (0, .nameAndType 117 118), (0, u "compress"), (0, u "([CI[BII)I"), (3, u "([CII)[B"), (138, u "coderFromArrayLen"), (0, u "([BI)B"), (106, .class_ 371), (1, u "java/lang/StringUTF16$LinesSpliterator"), (58, u "MAX_LENGTH"), (196, .class_ 628), (0, u "java/lang/StringUTF16$CodePointsSpliterator"), (0, .class_ 630), (0, u "java/lang/StringUTF16$CharsSpliterator")] 4

def k13m0 : Method := { name := "<init>", desc := "()V", sig := { parameters := [], returnType := none }, accessFlags := 0, code := none }
def k13c1 : Code := { maxStack := 2, maxLocals := 2, code := jdk_52_method_15_code, exceptionTable := #[], attributes := #[] }
def k13m1 : Method := { name := "coderFromArrayLen", desc := "([BI)B", sig := { parameters := [(.array .byte), .int], returnType := some .byte }, accessFlags := 8, code := some k13c1 }
def k13c2 : Code := { maxStack := 5, maxLocals := 6, code := jdk_52_method_16_code, exceptionTable := #[], attributes := #[] }
def k13m2 : Method := { name := "compress", desc := "([CII)[B", sig := { parameters := [(.array .char), .int, .int], returnType := some (.array .byte) }, accessFlags := 9, code := some k13c2 }
def k13c3 : Code := { maxStack := 3, maxLocals := 7, code := jdk_52_method_21_code, exceptionTable := #[], attributes := #[] }
def k13m3 : Method := { name := "compress", desc := "([CI[BII)I", sig := { parameters := [(.array .char), .int, (.array .byte), .int, .int], returnType := some .int }, accessFlags := 9, code := some k13c3 }
/-- java/lang/StringUTF16 -/
def k13 : Class := { plain "java/lang/StringUTF16" (some 0) with
  accessFlags := 48
  interfaces := #[]
  cf := some (fileOf pool13 12 #[.nestMembers #[627, 629, 369]] #[{ accessFlags := 0, nameIndex := 9, descriptorIndex := 10, attributes := #[] }, { accessFlags := 8, nameIndex := 261, descriptorIndex := 262, attributes := #[] }, { accessFlags := 9, nameIndex := 117, descriptorIndex := 122, attributes := #[] }, { accessFlags := 9, nameIndex := 117, descriptorIndex := 118, attributes := #[] }] 48 6 #[] #[{ accessFlags := 26, nameIndex := 61, descriptorIndex := 62, attributes := #[] }, { accessFlags := 26, nameIndex := 65, descriptorIndex := 62, attributes := #[] }, { accessFlags := 24, nameIndex := 430, descriptorIndex := 62, attributes := #[] }, { accessFlags := 4120, nameIndex := 46, descriptorIndex := 47, attributes := #[] }])
  fields := #[{ name := "HI_BYTE_SHIFT", type := .int, accessFlags := 26, slot := 0, constantValue := 0 }, { name := "LO_BYTE_SHIFT", type := .int, accessFlags := 26, slot := 1, constantValue := 0 }, { name := "MAX_LENGTH", type := .int, accessFlags := 24, slot := 2, constantValue := 0 }, { name := "$assertionsDisabled", type := .boolean, accessFlags := 4120, slot := 3, constantValue := 0 }]
  methods := #[k13m0, k13m1, k13m2, k13m3]
  instanceTypes := #[]
  staticTypes := #[.int, .int, .int, .boolean]
  resolved := Array.replicate 635 none
  statics := none }

def pool14 : Array CpInfo := pool [(1, .class_ 2), (0, u "java/lang/Math"), (1, .class_ 6), (1, u "java/lang/Object"), (0, u "<init>"), (0, u "()V"), (89, .class_ 100), (1, u "java/lang/Math$RandomNumberGeneratorHolder"), (71, u "negativeZeroFloatBits"), (0, u "J"), (2, u "negativeZeroDoubleBits"), (24, u "min"), (43, u "$assertionsDisabled"), (0, u "Z"), (88, u "(II)I"), (2, u "twoToTheDoubleScaleDown"), (0, u "D"), (4, u "twoToTheDoubleScaleUp"), (9, u "E"), (3, u "PI"), (2, u "TAU"), (2, u "DEGREES_TO_RADIANS"), (0, u "RADIANS_TO_DEGREES")] 94

def k14m0 : Method := { name := "<init>", desc := "()V", sig := { parameters := [], returnType := none }, accessFlags := 2, code := none }
def k14c1 : Code := { maxStack := 2, maxLocals := 2, code := jdk_29_method_69_code, exceptionTable := #[], attributes := #[] }
def k14m1 : Method := { name := "min", desc := "(II)I", sig := { parameters := [.int, .int], returnType := some .int }, accessFlags := 9, code := some k14c1 }
/-- java/lang/Math -/
def k14 : Class := { plain "java/lang/Math" (some 0) with
  accessFlags := 49
  interfaces := #[]
  cf := some (fileOf pool14 1 #[.nestMembers #[98]] #[{ accessFlags := 2, nameIndex := 7, descriptorIndex := 8, attributes := #[] }, { accessFlags := 9, nameIndex := 201, descriptorIndex := 335, attributes := #[] }] 49 4 #[] #[{ accessFlags := 25, nameIndex := 354, descriptorIndex := 339, attributes := #[] }, { accessFlags := 25, nameIndex := 358, descriptorIndex := 339, attributes := #[] }, { accessFlags := 25, nameIndex := 361, descriptorIndex := 339, attributes := #[] }, { accessFlags := 26, nameIndex := 364, descriptorIndex := 339, attributes := #[] }, { accessFlags := 26, nameIndex := 365, descriptorIndex := 339, attributes := #[] }, { accessFlags := 26, nameIndex := 172, descriptorIndex := 173, attributes := #[] }, { accessFlags := 26, nameIndex := 176, descriptorIndex := 173, attributes := #[] }, { accessFlags := 8, nameIndex := 344, descriptorIndex := 339, attributes := #[] }, { accessFlags := 8, nameIndex := 338, descriptorIndex := 339, attributes := #[] }, { accessFlags := 4120, nameIndex := 245, descriptorIndex := 246, attributes := #[] }])
  fields := #[{ name := "E", type := .double, accessFlags := 25, slot := 0, constantValue := 0 }, { name := "PI", type := .double, accessFlags := 25, slot := 1, constantValue := 0 }, { name := "TAU", type := .double, accessFlags := 25, slot := 2, constantValue := 0 }, { name := "DEGREES_TO_RADIANS", type := .double, accessFlags := 26, slot := 3, constantValue := 0 }, { name := "RADIANS_TO_DEGREES", type := .double, accessFlags := 26, slot := 4, constantValue := 0 }, { name := "negativeZeroFloatBits", type := .long, accessFlags := 26, slot := 5, constantValue := 0 }, { name := "negativeZeroDoubleBits", type := .long, accessFlags := 26, slot := 6, constantValue := 0 }, { name := "twoToTheDoubleScaleUp", type := .double, accessFlags := 8, slot := 7, constantValue := 0 }, { name := "twoToTheDoubleScaleDown", type := .double, accessFlags := 8, slot := 8, constantValue := 0 }, { name := "$assertionsDisabled", type := .boolean, accessFlags := 4120, slot := 9, constantValue := 0 }]
  methods := #[k14m0, k14m1]
  instanceTypes := #[]
  staticTypes := #[.double, .double, .double, .double, .double, .long, .long, .double, .double, .boolean]
  resolved := Array.replicate 460 none
  statics := none }

def pool15 : Array CpInfo := pool [(9, u "<init>"), (6, .class_ 18), (1, u "java/lang/Object"), (0, u "()V"), (1, .class_ 23), (1, u "jdk/internal/util/ArraysSupport"), (0, u "LOG2_ARRAY_LONG_INDEX_SCALE"), (0, u "I"), (2, u "U"), (0, u "Ljdk/internal/misc/Unsafe;"), (8, u "BIG_ENDIAN"), (0, u "Z"), (8, u "LOG2_BYTE_BIT_SIZE"), (4, u "LOG2_ARRAY_INT_INDEX_SCALE"), (54, u "JLA"), (0, u "Ljdk/internal/access/JavaLangAccess;"), (11, u "LOG2_ARRAY_BOOLEAN_INDEX_SCALE"), (9, u "LOG2_ARRAY_BYTE_INDEX_SCALE"), (5, u "LOG2_ARRAY_CHAR_INDEX_SCALE"), (5, u "LOG2_ARRAY_SHORT_INDEX_SCALE"), (18, u "LOG2_ARRAY_FLOAT_INDEX_SCALE"), (24, u "LOG2_ARRAY_DOUBLE_INDEX_SCALE"), (89, u "T_BOOLEAN"), (2, u "T_CHAR"), (1, u "T_FLOAT"), (1, u "T_DOUBLE"), (1, u "T_BYTE"), (1, u "T_SHORT"), (1, u "T_INT"), (1, u "T_LONG"), (1, u "SOFT_MAX_ARRAY_LENGTH")] 83

def k15m0 : Method := { name := "<init>", desc := "()V", sig := { parameters := [], returnType := none }, accessFlags := 2, code := none }
/-- jdk/internal/util/ArraysSupport -/
def k15 : Class := { plain "jdk/internal/util/ArraysSupport" (some 0) with
  accessFlags := 33
  interfaces := #[]
  cf := some (fileOf pool15 21 #[] #[{ accessFlags := 2, nameIndex := 9, descriptorIndex := 19, attributes := #[] }] 33 16 #[] #[{ accessFlags := 24, nameIndex := 28, descriptorIndex := 29, attributes := #[] }, { accessFlags := 26, nameIndex := 38, descriptorIndex := 39, attributes := #[] }, { accessFlags := 25, nameIndex := 121, descriptorIndex := 25, attributes := #[] }, { accessFlags := 25, nameIndex := 131, descriptorIndex := 25, attributes := #[] }, { accessFlags := 25, nameIndex := 137, descriptorIndex := 25, attributes := #[] }, { accessFlags := 25, nameIndex := 143, descriptorIndex := 25, attributes := #[] }, { accessFlags := 25, nameIndex := 53, descriptorIndex := 25, attributes := #[] }, { accessFlags := 25, nameIndex := 24, descriptorIndex := 25, attributes := #[] }, { accessFlags := 25, nameIndex := 162, descriptorIndex := 25, attributes := #[] }, { accessFlags := 25, nameIndex := 187, descriptorIndex := 25, attributes := #[] }, { accessFlags := 26, nameIndex := 48, descriptorIndex := 25, attributes := #[] }, { accessFlags := 25, nameIndex := 277, descriptorIndex := 25, attributes := #[] }, { accessFlags := 25, nameIndex := 280, descriptorIndex := 25, attributes := #[] }, { accessFlags := 25, nameIndex := 282, descriptorIndex := 25, attributes := #[] }, { accessFlags := 25, nameIndex := 284, descriptorIndex := 25, attributes := #[] }, { accessFlags := 25, nameIndex := 286, descriptorIndex := 25, attributes := #[] }, { accessFlags := 25, nameIndex := 288, descriptorIndex := 25, attributes := #[] }, { accessFlags := 25, nameIndex := 290, descriptorIndex := 25, attributes := #[] }, { accessFlags := 25, nameIndex := 292, descriptorIndex := 25, attributes := #[] }, { accessFlags := 26, nameIndex := 108, descriptorIndex := 109, attributes := #[] }, { accessFlags := 25, nameIndex := 294, descriptorIndex := 25, attributes := #[] }])
  fields := #[{ name := "U", type := (.object "jdk/internal/misc/Unsafe"), accessFlags := 24, slot := 0, constantValue := 0 }, { name := "BIG_ENDIAN", type := .boolean, accessFlags := 26, slot := 1, constantValue := 0 }, { name := "LOG2_ARRAY_BOOLEAN_INDEX_SCALE", type := .int, accessFlags := 25, slot := 2, constantValue := 0 }, { name := "LOG2_ARRAY_BYTE_INDEX_SCALE", type := .int, accessFlags := 25, slot := 3, constantValue := 0 }, { name := "LOG2_ARRAY_CHAR_INDEX_SCALE", type := .int, accessFlags := 25, slot := 4, constantValue := 0 }, { name := "LOG2_ARRAY_SHORT_INDEX_SCALE", type := .int, accessFlags := 25, slot := 5, constantValue := 0 }, { name := "LOG2_ARRAY_INT_INDEX_SCALE", type := .int, accessFlags := 25, slot := 6, constantValue := 0 }, { name := "LOG2_ARRAY_LONG_INDEX_SCALE", type := .int, accessFlags := 25, slot := 7, constantValue := 0 }, { name := "LOG2_ARRAY_FLOAT_INDEX_SCALE", type := .int, accessFlags := 25, slot := 8, constantValue := 0 }, { name := "LOG2_ARRAY_DOUBLE_INDEX_SCALE", type := .int, accessFlags := 25, slot := 9, constantValue := 0 }, { name := "LOG2_BYTE_BIT_SIZE", type := .int, accessFlags := 26, slot := 10, constantValue := 0 }, { name := "T_BOOLEAN", type := .int, accessFlags := 25, slot := 11, constantValue := 0 }, { name := "T_CHAR", type := .int, accessFlags := 25, slot := 12, constantValue := 0 }, { name := "T_FLOAT", type := .int, accessFlags := 25, slot := 13, constantValue := 0 }, { name := "T_DOUBLE", type := .int, accessFlags := 25, slot := 14, constantValue := 0 }, { name := "T_BYTE", type := .int, accessFlags := 25, slot := 15, constantValue := 0 }, { name := "T_SHORT", type := .int, accessFlags := 25, slot := 16, constantValue := 0 }, { name := "T_INT", type := .int, accessFlags := 25, slot := 17, constantValue := 0 }, { name := "T_LONG", type := .int, accessFlags := 25, slot := 18, constantValue := 0 }, { name := "JLA", type := (.object "jdk/internal/access/JavaLangAccess"), accessFlags := 26, slot := 19, constantValue := 0 }, { name := "SOFT_MAX_ARRAY_LENGTH", type := .int, accessFlags := 25, slot := 20, constantValue := 0 }]
  methods := #[k15m0]
  instanceTypes := #[]
  staticTypes := #[(.object "jdk/internal/misc/Unsafe"), .boolean, .int, .int, .int, .int, .int, .int, .int, .int, .int, .int, .int, .int, .int, .int, .int, .int, .int, (.object "jdk/internal/access/JavaLangAccess"), .int]
  resolved := Array.replicate 378 none
  statics := none }

/-- the primitive byte -/
def k16 : Class := { plain "byte" none with kind := .primitive 'B', accessFlags := 0x411 }
/-- [B -/
def k17 : Class := { plain "[B" (some 0) with kind := .array 16 .byte, interfaces := #[11, 2], accessFlags := 1041 }

/-- the primitive char -/
def k18 : Class := { plain "char" none with kind := .primitive 'C', accessFlags := 0x411 }
/-- [C -/
def k19 : Class := { plain "[C" (some 0) with kind := .array 18 .char, interfaces := #[11, 2], accessFlags := 1041 }

/-- the primitive int -/
def k20 : Class := { plain "int" none with kind := .primitive 'I', accessFlags := 0x411 }
/-- [I -/
def k21 : Class := { plain "[I" (some 0) with kind := .array 20 .int, interfaces := #[11, 2], accessFlags := 1041 }

/-- [Lcom/example/fair_index/fairindex/csw/ResultType; -/
def k22 : Class := { plain "[Lcom/example/fair_index/fairindex/csw/ResultType;" (some 0) with kind := .array 10 (.object "com/example/fair_index/fairindex/csw/ResultType"), interfaces := #[11, 2], accessFlags := 1041 }

def heap : Heap := #[{ cls := 7, slots := #[.long 0, .int 1, .null, .int 0, .null, .int 0, .int 0], vm := .statics 7 },
  { cls := 10, slots := #[.ref 4, .ref 5, .ref 6, .ref 3], vm := .statics 10 },
  { cls := 12, slots := #[.null, .null, .null], vm := .statics 12 },
  { cls := 22, slots := #[.ref 4, .ref 5, .ref 6], vm := .none },
  { cls := 10, slots := #[.null, .int 0, .int 0, .ref 7], vm := .none },
  { cls := 10, slots := #[.null, .int 1, .int 0, .ref 8], vm := .none },
  { cls := 10, slots := #[.null, .int 2, .int 0, .ref 9], vm := .none },
  { cls := 7, slots := #[.ref 10, .int 0, .int 0, .int 0], vm := .none },
  { cls := 7, slots := #[.ref 11, .int 0, .int 0, .int 0], vm := .none },
  { cls := 7, slots := #[.ref 12, .int 0, .int 0, .int 0], vm := .none },
  { cls := 17, slots := #[.int 104, .int 105, .int 116, .int 115], vm := .none },
  { cls := 17, slots := #[.int 114, .int 101, .int 115, .int 117, .int 108, .int 116, .int 115], vm := .none },
  { cls := 17, slots := #[.int 118, .int 97, .int 108, .int 105, .int 100, .int 97, .int 116, .int 101], vm := .none }]
def classes : Array Class := #[k0, k1, k2, k3, k4, k5, k6, k7, k8, k9, k10, k11, k12, k13, k14, k15, k16, k17, k18, k19, k20, k21, k22]
def interned : List (Array UInt16 × Addr) := []
def slotsUsed : Nat := 60
def theMethod : MethodId := ⟨1, 1⟩
def args0 : Array Value := #[.int 5, .long 6, .long 7]
def aboutOver (below : List Frame) : State where
  vm := { classes := classes, interned := interned.toArray }
  heap := heap
  slotsUsed := slotsUsed
  threads := #[{ frames := .invoking theMethod args0 :: below }]
def below0 : List Frame := [.native { method := ⟨0, 0⟩, args := #[] }]
def about1 : State := aboutOver below0
def p0 : Program := .bare "" "" ""
def e0 : Env := launch0.env 0 0 0
theorem w_frames : about1.frames = Frame.invoking theMethod args0 :: below0 := rfl
set_option maxRecDepth 65536 in
theorem w_args : argsFit about1.vm theMethod args0 = true := by decide +kernel
set_option maxRecDepth 65536 in
theorem w_heap : heapFits about1 = true := by decide +kernel
set_option maxRecDepth 65536 in
theorem w_runnable : about1.curStatus? = some .runnable := by decide +kernel
set_option maxRecDepth 65536 in
theorem w_alone : about1.alone = true := by decide +kernel
set_option maxRecDepth 65536 in
theorem w_named : about1.methodNamed? x = some theMethod := by decide +kernel
set_option maxRecDepth 65536 in
theorem w_hears : about1.hears theMethod below0 = true := by decide +kernel
set_option maxRecDepth 65536 in
theorem w_ripe : about1.ripe theMethod args0 below0 = true := by decide +kernel
theorem w_running : about1.status = .running := rfl
set_option maxRecDepth 65536 in
theorem w_room : about1.hasRoom e0.platform room_1 = true :=
  launch0.hasRoom_least _ room_1 (by decide +kernel) (by decide +kernel) (by decide +kernel) (by decide +kernel) (by decide +kernel) (by decide +kernel)
theorem allAtoms_all (ts : List Jvm.Cond) (a : Array Jvm.Value) (st : Jvm.State) : (allAtoms ts).before a st = ts.all (fun c => c.before a st) := by
  induction ts with
  | nil => rfl
  | cons c t ih =>
    show (Jvm.Cond.and c (allAtoms t)).before a st = _
    rw [Jvm.Cond.before_and, ih, List.all_cons]
def words1 : List Jvm.Cond := Jvm.Cond.code x code maxLocals ret :: tables_1
/-- a 'code' word, met by the world's own term for the bytes: nothing is compared byte by byte -/
theorem code_word {y : MethodName} {bytes : ByteArray} {mx : Nat} {rt : Option FieldType} {a : Array Value} {s : State} {m : MethodId} {meth : Method} {c : Code} (h1 : s.methodNamed? y = some m) (h2 : s.vm.method? m = some meth) (h3 : meth.code = some c) (h4 : c.code = bytes)
    (h5 : (c.maxLocals == mx && c.exceptionTable.isEmpty && decide (c.maxStack ≤ mostOperands) && decide (meth.sig.returnType = rt) && !meth.locks && decide (parseMethodDescriptor y.desc = some meth.sig)) = true) : (Jvm.Cond.code y bytes mx rt).before a s = true := by
  simp only [Bool.and_eq_true, beq_iff_eq, Bool.not_eq_true', decide_eq_true_eq] at h5
  obtain ⟨⟨⟨⟨⟨g1, g2⟩, g3⟩, g4⟩, g5⟩, g6⟩ := h5
  simp [Cond.before, Cond.holds, Cond.value, h1, h2, h3, h4, g1, g2, g3, g4, g5, g6]
def isCode : Jvm.Cond → Bool
  | .code _ _ _ _ => true
  | _ => false
theorem all_split {L : List Jvm.Cond} {P : Jvm.Cond → Bool} (h1 : L.all (fun c => isCode c || P c) = true) (h2 : ∀ c ∈ L.filter isCode, P c = true) : L.all P = true := by
  refine List.all_eq_true.mpr fun c hc => ?_
  have h := List.all_eq_true.mp h1 c hc
  rcases Bool.eq_false_or_eq_true (isCode c) with hi | hi
  · exact h2 c (List.mem_filter.mpr ⟨hc, hi⟩)
  · simpa [hi] using h
set_option maxRecDepth 65536 in
theorem w_c0 : (Jvm.Cond.code x code maxLocals ret).before args0 about1 = true := code_word (m := ⟨1, 1⟩) (meth := k1m1) (c := k1c1) (by decide +kernel) rfl rfl rfl (by decide +kernel)
set_option maxRecDepth 65536 in
theorem w_c1 : (Jvm.Cond.code ({ cls := "com/example/fair_index/fairindex/csw/ResultTypeNamedPinLaw", name := "make", desc := "([CI)Ljava/lang/String;" } : Jvm.MethodName) method_4_code (2 : Nat) (Option.some (Jvm.ClassFile.FieldType.object "java/lang/String"))).before args0 about1 = true := code_word (m := ⟨1, 3⟩) (meth := k1m3) (c := k1c3) (by decide +kernel) rfl rfl rfl (by decide +kernel)
set_option maxRecDepth 65536 in
theorem w_c2 : (Jvm.Cond.code ({ cls := "java/lang/String", name := "<init>", desc := "([C)V" } : Jvm.MethodName) jdk_42_method_3_code (2 : Nat) (Option.none : Option Jvm.ClassFile.FieldType)).before args0 about1 = true := code_word (m := ⟨7, 1⟩) (meth := k7m1) (c := k7c1) (by decide +kernel) rfl rfl rfl (by decide +kernel)
set_option maxRecDepth 65536 in
theorem w_c3 : (Jvm.Cond.code ({ cls := "java/lang/String", name := "<init>", desc := "([CIILjava/lang/Void;)V" } : Jvm.MethodName) jdk_42_method_149_code (6 : Nat) (Option.none : Option Jvm.ClassFile.FieldType)).before args0 about1 = true := code_word (m := ⟨7, 5⟩) (meth := k7m5) (c := k7c5) (by decide +kernel) rfl rfl rfl (by decide +kernel)
set_option maxRecDepth 65536 in
theorem w_c4 : (Jvm.Cond.code ({ cls := "java/lang/Object", name := "<init>", desc := "()V" } : Jvm.MethodName) object_method_1_code (1 : Nat) (Option.none : Option Jvm.ClassFile.FieldType)).before args0 about1 = true := code_word (m := ⟨0, 0⟩) (meth := k0m0) (c := k0c0) (by decide +kernel) rfl rfl rfl (by decide +kernel)
set_option maxRecDepth 65536 in
theorem w_c5 : (Jvm.Cond.code ({ cls := "java/lang/String", name := "equals", desc := "(Ljava/lang/Object;)Z" } : Jvm.MethodName) jdk_42_method_66_code (3 : Nat) (Option.some Jvm.ClassFile.FieldType.boolean)).before args0 about1 = true := code_word (m := ⟨7, 4⟩) (meth := k7m4) (c := k7c4) (by decide +kernel) rfl rfl rfl (by decide +kernel)
set_option maxRecDepth 65536 in
theorem w_c6 : (Jvm.Cond.code ({ cls := "java/lang/StringLatin1", name := "equals", desc := "([B[B)Z" } : Jvm.MethodName) jdk_43_method_13_code (3 : Nat) (Option.some Jvm.ClassFile.FieldType.boolean)).before args0 about1 = true := code_word (m := ⟨8, 2⟩) (meth := k8m2) (c := k8c2) (by decide +kernel) rfl rfl rfl (by decide +kernel)
set_option maxRecDepth 65536 in
theorem w_c7 : (Jvm.Cond.code ({ cls := "com/example/fair_index/fairindex/csw/ResultType", name := "named", desc := "(Ljava/lang/String;)Lcom/example/fair_index/fairindex/csw/ResultType;" } : Jvm.MethodName) prog_4_method_4_code (5 : Nat) (Option.some (Jvm.ClassFile.FieldType.object "com/example/fair_index/fairindex/csw/ResultType"))).before args0 about1 = true := code_word (m := ⟨10, 1⟩) (meth := k10m1) (c := k10c1) (by decide +kernel) rfl rfl rfl (by decide +kernel)
set_option maxRecDepth 65536 in
theorem w_c8 : (Jvm.Cond.code ({ cls := "com/example/fair_index/fairindex/csw/ResultType", name := "values", desc := "()[Lcom/example/fair_index/fairindex/csw/ResultType;" } : Jvm.MethodName) prog_4_method_1_code (0 : Nat) (Option.some (Jvm.ClassFile.FieldType.array (Jvm.ClassFile.FieldType.object "com/example/fair_index/fairindex/csw/ResultType")))).before args0 about1 = true := code_word (m := ⟨10, 0⟩) (meth := k10m0) (c := k10c0) (by decide +kernel) rfl rfl rfl (by decide +kernel)
set_option maxRecDepth 65536 in
theorem w_c9 : (Jvm.Cond.code ({ cls := "com/example/fair_index/fairindex/csw/ResultTypeNamedPinLaw", name := "put", desc := "([CLjava/lang/String;I)V" } : Jvm.MethodName) method_3_code (3 : Nat) (Option.none : Option Jvm.ClassFile.FieldType)).before args0 about1 = true := code_word (m := ⟨1, 2⟩) (meth := k1m2) (c := k1c2) (by decide +kernel) rfl rfl rfl (by decide +kernel)
set_option maxRecDepth 65536 in
theorem w_c10 : (Jvm.Cond.code ({ cls := "java/lang/String", name := "length", desc := "()I" } : Jvm.MethodName) jdk_42_method_54_code (1 : Nat) (Option.some Jvm.ClassFile.FieldType.int)).before args0 about1 = true := code_word (m := ⟨7, 2⟩) (meth := k7m2) (c := k7c2) (by decide +kernel) rfl rfl rfl (by decide +kernel)
set_option maxRecDepth 65536 in
theorem w_c11 : (Jvm.Cond.code ({ cls := "java/lang/String", name := "coder", desc := "()B" } : Jvm.MethodName) jdk_42_method_152_code (1 : Nat) (Option.some Jvm.ClassFile.FieldType.byte)).before args0 about1 = true := code_word (m := ⟨7, 6⟩) (meth := k7m6) (c := k7c6) (by decide +kernel) rfl rfl rfl (by decide +kernel)
set_option maxRecDepth 65536 in
theorem w_c12 : (Jvm.Cond.code ({ cls := "java/lang/String", name := "charAt", desc := "(I)C" } : Jvm.MethodName) jdk_42_method_56_code (2 : Nat) (Option.some Jvm.ClassFile.FieldType.char)).before args0 about1 = true := code_word (m := ⟨7, 3⟩) (meth := k7m3) (c := k7c3) (by decide +kernel) rfl rfl rfl (by decide +kernel)
set_option maxRecDepth 65536 in
theorem w_c13 : (Jvm.Cond.code ({ cls := "java/lang/String", name := "isLatin1", desc := "()Z" } : Jvm.MethodName) jdk_42_method_154_code (1 : Nat) (Option.some Jvm.ClassFile.FieldType.boolean)).before args0 about1 = true := code_word (m := ⟨7, 7⟩) (meth := k7m7) (c := k7c7) (by decide +kernel) rfl rfl rfl (by decide +kernel)
set_option maxRecDepth 65536 in
theorem w_c14 : (Jvm.Cond.code ({ cls := "java/lang/StringLatin1", name := "charAt", desc := "([BI)C" } : Jvm.MethodName) jdk_43_method_2_code (2 : Nat) (Option.some Jvm.ClassFile.FieldType.char)).before args0 about1 = true := code_word (m := ⟨8, 1⟩) (meth := k8m1) (c := k8c1) (by decide +kernel) rfl rfl rfl (by decide +kernel)
set_option maxRecDepth 65536 in
theorem w_c15 : (Jvm.Cond.code ({ cls := "java/lang/String", name := "checkIndex", desc := "(II)V" } : Jvm.MethodName) jdk_42_method_155_code (2 : Nat) (Option.none : Option Jvm.ClassFile.FieldType)).before args0 about1 = true := code_word (m := ⟨7, 8⟩) (meth := k7m8) (c := k7c8) (by decide +kernel) rfl rfl rfl (by decide +kernel)
set_option maxRecDepth 65536 in
theorem w_c16 : (Jvm.Cond.code ({ cls := "jdk/internal/util/Preconditions", name := "checkIndex", desc := "(IILjava/util/function/BiFunction;)I" } : Jvm.MethodName) jdk_41_method_11_code (3 : Nat) (Option.some Jvm.ClassFile.FieldType.int)).before args0 about1 = true := code_word (m := ⟨12, 1⟩) (meth := k12m1) (c := k12c1) (by decide +kernel) rfl rfl rfl (by decide +kernel)
set_option maxRecDepth 65536 in
theorem w_c17 : (Jvm.Cond.code ({ cls := "java/lang/StringUTF16", name := "compress", desc := "([CII)[B" } : Jvm.MethodName) jdk_52_method_16_code (6 : Nat) (Option.some (Jvm.ClassFile.FieldType.array Jvm.ClassFile.FieldType.byte))).before args0 about1 = true := code_word (m := ⟨13, 2⟩) (meth := k13m2) (c := k13c2) (by decide +kernel) rfl rfl rfl (by decide +kernel)
set_option maxRecDepth 65536 in
theorem w_c18 : (Jvm.Cond.code ({ cls := "java/lang/StringUTF16", name := "compress", desc := "([CI[BII)I" } : Jvm.MethodName) jdk_52_method_21_code (7 : Nat) (Option.some Jvm.ClassFile.FieldType.int)).before args0 about1 = true := code_word (m := ⟨13, 3⟩) (meth := k13m3) (c := k13c3) (by decide +kernel) rfl rfl rfl (by decide +kernel)
set_option maxRecDepth 65536 in
theorem w_c19 : (Jvm.Cond.code ({ cls := "java/lang/StringUTF16", name := "coderFromArrayLen", desc := "([BI)B" } : Jvm.MethodName) jdk_52_method_15_code (2 : Nat) (Option.some Jvm.ClassFile.FieldType.byte)).before args0 about1 = true := code_word (m := ⟨13, 1⟩) (meth := k13m1) (c := k13c1) (by decide +kernel) rfl rfl rfl (by decide +kernel)
set_option maxRecDepth 65536 in
theorem w_c20 : (Jvm.Cond.code ({ cls := "java/lang/Math", name := "min", desc := "(II)I" } : Jvm.MethodName) jdk_29_method_69_code (2 : Nat) (Option.some Jvm.ClassFile.FieldType.int)).before args0 about1 = true := code_word (m := ⟨14, 1⟩) (meth := k14m1) (c := k14c1) (by decide +kernel) rfl rfl rfl (by decide +kernel)
def codes1 : List Jvm.Cond := [Jvm.Cond.code x code maxLocals ret, Jvm.Cond.code ({ cls := "com/example/fair_index/fairindex/csw/ResultTypeNamedPinLaw", name := "make", desc := "([CI)Ljava/lang/String;" } : Jvm.MethodName) method_4_code (2 : Nat) (Option.some (Jvm.ClassFile.FieldType.object "java/lang/String")), Jvm.Cond.code ({ cls := "java/lang/String", name := "<init>", desc := "([C)V" } : Jvm.MethodName) jdk_42_method_3_code (2 : Nat) (Option.none : Option Jvm.ClassFile.FieldType), Jvm.Cond.code ({ cls := "java/lang/String", name := "<init>", desc := "([CIILjava/lang/Void;)V" } : Jvm.MethodName) jdk_42_method_149_code (6 : Nat) (Option.none : Option Jvm.ClassFile.FieldType), Jvm.Cond.code ({ cls := "java/lang/Object", name := "<init>", desc := "()V" } : Jvm.MethodName) object_method_1_code (1 : Nat) (Option.none : Option Jvm.ClassFile.FieldType), Jvm.Cond.code ({ cls := "java/lang/String", name := "equals", desc := "(Ljava/lang/Object;)Z" } : Jvm.MethodName) jdk_42_method_66_code (3 : Nat) (Option.some Jvm.ClassFile.FieldType.boolean), Jvm.Cond.code ({ cls := "java/lang/StringLatin1", name := "equals", desc := "([B[B)Z" } : Jvm.MethodName) jdk_43_method_13_code (3 : Nat) (Option.some Jvm.ClassFile.FieldType.boolean), Jvm.Cond.code ({ cls := "com/example/fair_index/fairindex/csw/ResultType", name := "named", desc := "(Ljava/lang/String;)Lcom/example/fair_index/fairindex/csw/ResultType;" } : Jvm.MethodName) prog_4_method_4_code (5 : Nat) (Option.some (Jvm.ClassFile.FieldType.object "com/example/fair_index/fairindex/csw/ResultType")), Jvm.Cond.code ({ cls := "com/example/fair_index/fairindex/csw/ResultType", name := "values", desc := "()[Lcom/example/fair_index/fairindex/csw/ResultType;" } : Jvm.MethodName) prog_4_method_1_code (0 : Nat) (Option.some (Jvm.ClassFile.FieldType.array (Jvm.ClassFile.FieldType.object "com/example/fair_index/fairindex/csw/ResultType"))), Jvm.Cond.code ({ cls := "com/example/fair_index/fairindex/csw/ResultTypeNamedPinLaw", name := "put", desc := "([CLjava/lang/String;I)V" } : Jvm.MethodName) method_3_code (3 : Nat) (Option.none : Option Jvm.ClassFile.FieldType), Jvm.Cond.code ({ cls := "java/lang/String", name := "length", desc := "()I" } : Jvm.MethodName) jdk_42_method_54_code (1 : Nat) (Option.some Jvm.ClassFile.FieldType.int), Jvm.Cond.code ({ cls := "java/lang/String", name := "coder", desc := "()B" } : Jvm.MethodName) jdk_42_method_152_code (1 : Nat) (Option.some Jvm.ClassFile.FieldType.byte), Jvm.Cond.code ({ cls := "java/lang/String", name := "charAt", desc := "(I)C" } : Jvm.MethodName) jdk_42_method_56_code (2 : Nat) (Option.some Jvm.ClassFile.FieldType.char), Jvm.Cond.code ({ cls := "java/lang/String", name := "isLatin1", desc := "()Z" } : Jvm.MethodName) jdk_42_method_154_code (1 : Nat) (Option.some Jvm.ClassFile.FieldType.boolean), Jvm.Cond.code ({ cls := "java/lang/StringLatin1", name := "charAt", desc := "([BI)C" } : Jvm.MethodName) jdk_43_method_2_code (2 : Nat) (Option.some Jvm.ClassFile.FieldType.char), Jvm.Cond.code ({ cls := "java/lang/String", name := "checkIndex", desc := "(II)V" } : Jvm.MethodName) jdk_42_method_155_code (2 : Nat) (Option.none : Option Jvm.ClassFile.FieldType), Jvm.Cond.code ({ cls := "jdk/internal/util/Preconditions", name := "checkIndex", desc := "(IILjava/util/function/BiFunction;)I" } : Jvm.MethodName) jdk_41_method_11_code (3 : Nat) (Option.some Jvm.ClassFile.FieldType.int), Jvm.Cond.code ({ cls := "java/lang/StringUTF16", name := "compress", desc := "([CII)[B" } : Jvm.MethodName) jdk_52_method_16_code (6 : Nat) (Option.some (Jvm.ClassFile.FieldType.array Jvm.ClassFile.FieldType.byte)), Jvm.Cond.code ({ cls := "java/lang/StringUTF16", name := "compress", desc := "([CI[BII)I" } : Jvm.MethodName) jdk_52_method_21_code (7 : Nat) (Option.some Jvm.ClassFile.FieldType.int), Jvm.Cond.code ({ cls := "java/lang/StringUTF16", name := "coderFromArrayLen", desc := "([BI)B" } : Jvm.MethodName) jdk_52_method_15_code (2 : Nat) (Option.some Jvm.ClassFile.FieldType.byte), Jvm.Cond.code ({ cls := "java/lang/Math", name := "min", desc := "(II)I" } : Jvm.MethodName) jdk_29_method_69_code (2 : Nat) (Option.some Jvm.ClassFile.FieldType.int)]
set_option maxRecDepth 65536 in
theorem codes_eq : words1.filter isCode = codes1 := rfl
theorem w_codes : ∀ c ∈ words1.filter isCode, c.before args0 about1 = true := by
  rw [codes_eq]
  intro c hc
  simp only [codes1, List.mem_cons, List.not_mem_nil, or_false] at hc
  rcases hc with rfl | rfl | rfl | rfl | rfl | rfl | rfl | rfl | rfl | rfl | rfl | rfl | rfl | rfl | rfl | rfl | rfl | rfl | rfl | rfl | rfl
  · exact w_c0
  · exact w_c1
  · exact w_c2
  · exact w_c3
  · exact w_c4
  · exact w_c5
  · exact w_c6
  · exact w_c7
  · exact w_c8
  · exact w_c9
  · exact w_c10
  · exact w_c11
  · exact w_c12
  · exact w_c13
  · exact w_c14
  · exact w_c15
  · exact w_c16
  · exact w_c17
  · exact w_c18
  · exact w_c19
  · exact w_c20
set_option maxRecDepth 65536 in
theorem w_t1 : (words1.take 24).all (fun c => isCode c || c.before args0 about1) = true := by decide +kernel
set_option maxRecDepth 65536 in
theorem w_t2 : ((words1.drop 24).take 24).all (fun c => isCode c || c.before args0 about1) = true := by decide +kernel
set_option maxRecDepth 65536 in
theorem w_t3 : (((words1.drop 24).drop 24).take 24).all (fun c => isCode c || c.before args0 about1) = true := by decide +kernel
set_option maxRecDepth 65536 in
theorem w_t4 : ((((words1.drop 24).drop 24).drop 24).take 24).all (fun c => isCode c || c.before args0 about1) = true := by decide +kernel
set_option maxRecDepth 65536 in
theorem w_t5 : ((((words1.drop 24).drop 24).drop 24).drop 24).all (fun c => isCode c || c.before args0 about1) = true := by decide +kernel
theorem w_tables : (allAtoms (Jvm.Cond.code x code maxLocals ret :: tables_1)).before args0 about1 = true := by
  rw [allAtoms_all]
  show words1.all (fun c => c.before args0 about1) = true
  refine all_split ?_ w_codes
  rw [← List.take_append_drop 24 words1, List.all_append, w_t1, ← List.take_append_drop 24 (words1.drop 24), List.all_append, w_t2, ← List.take_append_drop 24 ((words1.drop 24).drop 24), List.all_append, w_t3, ← List.take_append_drop 24 (((words1.drop 24).drop 24).drop 24), List.all_append, w_t4, w_t5]
  rfl
set_option maxRecDepth 65536 in
theorem w_rest : rest_1_c.before args0 about1 = true := by decide +kernel
set_option maxRecDepth 65536 in
theorem w_case : (Jvm.Cond.and given_1 narrow_1).before args0 about1 = true := by decide +kernel
set_option maxRecDepth 65536 in
theorem w_consts : constsHeld consts_1 about1 := Jvm.Lit.constsHeldB_iff.mp (by decide +kernel)
theorem w_applies : (headSpec (Jvm.Cond.code x code maxLocals ret :: tables_1) room_1).applies x e0.platform about1 = true :=
  (Spec.applies_iff w_frames).mpr ⟨w_running, w_runnable, w_alone, w_named, w_hears, w_ripe, w_room, w_tables⟩
theorem atStart : AtStart classFile x code maxLocals ret World_1 tables_1 room_1 Calls_1 rest_1 Pre_1 launch0 p0 e0 about1 theMethod args0 below0 :=
  ⟨lists_1, trivial, launch0.admits_env _ _ _, launch0.least_env, fairChoices_fair.cas, fairChoices_fair.clock, w_frames, w_args, w_heap, w_applies, ⟨w_consts, trivial⟩, w_rest, w_case⟩
end start1
theorem witness_1 : WitnessClaimed_1 := ⟨start1.p0, start1.e0, start1.about1, start1.theMethod, start1.args0, start1.below0, start1.atStart⟩
end Jvm.Pilot.@@N@@
