import JvmDerived
import JvmDerived.Pilot.@@N@@Statement
import JvmDerived.Pilot.@@N@@Code
set_option linter.unusedVariables false
set_option linter.unusedSimpArgs false
namespace Jvm.Pilot.@@N@@
open Jvm Jvm.ClassFile Sem Op Lib Jvm.Free Jvm.Stand Jvm.LawKit Jvm.RoadKit Bundle Jvm.Pilot.@@N@@.Jvm.D

/-! ## own kit: a walk as a tree -/
section OwnKit
variable {p : Program} {l : Launch} {e : Env} {R : Room} {s : State} {m : MethodId} {args : Array Value} {below : List Frame} {meth : Method} {c : Code} {T T' : State} {locs : List Loc} {cells slots : Nat} {Q : Option Value → Heap → List Loc → Prop} {f f' : JFrame} {Z : State} {a0 : Array Value} {h h' : Heap}
/-- from here the body comes to its return, and Q holds there -/
def Go (p : Program) (e : Env) (s : State) (below : List Frame) (R : Room) (Q : Option Value → Heap → List Loc → Prop) (T : State) (f : JFrame) : Prop :=
  ∃ s₂ o, Steps p.tables e below (T.setTop f) s₂ ∧ s₂.status = .running ∧ Ended s₂ below o ∧ ∃ v L, o = .returned v ∧ Q v s₂.heap L ∧ FrameEnd s o s₂ L R.cells R.slots
theorem Go.of (k : ∀ t, Steps p.tables e below (T'.setTop f') t → Steps p.tables e below (T.setTop f) t) (G : Go p e s below R Q T' f') : Go p e s below R Q T f := by
  obtain ⟨s2, o, h1, h2⟩ := G
  exact ⟨s2, o, k _ h1, h2⟩
theorem Go.cast (q : f = f') (G : Go p e s below R Q T f') : Go p e s below R Q T f := q ▸ G
theorem Go.retO (X : Stand p l e R s m args below meth c T locs cells slots) (hx : p.tables.exec = Jvm.exec) (hlk : meth.locks = false) {pc : Nat} {Ls : Array Slot} {w : Value} {t : FieldType} {i : Instr} {rest : List Value} (hret : meth.sig.returnType = some t) (hn : narrow t w = w)
    (hi : (i = .ireturn ∧ (t = .int ∨ t = .boolean ∨ t = .byte ∨ t = .char ∨ t = .short) ∧ ∃ z, w = .int z) ∨ (i = .lreturn ∧ t = .long ∧ ∃ z, w = .long z) ∨ (i = .dreturn ∧ t = .double ∧ ∃ z, w = .double z) ∨ (i = .freturn ∧ t = .float ∧ ∃ z, w = .float z) ∨ (i = .areturn ∧ t.isReference = true ∧ w.isRef = true))
    (hd : decode c.code pc = .ok (i, 1)) (hc : cells ≤ R.cells) (hs : slots ≤ R.slots) (hq : Q (some w) T.heap locs) : Go p e s below R Q T (mkF m pc Ls (w :: rest)) := by
  obtain ⟨fs, hr, hrun, hended, hW, hsame⟩ := X.leave (v := some w) (fun h => by rw [hret] at h; cases h) hlk
  exact ⟨_, _, retOut X hx hret hn hi hd hr, hrun, hended, _, _, rfl, hq, ⟨_, rfl⟩, hW, hsame.mono hc hs⟩
theorem Go.retI (X : Stand p l e R s m args below meth c T locs cells slots) (hx : p.tables.exec = Jvm.exec) (hlk : meth.locks = false) (hret : meth.sig.returnType = some .int) {pc : Nat} {Ls : Array Slot} {z : Int32} {rest : List Value}
    (hd : decode c.code pc = .ok (.ireturn, 1)) (hc : cells ≤ R.cells) (hs : slots ≤ R.slots) (hq : Q (some (.int z)) T.heap locs) : Go p e s below R Q T (mkF m pc Ls (.int z :: rest)) :=
  Go.retO X hx hlk hret rfl (Or.inl ⟨rfl, Or.inl rfl, _, rfl⟩) hd hc hs hq
theorem Go.retJ (X : Stand p l e R s m args below meth c T locs cells slots) (hx : p.tables.exec = Jvm.exec) (hlk : meth.locks = false) (hret : meth.sig.returnType = some .long) {pc : Nat} {Ls : Array Slot} {z : Int64} {rest : List Value}
    (hd : decode c.code pc = .ok (.lreturn, 1)) (hc : cells ≤ R.cells) (hs : slots ≤ R.slots) (hq : Q (some (.long z)) T.heap locs) : Go p e s below R Q T (mkF m pc Ls (.long z :: rest)) :=
  Go.retO X hx hlk hret rfl (Or.inr (Or.inl ⟨rfl, rfl, _, rfl⟩)) hd hc hs hq
theorem Go.retD (X : Stand p l e R s m args below meth c T locs cells slots) (hx : p.tables.exec = Jvm.exec) (hlk : meth.locks = false) (hret : meth.sig.returnType = some .double) {pc : Nat} {Ls : Array Slot} {z : UInt64} {rest : List Value}
    (hd : decode c.code pc = .ok (.dreturn, 1)) (hc : cells ≤ R.cells) (hs : slots ≤ R.slots) (hq : Q (some (.double z)) T.heap locs) : Go p e s below R Q T (mkF m pc Ls (.double z :: rest)) :=
  Go.retO X hx hlk hret rfl (Or.inr (Or.inr (Or.inl ⟨rfl, rfl, _, rfl⟩))) hd hc hs hq
theorem Go.retA (X : Stand p l e R s m args below meth c T locs cells slots) (hx : p.tables.exec = Jvm.exec) (hlk : meth.locks = false) {t : FieldType} (hret : meth.sig.returnType = some t) (ht : t.isReference = true) {pc : Nat} {Ls : Array Slot} {w : Value} {rest : List Value}
    (hw : w.isRef = true) (hd : decode c.code pc = .ok (.areturn, 1)) (hc : cells ≤ R.cells) (hs : slots ≤ R.slots) (hq : Q (some w) T.heap locs) : Go p e s below R Q T (mkF m pc Ls (w :: rest)) :=
  Go.retO X hx hlk hret (by cases t <;> first | (cases ht; done) | rfl) (Or.inr (Or.inr (Or.inr (Or.inr ⟨rfl, ht, hw⟩)))) hd hc hs hq
theorem Go.retB (X : Stand p l e R s m args below meth c T locs cells slots) (hx : p.tables.exec = Jvm.exec) (hlk : meth.locks = false) {t : FieldType} (hret : meth.sig.returnType = some t) (ht : t = .boolean ∨ t = .byte ∨ t = .char ∨ t = .short) {pc : Nat} {Ls : Array Slot} {z : Int32} {rest : List Value}
    (hd : decode c.code pc = .ok (.ireturn, 1)) (hc : cells ≤ R.cells) (hs : slots ≤ R.slots) {z' : Int32} (hz : nar t z = z') (hq : Q (some (.int z')) T.heap locs) : Go p e s below R Q T (mkF m pc Ls (.int z :: rest)) := by
  subst hz
  obtain ⟨fs, hr, hrun, hended, hW, hsame⟩ := X.leave (v := some (.int (nar t z))) (fun h => by rw [hret] at h; cases h) hlk
  exact ⟨_, _, retN X hx hret ht hd hr, hrun, hended, _, _, rfl, hq, ⟨_, rfl⟩, hW, hsame.mono hc hs⟩
theorem Go.retV (X : Stand p l e R s m args below meth c T locs cells slots) (hx : p.tables.exec = Jvm.exec) (hlk : meth.locks = false) (hret : meth.sig.returnType = none) {pc : Nat} {Ls : Array Slot}
    (hd : decode c.code pc = .ok (.return_, 1)) (hc : cells ≤ R.cells) (hs : slots ≤ R.slots) (hq : Q none T.heap locs) : Go p e s below R Q T (mkF m pc Ls []) := by
  obtain ⟨fs, hr, hrun, hended, hW, hsame⟩ := X.leave (v := none) (fun _ => rfl) hlk
  exact ⟨_, _, X.returnOut hx hret hd hr, hrun, hended, _, _, rfl, hq, ⟨_, rfl⟩, hW, hsame.mono hc hs⟩
/-- a body's contract: handed as', over the heap h, it returns and Q holds -/
def Ok (l : Launch) (Z : State) (y : MethodName) (bytes : ByteArray) (maxL : Nat) (ret : Option FieldType) (rm : Room) (as' : Array Value) (h : Heap) (Q : Option Value → Heap → List Loc → Prop) : Prop :=
  ∀ ws : List Jvm.Cond, MetFree l y (head1 (Jvm.Cond.code y bytes maxL ret :: ws) rm) (fun a U => a = as' ∧ Z.Warmed39 U.vm ∧ U.heap = h) (fun _ _ _ _ _ => True) (fun _ U o U' => ∃ v L, o = .returned v ∧ Q v U'.heap L ∧ FrameEnd U o U' L rm.cells rm.slots)
theorem Ok.mk {y : MethodName} {bytes : ByteArray} {maxL : Nat} {ret : Option FieldType} {rm : Room} {as' : Array Value} (hn : plainFor y = true)
    (k : ∀ p e s m below meth c s₁, p.tables.exec = Jvm.exec → c.code = bytes → c.maxLocals = maxL → s.vm.findClass y.cls = some m.cls → meth.name = y.name → meth.sig.returnType = ret → meth.locks = false → Z.Warmed39 s.vm → s₁.heap = h → Stand p l e rm s m as' below meth c s₁ [] 0 0 → Go p e s below rm Q s₁ (entryFrame m as' maxL)) :
    Ok l Z y bytes maxL ret rm as' h Q := by
  intro ws
  refine MetFree.of_bodySF hn hisR ?_
  intro p e s m args below meth c s₁ Bd hml0 hP hK
  obtain ⟨rfl, hZ, hh⟩ := hP
  exact k p e s m below meth c s₁ Bd.exec Bd.bytes hml0 (findClass_of_methodNamed Bd.named) (name_of_methodNamed Bd.named Bd.method).1 Bd.returns Bd.notSynchronized hZ (by rw [← hh, Bd.state]; rfl) (Stand.of_body Bd)
theorem callSt (X : Stand p l e R s m args below meth c T locs cells slots) (hx : p.tables.exec = Jvm.exec) (hZ : Z.Warmed39 s.vm) {own : String} {index : Nat} {y : MethodName} {bytes : ByteArray} {maxL : Nat} {ret : Option FieldType} {rm : Room} {as' : Array Value}
    (hown : s.vm.findClass own = some m.cls) (w1 : (Jvm.Cond.methodLink own index y).before a0 Z = true) (w2 : (Jvm.Cond.static y).before a0 Z = true) (w3 : (Jvm.Cond.initialized y.cls).before a0 Z = true) (w4 : (Jvm.Cond.code y bytes maxL ret).before a0 Z = true)
    (hy : y.cls ≠ "java/lang/invoke/MethodHandle" ∧ y.cls ≠ "java/lang/invoke/VarHandle") (hM : Ok l Z y bytes maxL ret rm as' h Q) (eT : T.heap = h) {W : Nat} (hf : rm.frames + 1 ≤ R.frames) (hl : W + (maxL + 11) + rm.locals ≤ R.locals) (hc : cells + rm.cells ≤ R.cells) (hs : slots + rm.slots ≤ R.slots)
    {g : JFrame} (hg : g.method = m) (hsize : g.locals.size = c.maxLocals) {argsL rest : List Value} (hlen : ∀ sig, parseMethodDescriptor y.desc = some sig → argsL.length = sig.parameters.length) (has : argsL.toArray = as')
    (hstack : g.stack = argsL.reverse ++ rest) (hW : 2 * g.monitorRoom + (rest.map fun v => v.category).sum ≤ W) (hd : decode c.code g.pc = .ok (.invokestatic index, 3)) :
    ∃ T' v L, Stand p l e R s m args below meth c T' (locs ++ L) (cells + rm.cells) (slots + rm.slots) ∧ Q v T'.heap L ∧ ∀ t, Steps p.tables e below (T'.setTop { g with pc := g.pc + 3, stack := v.toList ++ rest }) t → Steps p.tables e below (T.setTop g) t := by
  subst has
  obtain ⟨v, _, ⟨T1, L1, k1, n1⟩, -, X1, ⟨Lc, hQ, l1, y1, z1⟩, st⟩ := Jvm.LawKit.callS X hx (y := y) hown (mvT hZ w1) (mvT hZ w2) (mvT hZ w3) (mvT hZ w4) hy (backOf (W := W) (hM []) hZ w4 w3 hf hl) hg hsize hlen hstack hW hd (fun _ _ => ⟨rfl, eT, hc, hs⟩)
  dsimp only [Pt.U, Pt.locs, Pt.cells, Pt.slots] at X1 l1 y1 z1 st hQ
  subst l1 y1 z1
  exact ⟨T1, v, Lc, X1, hQ, st⟩
theorem callNew (X : Stand p l e R s m args below meth c T locs cells slots) (hx : p.tables.exec = Jvm.exec) (hZ : Z.Warmed39 s.vm) {own : String} {index : Nat} {y : MethodName} {bytes : ByteArray} {maxL : Nat} {rm : Room} {as' : Array Value} (hy1 : y.name = "<init>")
    (hown : s.vm.findClass own = some m.cls) (w1 : (Jvm.Cond.methodLink own index y).before a0 Z = true) (w2 : (Jvm.Cond.instanceMethod y).before a0 Z = true) (w3 : (Jvm.Cond.initialized y.cls).before a0 Z = true) (w4 : (Jvm.Cond.code y bytes maxL none).before a0 Z = true)
    (hy : y.cls ≠ "java/lang/invoke/MethodHandle" ∧ y.cls ≠ "java/lang/invoke/VarHandle") (hM : Ok l Z y bytes maxL none rm as' h Q) (eT : T.heap = h) {W : Nat} (hf : rm.frames + 1 ≤ R.frames) (hl : W + (maxL + 11) + rm.locals ≤ R.locals) (hc : cells + rm.cells ≤ R.cells) (hs : slots + rm.slots ≤ R.slots)
    {g : JFrame} (hg : g.method = m) (hsize : g.locals.size = c.maxLocals) {a : Addr} {argsL rest : List Value} (hlen : ∀ sig, parseMethodDescriptor y.desc = some sig → argsL.length = sig.parameters.length) (has : (.ref a :: argsL).toArray = as')
    (hstack : g.stack = argsL.reverse ++ .ref a :: rest) (hW : 2 * g.monitorRoom + (rest.map fun v => v.category).sum ≤ W) (hd : decode c.code g.pc = .ok (.invokespecial index, 3)) :
    ∃ T' v L, Stand p l e R s m args below meth c T' (locs ++ L) (cells + rm.cells) (slots + rm.slots) ∧ Q v T'.heap L ∧ ∀ t, Steps p.tables e below (T'.setTop { g with pc := g.pc + 3, stack := v.toList ++ rest }) t → Steps p.tables e below (T.setTop g) t := by
  subst has
  obtain ⟨v, _, ⟨T1, L1, k1, n1⟩, -, X1, ⟨Lc, hQ, l1, y1, z1⟩, st⟩ := X.specialBack hx (y := y) hy1 hown (mvT hZ w1) (mvT hZ w2) (mvT hZ w4) hy (backOf (W := W) (hM []) hZ w4 w3 hf hl) hg hsize (Steps.refl _) (a := a) hlen hstack hW hd (fun _ _ => ⟨rfl, eT, hc, hs⟩)
  dsimp only [Pt.U, Pt.locs, Pt.cells, Pt.slots] at X1 l1 y1 z1 st hQ
  subst l1 y1 z1
  exact ⟨T1, v, Lc, X1, hQ, fun t k => st.trans k⟩
theorem callVi (X : Stand p l e R s m args below meth c T locs cells slots) (hx : p.tables.exec = Jvm.exec) (hZ : Z.Warmed39 s.vm) {own C : String} {index : Nat} {y z : MethodName} {bytes : ByteArray} {maxL : Nat} {ret : Option FieldType} {rm : Room} {as' : Array Value}
    (hown : s.vm.findClass own = some m.cls) (w1 : (Jvm.Cond.methodLink own index y).before a0 Z = true) (w2 : (Jvm.Cond.declares y).before a0 Z = true) (nf : NotFace s y) (w3 : (Jvm.Cond.selects C y z).before a0 Z = true) (w4 : (Jvm.Cond.instanceMethod z).before a0 Z = true) (w5 : (Jvm.Cond.code z bytes maxL ret).before a0 Z = true) (w6 : (Jvm.Cond.initialized z.cls).before a0 Z = true)
    (hy : y.cls ≠ "java/lang/invoke/MethodHandle" ∧ y.cls ≠ "java/lang/invoke/VarHandle") (hM : Ok l Z z bytes maxL ret rm as' h Q) (eT : T.heap = h) {W : Nat} (hf : rm.frames + 1 ≤ R.frames) (hl : W + (maxL + 11) + rm.locals ≤ R.locals) (hc : cells + rm.cells ≤ R.cells) (hs : slots + rm.slots ≤ R.slots)
    {a : Addr} (E : Exa Z h a C) {g : JFrame} (hg : g.method = m) (hsize : g.locals.size = c.maxLocals) {argsL rest : List Value} (hlen : ∀ sig, parseMethodDescriptor y.desc = some sig → argsL.length = sig.parameters.length) (has : (.ref a :: argsL).toArray = as')
    (hstack : g.stack = argsL.reverse ++ .ref a :: rest) (hW : 2 * g.monitorRoom + (rest.map fun v => v.category).sum ≤ W) (hd : decode c.code g.pc = .ok (.invokevirtual index, 3)) :
    ∃ T' v L, Stand p l e R s m args below meth c T' (locs ++ L) (cells + rm.cells) (slots + rm.slots) ∧ Q v T'.heap L ∧ ∀ t, Steps p.tables e below (T'.setTop { g with pc := g.pc + 3, stack := v.toList ++ rest }) t → Steps p.tables e below (T.setTop g) t := by
  subst has
  obtain ⟨cq, kq, qa, qb, qc⟩ := isOf hZ eT E
  obtain ⟨v, _, ⟨T1, L1, k1, n1⟩, -, X1, ⟨Lc, hQ, l1, y1, z1⟩, st⟩ := X.virtualBack hx (y := y) (z := z) hown (mvT hZ w1) (mvT hZ w2) nf (mvT hZ w3) (mvT hZ w4) hy (backOf (W := W) (hM []) hZ w5 w6 hf hl) qa qc hg hsize (Steps.refl _) hlen hstack hW hd (fun _ _ => ⟨rfl, eT, hc, hs⟩)
  dsimp only [Pt.U, Pt.locs, Pt.cells, Pt.slots] at X1 l1 y1 z1 st hQ
  subst l1 y1 z1
  exact ⟨T1, v, Lc, X1, hQ, fun t k => st.trans k⟩
/-- a new object at the address a: a fresh name for the heap's end -/
theorem newOb (X : Stand p l e R s m args below meth c T locs cells slots) (hx : p.tables.exec = Jvm.exec) (hZ : Z.Warmed39 s.vm) {own C : String} {index n : Nat} (hown : s.vm.findClass own = some m.cls) (w : (Jvm.Cond.classLink own index C).before a0 Z = true) (wi : (Jvm.Cond.instantiable C n).before a0 Z = true) (wz : (Jvm.Cond.initialized C).before a0 Z = true) (eT : T.heap = h)
    {g : JFrame} (hg : g.method = m) (hd : decode c.code g.pc = .ok (.new index, 3)) (hc : cells + 1 ≤ R.cells) (hl : slots + n ≤ R.slots) :
    ∃ T' h' a, a = h.size ∧ Stand p l e R s m args below meth c T' locs (cells + 1) (slots + n) ∧ T'.heap = h' ∧ Ext h h' ∧ Exa Z h' a C ∧ (∀ {O nm d : String} {ty : FieldType}, Laid Z a0 C O nm d → parseFieldDescriptor d = some ty → Fld Z h' a O nm d (defaultValue ty)) ∧
      ∀ t, Steps p.tables e below (T'.setTop { g with pc := g.pc + 3, stack := .ref a :: g.stack }) t → Steps p.tables e below (T.setTop g) t := by
  obtain ⟨T2, h2, X2, e2, E2, A2, D2, -, st2⟩ := newO X hx hZ hown w wi wz eT hg hd hc hl
  exact ⟨T2, h2, h.size, rfl, X2, e2, E2, A2, D2, st2⟩
theorem Old0.keep {ws : List Addr} (X : Ext Z.heap h) (K : Keep h h' ws) (q : ∀ x ∈ ws, Z.heap.size ≤ x) : Ext Z.heap h' := (Old.keep (n0 := Z.heap.size) ⟨rfl, X⟩ K q).2
theorem Old0.wr {a : Addr} {sl : Nat} {v : Value} (X : Ext Z.heap h) (W : Wr h h' a sl v) (q : Z.heap.size ≤ a) : Ext Z.heap h' := (Old.wr (n0 := Z.heap.size) ⟨rfl, X⟩ W q).2
theorem Old0.ext (X : Ext Z.heap h) (E : Ext h h') : Ext Z.heap h' := (Old.ext (n0 := Z.heap.size) ⟨rfl, X⟩ E).2
theorem ext_rfl : Ext h h := ⟨Nat.le_refl _, fun _ _ q => q⟩
theorem eqI_v {first : State} {o : Option Outcome} {idx : List Nat} {a : Term} {k : Int32} (q : (Jvm.Cond.eq a (.int k)).value args first o s idx = some true) : a.eval args first o idx s = some (.int k) := by
  cases ha : a.eval args first o idx s with
  | none => simp [Jvm.Cond.value, ha] at q
  | some x => cases x <;> simp [Jvm.Cond.value, ha, Term.eval] at q ⊢; exact q
theorem eqJ_v {first : State} {o : Option Outcome} {idx : List Nat} {a : Term} {k : Int64} (q : (Jvm.Cond.eq a (.long k)).value args first o s idx = some true) : a.eval args first o idx s = some (.long k) := by
  cases ha : a.eval args first o idx s with
  | none => simp [Jvm.Cond.value, ha] at q
  | some x => cases x <;> simp [Jvm.Cond.value, ha, Term.eval] at q ⊢; exact q
theorem neI_v {first : State} {o : Option Outcome} {idx : List Nat} {a : Term} {x k : Int32} (ha : a.eval args first o idx s = some (.int x)) (q : (Jvm.Cond.not (.eq a (.int k))).value args first o s idx = some true) : ¬ x = k := by
  have q' := not_v q
  intro e
  subst e
  simp [Jvm.Cond.value, ha, Term.eval] at q'
theorem neR_v {first : State} {o : Option Outcome} {idx : List Nat} {a b : Term} {x y : Addr} (ha : a.eval args first o idx s = some (.ref x)) (hb : b.eval args first o idx s = some (.ref y)) (q : (Jvm.Cond.not (.eq a b)).value args first o s idx = some true) : ¬ x = y := by
  have q' := not_v q
  intro e
  subst e
  simp [Jvm.Cond.value, ha, hb] at q'
theorem eqR_v {first : State} {o : Option Outcome} {idx : List Nat} {a b : Term} {x : Addr} (hb : b.eval args first o idx s = some (.ref x)) (q : (Jvm.Cond.eq a b).value args first o s idx = some true) : a.eval args first o idx s = some (.ref x) := by
  cases ha : a.eval args first o idx s with
  | none => simp [Jvm.Cond.value, ha] at q
  | some x => cases x <;> simp [Jvm.Cond.value, ha, hb] at q ⊢; exact q
theorem callPr (X : Stand p l e R s m args below meth c T locs cells slots) (hx : p.tables.exec = Jvm.exec) (hZ : Z.Warmed39 s.vm) {own : String} {index : Nat} {y : MethodName} {bytes : ByteArray} {maxL : Nat} {ret : Option FieldType} {rm : Room} {as' : Array Value}
    (hown : s.vm.findClass own = some m.cls) (w1 : (Jvm.Cond.methodLink own index y).before a0 Z = true) (w2 : (Jvm.Cond.instanceMethod y).before a0 Z = true) (w3 : (Jvm.Cond.selects y.cls y y).before a0 Z = true) (w4 : (Jvm.Cond.privateMethod y).before a0 Z = true) (w5 : (Jvm.Cond.initialized y.cls).before a0 Z = true) (w6 : (Jvm.Cond.code y bytes maxL ret).before a0 Z = true)
    (hy : y.cls ≠ "java/lang/invoke/MethodHandle" ∧ y.cls ≠ "java/lang/invoke/VarHandle") (hM : Ok l Z y bytes maxL ret rm as' h Q) (eT : T.heap = h) {W : Nat} (hf : rm.frames + 1 ≤ R.frames) (hl : W + (maxL + 11) + rm.locals ≤ R.locals) (hc : cells + rm.cells ≤ R.cells) (hs : slots + rm.slots ≤ R.slots)
    {C : String} {a : Addr} (E : Exa Z h a C) {g : JFrame} (hg : g.method = m) (hsize : g.locals.size = c.maxLocals) {argsL rest : List Value} (hlen : ∀ sig, parseMethodDescriptor y.desc = some sig → argsL.length = sig.parameters.length) (has : (.ref a :: argsL).toArray = as')
    (hstack : g.stack = argsL.reverse ++ .ref a :: rest) (hW : 2 * g.monitorRoom + (rest.map fun v => v.category).sum ≤ W) (hd : decode c.code g.pc = .ok (.invokevirtual index, 3)) :
    ∃ T' v L, Stand p l e R s m args below meth c T' (locs ++ L) (cells + rm.cells) (slots + rm.slots) ∧ Q v T'.heap L ∧ ∀ t, Steps p.tables e below (T'.setTop { g with pc := g.pc + 3, stack := v.toList ++ rest }) t → Steps p.tables e below (T.setTop g) t := by
  subst has
  obtain ⟨cq, q1, q2⟩ := E.cell
  obtain ⟨v, _, ⟨T1, L1, k1, n1⟩, -, X1, ⟨Lc, hQ, l1, y1, z1⟩, st⟩ := X.privateBack hx (y := y) hown (mvT hZ w1) (mvT hZ w2) (mvT hZ w3) (Cond.privateMethod_at (mvP hZ w4 (args := #[]))) (mvT hZ w6) hy (backOf (W := W) (hM []) hZ w6 w5 hf hl) hg hsize (Steps.refl _) (a := a) (by rw [eT]; exact q1) q2 hlen hstack hW hd (fun _ _ => ⟨rfl, eT, hc, hs⟩)
  dsimp only [Pt.U, Pt.locs, Pt.cells, Pt.slots] at X1 l1 y1 z1 st hQ
  subst l1 y1 z1
  exact ⟨T1, v, Lc, X1, hQ, fun t k => st.trans k⟩
theorem callIf (X : Stand p l e R s m args below meth c T locs cells slots) (hx : p.tables.exec = Jvm.exec) (hZ : Z.Warmed39 s.vm) {own C : String} {index count : Nat} {xi y : MethodName} {bytes : ByteArray} {maxL : Nat} {ret : Option FieldType} {rm : Room} {as' : Array Value}
    (hown : s.vm.findClass own = some m.cls) (w1 : (Jvm.Cond.methodLink own index xi).before a0 Z = true) (w2 : (Jvm.Cond.declares xi).before a0 Z = true) (w3 : (Jvm.Cond.interfaceMethod xi.cls xi.cls xi.name xi.desc).before args s = true) (w4 : (Jvm.Cond.selects C xi y).before a0 Z = true) (w5 : (Jvm.Cond.instanceMethod y).before a0 Z = true) (w6 : (Jvm.Cond.publicMethod y).before a0 Z = true) (w7 : (Jvm.Cond.unhidden C xi.name xi.desc).before a0 Z = true) (w8 : (Jvm.Cond.castable C xi.cls).before a0 Z = true) (w9 : (Jvm.Cond.code y bytes maxL ret).before a0 Z = true) (w10 : (Jvm.Cond.initialized y.cls).before a0 Z = true)
    (hy : xi.cls ≠ "java/lang/invoke/MethodHandle" ∧ xi.cls ≠ "java/lang/invoke/VarHandle") (hM : Ok l Z y bytes maxL ret rm as' h Q) (eT : T.heap = h) {W : Nat} (hf : rm.frames + 1 ≤ R.frames) (hl : W + (maxL + 11) + rm.locals ≤ R.locals) (hc : cells + rm.cells ≤ R.cells) (hs : slots + rm.slots ≤ R.slots)
    {a : Addr} (E : Exa Z h a C) {g : JFrame} (hg : g.method = m) (hsize : g.locals.size = c.maxLocals) {argsL rest : List Value} (hlen : ∀ sig, parseMethodDescriptor xi.desc = some sig → argsL.length = sig.parameters.length) (has : (.ref a :: argsL).toArray = as')
    (hstack : g.stack = argsL.reverse ++ .ref a :: rest) (hW : 2 * g.monitorRoom + (rest.map fun v => v.category).sum ≤ W) (hd : decode c.code g.pc = .ok (.invokeinterface index count, 5)) :
    ∃ T' v L, Stand p l e R s m args below meth c T' (locs ++ L) (cells + rm.cells) (slots + rm.slots) ∧ Q v T'.heap L ∧ ∀ t, Steps p.tables e below (T'.setTop { g with pc := g.pc + 5, stack := v.toList ++ rest }) t → Steps p.tables e below (T.setTop g) t := by
  subst has
  obtain ⟨cq, kq, qa, qb, qc⟩ := isOf hZ eT E
  obtain ⟨v, _, ⟨T1, L1, k1, n1⟩, -, X1, ⟨Lc, hQ, l1, y1, z1⟩, st⟩ := X.interfaceBack hx (xi := xi) (y := y) hown (mvT hZ w1) (mvT hZ w2) w3 (mvT hZ w4) (mvT hZ w5) (mvT hZ w6) (mvT hZ w7) (mvT hZ w8) hy (backOf (W := W) (hM []) hZ w9 w10 hf hl) qa qb qc hg hsize (Steps.refl _) hlen hstack hW hd (fun _ _ => ⟨rfl, eT, hc, hs⟩)
  dsimp only [Pt.U, Pt.locs, Pt.cells, Pt.slots] at X1 l1 y1 z1 st hQ
  subst l1 y1 z1
  exact ⟨T1, v, Lc, X1, hQ, fun t k => st.trans k⟩
theorem newAr (X : Stand p l e R s m args below meth c T locs cells slots) (hx : p.tables.exec = Jvm.exec) (hZ : Z.Warmed39 s.vm) {aty : ArrayType} (w : (Jvm.Cond.arrayClass (newarray.typeOf aty)).before a0 Z = true) (eT : T.heap = h) {g : JFrame} (hg : g.method = m) (hd : decode c.code g.pc = .ok (.newarray aty, 2)) {n : Int32} {rest : List Value} (hs : g.stack = .int n :: rest)
    (hn : ¬ n < 0) {cap : Nat} (hcap : n.toNatClampNeg ≤ cap) (hb : cap * 8 ≤ 536870912) (hc : cells + 1 ≤ R.cells) (hl : slots + cap ≤ R.slots) {ad : String} (had : "[" ++ (newarray.typeOf aty).toString = ad) :
    ∃ T' h' k a, a = h.size ∧ Stand p l e R s m args below meth c T' locs (cells + 1) (slots + cap) ∧ T'.heap = h' ∧ Ext h h' ∧ Arv Z h' a k (newarray.typeOf aty) n [] (defaultValue (newarray.typeOf aty)) ∧ Exa Z h' a ad ∧
      ∀ t, Steps p.tables e below (T'.setTop { g with pc := g.pc + 2, stack := .ref a :: rest }) t → Steps p.tables e below (T.setTop g) t := by
  obtain ⟨T2, h2, k, X2, e2, E2, A2, B2, st2⟩ := newPE X hx hZ w eT hg hd hs hn hcap hb hc hl had
  exact ⟨T2, h2, k, h.size, rfl, X2, e2, E2, Arv.new A2 hn, B2, st2⟩
theorem newRr (X : Stand p l e R s m args below meth c T locs cells slots) (hx : p.tables.exec = Jvm.exec) (hZ : Z.Warmed39 s.vm) {own C : String} {index : Nat} (hown : s.vm.findClass own = some m.cls) (w1 : (Jvm.Cond.classLink own index C).before a0 Z = true) (w2 : (Jvm.Cond.arrayOver (.object C)).before a0 Z = true)
    (eT : T.heap = h) {g : JFrame} (hg : g.method = m) (hd : decode c.code g.pc = .ok (.anewarray index, 3)) {n : Int32} {rest : List Value} (hs : g.stack = .int n :: rest) (hn : ¬ n < 0) {cap : Nat} (hcap : n.toNatClampNeg ≤ cap) (hb : cap * 8 ≤ 536870912) (hc : cells + 1 ≤ R.cells) (hl : slots + cap ≤ R.slots) {ad : String} (had : "[" ++ (FieldType.object C).toString = ad) :
    ∃ T' h' k a, a = h.size ∧ Stand p l e R s m args below meth c T' locs (cells + 1) (slots + cap) ∧ T'.heap = h' ∧ Ext h h' ∧ Arv Z h' a k (.object C) n [] .null ∧ Exa Z h' a ad ∧ Ovr Z k C ∧
      ∀ t, Steps p.tables e below (T'.setTop { g with pc := g.pc + 3, stack := .ref a :: rest }) t → Steps p.tables e below (T.setTop g) t := by
  obtain ⟨T2, h2, k, X2, e2, E2, A2, B2, O2, st2⟩ := newRE X hx hZ hown w1 w2 eT hg hd hs hn hcap hb hc hl had
  exact ⟨T2, h2, k, h.size, rfl, X2, e2, E2, Arv.new A2 hn, B2, O2, st2⟩
theorem own_len {t : Term} {a : Addr} {cl : Cell} {ty : FieldType} {k : Int32} (ev : t.eval args s none [] s = some (.ref a)) (A : Arr s s.heap a cl ty) (q : (Term.length t).eval args s none [] s = some (.int k)) : cl.slots.size < 2 ^ 31 ∧ cl.slots.size.toInt32 = k := by
  have ha := Arr.fin (U := s) (Vm.Alike.refl _) A
  simp only [Term.eval, ev] at q
  simp at q
  rw [ha] at q
  simp only [Option.bind_some] at q
  split at q
  · rename_i hlt
    simp only [Option.some.injEq, Value.int.injEq] at q
    exact ⟨hlt, q⟩
  · cases q
theorem own_el {t : Term} {a : Addr} {cl : Cell} {ty : FieldType} {j : Int32} {v : Value} (ev : t.eval args s none [] s = some (.ref a)) (A : Arr s s.heap a cl ty) (q : (Term.elem t (.int j)).eval args s none [] s = some v) : cl.slots[j.toNatClampNeg]? = some v :=
  (elem_in q ev rfl A.1).2
theorem cloneV (X : Stand p l e R s m args below meth c T locs cells slots) (hx : p.tables.exec = Jvm.exec) (hZ : Z.Warmed39 s.vm) {own ad : String} {index : Nat} (hown : s.vm.findClass own = some m.cls)
    (w1 : (Jvm.Cond.methodLink own index ⟨ad, "clone", "()Ljava/lang/Object;"⟩).before a0 Z = true) (w2 : (Jvm.Cond.sameMethod ad "java/lang/Object" "clone" "()Ljava/lang/Object;").before a0 Z = true) (w3 : (Jvm.Cond.native ⟨"java/lang/Object", "clone", "()Ljava/lang/Object;"⟩).before a0 Z = true)
    (w4 : (Jvm.Cond.instanceMethod ⟨"java/lang/Object", "clone", "()Ljava/lang/Object;"⟩).before a0 Z = true) (w5 : (Jvm.Cond.selects ad ⟨ad, "clone", "()Ljava/lang/Object;"⟩ ⟨"java/lang/Object", "clone", "()Ljava/lang/Object;"⟩).before a0 Z = true) (w6 : (Jvm.Cond.castable ad "java/lang/Cloneable").before a0 Z = true)
    (eT : T.heap = h) {b : Addr} {k : ClassId} {ty : FieldType} {z : Int32} {vs : List Value} {dv : Value} (F : Arv Z h b k ty z vs dv) (E : Exa Z h b ad) {g : JFrame} (hg : g.method = m) (hsize : g.locals.size = c.maxLocals) {rest : List Value} (hst : g.stack = .ref b :: rest) (hd : decode c.code g.pc = .ok (.invokevirtual index, 3))
    (hf : 1 ≤ R.frames) {W cap : Nat} (hW : 2 * g.monitorRoom + (rest.map fun v => v.category).sum ≤ W) (hl : W + 14 ≤ R.locals) (hcap : z.toNatClampNeg ≤ cap) (hc : cells + 1 ≤ R.cells) (hsl : slots + cap ≤ R.slots) :
    ∃ T' h' a, a = h.size ∧ Stand p l e R s m args below meth c T' locs (cells + 1) (slots + cap) ∧ T'.heap = h' ∧ Ext h h' ∧ Arv Z h' a k ty z vs dv ∧ Exa Z h' a ad ∧
      ∀ t, Steps p.tables e below (T'.setTop { g with pc := g.pc + 3, stack := .ref a :: rest }) t → Steps p.tables e below (T.setTop g) t := by
  obtain ⟨T2, h2, X2, e2, E2, A2, B2, st2⟩ := cloneH X hx hZ hown w1 w2 w3 w4 w5 w6 eT F.arh E hg hsize hst hd hf hW hl hcap hc hsl
  exact ⟨T2, h2, h.size, rfl, X2, e2, E2, A2, B2, st2⟩
end OwnKit
theorem nf_mate {s : State} {args : Array Value} {C : String} {y y' : MethodName} (hsel : (Jvm.Cond.selects C y' y').before args s = true) (hc : y'.cls = y.cls) : NotFace s y := fun r0 h0 => by
  obtain ⟨c2, r2, m2, q1, q2, q3, q4, kP, hkP, hkPi⟩ := Cond.selects_spec hsel
  have h1 := findClass_of_methodNamed h0
  have h2 := findClass_of_methodNamed q3
  rw [hc, h1] at h2
  exact ⟨kP, (Option.some.inj h2) ▸ hkP, hkPi⟩
/-! a walk under a native's frame: the room by the machine's own weighing (the steps as the library's laws of Stand take them) -/
section OwnRaw
variable {p : Program} {l : Launch} {e : Env} {s : State} {m : MethodId} {below : List Frame} {c : Code} {U T : State} {Z : State} {a0 args : Array Value} {h : Heap} {v : Value}
def Rw (l : Launch) (e : Env) (s : State) (m : MethodId) (below : List Frame) (c : Code) (U T : State) : Prop := l.admits e ∧ At T m c below ∧ s.WarmedH T.vm ∧ T = U.setVm T.vm
theorem Rw.here (X : Rw l e s m below c U T) : At T m c below := X.2.1
theorem Rw.noted (X : Rw l e s m below c U T) {vm' : Vm} (hW : s.WarmedH vm') : Rw l e s m below c U (T.setVm vm') := ⟨X.1, X.2.1.setVm (X.2.2.1.alike.symm.trans hW.alike), hW, by rw [X.2.2.2]; rfl⟩
def RGo (p : Program) (e : Env) (s : State) (below : List Frame) (v : Value) (U T : State) (f : JFrame) : Prop :=
  ∃ vm', s.WarmedH vm' ∧ ∀ fs, handOver (U.setVm vm') (some v) U.frames.tail = some fs → Steps p.tables e below (T.setTop f) ((U.setVm vm').setFrames fs)
theorem RGo.of {T' : State} {f f' : JFrame} (k : ∀ t, Steps p.tables e below (T'.setTop f') t → Steps p.tables e below (T.setTop f) t) (G : RGo p e s below v U T' f') : RGo p e s below v U T f := by
  obtain ⟨vm', hW, st⟩ := G
  exact ⟨vm', hW, fun fs hfs => k _ (st fs hfs)⟩
theorem RGo.cast {f f' : JFrame} (q : f = f') (G : RGo p e s below v U T f') : RGo p e s below v U T f := q ▸ G
theorem Rw.ldc2DoubleC (X : Rw l e s m below c U T) (hexec : p.tables.exec = Jvm.exec) {own : String} {index : Nat} {b : UInt64} (hown : s.vm.findClass own = some m.cls) (hconst : (Jvm.Cond.constantDouble own index b).before #[] s = true) {g : JFrame} (hg : g.method = m) (hdg : decode c.code g.pc = .ok (.ldc2_w index, 3)) :
    ∀ t, Steps p.tables e below (T.setTop { g with pc := g.pc + 3, stack := .double b :: g.stack }) t → Steps p.tables e below (T.setTop g) t := by
  obtain ⟨k, cf, hk, hcf, hcp⟩ := Cond.constantDouble_spec hown hconst
  obtain ⟨k', hk', he⟩ := X.2.2.1.alike.2.2 _ _ hk
  intro t hrest
  subst hg
  jvm_step X.here [hexec, hdg, ldc2_w.wp_double (s := T) (f := g) X.here.top hk' (by rw [he]; exact hcf) hcp]
  exact hrest
theorem Rw.ldc2Long (X : Rw l e s m below c U T) (hexec : p.tables.exec = Jvm.exec) {own : String} {index : Nat} {b : Int64} (hown : s.vm.findClass own = some m.cls) (hconst : (Jvm.Cond.constantLong own index b).before #[] s = true) {g : JFrame} (hg : g.method = m) (hdg : decode c.code g.pc = .ok (.ldc2_w index, 3)) :
    ∀ t, Steps p.tables e below (T.setTop { g with pc := g.pc + 3, stack := .long b :: g.stack }) t → Steps p.tables e below (T.setTop g) t := by
  obtain ⟨k, cf, bytes, hk, hcf, hcp, hb⟩ := Cond.constantLong_spec hown hconst
  obtain ⟨k', hk', he⟩ := X.2.2.1.alike.2.2 _ _ hk
  intro t hrest
  subst hg
  jvm_step X.here [hexec, hdg, ldc2_w.wp_long (s := T) (f := g) X.here.top hk' (by rw [he]; exact hcf) hcp, hb]
  exact hrest
theorem getSR (X : Rw l e s m below c U T) (hexec : p.tables.exec = Jvm.exec) (hZ : Z.Warmed39 s.vm) {own R0 n d : String} {index : Nat} (hown : s.vm.findClass own = some m.cls) (w : (Jvm.Cond.fieldLink own index R0 n d).before a0 Z = true) (eT : T.heap = h) (F : Sta Z h R0 n d v)
    {g : JFrame} (hg : g.method = m) (hdg : decode c.code g.pc = .ok (.getstatic index, 3)) :
    ∃ T', Rw l e s m below c U T' ∧ T'.heap = h ∧ ∀ t, Steps p.tables e below (T'.setTop { g with pc := g.pc + 3, stack := v :: g.stack }) t → Steps p.tables e below (T.setTop g) t := by
  obtain ⟨cf, i, k0, f, st, cell, h1, hst, h3, h4, h5, h6, hslot⟩ := F
  obtain ⟨k, hi, ek⟩ := State.fieldFound?_setVm (s := Z) hZ.alike h1
  have hpl : e.platform.magicAccessors = ({} : Platform).magicAccessors := by rw [X.1.platform]
  obtain ⟨ci', cfl, k', i', f', hi', hlinks, hright⟩ := Cond.fieldLink_spec hown (mvT hZ w (args := #[])) e.platform hpl
  cases (show s.fieldFound? R0 n d = _ from hi).symm.trans hi'
  obtain ⟨hk, hf⟩ := State.fieldFound?_spec (show s.fieldFound? R0 n d = _ from hi)
  obtain ⟨vm', hgives, hW', hready, hfi⟩ := State.fieldEntry (e := e) X.2.2.1 hlinks hright hk hf
  obtain ⟨kc, hkc, hekc⟩ := hW'.alike.2.2 _ _ hk
  refine ⟨T.setVm vm', X.noted hW', eT, fun target hrest => ?_⟩
  subst hg
  jvm_step X.here [hexec, hdg, getstatic.wp_cold (e := e) (s := T) (f := g) X.here.top hgives hready hfi (X.2.2.1.alike.symm.trans hW'.alike).size_le,
    getstatic.wp_ready (e := e) (s := T.setVm vm') (f := g) X.here.top hready hst hkc (by rw [hekc, ek]; exact h3) (by rw [hekc, ek]; exact h4) (show (T.setVm vm').heap[st]? = some cell by show T.heap[st]? = _; rw [eT]; exact h5) (fun q => by rw [q] at h6; cases h6) hslot]
  exact hrest
theorem rawInvoke (X : Rw l e s m below c U T) (hexec : p.tables.exec = Jvm.exec) {own : String} {index : Nat} {x : MethodName} (hown : s.vm.findClass own = some m.cls) (hlink : (Jvm.Cond.methodLink own index x).before args s = true)
    {m' : MethodId} {meth' : Method} {k' : Class} (hn : s.methodNamed? x = some m') (hm' : s.vm.method? m' = some meth') (hstatic : meth'.isStatic = true) (hk' : s.vm.classes[m'.cls]? = some k') (hinit : k'.init = .initialized) (hx : x.cls ≠ "java/lang/invoke/MethodHandle" ∧ x.cls ≠ "java/lang/invoke/VarHandle")
    {g : JFrame} (hg : g.method = m) {argsL rest : List Value} (hlen : argsL.length = meth'.sig.parameters.length) (hstack : g.stack = argsL.reverse ++ rest) (hdg : decode c.code g.pc = .ok (.invokestatic index, 3)) :
    ∃ vm', Rw l e s m below c U (T.setVm vm') ∧ ∀ t, (∀ acts, Steps p.tables e below (doInvoke e ((T.setVm vm').setTop { g with stack := rest }) acts m' argsL.toArray).1 t) → Steps p.tables e below (T.setTop g) t := by
  have hpl : e.platform.magicAccessors = ({} : Platform).magicAccessors := by rw [X.1.platform]
  have hpv : e.platform.polymorphicOnlyByInvokevirtual = true := by rw [X.1.platform]
  obtain ⟨ci, hl, hright⟩ := Cond.methodLink_spec hown hn hlink e.platform hpl
  obtain ⟨kx, hkx, hnx⟩ := className_of_methodNamed hn
  cases hk'.symm.trans hkx
  have hE : s.MethodEntry e T.vm m.cls index m' ci := State.methodEntry X.2.2.1 hl hright fun k hk => by
    cases hk'.symm.trans hk
    rw [hnx]; exact hx
  obtain ⟨dk, cfile, nt, mname, mdesc, via, ck, _, hd, hcf, hcp, hnt, -, -, hck, -, hnopoly, -⟩ := hl.here
  cases hk'.symm.trans hck
  have alike := hE.warmed.alike
  obtain ⟨dk₂, hdk₂, hed₂⟩ := alike.2.2 _ _ hd
  obtain ⟨k₂, hk₂, he₂⟩ := alike.2.2 _ _ hk'
  have hnone : (k'.methods.any fun y => y.name == mname && !y.isStatic && signaturePolymorphic k' y) = false := by simp [hnopoly]
  have hnone₂ : (k₂.methods.any fun y => y.name == mname && !y.isStatic && signaturePolymorphic k₂ y) = false := by rw [he₂]; exact hnone
  refine ⟨T.vm.called m.cls ci index m', X.noted hE.warmed, fun target hrest => ?_⟩
  subst hg
  jvm_step X.here [hexec, hdg, invokestatic.wp_cold (e := e) (s := T) (s₀ := s) (f := g) X.here.top hpv X.2.2.1 hE hd hcf hcp hnt hk' hnone,
    invokestatic.wp_ready (e := e) (s := T.setVm (T.vm.called g.method.cls ci index m')) (k := k₂) (meth := meth') (m := m') (args := argsL) (rest := rest) (f := g)
      X.here.top ⟨ci, mname, mdesc, via, m'.cls, k₂, memberRef_ask_via (e := e) hdk₂ (by rw [hed₂]; exact hcf) hcp hnt, hE.classReady, hk₂, hnone₂⟩ hE.ready hk₂
      (by show (T.vm.called g.method.cls ci index m').method? m' = some meth'; rw [alike.method?]; exact hm') (by rw [he₂]; exact hnopoly meth') hstatic (by rw [he₂]; exact hinit) hlen hstack]
  exact fun acts => hrest _
/-- a body under a native's frame: d frames, w words -/
def RawOk (p : Program) (e : Env) (s : State) (below : List Frame) (h : Heap) (y : MethodName) (d w : Nat) (as' : Array Value) (v : Value) : Prop :=
  ∀ (B : State) (mk : MethodId), s.methodNamed? y = some mk → s.WarmedH B.vm → B.heap = h → B.status = .running → B.curStatus? = some .runnable → B.alone = true → (∃ mid, B.frames = mid ++ below) → B.cur < B.threads.size →
    B.frames.length + d ≤ (e.platform.stackLimits B.me).1 → (stackUse B.frames).2 + w ≤ (e.platform.stackLimits B.me).2 →
    ∃ vm', s.WarmedH vm' ∧ ∀ fs, handOver (B.setVm vm') (some v) B.frames = some fs → ∀ acts, Steps p.tables e below (doInvoke e B acts mk as').1 ((B.setVm vm').setFrames fs)
theorem RawOk.mk {y : MethodName} {bytes : ByteArray} {maxL d w : Nat} {ft : FieldType} {as' : Array Value} (ha : l.admits e) (hZ : Z.Warmed39 s.vm) (hpl : plainFor y = true) (wc : (Jvm.Cond.code y bytes maxL (some ft)).before a0 Z = true) (hw : maxL + 11 ≤ w)
    (k : ∀ (mk : MethodId) (meth : Method) (c : Code) (U : State), c.code = bytes → c.maxLocals = maxL → s.vm.findClass y.cls = some mk.cls → meth.sig.returnType = some ft → s.vm.method? mk = some meth → meth.locks = false → Rw l e s mk below c U U → U.heap = h →
      U.frames.tail.length + 1 + d ≤ (e.platform.stackLimits U.me).1 → (stackUse U.frames.tail).2 + w ≤ (e.platform.stackLimits U.me).2 → RGo p e s below v U U (entryFrame mk as' maxL)) : RawOk p e s below h y (d + 1) w as' v := by
  intro B mk hn hW hh hrun hable hal hab hcur h1 h2
  obtain ⟨meth, c, hm, hcode, hby, hml, hret, hlk, -, hsig⟩ := Cond.code_spec hn (mvT hZ wc (args := #[]))
  have hmB : B.vm.method? mk = some meth := by rw [hW.alike.method?]; exact hm
  have hnB : B.methodNamed? y = some mk := by
    rw [State.methodNamed?_of_vm (U := B) (V := s.setVm B.vm) rfl, State.methodNamed?_setVm hW.alike]
    exact hn
  have hfU : (B.pushFrame (.java (entryFrame mk as' maxL))).frames = .java (entryFrame mk as' maxL) :: B.frames := State.frames_setFrames _ hcur
  have htl : (B.pushFrame (.java (entryFrame mk as' maxL))).frames.tail = B.frames := by rw [hfU]; rfl
  have hA : At (B.pushFrame (.java (entryFrame mk as' maxL))) mk c below := ⟨by rw [State.topJava?_of_frames hfU]; rfl, by obtain ⟨mid, q⟩ := hab; exact ⟨mid, by rw [htl]; exact q⟩, hrun, by simpa [State.pushFrame] using hable, by simpa [State.pushFrame] using hal,
    by rw [State.code?_eq]; simp [State.pushFrame, State.setFrames, hmB, hcode], State.plainMethod.of_named hpl (show (B.pushFrame (.java (entryFrame mk as' maxL))).methodNamed? y = some mk from hnB) hmB⟩
  obtain ⟨vm', hW', st⟩ := k mk meth c _ hby hml (findClass_of_methodNamed hn) hret hm hlk ⟨ha, hA, hW, rfl⟩ hh (by rw [htl, State.stackLimits_pushFrame]; omega) (by rw [htl, State.stackLimits_pushFrame]; exact h2)
  refine ⟨vm', hW', fun fs hfs acts => ?_⟩
  rw [(doInvoke_java (s := B) (e := e) (acts := acts) (args := as') (meth := meth) (code := c) hmB hcode hlk (Platform.stackFull_eq_false (t := B.me) (by omega) (by rw [hml]; omega))).1, hml]
  have q := st fs (by rw [htl, handOver_of_vm (u := (B.pushFrame (.java (entryFrame mk as' maxL))).setVm vm') (s := B.setVm vm') rfl]; exact hfs)
  rw [State.setTop_self (State.topJava?_of_frames hfU)] at q
  have eS : ((B.pushFrame (.java (entryFrame mk as' maxL))).setVm vm').setFrames fs = (B.setVm vm').setFrames fs := by
    show ((B.setVm vm').setFrames (.java (entryFrame mk as' maxL) :: B.frames)).setFrames fs = _
    rw [State.setFrames_setFrames]
  rw [eS] at q
  exact q
theorem RGo.ret (X : Rw l e s m below c U T) (hx : p.tables.exec = Jvm.exec) {meth : Method} (hm : s.vm.method? m = some meth) (hlk : meth.locks = false) {pc : Nat} {Ls : Array Slot} {t : FieldType} {i : Instr} {rest : List Value} (hret : meth.sig.returnType = some t) (hn : narrow t v = v)
    (hi : (i = .ireturn ∧ t = .int ∧ ∃ z, v = .int z) ∨ (i = .dreturn ∧ t = .double ∧ ∃ z, v = .double z)) (hd : decode c.code pc = .ok (i, 1)) : RGo p e s below v U T (mkF m pc Ls (v :: rest)) := by
  obtain ⟨ha, hA, hW, eU⟩ := id X
  refine ⟨T.vm, hW, fun fs hfs => ?_⟩
  rw [← eU] at hfs ⊢
  have htU : U.frames.tail = T.frames.tail := by rw [eU]; rfl
  rw [htU] at hfs
  have hm' : T.vm.method? m = some meth := by rw [hW.alike.method?]; exact hm
  obtain ⟨g₀, hg0⟩ := Option.isSome_iff_exists.mp hA.top
  obtain ⟨r, hr⟩ := State.topJava?_eq_some.mp hg0
  have hl : ∀ (f : JFrame) (acts : List Action), f.method = m → f.locked = none → f.entered = [] → (doReturn e (T.setTop f) acts (some v)).1 = T.setFrames fs := fun f acts q1 q2 q3 => ret_to hr (by rw [q1]; exact hm') hlk q2 q3 (by rw [hr] at hfs; exact hfs) acts
  rcases hi with ⟨rfl, rfl, z, rfl⟩ | ⟨rfl, rfl, z, rfl⟩
  all_goals
    show Steps p.tables e below (T.setTop { method := m, pc := pc, locals := Ls, stack := _ :: rest, locked := none }) _
    jvm_step hA [hA.top, hx, hd, hm', hret, hn, Value.isRef]
    first | (intro acts; rw [hl _ acts rfl rfl rfl]) | rw [hl _ _ rfl rfl rfl]
    exact Steps.refl _
theorem Rw.tail (X : Rw l e s m below c U T) : T.frames.tail = U.frames.tail := by rw [X.2.2.2]; rfl
theorem Rw.lim (X : Rw l e s m below c U T) : e.platform.stackLimits T.me = e.platform.stackLimits U.me := by rw [X.2.2.2]; rfl
theorem Rw.frames (X : Rw l e s m below c U T) (g : JFrame) : (T.setTop g).frames = .java g :: U.frames.tail := by rw [State.frames_setTop' _ X.here.top, X.tail]
theorem callR (X : Rw l e s m below c U T) (hexec : p.tables.exec = Jvm.exec) (hZ : Z.Warmed39 s.vm) {own : String} {index : Nat} {y : MethodName} {bytes : ByteArray} {maxL : Nat} {ret : Option FieldType} (hown : s.vm.findClass own = some m.cls)
    (w1 : (Jvm.Cond.methodLink own index y).before a0 Z = true) (w2 : (Jvm.Cond.static y).before a0 Z = true) (w3 : (Jvm.Cond.initialized y.cls).before a0 Z = true) (w4 : (Jvm.Cond.code y bytes maxL ret).before a0 Z = true) (hy : y.cls ≠ "java/lang/invoke/MethodHandle" ∧ y.cls ≠ "java/lang/invoke/VarHandle")
    (eT : T.heap = h) {d w D W : Nat} {as' : Array Value} {u : Value} (hR : RawOk p e s below h y d w as' u) {g : JFrame} (hg : g.method = m) {argsL rest : List Value} (hlen : ∀ sig, parseMethodDescriptor y.desc = some sig → argsL.length = sig.parameters.length) (has : argsL.toArray = as')
    (hst : g.stack = argsL.reverse ++ rest) (hdg : decode c.code g.pc = .ok (.invokestatic index, 3)) (r1 : U.frames.tail.length + 1 + D ≤ (e.platform.stackLimits U.me).1) (r2 : (stackUse U.frames.tail).2 + W ≤ (e.platform.stackLimits U.me).2) (hD : d ≤ D) (hW : g.locals.size + 11 + 2 * g.monitorRoom + operandWords rest + w ≤ W) :
    ∃ T', Rw l e s m below c U T' ∧ T'.heap = h ∧ ∀ t, Steps p.tables e below (T'.setTop { g with pc := g.pc + 3, stack := u :: rest }) t → Steps p.tables e below (T.setTop g) t := by
  subst has
  have hcode := mvT hZ w4 (args := #[])
  obtain ⟨mk, hn⟩ := Cond.code_named hcode
  obtain ⟨methM, cM, hmethM, -, -, -, -, -, -, hsigM⟩ := Cond.code_spec hn hcode
  have hstatic : methM.isStatic = true := Cond.static_spec hn hmethM (mvT hZ w2 (args := #[]))
  obtain ⟨kP, hkP, -⟩ := className_of_methodNamed hn
  have hinitP : kP.init = .initialized := Cond.initialized_spec (findClass_of_methodNamed hn) hkP (mvT hZ w3 (args := #[]))
  obtain ⟨vm₁, X₁, st₁⟩ := rawInvoke X hexec hown (mvT hZ w1 (args := #[])) hn hmethM hstatic hkP hinitP hy (g := g) hg (argsL := argsL) (rest := rest) (hlen _ hsigM) hst hdg
  have hfr := X₁.frames { g with stack := rest }
  have hlim : e.platform.stackLimits ((T.setVm vm₁).setTop { g with stack := rest }).me = e.platform.stackLimits U.me := by rw [State.stackLimits_setTop _ X₁.here.top, X₁.lim]
  obtain ⟨mid, hmid⟩ := X₁.here.above
  rw [X₁.tail] at hmid
  obtain ⟨vm₂, hW₂, st₂⟩ := hR ((T.setVm vm₁).setTop { g with stack := rest }) mk hn X₁.2.2.1 eT X₁.here.running (by simpa using X₁.here.runnable) (by simpa using X₁.here.alone) ⟨.java { g with stack := rest } :: mid, by rw [hfr, hmid]; rfl⟩ (State.cur_lt_of_frames hfr)
    (by rw [hfr, hlim, List.length_cons]; omega) (by rw [hfr, hlim, stackUse_java]; show (stackUse U.frames.tail).2 + (g.locals.size + 11 + 2 * g.monitorRoom + operandWords rest) + w ≤ _; omega)
  have hcg : ((T.setVm vm₁).setVm vm₂).code? g.method = some c := by
    have q := (X₁.noted hW₂).here.code
    rw [hg]; exact q
  obtain ⟨g₀, hg0⟩ := Option.isSome_iff_exists.mp X₁.here.top
  obtain ⟨r, hr⟩ := State.topJava?_eq_some.mp hg0
  have hrt : U.frames.tail = r := by rw [← X₁.tail, hr]; rfl
  have hfs : handOver (((T.setVm vm₁).setTop { g with stack := rest }).setVm vm₂) (some u) (((T.setVm vm₁).setTop { g with stack := rest }).frames) = some (.java { g with pc := g.pc + 3, stack := u :: rest } :: r) := by
    rw [hfr, hrt]
    have hcg' : (((T.setVm vm₁).setTop { g with stack := rest }).setVm vm₂).code? g.method = some c := by
      rw [State.code?_eq] at hcg ⊢
      exact hcg
    show (((((T.setVm vm₁).setTop { g with stack := rest }).setVm vm₂).code? g.method).bind fun c => (decode c.code g.pc).toOption).map (fun x => (.java { g with pc := g.pc + x.2, stack := u :: rest } :: r : List Frame)) = _
    rw [hcg']
    simp [hdg, Except.toOption]
  refine ⟨(T.setVm vm₁).setVm vm₂, X₁.noted hW₂, eT, fun t k => st₁ t fun acts => (st₂ _ hfs acts).trans ?_⟩
  have e1 : (((T.setVm vm₁).setTop { g with stack := rest }).setVm vm₂).setFrames (.java { g with pc := g.pc + 3, stack := u :: rest } :: r) = ((T.setVm vm₁).setVm vm₂).setTop { g with pc := g.pc + 3, stack := u :: rest } := by
    rw [State.setTop_of_frames _ (show ((T.setVm vm₁).setVm vm₂).frames = .java g₀ :: r from hr)]
    show (((T.setVm vm₁).setTop { g with stack := rest }).setVm vm₂).setFrames _ = _
    rw [State.setTop_of_frames _ hr]
    show (((T.setVm vm₁).setFrames (.java { g with stack := rest } :: r)).setFrames (.java { g with pc := g.pc + 3, stack := u :: rest } :: r)).setVm vm₂ = _
    rw [State.setFrames_setFrames]
    rfl
  rw [e1]
  exact k
theorem Rw.notFull (X : Rw l e s m below c U T) (g : JFrame) {vars D W : Nat} (r1 : U.frames.tail.length + 1 + D ≤ (e.platform.stackLimits U.me).1) (r2 : (stackUse U.frames.tail).2 + W ≤ (e.platform.stackLimits U.me).2) (hD : 1 ≤ D) (hW : g.locals.size + 11 + 2 * g.monitorRoom + operandWords g.stack + (vars + 11) ≤ W) :
    e.platform.stackFull (((T.setTop g).threads[(T.setTop g).cur]?).getD { frames := [] }) (T.setTop g).frames vars = false :=
  Platform.stackFull_eq_false (t := (T.setTop g).me) (by rw [X.frames, State.stackLimits_setTop _ X.here.top, X.lim, List.length_cons]; omega) (by rw [X.frames, State.stackLimits_setTop _ X.here.top, X.lim, stackUse_java]; show (stackUse U.frames.tail).2 + (g.locals.size + 11 + 2 * g.monitorRoom + operandWords g.stack) + vars + 11 ≤ _; omega)
theorem d2lR (X : Rw l e s m below c U T) (hexec : p.tables.exec = Jvm.exec) (hZ : Z.Warmed39 s.vm) {own : String} {index : Nat} (hown : s.vm.findClass own = some m.cls) (w1 : (Jvm.Cond.methodLink own index doubleToRawLongBitsName).before a0 Z = true) (w2 : (Jvm.Cond.native doubleToRawLongBitsName).before a0 Z = true) (w3 : (Jvm.Cond.static doubleToRawLongBitsName).before a0 Z = true) (w4 : (Jvm.Cond.initialized "java/lang/Double").before a0 Z = true) (eT : T.heap = h)
    {g : JFrame} (hg : g.method = m) {rest : List Value} {b : UInt64} (hst : g.stack = .double b :: rest) (hdg : decode c.code g.pc = .ok (.invokestatic index, 3)) {D W : Nat} (r1 : U.frames.tail.length + 1 + D ≤ (e.platform.stackLimits U.me).1) (r2 : (stackUse U.frames.tail).2 + W ≤ (e.platform.stackLimits U.me).2) (hD : 1 ≤ D)
    (hW : g.locals.size + 11 + 2 * g.monitorRoom + operandWords rest + (nativeFrameWords "java/lang/Double" "doubleToRawLongBits" 2 + 11) ≤ W) {z : Int64} (hz : b.toInt64 = z) :
    ∃ T', Rw l e s m below c U T' ∧ T'.heap = h ∧ ∀ t, Steps p.tables e below (T'.setTop { g with pc := g.pc + 3, stack := .long z :: rest }) t → Steps p.tables e below (T.setTop g) t := by
  subst hz
  obtain ⟨r, kS, methS, hnS, hmS, hkS, N⟩ := NativeOf.of_static (mvT hZ w2 (args := #[])) (mvT hZ w3 (args := #[])) (ps := [.double]) (ret := some .long) (by decide +kernel)
  have hinitS : kS.init = .initialized := Cond.initialized_spec (findClass_of_methodNamed hnS) hkS (mvT hZ w4 (args := #[]))
  obtain ⟨vm', X', step⟩ := rawInvoke X hexec hown (mvT hZ w1 (args := #[])) hnS hmS N.static hkS hinitS (by decide) hg (argsL := [.double b]) (rest := rest) (by rw [N.sig]; rfl) hst hdg
  refine ⟨_, X', eT, fun target hrest => step target fun acts => ?_⟩
  subst hg
  obtain ⟨kS', N'⟩ := N.alike X'.2.2.1.alike
  exact Steps.doubleToRawLongBitsOf (g := { g with stack := rest }) (ig := .invokestatic index) (len := 3) p X'.here acts N' b (X'.notFull { g with stack := rest } r1 r2 hD hW) hdg hrest
theorem l2dR (X : Rw l e s m below c U T) (hexec : p.tables.exec = Jvm.exec) (hZ : Z.Warmed39 s.vm) {own : String} {index : Nat} (hown : s.vm.findClass own = some m.cls) (w1 : (Jvm.Cond.methodLink own index longBitsToDoubleName).before a0 Z = true) (w2 : (Jvm.Cond.native longBitsToDoubleName).before a0 Z = true) (w3 : (Jvm.Cond.static longBitsToDoubleName).before a0 Z = true) (w4 : (Jvm.Cond.initialized "java/lang/Double").before a0 Z = true) (eT : T.heap = h)
    {g : JFrame} (hg : g.method = m) {rest : List Value} {b : Int64} (hv : (b.toUInt64 &&& 0x7fffffffffffffff > 0x7ff0000000000000 && b.toUInt64 &&& 0x0008000000000000 == 0) = false) (hst : g.stack = .long b :: rest) (hdg : decode c.code g.pc = .ok (.invokestatic index, 3)) {D W : Nat} (r1 : U.frames.tail.length + 1 + D ≤ (e.platform.stackLimits U.me).1) (r2 : (stackUse U.frames.tail).2 + W ≤ (e.platform.stackLimits U.me).2) (hD : 1 ≤ D)
    (hW : g.locals.size + 11 + 2 * g.monitorRoom + operandWords rest + (nativeFrameWords "java/lang/Double" "longBitsToDouble" 2 + 11) ≤ W) {z : UInt64} (hz : b.toUInt64 = z) :
    ∃ T', Rw l e s m below c U T' ∧ T'.heap = h ∧ ∀ t, Steps p.tables e below (T'.setTop { g with pc := g.pc + 3, stack := .double z :: rest }) t → Steps p.tables e below (T.setTop g) t := by
  subst hz
  obtain ⟨r, kS, methS, hnS, hmS, hkS, N⟩ := NativeOf.of_static (mvT hZ w2 (args := #[])) (mvT hZ w3 (args := #[])) (ps := [.long]) (ret := some .double) (by decide +kernel)
  have hinitS : kS.init = .initialized := Cond.initialized_spec (findClass_of_methodNamed hnS) hkS (mvT hZ w4 (args := #[]))
  obtain ⟨vm', X', step⟩ := rawInvoke X hexec hown (mvT hZ w1 (args := #[])) hnS hmS N.static hkS hinitS (by decide) hg (argsL := [.long b]) (rest := rest) (by rw [N.sig]; rfl) hst hdg
  refine ⟨_, X', eT, fun target hrest => step target fun acts => ?_⟩
  subst hg
  obtain ⟨kS', N'⟩ := N.alike X'.2.2.1.alike
  exact Steps.longBitsToDoubleOf (g := { g with stack := rest }) (ig := .invokestatic index) (len := 3) p X'.here acts N' b (X'.notFull { g with stack := rest } r1 r2 hD hW) hv hdg hrest
open Jvm.Free.Hsc in
theorem rawCeil (p : Program) {V : State} {g : JFrame} (hA : At V g.method c below) {mM : MethodId} {methM : Method} {k : Class} {cm : Code} {b r : UInt64} {d w : Nat}
    (hk : V.vm.classes[mM.cls]? = some k) (hx : k.methods[mM.idx]? = some methM) (hboot : k.loader = none) (hkn : k.name = "java/lang/Math") (hmn : methM.name = "ceil") (hmd : methM.desc = "(D)D") (hparams : methM.sig.parameters.length = 1) (hc : methM.code = some cm) (hml : cm.maxLocals = 2) (hlk : methM.locks = false)
    (hfull : e.platform.stackFull (((V.setTop g).threads[(V.setTop g).cur]?).getD { frames := [] }) (V.setTop g).frames 2 = false)
    {cS : ClassId} {kS : Class} {i : Nat} (hfS : V.vm.findClass "java/lang/StrictMath" = some cS) (hkS : V.vm.classes[cS]? = some kS) (hiS : kS.init = .initialized) (hmS : kS.findMethod "ceil" "(D)D" = some i) (hnS : s.methodNamed? ⟨"java/lang/StrictMath", "ceil", "(D)D"⟩ = some ⟨cS, i⟩) (hW : s.WarmedH V.vm) (eV : V.heap = h)
    (hR : RawOk p e s below h ⟨"java/lang/StrictMath", "ceil", "(D)D"⟩ d w #[.double b] (.double r)) (r1 : V.frames.tail.length + 2 + d ≤ (e.platform.stackLimits V.me).1) (r2 : (stackUse (.java g :: V.frames.tail)).2 + w ≤ (e.platform.stackLimits V.me).2)
    (hn : r &&& 0x7fffffffffffffff ≤ 0x7ff0000000000000) {ig : Instr} {len : Nat} (hdg : decode c.code g.pc = .ok (ig, len)) :
    ∃ vm₂, s.WarmedH vm₂ ∧ ∀ acts, Steps p.tables e below (doInvoke e (V.setTop g) acts mM #[.double b]).1 ((V.setVm vm₂).setTop { g with pc := g.pc + len, stack := .double r :: g.stack }) := by
  obtain ⟨g₀, hg0⟩ := Option.isSome_iff_exists.mp hA.top
  obtain ⟨r0, hr⟩ := State.topJava?_eq_some.mp hg0
  obtain ⟨mid, hmid⟩ := hA.above
  have hcur : V.cur < V.threads.size := State.cur_lt_of_frames hr
  have hm : V.vm.method? mM = some methM := by simp [Vm.method?, hk, hx]
  have htop : V.setTop g = V.setFrames (.java g :: r0) := State.setTop_of_frames _ hr
  have htail : V.frames.tail = r0 := by rw [hr]; rfl
  rw [htail] at hmid r1 r2
  have hfN : (V.setFrames (.native { method := mM, args := #[.double b], stage := 1, saved := #[], awaiting := true, answer := none, words := 0 } :: .java g :: r0)).frames = .native { method := mM, args := #[.double b], stage := 1, saved := #[], awaiting := true, answer := none, words := 0 } :: .java g :: r0 := State.frames_setFrames _ hcur
  have hcurN : (V.setFrames (.native { method := mM, args := #[.double b], stage := 1, saved := #[], awaiting := true, answer := none, words := 0 } :: .java g :: r0)).cur < (V.setFrames (.native { method := mM, args := #[.double b], stage := 1, saved := #[], awaiting := true, answer := none, words := 0 } :: .java g :: r0)).threads.size := State.cur_lt_of_frames hfN
  obtain ⟨vm₂, hW₂, st₂⟩ := hR (V.setFrames (.native { method := mM, args := #[.double b], stage := 1, saved := #[], awaiting := true, answer := none, words := 0 } :: .java g :: r0)) ⟨cS, i⟩ hnS hW eV hA.running (by simpa using hA.runnable) (by simpa using hA.alone) ⟨.native { method := mM, args := #[.double b], stage := 1, saved := #[], awaiting := true, answer := none, words := 0 } :: .java g :: mid, by rw [hfN, hmid]; rfl⟩ hcurN
    (by rw [hfN, State.stackLimits_setFrames]; simp only [List.length_cons]; omega) (by rw [hfN, State.stackLimits_setFrames, stackUse_light _ _ (fun f q => by cases q) rfl]; exact r2)
  refine ⟨vm₂, hW₂, fun acts => ?_⟩
  rw [(doInvoke_java (s := V.setTop g) (e := e) (acts := acts) (args := #[.double b]) (meth := methM) (code := cm) hm hc hlk (by rw [hml]; exact hfull)).1, hml]
  have hU : (V.setTop g).pushFrame (.java { method := mM, pc := 0, locals := argsToLocals #[.double b] 2, stack := [], locked := none }) = V.setFrames (.java (entryFrame mM #[.double b] 2) :: .java g :: r0) := by
    rw [State.pushFrame, State.frames_setTop _ hr, htop, State.setFrames_setFrames]
    rfl
  rw [hU]
  have hf1 : (V.setFrames (.java (entryFrame mM #[.double b] 2) :: .java g :: r0)).frames = .java (entryFrame mM #[.double b] 2) :: .java g :: r0 := State.frames_setFrames _ hcur
  have hov : overridden p.tables e (V.setFrames (.java (entryFrame mM #[.double b] 2) :: .java g :: r0)) (entryFrame mM #[.double b] 2) = some ceilRow :=
    Jvm.Free.Fl.Abs.overridden_some (k := k) (x := methM) rfl hk (by rw [hkn]; decide) hboot hx (by rw [hkn, hmn, hmd]; exact ceil_row p)
  have hb2 : ∀ F : List Frame, ((V.setFrames F).vm.classes[mM.cls]?.bind fun y => y.methods[mM.idx]?) = some methM := by
    intro F
    show (V.vm.classes[mM.cls]?.bind fun y => y.methods[mM.idx]?) = some methM
    simp [hk, hx]
  have htake : ∀ n : Nat, List.take (1 + n) [Value.double b] = [Value.double b] := fun n => List.take_of_length_le (Nat.le_add_right 1 n)
  obtain ⟨acts₂, hr2⟩ := ceil_run b e (V.setFrames (.native { method := mM, args := #[.double b] } :: .java g :: r0)) (cS := cS) (kS := kS) (i := i) hfS hkS hiS hmS
  have hwords : ∀ F : List Frame, (((V.setFrames F).vm.classes[mM.cls]?).bind fun k => (k.methods[mM.idx]?).map fun n => upcallWords k.name n.name).getD 0 = 0 := by
    intro F
    show ((V.vm.classes[mM.cls]?).bind fun k => (k.methods[mM.idx]?).map fun n => upcallWords k.name n.name).getD 0 = 0
    simp [hk, hx, hkn, hmn, upcallWords]
  have hstep2 : (stepThread p.tables e (V.setFrames (.java (entryFrame mM #[.double b] 2) :: .java g :: r0))).1 = (doInvoke e (V.setFrames (.native { method := mM, args := #[.double b], stage := 1, saved := #[], awaiting := true, answer := none, words := 0 } :: .java g :: r0)) acts₂ ⟨cS, i⟩ #[.double b]).1 := by
    unfold stepThread
    simp only [hf1, hov]
    have hb3 : (V.vm.classes[mM.cls]?.bind fun x => x.methods[mM.idx]?) = some methM := by simp [hk, hx]
    have hw3 : ((V.vm.classes[mM.cls]?).bind fun k => Option.map (fun n => upcallWords k.name n.name) k.methods[mM.idx]?).getD 0 = 0 := by simp [hk, hx, hkn, hmn, upcallWords]
    simp [entryFrame, argsToLocals, Value.category, argCount, hb2, hb3, hparams, htake, hr2, afterNative, hwords, hw3, State.setFrames_setFrames]
  refine Steps.head ⟨hA.running, by simpa using hA.runnable, by simpa using hA.alone⟩ ⟨.java (entryFrame mM #[.double b] 2) :: .java g :: mid, by rw [hf1, hmid]; rfl, by simp, by simp⟩ ?_
  rw [hstep2]
  refine (st₂ (.native { method := mM, args := #[.double b], stage := 1, saved := #[], awaiting := false, answer := some (.returned (some (.double r))), words := 0 } :: .java g :: r0) (by rw [hfN]; rfl) acts₂).trans ?_
  have hend : (((V.setFrames (.native { method := mM, args := #[.double b], stage := 1, saved := #[], awaiting := true, answer := none, words := 0 } :: .java g :: r0)).setVm vm₂).setFrames (.native { method := mM, args := #[.double b], stage := 1, saved := #[], awaiting := false, answer := some (.returned (some (.double r))), words := 0 } :: .java g :: r0)).frames = .native { method := mM, args := #[.double b], stage := 1, saved := #[], awaiting := false, answer := some (.returned (some (.double r))), words := 0 } :: .java g :: r0 := State.frames_setFrames _ hcurN
  have al : V.vm.Alike vm₂ := hW.alike.symm.trans hW₂.alike
  obtain ⟨k', hk', ek⟩ := al.2.2 _ _ hk
  have hboot' : k'.loader = none := by rw [ek]; exact hboot
  have hx' : k'.methods[mM.idx]? = some methM := by rw [ek]; exact hx
  have hkn' : k'.name = "java/lang/Math" := by rw [ek]; exact hkn
  have hcode2 : (V.setVm vm₂).code? g.method = some c := (hA.setVm al).code
  have hlast : (((V.setFrames (.native { method := mM, args := #[.double b], stage := 1, saved := #[], awaiting := true, answer := none, words := 0 } :: .java g :: r0)).setVm vm₂).setFrames (.native { method := mM, args := #[.double b], stage := 1, saved := #[], awaiting := false, answer := some (.returned (some (.double r))), words := 0 } :: .java g :: r0)).setFrames (.java { g with pc := g.pc + len, stack := .double r :: g.stack } :: r0) = (V.setVm vm₂).setTop { g with pc := g.pc + len, stack := .double r :: g.stack } := by
    rw [State.setTop_of_frames _ (show (V.setVm vm₂).frames = .java g₀ :: r0 from hr), State.setFrames_setFrames]
    show ((V.setFrames (.native { method := mM, args := #[.double b], stage := 1, saved := #[], awaiting := true, answer := none, words := 0 } :: .java g :: r0)).setFrames (.java { g with pc := g.pc + len, stack := .double r :: g.stack } :: r0)).setVm vm₂ = _
    rw [State.setFrames_setFrames]
    rfl
  generalize hS2 : ((V.setFrames (.native { method := mM, args := #[.double b], stage := 1, saved := #[], awaiting := true, answer := none, words := 0 } :: .java g :: r0)).setVm vm₂).setFrames (.native { method := mM, args := #[.double b], stage := 1, saved := #[], awaiting := false, answer := some (.returned (some (.double r))), words := 0 } :: .java g :: r0) = S2 at hend hlast ⊢
  have hvm2 : S2.vm = vm₂ := by rw [← hS2]; rfl
  have hcS2 : S2.code? g.method = some c := by
    rw [State.code?_eq] at hcode2 ⊢
    rw [hvm2]
    exact hcode2
  have hrun2 : S2.status = .running := by rw [← hS2]; exact hA.running
  have hcs2 : S2.curStatus? = some .runnable := by rw [← hS2]; simpa using hA.runnable
  have hal2 : S2.alone = true := by rw [← hS2]; simpa using hA.alone
  obtain ⟨acts₃, hr3⟩ := ceil_resume hn e S2
  have hfs : handOver S2 (some (.double r)) (.java g :: r0) = some (.java { g with pc := g.pc + len, stack := .double r :: g.stack } :: r0) := by
    simp [handOver, hcS2, hdg, Except.toOption]
  have hstep4 : (stepThread p.tables e S2).1 = S2.setFrames (.java { g with pc := g.pc + len, stack := .double r :: g.stack } :: r0) := by
    rw [stepThread_resumed' (f := { method := mM, args := #[.double b], stage := 1, saved := #[], awaiting := false, answer := some (.returned (some (.double r))), words := 0 }) (o := .returned (some (.double r))) hend (by rw [hvm2]; exact hk') hboot' hx' (by rw [hkn', hmn, hmd]; exact ceil_row p) rfl]
    show (afterNative e _ _ ((ceilRow.resume 1 #[] (.returned (some (.double r)))).run e S2)).1 = _
    rw [hr3]
    exact doReturn_native (f := { method := mM, args := #[.double b], stage := 1, saved := #[], awaiting := false, answer := some (.returned (some (.double r))), words := 0 }) hend rfl hfs
  refine Steps.head ⟨hrun2, hcs2, hal2⟩ ⟨.native { method := mM, args := #[.double b], stage := 1, saved := #[], awaiting := false, answer := some (.returned (some (.double r))), words := 0 } :: .java g :: mid, by rw [hend, hmid]; rfl, by simp, by simp⟩ ?_
  rw [hstep4, hlast]
  exact Steps.refl _
theorem own_mceil {R : Room} {locs : List Loc} {cells slots : Nat} {meth : Method} (X : Stand p l e R s m args below meth c T locs cells slots) (hexec : p.tables.exec = Jvm.exec) (hZ : Z.Warmed39 s.vm) {own : String} {index : Nat} (hown : s.vm.findClass own = some m.cls)
    (w1 : (Jvm.Cond.methodLink own index ⟨"java/lang/Math", "ceil", "(D)D"⟩).before a0 Z = true) (w2 : (Jvm.Cond.static ⟨"java/lang/Math", "ceil", "(D)D"⟩).before a0 Z = true) (w3 : (Jvm.Cond.initialized "java/lang/Math").before a0 Z = true) {bytes bytesS : ByteArray} (w4 : (Jvm.Cond.code ⟨"java/lang/Math", "ceil", "(D)D"⟩ bytes 2 (some .double)).before a0 Z = true)
    (w5 : (Jvm.Cond.initialized "java/lang/StrictMath").before a0 Z = true) (w6 : (Jvm.Cond.code ⟨"java/lang/StrictMath", "ceil", "(D)D"⟩ bytesS 2 (some .double)).before a0 Z = true) (eT : T.heap = h) {b r : UInt64} {d w : Nat} (hR : RawOk p e s below h ⟨"java/lang/StrictMath", "ceil", "(D)D"⟩ d w #[.double b] (.double r)) (hn : r &&& 0x7fffffffffffffff ≤ 0x7ff0000000000000)
    {g : JFrame} (hg : g.method = m) (hsize : g.locals.size = c.maxLocals) {rest : List Value} (hst : g.stack = .double b :: rest) (hdg : decode c.code g.pc = .ok (.invokestatic index, 3)) {W : Nat} (hW : 2 * g.monitorRoom + (rest.map fun v => v.category).sum ≤ W) (hf : d + 2 ≤ R.frames) (hl : W + 13 + w ≤ R.locals) :
    ∃ T', Stand p l e R s m args below meth c T' locs cells slots ∧ T'.heap = h ∧ ∀ t, Steps p.tables e below (T'.setTop { g with pc := g.pc + 3, stack := .double r :: rest }) t → Steps p.tables e below (T.setTop g) t := by
  have hcode := mvT hZ w4 (args := #[])
  obtain ⟨mk, hnM⟩ := Cond.code_named hcode
  obtain ⟨methM, cM, hmethM, hcodeM, -, hlocM, -, hlkM, -, hsigM⟩ := Cond.code_spec hnM hcode
  have hstatic : methM.isStatic = true := Cond.static_spec hnM hmethM (mvT hZ w2 (args := #[]))
  obtain ⟨kP, hkP, hkn⟩ := className_of_methodNamed hnM
  obtain ⟨hmn, hmd⟩ := name_of_methodNamed hnM hmethM
  have hinitP : kP.init = .initialized := Cond.initialized_spec (findClass_of_methodNamed hnM) hkP (mvT hZ w3 (args := #[]))
  have hbootP : kP.loader = none := Vm.bootOf_findClass (findClass_of_methodNamed hnM) hkP
  have hxP : kP.methods[mk.idx]? = some methM := by simpa [Vm.method?, hkP] using hmethM
  have hsig2 : parseMethodDescriptor "(D)D" = some { parameters := [.double], returnType := some .double } := by decide +kernel
  have hparams : methM.sig.parameters.length = 1 := by
    have h3 := hsigM
    rw [show (⟨"java/lang/Math", "ceil", "(D)D"⟩ : MethodName).desc = "(D)D" from rfl, hsig2] at h3
    rw [← Option.some.inj h3]
    rfl
  obtain ⟨vm₁, X₁, st₁⟩ := X.invokestatic hexec hown (mvT hZ w1) hnM hmethM hstatic hkP hinitP (by decide) hg (argsL := [.double b]) (rest := rest) (by rw [hparams]; rfl) hst hdg
  have hcS := mvT hZ w6 (args := #[])
  obtain ⟨mS, hnS⟩ := Cond.code_named hcS
  obtain ⟨kS, hkS, -⟩ := className_of_methodNamed hnS
  have hfS : s.vm.findClass "java/lang/StrictMath" = some mS.cls := findClass_of_methodNamed hnS
  have hiS : kS.init = .initialized := Cond.initialized_spec hfS hkS (mvT hZ w5 (args := #[]))
  have hmS : kS.findMethod "ceil" "(D)D" = some mS.idx := by
    have q := hnS
    simp only [State.methodNamed?, Option.bind_eq_bind, Option.pure_def] at q
    rw [hfS] at q
    simp only [Option.bind_some, hkS] at q
    cases hfm : kS.findMethod "ceil" "(D)D" with
    | none => rw [hfm] at q; cases q
    | some j => rw [hfm] at q; simp at q; rw [← q]
  have al := X₁.warmed.alike
  obtain ⟨kP', hkP', ekP⟩ := al.2.2 _ _ hkP
  obtain ⟨kS', hkS', ekS⟩ := al.2.2 _ _ hkS
  have hfull := X₁.notFull (g := { g with stack := rest }) hsize (vars := 2) (by omega) (by show 2 * g.monitorRoom + (rest.map fun v => v.category).sum + (2 + 11) ≤ R.locals; omega)
  obtain ⟨-, q2, -, q4⟩ := State.hasRoom_stack X₁.room
  rw [State.localsInUse_invoking X₁.frames X₁.method X₁.code] at q4
  rw [X₁.frames, List.length_cons] at q2
  have hwt := stackUse_le_stackWeight (.java { g with stack := rest } :: below)
  rw [stackWeight_java] at hwt
  have hsz : ({ g with stack := rest } : JFrame).locals.size = c.maxLocals := hsize
  rw [hsz] at hwt
  change _ ≤ stackWeight below + (c.maxLocals + 11 + 2 * g.monitorRoom) + (rest.map fun v => v.category).sum at hwt
  obtain ⟨vm₂, hW₂, st₂⟩ := rawCeil (c := c) (below := below) (s := s) (h := h) p (V := T.setVm vm₁) (g := { g with stack := rest }) (by show At _ g.method c below; rw [hg]; exact X₁.here) (mM := mk) (methM := methM) (k := kP') (cm := cM) (b := b) (r := r) hkP' (by rw [ekP]; exact hxP) (by rw [ekP]; exact hbootP) (by rw [ekP]; exact hkn) hmn hmd hparams hcodeM hlocM hlkM hfull
    (by rw [al.findClass]; exact hfS) hkS' (by rw [ekS]; exact hiS) (by rw [ekS]; exact hmS) hnS X₁.warmed eT hR (by rw [X₁.tail, X₁.limits]; omega) (by rw [X₁.tail, X₁.limits]; omega) hn (ig := .invokestatic index) (len := 3) hdg
  exact ⟨_, X₁.noted hW₂, eT, fun t k => st₁ t fun acts => (st₂ acts).trans k⟩
end OwnRaw
def own_Ctx (Z : State) (A : Nat → Addr) (KC : Nat → Cell) (IC : Nat → Int32) (VC : Nat → Value) : Prop :=
  (Sta Z Z.heap "java/lang/StrictMath" "$assertionsDisabled" "Z" (.int (1 : Int32)))
theorem own_w {Z : State} {a0 : Array Value} (hw : ∀ d ∈ tables_1, d.before a0 Z = true) {i : Nat} {d : Jvm.Cond} (h : tables_1[i]? = some d) : d.before a0 Z = true := hw d (List.mem_of_getElem? h)
def own_max0 (x : Int64) : Int64 := if lcmpW x (0 : Int64) < 0 then 0 else x
def own_min40 (x : Int64) : Int64 := if 0 < lcmpW x (1099511627775 : Int64) then 1099511627775 else x
def own_n4 (x n : Int32) : Int32 := if x < 4 then n - ((x.toUInt32 >>> ((1 : Int32) &&& 31).toUInt32).toInt32) else (n - 2) - ((((x.toUInt32 >>> ((2 : Int32) &&& 31).toUInt32).toInt32).toUInt32 >>> ((1 : Int32) &&& 31).toUInt32).toInt32)
def own_n3 (x n : Int32) : Int32 := if x < 16 then own_n4 x n else own_n4 ((x.toUInt32 >>> ((4 : Int32) &&& 31).toUInt32).toInt32) (n - 4)
def own_n2 (x n : Int32) : Int32 := if x < 256 then own_n3 x n else own_n3 ((x.toUInt32 >>> ((8 : Int32) &&& 31).toUInt32).toInt32) (n - 8)
def own_n1 (x : Int32) : Int32 := if x < 65536 then own_n2 x 31 else own_n2 ((x.toUInt32 >>> ((16 : Int32) &&& 31).toUInt32).toInt32) 15
def own_nlz (x : Int32) : Int32 := if 0 < x then own_n1 x else if x = 0 then 32 else 0
def own_hi (w : Int64) : Int32 := ((w.toUInt64 >>> ((32 : Int32) &&& 0x3f).toInt64.toUInt64).toInt64).toInt32
def own_nlz64 (w : Int64) : Int32 := if own_hi w = 0 then 32 + own_nlz w.toInt32 else own_nlz (own_hi w)
def own_sh (w : Int64) : Int32 := (63 - own_nlz64 w) - 9
def own_index (w : Int64) : Int32 := if lcmpW w (1024 : Int64) < 0 then w.toInt32 else own_sh w * 512 + (w >>> (own_sh w &&& 0x3f).toInt64).toInt32
theorem own_us (x q : Int32) (k : Nat) (hk : q.toBitVec.toNat % 32 = k) (h0 : 0 < k) (m : Nat) (hm : 2 ^ k = m) (hx : 0 ≤ x.toInt) : ((x.toUInt32 >>> (q &&& 31).toUInt32).toInt32).toInt = x.toInt / m := by
  rw [c_iushr x q k hk h0, hm]
  have := rng32 x
  rw [Int.emod_eq_of_lt hx (by omega)]
theorem own_isub (a b : Int32) (h1 : -1000 < a.toInt) (h2 : a.toInt < 1000) (h3 : -1000 < b.toInt) (h4 : b.toInt < 1000) : (a - b).toInt = a.toInt - b.toInt := by
  have := c_isub a b
  have := rng32 (a - b)
  omega
def own_log (x n r : Int32) : Prop := ∃ k : Nat, r.toInt = n.toInt - k ∧ (2 : Int) ^ k ≤ x.toInt ∧ x.toInt < 2 * (2 : Int) ^ k ∧ k ≤ 31
theorem own_p4 (x n : Int32) (h1 : 1 ≤ x.toInt) (h2 : x.toInt < 16) (hn : -100 < n.toInt) (hn2 : n.toInt < 100) : own_log x n (own_n4 x n) := by
  have e1 := own_us x 1 1 (by decide) (by decide) 2 rfl (by omega)
  have e2 := own_us x 2 2 (by decide) (by decide) 4 rfl (by omega)
  have e3 := own_us ((x.toUInt32 >>> ((2 : Int32) &&& 31).toUInt32).toInt32) 1 1 (by decide) (by decide) 2 rfl (by omega)
  have t2 : (2 : Int32).toInt = 2 := rfl
  have t4 : (4 : Int32).toInt = 4 := rfl
  unfold own_log own_n4
  simp only [Int32.lt_iff_toInt_lt, t4]
  split
  · rename_i h
    rw [own_isub _ _ (by omega) (by omega) (by omega) (by omega), e1]
    by_cases hx : x.toInt < 2
    · exact ⟨0, by omega, by omega, by omega, by omega⟩
    · exact ⟨1, by omega, by omega, by omega, by omega⟩
  · rename_i h
    have e4 := own_isub n 2 (by omega) (by omega) (by omega) (by omega)
    rw [own_isub _ _ (by omega) (by omega) (by omega) (by omega), e4, e3]
    by_cases hx : x.toInt < 8
    · exact ⟨2, by omega, by omega, by omega, by omega⟩
    · exact ⟨3, by omega, by omega, by omega, by omega⟩
theorem own_lift {x y n n' r : Int32} (m j : Nat) (hm : m = 2 ^ j) (hx : 0 ≤ x.toInt) (hy : y.toInt = x.toInt / m) (hn : n'.toInt = n.toInt - j) (b : j ≤ 16) (hb : x.toInt < 2 ^ 31) (L : own_log y n' r) : own_log x n r := by
  obtain ⟨k, h1, h2, h3, h4⟩ := L
  have hp : (0 : Int) < 2 ^ k := Int.pow_pos (by decide)
  have e : (2 : Int) ^ (k + j) = 2 ^ k * m := by rw [Int.pow_add, hm]; norm_cast
  have hm0 : (0 : Int) < m := by rw [hm]; exact_mod_cast Nat.two_pow_pos j
  rw [hy] at h2 h3
  have g1 : (2 : Int) ^ k * m ≤ x.toInt := (Int.le_ediv_iff_mul_le hm0).mp h2
  have g2 : x.toInt < 2 * 2 ^ k * m := (Int.ediv_lt_iff_lt_mul hm0).mp h3
  refine ⟨k + j, by omega, by rw [e]; exact g1, by rw [e, ← Int.mul_assoc]; exact g2, ?_⟩
  apply Nat.le_of_lt_succ
  have q : (2 : Int) ^ (k + j) < 2 ^ 31 := by rw [e]; omega
  have q2 : (2 : Nat) ^ (k + j) < 2 ^ 31 := by exact_mod_cast q
  have := (Nat.pow_lt_pow_iff_right (by decide)).mp q2
  omega
theorem own_p3 (x n : Int32) (h1 : 1 ≤ x.toInt) (h2 : x.toInt < 256) (hn : -90 < n.toInt) (hn2 : n.toInt < 90) : own_log x n (own_n3 x n) := by
  have e := own_us x 4 4 (by decide) (by decide) 16 rfl (by omega)
  have t4 : (4 : Int32).toInt = 4 := rfl
  have t16 : (16 : Int32).toInt = 16 := rfl
  have en := own_isub n 4 (by omega) (by omega) (by omega) (by omega)
  unfold own_n3
  simp only [Int32.lt_iff_toInt_lt, t16]
  split
  · exact own_p4 x n h1 (by omega) (by omega) (by omega)
  · exact own_lift 16 4 rfl (by omega) e (by omega) (by omega) (by omega) (own_p4 _ _ (by omega) (by omega) (by omega) (by omega))
theorem own_p2 (x n : Int32) (h1 : 1 ≤ x.toInt) (h2 : x.toInt < 65536) (hn : -80 < n.toInt) (hn2 : n.toInt < 80) : own_log x n (own_n2 x n) := by
  have e := own_us x 8 8 (by decide) (by decide) 256 rfl (by omega)
  have t8 : (8 : Int32).toInt = 8 := rfl
  have t256 : (256 : Int32).toInt = 256 := rfl
  have en := own_isub n 8 (by omega) (by omega) (by omega) (by omega)
  unfold own_n2
  simp only [Int32.lt_iff_toInt_lt, t256]
  split
  · exact own_p3 x n h1 (by omega) (by omega) (by omega)
  · exact own_lift 256 8 rfl (by omega) e (by omega) (by omega) (by omega) (own_p3 _ _ (by omega) (by omega) (by omega) (by omega))
theorem own_p1 (x : Int32) (h1 : 1 ≤ x.toInt) : own_log x 31 (own_n1 x) := by
  have e := own_us x 16 16 (by decide) (by decide) 65536 rfl (by omega)
  have r := rng32 x
  have t15 : (15 : Int32).toInt = 15 := rfl
  have t31 : (31 : Int32).toInt = 31 := rfl
  have t6 : (65536 : Int32).toInt = 65536 := rfl
  unfold own_n1
  simp only [Int32.lt_iff_toInt_lt, t6]
  split
  · exact own_p2 x 31 h1 (by omega) (by omega) (by omega)
  · exact own_lift 65536 16 rfl (by omega) e (by omega) (by omega) (by omega) (own_p2 _ _ (by omega) (by omega) (by omega) (by omega))
/-- a long between 1024 and 2^40: her bits are counted -/
theorem own_len64 (w : Int64) (h1 : 1024 ≤ w.toInt) (h2 : w.toInt < 1099511627776) : ∃ k : Nat, (own_nlz64 w).toInt = 63 - k ∧ (2 : Int) ^ k ≤ w.toInt ∧ w.toInt < 2 * (2 : Int) ^ k := by
  have eh : ((w.toUInt64 >>> ((32 : Int32) &&& 0x3f).toInt64.toUInt64).toInt64).toInt = w.toInt / 4294967296 := by
    rw [c_lushr w 32 32 (by decide) (by decide), Int.emod_eq_of_lt (by omega) (by omega)]
    rfl
  have el : (own_hi w).toInt = w.toInt / 4294967296 := by
    have q := c_l2i ((w.toUInt64 >>> ((32 : Int32) &&& 0x3f).toInt64.toUInt64).toInt64)
    have r := rng32 (own_hi w)
    rw [eh] at q
    unfold own_hi at r ⊢
    omega
  have ew := c_l2i w
  have rw_ := rng32 w.toInt32
  have t0 : (0 : Int32).toInt = 0 := rfl
  have t31 : (31 : Int32).toInt = 31 := rfl
  have t32 : (32 : Int32).toInt = 32 := rfl
  unfold own_nlz64
  simp only [← Int32.toInt_inj, t0]
  split
  · rename_i h
    unfold own_nlz
    simp only [Int32.lt_iff_toInt_lt, ← Int32.toInt_inj, t0]
    split
    · rename_i h3
      obtain ⟨k, a1, a2, a3, a4⟩ := own_p1 w.toInt32 (by omega)
      have e5 := c_iadd 32 (own_n1 w.toInt32)
      have r5 := rng32 (32 + own_n1 w.toInt32)
      refine ⟨k, by omega, by omega, by omega⟩
    · rename_i h3
      rw [if_neg (by omega)]
      exact ⟨31, by decide, by omega, by omega⟩
  · rename_i h
    unfold own_nlz
    simp only [Int32.lt_iff_toInt_lt, ← Int32.toInt_inj, t0]
    rw [if_pos (by omega)]
    obtain ⟨k, a1, a2, a3, a4⟩ := own_p1 (own_hi w) (by omega)
    refine ⟨k + 32, by omega, ?_, ?_⟩
    · rw [Int.pow_add]
      omega
    · rw [Int.pow_add]
      omega
theorem own_bv32 (q : Int32) (k : Nat) (h : q.toInt = k) (hk : k < 64) : q.toBitVec.toNat % 64 = k := by
  have a : q.toBitVec.toInt = k := h
  have b := BitVec.toInt_eq_toNat_cond q.toBitVec
  have c := q.toBitVec.isLt
  generalize q.toBitVec.toNat = t at *
  by_cases d : 2 * t < 2 ^ 32
  · rw [if_pos d] at b
    omega
  · rw [if_neg d] at b
    omega
theorem own_ixlt (w : Int64) (h1 : 0 ≤ w.toInt) (h2 : w.toInt < 1099511627776) : 0 ≤ (own_index w).toInt ∧ (own_index w).toInt < 16384 := by
  have ew := c_l2i w
  have r := rng32 w.toInt32
  have t : (1024 : Int64).toInt = 1024 := rfl
  unfold own_index
  simp only [lw_lt, Int64.lt_iff_toInt_lt, t]
  split
  · omega
  · rename_i h
    obtain ⟨k, a1, a2, a3⟩ := own_len64 w (by omega) h2
    have k10 : 10 ≤ k := by
      apply Nat.le_of_not_lt
      intro q
      have : (2 : Nat) ^ k ≤ 2 ^ 9 := Nat.pow_le_pow_right (by decide) (by omega)
      have : (2 : Int) ^ k ≤ 2 ^ 9 := by exact_mod_cast this
      omega
    have k39 : k ≤ 39 := by
      apply Nat.le_of_not_lt
      intro q
      have : (2 : Nat) ^ 40 ≤ 2 ^ k := Nat.pow_le_pow_right (by decide) (by omega)
      have : (2 : Int) ^ 40 ≤ 2 ^ k := by exact_mod_cast this
      omega
    have e1 : (own_sh w).toInt = k - 9 := by
      unfold own_sh
      have t63 : (63 : Int32).toInt = 63 := rfl
      have t9 : (9 : Int32).toInt = 9 := rfl
      have q := own_isub 63 (own_nlz64 w) (by omega) (by omega) (by omega) (by omega)
      rw [own_isub _ _ (by omega) (by omega) (by omega) (by omega)]
      omega
    have e2 : (own_sh w).toBitVec.toNat % 64 = k - 9 := by
      exact own_bv32 _ _ (by omega) (by omega)
    have e3 := c_lshr w (own_sh w) (k - 9) e2
    have p : (2 : Int) ^ k = 512 * ((2 ^ (k - 9) : Nat) : Int) := by
      have : (2 : Nat) ^ k = 512 * 2 ^ (k - 9) := by
        rw [show (512 : Nat) = 2 ^ 9 from rfl, ← Nat.pow_add, show 9 + (k - 9) = k by omega]
      rw [show (2 : Int) ^ k = ((2 ^ k : Nat) : Int) by norm_cast, this]
      exact Int.natCast_mul 512 _
    have pp : (0 : Int) < ((2 ^ (k - 9) : Nat) : Int) := by exact_mod_cast Nat.two_pow_pos (k - 9)
    have b1 : 512 ≤ w.toInt / ((2 ^ (k - 9) : Nat) : Int) := (Int.le_ediv_iff_mul_le pp).mpr (by omega)
    have b2 : w.toInt / ((2 ^ (k - 9) : Nat) : Int) < 1024 := (Int.ediv_lt_iff_lt_mul pp).mpr (by omega)
    have e4 := c_l2i (w >>> (own_sh w &&& 0x3f).toInt64)
    have r4 := rng32 (w >>> (own_sh w &&& 0x3f).toInt64).toInt32
    have e5 := c_imul (own_sh w) 512
    have t512 : (512 : Int32).toInt = 512 := rfl
    have r5 := rng32 (own_sh w * 512)
    have e6 := c_iadd (own_sh w * 512) (w >>> (own_sh w &&& 0x3f).toInt64).toInt32
    have r6 := rng32 (own_sh w * 512 + (w >>> (own_sh w &&& 0x3f).toInt64).toInt32)
    rw [e1, t512] at e5
    rw [e3] at e4
    omega
def own_jx (v : Int64) : Nat := (own_index (own_min40 (own_max0 v))).toNatClampNeg
theorem own_clamp (v : Int64) : 0 ≤ (own_min40 (own_max0 v)).toInt ∧ (own_min40 (own_max0 v)).toInt < 1099511627776 := by
  have t0 : (0 : Int64).toInt = 0 := rfl
  have t1 : (1099511627775 : Int64).toInt = 1099511627775 := rfl
  unfold own_min40 own_max0
  simp only [lw_lt, lw_gt, Int64.lt_iff_toInt_lt, t0, t1]
  split <;> split at * <;> (simp only [t0, t1] at *; try omega)
theorem own_jin (v : Int64) : ¬ own_index (own_min40 (own_max0 v)) < 0 ∧ own_index (own_min40 (own_max0 v)) < 16384 := by
  have q := own_ixlt _ (own_clamp v).1 (own_clamp v).2
  have t0 : (0 : Int32).toInt = 0 := rfl
  have t1 : (16384 : Int32).toInt = 16384 := rfl
  simp only [Int32.lt_iff_toInt_lt, t0, t1]
  omega
theorem own_jlt (v : Int64) : own_jx v < 16384 := by
  have q := own_ixlt _ (own_clamp v).1 (own_clamp v).2
  show (own_index (own_min40 (own_max0 v))).toInt.toNat < 16384
  omega
def own_cf (f : Nat → Nat) : List Value := (List.range 16384).map fun i => Value.long (Int64.ofNat (f i))
def own_cl (js : List Nat) : List Value := own_cf fun i => js.count i
theorem own_cfat (f : Nat → Nat) {i : Nat} (h : i < 16384) : (own_cf f).getD i (.long (0 : Int64)) = .long (Int64.ofNat (f i)) := by
  unfold own_cf
  rw [List.getD_eq_getElem?_getD, List.getElem?_map, List.getElem?_range h]
  rfl
theorem own_cfout (f : Nat → Nat) {i : Nat} (h : ¬ i < 16384) : (own_cf f)[i]? = none := by
  unfold own_cf
  rw [List.getElem?_map, List.getElem?_eq_none (by rw [List.length_range]; omega)]
  rfl
theorem own_cfin (f : Nat → Nat) {i : Nat} (h : i < 16384) : (own_cf f)[i]? = some (.long (Int64.ofNat (f i))) := by
  unfold own_cf
  rw [List.getElem?_map, List.getElem?_range h]
  rfl
theorem own_cflen (f : Nat → Nat) : (own_cf f).length = 16384 := by
  unfold own_cf
  rw [List.length_map, List.length_range]
theorem own_cfset (f : Nat → Nat) (i x : Nat) : (own_cf f).set i (.long (Int64.ofNat x)) = own_cf fun t => if t = i then x else f t := by
  apply List.ext_getElem?
  intro t
  rw [List.getElem?_set]
  by_cases h : t < 16384
  · rw [own_cfin _ h, own_cfin _ h, own_cflen]
    by_cases e : i = t
    · subst e
      rw [if_pos rfl, if_pos h, if_pos rfl]
    · rw [if_neg e, if_neg (fun q => e q.symm)]
  · rw [own_cfout _ h, own_cfout _ h, own_cflen]
    by_cases e : i = t
    · subst e
      rw [if_pos rfl, if_neg h]
    · rw [if_neg e]
theorem own_cfext {f g : Nat → Nat} (h : ∀ i, f i = g i) : own_cf f = own_cf g := by rw [funext h]
theorem own_cl0 (i : Nat) : (own_cl []).getD i (.long (0 : Int64)) = ([] : List Value).getD i (.long (0 : Int64)) := by
  by_cases h : i < 16384
  · unfold own_cl
    rw [own_cfat _ h]
    rfl
  · unfold own_cl
    rw [List.getD_eq_getElem?_getD, own_cfout _ h]
    rfl
theorem own_of (a b : Nat) : Int64.ofNat a + Int64.ofNat b = Int64.ofNat (a + b) := (Int64.ofNat_add a b).symm
theorem own_clrec (js : List Nat) (j : Nat) : (own_cl js).set j (.long (Int64.ofNat (js.count j) + (1 : Int64))) = own_cl (js ++ [j]) := by
  unfold own_cl
  rw [show Int64.ofNat (js.count j) + (1 : Int64) = Int64.ofNat (js.count j + 1) from own_of _ 1, own_cfset]
  apply own_cfext
  intro i
  rw [List.count_append, List.count_singleton]
  by_cases e : i = j
  · subst e
    rw [if_pos rfl]
    simp
  · rw [if_neg e]
    have : (j == i) = false := by simp; exact fun q => e q.symm
    rw [this]
    simp
def own_mix (ja jb : List Nat) (n t : Nat) : Nat := if t < n then ja.count t + jb.count t else ja.count t
theorem own_mix0 (ja jb : List Nat) : own_cf (own_mix ja jb 0) = own_cl ja := own_cfext fun i => if_neg (Nat.not_lt_zero i)
theorem own_mixN (ja jb : List Nat) : own_cf (own_mix ja jb 16384) = own_cl (ja ++ jb) := by
  apply List.ext_getElem?
  intro t
  unfold own_cl
  by_cases h : t < 16384
  · rw [own_cfin _ h, own_cfin _ h, own_mix, if_pos h, List.count_append]
  · rw [own_cfout _ h, own_cfout _ h]
theorem own_mixS (ja jb : List Nat) (n : Nat) : (own_cf (own_mix ja jb n)).set n (.long (Int64.ofNat (own_mix ja jb n n) + Int64.ofNat (jb.count n))) = own_cf (own_mix ja jb (n + 1)) := by
  rw [own_of, own_cfset]
  apply own_cfext
  intro i
  unfold own_mix
  rw [if_neg (Nat.lt_irrefl n)]
  by_cases e : i = n
  · subst e
    rw [if_pos rfl, if_pos (by omega)]
  · rw [if_neg e]
    by_cases h : i < n
    · rw [if_pos h, if_pos (by omega)]
    · rw [if_neg h, if_neg (by omega)]
def own_lo (js : List Nat) (i : Nat) : Nat := js.countP (· < i)
def own_lt : List Nat → Prop
  | [] => True
  | x :: t => x < 16384 ∧ own_lt t
theorem own_lo0 (js : List Nat) : own_lo js 0 = 0 := by
  unfold own_lo
  rw [List.countP_eq_zero]
  intro a _
  simp
theorem own_loN (js : List Nat) (h : own_lt js) : own_lo js 16384 = js.length := by
  induction js with
  | nil => rfl
  | cons x t ih =>
    have := ih h.2
    unfold own_lo at this ⊢
    rw [List.countP_cons, this, if_pos (by simpa using h.1)]
    rfl
theorem own_loS (js : List Nat) (i : Nat) : own_lo js i + js.count i = own_lo js (i + 1) := by
  induction js with
  | nil => rfl
  | cons x t ih =>
    unfold own_lo at ih ⊢
    rw [List.countP_cons, List.countP_cons, List.count_cons, ← ih]
    by_cases e : x = i
    · subst e
      simp
      omega
    · by_cases h : x < i
      · rw [if_pos (by simpa using h), if_neg (by simpa using e), if_pos (by simp; omega)]
        omega
      · rw [if_neg (by simpa using h), if_neg (by simpa using e), if_neg (by simp; omega)]
        omega
theorem own_loLe (js : List Nat) (i : Nat) : own_lo js i ≤ js.length := List.countP_le_length
theorem own_loM (js : List Nat) {i j : Nat} (h : i ≤ j) : own_lo js i ≤ own_lo js j := by
  induction h with
  | refl => exact Nat.le_refl _
  | step _ ih =>
    have := own_loS js
    exact Nat.le_trans ih (by rw [← own_loS]; exact Nat.le_add_right _ _)
def own_at (js : List Nat) (r : Nat) (i : Int32) : Prop := 0 ≤ i.toInt ∧ own_lo js i.toNatClampNeg < r ∧ r ≤ own_lo js (i.toNatClampNeg + 1)
theorem own_at1 {js : List Nat} {r : Nat} {i j : Int32} (hi : own_at js r i) (hj : own_at js r j) : i = j := by
  obtain ⟨a1, a2, a3⟩ := hi
  obtain ⟨b1, b2, b3⟩ := hj
  have e : i.toNatClampNeg = j.toNatClampNeg := by
    apply Nat.le_antisymm
    · apply Nat.le_of_not_lt
      intro q
      have := own_loM js (show j.toNatClampNeg + 1 ≤ i.toNatClampNeg by omega)
      omega
    · apply Nat.le_of_not_lt
      intro q
      have := own_loM js (show i.toNatClampNeg + 1 ≤ j.toNatClampNeg by omega)
      omega
  have e1 : i.toNatClampNeg = i.toInt.toNat := rfl
  have e2 : j.toNatClampNeg = j.toInt.toNat := rfl
  rw [← Int32.toInt_inj]
  omega
theorem own_ofI (n : Nat) (h : n < 1000) : (Int64.ofNat n).toInt = n := Int64.toInt_ofNat_of_lt (by omega)
/-- the comparison of the loop: a count against the rank -/
theorem own_cmp (n r : Nat) (k : Int64) (hk : k.toInt = r) (hn : n < 1000) : lcmpW (Int64.ofNat n) k < 0 ↔ n < r := by
  rw [lw_lt, Int64.lt_iff_toInt_lt, own_ofI n hn, hk]
  omega
theorem own_inc {i n : Int32} (h : i < n) : (i + 1).toInt = i.toInt + 1 := by
  have r := rng32 i
  have r2 := rng32 n
  have h2 := Int32.lt_iff_toInt_lt.mp h
  rw [Int32.toInt_add, show (1 : Int32).toInt = 1 from rfl, Int.bmod_eq_of_le (by omega) (by omega)]
theorem own_nat {i : Int32} {k : Nat} (h : i.toInt = k) : i.toNatClampNeg = k := by
  show i.toInt.toNat = k
  omega
theorem pn_java_lang_Math_max__JJ_J : plainFor (⟨"java/lang/Math", "max", "(JJ)J"⟩ : MethodName) = true := Jvm.Free.JP.mathPlain rfl (by decide +kernel)
theorem pn_java_lang_Math_min__JJ_J : plainFor (⟨"java/lang/Math", "min", "(JJ)J"⟩ : MethodName) = true := Jvm.Free.JP.mathPlain rfl (by decide +kernel)
theorem pn_java_lang_Math_getExponent__D_I : plainFor (⟨"java/lang/Math", "getExponent", "(D)I"⟩ : MethodName) = true := Jvm.Free.JP.mathPlain rfl (by decide +kernel)
theorem d3_0 : decode jdk_29_method_66_code 0 = .ok (.lload_n 0, 1) := by decide +kernel
theorem d3_1 : decode jdk_29_method_66_code 1 = .ok (.lload_n 2, 1) := by decide +kernel
theorem d3_2 : decode jdk_29_method_66_code 2 = .ok (.lcmp, 1) := by decide +kernel
theorem d3_3 : decode jdk_29_method_66_code 3 = .ok (.ifCond .lt 7, 3) := by decide +kernel
theorem d3_10 : decode jdk_29_method_66_code 10 = .ok (.lload_n 2, 1) := by decide +kernel
theorem d3_11 : decode jdk_29_method_66_code 11 = .ok (.lreturn, 1) := by decide +kernel
theorem d3_6 : decode jdk_29_method_66_code 6 = .ok (.lload_n 0, 1) := by decide +kernel
theorem d3_7 : decode jdk_29_method_66_code 7 = .ok (.goto 4, 3) := by decide +kernel
abbrev own_m0 : MethodName := (⟨"java/lang/Math", "max", "(JJ)J"⟩ : MethodName)
theorem ef_rm_max0 (m : MethodId) (x : Int64) : entryFrame m #[(.long x), (.long (0 : Int64))] 4 = mkF m 0 #[.val (.long x), .second, .val (.long (0 : Int64)), .second] [] := by first | (simp [entryFrame, mkF, argsToLocals, Value.category]; done) | rfl
set_option maxRecDepth 65536 in
set_option maxHeartbeats 40000000 in
theorem rm_max0 {l : Launch} {Z : State} {a0 : Array Value} {A : Nat → Addr} {KC : Nat → Cell} {IC : Nat → Int32} {VC : Nat → Value} (hw : ∀ d ∈ tables_1, d.before a0 Z = true) (G : own_Ctx Z A KC IC VC) (x : Int64)  (h0 : Heap) (O0 : Ext Z.heap h0)  :
    Ok l Z own_m0 jdk_29_method_66_code 4 (some .long) ({ frames := 0, cells := 0, slots := 0, locals := 0 } : Room) #[(.long x), (.long (0 : Int64))] h0
      (fun v h L => v = some (.long (own_max0 x)) ∧ (h = h0) ∧ (L = [])) := by
  refine Ok.mk pn_java_lang_Math_max__JJ_J ?_
  intro p e s m below meth c T0 hx hby hml hown hnm hret hlk hZ e0 X0
  refine Go.cast (ef_rm_max0 m x) ?_
  have D := @hb _ _ hby
  have N0 := Fr.nil Z.heap.size
  have K0 : Keep h0 h0 [] := Keep.refl _ _
  refine Go.of (T' := T0) (f' := (mkF m 3 #[.val (.long x), .second, .val (.long (0 : Int64)), .second] [(.int (lcmpW x (0 : Int64)))])) (fun _ k => XS.lloadN X0.here hx rfl (D d3_0) rfl (XS.lloadN X0.here hx rfl (D d3_1) rfl (XS.lcmp X0.here hx rfl (D d3_2) rfl k))) ?_
  by_cases hc1 : (lcmpW x (0 : Int64)) < (0 : Int32)
  · skip
    refine Go.of (T' := T0) (f' := (mkF m 11 #[.val (.long x), .second, .val (.long (0 : Int64)), .second] [(.long (0 : Int64))])) (fun _ k => XS.ifYes X0.here hx rfl (pc0 := 3) (pc' := 10) rfl (D d3_3) rfl ((if0 _ _).trans (tlt hc1).1) (by decide) (by decide) (XS.lloadN X0.here hx rfl (D d3_10) rfl k)) ?_
    exact Go.retJ X0 hx hlk hret (D d3_11) (by decide) (by decide) (by rw [e0]; exact ⟨by rw [own_max0, if_pos hc1], rfl, by simp⟩)
  · skip
    refine Go.of (T' := T0) (f' := (mkF m 11 #[.val (.long x), .second, .val (.long (0 : Int64)), .second] [(.long x)])) (fun _ k => XS.ifNo X0.here hx rfl (D d3_3) rfl ((if0 _ _).trans (flt hc1).1) (XS.lloadN X0.here hx rfl (D d3_6) rfl (XS.goto X0.here hx rfl (pc0 := 7) (pc' := 11) rfl (D d3_7) (by decide) (by decide) k))) ?_
    exact Go.retJ X0 hx hlk hret (D d3_11) (by decide) (by decide) (by rw [e0]; exact ⟨by rw [own_max0, if_neg hc1], rfl, by simp⟩)
theorem d4_0 : decode jdk_29_method_70_code 0 = .ok (.lload_n 0, 1) := by decide +kernel
theorem d4_1 : decode jdk_29_method_70_code 1 = .ok (.lload_n 2, 1) := by decide +kernel
theorem d4_2 : decode jdk_29_method_70_code 2 = .ok (.lcmp, 1) := by decide +kernel
theorem d4_3 : decode jdk_29_method_70_code 3 = .ok (.ifCond .gt 7, 3) := by decide +kernel
theorem d4_10 : decode jdk_29_method_70_code 10 = .ok (.lload_n 2, 1) := by decide +kernel
theorem d4_11 : decode jdk_29_method_70_code 11 = .ok (.lreturn, 1) := by decide +kernel
theorem d4_6 : decode jdk_29_method_70_code 6 = .ok (.lload_n 0, 1) := by decide +kernel
theorem d4_7 : decode jdk_29_method_70_code 7 = .ok (.goto 4, 3) := by decide +kernel
abbrev own_m1 : MethodName := (⟨"java/lang/Math", "min", "(JJ)J"⟩ : MethodName)
theorem ef_rm_min40 (m : MethodId) (x : Int64) : entryFrame m #[(.long x), (.long (1099511627775 : Int64))] 4 = mkF m 0 #[.val (.long x), .second, .val (.long (1099511627775 : Int64)), .second] [] := by first | (simp [entryFrame, mkF, argsToLocals, Value.category]; done) | rfl
set_option maxRecDepth 65536 in
set_option maxHeartbeats 40000000 in
theorem rm_min40 {l : Launch} {Z : State} {a0 : Array Value} {A : Nat → Addr} {KC : Nat → Cell} {IC : Nat → Int32} {VC : Nat → Value} (hw : ∀ d ∈ tables_1, d.before a0 Z = true) (G : own_Ctx Z A KC IC VC) (x : Int64)  (h0 : Heap) (O0 : Ext Z.heap h0)  :
    Ok l Z own_m1 jdk_29_method_70_code 4 (some .long) ({ frames := 0, cells := 0, slots := 0, locals := 0 } : Room) #[(.long x), (.long (1099511627775 : Int64))] h0
      (fun v h L => v = some (.long (own_min40 x)) ∧ (h = h0) ∧ (L = [])) := by
  refine Ok.mk pn_java_lang_Math_min__JJ_J ?_
  intro p e s m below meth c T0 hx hby hml hown hnm hret hlk hZ e0 X0
  refine Go.cast (ef_rm_min40 m x) ?_
  have D := @hb _ _ hby
  have N0 := Fr.nil Z.heap.size
  have K0 : Keep h0 h0 [] := Keep.refl _ _
  refine Go.of (T' := T0) (f' := (mkF m 3 #[.val (.long x), .second, .val (.long (1099511627775 : Int64)), .second] [(.int (lcmpW x (1099511627775 : Int64)))])) (fun _ k => XS.lloadN X0.here hx rfl (D d4_0) rfl (XS.lloadN X0.here hx rfl (D d4_1) rfl (XS.lcmp X0.here hx rfl (D d4_2) rfl k))) ?_
  by_cases hc2 : (0 : Int32) < (lcmpW x (1099511627775 : Int64))
  · skip
    refine Go.of (T' := T0) (f' := (mkF m 11 #[.val (.long x), .second, .val (.long (1099511627775 : Int64)), .second] [(.long (1099511627775 : Int64))])) (fun _ k => XS.ifYes X0.here hx rfl (pc0 := 3) (pc' := 10) rfl (D d4_3) rfl ((if0 _ _).trans (tlt hc2).2.2.1) (by decide) (by decide) (XS.lloadN X0.here hx rfl (D d4_10) rfl k)) ?_
    exact Go.retJ X0 hx hlk hret (D d4_11) (by decide) (by decide) (by rw [e0]; exact ⟨by rw [own_min40, if_pos hc2], rfl, by simp⟩)
  · skip
    refine Go.of (T' := T0) (f' := (mkF m 11 #[.val (.long x), .second, .val (.long (1099511627775 : Int64)), .second] [(.long x)])) (fun _ k => XS.ifNo X0.here hx rfl (D d4_3) rfl ((if0 _ _).trans (flt hc2).2.2.1) (XS.lloadN X0.here hx rfl (D d4_6) rfl (XS.goto X0.here hx rfl (pc0 := 7) (pc' := 11) rfl (D d4_7) (by decide) (by decide) k))) ?_
    exact Go.retJ X0 hx hlk hret (D d4_11) (by decide) (by decide) (by rw [e0]; exact ⟨by rw [own_min40, if_neg hc2], rfl, by simp⟩)
theorem ef_rm_max1_1 (m : MethodId)  : entryFrame m #[(.long (1 : Int64)), (.long (1 : Int64))] 4 = mkF m 0 #[.val (.long (1 : Int64)), .second, .val (.long (1 : Int64)), .second] [] := by first | (simp [entryFrame, mkF, argsToLocals, Value.category]; done) | rfl
set_option maxRecDepth 65536 in
set_option maxHeartbeats 40000000 in
theorem rm_max1_1 {l : Launch} {Z : State} {a0 : Array Value} {A : Nat → Addr} {KC : Nat → Cell} {IC : Nat → Int32} {VC : Nat → Value} (hw : ∀ d ∈ tables_1, d.before a0 Z = true) (G : own_Ctx Z A KC IC VC)   (h0 : Heap) (O0 : Ext Z.heap h0)  :
    Ok l Z own_m0 jdk_29_method_66_code 4 (some .long) ({ frames := 0, cells := 0, slots := 0, locals := 0 } : Room) #[(.long (1 : Int64)), (.long (1 : Int64))] h0
      (fun v h L => v = some (.long (1 : Int64)) ∧ (h = h0) ∧ (L = [])) := by
  refine Ok.mk pn_java_lang_Math_max__JJ_J ?_
  intro p e s m below meth c T0 hx hby hml hown hnm hret hlk hZ e0 X0
  refine Go.cast (ef_rm_max1_1 m ) ?_
  have D := @hb _ _ hby
  have N0 := Fr.nil Z.heap.size
  have K0 : Keep h0 h0 [] := Keep.refl _ _
  refine Go.of (T' := T0) (f' := (mkF m 11 #[.val (.long (1 : Int64)), .second, .val (.long (1 : Int64)), .second] [(.long (1 : Int64))])) (fun _ k => XS.lloadN X0.here hx rfl (D d3_0) rfl (XS.lloadN X0.here hx rfl (D d3_1) rfl (XS.lcmp X0.here hx rfl (D d3_2) rfl (XS.ifNo X0.here hx rfl (D d3_3) rfl ((if0 _ _).trans (flt (by decide : ¬ ((0 : Int32) < (0 : Int32)))).1) (XS.lloadN X0.here hx rfl (D d3_6) rfl (XS.goto X0.here hx rfl (pc0 := 7) (pc' := 11) rfl (D d3_7) (by decide) (by decide) k)))))) ?_
  exact Go.retJ X0 hx hlk hret (D d3_11) (by decide) (by decide) (by rw [e0]; exact ⟨rfl, rfl, by simp⟩)
theorem ef_rm_max1_2 (m : MethodId)  : entryFrame m #[(.long (1 : Int64)), (.long (2 : Int64))] 4 = mkF m 0 #[.val (.long (1 : Int64)), .second, .val (.long (2 : Int64)), .second] [] := by first | (simp [entryFrame, mkF, argsToLocals, Value.category]; done) | rfl
set_option maxRecDepth 65536 in
set_option maxHeartbeats 40000000 in
theorem rm_max1_2 {l : Launch} {Z : State} {a0 : Array Value} {A : Nat → Addr} {KC : Nat → Cell} {IC : Nat → Int32} {VC : Nat → Value} (hw : ∀ d ∈ tables_1, d.before a0 Z = true) (G : own_Ctx Z A KC IC VC)   (h0 : Heap) (O0 : Ext Z.heap h0)  :
    Ok l Z own_m0 jdk_29_method_66_code 4 (some .long) ({ frames := 0, cells := 0, slots := 0, locals := 0 } : Room) #[(.long (1 : Int64)), (.long (2 : Int64))] h0
      (fun v h L => v = some (.long (2 : Int64)) ∧ (h = h0) ∧ (L = [])) := by
  refine Ok.mk pn_java_lang_Math_max__JJ_J ?_
  intro p e s m below meth c T0 hx hby hml hown hnm hret hlk hZ e0 X0
  refine Go.cast (ef_rm_max1_2 m ) ?_
  have D := @hb _ _ hby
  have N0 := Fr.nil Z.heap.size
  have K0 : Keep h0 h0 [] := Keep.refl _ _
  refine Go.of (T' := T0) (f' := (mkF m 11 #[.val (.long (1 : Int64)), .second, .val (.long (2 : Int64)), .second] [(.long (2 : Int64))])) (fun _ k => XS.lloadN X0.here hx rfl (D d3_0) rfl (XS.lloadN X0.here hx rfl (D d3_1) rfl (XS.lcmp X0.here hx rfl (D d3_2) rfl (XS.ifYes X0.here hx rfl (pc0 := 3) (pc' := 10) rfl (D d3_3) rfl ((if0 _ _).trans (tlt (by decide : (-1 : Int32) < (0 : Int32))).1) (by decide) (by decide) (XS.lloadN X0.here hx rfl (D d3_10) rfl k))))) ?_
  exact Go.retJ X0 hx hlk hret (D d3_11) (by decide) (by decide) (by rw [e0]; exact ⟨rfl, rfl, by simp⟩)
theorem ef_rm_max1_3 (m : MethodId)  : entryFrame m #[(.long (1 : Int64)), (.long (3 : Int64))] 4 = mkF m 0 #[.val (.long (1 : Int64)), .second, .val (.long (3 : Int64)), .second] [] := by first | (simp [entryFrame, mkF, argsToLocals, Value.category]; done) | rfl
set_option maxRecDepth 65536 in
set_option maxHeartbeats 40000000 in
theorem rm_max1_3 {l : Launch} {Z : State} {a0 : Array Value} {A : Nat → Addr} {KC : Nat → Cell} {IC : Nat → Int32} {VC : Nat → Value} (hw : ∀ d ∈ tables_1, d.before a0 Z = true) (G : own_Ctx Z A KC IC VC)   (h0 : Heap) (O0 : Ext Z.heap h0)  :
    Ok l Z own_m0 jdk_29_method_66_code 4 (some .long) ({ frames := 0, cells := 0, slots := 0, locals := 0 } : Room) #[(.long (1 : Int64)), (.long (3 : Int64))] h0
      (fun v h L => v = some (.long (3 : Int64)) ∧ (h = h0) ∧ (L = [])) := by
  refine Ok.mk pn_java_lang_Math_max__JJ_J ?_
  intro p e s m below meth c T0 hx hby hml hown hnm hret hlk hZ e0 X0
  refine Go.cast (ef_rm_max1_3 m ) ?_
  have D := @hb _ _ hby
  have N0 := Fr.nil Z.heap.size
  have K0 : Keep h0 h0 [] := Keep.refl _ _
  refine Go.of (T' := T0) (f' := (mkF m 11 #[.val (.long (1 : Int64)), .second, .val (.long (3 : Int64)), .second] [(.long (3 : Int64))])) (fun _ k => XS.lloadN X0.here hx rfl (D d3_0) rfl (XS.lloadN X0.here hx rfl (D d3_1) rfl (XS.lcmp X0.here hx rfl (D d3_2) rfl (XS.ifYes X0.here hx rfl (pc0 := 3) (pc' := 10) rfl (D d3_3) rfl ((if0 _ _).trans (tlt (by decide : (-1 : Int32) < (0 : Int32))).1) (by decide) (by decide) (XS.lloadN X0.here hx rfl (D d3_10) rfl k))))) ?_
  exact Go.retJ X0 hx hlk hret (D d3_11) (by decide) (by decide) (by rw [e0]; exact ⟨rfl, rfl, by simp⟩)
theorem d15_0 : decode jdk_33_method_47_code 0 = .ok (.iload_n 0, 1) := by decide +kernel
theorem d15_1 : decode jdk_33_method_47_code 1 = .ok (.ifCond .gt 14, 3) := by decide +kernel
theorem d15_15 : decode jdk_33_method_47_code 15 = .ok (.bipush 31, 2) := by decide +kernel
theorem d15_17 : decode jdk_33_method_47_code 17 = .ok (.istore_n 1, 1) := by decide +kernel
theorem d15_18 : decode jdk_33_method_47_code 18 = .ok (.iload_n 0, 1) := by decide +kernel
theorem d15_19 : decode jdk_33_method_47_code 19 = .ok (.ldc_w 264, 3) := by decide +kernel
theorem d15_22 : decode jdk_33_method_47_code 22 = .ok (.if_icmp .lt 11, 3) := by decide +kernel
theorem d15_33 : decode jdk_33_method_47_code 33 = .ok (.iload_n 0, 1) := by decide +kernel
theorem d15_34 : decode jdk_33_method_47_code 34 = .ok (.sipush 256, 3) := by decide +kernel
theorem d15_37 : decode jdk_33_method_47_code 37 = .ok (.if_icmp .lt 11, 3) := by decide +kernel
theorem d15_48 : decode jdk_33_method_47_code 48 = .ok (.iload_n 0, 1) := by decide +kernel
theorem d15_49 : decode jdk_33_method_47_code 49 = .ok (.bipush 16, 2) := by decide +kernel
theorem d15_51 : decode jdk_33_method_47_code 51 = .ok (.if_icmp .lt 10, 3) := by decide +kernel
theorem d15_61 : decode jdk_33_method_47_code 61 = .ok (.iload_n 0, 1) := by decide +kernel
theorem d15_62 : decode jdk_33_method_47_code 62 = .ok (.iconst 4, 1) := by decide +kernel
theorem d15_63 : decode jdk_33_method_47_code 63 = .ok (.if_icmp .lt 10, 3) := by decide +kernel
theorem d15_73 : decode jdk_33_method_47_code 73 = .ok (.iload_n 1, 1) := by decide +kernel
theorem d15_74 : decode jdk_33_method_47_code 74 = .ok (.iload_n 0, 1) := by decide +kernel
theorem d15_75 : decode jdk_33_method_47_code 75 = .ok (.iconst 1, 1) := by decide +kernel
theorem d15_76 : decode jdk_33_method_47_code 76 = .ok (.iushr, 1) := by decide +kernel
theorem d15_77 : decode jdk_33_method_47_code 77 = .ok (.isub, 1) := by decide +kernel
theorem d15_78 : decode jdk_33_method_47_code 78 = .ok (.ireturn, 1) := by decide +kernel
theorem d15_66 : decode jdk_33_method_47_code 66 = .ok (.iinc 1 (-2), 3) := by decide +kernel
theorem d15_69 : decode jdk_33_method_47_code 69 = .ok (.iload_n 0, 1) := by decide +kernel
theorem d15_70 : decode jdk_33_method_47_code 70 = .ok (.iconst 2, 1) := by decide +kernel
theorem d15_71 : decode jdk_33_method_47_code 71 = .ok (.iushr, 1) := by decide +kernel
theorem d15_72 : decode jdk_33_method_47_code 72 = .ok (.istore_n 0, 1) := by decide +kernel
theorem d15_54 : decode jdk_33_method_47_code 54 = .ok (.iinc 1 (-4), 3) := by decide +kernel
theorem d15_57 : decode jdk_33_method_47_code 57 = .ok (.iload_n 0, 1) := by decide +kernel
theorem d15_58 : decode jdk_33_method_47_code 58 = .ok (.iconst 4, 1) := by decide +kernel
theorem d15_59 : decode jdk_33_method_47_code 59 = .ok (.iushr, 1) := by decide +kernel
theorem d15_60 : decode jdk_33_method_47_code 60 = .ok (.istore_n 0, 1) := by decide +kernel
theorem d15_40 : decode jdk_33_method_47_code 40 = .ok (.iinc 1 (-8), 3) := by decide +kernel
theorem d15_43 : decode jdk_33_method_47_code 43 = .ok (.iload_n 0, 1) := by decide +kernel
theorem d15_44 : decode jdk_33_method_47_code 44 = .ok (.bipush 8, 2) := by decide +kernel
theorem d15_46 : decode jdk_33_method_47_code 46 = .ok (.iushr, 1) := by decide +kernel
theorem d15_47 : decode jdk_33_method_47_code 47 = .ok (.istore_n 0, 1) := by decide +kernel
theorem d15_25 : decode jdk_33_method_47_code 25 = .ok (.iinc 1 (-16), 3) := by decide +kernel
theorem d15_28 : decode jdk_33_method_47_code 28 = .ok (.iload_n 0, 1) := by decide +kernel
theorem d15_29 : decode jdk_33_method_47_code 29 = .ok (.bipush 16, 2) := by decide +kernel
theorem d15_31 : decode jdk_33_method_47_code 31 = .ok (.iushr, 1) := by decide +kernel
theorem d15_32 : decode jdk_33_method_47_code 32 = .ok (.istore_n 0, 1) := by decide +kernel
theorem d15_4 : decode jdk_33_method_47_code 4 = .ok (.iload_n 0, 1) := by decide +kernel
theorem d15_5 : decode jdk_33_method_47_code 5 = .ok (.ifCond .ne 8, 3) := by decide +kernel
theorem d15_8 : decode jdk_33_method_47_code 8 = .ok (.bipush 32, 2) := by decide +kernel
theorem d15_10 : decode jdk_33_method_47_code 10 = .ok (.goto 4, 3) := by decide +kernel
theorem d15_14 : decode jdk_33_method_47_code 14 = .ok (.ireturn, 1) := by decide +kernel
theorem d15_13 : decode jdk_33_method_47_code 13 = .ok (.iconst 0, 1) := by decide +kernel
abbrev own_m2 : MethodName := (⟨"java/lang/Integer", "numberOfLeadingZeros", "(I)I"⟩ : MethodName)
theorem ef_rm_nlz (m : MethodId) (x : Int32) : entryFrame m #[(.int x)] 2 = mkF m 0 #[iv x, .unset] [] := by first | (simp [entryFrame, mkF, argsToLocals, Value.category]; done) | rfl
theorem pn3 : plainFor (⟨"java/lang/Integer", "numberOfLeadingZeros", "(I)I"⟩ : MethodName) = true := by first | exact plainFor_of_name (by first | (simp [plainName, overriddenIn]; done) | decide +kernel) | decide +kernel
set_option maxRecDepth 65536 in
set_option maxHeartbeats 40000000 in
theorem rm_nlz {l : Launch} {Z : State} {a0 : Array Value} {A : Nat → Addr} {KC : Nat → Cell} {IC : Nat → Int32} {VC : Nat → Value} (hw : ∀ d ∈ tables_1, d.before a0 Z = true) (G : own_Ctx Z A KC IC VC) (x : Int32)  (h0 : Heap) (O0 : Ext Z.heap h0)  :
    Ok l Z own_m2 jdk_33_method_47_code 2 (some .int) ({ frames := 0, cells := 0, slots := 0, locals := 0 } : Room) #[(.int x)] h0
      (fun v h L => v = some (.int (own_nlz x)) ∧ (h = h0) ∧ (L = [])) := by
  refine Ok.mk pn3 ?_
  intro p e s m below meth c T0 hx hby hml hown hnm hret hlk hZ e0 X0
  refine Go.cast (ef_rm_nlz m x) ?_
  have D := @hb _ _ hby
  have N0 := Fr.nil Z.heap.size
  have K0 : Keep h0 h0 [] := Keep.refl _ _
  refine Go.of (T' := T0) (f' := (mkF m 1 #[iv x, .unset] [(.int x)])) (fun _ k => XS.iloadN X0.here hx rfl (D d15_0) rfl k) ?_
  by_cases hc6 : (0 : Int32) < x
  · skip
    refine Go.of (T' := T0) (f' := (mkF m 22 #[iv x, iv 31] [(.int 65536), (.int x)])) (fun _ k => XS.ifYes X0.here hx rfl (pc0 := 1) (pc' := 15) rfl (D d15_1) rfl ((if0 _ _).trans (tlt hc6).2.2.1) (by decide) (by decide) (XS.bipush X0.here hx rfl (D d15_15) (XS.istoreN X0.here hx rfl (D d15_17) rfl (l' := #[iv x, iv 31]) rfl (XS.iloadN X0.here hx rfl (D d15_18) rfl (X0.ldcwInt hx hown (mvT hZ (own_w hw (i := 84) rfl)) (g := (mkF m 19 #[iv x, iv 31] [(.int x)])) rfl (D d15_19) _ k))))) ?_
    by_cases hc7 : x < (65536 : Int32)
    · skip
      refine Go.of (T' := T0) (f' := (mkF m 37 #[iv x, iv 31] [(.int 256), (.int x)])) (fun _ k => XS.icmpYes X0.here hx rfl (pc0 := 22) (pc' := 33) rfl (D d15_22) rfl (tlt hc7).1 (by decide) (by decide) (XS.iloadN X0.here hx rfl (D d15_33) rfl (XS.sipush X0.here hx rfl (D d15_34) k))) ?_
      by_cases hc8 : x < (256 : Int32)
      · skip
        refine Go.of (T' := T0) (f' := (mkF m 51 #[iv x, iv 31] [(.int 16), (.int x)])) (fun _ k => XS.icmpYes X0.here hx rfl (pc0 := 37) (pc' := 48) rfl (D d15_37) rfl (tlt hc8).1 (by decide) (by decide) (XS.iloadN X0.here hx rfl (D d15_48) rfl (XS.bipush X0.here hx rfl (D d15_49) k))) ?_
        by_cases hc9 : x < (16 : Int32)
        · skip
          refine Go.of (T' := T0) (f' := (mkF m 63 #[iv x, iv 31] [(.int 4), (.int x)])) (fun _ k => XS.icmpYes X0.here hx rfl (pc0 := 51) (pc' := 61) rfl (D d15_51) rfl (tlt hc9).1 (by decide) (by decide) (XS.iloadN X0.here hx rfl (D d15_61) rfl (XS.iconst X0.here hx rfl (D d15_62) k))) ?_
          by_cases hc10 : x < (4 : Int32)
          · skip
            refine Go.of (T' := T0) (f' := (mkF m 78 #[iv x, iv 31] [(.int ((31 : Int32) - ((x.toUInt32 >>> ((1 : Int32) &&& 31).toUInt32).toInt32)))])) (fun _ k => XS.icmpYes X0.here hx rfl (pc0 := 63) (pc' := 73) rfl (D d15_63) rfl (tlt hc10).1 (by decide) (by decide) (XS.iloadN X0.here hx rfl (D d15_73) rfl (XS.iloadN X0.here hx rfl (D d15_74) rfl (XS.iconst X0.here hx rfl (D d15_75) (XS.iushr X0.here hx rfl (D d15_76) rfl (XS.isub X0.here hx rfl (D d15_77) rfl k)))))) ?_
            exact Go.retI X0 hx hlk hret (D d15_78) (by decide) (by decide) (by rw [e0]; exact ⟨by rw [own_nlz, if_pos hc6, own_n1, if_pos hc7, own_n2, if_pos hc8, own_n3, if_pos hc9, own_n4, if_pos hc10] <;> rfl, rfl, by simp⟩)
          · skip
            refine Go.of (T' := T0) (f' := (mkF m 78 #[iv ((x.toUInt32 >>> ((2 : Int32) &&& 31).toUInt32).toInt32), iv 29] [(.int ((29 : Int32) - ((((x.toUInt32 >>> ((2 : Int32) &&& 31).toUInt32).toInt32).toUInt32 >>> ((1 : Int32) &&& 31).toUInt32).toInt32)))])) (fun _ k => XS.icmpNo X0.here hx rfl (D d15_63) rfl (flt hc10).1 (XS.iinc X0.here hx rfl (D d15_66) rfl (l' := #[iv x, iv 29]) rfl (XS.iloadN X0.here hx rfl (D d15_69) rfl (XS.iconst X0.here hx rfl (D d15_70) (XS.iushr X0.here hx rfl (D d15_71) rfl (XS.istoreN X0.here hx rfl (D d15_72) rfl (l' := #[iv ((x.toUInt32 >>> ((2 : Int32) &&& 31).toUInt32).toInt32), iv 29]) rfl (XS.iloadN X0.here hx rfl (D d15_73) rfl (XS.iloadN X0.here hx rfl (D d15_74) rfl (XS.iconst X0.here hx rfl (D d15_75) (XS.iushr X0.here hx rfl (D d15_76) rfl (XS.isub X0.here hx rfl (D d15_77) rfl k))))))))))) ?_
            exact Go.retI X0 hx hlk hret (D d15_78) (by decide) (by decide) (by rw [e0]; exact ⟨by rw [own_nlz, if_pos hc6, own_n1, if_pos hc7, own_n2, if_pos hc8, own_n3, if_pos hc9, own_n4, if_neg hc10] <;> rfl, rfl, by simp⟩)
        · skip
          refine Go.of (T' := T0) (f' := (mkF m 63 #[iv ((x.toUInt32 >>> ((4 : Int32) &&& 31).toUInt32).toInt32), iv 27] [(.int 4), (.int ((x.toUInt32 >>> ((4 : Int32) &&& 31).toUInt32).toInt32))])) (fun _ k => XS.icmpNo X0.here hx rfl (D d15_51) rfl (flt hc9).1 (XS.iinc X0.here hx rfl (D d15_54) rfl (l' := #[iv x, iv 27]) rfl (XS.iloadN X0.here hx rfl (D d15_57) rfl (XS.iconst X0.here hx rfl (D d15_58) (XS.iushr X0.here hx rfl (D d15_59) rfl (XS.istoreN X0.here hx rfl (D d15_60) rfl (l' := #[iv ((x.toUInt32 >>> ((4 : Int32) &&& 31).toUInt32).toInt32), iv 27]) rfl (XS.iloadN X0.here hx rfl (D d15_61) rfl (XS.iconst X0.here hx rfl (D d15_62) k)))))))) ?_
          by_cases hc11 : ((x.toUInt32 >>> ((4 : Int32) &&& 31).toUInt32).toInt32) < (4 : Int32)
          · skip
            refine Go.of (T' := T0) (f' := (mkF m 78 #[iv ((x.toUInt32 >>> ((4 : Int32) &&& 31).toUInt32).toInt32), iv 27] [(.int ((27 : Int32) - ((((x.toUInt32 >>> ((4 : Int32) &&& 31).toUInt32).toInt32).toUInt32 >>> ((1 : Int32) &&& 31).toUInt32).toInt32)))])) (fun _ k => XS.icmpYes X0.here hx rfl (pc0 := 63) (pc' := 73) rfl (D d15_63) rfl (tlt hc11).1 (by decide) (by decide) (XS.iloadN X0.here hx rfl (D d15_73) rfl (XS.iloadN X0.here hx rfl (D d15_74) rfl (XS.iconst X0.here hx rfl (D d15_75) (XS.iushr X0.here hx rfl (D d15_76) rfl (XS.isub X0.here hx rfl (D d15_77) rfl k)))))) ?_
            exact Go.retI X0 hx hlk hret (D d15_78) (by decide) (by decide) (by rw [e0]; exact ⟨by rw [own_nlz, if_pos hc6, own_n1, if_pos hc7, own_n2, if_pos hc8, own_n3, if_neg hc9, own_n4, if_pos hc11] <;> rfl, rfl, by simp⟩)
          · skip
            refine Go.of (T' := T0) (f' := (mkF m 78 #[iv ((((x.toUInt32 >>> ((4 : Int32) &&& 31).toUInt32).toInt32).toUInt32 >>> ((2 : Int32) &&& 31).toUInt32).toInt32), iv 25] [(.int ((25 : Int32) - ((((((x.toUInt32 >>> ((4 : Int32) &&& 31).toUInt32).toInt32).toUInt32 >>> ((2 : Int32) &&& 31).toUInt32).toInt32).toUInt32 >>> ((1 : Int32) &&& 31).toUInt32).toInt32)))])) (fun _ k => XS.icmpNo X0.here hx rfl (D d15_63) rfl (flt hc11).1 (XS.iinc X0.here hx rfl (D d15_66) rfl (l' := #[iv ((x.toUInt32 >>> ((4 : Int32) &&& 31).toUInt32).toInt32), iv 25]) rfl (XS.iloadN X0.here hx rfl (D d15_69) rfl (XS.iconst X0.here hx rfl (D d15_70) (XS.iushr X0.here hx rfl (D d15_71) rfl (XS.istoreN X0.here hx rfl (D d15_72) rfl (l' := #[iv ((((x.toUInt32 >>> ((4 : Int32) &&& 31).toUInt32).toInt32).toUInt32 >>> ((2 : Int32) &&& 31).toUInt32).toInt32), iv 25]) rfl (XS.iloadN X0.here hx rfl (D d15_73) rfl (XS.iloadN X0.here hx rfl (D d15_74) rfl (XS.iconst X0.here hx rfl (D d15_75) (XS.iushr X0.here hx rfl (D d15_76) rfl (XS.isub X0.here hx rfl (D d15_77) rfl k))))))))))) ?_
            exact Go.retI X0 hx hlk hret (D d15_78) (by decide) (by decide) (by rw [e0]; exact ⟨by rw [own_nlz, if_pos hc6, own_n1, if_pos hc7, own_n2, if_pos hc8, own_n3, if_neg hc9, own_n4, if_neg hc11] <;> rfl, rfl, by simp⟩)
      · skip
        refine Go.of (T' := T0) (f' := (mkF m 51 #[iv ((x.toUInt32 >>> ((8 : Int32) &&& 31).toUInt32).toInt32), iv 23] [(.int 16), (.int ((x.toUInt32 >>> ((8 : Int32) &&& 31).toUInt32).toInt32))])) (fun _ k => XS.icmpNo X0.here hx rfl (D d15_37) rfl (flt hc8).1 (XS.iinc X0.here hx rfl (D d15_40) rfl (l' := #[iv x, iv 23]) rfl (XS.iloadN X0.here hx rfl (D d15_43) rfl (XS.bipush X0.here hx rfl (D d15_44) (XS.iushr X0.here hx rfl (D d15_46) rfl (XS.istoreN X0.here hx rfl (D d15_47) rfl (l' := #[iv ((x.toUInt32 >>> ((8 : Int32) &&& 31).toUInt32).toInt32), iv 23]) rfl (XS.iloadN X0.here hx rfl (D d15_48) rfl (XS.bipush X0.here hx rfl (D d15_49) k)))))))) ?_
        by_cases hc12 : ((x.toUInt32 >>> ((8 : Int32) &&& 31).toUInt32).toInt32) < (16 : Int32)
        · skip
          refine Go.of (T' := T0) (f' := (mkF m 63 #[iv ((x.toUInt32 >>> ((8 : Int32) &&& 31).toUInt32).toInt32), iv 23] [(.int 4), (.int ((x.toUInt32 >>> ((8 : Int32) &&& 31).toUInt32).toInt32))])) (fun _ k => XS.icmpYes X0.here hx rfl (pc0 := 51) (pc' := 61) rfl (D d15_51) rfl (tlt hc12).1 (by decide) (by decide) (XS.iloadN X0.here hx rfl (D d15_61) rfl (XS.iconst X0.here hx rfl (D d15_62) k))) ?_
          by_cases hc13 : ((x.toUInt32 >>> ((8 : Int32) &&& 31).toUInt32).toInt32) < (4 : Int32)
          · skip
            refine Go.of (T' := T0) (f' := (mkF m 78 #[iv ((x.toUInt32 >>> ((8 : Int32) &&& 31).toUInt32).toInt32), iv 23] [(.int ((23 : Int32) - ((((x.toUInt32 >>> ((8 : Int32) &&& 31).toUInt32).toInt32).toUInt32 >>> ((1 : Int32) &&& 31).toUInt32).toInt32)))])) (fun _ k => XS.icmpYes X0.here hx rfl (pc0 := 63) (pc' := 73) rfl (D d15_63) rfl (tlt hc13).1 (by decide) (by decide) (XS.iloadN X0.here hx rfl (D d15_73) rfl (XS.iloadN X0.here hx rfl (D d15_74) rfl (XS.iconst X0.here hx rfl (D d15_75) (XS.iushr X0.here hx rfl (D d15_76) rfl (XS.isub X0.here hx rfl (D d15_77) rfl k)))))) ?_
            exact Go.retI X0 hx hlk hret (D d15_78) (by decide) (by decide) (by rw [e0]; exact ⟨by rw [own_nlz, if_pos hc6, own_n1, if_pos hc7, own_n2, if_neg hc8, own_n3, if_pos hc12, own_n4, if_pos hc13] <;> rfl, rfl, by simp⟩)
          · skip
            refine Go.of (T' := T0) (f' := (mkF m 78 #[iv ((((x.toUInt32 >>> ((8 : Int32) &&& 31).toUInt32).toInt32).toUInt32 >>> ((2 : Int32) &&& 31).toUInt32).toInt32), iv 21] [(.int ((21 : Int32) - ((((((x.toUInt32 >>> ((8 : Int32) &&& 31).toUInt32).toInt32).toUInt32 >>> ((2 : Int32) &&& 31).toUInt32).toInt32).toUInt32 >>> ((1 : Int32) &&& 31).toUInt32).toInt32)))])) (fun _ k => XS.icmpNo X0.here hx rfl (D d15_63) rfl (flt hc13).1 (XS.iinc X0.here hx rfl (D d15_66) rfl (l' := #[iv ((x.toUInt32 >>> ((8 : Int32) &&& 31).toUInt32).toInt32), iv 21]) rfl (XS.iloadN X0.here hx rfl (D d15_69) rfl (XS.iconst X0.here hx rfl (D d15_70) (XS.iushr X0.here hx rfl (D d15_71) rfl (XS.istoreN X0.here hx rfl (D d15_72) rfl (l' := #[iv ((((x.toUInt32 >>> ((8 : Int32) &&& 31).toUInt32).toInt32).toUInt32 >>> ((2 : Int32) &&& 31).toUInt32).toInt32), iv 21]) rfl (XS.iloadN X0.here hx rfl (D d15_73) rfl (XS.iloadN X0.here hx rfl (D d15_74) rfl (XS.iconst X0.here hx rfl (D d15_75) (XS.iushr X0.here hx rfl (D d15_76) rfl (XS.isub X0.here hx rfl (D d15_77) rfl k))))))))))) ?_
            exact Go.retI X0 hx hlk hret (D d15_78) (by decide) (by decide) (by rw [e0]; exact ⟨by rw [own_nlz, if_pos hc6, own_n1, if_pos hc7, own_n2, if_neg hc8, own_n3, if_pos hc12, own_n4, if_neg hc13] <;> rfl, rfl, by simp⟩)
        · skip
          refine Go.of (T' := T0) (f' := (mkF m 63 #[iv ((((x.toUInt32 >>> ((8 : Int32) &&& 31).toUInt32).toInt32).toUInt32 >>> ((4 : Int32) &&& 31).toUInt32).toInt32), iv 19] [(.int 4), (.int ((((x.toUInt32 >>> ((8 : Int32) &&& 31).toUInt32).toInt32).toUInt32 >>> ((4 : Int32) &&& 31).toUInt32).toInt32))])) (fun _ k => XS.icmpNo X0.here hx rfl (D d15_51) rfl (flt hc12).1 (XS.iinc X0.here hx rfl (D d15_54) rfl (l' := #[iv ((x.toUInt32 >>> ((8 : Int32) &&& 31).toUInt32).toInt32), iv 19]) rfl (XS.iloadN X0.here hx rfl (D d15_57) rfl (XS.iconst X0.here hx rfl (D d15_58) (XS.iushr X0.here hx rfl (D d15_59) rfl (XS.istoreN X0.here hx rfl (D d15_60) rfl (l' := #[iv ((((x.toUInt32 >>> ((8 : Int32) &&& 31).toUInt32).toInt32).toUInt32 >>> ((4 : Int32) &&& 31).toUInt32).toInt32), iv 19]) rfl (XS.iloadN X0.here hx rfl (D d15_61) rfl (XS.iconst X0.here hx rfl (D d15_62) k)))))))) ?_
          by_cases hc14 : ((((x.toUInt32 >>> ((8 : Int32) &&& 31).toUInt32).toInt32).toUInt32 >>> ((4 : Int32) &&& 31).toUInt32).toInt32) < (4 : Int32)
          · skip
            refine Go.of (T' := T0) (f' := (mkF m 78 #[iv ((((x.toUInt32 >>> ((8 : Int32) &&& 31).toUInt32).toInt32).toUInt32 >>> ((4 : Int32) &&& 31).toUInt32).toInt32), iv 19] [(.int ((19 : Int32) - ((((((x.toUInt32 >>> ((8 : Int32) &&& 31).toUInt32).toInt32).toUInt32 >>> ((4 : Int32) &&& 31).toUInt32).toInt32).toUInt32 >>> ((1 : Int32) &&& 31).toUInt32).toInt32)))])) (fun _ k => XS.icmpYes X0.here hx rfl (pc0 := 63) (pc' := 73) rfl (D d15_63) rfl (tlt hc14).1 (by decide) (by decide) (XS.iloadN X0.here hx rfl (D d15_73) rfl (XS.iloadN X0.here hx rfl (D d15_74) rfl (XS.iconst X0.here hx rfl (D d15_75) (XS.iushr X0.here hx rfl (D d15_76) rfl (XS.isub X0.here hx rfl (D d15_77) rfl k)))))) ?_
            exact Go.retI X0 hx hlk hret (D d15_78) (by decide) (by decide) (by rw [e0]; exact ⟨by rw [own_nlz, if_pos hc6, own_n1, if_pos hc7, own_n2, if_neg hc8, own_n3, if_neg hc12, own_n4, if_pos hc14] <;> rfl, rfl, by simp⟩)
          · skip
            refine Go.of (T' := T0) (f' := (mkF m 78 #[iv ((((((x.toUInt32 >>> ((8 : Int32) &&& 31).toUInt32).toInt32).toUInt32 >>> ((4 : Int32) &&& 31).toUInt32).toInt32).toUInt32 >>> ((2 : Int32) &&& 31).toUInt32).toInt32), iv 17] [(.int ((17 : Int32) - ((((((((x.toUInt32 >>> ((8 : Int32) &&& 31).toUInt32).toInt32).toUInt32 >>> ((4 : Int32) &&& 31).toUInt32).toInt32).toUInt32 >>> ((2 : Int32) &&& 31).toUInt32).toInt32).toUInt32 >>> ((1 : Int32) &&& 31).toUInt32).toInt32)))])) (fun _ k => XS.icmpNo X0.here hx rfl (D d15_63) rfl (flt hc14).1 (XS.iinc X0.here hx rfl (D d15_66) rfl (l' := #[iv ((((x.toUInt32 >>> ((8 : Int32) &&& 31).toUInt32).toInt32).toUInt32 >>> ((4 : Int32) &&& 31).toUInt32).toInt32), iv 17]) rfl (XS.iloadN X0.here hx rfl (D d15_69) rfl (XS.iconst X0.here hx rfl (D d15_70) (XS.iushr X0.here hx rfl (D d15_71) rfl (XS.istoreN X0.here hx rfl (D d15_72) rfl (l' := #[iv ((((((x.toUInt32 >>> ((8 : Int32) &&& 31).toUInt32).toInt32).toUInt32 >>> ((4 : Int32) &&& 31).toUInt32).toInt32).toUInt32 >>> ((2 : Int32) &&& 31).toUInt32).toInt32), iv 17]) rfl (XS.iloadN X0.here hx rfl (D d15_73) rfl (XS.iloadN X0.here hx rfl (D d15_74) rfl (XS.iconst X0.here hx rfl (D d15_75) (XS.iushr X0.here hx rfl (D d15_76) rfl (XS.isub X0.here hx rfl (D d15_77) rfl k))))))))))) ?_
            exact Go.retI X0 hx hlk hret (D d15_78) (by decide) (by decide) (by rw [e0]; exact ⟨by rw [own_nlz, if_pos hc6, own_n1, if_pos hc7, own_n2, if_neg hc8, own_n3, if_neg hc12, own_n4, if_neg hc14] <;> rfl, rfl, by simp⟩)
    · skip
      refine Go.of (T' := T0) (f' := (mkF m 37 #[iv ((x.toUInt32 >>> ((16 : Int32) &&& 31).toUInt32).toInt32), iv 15] [(.int 256), (.int ((x.toUInt32 >>> ((16 : Int32) &&& 31).toUInt32).toInt32))])) (fun _ k => XS.icmpNo X0.here hx rfl (D d15_22) rfl (flt hc7).1 (XS.iinc X0.here hx rfl (D d15_25) rfl (l' := #[iv x, iv 15]) rfl (XS.iloadN X0.here hx rfl (D d15_28) rfl (XS.bipush X0.here hx rfl (D d15_29) (XS.iushr X0.here hx rfl (D d15_31) rfl (XS.istoreN X0.here hx rfl (D d15_32) rfl (l' := #[iv ((x.toUInt32 >>> ((16 : Int32) &&& 31).toUInt32).toInt32), iv 15]) rfl (XS.iloadN X0.here hx rfl (D d15_33) rfl (XS.sipush X0.here hx rfl (D d15_34) k)))))))) ?_
      by_cases hc15 : ((x.toUInt32 >>> ((16 : Int32) &&& 31).toUInt32).toInt32) < (256 : Int32)
      · skip
        refine Go.of (T' := T0) (f' := (mkF m 51 #[iv ((x.toUInt32 >>> ((16 : Int32) &&& 31).toUInt32).toInt32), iv 15] [(.int 16), (.int ((x.toUInt32 >>> ((16 : Int32) &&& 31).toUInt32).toInt32))])) (fun _ k => XS.icmpYes X0.here hx rfl (pc0 := 37) (pc' := 48) rfl (D d15_37) rfl (tlt hc15).1 (by decide) (by decide) (XS.iloadN X0.here hx rfl (D d15_48) rfl (XS.bipush X0.here hx rfl (D d15_49) k))) ?_
        by_cases hc16 : ((x.toUInt32 >>> ((16 : Int32) &&& 31).toUInt32).toInt32) < (16 : Int32)
        · skip
          refine Go.of (T' := T0) (f' := (mkF m 63 #[iv ((x.toUInt32 >>> ((16 : Int32) &&& 31).toUInt32).toInt32), iv 15] [(.int 4), (.int ((x.toUInt32 >>> ((16 : Int32) &&& 31).toUInt32).toInt32))])) (fun _ k => XS.icmpYes X0.here hx rfl (pc0 := 51) (pc' := 61) rfl (D d15_51) rfl (tlt hc16).1 (by decide) (by decide) (XS.iloadN X0.here hx rfl (D d15_61) rfl (XS.iconst X0.here hx rfl (D d15_62) k))) ?_
          by_cases hc17 : ((x.toUInt32 >>> ((16 : Int32) &&& 31).toUInt32).toInt32) < (4 : Int32)
          · skip
            refine Go.of (T' := T0) (f' := (mkF m 78 #[iv ((x.toUInt32 >>> ((16 : Int32) &&& 31).toUInt32).toInt32), iv 15] [(.int ((15 : Int32) - ((((x.toUInt32 >>> ((16 : Int32) &&& 31).toUInt32).toInt32).toUInt32 >>> ((1 : Int32) &&& 31).toUInt32).toInt32)))])) (fun _ k => XS.icmpYes X0.here hx rfl (pc0 := 63) (pc' := 73) rfl (D d15_63) rfl (tlt hc17).1 (by decide) (by decide) (XS.iloadN X0.here hx rfl (D d15_73) rfl (XS.iloadN X0.here hx rfl (D d15_74) rfl (XS.iconst X0.here hx rfl (D d15_75) (XS.iushr X0.here hx rfl (D d15_76) rfl (XS.isub X0.here hx rfl (D d15_77) rfl k)))))) ?_
            exact Go.retI X0 hx hlk hret (D d15_78) (by decide) (by decide) (by rw [e0]; exact ⟨by rw [own_nlz, if_pos hc6, own_n1, if_neg hc7, own_n2, if_pos hc15, own_n3, if_pos hc16, own_n4, if_pos hc17] <;> rfl, rfl, by simp⟩)
          · skip
            refine Go.of (T' := T0) (f' := (mkF m 78 #[iv ((((x.toUInt32 >>> ((16 : Int32) &&& 31).toUInt32).toInt32).toUInt32 >>> ((2 : Int32) &&& 31).toUInt32).toInt32), iv 13] [(.int ((13 : Int32) - ((((((x.toUInt32 >>> ((16 : Int32) &&& 31).toUInt32).toInt32).toUInt32 >>> ((2 : Int32) &&& 31).toUInt32).toInt32).toUInt32 >>> ((1 : Int32) &&& 31).toUInt32).toInt32)))])) (fun _ k => XS.icmpNo X0.here hx rfl (D d15_63) rfl (flt hc17).1 (XS.iinc X0.here hx rfl (D d15_66) rfl (l' := #[iv ((x.toUInt32 >>> ((16 : Int32) &&& 31).toUInt32).toInt32), iv 13]) rfl (XS.iloadN X0.here hx rfl (D d15_69) rfl (XS.iconst X0.here hx rfl (D d15_70) (XS.iushr X0.here hx rfl (D d15_71) rfl (XS.istoreN X0.here hx rfl (D d15_72) rfl (l' := #[iv ((((x.toUInt32 >>> ((16 : Int32) &&& 31).toUInt32).toInt32).toUInt32 >>> ((2 : Int32) &&& 31).toUInt32).toInt32), iv 13]) rfl (XS.iloadN X0.here hx rfl (D d15_73) rfl (XS.iloadN X0.here hx rfl (D d15_74) rfl (XS.iconst X0.here hx rfl (D d15_75) (XS.iushr X0.here hx rfl (D d15_76) rfl (XS.isub X0.here hx rfl (D d15_77) rfl k))))))))))) ?_
            exact Go.retI X0 hx hlk hret (D d15_78) (by decide) (by decide) (by rw [e0]; exact ⟨by rw [own_nlz, if_pos hc6, own_n1, if_neg hc7, own_n2, if_pos hc15, own_n3, if_pos hc16, own_n4, if_neg hc17] <;> rfl, rfl, by simp⟩)
        · skip
          refine Go.of (T' := T0) (f' := (mkF m 63 #[iv ((((x.toUInt32 >>> ((16 : Int32) &&& 31).toUInt32).toInt32).toUInt32 >>> ((4 : Int32) &&& 31).toUInt32).toInt32), iv 11] [(.int 4), (.int ((((x.toUInt32 >>> ((16 : Int32) &&& 31).toUInt32).toInt32).toUInt32 >>> ((4 : Int32) &&& 31).toUInt32).toInt32))])) (fun _ k => XS.icmpNo X0.here hx rfl (D d15_51) rfl (flt hc16).1 (XS.iinc X0.here hx rfl (D d15_54) rfl (l' := #[iv ((x.toUInt32 >>> ((16 : Int32) &&& 31).toUInt32).toInt32), iv 11]) rfl (XS.iloadN X0.here hx rfl (D d15_57) rfl (XS.iconst X0.here hx rfl (D d15_58) (XS.iushr X0.here hx rfl (D d15_59) rfl (XS.istoreN X0.here hx rfl (D d15_60) rfl (l' := #[iv ((((x.toUInt32 >>> ((16 : Int32) &&& 31).toUInt32).toInt32).toUInt32 >>> ((4 : Int32) &&& 31).toUInt32).toInt32), iv 11]) rfl (XS.iloadN X0.here hx rfl (D d15_61) rfl (XS.iconst X0.here hx rfl (D d15_62) k)))))))) ?_
          by_cases hc18 : ((((x.toUInt32 >>> ((16 : Int32) &&& 31).toUInt32).toInt32).toUInt32 >>> ((4 : Int32) &&& 31).toUInt32).toInt32) < (4 : Int32)
          · skip
            refine Go.of (T' := T0) (f' := (mkF m 78 #[iv ((((x.toUInt32 >>> ((16 : Int32) &&& 31).toUInt32).toInt32).toUInt32 >>> ((4 : Int32) &&& 31).toUInt32).toInt32), iv 11] [(.int ((11 : Int32) - ((((((x.toUInt32 >>> ((16 : Int32) &&& 31).toUInt32).toInt32).toUInt32 >>> ((4 : Int32) &&& 31).toUInt32).toInt32).toUInt32 >>> ((1 : Int32) &&& 31).toUInt32).toInt32)))])) (fun _ k => XS.icmpYes X0.here hx rfl (pc0 := 63) (pc' := 73) rfl (D d15_63) rfl (tlt hc18).1 (by decide) (by decide) (XS.iloadN X0.here hx rfl (D d15_73) rfl (XS.iloadN X0.here hx rfl (D d15_74) rfl (XS.iconst X0.here hx rfl (D d15_75) (XS.iushr X0.here hx rfl (D d15_76) rfl (XS.isub X0.here hx rfl (D d15_77) rfl k)))))) ?_
            exact Go.retI X0 hx hlk hret (D d15_78) (by decide) (by decide) (by rw [e0]; exact ⟨by rw [own_nlz, if_pos hc6, own_n1, if_neg hc7, own_n2, if_pos hc15, own_n3, if_neg hc16, own_n4, if_pos hc18] <;> rfl, rfl, by simp⟩)
          · skip
            refine Go.of (T' := T0) (f' := (mkF m 78 #[iv ((((((x.toUInt32 >>> ((16 : Int32) &&& 31).toUInt32).toInt32).toUInt32 >>> ((4 : Int32) &&& 31).toUInt32).toInt32).toUInt32 >>> ((2 : Int32) &&& 31).toUInt32).toInt32), iv 9] [(.int ((9 : Int32) - ((((((((x.toUInt32 >>> ((16 : Int32) &&& 31).toUInt32).toInt32).toUInt32 >>> ((4 : Int32) &&& 31).toUInt32).toInt32).toUInt32 >>> ((2 : Int32) &&& 31).toUInt32).toInt32).toUInt32 >>> ((1 : Int32) &&& 31).toUInt32).toInt32)))])) (fun _ k => XS.icmpNo X0.here hx rfl (D d15_63) rfl (flt hc18).1 (XS.iinc X0.here hx rfl (D d15_66) rfl (l' := #[iv ((((x.toUInt32 >>> ((16 : Int32) &&& 31).toUInt32).toInt32).toUInt32 >>> ((4 : Int32) &&& 31).toUInt32).toInt32), iv 9]) rfl (XS.iloadN X0.here hx rfl (D d15_69) rfl (XS.iconst X0.here hx rfl (D d15_70) (XS.iushr X0.here hx rfl (D d15_71) rfl (XS.istoreN X0.here hx rfl (D d15_72) rfl (l' := #[iv ((((((x.toUInt32 >>> ((16 : Int32) &&& 31).toUInt32).toInt32).toUInt32 >>> ((4 : Int32) &&& 31).toUInt32).toInt32).toUInt32 >>> ((2 : Int32) &&& 31).toUInt32).toInt32), iv 9]) rfl (XS.iloadN X0.here hx rfl (D d15_73) rfl (XS.iloadN X0.here hx rfl (D d15_74) rfl (XS.iconst X0.here hx rfl (D d15_75) (XS.iushr X0.here hx rfl (D d15_76) rfl (XS.isub X0.here hx rfl (D d15_77) rfl k))))))))))) ?_
            exact Go.retI X0 hx hlk hret (D d15_78) (by decide) (by decide) (by rw [e0]; exact ⟨by rw [own_nlz, if_pos hc6, own_n1, if_neg hc7, own_n2, if_pos hc15, own_n3, if_neg hc16, own_n4, if_neg hc18] <;> rfl, rfl, by simp⟩)
      · skip
        refine Go.of (T' := T0) (f' := (mkF m 51 #[iv ((((x.toUInt32 >>> ((16 : Int32) &&& 31).toUInt32).toInt32).toUInt32 >>> ((8 : Int32) &&& 31).toUInt32).toInt32), iv 7] [(.int 16), (.int ((((x.toUInt32 >>> ((16 : Int32) &&& 31).toUInt32).toInt32).toUInt32 >>> ((8 : Int32) &&& 31).toUInt32).toInt32))])) (fun _ k => XS.icmpNo X0.here hx rfl (D d15_37) rfl (flt hc15).1 (XS.iinc X0.here hx rfl (D d15_40) rfl (l' := #[iv ((x.toUInt32 >>> ((16 : Int32) &&& 31).toUInt32).toInt32), iv 7]) rfl (XS.iloadN X0.here hx rfl (D d15_43) rfl (XS.bipush X0.here hx rfl (D d15_44) (XS.iushr X0.here hx rfl (D d15_46) rfl (XS.istoreN X0.here hx rfl (D d15_47) rfl (l' := #[iv ((((x.toUInt32 >>> ((16 : Int32) &&& 31).toUInt32).toInt32).toUInt32 >>> ((8 : Int32) &&& 31).toUInt32).toInt32), iv 7]) rfl (XS.iloadN X0.here hx rfl (D d15_48) rfl (XS.bipush X0.here hx rfl (D d15_49) k)))))))) ?_
        by_cases hc19 : ((((x.toUInt32 >>> ((16 : Int32) &&& 31).toUInt32).toInt32).toUInt32 >>> ((8 : Int32) &&& 31).toUInt32).toInt32) < (16 : Int32)
        · skip
          refine Go.of (T' := T0) (f' := (mkF m 63 #[iv ((((x.toUInt32 >>> ((16 : Int32) &&& 31).toUInt32).toInt32).toUInt32 >>> ((8 : Int32) &&& 31).toUInt32).toInt32), iv 7] [(.int 4), (.int ((((x.toUInt32 >>> ((16 : Int32) &&& 31).toUInt32).toInt32).toUInt32 >>> ((8 : Int32) &&& 31).toUInt32).toInt32))])) (fun _ k => XS.icmpYes X0.here hx rfl (pc0 := 51) (pc' := 61) rfl (D d15_51) rfl (tlt hc19).1 (by decide) (by decide) (XS.iloadN X0.here hx rfl (D d15_61) rfl (XS.iconst X0.here hx rfl (D d15_62) k))) ?_
          by_cases hc20 : ((((x.toUInt32 >>> ((16 : Int32) &&& 31).toUInt32).toInt32).toUInt32 >>> ((8 : Int32) &&& 31).toUInt32).toInt32) < (4 : Int32)
          · skip
            refine Go.of (T' := T0) (f' := (mkF m 78 #[iv ((((x.toUInt32 >>> ((16 : Int32) &&& 31).toUInt32).toInt32).toUInt32 >>> ((8 : Int32) &&& 31).toUInt32).toInt32), iv 7] [(.int ((7 : Int32) - ((((((x.toUInt32 >>> ((16 : Int32) &&& 31).toUInt32).toInt32).toUInt32 >>> ((8 : Int32) &&& 31).toUInt32).toInt32).toUInt32 >>> ((1 : Int32) &&& 31).toUInt32).toInt32)))])) (fun _ k => XS.icmpYes X0.here hx rfl (pc0 := 63) (pc' := 73) rfl (D d15_63) rfl (tlt hc20).1 (by decide) (by decide) (XS.iloadN X0.here hx rfl (D d15_73) rfl (XS.iloadN X0.here hx rfl (D d15_74) rfl (XS.iconst X0.here hx rfl (D d15_75) (XS.iushr X0.here hx rfl (D d15_76) rfl (XS.isub X0.here hx rfl (D d15_77) rfl k)))))) ?_
            exact Go.retI X0 hx hlk hret (D d15_78) (by decide) (by decide) (by rw [e0]; exact ⟨by rw [own_nlz, if_pos hc6, own_n1, if_neg hc7, own_n2, if_neg hc15, own_n3, if_pos hc19, own_n4, if_pos hc20] <;> rfl, rfl, by simp⟩)
          · skip
            refine Go.of (T' := T0) (f' := (mkF m 78 #[iv ((((((x.toUInt32 >>> ((16 : Int32) &&& 31).toUInt32).toInt32).toUInt32 >>> ((8 : Int32) &&& 31).toUInt32).toInt32).toUInt32 >>> ((2 : Int32) &&& 31).toUInt32).toInt32), iv 5] [(.int ((5 : Int32) - ((((((((x.toUInt32 >>> ((16 : Int32) &&& 31).toUInt32).toInt32).toUInt32 >>> ((8 : Int32) &&& 31).toUInt32).toInt32).toUInt32 >>> ((2 : Int32) &&& 31).toUInt32).toInt32).toUInt32 >>> ((1 : Int32) &&& 31).toUInt32).toInt32)))])) (fun _ k => XS.icmpNo X0.here hx rfl (D d15_63) rfl (flt hc20).1 (XS.iinc X0.here hx rfl (D d15_66) rfl (l' := #[iv ((((x.toUInt32 >>> ((16 : Int32) &&& 31).toUInt32).toInt32).toUInt32 >>> ((8 : Int32) &&& 31).toUInt32).toInt32), iv 5]) rfl (XS.iloadN X0.here hx rfl (D d15_69) rfl (XS.iconst X0.here hx rfl (D d15_70) (XS.iushr X0.here hx rfl (D d15_71) rfl (XS.istoreN X0.here hx rfl (D d15_72) rfl (l' := #[iv ((((((x.toUInt32 >>> ((16 : Int32) &&& 31).toUInt32).toInt32).toUInt32 >>> ((8 : Int32) &&& 31).toUInt32).toInt32).toUInt32 >>> ((2 : Int32) &&& 31).toUInt32).toInt32), iv 5]) rfl (XS.iloadN X0.here hx rfl (D d15_73) rfl (XS.iloadN X0.here hx rfl (D d15_74) rfl (XS.iconst X0.here hx rfl (D d15_75) (XS.iushr X0.here hx rfl (D d15_76) rfl (XS.isub X0.here hx rfl (D d15_77) rfl k))))))))))) ?_
            exact Go.retI X0 hx hlk hret (D d15_78) (by decide) (by decide) (by rw [e0]; exact ⟨by rw [own_nlz, if_pos hc6, own_n1, if_neg hc7, own_n2, if_neg hc15, own_n3, if_pos hc19, own_n4, if_neg hc20] <;> rfl, rfl, by simp⟩)
        · skip
          refine Go.of (T' := T0) (f' := (mkF m 63 #[iv ((((((x.toUInt32 >>> ((16 : Int32) &&& 31).toUInt32).toInt32).toUInt32 >>> ((8 : Int32) &&& 31).toUInt32).toInt32).toUInt32 >>> ((4 : Int32) &&& 31).toUInt32).toInt32), iv 3] [(.int 4), (.int ((((((x.toUInt32 >>> ((16 : Int32) &&& 31).toUInt32).toInt32).toUInt32 >>> ((8 : Int32) &&& 31).toUInt32).toInt32).toUInt32 >>> ((4 : Int32) &&& 31).toUInt32).toInt32))])) (fun _ k => XS.icmpNo X0.here hx rfl (D d15_51) rfl (flt hc19).1 (XS.iinc X0.here hx rfl (D d15_54) rfl (l' := #[iv ((((x.toUInt32 >>> ((16 : Int32) &&& 31).toUInt32).toInt32).toUInt32 >>> ((8 : Int32) &&& 31).toUInt32).toInt32), iv 3]) rfl (XS.iloadN X0.here hx rfl (D d15_57) rfl (XS.iconst X0.here hx rfl (D d15_58) (XS.iushr X0.here hx rfl (D d15_59) rfl (XS.istoreN X0.here hx rfl (D d15_60) rfl (l' := #[iv ((((((x.toUInt32 >>> ((16 : Int32) &&& 31).toUInt32).toInt32).toUInt32 >>> ((8 : Int32) &&& 31).toUInt32).toInt32).toUInt32 >>> ((4 : Int32) &&& 31).toUInt32).toInt32), iv 3]) rfl (XS.iloadN X0.here hx rfl (D d15_61) rfl (XS.iconst X0.here hx rfl (D d15_62) k)))))))) ?_
          by_cases hc21 : ((((((x.toUInt32 >>> ((16 : Int32) &&& 31).toUInt32).toInt32).toUInt32 >>> ((8 : Int32) &&& 31).toUInt32).toInt32).toUInt32 >>> ((4 : Int32) &&& 31).toUInt32).toInt32) < (4 : Int32)
          · skip
            refine Go.of (T' := T0) (f' := (mkF m 78 #[iv ((((((x.toUInt32 >>> ((16 : Int32) &&& 31).toUInt32).toInt32).toUInt32 >>> ((8 : Int32) &&& 31).toUInt32).toInt32).toUInt32 >>> ((4 : Int32) &&& 31).toUInt32).toInt32), iv 3] [(.int ((3 : Int32) - ((((((((x.toUInt32 >>> ((16 : Int32) &&& 31).toUInt32).toInt32).toUInt32 >>> ((8 : Int32) &&& 31).toUInt32).toInt32).toUInt32 >>> ((4 : Int32) &&& 31).toUInt32).toInt32).toUInt32 >>> ((1 : Int32) &&& 31).toUInt32).toInt32)))])) (fun _ k => XS.icmpYes X0.here hx rfl (pc0 := 63) (pc' := 73) rfl (D d15_63) rfl (tlt hc21).1 (by decide) (by decide) (XS.iloadN X0.here hx rfl (D d15_73) rfl (XS.iloadN X0.here hx rfl (D d15_74) rfl (XS.iconst X0.here hx rfl (D d15_75) (XS.iushr X0.here hx rfl (D d15_76) rfl (XS.isub X0.here hx rfl (D d15_77) rfl k)))))) ?_
            exact Go.retI X0 hx hlk hret (D d15_78) (by decide) (by decide) (by rw [e0]; exact ⟨by rw [own_nlz, if_pos hc6, own_n1, if_neg hc7, own_n2, if_neg hc15, own_n3, if_neg hc19, own_n4, if_pos hc21] <;> rfl, rfl, by simp⟩)
          · skip
            refine Go.of (T' := T0) (f' := (mkF m 78 #[iv ((((((((x.toUInt32 >>> ((16 : Int32) &&& 31).toUInt32).toInt32).toUInt32 >>> ((8 : Int32) &&& 31).toUInt32).toInt32).toUInt32 >>> ((4 : Int32) &&& 31).toUInt32).toInt32).toUInt32 >>> ((2 : Int32) &&& 31).toUInt32).toInt32), iv 1] [(.int ((1 : Int32) - ((((((((((x.toUInt32 >>> ((16 : Int32) &&& 31).toUInt32).toInt32).toUInt32 >>> ((8 : Int32) &&& 31).toUInt32).toInt32).toUInt32 >>> ((4 : Int32) &&& 31).toUInt32).toInt32).toUInt32 >>> ((2 : Int32) &&& 31).toUInt32).toInt32).toUInt32 >>> ((1 : Int32) &&& 31).toUInt32).toInt32)))])) (fun _ k => XS.icmpNo X0.here hx rfl (D d15_63) rfl (flt hc21).1 (XS.iinc X0.here hx rfl (D d15_66) rfl (l' := #[iv ((((((x.toUInt32 >>> ((16 : Int32) &&& 31).toUInt32).toInt32).toUInt32 >>> ((8 : Int32) &&& 31).toUInt32).toInt32).toUInt32 >>> ((4 : Int32) &&& 31).toUInt32).toInt32), iv 1]) rfl (XS.iloadN X0.here hx rfl (D d15_69) rfl (XS.iconst X0.here hx rfl (D d15_70) (XS.iushr X0.here hx rfl (D d15_71) rfl (XS.istoreN X0.here hx rfl (D d15_72) rfl (l' := #[iv ((((((((x.toUInt32 >>> ((16 : Int32) &&& 31).toUInt32).toInt32).toUInt32 >>> ((8 : Int32) &&& 31).toUInt32).toInt32).toUInt32 >>> ((4 : Int32) &&& 31).toUInt32).toInt32).toUInt32 >>> ((2 : Int32) &&& 31).toUInt32).toInt32), iv 1]) rfl (XS.iloadN X0.here hx rfl (D d15_73) rfl (XS.iloadN X0.here hx rfl (D d15_74) rfl (XS.iconst X0.here hx rfl (D d15_75) (XS.iushr X0.here hx rfl (D d15_76) rfl (XS.isub X0.here hx rfl (D d15_77) rfl k))))))))))) ?_
            exact Go.retI X0 hx hlk hret (D d15_78) (by decide) (by decide) (by rw [e0]; exact ⟨by rw [own_nlz, if_pos hc6, own_n1, if_neg hc7, own_n2, if_neg hc15, own_n3, if_neg hc19, own_n4, if_neg hc21] <;> rfl, rfl, by simp⟩)
  · skip
    refine Go.of (T' := T0) (f' := (mkF m 5 #[iv x, .unset] [(.int x)])) (fun _ k => XS.ifNo X0.here hx rfl (D d15_1) rfl ((if0 _ _).trans (flt hc6).2.2.1) (XS.iloadN X0.here hx rfl (D d15_4) rfl k)) ?_
    by_cases hc22 : x = (0 : Int32)
    · skip
      refine Go.of (T' := T0) (f' := (mkF m 14 #[iv x, .unset] [(.int 32)])) (fun _ k => XS.ifNo X0.here hx rfl (D d15_5) rfl ((if0 _ _).trans (teq hc22).2) (XS.bipush X0.here hx rfl (D d15_8) (XS.goto X0.here hx rfl (pc0 := 10) (pc' := 14) rfl (D d15_10) (by decide) (by decide) k))) ?_
      exact Go.retI X0 hx hlk hret (D d15_14) (by decide) (by decide) (by rw [e0]; exact ⟨by rw [own_nlz, if_neg hc6, if_pos hc22], rfl, by simp⟩)
    · skip
      refine Go.of (T' := T0) (f' := (mkF m 14 #[iv x, .unset] [(.int 0)])) (fun _ k => XS.ifYes X0.here hx rfl (pc0 := 5) (pc' := 13) rfl (D d15_5) rfl ((if0 _ _).trans (feq hc22).2) (by decide) (by decide) (XS.iconst X0.here hx rfl (D d15_13) k)) ?_
      exact Go.retI X0 hx hlk hret (D d15_14) (by decide) (by decide) (by rw [e0]; exact ⟨by rw [own_nlz, if_neg hc6, if_neg hc22], rfl, by simp⟩)
theorem own_nlzP (w : Int64) (h : own_hi w = 0) : 32 + own_nlz w.toInt32 = own_nlz64 w := (if_pos h).symm
theorem own_nlzN (w : Int64) (h : ¬ own_hi w = 0) : own_nlz (own_hi w) = own_nlz64 w := (if_neg h).symm
theorem d14_0 : decode jdk_35_method_48_code 0 = .ok (.lload_n 0, 1) := by decide +kernel
theorem d14_1 : decode jdk_35_method_48_code 1 = .ok (.bipush 32, 2) := by decide +kernel
theorem d14_3 : decode jdk_35_method_48_code 3 = .ok (.lushr, 1) := by decide +kernel
theorem d14_4 : decode jdk_35_method_48_code 4 = .ok (.l2i, 1) := by decide +kernel
theorem d14_5 : decode jdk_35_method_48_code 5 = .ok (.istore_n 2, 1) := by decide +kernel
theorem d14_6 : decode jdk_35_method_48_code 6 = .ok (.iload_n 2, 1) := by decide +kernel
theorem d14_7 : decode jdk_35_method_48_code 7 = .ok (.ifCond .ne 14, 3) := by decide +kernel
theorem d14_10 : decode jdk_35_method_48_code 10 = .ok (.bipush 32, 2) := by decide +kernel
theorem d14_12 : decode jdk_35_method_48_code 12 = .ok (.lload_n 0, 1) := by decide +kernel
theorem d14_13 : decode jdk_35_method_48_code 13 = .ok (.l2i, 1) := by decide +kernel
theorem d14_14 : decode jdk_35_method_48_code 14 = .ok (.invokestatic 308, 3) := by decide +kernel
theorem pd4 : parseMethodDescriptor "(I)I" = some ⟨[.int], some .int⟩ := by decide +kernel
theorem d14_17 : decode jdk_35_method_48_code 17 = .ok (.iadd, 1) := by decide +kernel
theorem d14_18 : decode jdk_35_method_48_code 18 = .ok (.goto 7, 3) := by decide +kernel
theorem d14_25 : decode jdk_35_method_48_code 25 = .ok (.ireturn, 1) := by decide +kernel
theorem d14_21 : decode jdk_35_method_48_code 21 = .ok (.iload_n 2, 1) := by decide +kernel
theorem d14_22 : decode jdk_35_method_48_code 22 = .ok (.invokestatic 308, 3) := by decide +kernel
abbrev own_m5 : MethodName := (⟨"java/lang/Long", "numberOfLeadingZeros", "(J)I"⟩ : MethodName)
theorem ef_rm_nlz64 (m : MethodId) (w : Int64) : entryFrame m #[(.long w)] 3 = mkF m 0 #[.val (.long w), .second, .unset] [] := by first | (simp [entryFrame, mkF, argsToLocals, Value.category]; done) | rfl
theorem pn6 : plainFor (⟨"java/lang/Long", "numberOfLeadingZeros", "(J)I"⟩ : MethodName) = true := by first | exact plainFor_of_name (by first | (simp [plainName, overriddenIn]; done) | decide +kernel) | decide +kernel
set_option maxRecDepth 65536 in
set_option maxHeartbeats 40000000 in
theorem rm_nlz64 {l : Launch} {Z : State} {a0 : Array Value} {A : Nat → Addr} {KC : Nat → Cell} {IC : Nat → Int32} {VC : Nat → Value} (hw : ∀ d ∈ tables_1, d.before a0 Z = true) (G : own_Ctx Z A KC IC VC) (w : Int64)  (h0 : Heap) (O0 : Ext Z.heap h0)  :
    Ok l Z own_m5 jdk_35_method_48_code 3 (some .int) ({ frames := 1, cells := 0, slots := 0, locals := 14 } : Room) #[(.long w)] h0
      (fun v h L => v = some (.int (own_nlz64 w)) ∧ (h = h0) ∧ (L = [])) := by
  refine Ok.mk pn6 ?_
  intro p e s m below meth c T0 hx hby hml hown hnm hret hlk hZ e0 X0
  refine Go.cast (ef_rm_nlz64 m w) ?_
  have D := @hb _ _ hby
  have N0 := Fr.nil Z.heap.size
  have K0 : Keep h0 h0 [] := Keep.refl _ _
  refine Go.of (T' := T0) (f' := (mkF m 7 #[.val (.long w), .second, iv (((w.toUInt64 >>> ((32 : Int32) &&& 0x3f).toInt64.toUInt64).toInt64).toInt32)] [(.int (((w.toUInt64 >>> ((32 : Int32) &&& 0x3f).toInt64.toUInt64).toInt64).toInt32))])) (fun _ k => XS.lloadN X0.here hx rfl (D d14_0) rfl (XS.bipush X0.here hx rfl (D d14_1) (XS.lushr X0.here hx rfl (D d14_3) rfl (XS.l2i X0.here hx rfl (D d14_4) rfl (XS.istoreN X0.here hx rfl (D d14_5) rfl (l' := #[.val (.long w), .second, iv (((w.toUInt64 >>> ((32 : Int32) &&& 0x3f).toInt64.toUInt64).toInt64).toInt32)]) rfl (XS.iloadN X0.here hx rfl (D d14_6) rfl k)))))) ?_
  by_cases hc23 : (((w.toUInt64 >>> ((32 : Int32) &&& 0x3f).toInt64.toUInt64).toInt64).toInt32) = (0 : Int32)
  · skip
    obtain ⟨T24, v24, L24, X24, q24, st24⟩ := callSt X0 hx hZ (y := own_m2) hown (own_w hw (i := 80) rfl) (own_w hw (i := 81) rfl) (own_w hw (i := 82) rfl) (own_w hw (i := 83) rfl) (by decide) (rm_nlz hw G (w.toInt32)  h0 O0 ) e0 (W := 1) (by decide) (by decide) (by decide) (by decide) (g := (mkF m 14 #[.val (.long w), .second, iv (((w.toUInt64 >>> ((32 : Int32) &&& 0x3f).toInt64.toUInt64).toInt64).toInt32)] [(.int (w.toInt32)), (.int 32)])) rfl (by rw [hml]; rfl) (argsL := [(.int (w.toInt32))]) (rest := [(.int 32)]) (lenOf pd4 rfl) rfl rfl (Nat.le_of_eq rfl) (D d14_14)
    obtain ⟨rfl, e24, rfl⟩ := q24
    have N24 := Fr.app N0 (Fr.nil _)
    refine Go.of (T' := T24) (f' := (mkF m 25 #[.val (.long w), .second, iv (((w.toUInt64 >>> ((32 : Int32) &&& 0x3f).toInt64.toUInt64).toInt64).toInt32)] [(.int ((32 : Int32) + (own_nlz (w.toInt32))))])) (fun _ k => XS.ifNo X0.here hx rfl (D d14_7) rfl ((if0 _ _).trans (teq hc23).2) (XS.bipush X0.here hx rfl (D d14_10) (XS.lloadN X0.here hx rfl (D d14_12) rfl (XS.l2i X0.here hx rfl (D d14_13) rfl (st24 _ (XS.iadd X24.here hx rfl (D d14_17) rfl (XS.goto X24.here hx rfl (pc0 := 18) (pc' := 25) rfl (D d14_18) (by decide) (by decide) k))))))) ?_
    exact Go.retI X24 hx hlk hret (D d14_25) (by decide) (by decide) (by rw [e24]; exact ⟨congrArg (fun z => some (Value.int z)) (own_nlzP w hc23), rfl, by simp⟩)
  · skip
    obtain ⟨T25, v25, L25, X25, q25, st25⟩ := callSt X0 hx hZ (y := own_m2) hown (own_w hw (i := 80) rfl) (own_w hw (i := 81) rfl) (own_w hw (i := 82) rfl) (own_w hw (i := 83) rfl) (by decide) (rm_nlz hw G ((((w.toUInt64 >>> ((32 : Int32) &&& 0x3f).toInt64.toUInt64).toInt64).toInt32))  h0 O0 ) e0 (W := 0) (by decide) (by decide) (by decide) (by decide) (g := (mkF m 22 #[.val (.long w), .second, iv (((w.toUInt64 >>> ((32 : Int32) &&& 0x3f).toInt64.toUInt64).toInt64).toInt32)] [(.int (((w.toUInt64 >>> ((32 : Int32) &&& 0x3f).toInt64.toUInt64).toInt64).toInt32))])) rfl (by rw [hml]; rfl) (argsL := [(.int (((w.toUInt64 >>> ((32 : Int32) &&& 0x3f).toInt64.toUInt64).toInt64).toInt32))]) (rest := []) (lenOf pd4 rfl) rfl rfl (Nat.le_of_eq rfl) (D d14_22)
    obtain ⟨rfl, e25, rfl⟩ := q25
    have N25 := Fr.app N0 (Fr.nil _)
    refine Go.of (T' := T25) (f' := (mkF m 25 #[.val (.long w), .second, iv (((w.toUInt64 >>> ((32 : Int32) &&& 0x3f).toInt64.toUInt64).toInt64).toInt32)] [(.int (own_nlz (((w.toUInt64 >>> ((32 : Int32) &&& 0x3f).toInt64.toUInt64).toInt64).toInt32)))])) (fun _ k => XS.ifYes X0.here hx rfl (pc0 := 7) (pc' := 21) rfl (D d14_7) rfl ((if0 _ _).trans (feq hc23).2) (by decide) (by decide) (XS.iloadN X0.here hx rfl (D d14_21) rfl (st25 _ k))) ?_
    exact Go.retI X25 hx hlk hret (D d14_25) (by decide) (by decide) (by rw [e25]; exact ⟨congrArg (fun z => some (Value.int z)) (own_nlzN w hc23), rfl, by simp⟩)
theorem d5_0 : decode prog_10_method_5_code 0 = .ok (.lload_n 0, 1) := by decide +kernel
theorem d5_1 : decode prog_10_method_5_code 1 = .ok (.ldc2_w 44, 3) := by decide +kernel
theorem d5_4 : decode prog_10_method_5_code 4 = .ok (.lcmp, 1) := by decide +kernel
theorem d5_5 : decode prog_10_method_5_code 5 = .ok (.ifCond .ge 9, 3) := by decide +kernel
theorem d5_8 : decode prog_10_method_5_code 8 = .ok (.lload_n 0, 1) := by decide +kernel
theorem d5_9 : decode prog_10_method_5_code 9 = .ok (.l2i, 1) := by decide +kernel
theorem d5_10 : decode prog_10_method_5_code 10 = .ok (.istore_n 2, 1) := by decide +kernel
theorem d5_11 : decode prog_10_method_5_code 11 = .ok (.goto 30, 3) := by decide +kernel
theorem d5_41 : decode prog_10_method_5_code 41 = .ok (.iload_n 2, 1) := by decide +kernel
theorem d5_42 : decode prog_10_method_5_code 42 = .ok (.ireturn, 1) := by decide +kernel
theorem d5_14 : decode prog_10_method_5_code 14 = .ok (.bipush 63, 2) := by decide +kernel
theorem d5_16 : decode prog_10_method_5_code 16 = .ok (.lload_n 0, 1) := by decide +kernel
theorem d5_17 : decode prog_10_method_5_code 17 = .ok (.invokestatic 46, 3) := by decide +kernel
theorem pd7 : parseMethodDescriptor "(J)I" = some ⟨[.long], some .int⟩ := by decide +kernel
theorem d5_20 : decode prog_10_method_5_code 20 = .ok (.isub, 1) := by decide +kernel
theorem d5_21 : decode prog_10_method_5_code 21 = .ok (.istore_n 3, 1) := by decide +kernel
theorem d5_22 : decode prog_10_method_5_code 22 = .ok (.iload_n 3, 1) := by decide +kernel
theorem d5_23 : decode prog_10_method_5_code 23 = .ok (.bipush 9, 2) := by decide +kernel
theorem d5_25 : decode prog_10_method_5_code 25 = .ok (.isub, 1) := by decide +kernel
theorem d5_26 : decode prog_10_method_5_code 26 = .ok (.istore 4, 2) := by decide +kernel
theorem d5_28 : decode prog_10_method_5_code 28 = .ok (.iload 4, 2) := by decide +kernel
theorem d5_30 : decode prog_10_method_5_code 30 = .ok (.sipush 512, 3) := by decide +kernel
theorem d5_33 : decode prog_10_method_5_code 33 = .ok (.imul, 1) := by decide +kernel
theorem d5_34 : decode prog_10_method_5_code 34 = .ok (.lload_n 0, 1) := by decide +kernel
theorem d5_35 : decode prog_10_method_5_code 35 = .ok (.iload 4, 2) := by decide +kernel
theorem d5_37 : decode prog_10_method_5_code 37 = .ok (.lshr, 1) := by decide +kernel
theorem d5_38 : decode prog_10_method_5_code 38 = .ok (.l2i, 1) := by decide +kernel
theorem d5_39 : decode prog_10_method_5_code 39 = .ok (.iadd, 1) := by decide +kernel
theorem d5_40 : decode prog_10_method_5_code 40 = .ok (.istore_n 2, 1) := by decide +kernel
abbrev own_m8 : MethodName := (⟨"com/example/portcall/portcall/cli/Latencies", "index", "(J)I"⟩ : MethodName)
theorem ef_rm_index (m : MethodId) (w : Int64) : entryFrame m #[(.long w)] 5 = mkF m 0 #[.val (.long w), .second, .unset, .unset, .unset] [] := by first | (simp [entryFrame, mkF, argsToLocals, Value.category]; done) | rfl
theorem pn9 : plainFor (⟨"com/example/portcall/portcall/cli/Latencies", "index", "(J)I"⟩ : MethodName) = true := by first | exact plainFor_of_name (by first | (simp [plainName, overriddenIn]; done) | decide +kernel) | decide +kernel
set_option maxRecDepth 65536 in
set_option maxHeartbeats 40000000 in
theorem rm_index {l : Launch} {Z : State} {a0 : Array Value} {A : Nat → Addr} {KC : Nat → Cell} {IC : Nat → Int32} {VC : Nat → Value} (hw : ∀ d ∈ tables_1, d.before a0 Z = true) (G : own_Ctx Z A KC IC VC) (w : Int64)  (h0 : Heap) (O0 : Ext Z.heap h0)  :
    Ok l Z own_m8 prog_10_method_5_code 5 (some .int) ({ frames := 2, cells := 0, slots := 0, locals := 29 } : Room) #[(.long w)] h0
      (fun v h L => v = some (.int (own_index w)) ∧ (h = h0) ∧ (L = [])) := by
  refine Ok.mk pn9 ?_
  intro p e s m below meth c T0 hx hby hml hown hnm hret hlk hZ e0 X0
  refine Go.cast (ef_rm_index m w) ?_
  have D := @hb _ _ hby
  have N0 := Fr.nil Z.heap.size
  have K0 : Keep h0 h0 [] := Keep.refl _ _
  refine Go.of (T' := T0) (f' := (mkF m 5 #[.val (.long w), .second, .unset, .unset, .unset] [(.int (lcmpW w (1024 : Int64)))])) (fun _ k => XS.lloadN X0.here hx rfl (D d5_0) rfl (X0.ldc2Long hx hown (mvT hZ (own_w hw (i := 29) rfl)) (g := (mkF m 1 #[.val (.long w), .second, .unset, .unset, .unset] [(.long w)])) rfl (D d5_1) _ (XS.lcmp X0.here hx rfl (D d5_4) rfl k))) ?_
  by_cases hc26 : (lcmpW w (1024 : Int64)) < (0 : Int32)
  · skip
    refine Go.of (T' := T0) (f' := (mkF m 42 #[.val (.long w), .second, iv (w.toInt32), .unset, .unset] [(.int (w.toInt32))])) (fun _ k => XS.ifNo X0.here hx rfl (D d5_5) rfl ((if0 _ _).trans (tlt hc26).2.1) (XS.lloadN X0.here hx rfl (D d5_8) rfl (XS.l2i X0.here hx rfl (D d5_9) rfl (XS.istoreN X0.here hx rfl (D d5_10) rfl (l' := #[.val (.long w), .second, iv (w.toInt32), .unset, .unset]) rfl (XS.goto X0.here hx rfl (pc0 := 11) (pc' := 41) rfl (D d5_11) (by decide) (by decide) (XS.iloadN X0.here hx rfl (D d5_41) rfl k)))))) ?_
    exact Go.retI X0 hx hlk hret (D d5_42) (by decide) (by decide) (by rw [e0]; exact ⟨by rw [own_index, if_pos hc26] <;> rfl, rfl, by simp⟩)
  · skip
    obtain ⟨T27, v27, L27, X27, q27, st27⟩ := callSt X0 hx hZ (y := own_m5) hown (own_w hw (i := 76) rfl) (own_w hw (i := 77) rfl) (own_w hw (i := 78) rfl) (own_w hw (i := 79) rfl) (by decide) (rm_nlz64 hw G w  h0 O0 ) e0 (W := 1) (by decide) (by decide) (by decide) (by decide) (g := (mkF m 17 #[.val (.long w), .second, .unset, .unset, .unset] [(.long w), (.int 63)])) rfl (by rw [hml]; rfl) (argsL := [(.long w)]) (rest := [(.int 63)]) (lenOf pd7 rfl) rfl rfl (Nat.le_of_eq rfl) (D d5_17)
    obtain ⟨rfl, e27, rfl⟩ := q27
    have N27 := Fr.app N0 (Fr.nil _)
    refine Go.of (T' := T27) (f' := (mkF m 42 #[.val (.long w), .second, iv (((((63 : Int32) - (own_nlz64 w)) - (9 : Int32)) * (512 : Int32)) + ((w >>> ((((63 : Int32) - (own_nlz64 w)) - (9 : Int32)) &&& 0x3f).toInt64).toInt32)), iv ((63 : Int32) - (own_nlz64 w)), iv (((63 : Int32) - (own_nlz64 w)) - (9 : Int32))] [(.int (((((63 : Int32) - (own_nlz64 w)) - (9 : Int32)) * (512 : Int32)) + ((w >>> ((((63 : Int32) - (own_nlz64 w)) - (9 : Int32)) &&& 0x3f).toInt64).toInt32)))])) (fun _ k => XS.ifYes X0.here hx rfl (pc0 := 5) (pc' := 14) rfl (D d5_5) rfl ((if0 _ _).trans (flt hc26).2.1) (by decide) (by decide) (XS.bipush X0.here hx rfl (D d5_14) (XS.lloadN X0.here hx rfl (D d5_16) rfl (st27 _ (XS.isub X27.here hx rfl (D d5_20) rfl (XS.istoreN X27.here hx rfl (D d5_21) rfl (l' := #[.val (.long w), .second, .unset, iv ((63 : Int32) - (own_nlz64 w)), .unset]) rfl (XS.iloadN X27.here hx rfl (D d5_22) rfl (XS.bipush X27.here hx rfl (D d5_23) (XS.isub X27.here hx rfl (D d5_25) rfl (XS.istore X27.here hx rfl (D d5_26) rfl (l' := #[.val (.long w), .second, .unset, iv ((63 : Int32) - (own_nlz64 w)), iv (((63 : Int32) - (own_nlz64 w)) - (9 : Int32))]) rfl (XS.iload X27.here hx rfl (D d5_28) rfl (XS.sipush X27.here hx rfl (D d5_30) (XS.imul X27.here hx rfl (D d5_33) rfl (XS.lloadN X27.here hx rfl (D d5_34) rfl (XS.iload X27.here hx rfl (D d5_35) rfl (XS.lshr X27.here hx rfl (D d5_37) rfl (XS.l2i X27.here hx rfl (D d5_38) rfl (XS.iadd X27.here hx rfl (D d5_39) rfl (XS.istoreN X27.here hx rfl (D d5_40) rfl (l' := #[.val (.long w), .second, iv (((((63 : Int32) - (own_nlz64 w)) - (9 : Int32)) * (512 : Int32)) + ((w >>> ((((63 : Int32) - (own_nlz64 w)) - (9 : Int32)) &&& 0x3f).toInt64).toInt32)), iv ((63 : Int32) - (own_nlz64 w)), iv (((63 : Int32) - (own_nlz64 w)) - (9 : Int32))]) rfl (XS.iloadN X27.here hx rfl (D d5_41) rfl k)))))))))))))))))))) ?_
    exact Go.retI X27 hx hlk hret (D d5_42) (by decide) (by decide) (by rw [e27]; exact ⟨by rw [own_index, if_neg hc26] <;> rfl, rfl, by simp⟩)
theorem d0_0 : decode prog_10_method_1_code 0 = .ok (.aload_n 0, 1) := by decide +kernel
theorem d0_1 : decode prog_10_method_1_code 1 = .ok (.invokespecial 3, 3) := by decide +kernel
theorem d0_4 : decode prog_10_method_1_code 4 = .ok (.aload_n 0, 1) := by decide +kernel
theorem d0_5 : decode prog_10_method_1_code 5 = .ok (.sipush 16384, 3) := by decide +kernel
theorem d0_8 : decode prog_10_method_1_code 8 = .ok (.newarray .long, 2) := by decide +kernel
theorem d0_10 : decode prog_10_method_1_code 10 = .ok (.putfield 9, 3) := by decide +kernel
theorem d0_13 : decode prog_10_method_1_code 13 = .ok (.return_, 1) := by decide +kernel
abbrev own_m10 : MethodName := (⟨"com/example/portcall/portcall/cli/Latencies", "<init>", "()V"⟩ : MethodName)
theorem ef_rm_init (m : MethodId) (ob : Addr) : entryFrame m #[(.ref ob)] 1 = mkF m 0 #[rv ob] [] := by first | (simp [entryFrame, mkF, argsToLocals, Value.category]; done) | rfl
theorem pn11 : plainFor (⟨"com/example/portcall/portcall/cli/Latencies", "<init>", "()V"⟩ : MethodName) = true := by first | exact plainFor_of_name (by first | (simp [plainName, overriddenIn]; done) | decide +kernel) | decide +kernel
set_option maxRecDepth 65536 in
set_option maxHeartbeats 40000000 in
theorem rm_init {l : Launch} {Z : State} {a0 : Array Value} {A : Nat → Addr} {KC : Nat → Cell} {IC : Nat → Int32} {VC : Nat → Value} (hw : ∀ d ∈ tables_1, d.before a0 Z = true) (G : own_Ctx Z A KC IC VC) (ob : Addr)  (h0 : Heap) (O0 : Ext Z.heap h0) (prem0 : Exa Z h0 ob "com/example/portcall/portcall/cli/Latencies") (prem1 : Fld Z h0 ob "com/example/portcall/portcall/cli/Latencies" "counts" "[J" .null) (prem2 : Fld Z h0 ob "com/example/portcall/portcall/cli/Latencies" "total" "J" (.long (0 : Int64))) (prem3 : Z.heap.size ≤ ob) :
    Ok l Z own_m10 prog_10_method_1_code 1 none ({ frames := 1, cells := 1, slots := 16384, locals := 12 } : Room) #[(.ref ob)] h0
      (fun v h L => ∃ ar : Addr, ∃ ka : ClassId, v = none ∧ (Fr Z.heap.size L) ∧ (Keep h0 h [ob]) ∧ (h0.size ≤ ar) ∧ (Fld Z h ob "com/example/portcall/portcall/cli/Latencies" "counts" "[J" (.ref ar)) ∧ (Fld Z h ob "com/example/portcall/portcall/cli/Latencies" "total" "J" (.long (0 : Int64))) ∧ (Arv Z h ar ka .long (16384 : Int32) (own_cl ([] : List Nat)) (.long (0 : Int64)))) := by
  refine Ok.mk pn11 ?_
  intro p e s m below meth c T0 hx hby hml hown hnm hret hlk hZ e0 X0
  refine Go.cast (ef_rm_init m ob) ?_
  have D := @hb _ _ hby
  have N0 := Fr.nil Z.heap.size
  have K0 : Keep h0 h0 [ob] := Keep.refl _ _
  obtain ⟨T28, X28, e28, st28⟩ := initO X0 hx hZ hown (own_w hw (i := 7) rfl) (own_w hw (i := 8) rfl) (own_w hw (i := 9) rfl) e0 (g := (mkF m 1 #[rv ob] [(.ref ob)])) rfl (by rw [hml]; rfl) rfl (D d0_1) (by decide) (W := 0) (Nat.le_of_eq rfl) (by decide)
  obtain ⟨T29, h29, k29, b29, q29, X29, e29, E29, V29, A29, st29⟩ := newAr X28 hx hZ (own_w hw (i := 10) rfl) e28 (g := (mkF m 8 #[rv ob] [(.int 16384), (.ref ob)])) rfl (D d0_8) rfl (by decide) (cap := 16384) (by decide) (by decide) (by decide) (by decide) (ad := "[J") (by decide)
  have O30 := Old0.ext O0 E29
  have K30 := Keep.ext K0 E29
  have g_b29 : Z.heap.size ≤ b29 := q29 ▸ O0.1
  have z_b29 : h0.size ≤ b29 := q29 ▸ K0.1
  have ne_ob_b29 : ob ≠ b29 := q29 ▸ Nat.ne_of_lt prem0.lt
  have f32 : Exa Z h29 ob "com/example/portcall/portcall/cli/Latencies" := (Exa.ext E29 prem0)
  have f33 : Fld Z h29 ob "com/example/portcall/portcall/cli/Latencies" "counts" "[J" .null := (Fld.ext E29 prem1)
  obtain ⟨T31, h31, X31, e31, W31, st31⟩ := putF X29 hx hZ hown (host := "") (Or.inl (own_w hw (i := 11) rfl)) Via.refl e29 f33 f32 (Or.inr ⟨(own_w hw (i := 12) rfl), rfl, hnm⟩) (own_w hw (i := 2) rfl) (ty := (.array .long)) (by decide) rfl rfl (g := (mkF m 10 #[rv ob] [(.ref b29), (.ref ob)])) rfl rfl (D d0_10)
  have O34 := Old0.wr O30 W31 prem3
  have K34 := Keep.wr K30 W31 (Or.inl (List.mem_of_getElem? (i := 0) rfl))
  have N31 := Fr.snoc X31 N0 prem3
  have f31 : Fld Z h31 ob "com/example/portcall/portcall/cli/Latencies" "counts" "[J" (.ref b29) := Fld.same W31 f33
  have f35 : Arv Z h31 b29 k29 .long (16384 : Int32) [] (.long (0 : Int64)) := (Arv.other V29 W31 (Ne.symm ne_ob_b29))
  have fc0 : Arv Z h31 b29 k29 .long (16384 : Int32) (own_cl ([] : List Nat)) (.long (0 : Int64)) := Arv.pad f35 own_cl0
  have f36 : Fld Z h31 ob "com/example/portcall/portcall/cli/Latencies" "total" "J" (.long (0 : Int64)) := (Fld.other W31 (Fld.ext E29 prem2) (Or.inr (slot_ne (Or.inl (own_w hw (i := 31) rfl)) (Or.inr (own_w hw (i := 12) rfl)) (by decide) (t := .long) (t' := (.array .long)) (by decide) (by decide))))
  refine Go.of (T' := T31) (f' := (mkF m 13 #[rv ob] [])) (fun _ k => XS.aloadN X0.here hx rfl (D d0_0) rfl rfl (st28 _ (XS.aloadN X28.here hx rfl (D d0_4) rfl rfl (XS.sipush X28.here hx rfl (D d0_5) (st29 _ (st31 _ k)))))) ?_
  exact Go.retV X31 hx hlk hret (D d0_13) (by decide) (by decide) (by rw [e31]; exact ⟨b29, k29, rfl, N31, K34, z_b29, f31, f36, fc0⟩)
theorem own_clrecA {Z : State} {h : Heap} {a : Addr} {k : ClassId} {ty : FieldType} {z : Int32} {js : List Nat} {j : Nat} {dv : Value} (A : Arv Z h a k ty z ((own_cl js).set j (.long (Int64.ofNat (js.count j) + (1 : Int64)))) dv) : Arv Z h a k ty z (own_cl (js ++ [j])) dv := by
  rw [own_clrec] at A
  exact A
theorem own_jxn (w : Int64) : (own_index (own_min40 (own_max0 w))).toNatClampNeg = own_jx w := rfl
theorem own_clat (js : List Nat) (w : Int64) : (own_cl js).getD (own_index (own_min40 (own_max0 w))).toNatClampNeg (.long (0 : Int64)) = .long (Int64.ofNat (js.count (own_jx w))) := own_cfat (fun i => js.count i) (own_jlt w)
theorem own_cllt (js : List Nat) (w : Int64) : own_jx w < (own_cl js).length := by
  unfold own_cl
  rw [own_cflen]
  exact own_jlt w
theorem d2_0 : decode prog_10_method_2_code 0 = .ok (.lload_n 1, 1) := by decide +kernel
theorem d2_1 : decode prog_10_method_2_code 1 = .ok (.lconst 0, 1) := by decide +kernel
theorem d2_2 : decode prog_10_method_2_code 2 = .ok (.invokestatic 13, 3) := by decide +kernel
theorem pd12 : parseMethodDescriptor "(JJ)J" = some ⟨[.long, .long], some .long⟩ := by decide +kernel
theorem d2_5 : decode prog_10_method_2_code 5 = .ok (.ldc2_w 19, 3) := by decide +kernel
theorem d2_8 : decode prog_10_method_2_code 8 = .ok (.invokestatic 21, 3) := by decide +kernel
theorem d2_11 : decode prog_10_method_2_code 11 = .ok (.lstore_n 3, 1) := by decide +kernel
theorem d2_12 : decode prog_10_method_2_code 12 = .ok (.aload_n 0, 1) := by decide +kernel
theorem d2_13 : decode prog_10_method_2_code 13 = .ok (.getfield 9, 3) := by decide +kernel
theorem d2_16 : decode prog_10_method_2_code 16 = .ok (.lload_n 3, 1) := by decide +kernel
theorem d2_17 : decode prog_10_method_2_code 17 = .ok (.invokestatic 24, 3) := by decide +kernel
theorem d2_20 : decode prog_10_method_2_code 20 = .ok (.dup2, 1) := by decide +kernel
theorem d2_21 : decode prog_10_method_2_code 21 = .ok (.laload, 1) := by decide +kernel
theorem d2_22 : decode prog_10_method_2_code 22 = .ok (.lconst 1, 1) := by decide +kernel
theorem d2_23 : decode prog_10_method_2_code 23 = .ok (.ladd, 1) := by decide +kernel
theorem d2_24 : decode prog_10_method_2_code 24 = .ok (.lastore, 1) := by decide +kernel
theorem d2_25 : decode prog_10_method_2_code 25 = .ok (.aload_n 0, 1) := by decide +kernel
theorem d2_26 : decode prog_10_method_2_code 26 = .ok (.dup, 1) := by decide +kernel
theorem d2_27 : decode prog_10_method_2_code 27 = .ok (.getfield 28, 3) := by decide +kernel
theorem d2_30 : decode prog_10_method_2_code 30 = .ok (.lconst 1, 1) := by decide +kernel
theorem d2_31 : decode prog_10_method_2_code 31 = .ok (.ladd, 1) := by decide +kernel
theorem d2_32 : decode prog_10_method_2_code 32 = .ok (.putfield 28, 3) := by decide +kernel
theorem d2_35 : decode prog_10_method_2_code 35 = .ok (.return_, 1) := by decide +kernel
abbrev own_m13 : MethodName := (⟨"com/example/portcall/portcall/cli/Latencies", "record", "(J)V"⟩ : MethodName)
theorem ef_rm_rec (m : MethodId) (ob : Addr) (w : Int64) : entryFrame m #[(.ref ob), (.long w)] 5 = mkF m 0 #[rv ob, .val (.long w), .second, .unset, .unset] [] := by first | (simp [entryFrame, mkF, argsToLocals, Value.category]; done) | rfl
theorem pn14 : plainFor (⟨"com/example/portcall/portcall/cli/Latencies", "record", "(J)V"⟩ : MethodName) = true := by first | exact plainFor_of_name (by first | (simp [plainName, overriddenIn]; done) | decide +kernel) | decide +kernel
set_option maxRecDepth 65536 in
set_option maxHeartbeats 40000000 in
theorem rm_rec {l : Launch} {Z : State} {a0 : Array Value} {A : Nat → Addr} {KC : Nat → Cell} {IC : Nat → Int32} {VC : Nat → Value} (hw : ∀ d ∈ tables_1, d.before a0 Z = true) (G : own_Ctx Z A KC IC VC) (ob : Addr) (w : Int64) (ar : Addr) (ka : ClassId) (js : List Nat) (t : Int64) (t1 : Int64) (h0 : Heap) (O0 : Ext Z.heap h0) (prem0 : t + (1 : Int64) = t1) (prem1 : Exa Z h0 ob "com/example/portcall/portcall/cli/Latencies") (prem2 : Fld Z h0 ob "com/example/portcall/portcall/cli/Latencies" "counts" "[J" (.ref ar)) (prem3 : Fld Z h0 ob "com/example/portcall/portcall/cli/Latencies" "total" "J" (.long t)) (prem4 : Arv Z h0 ar ka .long (16384 : Int32) (own_cl js) (.long (0 : Int64))) (prem5 : Z.heap.size ≤ ob) (prem6 : Z.heap.size ≤ ar) (prem7 : ob ≠ ar) :
    Ok l Z own_m13 prog_10_method_2_code 5 none ({ frames := 3, cells := 0, slots := 0, locals := 46 } : Room) #[(.ref ob), (.long w)] h0
      (fun v h L => v = none ∧ (Fr Z.heap.size L) ∧ (Keep h0 h [ob, ar]) ∧ (Fld Z h ob "com/example/portcall/portcall/cli/Latencies" "counts" "[J" (.ref ar)) ∧ (Fld Z h ob "com/example/portcall/portcall/cli/Latencies" "total" "J" (.long t1)) ∧ (Arv Z h ar ka .long (16384 : Int32) (own_cl (js ++ [own_jx w])) (.long (0 : Int64)))) := by
  refine Ok.mk pn14 ?_
  intro p e s m below meth c T0 hx hby hml hown hnm hret hlk hZ e0 X0
  refine Go.cast (ef_rm_rec m ob w) ?_
  have D := @hb _ _ hby
  have N0 := Fr.nil Z.heap.size
  have K0 : Keep h0 h0 [ob, ar] := Keep.refl _ _
  obtain ⟨T37, v37, L37, X37, q37, st37⟩ := callSt X0 hx hZ (y := own_m0) hown (own_w hw (i := 18) rfl) (own_w hw (i := 19) rfl) (own_w hw (i := 20) rfl) (own_w hw (i := 21) rfl) (by decide) (rm_max0 hw G w  h0 O0 ) e0 (W := 0) (by decide) (by decide) (by decide) (by decide) (g := (mkF m 2 #[rv ob, .val (.long w), .second, .unset, .unset] [(.long (0 : Int64)), (.long w)])) rfl (by rw [hml]; rfl) (argsL := [(.long w), (.long (0 : Int64))]) (rest := []) (lenOf pd12 rfl) rfl rfl (Nat.le_of_eq rfl) (D d2_2)
  obtain ⟨rfl, e37, rfl⟩ := q37
  have N37 := Fr.app N0 (Fr.nil _)
  obtain ⟨T38, v38, L38, X38, q38, st38⟩ := callSt X37 hx hZ (y := own_m1) hown (own_w hw (i := 23) rfl) (own_w hw (i := 24) rfl) (own_w hw (i := 20) rfl) (own_w hw (i := 25) rfl) (by decide) (rm_min40 hw G ((own_max0 w))  h0 O0 ) e37 (W := 0) (by decide) (by decide) (by decide) (by decide) (g := (mkF m 8 #[rv ob, .val (.long w), .second, .unset, .unset] [(.long (1099511627775 : Int64)), (.long (own_max0 w))])) rfl (by rw [hml]; rfl) (argsL := [(.long (own_max0 w)), (.long (1099511627775 : Int64))]) (rest := []) (lenOf pd12 rfl) rfl rfl (Nat.le_of_eq rfl) (D d2_8)
  obtain ⟨rfl, e38, rfl⟩ := q38
  have N38 := Fr.app N37 (Fr.nil _)
  obtain ⟨T39, X39, e39, st39⟩ := getF X38 hx hZ hown (host := "") (Or.inl (own_w hw (i := 11) rfl)) Via.refl e38 prem2 (g := (mkF m 13 #[rv ob, .val (.long w), .second, .val (.long (own_min40 (own_max0 w))), .second] [(.ref ob)])) rfl rfl (D d2_13)
  obtain ⟨T40, v40, L40, X40, q40, st40⟩ := callSt X39 hx hZ (y := own_m8) hown (own_w hw (i := 26) rfl) (own_w hw (i := 27) rfl) (own_w hw (i := 3) rfl) (own_w hw (i := 28) rfl) (by decide) (rm_index hw G ((own_min40 (own_max0 w)))  h0 O0 ) e39 (W := 1) (by decide) (by decide) (by decide) (by decide) (g := (mkF m 17 #[rv ob, .val (.long w), .second, .val (.long (own_min40 (own_max0 w))), .second] [(.long (own_min40 (own_max0 w))), (.ref ar)])) rfl (by rw [hml]; rfl) (argsL := [(.long (own_min40 (own_max0 w)))]) (rest := [(.ref ar)]) (lenOf pd7 rfl) rfl rfl (Nat.le_of_eq rfl) (D d2_17)
  obtain ⟨rfl, e40, rfl⟩ := q40
  have N40 := Fr.app N38 (Fr.nil _)
  obtain ⟨cl41, Ar41, qk41, S41, Ng41, H41, G41⟩ := id prem4
  have hin41 := inb_of (j := (own_index (own_min40 (own_max0 w)))) S41 ⟨(own_jin w).1, (own_jin w).2⟩
  obtain ⟨cl42, Ar42, qk42, S42, Ng42, H42, G42⟩ := id prem4
  obtain ⟨T42, h42, X42, e42, W42, st42⟩ := stJ X40 hx hZ e40 Ar42 (j := (own_index (own_min40 (own_max0 w)))) (inb_of S42 ⟨(own_jin w).1, (own_jin w).2⟩) (g := (mkF m 24 #[rv ob, .val (.long w), .second, .val (.long (own_min40 (own_max0 w))), .second] [(.long ((Int64.ofNat (js.count (own_jx w))) + (1 : Int64))), (.int (own_index (own_min40 (own_max0 w)))), (.ref ar)])) rfl rfl (D d2_24)
  have O43 := Old0.wr O0 W42 prem6
  have K43 := Keep.wr K0 W42 (Or.inl (List.mem_of_getElem? (i := 1) rfl))
  have f42 : Arv Z h42 ar ka .long (16384 : Int32) ((own_cl js).set (own_jx w) (.long ((Int64.ofNat (js.count (own_jx w))) + (1 : Int64)))) (.long (0 : Int64)) := Arv.set Ar42 qk42 S42 Ng42 H42 G42 (v := (.long ((Int64.ofNat (js.count (own_jx w))) + (1 : Int64)))) rfl W42 (own_jx w) (own_jxn w) (own_cllt js w)
  have N42 := Fr.snoc X42 N40 prem6
  have fr44 : Arv Z h42 ar ka .long (16384 : Int32) (own_cl (js ++ [own_jx w])) (.long (0 : Int64)) := own_clrecA f42
  have f46 : Fld Z h42 ob "com/example/portcall/portcall/cli/Latencies" "total" "J" (.long t) := (Fld.other W42 prem3 (Or.inl prem7))
  obtain ⟨T45, X45, e45, st45⟩ := getF X42 hx hZ hown (host := "") (Or.inl (own_w hw (i := 30) rfl)) Via.refl e42 f46 (g := (mkF m 27 #[rv ob, .val (.long w), .second, .val (.long (own_min40 (own_max0 w))), .second] [(.ref ob), (.ref ob)])) rfl rfl (D d2_27)
  have f48 : Exa Z h42 ob "com/example/portcall/portcall/cli/Latencies" := (Exa.wr W42 prem1)
  obtain ⟨T47, h47, X47, e47, W47, st47⟩ := putF X45 hx hZ hown (host := "") (Or.inl (own_w hw (i := 30) rfl)) Via.refl e45 f46 f48 (Or.inl (own_w hw (i := 31) rfl)) (own_w hw (i := 2) rfl) (ty := .long) (by decide) rfl rfl (g := (mkF m 32 #[rv ob, .val (.long w), .second, .val (.long (own_min40 (own_max0 w))), .second] [(.long (t + (1 : Int64))), (.ref ob)])) rfl rfl (D d2_32)
  have O49 := Old0.wr O43 W47 prem5
  have K49 := Keep.wr K43 W47 (Or.inl (List.mem_of_getElem? (i := 0) rfl))
  have N47 := Fr.snoc X47 N42 prem5
  have f47 : Fld Z h47 ob "com/example/portcall/portcall/cli/Latencies" "total" "J" (.long (t + (1 : Int64))) := Fld.same W47 f46
  have f50 : Fld Z h47 ob "com/example/portcall/portcall/cli/Latencies" "total" "J" (.long t1) := prem0 ▸ f47
  have f51 : Fld Z h47 ob "com/example/portcall/portcall/cli/Latencies" "counts" "[J" (.ref ar) := (Fld.other W47 (Fld.other W42 prem2 (Or.inl prem7)) (Or.inr (slot_ne (Or.inr (own_w hw (i := 12) rfl)) (Or.inl (own_w hw (i := 31) rfl)) (by decide) (t := (.array .long)) (t' := .long) (by decide) (by decide))))
  have f52 : Arv Z h47 ar ka .long (16384 : Int32) (own_cl (js ++ [own_jx w])) (.long (0 : Int64)) := (Arv.other fr44 W47 (Ne.symm prem7))
  refine Go.of (T' := T47) (f' := (mkF m 35 #[rv ob, .val (.long w), .second, .val (.long (own_min40 (own_max0 w))), .second] [])) (fun _ k => XS.lloadN X0.here hx rfl (D d2_0) rfl (XS.lconst X0.here hx rfl (D d2_1) (st37 _ (X37.ldc2Long hx hown (mvT hZ (own_w hw (i := 22) rfl)) (g := (mkF m 5 #[rv ob, .val (.long w), .second, .unset, .unset] [(.long (own_max0 w))])) rfl (D d2_5) _ (st38 _ (XS.lstoreN X38.here hx rfl (D d2_11) rfl (l' := #[rv ob, .val (.long w), .second, .val (.long (own_min40 (own_max0 w))), .second]) rfl (XS.aloadN X38.here hx rfl (D d2_12) rfl rfl (st39 _ (XS.lloadN X39.here hx rfl (D d2_16) rfl (st40 _ (XT.dup2 X40.here hx rfl (D d2_20) rfl rfl rfl (X40.laload hx (j := (own_index (own_min40 (own_max0 w)))) (v := (.long (Int64.ofNat (js.count (own_jx w))))) (by rw [e40]; exact Ar41.1) (State.isArrayOf_alike hZ.alike Ar41.2.1) Ar41.2.2 hin41 (H41.at hin41 (own_clat js w)) (g := (mkF m 21 #[rv ob, .val (.long w), .second, .val (.long (own_min40 (own_max0 w))), .second] [(.int (own_index (own_min40 (own_max0 w)))), (.ref ar), (.int (own_index (own_min40 (own_max0 w)))), (.ref ar)])) rfl rfl (D d2_21) _ (XS.lconst X40.here hx rfl (D d2_22) (XS.ladd X40.here hx rfl (D d2_23) rfl (st42 _ (XS.aloadN X42.here hx rfl (D d2_25) rfl rfl (XS.dup X42.here hx rfl (D d2_26) rfl rfl (st45 _ (XS.lconst X45.here hx rfl (D d2_30) (XS.ladd X45.here hx rfl (D d2_31) rfl (st47 _ k))))))))))))))))))))) ?_
  exact Go.retV X47 hx hlk hret (D d2_35) (by decide) (by decide) (by rw [e47]; exact ⟨rfl, N47, K49, f51, f50, f52⟩)
theorem own_nneg {i : Int32} (h : 0 ≤ i.toInt) : ¬ i < 0 := fun q => by
  have := Int32.lt_iff_toInt_lt.mp q
  rw [show (0 : Int32).toInt = 0 from rfl] at this
  omega
theorem own_lt16 {i : Int32} {f : Nat} (h : i.toInt + (f + 1 : Nat) = 16384) : i < 16384 := Int32.lt_iff_toInt_lt.mpr (by rw [show (16384 : Int32).toInt = 16384 from rfl]; omega)
theorem own_hi1 {i : Int32} {f : Nat} (h0 : 0 ≤ i.toInt) (h : i.toInt + (f + 1 : Nat) = 16384) : 0 ≤ (i + 1).toInt := by rw [own_inc (own_lt16 h)]; omega
theorem own_hf1 {i : Int32} {f : Nat} (h0 : 0 ≤ i.toInt) (h : i.toInt + (f + 1 : Nat) = 16384) : (i + 1).toInt + f = 16384 := by rw [own_inc (own_lt16 h)]; omega
theorem own_n16 {i : Int32} {f : Nat} (h0 : 0 ≤ i.toInt) (h : i.toInt + (f + 1 : Nat) = 16384) : i.toNatClampNeg + 1 = (i + 1).toNatClampNeg := by
  show i.toInt.toNat + 1 = (i + 1).toInt.toNat
  rw [own_inc (own_lt16 h)]
  omega
theorem own_e16 {i : Int32} (h0 : 0 ≤ i.toInt) (h : i.toInt + (0 : Nat) = 16384) : i.toNatClampNeg = 16384 := by
  show i.toInt.toNat = 16384
  omega
theorem own_k16 {i : Int32} {f : Nat} (h0 : 0 ≤ i.toInt) (h : i.toInt + (f + 1 : Nat) = 16384) : i.toNatClampNeg < 16384 := by
  show i.toInt.toNat < 16384
  omega
theorem own_ge16 {i : Int32} (h : i.toInt + (0 : Nat) = 16384) : ¬ i < 16384 := fun q => by
  have := Int32.lt_iff_toInt_lt.mp q
  rw [show (16384 : Int32).toInt = 16384 from rfl] at this
  omega
abbrev own_m15 : MethodName := (⟨"com/example/portcall/portcall/cli/Latencies", "add", "(Lcom/example/portcall/portcall/cli/Latencies;)V"⟩ : MethodName)
theorem d6_2 : decode prog_10_method_3_code 2 = .ok (.iload_n 2, 1) := by decide +kernel
theorem d6_3 : decode prog_10_method_3_code 3 = .ok (.aload_n 0, 1) := by decide +kernel
theorem d6_4 : decode prog_10_method_3_code 4 = .ok (.getfield 9, 3) := by decide +kernel
theorem d6_7 : decode prog_10_method_3_code 7 = .ok (.arraylength, 1) := by decide +kernel
theorem d6_8 : decode prog_10_method_3_code 8 = .ok (.if_icmp .ge 24, 3) := by decide +kernel
theorem d6_32 : decode prog_10_method_3_code 32 = .ok (.aload_n 0, 1) := by decide +kernel
theorem d6_33 : decode prog_10_method_3_code 33 = .ok (.dup, 1) := by decide +kernel
theorem d6_34 : decode prog_10_method_3_code 34 = .ok (.getfield 28, 3) := by decide +kernel
theorem d6_37 : decode prog_10_method_3_code 37 = .ok (.aload_n 1, 1) := by decide +kernel
theorem d6_38 : decode prog_10_method_3_code 38 = .ok (.getfield 28, 3) := by decide +kernel
theorem d6_41 : decode prog_10_method_3_code 41 = .ok (.ladd, 1) := by decide +kernel
theorem d6_42 : decode prog_10_method_3_code 42 = .ok (.putfield 28, 3) := by decide +kernel
theorem d6_45 : decode prog_10_method_3_code 45 = .ok (.return_, 1) := by decide +kernel
theorem d6_11 : decode prog_10_method_3_code 11 = .ok (.aload_n 0, 1) := by decide +kernel
theorem d6_12 : decode prog_10_method_3_code 12 = .ok (.getfield 9, 3) := by decide +kernel
theorem d6_15 : decode prog_10_method_3_code 15 = .ok (.iload_n 2, 1) := by decide +kernel
theorem d6_16 : decode prog_10_method_3_code 16 = .ok (.dup2, 1) := by decide +kernel
theorem d6_17 : decode prog_10_method_3_code 17 = .ok (.laload, 1) := by decide +kernel
theorem d6_18 : decode prog_10_method_3_code 18 = .ok (.aload_n 1, 1) := by decide +kernel
theorem d6_19 : decode prog_10_method_3_code 19 = .ok (.getfield 9, 3) := by decide +kernel
theorem d6_22 : decode prog_10_method_3_code 22 = .ok (.iload_n 2, 1) := by decide +kernel
theorem d6_23 : decode prog_10_method_3_code 23 = .ok (.laload, 1) := by decide +kernel
theorem d6_24 : decode prog_10_method_3_code 24 = .ok (.ladd, 1) := by decide +kernel
theorem d6_25 : decode prog_10_method_3_code 25 = .ok (.lastore, 1) := by decide +kernel
theorem d6_26 : decode prog_10_method_3_code 26 = .ok (.iinc 2 1, 3) := by decide +kernel
theorem d6_29 : decode prog_10_method_3_code 29 = .ok (.goto (-27), 3) := by decide +kernel
set_option maxRecDepth 65536 in
set_option maxHeartbeats 40000000 in
theorem rm_addL {l : Launch} {Z : State} {a0 : Array Value} {A : Nat → Addr} {KC : Nat → Cell} {IC : Nat → Int32} {VC : Nat → Value} (hw : ∀ d ∈ tables_1, d.before a0 Z = true) (G : own_Ctx Z A KC IC VC) {p : Program} {e : Env} {s : State} {m : MethodId} {below : List Frame} {meth : Method} {c : Code} {h0 : Heap} (ob : Addr) (oc : Addr) (aa : Addr) (ka : ClassId) (ja : List Nat) (bb : Addr) (kb : ClassId) (jb : List Nat) (t : Int64) (u : Int64) (t1 : Int64) (prem0 : t + u = t1) (prem9 : Z.heap.size ≤ ob) (prem10 : Z.heap.size ≤ aa) (prem11 : ob ≠ aa) (prem12 : ob ≠ oc) (prem13 : ob ≠ bb) (prem14 : oc ≠ aa) (prem15 : bb ≠ aa)
    (hx : p.tables.exec = Jvm.exec) (hby : c.code = prog_10_method_3_code) (hml : c.maxLocals = 3) (hown : s.vm.findClass "com/example/portcall/portcall/cli/Latencies" = some m.cls) (hret : meth.sig.returnType = none) (hlk : meth.locks = false) (hZ : Z.Warmed39 s.vm) :
    ∀ (fuel : Nat) (i : Int32) (T0 : State) (h1 : Heap) (locs0 : List Loc) (hi : 0 ≤ i.toInt) (hf : i.toInt + (fuel : Nat) = 16384) (e0 : T0.heap = h1) (X0 : Stand p l e ({ frames := 0, cells := 0, slots := 0, locals := 0 } : Room) s m #[(.ref ob), (.ref oc)] below meth c T0 locs0 0 0) (N0 : Fr Z.heap.size locs0) (K0 : Keep h0 h1 [ob, aa]) (O0 : Ext Z.heap h1) (lf0 : Exa Z h1 ob "com/example/portcall/portcall/cli/Latencies") (lf1 : Exa Z h1 oc "com/example/portcall/portcall/cli/Latencies") (lf2 : Fld Z h1 ob "com/example/portcall/portcall/cli/Latencies" "counts" "[J" (.ref aa)) (lf3 : Fld Z h1 oc "com/example/portcall/portcall/cli/Latencies" "counts" "[J" (.ref bb)) (lf4 : Fld Z h1 ob "com/example/portcall/portcall/cli/Latencies" "total" "J" (.long t)) (lf5 : Fld Z h1 oc "com/example/portcall/portcall/cli/Latencies" "total" "J" (.long u)) (lf6 : Arv Z h1 bb kb .long (16384 : Int32) (own_cl jb) (.long (0 : Int64))) (lf7 : Arv Z h1 aa ka .long (16384 : Int32) (own_cf (own_mix ja jb i.toNatClampNeg)) (.long (0 : Int64))),
      Go p e s below ({ frames := 0, cells := 0, slots := 0, locals := 0 } : Room) (fun v h L => v = none ∧ (Fr Z.heap.size L) ∧ (Keep h0 h [ob, aa]) ∧ (Fld Z h ob "com/example/portcall/portcall/cli/Latencies" "counts" "[J" (.ref aa)) ∧ (Fld Z h ob "com/example/portcall/portcall/cli/Latencies" "total" "J" (.long t1)) ∧ (Arv Z h aa ka .long (16384 : Int32) (own_cl (ja ++ jb)) (.long (0 : Int64)))) T0 (mkF m 2 #[rv ob, rv oc, iv i] []) := by
  have D := @hb _ _ hby
  intro fuel
  induction fuel with
  | zero =>
    intro i T0 h1 locs0 hi hf e0 X0 N0 K0 O0 lf0 lf1 lf2 lf3 lf4 lf5 lf6 lf7
    obtain ⟨T53, X53, e53, st53⟩ := getF X0 hx hZ hown (host := "") (Or.inl (own_w hw (i := 11) rfl)) Via.refl e0 lf2 (g := (mkF m 4 #[rv ob, rv oc, iv i] [(.ref ob), (.int i)])) rfl rfl (D d6_4)
    obtain ⟨cl54, Ar54, qk54, S54, Ng54, H54, G54⟩ := id lf7
    have hc55 : ¬ (i < (16384 : Int32)) := own_ge16 hf
    obtain ⟨T56, X56, e56, st56⟩ := getF X53 hx hZ hown (host := "") (Or.inl (own_w hw (i := 30) rfl)) Via.refl e53 lf4 (g := (mkF m 34 #[rv ob, rv oc, iv i] [(.ref ob), (.ref ob)])) rfl rfl (D d6_34)
    obtain ⟨T57, X57, e57, st57⟩ := getF X56 hx hZ hown (host := "") (Or.inl (own_w hw (i := 30) rfl)) Via.refl e56 lf5 (g := (mkF m 38 #[rv ob, rv oc, iv i] [(.ref oc), (.long t), (.ref ob)])) rfl rfl (D d6_38)
    obtain ⟨T58, h58, X58, e58, W58, st58⟩ := putF X57 hx hZ hown (host := "") (Or.inl (own_w hw (i := 30) rfl)) Via.refl e57 lf4 lf0 (Or.inl (own_w hw (i := 31) rfl)) (own_w hw (i := 2) rfl) (ty := .long) (by decide) rfl rfl (g := (mkF m 42 #[rv ob, rv oc, iv i] [(.long (t + u)), (.ref ob)])) rfl rfl (D d6_42)
    have O59 := Old0.wr O0 W58 prem9
    have K59 := Keep.wr K0 W58 (Or.inl (List.mem_of_getElem? (i := 0) rfl))
    have N58 := Fr.snoc X58 N0 prem9
    have f58 : Fld Z h58 ob "com/example/portcall/portcall/cli/Latencies" "total" "J" (.long (t + u)) := Fld.same W58 lf4
    have f60 : Fld Z h58 ob "com/example/portcall/portcall/cli/Latencies" "total" "J" (.long t1) := prem0 ▸ f58
    have f61 : Arv Z h58 aa ka .long (16384 : Int32) (own_cf (own_mix ja jb i.toNatClampNeg)) (.long (0 : Int64)) := (Arv.other lf7 W58 (Ne.symm prem11))
    have fE : Arv Z h58 aa ka .long (16384 : Int32) (own_cl (ja ++ jb)) (.long (0 : Int64)) := (own_mixN ja jb) ▸ (own_e16 hi hf ▸ f61)
    have f62 : Fld Z h58 ob "com/example/portcall/portcall/cli/Latencies" "counts" "[J" (.ref aa) := (Fld.other W58 lf2 (Or.inr (slot_ne (Or.inr (own_w hw (i := 12) rfl)) (Or.inl (own_w hw (i := 31) rfl)) (by decide) (t := (.array .long)) (t' := .long) (by decide) (by decide))))
    refine Go.of (T' := T58) (f' := (mkF m 45 #[rv ob, rv oc, iv i] [])) (fun _ k => XS.iloadN X0.here hx rfl (D d6_2) rfl (XS.aloadN X0.here hx rfl (D d6_3) rfl rfl (st53 _ (X53.arraylength hx (by rw [e53]; exact Ar54.1) (State.isArrayOf_alike hZ.alike Ar54.2.1) (g := (mkF m 7 #[rv ob, rv oc, iv i] [(.ref aa), (.int i)])) rfl rfl (D d6_7) _ (by rw [len_of S54 Ng54]; exact (XS.icmpYes X53.here hx rfl (pc0 := 8) (pc' := 32) rfl (D d6_8) rfl (flt hc55).2.1 (by decide) (by decide) (XS.aloadN X53.here hx rfl (D d6_32) rfl rfl (XS.dup X53.here hx rfl (D d6_33) rfl rfl (st56 _ (XS.aloadN X56.here hx rfl (D d6_37) rfl rfl (st57 _ (XS.ladd X57.here hx rfl (D d6_41) rfl (st58 _ k))))))))))))) ?_
    exact Go.retV X58 hx hlk hret (D d6_45) (by decide) (by decide) (by rw [e58]; exact ⟨rfl, N58, K59, f62, f60, fE⟩)
  | succ fuel ih =>
    intro i T0 h1 locs0 hi hf e0 X0 N0 K0 O0 lf0 lf1 lf2 lf3 lf4 lf5 lf6 lf7
    obtain ⟨T63, X63, e63, st63⟩ := getF X0 hx hZ hown (host := "") (Or.inl (own_w hw (i := 11) rfl)) Via.refl e0 lf2 (g := (mkF m 4 #[rv ob, rv oc, iv i] [(.ref ob), (.int i)])) rfl rfl (D d6_4)
    obtain ⟨cl64, Ar64, qk64, S64, Ng64, H64, G64⟩ := id lf7
    have hc65 : i < (16384 : Int32) := own_lt16 hf
    obtain ⟨T66, X66, e66, st66⟩ := getF X63 hx hZ hown (host := "") (Or.inl (own_w hw (i := 11) rfl)) Via.refl e63 lf2 (g := (mkF m 12 #[rv ob, rv oc, iv i] [(.ref ob)])) rfl rfl (D d6_12)
    obtain ⟨cl67, Ar67, qk67, S67, Ng67, H67, G67⟩ := id lf7
    have hin67 := inb_of (j := i) S67 ⟨own_nneg hi, own_lt16 hf⟩
    obtain ⟨T68, X68, e68, st68⟩ := getF X66 hx hZ hown (host := "") (Or.inl (own_w hw (i := 11) rfl)) Via.refl e66 lf3 (g := (mkF m 19 #[rv ob, rv oc, iv i] [(.ref oc), (.long (Int64.ofNat (own_mix ja jb i.toNatClampNeg i.toNatClampNeg))), (.int i), (.ref aa)])) rfl rfl (D d6_19)
    obtain ⟨cl69, Ar69, qk69, S69, Ng69, H69, G69⟩ := id lf6
    have hin69 := inb_of (j := i) S69 ⟨own_nneg hi, own_lt16 hf⟩
    obtain ⟨cl70, Ar70, qk70, S70, Ng70, H70, G70⟩ := id lf7
    obtain ⟨T70, h70, X70, e70, W70, st70⟩ := stJ X68 hx hZ e68 Ar70 (j := i) (inb_of S70 ⟨own_nneg hi, own_lt16 hf⟩) (g := (mkF m 25 #[rv ob, rv oc, iv i] [(.long ((Int64.ofNat (own_mix ja jb i.toNatClampNeg i.toNatClampNeg)) + (Int64.ofNat (jb.count i.toNatClampNeg)))), (.int i), (.ref aa)])) rfl rfl (D d6_25)
    have O71 := Old0.wr O0 W70 prem10
    have K71 := Keep.wr K0 W70 (Or.inl (List.mem_of_getElem? (i := 1) rfl))
    have f70 : Arv Z h70 aa ka .long (16384 : Int32) ((own_cf (own_mix ja jb i.toNatClampNeg)).set i.toNatClampNeg (.long ((Int64.ofNat (own_mix ja jb i.toNatClampNeg i.toNatClampNeg)) + (Int64.ofNat (jb.count i.toNatClampNeg))))) (.long (0 : Int64)) := Arv.set Ar70 qk70 S70 Ng70 H70 G70 (v := (.long ((Int64.ofNat (own_mix ja jb i.toNatClampNeg i.toNatClampNeg)) + (Int64.ofNat (jb.count i.toNatClampNeg))))) rfl W70 i.toNatClampNeg rfl (by rw [own_cflen]; exact own_k16 hi hf)
    have N70 := Fr.snoc X70 N0 prem10
    have f72 : Exa Z h70 ob "com/example/portcall/portcall/cli/Latencies" := (Exa.wr W70 lf0)
    have f73 : Exa Z h70 oc "com/example/portcall/portcall/cli/Latencies" := (Exa.wr W70 lf1)
    have f74 : Fld Z h70 ob "com/example/portcall/portcall/cli/Latencies" "counts" "[J" (.ref aa) := (Fld.other W70 lf2 (Or.inl prem11))
    have f75 : Fld Z h70 oc "com/example/portcall/portcall/cli/Latencies" "counts" "[J" (.ref bb) := (Fld.other W70 lf3 (Or.inl prem14))
    have f76 : Fld Z h70 ob "com/example/portcall/portcall/cli/Latencies" "total" "J" (.long t) := (Fld.other W70 lf4 (Or.inl prem11))
    have f77 : Fld Z h70 oc "com/example/portcall/portcall/cli/Latencies" "total" "J" (.long u) := (Fld.other W70 lf5 (Or.inl prem14))
    have f78 : Arv Z h70 bb kb .long (16384 : Int32) (own_cl jb) (.long (0 : Int64)) := (Arv.other lf6 W70 prem15)
    refine Go.of (T' := T70) (f' := (mkF m 2 #[rv ob, rv oc, iv (i + (1 : Int32))] [])) (fun _ k => XS.iloadN X0.here hx rfl (D d6_2) rfl (XS.aloadN X0.here hx rfl (D d6_3) rfl rfl (st63 _ (X63.arraylength hx (by rw [e63]; exact Ar64.1) (State.isArrayOf_alike hZ.alike Ar64.2.1) (g := (mkF m 7 #[rv ob, rv oc, iv i] [(.ref aa), (.int i)])) rfl rfl (D d6_7) _ (by rw [len_of S64 Ng64]; exact (XS.icmpNo X63.here hx rfl (D d6_8) rfl (tlt hc65).2.1 (XS.aloadN X63.here hx rfl (D d6_11) rfl rfl (st66 _ (XS.iloadN X66.here hx rfl (D d6_15) rfl (XT.dup2 X66.here hx rfl (D d6_16) rfl rfl rfl (X66.laload hx (j := i) (v := (.long (Int64.ofNat (own_mix ja jb i.toNatClampNeg i.toNatClampNeg)))) (by rw [e66]; exact Ar67.1) (State.isArrayOf_alike hZ.alike Ar67.2.1) Ar67.2.2 hin67 (H67.at hin67 (own_cfat _ (own_k16 hi hf))) (g := (mkF m 17 #[rv ob, rv oc, iv i] [(.int i), (.ref aa), (.int i), (.ref aa)])) rfl rfl (D d6_17) _ (XS.aloadN X66.here hx rfl (D d6_18) rfl rfl (st68 _ (XS.iloadN X68.here hx rfl (D d6_22) rfl (X68.laload hx (j := i) (v := (.long (Int64.ofNat (jb.count i.toNatClampNeg)))) (by rw [e68]; exact Ar69.1) (State.isArrayOf_alike hZ.alike Ar69.2.1) Ar69.2.2 hin69 (H69.at hin69 (own_cfat _ (own_k16 hi hf))) (g := (mkF m 23 #[rv ob, rv oc, iv i] [(.int i), (.ref bb), (.long (Int64.ofNat (own_mix ja jb i.toNatClampNeg i.toNatClampNeg))), (.int i), (.ref aa)])) rfl rfl (D d6_23) _ (XS.ladd X68.here hx rfl (D d6_24) rfl (st70 _ (XS.iinc X70.here hx rfl (D d6_26) rfl (l' := #[rv ob, rv oc, iv (i + (1 : Int32))]) rfl (XS.goto X70.here hx rfl (pc0 := 29) (pc' := 2) rfl (D d6_29) (by decide) (by decide) k))))))))))))))))))) ?_
    exact ih ((i + (1 : Int32))) T70 h70 _ (own_hi1 hi hf) (own_hf1 hi hf) e70 X70 N70 K71 O71 (f72) (f73) (f74) (f75) (f76) (f77) (f78) (own_n16 hi hf ▸ (own_mixS ja jb i.toNatClampNeg ▸ f70))
theorem d6_0 : decode prog_10_method_3_code 0 = .ok (.iconst 0, 1) := by decide +kernel
theorem d6_1 : decode prog_10_method_3_code 1 = .ok (.istore_n 2, 1) := by decide +kernel
theorem ef_rm_add (m : MethodId) (ob : Addr) (oc : Addr) : entryFrame m #[(.ref ob), (.ref oc)] 3 = mkF m 0 #[rv ob, rv oc, .unset] [] := by first | (simp [entryFrame, mkF, argsToLocals, Value.category]; done) | rfl
theorem pn16 : plainFor (⟨"com/example/portcall/portcall/cli/Latencies", "add", "(Lcom/example/portcall/portcall/cli/Latencies;)V"⟩ : MethodName) = true := by first | exact plainFor_of_name (by first | (simp [plainName, overriddenIn]; done) | decide +kernel) | decide +kernel
set_option maxRecDepth 65536 in
set_option maxHeartbeats 40000000 in
theorem rm_add {l : Launch} {Z : State} {a0 : Array Value} {A : Nat → Addr} {KC : Nat → Cell} {IC : Nat → Int32} {VC : Nat → Value} (hw : ∀ d ∈ tables_1, d.before a0 Z = true) (G : own_Ctx Z A KC IC VC) (ob : Addr) (oc : Addr) (aa : Addr) (ka : ClassId) (ja : List Nat) (bb : Addr) (kb : ClassId) (jb : List Nat) (t : Int64) (u : Int64) (t1 : Int64) (h0 : Heap) (O0 : Ext Z.heap h0) (prem0 : t + u = t1) (prem1 : Exa Z h0 ob "com/example/portcall/portcall/cli/Latencies") (prem2 : Exa Z h0 oc "com/example/portcall/portcall/cli/Latencies") (prem3 : Fld Z h0 ob "com/example/portcall/portcall/cli/Latencies" "counts" "[J" (.ref aa)) (prem4 : Fld Z h0 oc "com/example/portcall/portcall/cli/Latencies" "counts" "[J" (.ref bb)) (prem5 : Fld Z h0 ob "com/example/portcall/portcall/cli/Latencies" "total" "J" (.long t)) (prem6 : Fld Z h0 oc "com/example/portcall/portcall/cli/Latencies" "total" "J" (.long u)) (prem7 : Arv Z h0 aa ka .long (16384 : Int32) (own_cl ja) (.long (0 : Int64))) (prem8 : Arv Z h0 bb kb .long (16384 : Int32) (own_cl jb) (.long (0 : Int64))) (prem9 : Z.heap.size ≤ ob) (prem10 : Z.heap.size ≤ aa) (prem11 : ob ≠ aa) (prem12 : ob ≠ oc) (prem13 : ob ≠ bb) (prem14 : oc ≠ aa) (prem15 : bb ≠ aa) :
    Ok l Z own_m15 prog_10_method_3_code 3 none ({ frames := 0, cells := 0, slots := 0, locals := 0 } : Room) #[(.ref ob), (.ref oc)] h0
      (fun v h L => v = none ∧ (Fr Z.heap.size L) ∧ (Keep h0 h [ob, aa]) ∧ (Fld Z h ob "com/example/portcall/portcall/cli/Latencies" "counts" "[J" (.ref aa)) ∧ (Fld Z h ob "com/example/portcall/portcall/cli/Latencies" "total" "J" (.long t1)) ∧ (Arv Z h aa ka .long (16384 : Int32) (own_cl (ja ++ jb)) (.long (0 : Int64)))) := by
  refine Ok.mk pn16 ?_
  intro p e s m below meth c T0 hx hby hml hown hnm hret hlk hZ e0 X0
  refine Go.cast (ef_rm_add m ob oc) ?_
  have D := @hb _ _ hby
  have N0 := Fr.nil Z.heap.size
  have K0 : Keep h0 h0 [ob, aa] := Keep.refl _ _
  refine Go.of (T' := T0) (f' := (mkF m 2 #[rv ob, rv oc, iv 0] [])) (fun _ k => XS.iconst X0.here hx rfl (D d6_0) (XS.istoreN X0.here hx rfl (D d6_1) rfl (l' := #[rv ob, rv oc, iv 0]) rfl k)) ?_
  exact rm_addL hw G ob oc aa ka ja bb kb jb t u t1 prem0 prem9 prem10 prem11 prem12 prem13 prem14 prem15 hx hby hml hown hret hlk hZ 16384 0 T0 h0 _ (by decide) (by decide) e0 X0 N0 K0 O0 prem1 prem2 prem3 prem4 prem5 prem6 prem8 ((own_mix0 ja jb).symm ▸ prem7)
theorem d11_0 : decode jdk_29_method_92_code 0 = .ok (.dload_n 0, 1) := by decide +kernel
theorem d11_1 : decode jdk_29_method_92_code 1 = .ok (.invokestatic 79, 3) := by decide +kernel
theorem d11_4 : decode jdk_29_method_92_code 4 = .ok (.ldc2_w 87, 3) := by decide +kernel
theorem d11_7 : decode jdk_29_method_92_code 7 = .ok (.land, 1) := by decide +kernel
theorem d11_8 : decode jdk_29_method_92_code 8 = .ok (.bipush 52, 2) := by decide +kernel
theorem d11_10 : decode jdk_29_method_92_code 10 = .ok (.lshr, 1) := by decide +kernel
theorem d11_11 : decode jdk_29_method_92_code 11 = .ok (.ldc2_w 322, 3) := by decide +kernel
theorem d11_14 : decode jdk_29_method_92_code 14 = .ok (.lsub, 1) := by decide +kernel
theorem d11_15 : decode jdk_29_method_92_code 15 = .ok (.l2i, 1) := by decide +kernel
theorem d11_16 : decode jdk_29_method_92_code 16 = .ok (.ireturn, 1) := by decide +kernel
abbrev own_m17 : MethodName := (⟨"java/lang/Math", "getExponent", "(D)I"⟩ : MethodName)
theorem ef_rm_gexp0_25 (m : MethodId) : entryFrame m #[(.double (4598175219545276416 : UInt64))] 2 = mkF m 0 #[.val (.double (4598175219545276416 : UInt64)), .second] [] := by first | (simp [entryFrame, mkF, argsToLocals, Value.category]; done) | rfl
set_option maxRecDepth 65536 in
set_option maxHeartbeats 4000000 in
theorem rm_gexp0_25 {l : Launch} {Z : State} {a0 : Array Value} {A : Nat → Addr} {KC : Nat → Cell} {IC : Nat → Int32} {VC : Nat → Value} (hw : ∀ d ∈ tables_1, d.before a0 Z = true) (G : own_Ctx Z A KC IC VC) {p : Program} {e : Env} {s : State} {below : List Frame} (hx : p.tables.exec = Jvm.exec) (ha : l.admits e) (hZ : Z.Warmed39 s.vm) (h0 : Heap) (O0 : Ext Z.heap h0) :
    RawOk p e s below h0 own_m17 2 28 #[(.double (4598175219545276416 : UInt64))] (.int (-2 : Int32)) := by
  refine RawOk.mk (d := 1) ha hZ pn_java_lang_Math_getExponent__D_I (own_w hw (i := 55) rfl) (by decide) ?_
  intro m meth c U hby hml hown hret hmm hlk X0 e0 r1 r2
  refine RGo.cast (ef_rm_gexp0_25 m) ?_
  have D := @hb _ _ hby
  obtain ⟨T79, X79, e79, st79⟩ := d2lR X0 hx hZ hown (own_w hw (i := 56) rfl) (own_w hw (i := 59) rfl) (own_w hw (i := 57) rfl) (own_w hw (i := 58) rfl) e0 (g := (mkF m 1 #[.val (.double (4598175219545276416 : UInt64)), .second] [(.double (4598175219545276416 : UInt64))])) rfl rfl (D d11_1) r1 r2 (by decide) (Nat.le_of_ble_eq_true rfl) (z := (4598175219545276416 : Int64)) (by decide +kernel)
  refine RGo.of (T' := T79) (f' := (mkF m 16 #[.val (.double (4598175219545276416 : UInt64)), .second] [(.int (-2 : Int32))])) (fun _ k => XS.dloadN X0.here hx rfl (D d11_0) rfl (st79 _ (X79.ldc2Long hx hown (mvT hZ (own_w hw (i := 60) rfl)) (g := (mkF m 4 #[.val (.double (4598175219545276416 : UInt64)), .second] [(.long (4598175219545276416 : Int64))])) rfl (D d11_4) _ (XS.land X79.here hx rfl (D d11_7) rfl (XS.bipush X79.here hx rfl (D d11_8) (XS.lshr X79.here hx rfl (D d11_10) rfl (X79.ldc2Long hx hown (mvT hZ (own_w hw (i := 61) rfl)) (g := (mkF m 11 #[.val (.double (4598175219545276416 : UInt64)), .second] [(.long (1021 : Int64))])) rfl (D d11_11) _ (XS.lsub X79.here hx rfl (D d11_14) rfl (XS.l2i X79.here hx rfl (D d11_15) rfl k))))))))) ?_
  exact RGo.ret X79 hx hmm hlk hret rfl (Or.inl ⟨rfl, rfl, _, rfl⟩) (D d11_16)
theorem d10_0 : decode jdk_128_method_18_code 0 = .ok (.dload_n 0, 1) := by decide +kernel
theorem d10_1 : decode jdk_128_method_18_code 1 = .ok (.invokestatic 66, 3) := by decide +kernel
theorem pd18 : parseMethodDescriptor "(D)I" = some ⟨[.double], some .int⟩ := by decide +kernel
theorem d10_4 : decode jdk_128_method_18_code 4 = .ok (.istore 8, 2) := by decide +kernel
theorem d10_6 : decode jdk_128_method_18_code 6 = .ok (.iload 8, 2) := by decide +kernel
theorem d10_8 : decode jdk_128_method_18_code 8 = .ok (.ifCond .ge 26, 3) := by decide +kernel
theorem d10_11 : decode jdk_128_method_18_code 11 = .ok (.dload_n 0, 1) := by decide +kernel
theorem d10_12 : decode jdk_128_method_18_code 12 = .ok (.dconst 0, 1) := by decide +kernel
theorem d10_13 : decode jdk_128_method_18_code 13 = .ok (.dcmp .l, 1) := by decide +kernel
theorem d10_14 : decode jdk_128_method_18_code 14 = .ok (.ifCond .ne 7, 3) := by decide +kernel
theorem d10_21 : decode jdk_128_method_18_code 21 = .ok (.dload_n 0, 1) := by decide +kernel
theorem d10_22 : decode jdk_128_method_18_code 22 = .ok (.dconst 0, 1) := by decide +kernel
theorem d10_23 : decode jdk_128_method_18_code 23 = .ok (.dcmp .g, 1) := by decide +kernel
theorem d10_24 : decode jdk_128_method_18_code 24 = .ok (.ifCond .ge 7, 3) := by decide +kernel
theorem d10_31 : decode jdk_128_method_18_code 31 = .ok (.dload 4, 2) := by decide +kernel
theorem d10_33 : decode jdk_128_method_18_code 33 = .ok (.dreturn, 1) := by decide +kernel
abbrev own_m19 : MethodName := (⟨"java/lang/StrictMath", "floorOrCeil", "(DDDD)D"⟩ : MethodName)
theorem pn20 : plainFor (⟨"java/lang/StrictMath", "floorOrCeil", "(DDDD)D"⟩ : MethodName) = true := by first | exact plainFor_of_name (by first | (simp [plainName, overriddenIn]; done) | decide +kernel) | decide +kernel
theorem ef_rm_foc0_25 (m : MethodId) : entryFrame m #[(.double (4598175219545276416 : UInt64)), (.double (9223372036854775808 : UInt64)), (.double (4607182418800017408 : UInt64)), (.double (4607182418800017408 : UInt64))] 15 = mkF m 0 #[.val (.double (4598175219545276416 : UInt64)), .second, .val (.double (9223372036854775808 : UInt64)), .second, .val (.double (4607182418800017408 : UInt64)), .second, .val (.double (4607182418800017408 : UInt64)), .second, .unset, .unset, .unset, .unset, .unset, .unset, .unset] [] := by first | (simp [entryFrame, mkF, argsToLocals, Value.category]; done) | rfl
set_option maxRecDepth 65536 in
set_option maxHeartbeats 4000000 in
theorem rm_foc0_25 {l : Launch} {Z : State} {a0 : Array Value} {A : Nat → Addr} {KC : Nat → Cell} {IC : Nat → Int32} {VC : Nat → Value} (hw : ∀ d ∈ tables_1, d.before a0 Z = true) (G : own_Ctx Z A KC IC VC) {p : Program} {e : Env} {s : State} {below : List Frame} (hx : p.tables.exec = Jvm.exec) (ha : l.admits e) (hZ : Z.Warmed39 s.vm) (h0 : Heap) (O0 : Ext Z.heap h0) :
    RawOk p e s below h0 own_m19 3 54 #[(.double (4598175219545276416 : UInt64)), (.double (9223372036854775808 : UInt64)), (.double (4607182418800017408 : UInt64)), (.double (4607182418800017408 : UInt64))] (.double (4607182418800017408 : UInt64)) := by
  refine RawOk.mk (d := 2) ha hZ pn20 (own_w hw (i := 52) rfl) (by decide) ?_
  intro m meth c U hby hml hown hret hmm hlk X0 e0 r1 r2
  refine RGo.cast (ef_rm_foc0_25 m) ?_
  have D := @hb _ _ hby
  obtain ⟨T80, X80, e80, st80⟩ := callR X0 hx hZ (y := own_m17) hown (own_w hw (i := 53) rfl) (own_w hw (i := 54) rfl) (own_w hw (i := 20) rfl) (own_w hw (i := 55) rfl) (by decide) e0 (rm_gexp0_25 hw G hx ha hZ h0 O0) (g := (mkF m 1 #[.val (.double (4598175219545276416 : UInt64)), .second, .val (.double (9223372036854775808 : UInt64)), .second, .val (.double (4607182418800017408 : UInt64)), .second, .val (.double (4607182418800017408 : UInt64)), .second, .unset, .unset, .unset, .unset, .unset, .unset, .unset] [(.double (4598175219545276416 : UInt64))])) rfl (argsL := [(.double (4598175219545276416 : UInt64))]) (rest := []) (lenOf pd18 rfl) rfl rfl (D d10_1) r1 r2 (by decide) (Nat.le_of_ble_eq_true rfl)
  refine RGo.of (T' := T80) (f' := (mkF m 33 #[.val (.double (4598175219545276416 : UInt64)), .second, .val (.double (9223372036854775808 : UInt64)), .second, .val (.double (4607182418800017408 : UInt64)), .second, .val (.double (4607182418800017408 : UInt64)), .second, iv (-2 : Int32), .unset, .unset, .unset, .unset, .unset, .unset] [(.double (4607182418800017408 : UInt64))])) (fun _ k => XS.dloadN X0.here hx rfl (D d10_0) rfl (st80 _ (XS.istore X80.here hx rfl (D d10_4) rfl (l' := #[.val (.double (4598175219545276416 : UInt64)), .second, .val (.double (9223372036854775808 : UInt64)), .second, .val (.double (4607182418800017408 : UInt64)), .second, .val (.double (4607182418800017408 : UInt64)), .second, iv (-2 : Int32), .unset, .unset, .unset, .unset, .unset, .unset]) rfl (XS.iload X80.here hx rfl (D d10_6) rfl (XS.ifNo X80.here hx rfl (D d10_8) rfl ((if0 _ _).trans (tlt (by decide : (-2 : Int32) < (0 : Int32))).2.1) (XS.dloadN X80.here hx rfl (D d10_11) rfl (XS.dconst0 X80.here hx rfl (D d10_12) (v := (0 : UInt64)) (by decide +kernel) (XS.dcmpS X80.here hx rfl (D d10_13) rfl (v := (1 : Int32)) (by decide +kernel) (XS.ifYes X80.here hx rfl (pc0 := 14) (pc' := 21) rfl (D d10_14) rfl ((if0 _ _).trans (feq (by decide : ¬ ((1 : Int32) = (0 : Int32)))).2) (by decide) (by decide) (XS.dloadN X80.here hx rfl (D d10_21) rfl (XS.dconst0 X80.here hx rfl (D d10_22) (v := (0 : UInt64)) (by decide +kernel) (XS.dcmpS X80.here hx rfl (D d10_23) rfl (v := (1 : Int32)) (by decide +kernel) (XS.ifYes X80.here hx rfl (pc0 := 24) (pc' := 31) rfl (D d10_24) rfl ((if0 _ _).trans (flt (by decide : ¬ ((1 : Int32) < (0 : Int32)))).2.1) (by decide) (by decide) (XS.dload X80.here hx rfl (D d10_31) rfl k)))))))))))))) ?_
  exact RGo.ret X80 hx hmm hlk hret rfl (Or.inr ⟨rfl, rfl, _, rfl⟩) (D d10_33)
theorem d9_0 : decode jdk_128_method_16_code 0 = .ok (.dload_n 0, 1) := by decide +kernel
theorem d9_1 : decode jdk_128_method_16_code 1 = .ok (.ldc2_w 58, 3) := by decide +kernel
theorem d9_4 : decode jdk_128_method_16_code 4 = .ok (.dconst 1, 1) := by decide +kernel
theorem d9_5 : decode jdk_128_method_16_code 5 = .ok (.dconst 1, 1) := by decide +kernel
theorem d9_6 : decode jdk_128_method_16_code 6 = .ok (.invokestatic 60, 3) := by decide +kernel
theorem pd21 : parseMethodDescriptor "(DDDD)D" = some ⟨[.double, .double, .double, .double], some .double⟩ := by decide +kernel
theorem d9_9 : decode jdk_128_method_16_code 9 = .ok (.dreturn, 1) := by decide +kernel
abbrev own_m22 : MethodName := (⟨"java/lang/StrictMath", "ceil", "(D)D"⟩ : MethodName)
theorem pn23 : plainFor (⟨"java/lang/StrictMath", "ceil", "(D)D"⟩ : MethodName) = true := by first | exact plainFor_of_name (by first | (simp [plainName, overriddenIn]; done) | decide +kernel) | decide +kernel
theorem ef_rm_sceil0_25 (m : MethodId) : entryFrame m #[(.double (4598175219545276416 : UInt64))] 2 = mkF m 0 #[.val (.double (4598175219545276416 : UInt64)), .second] [] := by first | (simp [entryFrame, mkF, argsToLocals, Value.category]; done) | rfl
set_option maxRecDepth 65536 in
set_option maxHeartbeats 4000000 in
theorem rm_sceil0_25 {l : Launch} {Z : State} {a0 : Array Value} {A : Nat → Addr} {KC : Nat → Cell} {IC : Nat → Int32} {VC : Nat → Value} (hw : ∀ d ∈ tables_1, d.before a0 Z = true) (G : own_Ctx Z A KC IC VC) {p : Program} {e : Env} {s : State} {below : List Frame} (hx : p.tables.exec = Jvm.exec) (ha : l.admits e) (hZ : Z.Warmed39 s.vm) (h0 : Heap) (O0 : Ext Z.heap h0) :
    RawOk p e s below h0 own_m22 4 67 #[(.double (4598175219545276416 : UInt64))] (.double (4607182418800017408 : UInt64)) := by
  refine RawOk.mk (d := 3) ha hZ pn23 (own_w hw (i := 48) rfl) (by decide) ?_
  intro m meth c U hby hml hown hret hmm hlk X0 e0 r1 r2
  refine RGo.cast (ef_rm_sceil0_25 m) ?_
  have D := @hb _ _ hby
  obtain ⟨T84, X84, e84, st84⟩ := callR X0 hx hZ (y := own_m19) hown (own_w hw (i := 50) rfl) (own_w hw (i := 51) rfl) (own_w hw (i := 47) rfl) (own_w hw (i := 52) rfl) (by decide) e0 (rm_foc0_25 hw G hx ha hZ h0 O0) (g := (mkF m 6 #[.val (.double (4598175219545276416 : UInt64)), .second] [(.double (4607182418800017408 : UInt64)), (.double (4607182418800017408 : UInt64)), (.double (9223372036854775808 : UInt64)), (.double (4598175219545276416 : UInt64))])) rfl (argsL := [(.double (4598175219545276416 : UInt64)), (.double (9223372036854775808 : UInt64)), (.double (4607182418800017408 : UInt64)), (.double (4607182418800017408 : UInt64))]) (rest := []) (lenOf pd21 rfl) rfl rfl (D d9_6) r1 r2 (by decide) (Nat.le_of_ble_eq_true rfl)
  refine RGo.of (T' := T84) (f' := (mkF m 9 #[.val (.double (4598175219545276416 : UInt64)), .second] [(.double (4607182418800017408 : UInt64))])) (fun _ k => XS.dloadN X0.here hx rfl (D d9_0) rfl (X0.ldc2DoubleC hx hown (mvT hZ (own_w hw (i := 49) rfl)) (g := (mkF m 1 #[.val (.double (4598175219545276416 : UInt64)), .second] [(.double (4598175219545276416 : UInt64))])) rfl (D d9_1) _ (XS.dconst1 X0.here hx rfl (D d9_4) (v := (4607182418800017408 : UInt64)) (by decide +kernel) (XS.dconst1 X0.here hx rfl (D d9_5) (v := (4607182418800017408 : UInt64)) (by decide +kernel) (st84 _ k))))) ?_
  exact RGo.ret X84 hx hmm hlk hret rfl (Or.inr ⟨rfl, rfl, _, rfl⟩) (D d9_9)
theorem ef_rm_gexp0_5 (m : MethodId) : entryFrame m #[(.double (4602678819172646912 : UInt64))] 2 = mkF m 0 #[.val (.double (4602678819172646912 : UInt64)), .second] [] := by first | (simp [entryFrame, mkF, argsToLocals, Value.category]; done) | rfl
set_option maxRecDepth 65536 in
set_option maxHeartbeats 4000000 in
theorem rm_gexp0_5 {l : Launch} {Z : State} {a0 : Array Value} {A : Nat → Addr} {KC : Nat → Cell} {IC : Nat → Int32} {VC : Nat → Value} (hw : ∀ d ∈ tables_1, d.before a0 Z = true) (G : own_Ctx Z A KC IC VC) {p : Program} {e : Env} {s : State} {below : List Frame} (hx : p.tables.exec = Jvm.exec) (ha : l.admits e) (hZ : Z.Warmed39 s.vm) (h0 : Heap) (O0 : Ext Z.heap h0) :
    RawOk p e s below h0 own_m17 2 28 #[(.double (4602678819172646912 : UInt64))] (.int (-1 : Int32)) := by
  refine RawOk.mk (d := 1) ha hZ pn_java_lang_Math_getExponent__D_I (own_w hw (i := 55) rfl) (by decide) ?_
  intro m meth c U hby hml hown hret hmm hlk X0 e0 r1 r2
  refine RGo.cast (ef_rm_gexp0_5 m) ?_
  have D := @hb _ _ hby
  obtain ⟨T85, X85, e85, st85⟩ := d2lR X0 hx hZ hown (own_w hw (i := 56) rfl) (own_w hw (i := 59) rfl) (own_w hw (i := 57) rfl) (own_w hw (i := 58) rfl) e0 (g := (mkF m 1 #[.val (.double (4602678819172646912 : UInt64)), .second] [(.double (4602678819172646912 : UInt64))])) rfl rfl (D d11_1) r1 r2 (by decide) (Nat.le_of_ble_eq_true rfl) (z := (4602678819172646912 : Int64)) (by decide +kernel)
  refine RGo.of (T' := T85) (f' := (mkF m 16 #[.val (.double (4602678819172646912 : UInt64)), .second] [(.int (-1 : Int32))])) (fun _ k => XS.dloadN X0.here hx rfl (D d11_0) rfl (st85 _ (X85.ldc2Long hx hown (mvT hZ (own_w hw (i := 60) rfl)) (g := (mkF m 4 #[.val (.double (4602678819172646912 : UInt64)), .second] [(.long (4602678819172646912 : Int64))])) rfl (D d11_4) _ (XS.land X85.here hx rfl (D d11_7) rfl (XS.bipush X85.here hx rfl (D d11_8) (XS.lshr X85.here hx rfl (D d11_10) rfl (X85.ldc2Long hx hown (mvT hZ (own_w hw (i := 61) rfl)) (g := (mkF m 11 #[.val (.double (4602678819172646912 : UInt64)), .second] [(.long (1022 : Int64))])) rfl (D d11_11) _ (XS.lsub X85.here hx rfl (D d11_14) rfl (XS.l2i X85.here hx rfl (D d11_15) rfl k))))))))) ?_
  exact RGo.ret X85 hx hmm hlk hret rfl (Or.inl ⟨rfl, rfl, _, rfl⟩) (D d11_16)
theorem ef_rm_foc0_5 (m : MethodId) : entryFrame m #[(.double (4602678819172646912 : UInt64)), (.double (9223372036854775808 : UInt64)), (.double (4607182418800017408 : UInt64)), (.double (4607182418800017408 : UInt64))] 15 = mkF m 0 #[.val (.double (4602678819172646912 : UInt64)), .second, .val (.double (9223372036854775808 : UInt64)), .second, .val (.double (4607182418800017408 : UInt64)), .second, .val (.double (4607182418800017408 : UInt64)), .second, .unset, .unset, .unset, .unset, .unset, .unset, .unset] [] := by first | (simp [entryFrame, mkF, argsToLocals, Value.category]; done) | rfl
set_option maxRecDepth 65536 in
set_option maxHeartbeats 4000000 in
theorem rm_foc0_5 {l : Launch} {Z : State} {a0 : Array Value} {A : Nat → Addr} {KC : Nat → Cell} {IC : Nat → Int32} {VC : Nat → Value} (hw : ∀ d ∈ tables_1, d.before a0 Z = true) (G : own_Ctx Z A KC IC VC) {p : Program} {e : Env} {s : State} {below : List Frame} (hx : p.tables.exec = Jvm.exec) (ha : l.admits e) (hZ : Z.Warmed39 s.vm) (h0 : Heap) (O0 : Ext Z.heap h0) :
    RawOk p e s below h0 own_m19 3 54 #[(.double (4602678819172646912 : UInt64)), (.double (9223372036854775808 : UInt64)), (.double (4607182418800017408 : UInt64)), (.double (4607182418800017408 : UInt64))] (.double (4607182418800017408 : UInt64)) := by
  refine RawOk.mk (d := 2) ha hZ pn20 (own_w hw (i := 52) rfl) (by decide) ?_
  intro m meth c U hby hml hown hret hmm hlk X0 e0 r1 r2
  refine RGo.cast (ef_rm_foc0_5 m) ?_
  have D := @hb _ _ hby
  obtain ⟨T86, X86, e86, st86⟩ := callR X0 hx hZ (y := own_m17) hown (own_w hw (i := 53) rfl) (own_w hw (i := 54) rfl) (own_w hw (i := 20) rfl) (own_w hw (i := 55) rfl) (by decide) e0 (rm_gexp0_5 hw G hx ha hZ h0 O0) (g := (mkF m 1 #[.val (.double (4602678819172646912 : UInt64)), .second, .val (.double (9223372036854775808 : UInt64)), .second, .val (.double (4607182418800017408 : UInt64)), .second, .val (.double (4607182418800017408 : UInt64)), .second, .unset, .unset, .unset, .unset, .unset, .unset, .unset] [(.double (4602678819172646912 : UInt64))])) rfl (argsL := [(.double (4602678819172646912 : UInt64))]) (rest := []) (lenOf pd18 rfl) rfl rfl (D d10_1) r1 r2 (by decide) (Nat.le_of_ble_eq_true rfl)
  refine RGo.of (T' := T86) (f' := (mkF m 33 #[.val (.double (4602678819172646912 : UInt64)), .second, .val (.double (9223372036854775808 : UInt64)), .second, .val (.double (4607182418800017408 : UInt64)), .second, .val (.double (4607182418800017408 : UInt64)), .second, iv (-1 : Int32), .unset, .unset, .unset, .unset, .unset, .unset] [(.double (4607182418800017408 : UInt64))])) (fun _ k => XS.dloadN X0.here hx rfl (D d10_0) rfl (st86 _ (XS.istore X86.here hx rfl (D d10_4) rfl (l' := #[.val (.double (4602678819172646912 : UInt64)), .second, .val (.double (9223372036854775808 : UInt64)), .second, .val (.double (4607182418800017408 : UInt64)), .second, .val (.double (4607182418800017408 : UInt64)), .second, iv (-1 : Int32), .unset, .unset, .unset, .unset, .unset, .unset]) rfl (XS.iload X86.here hx rfl (D d10_6) rfl (XS.ifNo X86.here hx rfl (D d10_8) rfl ((if0 _ _).trans (tlt (by decide : (-1 : Int32) < (0 : Int32))).2.1) (XS.dloadN X86.here hx rfl (D d10_11) rfl (XS.dconst0 X86.here hx rfl (D d10_12) (v := (0 : UInt64)) (by decide +kernel) (XS.dcmpS X86.here hx rfl (D d10_13) rfl (v := (1 : Int32)) (by decide +kernel) (XS.ifYes X86.here hx rfl (pc0 := 14) (pc' := 21) rfl (D d10_14) rfl ((if0 _ _).trans (feq (by decide : ¬ ((1 : Int32) = (0 : Int32)))).2) (by decide) (by decide) (XS.dloadN X86.here hx rfl (D d10_21) rfl (XS.dconst0 X86.here hx rfl (D d10_22) (v := (0 : UInt64)) (by decide +kernel) (XS.dcmpS X86.here hx rfl (D d10_23) rfl (v := (1 : Int32)) (by decide +kernel) (XS.ifYes X86.here hx rfl (pc0 := 24) (pc' := 31) rfl (D d10_24) rfl ((if0 _ _).trans (flt (by decide : ¬ ((1 : Int32) < (0 : Int32)))).2.1) (by decide) (by decide) (XS.dload X86.here hx rfl (D d10_31) rfl k)))))))))))))) ?_
  exact RGo.ret X86 hx hmm hlk hret rfl (Or.inr ⟨rfl, rfl, _, rfl⟩) (D d10_33)
theorem ef_rm_sceil0_5 (m : MethodId) : entryFrame m #[(.double (4602678819172646912 : UInt64))] 2 = mkF m 0 #[.val (.double (4602678819172646912 : UInt64)), .second] [] := by first | (simp [entryFrame, mkF, argsToLocals, Value.category]; done) | rfl
set_option maxRecDepth 65536 in
set_option maxHeartbeats 4000000 in
theorem rm_sceil0_5 {l : Launch} {Z : State} {a0 : Array Value} {A : Nat → Addr} {KC : Nat → Cell} {IC : Nat → Int32} {VC : Nat → Value} (hw : ∀ d ∈ tables_1, d.before a0 Z = true) (G : own_Ctx Z A KC IC VC) {p : Program} {e : Env} {s : State} {below : List Frame} (hx : p.tables.exec = Jvm.exec) (ha : l.admits e) (hZ : Z.Warmed39 s.vm) (h0 : Heap) (O0 : Ext Z.heap h0) :
    RawOk p e s below h0 own_m22 4 67 #[(.double (4602678819172646912 : UInt64))] (.double (4607182418800017408 : UInt64)) := by
  refine RawOk.mk (d := 3) ha hZ pn23 (own_w hw (i := 48) rfl) (by decide) ?_
  intro m meth c U hby hml hown hret hmm hlk X0 e0 r1 r2
  refine RGo.cast (ef_rm_sceil0_5 m) ?_
  have D := @hb _ _ hby
  obtain ⟨T90, X90, e90, st90⟩ := callR X0 hx hZ (y := own_m19) hown (own_w hw (i := 50) rfl) (own_w hw (i := 51) rfl) (own_w hw (i := 47) rfl) (own_w hw (i := 52) rfl) (by decide) e0 (rm_foc0_5 hw G hx ha hZ h0 O0) (g := (mkF m 6 #[.val (.double (4602678819172646912 : UInt64)), .second] [(.double (4607182418800017408 : UInt64)), (.double (4607182418800017408 : UInt64)), (.double (9223372036854775808 : UInt64)), (.double (4602678819172646912 : UInt64))])) rfl (argsL := [(.double (4602678819172646912 : UInt64)), (.double (9223372036854775808 : UInt64)), (.double (4607182418800017408 : UInt64)), (.double (4607182418800017408 : UInt64))]) (rest := []) (lenOf pd21 rfl) rfl rfl (D d9_6) r1 r2 (by decide) (Nat.le_of_ble_eq_true rfl)
  refine RGo.of (T' := T90) (f' := (mkF m 9 #[.val (.double (4602678819172646912 : UInt64)), .second] [(.double (4607182418800017408 : UInt64))])) (fun _ k => XS.dloadN X0.here hx rfl (D d9_0) rfl (X0.ldc2DoubleC hx hown (mvT hZ (own_w hw (i := 49) rfl)) (g := (mkF m 1 #[.val (.double (4602678819172646912 : UInt64)), .second] [(.double (4602678819172646912 : UInt64))])) rfl (D d9_1) _ (XS.dconst1 X0.here hx rfl (D d9_4) (v := (4607182418800017408 : UInt64)) (by decide +kernel) (XS.dconst1 X0.here hx rfl (D d9_5) (v := (4607182418800017408 : UInt64)) (by decide +kernel) (st90 _ k))))) ?_
  exact RGo.ret X90 hx hmm hlk hret rfl (Or.inr ⟨rfl, rfl, _, rfl⟩) (D d9_9)
theorem ef_rm_gexp0_75 (m : MethodId) : entryFrame m #[(.double (4604930618986332160 : UInt64))] 2 = mkF m 0 #[.val (.double (4604930618986332160 : UInt64)), .second] [] := by first | (simp [entryFrame, mkF, argsToLocals, Value.category]; done) | rfl
set_option maxRecDepth 65536 in
set_option maxHeartbeats 4000000 in
theorem rm_gexp0_75 {l : Launch} {Z : State} {a0 : Array Value} {A : Nat → Addr} {KC : Nat → Cell} {IC : Nat → Int32} {VC : Nat → Value} (hw : ∀ d ∈ tables_1, d.before a0 Z = true) (G : own_Ctx Z A KC IC VC) {p : Program} {e : Env} {s : State} {below : List Frame} (hx : p.tables.exec = Jvm.exec) (ha : l.admits e) (hZ : Z.Warmed39 s.vm) (h0 : Heap) (O0 : Ext Z.heap h0) :
    RawOk p e s below h0 own_m17 2 28 #[(.double (4604930618986332160 : UInt64))] (.int (-1 : Int32)) := by
  refine RawOk.mk (d := 1) ha hZ pn_java_lang_Math_getExponent__D_I (own_w hw (i := 55) rfl) (by decide) ?_
  intro m meth c U hby hml hown hret hmm hlk X0 e0 r1 r2
  refine RGo.cast (ef_rm_gexp0_75 m) ?_
  have D := @hb _ _ hby
  obtain ⟨T91, X91, e91, st91⟩ := d2lR X0 hx hZ hown (own_w hw (i := 56) rfl) (own_w hw (i := 59) rfl) (own_w hw (i := 57) rfl) (own_w hw (i := 58) rfl) e0 (g := (mkF m 1 #[.val (.double (4604930618986332160 : UInt64)), .second] [(.double (4604930618986332160 : UInt64))])) rfl rfl (D d11_1) r1 r2 (by decide) (Nat.le_of_ble_eq_true rfl) (z := (4604930618986332160 : Int64)) (by decide +kernel)
  refine RGo.of (T' := T91) (f' := (mkF m 16 #[.val (.double (4604930618986332160 : UInt64)), .second] [(.int (-1 : Int32))])) (fun _ k => XS.dloadN X0.here hx rfl (D d11_0) rfl (st91 _ (X91.ldc2Long hx hown (mvT hZ (own_w hw (i := 60) rfl)) (g := (mkF m 4 #[.val (.double (4604930618986332160 : UInt64)), .second] [(.long (4604930618986332160 : Int64))])) rfl (D d11_4) _ (XS.land X91.here hx rfl (D d11_7) rfl (XS.bipush X91.here hx rfl (D d11_8) (XS.lshr X91.here hx rfl (D d11_10) rfl (X91.ldc2Long hx hown (mvT hZ (own_w hw (i := 61) rfl)) (g := (mkF m 11 #[.val (.double (4604930618986332160 : UInt64)), .second] [(.long (1022 : Int64))])) rfl (D d11_11) _ (XS.lsub X91.here hx rfl (D d11_14) rfl (XS.l2i X91.here hx rfl (D d11_15) rfl k))))))))) ?_
  exact RGo.ret X91 hx hmm hlk hret rfl (Or.inl ⟨rfl, rfl, _, rfl⟩) (D d11_16)
theorem ef_rm_foc0_75 (m : MethodId) : entryFrame m #[(.double (4604930618986332160 : UInt64)), (.double (9223372036854775808 : UInt64)), (.double (4607182418800017408 : UInt64)), (.double (4607182418800017408 : UInt64))] 15 = mkF m 0 #[.val (.double (4604930618986332160 : UInt64)), .second, .val (.double (9223372036854775808 : UInt64)), .second, .val (.double (4607182418800017408 : UInt64)), .second, .val (.double (4607182418800017408 : UInt64)), .second, .unset, .unset, .unset, .unset, .unset, .unset, .unset] [] := by first | (simp [entryFrame, mkF, argsToLocals, Value.category]; done) | rfl
set_option maxRecDepth 65536 in
set_option maxHeartbeats 4000000 in
theorem rm_foc0_75 {l : Launch} {Z : State} {a0 : Array Value} {A : Nat → Addr} {KC : Nat → Cell} {IC : Nat → Int32} {VC : Nat → Value} (hw : ∀ d ∈ tables_1, d.before a0 Z = true) (G : own_Ctx Z A KC IC VC) {p : Program} {e : Env} {s : State} {below : List Frame} (hx : p.tables.exec = Jvm.exec) (ha : l.admits e) (hZ : Z.Warmed39 s.vm) (h0 : Heap) (O0 : Ext Z.heap h0) :
    RawOk p e s below h0 own_m19 3 54 #[(.double (4604930618986332160 : UInt64)), (.double (9223372036854775808 : UInt64)), (.double (4607182418800017408 : UInt64)), (.double (4607182418800017408 : UInt64))] (.double (4607182418800017408 : UInt64)) := by
  refine RawOk.mk (d := 2) ha hZ pn20 (own_w hw (i := 52) rfl) (by decide) ?_
  intro m meth c U hby hml hown hret hmm hlk X0 e0 r1 r2
  refine RGo.cast (ef_rm_foc0_75 m) ?_
  have D := @hb _ _ hby
  obtain ⟨T92, X92, e92, st92⟩ := callR X0 hx hZ (y := own_m17) hown (own_w hw (i := 53) rfl) (own_w hw (i := 54) rfl) (own_w hw (i := 20) rfl) (own_w hw (i := 55) rfl) (by decide) e0 (rm_gexp0_75 hw G hx ha hZ h0 O0) (g := (mkF m 1 #[.val (.double (4604930618986332160 : UInt64)), .second, .val (.double (9223372036854775808 : UInt64)), .second, .val (.double (4607182418800017408 : UInt64)), .second, .val (.double (4607182418800017408 : UInt64)), .second, .unset, .unset, .unset, .unset, .unset, .unset, .unset] [(.double (4604930618986332160 : UInt64))])) rfl (argsL := [(.double (4604930618986332160 : UInt64))]) (rest := []) (lenOf pd18 rfl) rfl rfl (D d10_1) r1 r2 (by decide) (Nat.le_of_ble_eq_true rfl)
  refine RGo.of (T' := T92) (f' := (mkF m 33 #[.val (.double (4604930618986332160 : UInt64)), .second, .val (.double (9223372036854775808 : UInt64)), .second, .val (.double (4607182418800017408 : UInt64)), .second, .val (.double (4607182418800017408 : UInt64)), .second, iv (-1 : Int32), .unset, .unset, .unset, .unset, .unset, .unset] [(.double (4607182418800017408 : UInt64))])) (fun _ k => XS.dloadN X0.here hx rfl (D d10_0) rfl (st92 _ (XS.istore X92.here hx rfl (D d10_4) rfl (l' := #[.val (.double (4604930618986332160 : UInt64)), .second, .val (.double (9223372036854775808 : UInt64)), .second, .val (.double (4607182418800017408 : UInt64)), .second, .val (.double (4607182418800017408 : UInt64)), .second, iv (-1 : Int32), .unset, .unset, .unset, .unset, .unset, .unset]) rfl (XS.iload X92.here hx rfl (D d10_6) rfl (XS.ifNo X92.here hx rfl (D d10_8) rfl ((if0 _ _).trans (tlt (by decide : (-1 : Int32) < (0 : Int32))).2.1) (XS.dloadN X92.here hx rfl (D d10_11) rfl (XS.dconst0 X92.here hx rfl (D d10_12) (v := (0 : UInt64)) (by decide +kernel) (XS.dcmpS X92.here hx rfl (D d10_13) rfl (v := (1 : Int32)) (by decide +kernel) (XS.ifYes X92.here hx rfl (pc0 := 14) (pc' := 21) rfl (D d10_14) rfl ((if0 _ _).trans (feq (by decide : ¬ ((1 : Int32) = (0 : Int32)))).2) (by decide) (by decide) (XS.dloadN X92.here hx rfl (D d10_21) rfl (XS.dconst0 X92.here hx rfl (D d10_22) (v := (0 : UInt64)) (by decide +kernel) (XS.dcmpS X92.here hx rfl (D d10_23) rfl (v := (1 : Int32)) (by decide +kernel) (XS.ifYes X92.here hx rfl (pc0 := 24) (pc' := 31) rfl (D d10_24) rfl ((if0 _ _).trans (flt (by decide : ¬ ((1 : Int32) < (0 : Int32)))).2.1) (by decide) (by decide) (XS.dload X92.here hx rfl (D d10_31) rfl k)))))))))))))) ?_
  exact RGo.ret X92 hx hmm hlk hret rfl (Or.inr ⟨rfl, rfl, _, rfl⟩) (D d10_33)
theorem ef_rm_sceil0_75 (m : MethodId) : entryFrame m #[(.double (4604930618986332160 : UInt64))] 2 = mkF m 0 #[.val (.double (4604930618986332160 : UInt64)), .second] [] := by first | (simp [entryFrame, mkF, argsToLocals, Value.category]; done) | rfl
set_option maxRecDepth 65536 in
set_option maxHeartbeats 4000000 in
theorem rm_sceil0_75 {l : Launch} {Z : State} {a0 : Array Value} {A : Nat → Addr} {KC : Nat → Cell} {IC : Nat → Int32} {VC : Nat → Value} (hw : ∀ d ∈ tables_1, d.before a0 Z = true) (G : own_Ctx Z A KC IC VC) {p : Program} {e : Env} {s : State} {below : List Frame} (hx : p.tables.exec = Jvm.exec) (ha : l.admits e) (hZ : Z.Warmed39 s.vm) (h0 : Heap) (O0 : Ext Z.heap h0) :
    RawOk p e s below h0 own_m22 4 67 #[(.double (4604930618986332160 : UInt64))] (.double (4607182418800017408 : UInt64)) := by
  refine RawOk.mk (d := 3) ha hZ pn23 (own_w hw (i := 48) rfl) (by decide) ?_
  intro m meth c U hby hml hown hret hmm hlk X0 e0 r1 r2
  refine RGo.cast (ef_rm_sceil0_75 m) ?_
  have D := @hb _ _ hby
  obtain ⟨T96, X96, e96, st96⟩ := callR X0 hx hZ (y := own_m19) hown (own_w hw (i := 50) rfl) (own_w hw (i := 51) rfl) (own_w hw (i := 47) rfl) (own_w hw (i := 52) rfl) (by decide) e0 (rm_foc0_75 hw G hx ha hZ h0 O0) (g := (mkF m 6 #[.val (.double (4604930618986332160 : UInt64)), .second] [(.double (4607182418800017408 : UInt64)), (.double (4607182418800017408 : UInt64)), (.double (9223372036854775808 : UInt64)), (.double (4604930618986332160 : UInt64))])) rfl (argsL := [(.double (4604930618986332160 : UInt64)), (.double (9223372036854775808 : UInt64)), (.double (4607182418800017408 : UInt64)), (.double (4607182418800017408 : UInt64))]) (rest := []) (lenOf pd21 rfl) rfl rfl (D d9_6) r1 r2 (by decide) (Nat.le_of_ble_eq_true rfl)
  refine RGo.of (T' := T96) (f' := (mkF m 9 #[.val (.double (4604930618986332160 : UInt64)), .second] [(.double (4607182418800017408 : UInt64))])) (fun _ k => XS.dloadN X0.here hx rfl (D d9_0) rfl (X0.ldc2DoubleC hx hown (mvT hZ (own_w hw (i := 49) rfl)) (g := (mkF m 1 #[.val (.double (4604930618986332160 : UInt64)), .second] [(.double (4604930618986332160 : UInt64))])) rfl (D d9_1) _ (XS.dconst1 X0.here hx rfl (D d9_4) (v := (4607182418800017408 : UInt64)) (by decide +kernel) (XS.dconst1 X0.here hx rfl (D d9_5) (v := (4607182418800017408 : UInt64)) (by decide +kernel) (st96 _ k))))) ?_
  exact RGo.ret X96 hx hmm hlk hret rfl (Or.inr ⟨rfl, rfl, _, rfl⟩) (D d9_9)
theorem ef_rm_gexp1_0 (m : MethodId) : entryFrame m #[(.double (4607182418800017408 : UInt64))] 2 = mkF m 0 #[.val (.double (4607182418800017408 : UInt64)), .second] [] := by first | (simp [entryFrame, mkF, argsToLocals, Value.category]; done) | rfl
set_option maxRecDepth 65536 in
set_option maxHeartbeats 4000000 in
theorem rm_gexp1_0 {l : Launch} {Z : State} {a0 : Array Value} {A : Nat → Addr} {KC : Nat → Cell} {IC : Nat → Int32} {VC : Nat → Value} (hw : ∀ d ∈ tables_1, d.before a0 Z = true) (G : own_Ctx Z A KC IC VC) {p : Program} {e : Env} {s : State} {below : List Frame} (hx : p.tables.exec = Jvm.exec) (ha : l.admits e) (hZ : Z.Warmed39 s.vm) (h0 : Heap) (O0 : Ext Z.heap h0) :
    RawOk p e s below h0 own_m17 2 28 #[(.double (4607182418800017408 : UInt64))] (.int (0 : Int32)) := by
  refine RawOk.mk (d := 1) ha hZ pn_java_lang_Math_getExponent__D_I (own_w hw (i := 55) rfl) (by decide) ?_
  intro m meth c U hby hml hown hret hmm hlk X0 e0 r1 r2
  refine RGo.cast (ef_rm_gexp1_0 m) ?_
  have D := @hb _ _ hby
  obtain ⟨T97, X97, e97, st97⟩ := d2lR X0 hx hZ hown (own_w hw (i := 56) rfl) (own_w hw (i := 59) rfl) (own_w hw (i := 57) rfl) (own_w hw (i := 58) rfl) e0 (g := (mkF m 1 #[.val (.double (4607182418800017408 : UInt64)), .second] [(.double (4607182418800017408 : UInt64))])) rfl rfl (D d11_1) r1 r2 (by decide) (Nat.le_of_ble_eq_true rfl) (z := (4607182418800017408 : Int64)) (by decide +kernel)
  refine RGo.of (T' := T97) (f' := (mkF m 16 #[.val (.double (4607182418800017408 : UInt64)), .second] [(.int 0)])) (fun _ k => XS.dloadN X0.here hx rfl (D d11_0) rfl (st97 _ (X97.ldc2Long hx hown (mvT hZ (own_w hw (i := 60) rfl)) (g := (mkF m 4 #[.val (.double (4607182418800017408 : UInt64)), .second] [(.long (4607182418800017408 : Int64))])) rfl (D d11_4) _ (XS.land X97.here hx rfl (D d11_7) rfl (XS.bipush X97.here hx rfl (D d11_8) (XS.lshr X97.here hx rfl (D d11_10) rfl (X97.ldc2Long hx hown (mvT hZ (own_w hw (i := 61) rfl)) (g := (mkF m 11 #[.val (.double (4607182418800017408 : UInt64)), .second] [(.long (1023 : Int64))])) rfl (D d11_11) _ (XS.lsub X97.here hx rfl (D d11_14) rfl (XS.l2i X97.here hx rfl (D d11_15) rfl k))))))))) ?_
  exact RGo.ret X97 hx hmm hlk hret rfl (Or.inl ⟨rfl, rfl, _, rfl⟩) (D d11_16)
theorem d10_34 : decode jdk_128_method_18_code 34 = .ok (.iload 8, 2) := by decide +kernel
theorem d10_36 : decode jdk_128_method_18_code 36 = .ok (.bipush 52, 2) := by decide +kernel
theorem d10_38 : decode jdk_128_method_18_code 38 = .ok (.if_icmp .lt 5, 3) := by decide +kernel
theorem d10_43 : decode jdk_128_method_18_code 43 = .ok (.getstatic 70, 3) := by decide +kernel
theorem d10_46 : decode jdk_128_method_18_code 46 = .ok (.ifCond .ne 23, 3) := by decide +kernel
theorem d10_69 : decode jdk_128_method_18_code 69 = .ok (.dload_n 0, 1) := by decide +kernel
theorem d10_70 : decode jdk_128_method_18_code 70 = .ok (.invokestatic 77, 3) := by decide +kernel
theorem d10_73 : decode jdk_128_method_18_code 73 = .ok (.lstore 9, 2) := by decide +kernel
theorem d10_75 : decode jdk_128_method_18_code 75 = .ok (.ldc2_w 85, 3) := by decide +kernel
theorem d10_78 : decode jdk_128_method_18_code 78 = .ok (.iload 8, 2) := by decide +kernel
theorem d10_80 : decode jdk_128_method_18_code 80 = .ok (.lshr, 1) := by decide +kernel
theorem d10_81 : decode jdk_128_method_18_code 81 = .ok (.lstore 11, 2) := by decide +kernel
theorem d10_83 : decode jdk_128_method_18_code 83 = .ok (.lload 11, 2) := by decide +kernel
theorem d10_85 : decode jdk_128_method_18_code 85 = .ok (.lload 9, 2) := by decide +kernel
theorem d10_87 : decode jdk_128_method_18_code 87 = .ok (.land, 1) := by decide +kernel
theorem d10_88 : decode jdk_128_method_18_code 88 = .ok (.lconst 0, 1) := by decide +kernel
theorem d10_89 : decode jdk_128_method_18_code 89 = .ok (.lcmp, 1) := by decide +kernel
theorem d10_90 : decode jdk_128_method_18_code 90 = .ok (.ifCond .ne 5, 3) := by decide +kernel
theorem d10_93 : decode jdk_128_method_18_code 93 = .ok (.dload_n 0, 1) := by decide +kernel
theorem d10_94 : decode jdk_128_method_18_code 94 = .ok (.dreturn, 1) := by decide +kernel
theorem ef_rm_foc1_0 (m : MethodId) : entryFrame m #[(.double (4607182418800017408 : UInt64)), (.double (9223372036854775808 : UInt64)), (.double (4607182418800017408 : UInt64)), (.double (4607182418800017408 : UInt64))] 15 = mkF m 0 #[.val (.double (4607182418800017408 : UInt64)), .second, .val (.double (9223372036854775808 : UInt64)), .second, .val (.double (4607182418800017408 : UInt64)), .second, .val (.double (4607182418800017408 : UInt64)), .second, .unset, .unset, .unset, .unset, .unset, .unset, .unset] [] := by first | (simp [entryFrame, mkF, argsToLocals, Value.category]; done) | rfl
set_option maxRecDepth 65536 in
set_option maxHeartbeats 4000000 in
theorem rm_foc1_0 {l : Launch} {Z : State} {a0 : Array Value} {A : Nat → Addr} {KC : Nat → Cell} {IC : Nat → Int32} {VC : Nat → Value} (hw : ∀ d ∈ tables_1, d.before a0 Z = true) (G : own_Ctx Z A KC IC VC) {p : Program} {e : Env} {s : State} {below : List Frame} (hx : p.tables.exec = Jvm.exec) (ha : l.admits e) (hZ : Z.Warmed39 s.vm) (h0 : Heap) (O0 : Ext Z.heap h0) :
    RawOk p e s below h0 own_m19 3 54 #[(.double (4607182418800017408 : UInt64)), (.double (9223372036854775808 : UInt64)), (.double (4607182418800017408 : UInt64)), (.double (4607182418800017408 : UInt64))] (.double (4607182418800017408 : UInt64)) := by
  refine RawOk.mk (d := 2) ha hZ pn20 (own_w hw (i := 52) rfl) (by decide) ?_
  intro m meth c U hby hml hown hret hmm hlk X0 e0 r1 r2
  refine RGo.cast (ef_rm_foc1_0 m) ?_
  have S__assertionsDisabled : Sta Z Z.heap "java/lang/StrictMath" "$assertionsDisabled" "Z" (.int (1 : Int32)) := G
  have D := @hb _ _ hby
  obtain ⟨T98, X98, e98, st98⟩ := callR X0 hx hZ (y := own_m17) hown (own_w hw (i := 53) rfl) (own_w hw (i := 54) rfl) (own_w hw (i := 20) rfl) (own_w hw (i := 55) rfl) (by decide) e0 (rm_gexp1_0 hw G hx ha hZ h0 O0) (g := (mkF m 1 #[.val (.double (4607182418800017408 : UInt64)), .second, .val (.double (9223372036854775808 : UInt64)), .second, .val (.double (4607182418800017408 : UInt64)), .second, .val (.double (4607182418800017408 : UInt64)), .second, .unset, .unset, .unset, .unset, .unset, .unset, .unset] [(.double (4607182418800017408 : UInt64))])) rfl (argsL := [(.double (4607182418800017408 : UInt64))]) (rest := []) (lenOf pd18 rfl) rfl rfl (D d10_1) r1 r2 (by decide) (Nat.le_of_ble_eq_true rfl)
  obtain ⟨T101, X101, e101, st101⟩ := getSR X98 hx hZ hown (own_w hw (i := 62) rfl) e98 (Sta.ext O0 S__assertionsDisabled) (g := (mkF m 43 #[.val (.double (4607182418800017408 : UInt64)), .second, .val (.double (9223372036854775808 : UInt64)), .second, .val (.double (4607182418800017408 : UInt64)), .second, .val (.double (4607182418800017408 : UInt64)), .second, iv 0, .unset, .unset, .unset, .unset, .unset, .unset] [])) rfl (D d10_43)
  obtain ⟨T103, X103, e103, st103⟩ := d2lR X101 hx hZ hown (own_w hw (i := 63) rfl) (own_w hw (i := 59) rfl) (own_w hw (i := 57) rfl) (own_w hw (i := 58) rfl) e101 (g := (mkF m 70 #[.val (.double (4607182418800017408 : UInt64)), .second, .val (.double (9223372036854775808 : UInt64)), .second, .val (.double (4607182418800017408 : UInt64)), .second, .val (.double (4607182418800017408 : UInt64)), .second, iv 0, .unset, .unset, .unset, .unset, .unset, .unset] [(.double (4607182418800017408 : UInt64))])) rfl rfl (D d10_70) r1 r2 (by decide) (Nat.le_of_ble_eq_true rfl) (z := (4607182418800017408 : Int64)) (by decide +kernel)
  refine RGo.of (T' := T103) (f' := (mkF m 94 #[.val (.double (4607182418800017408 : UInt64)), .second, .val (.double (9223372036854775808 : UInt64)), .second, .val (.double (4607182418800017408 : UInt64)), .second, .val (.double (4607182418800017408 : UInt64)), .second, iv 0, .val (.long (4607182418800017408 : Int64)), .second, .val (.long (4503599627370495 : Int64)), .second, .unset, .unset] [(.double (4607182418800017408 : UInt64))])) (fun _ k => XS.dloadN X0.here hx rfl (D d10_0) rfl (st98 _ (XS.istore X98.here hx rfl (D d10_4) rfl (l' := #[.val (.double (4607182418800017408 : UInt64)), .second, .val (.double (9223372036854775808 : UInt64)), .second, .val (.double (4607182418800017408 : UInt64)), .second, .val (.double (4607182418800017408 : UInt64)), .second, iv 0, .unset, .unset, .unset, .unset, .unset, .unset]) rfl (XS.iload X98.here hx rfl (D d10_6) rfl (XS.ifYes X98.here hx rfl (pc0 := 8) (pc' := 34) rfl (D d10_8) rfl ((if0 _ _).trans (flt (by decide : ¬ ((0 : Int32) < (0 : Int32)))).2.1) (by decide) (by decide) (XS.iload X98.here hx rfl (D d10_34) rfl (XS.bipush X98.here hx rfl (D d10_36) (XS.icmpYes X98.here hx rfl (pc0 := 38) (pc' := 43) rfl (D d10_38) rfl (tlt (by decide : (0 : Int32) < (52 : Int32))).1 (by decide) (by decide) (st101 _ (XS.ifYes X101.here hx rfl (pc0 := 46) (pc' := 69) rfl (D d10_46) rfl ((if0 _ _).trans (feq (by decide : ¬ ((1 : Int32) = (0 : Int32)))).2) (by decide) (by decide) (XS.dloadN X101.here hx rfl (D d10_69) rfl (st103 _ (XS.lstore X103.here hx rfl (D d10_73) rfl (l' := #[.val (.double (4607182418800017408 : UInt64)), .second, .val (.double (9223372036854775808 : UInt64)), .second, .val (.double (4607182418800017408 : UInt64)), .second, .val (.double (4607182418800017408 : UInt64)), .second, iv 0, .val (.long (4607182418800017408 : Int64)), .second, .unset, .unset, .unset, .unset]) rfl (X103.ldc2Long hx hown (mvT hZ (own_w hw (i := 64) rfl)) (g := (mkF m 75 #[.val (.double (4607182418800017408 : UInt64)), .second, .val (.double (9223372036854775808 : UInt64)), .second, .val (.double (4607182418800017408 : UInt64)), .second, .val (.double (4607182418800017408 : UInt64)), .second, iv 0, .val (.long (4607182418800017408 : Int64)), .second, .unset, .unset, .unset, .unset] [])) rfl (D d10_75) _ (XS.iload X103.here hx rfl (D d10_78) rfl (XS.lshr X103.here hx rfl (D d10_80) rfl (XS.lstore X103.here hx rfl (D d10_81) rfl (l' := #[.val (.double (4607182418800017408 : UInt64)), .second, .val (.double (9223372036854775808 : UInt64)), .second, .val (.double (4607182418800017408 : UInt64)), .second, .val (.double (4607182418800017408 : UInt64)), .second, iv 0, .val (.long (4607182418800017408 : Int64)), .second, .val (.long (4503599627370495 : Int64)), .second, .unset, .unset]) rfl (XS.lload X103.here hx rfl (D d10_83) rfl (XS.lload X103.here hx rfl (D d10_85) rfl (XS.land X103.here hx rfl (D d10_87) rfl (XS.lconst X103.here hx rfl (D d10_88) (XS.lcmp X103.here hx rfl (D d10_89) rfl (XS.ifNo X103.here hx rfl (D d10_90) rfl ((if0 _ _).trans (teq (by decide : (0 : Int32) = (0 : Int32))).2) (XS.dloadN X103.here hx rfl (D d10_93) rfl k)))))))))))))))))))))))) ?_
  exact RGo.ret X103 hx hmm hlk hret rfl (Or.inr ⟨rfl, rfl, _, rfl⟩) (D d10_94)
theorem ef_rm_sceil1_0 (m : MethodId) : entryFrame m #[(.double (4607182418800017408 : UInt64))] 2 = mkF m 0 #[.val (.double (4607182418800017408 : UInt64)), .second] [] := by first | (simp [entryFrame, mkF, argsToLocals, Value.category]; done) | rfl
set_option maxRecDepth 65536 in
set_option maxHeartbeats 4000000 in
theorem rm_sceil1_0 {l : Launch} {Z : State} {a0 : Array Value} {A : Nat → Addr} {KC : Nat → Cell} {IC : Nat → Int32} {VC : Nat → Value} (hw : ∀ d ∈ tables_1, d.before a0 Z = true) (G : own_Ctx Z A KC IC VC) {p : Program} {e : Env} {s : State} {below : List Frame} (hx : p.tables.exec = Jvm.exec) (ha : l.admits e) (hZ : Z.Warmed39 s.vm) (h0 : Heap) (O0 : Ext Z.heap h0) :
    RawOk p e s below h0 own_m22 4 67 #[(.double (4607182418800017408 : UInt64))] (.double (4607182418800017408 : UInt64)) := by
  refine RawOk.mk (d := 3) ha hZ pn23 (own_w hw (i := 48) rfl) (by decide) ?_
  intro m meth c U hby hml hown hret hmm hlk X0 e0 r1 r2
  refine RGo.cast (ef_rm_sceil1_0 m) ?_
  have D := @hb _ _ hby
  obtain ⟨T105, X105, e105, st105⟩ := callR X0 hx hZ (y := own_m19) hown (own_w hw (i := 50) rfl) (own_w hw (i := 51) rfl) (own_w hw (i := 47) rfl) (own_w hw (i := 52) rfl) (by decide) e0 (rm_foc1_0 hw G hx ha hZ h0 O0) (g := (mkF m 6 #[.val (.double (4607182418800017408 : UInt64)), .second] [(.double (4607182418800017408 : UInt64)), (.double (4607182418800017408 : UInt64)), (.double (9223372036854775808 : UInt64)), (.double (4607182418800017408 : UInt64))])) rfl (argsL := [(.double (4607182418800017408 : UInt64)), (.double (9223372036854775808 : UInt64)), (.double (4607182418800017408 : UInt64)), (.double (4607182418800017408 : UInt64))]) (rest := []) (lenOf pd21 rfl) rfl rfl (D d9_6) r1 r2 (by decide) (Nat.le_of_ble_eq_true rfl)
  refine RGo.of (T' := T105) (f' := (mkF m 9 #[.val (.double (4607182418800017408 : UInt64)), .second] [(.double (4607182418800017408 : UInt64))])) (fun _ k => XS.dloadN X0.here hx rfl (D d9_0) rfl (X0.ldc2DoubleC hx hown (mvT hZ (own_w hw (i := 49) rfl)) (g := (mkF m 1 #[.val (.double (4607182418800017408 : UInt64)), .second] [(.double (4607182418800017408 : UInt64))])) rfl (D d9_1) _ (XS.dconst1 X0.here hx rfl (D d9_4) (v := (4607182418800017408 : UInt64)) (by decide +kernel) (XS.dconst1 X0.here hx rfl (D d9_5) (v := (4607182418800017408 : UInt64)) (by decide +kernel) (st105 _ k))))) ?_
  exact RGo.ret X105 hx hmm hlk hret rfl (Or.inr ⟨rfl, rfl, _, rfl⟩) (D d9_9)
theorem ef_rm_gexp1_5 (m : MethodId) : entryFrame m #[(.double (4609434218613702656 : UInt64))] 2 = mkF m 0 #[.val (.double (4609434218613702656 : UInt64)), .second] [] := by first | (simp [entryFrame, mkF, argsToLocals, Value.category]; done) | rfl
set_option maxRecDepth 65536 in
set_option maxHeartbeats 4000000 in
theorem rm_gexp1_5 {l : Launch} {Z : State} {a0 : Array Value} {A : Nat → Addr} {KC : Nat → Cell} {IC : Nat → Int32} {VC : Nat → Value} (hw : ∀ d ∈ tables_1, d.before a0 Z = true) (G : own_Ctx Z A KC IC VC) {p : Program} {e : Env} {s : State} {below : List Frame} (hx : p.tables.exec = Jvm.exec) (ha : l.admits e) (hZ : Z.Warmed39 s.vm) (h0 : Heap) (O0 : Ext Z.heap h0) :
    RawOk p e s below h0 own_m17 2 28 #[(.double (4609434218613702656 : UInt64))] (.int (0 : Int32)) := by
  refine RawOk.mk (d := 1) ha hZ pn_java_lang_Math_getExponent__D_I (own_w hw (i := 55) rfl) (by decide) ?_
  intro m meth c U hby hml hown hret hmm hlk X0 e0 r1 r2
  refine RGo.cast (ef_rm_gexp1_5 m) ?_
  have D := @hb _ _ hby
  obtain ⟨T106, X106, e106, st106⟩ := d2lR X0 hx hZ hown (own_w hw (i := 56) rfl) (own_w hw (i := 59) rfl) (own_w hw (i := 57) rfl) (own_w hw (i := 58) rfl) e0 (g := (mkF m 1 #[.val (.double (4609434218613702656 : UInt64)), .second] [(.double (4609434218613702656 : UInt64))])) rfl rfl (D d11_1) r1 r2 (by decide) (Nat.le_of_ble_eq_true rfl) (z := (4609434218613702656 : Int64)) (by decide +kernel)
  refine RGo.of (T' := T106) (f' := (mkF m 16 #[.val (.double (4609434218613702656 : UInt64)), .second] [(.int 0)])) (fun _ k => XS.dloadN X0.here hx rfl (D d11_0) rfl (st106 _ (X106.ldc2Long hx hown (mvT hZ (own_w hw (i := 60) rfl)) (g := (mkF m 4 #[.val (.double (4609434218613702656 : UInt64)), .second] [(.long (4609434218613702656 : Int64))])) rfl (D d11_4) _ (XS.land X106.here hx rfl (D d11_7) rfl (XS.bipush X106.here hx rfl (D d11_8) (XS.lshr X106.here hx rfl (D d11_10) rfl (X106.ldc2Long hx hown (mvT hZ (own_w hw (i := 61) rfl)) (g := (mkF m 11 #[.val (.double (4609434218613702656 : UInt64)), .second] [(.long (1023 : Int64))])) rfl (D d11_11) _ (XS.lsub X106.here hx rfl (D d11_14) rfl (XS.l2i X106.here hx rfl (D d11_15) rfl k))))))))) ?_
  exact RGo.ret X106 hx hmm hlk hret rfl (Or.inl ⟨rfl, rfl, _, rfl⟩) (D d11_16)
theorem d10_95 : decode jdk_128_method_18_code 95 = .ok (.lload 9, 2) := by decide +kernel
theorem d10_97 : decode jdk_128_method_18_code 97 = .ok (.lload 11, 2) := by decide +kernel
theorem d10_99 : decode jdk_128_method_18_code 99 = .ok (.ldc2_w 87, 3) := by decide +kernel
theorem d10_102 : decode jdk_128_method_18_code 102 = .ok (.lxor, 1) := by decide +kernel
theorem d10_103 : decode jdk_128_method_18_code 103 = .ok (.land, 1) := by decide +kernel
theorem d10_104 : decode jdk_128_method_18_code 104 = .ok (.invokestatic 89, 3) := by decide +kernel
theorem d10_107 : decode jdk_128_method_18_code 107 = .ok (.dstore 13, 2) := by decide +kernel
theorem d10_109 : decode jdk_128_method_18_code 109 = .ok (.dload 6, 2) := by decide +kernel
theorem d10_111 : decode jdk_128_method_18_code 111 = .ok (.dload_n 0, 1) := by decide +kernel
theorem d10_112 : decode jdk_128_method_18_code 112 = .ok (.dmul, 1) := by decide +kernel
theorem own_fp24 : Jvm.Free.Fl.NoNaN64 (FP.dmul (4607182418800017408 : UInt64) (4609434218613702656 : UInt64)) ∧ FP.dmul (4607182418800017408 : UInt64) (4609434218613702656 : UInt64) = (4609434218613702656 : UInt64) := ⟨by unfold Jvm.Free.Fl.NoNaN64; decide +kernel, by decide +kernel⟩
theorem d10_113 : decode jdk_128_method_18_code 113 = .ok (.dconst 0, 1) := by decide +kernel
theorem d10_114 : decode jdk_128_method_18_code 114 = .ok (.dcmp .l, 1) := by decide +kernel
theorem d10_115 : decode jdk_128_method_18_code 115 = .ok (.ifCond .le 10, 3) := by decide +kernel
theorem d10_118 : decode jdk_128_method_18_code 118 = .ok (.dload 13, 2) := by decide +kernel
theorem d10_120 : decode jdk_128_method_18_code 120 = .ok (.dload 6, 2) := by decide +kernel
theorem d10_122 : decode jdk_128_method_18_code 122 = .ok (.dadd, 1) := by decide +kernel
theorem own_fp25 : Jvm.Free.Fl.NoNaN64 (FP.dadd (4607182418800017408 : UInt64) (4607182418800017408 : UInt64)) ∧ FP.dadd (4607182418800017408 : UInt64) (4607182418800017408 : UInt64) = (4611686018427387904 : UInt64) := ⟨by unfold Jvm.Free.Fl.NoNaN64; decide +kernel, by decide +kernel⟩
theorem d10_123 : decode jdk_128_method_18_code 123 = .ok (.dstore 13, 2) := by decide +kernel
theorem d10_125 : decode jdk_128_method_18_code 125 = .ok (.dload 13, 2) := by decide +kernel
theorem d10_127 : decode jdk_128_method_18_code 127 = .ok (.dreturn, 1) := by decide +kernel
theorem ef_rm_foc1_5 (m : MethodId) : entryFrame m #[(.double (4609434218613702656 : UInt64)), (.double (9223372036854775808 : UInt64)), (.double (4607182418800017408 : UInt64)), (.double (4607182418800017408 : UInt64))] 15 = mkF m 0 #[.val (.double (4609434218613702656 : UInt64)), .second, .val (.double (9223372036854775808 : UInt64)), .second, .val (.double (4607182418800017408 : UInt64)), .second, .val (.double (4607182418800017408 : UInt64)), .second, .unset, .unset, .unset, .unset, .unset, .unset, .unset] [] := by first | (simp [entryFrame, mkF, argsToLocals, Value.category]; done) | rfl
set_option maxRecDepth 65536 in
set_option maxHeartbeats 4000000 in
theorem rm_foc1_5 {l : Launch} {Z : State} {a0 : Array Value} {A : Nat → Addr} {KC : Nat → Cell} {IC : Nat → Int32} {VC : Nat → Value} (hw : ∀ d ∈ tables_1, d.before a0 Z = true) (G : own_Ctx Z A KC IC VC) {p : Program} {e : Env} {s : State} {below : List Frame} (hx : p.tables.exec = Jvm.exec) (ha : l.admits e) (hZ : Z.Warmed39 s.vm) (h0 : Heap) (O0 : Ext Z.heap h0) :
    RawOk p e s below h0 own_m19 3 54 #[(.double (4609434218613702656 : UInt64)), (.double (9223372036854775808 : UInt64)), (.double (4607182418800017408 : UInt64)), (.double (4607182418800017408 : UInt64))] (.double (4611686018427387904 : UInt64)) := by
  refine RawOk.mk (d := 2) ha hZ pn20 (own_w hw (i := 52) rfl) (by decide) ?_
  intro m meth c U hby hml hown hret hmm hlk X0 e0 r1 r2
  refine RGo.cast (ef_rm_foc1_5 m) ?_
  have S__assertionsDisabled : Sta Z Z.heap "java/lang/StrictMath" "$assertionsDisabled" "Z" (.int (1 : Int32)) := G
  have D := @hb _ _ hby
  obtain ⟨T107, X107, e107, st107⟩ := callR X0 hx hZ (y := own_m17) hown (own_w hw (i := 53) rfl) (own_w hw (i := 54) rfl) (own_w hw (i := 20) rfl) (own_w hw (i := 55) rfl) (by decide) e0 (rm_gexp1_5 hw G hx ha hZ h0 O0) (g := (mkF m 1 #[.val (.double (4609434218613702656 : UInt64)), .second, .val (.double (9223372036854775808 : UInt64)), .second, .val (.double (4607182418800017408 : UInt64)), .second, .val (.double (4607182418800017408 : UInt64)), .second, .unset, .unset, .unset, .unset, .unset, .unset, .unset] [(.double (4609434218613702656 : UInt64))])) rfl (argsL := [(.double (4609434218613702656 : UInt64))]) (rest := []) (lenOf pd18 rfl) rfl rfl (D d10_1) r1 r2 (by decide) (Nat.le_of_ble_eq_true rfl)
  obtain ⟨T110, X110, e110, st110⟩ := getSR X107 hx hZ hown (own_w hw (i := 62) rfl) e107 (Sta.ext O0 S__assertionsDisabled) (g := (mkF m 43 #[.val (.double (4609434218613702656 : UInt64)), .second, .val (.double (9223372036854775808 : UInt64)), .second, .val (.double (4607182418800017408 : UInt64)), .second, .val (.double (4607182418800017408 : UInt64)), .second, iv 0, .unset, .unset, .unset, .unset, .unset, .unset] [])) rfl (D d10_43)
  obtain ⟨T112, X112, e112, st112⟩ := d2lR X110 hx hZ hown (own_w hw (i := 63) rfl) (own_w hw (i := 59) rfl) (own_w hw (i := 57) rfl) (own_w hw (i := 58) rfl) e110 (g := (mkF m 70 #[.val (.double (4609434218613702656 : UInt64)), .second, .val (.double (9223372036854775808 : UInt64)), .second, .val (.double (4607182418800017408 : UInt64)), .second, .val (.double (4607182418800017408 : UInt64)), .second, iv 0, .unset, .unset, .unset, .unset, .unset, .unset] [(.double (4609434218613702656 : UInt64))])) rfl rfl (D d10_70) r1 r2 (by decide) (Nat.le_of_ble_eq_true rfl) (z := (4609434218613702656 : Int64)) (by decide +kernel)
  refine RGo.of (T' := T112) (f' := (mkF m 97 #[.val (.double (4609434218613702656 : UInt64)), .second, .val (.double (9223372036854775808 : UInt64)), .second, .val (.double (4607182418800017408 : UInt64)), .second, .val (.double (4607182418800017408 : UInt64)), .second, iv 0, .val (.long (4609434218613702656 : Int64)), .second, .val (.long (4503599627370495 : Int64)), .second, .unset, .unset] [(.long (4609434218613702656 : Int64))])) (fun _ k => XS.dloadN X0.here hx rfl (D d10_0) rfl (st107 _ (XS.istore X107.here hx rfl (D d10_4) rfl (l' := #[.val (.double (4609434218613702656 : UInt64)), .second, .val (.double (9223372036854775808 : UInt64)), .second, .val (.double (4607182418800017408 : UInt64)), .second, .val (.double (4607182418800017408 : UInt64)), .second, iv 0, .unset, .unset, .unset, .unset, .unset, .unset]) rfl (XS.iload X107.here hx rfl (D d10_6) rfl (XS.ifYes X107.here hx rfl (pc0 := 8) (pc' := 34) rfl (D d10_8) rfl ((if0 _ _).trans (flt (by decide : ¬ ((0 : Int32) < (0 : Int32)))).2.1) (by decide) (by decide) (XS.iload X107.here hx rfl (D d10_34) rfl (XS.bipush X107.here hx rfl (D d10_36) (XS.icmpYes X107.here hx rfl (pc0 := 38) (pc' := 43) rfl (D d10_38) rfl (tlt (by decide : (0 : Int32) < (52 : Int32))).1 (by decide) (by decide) (st110 _ (XS.ifYes X110.here hx rfl (pc0 := 46) (pc' := 69) rfl (D d10_46) rfl ((if0 _ _).trans (feq (by decide : ¬ ((1 : Int32) = (0 : Int32)))).2) (by decide) (by decide) (XS.dloadN X110.here hx rfl (D d10_69) rfl (st112 _ (XS.lstore X112.here hx rfl (D d10_73) rfl (l' := #[.val (.double (4609434218613702656 : UInt64)), .second, .val (.double (9223372036854775808 : UInt64)), .second, .val (.double (4607182418800017408 : UInt64)), .second, .val (.double (4607182418800017408 : UInt64)), .second, iv 0, .val (.long (4609434218613702656 : Int64)), .second, .unset, .unset, .unset, .unset]) rfl (X112.ldc2Long hx hown (mvT hZ (own_w hw (i := 64) rfl)) (g := (mkF m 75 #[.val (.double (4609434218613702656 : UInt64)), .second, .val (.double (9223372036854775808 : UInt64)), .second, .val (.double (4607182418800017408 : UInt64)), .second, .val (.double (4607182418800017408 : UInt64)), .second, iv 0, .val (.long (4609434218613702656 : Int64)), .second, .unset, .unset, .unset, .unset] [])) rfl (D d10_75) _ (XS.iload X112.here hx rfl (D d10_78) rfl (XS.lshr X112.here hx rfl (D d10_80) rfl (XS.lstore X112.here hx rfl (D d10_81) rfl (l' := #[.val (.double (4609434218613702656 : UInt64)), .second, .val (.double (9223372036854775808 : UInt64)), .second, .val (.double (4607182418800017408 : UInt64)), .second, .val (.double (4607182418800017408 : UInt64)), .second, iv 0, .val (.long (4609434218613702656 : Int64)), .second, .val (.long (4503599627370495 : Int64)), .second, .unset, .unset]) rfl (XS.lload X112.here hx rfl (D d10_83) rfl (XS.lload X112.here hx rfl (D d10_85) rfl (XS.land X112.here hx rfl (D d10_87) rfl (XS.lconst X112.here hx rfl (D d10_88) (XS.lcmp X112.here hx rfl (D d10_89) rfl (XS.ifYes X112.here hx rfl (pc0 := 90) (pc' := 95) rfl (D d10_90) rfl ((if0 _ _).trans (feq (by decide : ¬ ((1 : Int32) = (0 : Int32)))).2) (by decide) (by decide) (XS.lload X112.here hx rfl (D d10_95) rfl k)))))))))))))))))))))))) ?_
  obtain ⟨T114, X114, e114, st114⟩ := l2dR X112 hx hZ hown (own_w hw (i := 73) rfl) (own_w hw (i := 75) rfl) (own_w hw (i := 74) rfl) (own_w hw (i := 58) rfl) e112 (g := (mkF m 104 #[.val (.double (4609434218613702656 : UInt64)), .second, .val (.double (9223372036854775808 : UInt64)), .second, .val (.double (4607182418800017408 : UInt64)), .second, .val (.double (4607182418800017408 : UInt64)), .second, iv 0, .val (.long (4609434218613702656 : Int64)), .second, .val (.long (4503599627370495 : Int64)), .second, .unset, .unset] [(.long (4607182418800017408 : Int64))])) rfl (b := (4607182418800017408 : Int64)) (by decide +kernel) rfl (D d10_104) r1 r2 (by decide) (Nat.le_of_ble_eq_true rfl) (z := (4607182418800017408 : UInt64)) (by decide +kernel)
  refine RGo.of (T' := T114) (f' := (mkF m 127 #[.val (.double (4609434218613702656 : UInt64)), .second, .val (.double (9223372036854775808 : UInt64)), .second, .val (.double (4607182418800017408 : UInt64)), .second, .val (.double (4607182418800017408 : UInt64)), .second, iv 0, .val (.long (4609434218613702656 : Int64)), .second, .val (.long (4503599627370495 : Int64)), .second, .val (.double (4611686018427387904 : UInt64)), .second] [(.double (4611686018427387904 : UInt64))])) (fun _ k => XS.lload X112.here hx rfl (D d10_97) rfl (X112.ldc2Long hx hown (mvT hZ (own_w hw (i := 72) rfl)) (g := (mkF m 99 #[.val (.double (4609434218613702656 : UInt64)), .second, .val (.double (9223372036854775808 : UInt64)), .second, .val (.double (4607182418800017408 : UInt64)), .second, .val (.double (4607182418800017408 : UInt64)), .second, iv 0, .val (.long (4609434218613702656 : Int64)), .second, .val (.long (4503599627370495 : Int64)), .second, .unset, .unset] [(.long (4503599627370495 : Int64)), (.long (4609434218613702656 : Int64))])) rfl (D d10_99) _ (XS.lxor X112.here hx rfl (D d10_102) rfl (XS.land X112.here hx rfl (D d10_103) rfl (st114 _ (XS.dstore X114.here hx rfl (D d10_107) rfl (l' := #[.val (.double (4609434218613702656 : UInt64)), .second, .val (.double (9223372036854775808 : UInt64)), .second, .val (.double (4607182418800017408 : UInt64)), .second, .val (.double (4607182418800017408 : UInt64)), .second, iv 0, .val (.long (4609434218613702656 : Int64)), .second, .val (.long (4503599627370495 : Int64)), .second, .val (.double (4607182418800017408 : UInt64)), .second]) rfl (XS.dload X114.here hx rfl (D d10_109) rfl (XS.dloadN X114.here hx rfl (D d10_111) rfl (XS.dmulS X114.here hx rfl (D d10_112) rfl (v := (4609434218613702656 : UInt64)) own_fp24.1 own_fp24.2 (XS.dconst0 X114.here hx rfl (D d10_113) (v := (0 : UInt64)) (by decide +kernel) (XS.dcmpS X114.here hx rfl (D d10_114) rfl (v := (1 : Int32)) (by decide +kernel) (XS.ifNo X114.here hx rfl (D d10_115) rfl ((if0 _ _).trans (tlt (by decide : (0 : Int32) < (1 : Int32))).2.2.2) (XS.dload X114.here hx rfl (D d10_118) rfl (XS.dload X114.here hx rfl (D d10_120) rfl (XS.daddS X114.here hx rfl (D d10_122) rfl (v := (4611686018427387904 : UInt64)) own_fp25.1 own_fp25.2 (XS.dstore X114.here hx rfl (D d10_123) rfl (l' := #[.val (.double (4609434218613702656 : UInt64)), .second, .val (.double (9223372036854775808 : UInt64)), .second, .val (.double (4607182418800017408 : UInt64)), .second, .val (.double (4607182418800017408 : UInt64)), .second, iv 0, .val (.long (4609434218613702656 : Int64)), .second, .val (.long (4503599627370495 : Int64)), .second, .val (.double (4611686018427387904 : UInt64)), .second]) rfl (XS.dload X114.here hx rfl (D d10_125) rfl k))))))))))))))))) ?_
  exact RGo.ret X114 hx hmm hlk hret rfl (Or.inr ⟨rfl, rfl, _, rfl⟩) (D d10_127)
theorem ef_rm_sceil1_5 (m : MethodId) : entryFrame m #[(.double (4609434218613702656 : UInt64))] 2 = mkF m 0 #[.val (.double (4609434218613702656 : UInt64)), .second] [] := by first | (simp [entryFrame, mkF, argsToLocals, Value.category]; done) | rfl
set_option maxRecDepth 65536 in
set_option maxHeartbeats 4000000 in
theorem rm_sceil1_5 {l : Launch} {Z : State} {a0 : Array Value} {A : Nat → Addr} {KC : Nat → Cell} {IC : Nat → Int32} {VC : Nat → Value} (hw : ∀ d ∈ tables_1, d.before a0 Z = true) (G : own_Ctx Z A KC IC VC) {p : Program} {e : Env} {s : State} {below : List Frame} (hx : p.tables.exec = Jvm.exec) (ha : l.admits e) (hZ : Z.Warmed39 s.vm) (h0 : Heap) (O0 : Ext Z.heap h0) :
    RawOk p e s below h0 own_m22 4 67 #[(.double (4609434218613702656 : UInt64))] (.double (4611686018427387904 : UInt64)) := by
  refine RawOk.mk (d := 3) ha hZ pn23 (own_w hw (i := 48) rfl) (by decide) ?_
  intro m meth c U hby hml hown hret hmm hlk X0 e0 r1 r2
  refine RGo.cast (ef_rm_sceil1_5 m) ?_
  have D := @hb _ _ hby
  obtain ⟨T116, X116, e116, st116⟩ := callR X0 hx hZ (y := own_m19) hown (own_w hw (i := 50) rfl) (own_w hw (i := 51) rfl) (own_w hw (i := 47) rfl) (own_w hw (i := 52) rfl) (by decide) e0 (rm_foc1_5 hw G hx ha hZ h0 O0) (g := (mkF m 6 #[.val (.double (4609434218613702656 : UInt64)), .second] [(.double (4607182418800017408 : UInt64)), (.double (4607182418800017408 : UInt64)), (.double (9223372036854775808 : UInt64)), (.double (4609434218613702656 : UInt64))])) rfl (argsL := [(.double (4609434218613702656 : UInt64)), (.double (9223372036854775808 : UInt64)), (.double (4607182418800017408 : UInt64)), (.double (4607182418800017408 : UInt64))]) (rest := []) (lenOf pd21 rfl) rfl rfl (D d9_6) r1 r2 (by decide) (Nat.le_of_ble_eq_true rfl)
  refine RGo.of (T' := T116) (f' := (mkF m 9 #[.val (.double (4609434218613702656 : UInt64)), .second] [(.double (4611686018427387904 : UInt64))])) (fun _ k => XS.dloadN X0.here hx rfl (D d9_0) rfl (X0.ldc2DoubleC hx hown (mvT hZ (own_w hw (i := 49) rfl)) (g := (mkF m 1 #[.val (.double (4609434218613702656 : UInt64)), .second] [(.double (4609434218613702656 : UInt64))])) rfl (D d9_1) _ (XS.dconst1 X0.here hx rfl (D d9_4) (v := (4607182418800017408 : UInt64)) (by decide +kernel) (XS.dconst1 X0.here hx rfl (D d9_5) (v := (4607182418800017408 : UInt64)) (by decide +kernel) (st116 _ k))))) ?_
  exact RGo.ret X116 hx hmm hlk hret rfl (Or.inr ⟨rfl, rfl, _, rfl⟩) (D d9_9)
theorem ef_rm_gexp2_0 (m : MethodId) : entryFrame m #[(.double (4611686018427387904 : UInt64))] 2 = mkF m 0 #[.val (.double (4611686018427387904 : UInt64)), .second] [] := by first | (simp [entryFrame, mkF, argsToLocals, Value.category]; done) | rfl
set_option maxRecDepth 65536 in
set_option maxHeartbeats 4000000 in
theorem rm_gexp2_0 {l : Launch} {Z : State} {a0 : Array Value} {A : Nat → Addr} {KC : Nat → Cell} {IC : Nat → Int32} {VC : Nat → Value} (hw : ∀ d ∈ tables_1, d.before a0 Z = true) (G : own_Ctx Z A KC IC VC) {p : Program} {e : Env} {s : State} {below : List Frame} (hx : p.tables.exec = Jvm.exec) (ha : l.admits e) (hZ : Z.Warmed39 s.vm) (h0 : Heap) (O0 : Ext Z.heap h0) :
    RawOk p e s below h0 own_m17 2 28 #[(.double (4611686018427387904 : UInt64))] (.int (1 : Int32)) := by
  refine RawOk.mk (d := 1) ha hZ pn_java_lang_Math_getExponent__D_I (own_w hw (i := 55) rfl) (by decide) ?_
  intro m meth c U hby hml hown hret hmm hlk X0 e0 r1 r2
  refine RGo.cast (ef_rm_gexp2_0 m) ?_
  have D := @hb _ _ hby
  obtain ⟨T117, X117, e117, st117⟩ := d2lR X0 hx hZ hown (own_w hw (i := 56) rfl) (own_w hw (i := 59) rfl) (own_w hw (i := 57) rfl) (own_w hw (i := 58) rfl) e0 (g := (mkF m 1 #[.val (.double (4611686018427387904 : UInt64)), .second] [(.double (4611686018427387904 : UInt64))])) rfl rfl (D d11_1) r1 r2 (by decide) (Nat.le_of_ble_eq_true rfl) (z := (4611686018427387904 : Int64)) (by decide +kernel)
  refine RGo.of (T' := T117) (f' := (mkF m 16 #[.val (.double (4611686018427387904 : UInt64)), .second] [(.int 1)])) (fun _ k => XS.dloadN X0.here hx rfl (D d11_0) rfl (st117 _ (X117.ldc2Long hx hown (mvT hZ (own_w hw (i := 60) rfl)) (g := (mkF m 4 #[.val (.double (4611686018427387904 : UInt64)), .second] [(.long (4611686018427387904 : Int64))])) rfl (D d11_4) _ (XS.land X117.here hx rfl (D d11_7) rfl (XS.bipush X117.here hx rfl (D d11_8) (XS.lshr X117.here hx rfl (D d11_10) rfl (X117.ldc2Long hx hown (mvT hZ (own_w hw (i := 61) rfl)) (g := (mkF m 11 #[.val (.double (4611686018427387904 : UInt64)), .second] [(.long (1024 : Int64))])) rfl (D d11_11) _ (XS.lsub X117.here hx rfl (D d11_14) rfl (XS.l2i X117.here hx rfl (D d11_15) rfl k))))))))) ?_
  exact RGo.ret X117 hx hmm hlk hret rfl (Or.inl ⟨rfl, rfl, _, rfl⟩) (D d11_16)
theorem ef_rm_foc2_0 (m : MethodId) : entryFrame m #[(.double (4611686018427387904 : UInt64)), (.double (9223372036854775808 : UInt64)), (.double (4607182418800017408 : UInt64)), (.double (4607182418800017408 : UInt64))] 15 = mkF m 0 #[.val (.double (4611686018427387904 : UInt64)), .second, .val (.double (9223372036854775808 : UInt64)), .second, .val (.double (4607182418800017408 : UInt64)), .second, .val (.double (4607182418800017408 : UInt64)), .second, .unset, .unset, .unset, .unset, .unset, .unset, .unset] [] := by first | (simp [entryFrame, mkF, argsToLocals, Value.category]; done) | rfl
set_option maxRecDepth 65536 in
set_option maxHeartbeats 4000000 in
theorem rm_foc2_0 {l : Launch} {Z : State} {a0 : Array Value} {A : Nat → Addr} {KC : Nat → Cell} {IC : Nat → Int32} {VC : Nat → Value} (hw : ∀ d ∈ tables_1, d.before a0 Z = true) (G : own_Ctx Z A KC IC VC) {p : Program} {e : Env} {s : State} {below : List Frame} (hx : p.tables.exec = Jvm.exec) (ha : l.admits e) (hZ : Z.Warmed39 s.vm) (h0 : Heap) (O0 : Ext Z.heap h0) :
    RawOk p e s below h0 own_m19 3 54 #[(.double (4611686018427387904 : UInt64)), (.double (9223372036854775808 : UInt64)), (.double (4607182418800017408 : UInt64)), (.double (4607182418800017408 : UInt64))] (.double (4611686018427387904 : UInt64)) := by
  refine RawOk.mk (d := 2) ha hZ pn20 (own_w hw (i := 52) rfl) (by decide) ?_
  intro m meth c U hby hml hown hret hmm hlk X0 e0 r1 r2
  refine RGo.cast (ef_rm_foc2_0 m) ?_
  have S__assertionsDisabled : Sta Z Z.heap "java/lang/StrictMath" "$assertionsDisabled" "Z" (.int (1 : Int32)) := G
  have D := @hb _ _ hby
  obtain ⟨T118, X118, e118, st118⟩ := callR X0 hx hZ (y := own_m17) hown (own_w hw (i := 53) rfl) (own_w hw (i := 54) rfl) (own_w hw (i := 20) rfl) (own_w hw (i := 55) rfl) (by decide) e0 (rm_gexp2_0 hw G hx ha hZ h0 O0) (g := (mkF m 1 #[.val (.double (4611686018427387904 : UInt64)), .second, .val (.double (9223372036854775808 : UInt64)), .second, .val (.double (4607182418800017408 : UInt64)), .second, .val (.double (4607182418800017408 : UInt64)), .second, .unset, .unset, .unset, .unset, .unset, .unset, .unset] [(.double (4611686018427387904 : UInt64))])) rfl (argsL := [(.double (4611686018427387904 : UInt64))]) (rest := []) (lenOf pd18 rfl) rfl rfl (D d10_1) r1 r2 (by decide) (Nat.le_of_ble_eq_true rfl)
  obtain ⟨T121, X121, e121, st121⟩ := getSR X118 hx hZ hown (own_w hw (i := 62) rfl) e118 (Sta.ext O0 S__assertionsDisabled) (g := (mkF m 43 #[.val (.double (4611686018427387904 : UInt64)), .second, .val (.double (9223372036854775808 : UInt64)), .second, .val (.double (4607182418800017408 : UInt64)), .second, .val (.double (4607182418800017408 : UInt64)), .second, iv 1, .unset, .unset, .unset, .unset, .unset, .unset] [])) rfl (D d10_43)
  obtain ⟨T123, X123, e123, st123⟩ := d2lR X121 hx hZ hown (own_w hw (i := 63) rfl) (own_w hw (i := 59) rfl) (own_w hw (i := 57) rfl) (own_w hw (i := 58) rfl) e121 (g := (mkF m 70 #[.val (.double (4611686018427387904 : UInt64)), .second, .val (.double (9223372036854775808 : UInt64)), .second, .val (.double (4607182418800017408 : UInt64)), .second, .val (.double (4607182418800017408 : UInt64)), .second, iv 1, .unset, .unset, .unset, .unset, .unset, .unset] [(.double (4611686018427387904 : UInt64))])) rfl rfl (D d10_70) r1 r2 (by decide) (Nat.le_of_ble_eq_true rfl) (z := (4611686018427387904 : Int64)) (by decide +kernel)
  refine RGo.of (T' := T123) (f' := (mkF m 94 #[.val (.double (4611686018427387904 : UInt64)), .second, .val (.double (9223372036854775808 : UInt64)), .second, .val (.double (4607182418800017408 : UInt64)), .second, .val (.double (4607182418800017408 : UInt64)), .second, iv 1, .val (.long (4611686018427387904 : Int64)), .second, .val (.long (2251799813685247 : Int64)), .second, .unset, .unset] [(.double (4611686018427387904 : UInt64))])) (fun _ k => XS.dloadN X0.here hx rfl (D d10_0) rfl (st118 _ (XS.istore X118.here hx rfl (D d10_4) rfl (l' := #[.val (.double (4611686018427387904 : UInt64)), .second, .val (.double (9223372036854775808 : UInt64)), .second, .val (.double (4607182418800017408 : UInt64)), .second, .val (.double (4607182418800017408 : UInt64)), .second, iv 1, .unset, .unset, .unset, .unset, .unset, .unset]) rfl (XS.iload X118.here hx rfl (D d10_6) rfl (XS.ifYes X118.here hx rfl (pc0 := 8) (pc' := 34) rfl (D d10_8) rfl ((if0 _ _).trans (flt (by decide : ¬ ((1 : Int32) < (0 : Int32)))).2.1) (by decide) (by decide) (XS.iload X118.here hx rfl (D d10_34) rfl (XS.bipush X118.here hx rfl (D d10_36) (XS.icmpYes X118.here hx rfl (pc0 := 38) (pc' := 43) rfl (D d10_38) rfl (tlt (by decide : (1 : Int32) < (52 : Int32))).1 (by decide) (by decide) (st121 _ (XS.ifYes X121.here hx rfl (pc0 := 46) (pc' := 69) rfl (D d10_46) rfl ((if0 _ _).trans (feq (by decide : ¬ ((1 : Int32) = (0 : Int32)))).2) (by decide) (by decide) (XS.dloadN X121.here hx rfl (D d10_69) rfl (st123 _ (XS.lstore X123.here hx rfl (D d10_73) rfl (l' := #[.val (.double (4611686018427387904 : UInt64)), .second, .val (.double (9223372036854775808 : UInt64)), .second, .val (.double (4607182418800017408 : UInt64)), .second, .val (.double (4607182418800017408 : UInt64)), .second, iv 1, .val (.long (4611686018427387904 : Int64)), .second, .unset, .unset, .unset, .unset]) rfl (X123.ldc2Long hx hown (mvT hZ (own_w hw (i := 64) rfl)) (g := (mkF m 75 #[.val (.double (4611686018427387904 : UInt64)), .second, .val (.double (9223372036854775808 : UInt64)), .second, .val (.double (4607182418800017408 : UInt64)), .second, .val (.double (4607182418800017408 : UInt64)), .second, iv 1, .val (.long (4611686018427387904 : Int64)), .second, .unset, .unset, .unset, .unset] [])) rfl (D d10_75) _ (XS.iload X123.here hx rfl (D d10_78) rfl (XS.lshr X123.here hx rfl (D d10_80) rfl (XS.lstore X123.here hx rfl (D d10_81) rfl (l' := #[.val (.double (4611686018427387904 : UInt64)), .second, .val (.double (9223372036854775808 : UInt64)), .second, .val (.double (4607182418800017408 : UInt64)), .second, .val (.double (4607182418800017408 : UInt64)), .second, iv 1, .val (.long (4611686018427387904 : Int64)), .second, .val (.long (2251799813685247 : Int64)), .second, .unset, .unset]) rfl (XS.lload X123.here hx rfl (D d10_83) rfl (XS.lload X123.here hx rfl (D d10_85) rfl (XS.land X123.here hx rfl (D d10_87) rfl (XS.lconst X123.here hx rfl (D d10_88) (XS.lcmp X123.here hx rfl (D d10_89) rfl (XS.ifNo X123.here hx rfl (D d10_90) rfl ((if0 _ _).trans (teq (by decide : (0 : Int32) = (0 : Int32))).2) (XS.dloadN X123.here hx rfl (D d10_93) rfl k)))))))))))))))))))))))) ?_
  exact RGo.ret X123 hx hmm hlk hret rfl (Or.inr ⟨rfl, rfl, _, rfl⟩) (D d10_94)
theorem ef_rm_sceil2_0 (m : MethodId) : entryFrame m #[(.double (4611686018427387904 : UInt64))] 2 = mkF m 0 #[.val (.double (4611686018427387904 : UInt64)), .second] [] := by first | (simp [entryFrame, mkF, argsToLocals, Value.category]; done) | rfl
set_option maxRecDepth 65536 in
set_option maxHeartbeats 4000000 in
theorem rm_sceil2_0 {l : Launch} {Z : State} {a0 : Array Value} {A : Nat → Addr} {KC : Nat → Cell} {IC : Nat → Int32} {VC : Nat → Value} (hw : ∀ d ∈ tables_1, d.before a0 Z = true) (G : own_Ctx Z A KC IC VC) {p : Program} {e : Env} {s : State} {below : List Frame} (hx : p.tables.exec = Jvm.exec) (ha : l.admits e) (hZ : Z.Warmed39 s.vm) (h0 : Heap) (O0 : Ext Z.heap h0) :
    RawOk p e s below h0 own_m22 4 67 #[(.double (4611686018427387904 : UInt64))] (.double (4611686018427387904 : UInt64)) := by
  refine RawOk.mk (d := 3) ha hZ pn23 (own_w hw (i := 48) rfl) (by decide) ?_
  intro m meth c U hby hml hown hret hmm hlk X0 e0 r1 r2
  refine RGo.cast (ef_rm_sceil2_0 m) ?_
  have D := @hb _ _ hby
  obtain ⟨T125, X125, e125, st125⟩ := callR X0 hx hZ (y := own_m19) hown (own_w hw (i := 50) rfl) (own_w hw (i := 51) rfl) (own_w hw (i := 47) rfl) (own_w hw (i := 52) rfl) (by decide) e0 (rm_foc2_0 hw G hx ha hZ h0 O0) (g := (mkF m 6 #[.val (.double (4611686018427387904 : UInt64)), .second] [(.double (4607182418800017408 : UInt64)), (.double (4607182418800017408 : UInt64)), (.double (9223372036854775808 : UInt64)), (.double (4611686018427387904 : UInt64))])) rfl (argsL := [(.double (4611686018427387904 : UInt64)), (.double (9223372036854775808 : UInt64)), (.double (4607182418800017408 : UInt64)), (.double (4607182418800017408 : UInt64))]) (rest := []) (lenOf pd21 rfl) rfl rfl (D d9_6) r1 r2 (by decide) (Nat.le_of_ble_eq_true rfl)
  refine RGo.of (T' := T125) (f' := (mkF m 9 #[.val (.double (4611686018427387904 : UInt64)), .second] [(.double (4611686018427387904 : UInt64))])) (fun _ k => XS.dloadN X0.here hx rfl (D d9_0) rfl (X0.ldc2DoubleC hx hown (mvT hZ (own_w hw (i := 49) rfl)) (g := (mkF m 1 #[.val (.double (4611686018427387904 : UInt64)), .second] [(.double (4611686018427387904 : UInt64))])) rfl (D d9_1) _ (XS.dconst1 X0.here hx rfl (D d9_4) (v := (4607182418800017408 : UInt64)) (by decide +kernel) (XS.dconst1 X0.here hx rfl (D d9_5) (v := (4607182418800017408 : UInt64)) (by decide +kernel) (st125 _ k))))) ?_
  exact RGo.ret X125 hx hmm hlk hret rfl (Or.inr ⟨rfl, rfl, _, rfl⟩) (D d9_9)
theorem ef_rm_gexp2_25 (m : MethodId) : entryFrame m #[(.double (4612248968380809216 : UInt64))] 2 = mkF m 0 #[.val (.double (4612248968380809216 : UInt64)), .second] [] := by first | (simp [entryFrame, mkF, argsToLocals, Value.category]; done) | rfl
set_option maxRecDepth 65536 in
set_option maxHeartbeats 4000000 in
theorem rm_gexp2_25 {l : Launch} {Z : State} {a0 : Array Value} {A : Nat → Addr} {KC : Nat → Cell} {IC : Nat → Int32} {VC : Nat → Value} (hw : ∀ d ∈ tables_1, d.before a0 Z = true) (G : own_Ctx Z A KC IC VC) {p : Program} {e : Env} {s : State} {below : List Frame} (hx : p.tables.exec = Jvm.exec) (ha : l.admits e) (hZ : Z.Warmed39 s.vm) (h0 : Heap) (O0 : Ext Z.heap h0) :
    RawOk p e s below h0 own_m17 2 28 #[(.double (4612248968380809216 : UInt64))] (.int (1 : Int32)) := by
  refine RawOk.mk (d := 1) ha hZ pn_java_lang_Math_getExponent__D_I (own_w hw (i := 55) rfl) (by decide) ?_
  intro m meth c U hby hml hown hret hmm hlk X0 e0 r1 r2
  refine RGo.cast (ef_rm_gexp2_25 m) ?_
  have D := @hb _ _ hby
  obtain ⟨T126, X126, e126, st126⟩ := d2lR X0 hx hZ hown (own_w hw (i := 56) rfl) (own_w hw (i := 59) rfl) (own_w hw (i := 57) rfl) (own_w hw (i := 58) rfl) e0 (g := (mkF m 1 #[.val (.double (4612248968380809216 : UInt64)), .second] [(.double (4612248968380809216 : UInt64))])) rfl rfl (D d11_1) r1 r2 (by decide) (Nat.le_of_ble_eq_true rfl) (z := (4612248968380809216 : Int64)) (by decide +kernel)
  refine RGo.of (T' := T126) (f' := (mkF m 16 #[.val (.double (4612248968380809216 : UInt64)), .second] [(.int 1)])) (fun _ k => XS.dloadN X0.here hx rfl (D d11_0) rfl (st126 _ (X126.ldc2Long hx hown (mvT hZ (own_w hw (i := 60) rfl)) (g := (mkF m 4 #[.val (.double (4612248968380809216 : UInt64)), .second] [(.long (4612248968380809216 : Int64))])) rfl (D d11_4) _ (XS.land X126.here hx rfl (D d11_7) rfl (XS.bipush X126.here hx rfl (D d11_8) (XS.lshr X126.here hx rfl (D d11_10) rfl (X126.ldc2Long hx hown (mvT hZ (own_w hw (i := 61) rfl)) (g := (mkF m 11 #[.val (.double (4612248968380809216 : UInt64)), .second] [(.long (1024 : Int64))])) rfl (D d11_11) _ (XS.lsub X126.here hx rfl (D d11_14) rfl (XS.l2i X126.here hx rfl (D d11_15) rfl k))))))))) ?_
  exact RGo.ret X126 hx hmm hlk hret rfl (Or.inl ⟨rfl, rfl, _, rfl⟩) (D d11_16)
theorem own_fp26 : Jvm.Free.Fl.NoNaN64 (FP.dmul (4607182418800017408 : UInt64) (4612248968380809216 : UInt64)) ∧ FP.dmul (4607182418800017408 : UInt64) (4612248968380809216 : UInt64) = (4612248968380809216 : UInt64) := ⟨by unfold Jvm.Free.Fl.NoNaN64; decide +kernel, by decide +kernel⟩
theorem own_fp27 : Jvm.Free.Fl.NoNaN64 (FP.dadd (4611686018427387904 : UInt64) (4607182418800017408 : UInt64)) ∧ FP.dadd (4611686018427387904 : UInt64) (4607182418800017408 : UInt64) = (4613937818241073152 : UInt64) := ⟨by unfold Jvm.Free.Fl.NoNaN64; decide +kernel, by decide +kernel⟩
theorem ef_rm_foc2_25 (m : MethodId) : entryFrame m #[(.double (4612248968380809216 : UInt64)), (.double (9223372036854775808 : UInt64)), (.double (4607182418800017408 : UInt64)), (.double (4607182418800017408 : UInt64))] 15 = mkF m 0 #[.val (.double (4612248968380809216 : UInt64)), .second, .val (.double (9223372036854775808 : UInt64)), .second, .val (.double (4607182418800017408 : UInt64)), .second, .val (.double (4607182418800017408 : UInt64)), .second, .unset, .unset, .unset, .unset, .unset, .unset, .unset] [] := by first | (simp [entryFrame, mkF, argsToLocals, Value.category]; done) | rfl
set_option maxRecDepth 65536 in
set_option maxHeartbeats 4000000 in
theorem rm_foc2_25 {l : Launch} {Z : State} {a0 : Array Value} {A : Nat → Addr} {KC : Nat → Cell} {IC : Nat → Int32} {VC : Nat → Value} (hw : ∀ d ∈ tables_1, d.before a0 Z = true) (G : own_Ctx Z A KC IC VC) {p : Program} {e : Env} {s : State} {below : List Frame} (hx : p.tables.exec = Jvm.exec) (ha : l.admits e) (hZ : Z.Warmed39 s.vm) (h0 : Heap) (O0 : Ext Z.heap h0) :
    RawOk p e s below h0 own_m19 3 54 #[(.double (4612248968380809216 : UInt64)), (.double (9223372036854775808 : UInt64)), (.double (4607182418800017408 : UInt64)), (.double (4607182418800017408 : UInt64))] (.double (4613937818241073152 : UInt64)) := by
  refine RawOk.mk (d := 2) ha hZ pn20 (own_w hw (i := 52) rfl) (by decide) ?_
  intro m meth c U hby hml hown hret hmm hlk X0 e0 r1 r2
  refine RGo.cast (ef_rm_foc2_25 m) ?_
  have S__assertionsDisabled : Sta Z Z.heap "java/lang/StrictMath" "$assertionsDisabled" "Z" (.int (1 : Int32)) := G
  have D := @hb _ _ hby
  obtain ⟨T127, X127, e127, st127⟩ := callR X0 hx hZ (y := own_m17) hown (own_w hw (i := 53) rfl) (own_w hw (i := 54) rfl) (own_w hw (i := 20) rfl) (own_w hw (i := 55) rfl) (by decide) e0 (rm_gexp2_25 hw G hx ha hZ h0 O0) (g := (mkF m 1 #[.val (.double (4612248968380809216 : UInt64)), .second, .val (.double (9223372036854775808 : UInt64)), .second, .val (.double (4607182418800017408 : UInt64)), .second, .val (.double (4607182418800017408 : UInt64)), .second, .unset, .unset, .unset, .unset, .unset, .unset, .unset] [(.double (4612248968380809216 : UInt64))])) rfl (argsL := [(.double (4612248968380809216 : UInt64))]) (rest := []) (lenOf pd18 rfl) rfl rfl (D d10_1) r1 r2 (by decide) (Nat.le_of_ble_eq_true rfl)
  obtain ⟨T130, X130, e130, st130⟩ := getSR X127 hx hZ hown (own_w hw (i := 62) rfl) e127 (Sta.ext O0 S__assertionsDisabled) (g := (mkF m 43 #[.val (.double (4612248968380809216 : UInt64)), .second, .val (.double (9223372036854775808 : UInt64)), .second, .val (.double (4607182418800017408 : UInt64)), .second, .val (.double (4607182418800017408 : UInt64)), .second, iv 1, .unset, .unset, .unset, .unset, .unset, .unset] [])) rfl (D d10_43)
  obtain ⟨T132, X132, e132, st132⟩ := d2lR X130 hx hZ hown (own_w hw (i := 63) rfl) (own_w hw (i := 59) rfl) (own_w hw (i := 57) rfl) (own_w hw (i := 58) rfl) e130 (g := (mkF m 70 #[.val (.double (4612248968380809216 : UInt64)), .second, .val (.double (9223372036854775808 : UInt64)), .second, .val (.double (4607182418800017408 : UInt64)), .second, .val (.double (4607182418800017408 : UInt64)), .second, iv 1, .unset, .unset, .unset, .unset, .unset, .unset] [(.double (4612248968380809216 : UInt64))])) rfl rfl (D d10_70) r1 r2 (by decide) (Nat.le_of_ble_eq_true rfl) (z := (4612248968380809216 : Int64)) (by decide +kernel)
  refine RGo.of (T' := T132) (f' := (mkF m 97 #[.val (.double (4612248968380809216 : UInt64)), .second, .val (.double (9223372036854775808 : UInt64)), .second, .val (.double (4607182418800017408 : UInt64)), .second, .val (.double (4607182418800017408 : UInt64)), .second, iv 1, .val (.long (4612248968380809216 : Int64)), .second, .val (.long (2251799813685247 : Int64)), .second, .unset, .unset] [(.long (4612248968380809216 : Int64))])) (fun _ k => XS.dloadN X0.here hx rfl (D d10_0) rfl (st127 _ (XS.istore X127.here hx rfl (D d10_4) rfl (l' := #[.val (.double (4612248968380809216 : UInt64)), .second, .val (.double (9223372036854775808 : UInt64)), .second, .val (.double (4607182418800017408 : UInt64)), .second, .val (.double (4607182418800017408 : UInt64)), .second, iv 1, .unset, .unset, .unset, .unset, .unset, .unset]) rfl (XS.iload X127.here hx rfl (D d10_6) rfl (XS.ifYes X127.here hx rfl (pc0 := 8) (pc' := 34) rfl (D d10_8) rfl ((if0 _ _).trans (flt (by decide : ¬ ((1 : Int32) < (0 : Int32)))).2.1) (by decide) (by decide) (XS.iload X127.here hx rfl (D d10_34) rfl (XS.bipush X127.here hx rfl (D d10_36) (XS.icmpYes X127.here hx rfl (pc0 := 38) (pc' := 43) rfl (D d10_38) rfl (tlt (by decide : (1 : Int32) < (52 : Int32))).1 (by decide) (by decide) (st130 _ (XS.ifYes X130.here hx rfl (pc0 := 46) (pc' := 69) rfl (D d10_46) rfl ((if0 _ _).trans (feq (by decide : ¬ ((1 : Int32) = (0 : Int32)))).2) (by decide) (by decide) (XS.dloadN X130.here hx rfl (D d10_69) rfl (st132 _ (XS.lstore X132.here hx rfl (D d10_73) rfl (l' := #[.val (.double (4612248968380809216 : UInt64)), .second, .val (.double (9223372036854775808 : UInt64)), .second, .val (.double (4607182418800017408 : UInt64)), .second, .val (.double (4607182418800017408 : UInt64)), .second, iv 1, .val (.long (4612248968380809216 : Int64)), .second, .unset, .unset, .unset, .unset]) rfl (X132.ldc2Long hx hown (mvT hZ (own_w hw (i := 64) rfl)) (g := (mkF m 75 #[.val (.double (4612248968380809216 : UInt64)), .second, .val (.double (9223372036854775808 : UInt64)), .second, .val (.double (4607182418800017408 : UInt64)), .second, .val (.double (4607182418800017408 : UInt64)), .second, iv 1, .val (.long (4612248968380809216 : Int64)), .second, .unset, .unset, .unset, .unset] [])) rfl (D d10_75) _ (XS.iload X132.here hx rfl (D d10_78) rfl (XS.lshr X132.here hx rfl (D d10_80) rfl (XS.lstore X132.here hx rfl (D d10_81) rfl (l' := #[.val (.double (4612248968380809216 : UInt64)), .second, .val (.double (9223372036854775808 : UInt64)), .second, .val (.double (4607182418800017408 : UInt64)), .second, .val (.double (4607182418800017408 : UInt64)), .second, iv 1, .val (.long (4612248968380809216 : Int64)), .second, .val (.long (2251799813685247 : Int64)), .second, .unset, .unset]) rfl (XS.lload X132.here hx rfl (D d10_83) rfl (XS.lload X132.here hx rfl (D d10_85) rfl (XS.land X132.here hx rfl (D d10_87) rfl (XS.lconst X132.here hx rfl (D d10_88) (XS.lcmp X132.here hx rfl (D d10_89) rfl (XS.ifYes X132.here hx rfl (pc0 := 90) (pc' := 95) rfl (D d10_90) rfl ((if0 _ _).trans (feq (by decide : ¬ ((1 : Int32) = (0 : Int32)))).2) (by decide) (by decide) (XS.lload X132.here hx rfl (D d10_95) rfl k)))))))))))))))))))))))) ?_
  obtain ⟨T134, X134, e134, st134⟩ := l2dR X132 hx hZ hown (own_w hw (i := 73) rfl) (own_w hw (i := 75) rfl) (own_w hw (i := 74) rfl) (own_w hw (i := 58) rfl) e132 (g := (mkF m 104 #[.val (.double (4612248968380809216 : UInt64)), .second, .val (.double (9223372036854775808 : UInt64)), .second, .val (.double (4607182418800017408 : UInt64)), .second, .val (.double (4607182418800017408 : UInt64)), .second, iv 1, .val (.long (4612248968380809216 : Int64)), .second, .val (.long (2251799813685247 : Int64)), .second, .unset, .unset] [(.long (4611686018427387904 : Int64))])) rfl (b := (4611686018427387904 : Int64)) (by decide +kernel) rfl (D d10_104) r1 r2 (by decide) (Nat.le_of_ble_eq_true rfl) (z := (4611686018427387904 : UInt64)) (by decide +kernel)
  refine RGo.of (T' := T134) (f' := (mkF m 127 #[.val (.double (4612248968380809216 : UInt64)), .second, .val (.double (9223372036854775808 : UInt64)), .second, .val (.double (4607182418800017408 : UInt64)), .second, .val (.double (4607182418800017408 : UInt64)), .second, iv 1, .val (.long (4612248968380809216 : Int64)), .second, .val (.long (2251799813685247 : Int64)), .second, .val (.double (4613937818241073152 : UInt64)), .second] [(.double (4613937818241073152 : UInt64))])) (fun _ k => XS.lload X132.here hx rfl (D d10_97) rfl (X132.ldc2Long hx hown (mvT hZ (own_w hw (i := 72) rfl)) (g := (mkF m 99 #[.val (.double (4612248968380809216 : UInt64)), .second, .val (.double (9223372036854775808 : UInt64)), .second, .val (.double (4607182418800017408 : UInt64)), .second, .val (.double (4607182418800017408 : UInt64)), .second, iv 1, .val (.long (4612248968380809216 : Int64)), .second, .val (.long (2251799813685247 : Int64)), .second, .unset, .unset] [(.long (2251799813685247 : Int64)), (.long (4612248968380809216 : Int64))])) rfl (D d10_99) _ (XS.lxor X132.here hx rfl (D d10_102) rfl (XS.land X132.here hx rfl (D d10_103) rfl (st134 _ (XS.dstore X134.here hx rfl (D d10_107) rfl (l' := #[.val (.double (4612248968380809216 : UInt64)), .second, .val (.double (9223372036854775808 : UInt64)), .second, .val (.double (4607182418800017408 : UInt64)), .second, .val (.double (4607182418800017408 : UInt64)), .second, iv 1, .val (.long (4612248968380809216 : Int64)), .second, .val (.long (2251799813685247 : Int64)), .second, .val (.double (4611686018427387904 : UInt64)), .second]) rfl (XS.dload X134.here hx rfl (D d10_109) rfl (XS.dloadN X134.here hx rfl (D d10_111) rfl (XS.dmulS X134.here hx rfl (D d10_112) rfl (v := (4612248968380809216 : UInt64)) own_fp26.1 own_fp26.2 (XS.dconst0 X134.here hx rfl (D d10_113) (v := (0 : UInt64)) (by decide +kernel) (XS.dcmpS X134.here hx rfl (D d10_114) rfl (v := (1 : Int32)) (by decide +kernel) (XS.ifNo X134.here hx rfl (D d10_115) rfl ((if0 _ _).trans (tlt (by decide : (0 : Int32) < (1 : Int32))).2.2.2) (XS.dload X134.here hx rfl (D d10_118) rfl (XS.dload X134.here hx rfl (D d10_120) rfl (XS.daddS X134.here hx rfl (D d10_122) rfl (v := (4613937818241073152 : UInt64)) own_fp27.1 own_fp27.2 (XS.dstore X134.here hx rfl (D d10_123) rfl (l' := #[.val (.double (4612248968380809216 : UInt64)), .second, .val (.double (9223372036854775808 : UInt64)), .second, .val (.double (4607182418800017408 : UInt64)), .second, .val (.double (4607182418800017408 : UInt64)), .second, iv 1, .val (.long (4612248968380809216 : Int64)), .second, .val (.long (2251799813685247 : Int64)), .second, .val (.double (4613937818241073152 : UInt64)), .second]) rfl (XS.dload X134.here hx rfl (D d10_125) rfl k))))))))))))))))) ?_
  exact RGo.ret X134 hx hmm hlk hret rfl (Or.inr ⟨rfl, rfl, _, rfl⟩) (D d10_127)
theorem ef_rm_sceil2_25 (m : MethodId) : entryFrame m #[(.double (4612248968380809216 : UInt64))] 2 = mkF m 0 #[.val (.double (4612248968380809216 : UInt64)), .second] [] := by first | (simp [entryFrame, mkF, argsToLocals, Value.category]; done) | rfl
set_option maxRecDepth 65536 in
set_option maxHeartbeats 4000000 in
theorem rm_sceil2_25 {l : Launch} {Z : State} {a0 : Array Value} {A : Nat → Addr} {KC : Nat → Cell} {IC : Nat → Int32} {VC : Nat → Value} (hw : ∀ d ∈ tables_1, d.before a0 Z = true) (G : own_Ctx Z A KC IC VC) {p : Program} {e : Env} {s : State} {below : List Frame} (hx : p.tables.exec = Jvm.exec) (ha : l.admits e) (hZ : Z.Warmed39 s.vm) (h0 : Heap) (O0 : Ext Z.heap h0) :
    RawOk p e s below h0 own_m22 4 67 #[(.double (4612248968380809216 : UInt64))] (.double (4613937818241073152 : UInt64)) := by
  refine RawOk.mk (d := 3) ha hZ pn23 (own_w hw (i := 48) rfl) (by decide) ?_
  intro m meth c U hby hml hown hret hmm hlk X0 e0 r1 r2
  refine RGo.cast (ef_rm_sceil2_25 m) ?_
  have D := @hb _ _ hby
  obtain ⟨T136, X136, e136, st136⟩ := callR X0 hx hZ (y := own_m19) hown (own_w hw (i := 50) rfl) (own_w hw (i := 51) rfl) (own_w hw (i := 47) rfl) (own_w hw (i := 52) rfl) (by decide) e0 (rm_foc2_25 hw G hx ha hZ h0 O0) (g := (mkF m 6 #[.val (.double (4612248968380809216 : UInt64)), .second] [(.double (4607182418800017408 : UInt64)), (.double (4607182418800017408 : UInt64)), (.double (9223372036854775808 : UInt64)), (.double (4612248968380809216 : UInt64))])) rfl (argsL := [(.double (4612248968380809216 : UInt64)), (.double (9223372036854775808 : UInt64)), (.double (4607182418800017408 : UInt64)), (.double (4607182418800017408 : UInt64))]) (rest := []) (lenOf pd21 rfl) rfl rfl (D d9_6) r1 r2 (by decide) (Nat.le_of_ble_eq_true rfl)
  refine RGo.of (T' := T136) (f' := (mkF m 9 #[.val (.double (4612248968380809216 : UInt64)), .second] [(.double (4613937818241073152 : UInt64))])) (fun _ k => XS.dloadN X0.here hx rfl (D d9_0) rfl (X0.ldc2DoubleC hx hown (mvT hZ (own_w hw (i := 49) rfl)) (g := (mkF m 1 #[.val (.double (4612248968380809216 : UInt64)), .second] [(.double (4612248968380809216 : UInt64))])) rfl (D d9_1) _ (XS.dconst1 X0.here hx rfl (D d9_4) (v := (4607182418800017408 : UInt64)) (by decide +kernel) (XS.dconst1 X0.here hx rfl (D d9_5) (v := (4607182418800017408 : UInt64)) (by decide +kernel) (st136 _ k))))) ?_
  exact RGo.ret X136 hx hmm hlk hret rfl (Or.inr ⟨rfl, rfl, _, rfl⟩) (D d9_9)
theorem ef_rm_gexp3_0 (m : MethodId) : entryFrame m #[(.double (4613937818241073152 : UInt64))] 2 = mkF m 0 #[.val (.double (4613937818241073152 : UInt64)), .second] [] := by first | (simp [entryFrame, mkF, argsToLocals, Value.category]; done) | rfl
set_option maxRecDepth 65536 in
set_option maxHeartbeats 4000000 in
theorem rm_gexp3_0 {l : Launch} {Z : State} {a0 : Array Value} {A : Nat → Addr} {KC : Nat → Cell} {IC : Nat → Int32} {VC : Nat → Value} (hw : ∀ d ∈ tables_1, d.before a0 Z = true) (G : own_Ctx Z A KC IC VC) {p : Program} {e : Env} {s : State} {below : List Frame} (hx : p.tables.exec = Jvm.exec) (ha : l.admits e) (hZ : Z.Warmed39 s.vm) (h0 : Heap) (O0 : Ext Z.heap h0) :
    RawOk p e s below h0 own_m17 2 28 #[(.double (4613937818241073152 : UInt64))] (.int (1 : Int32)) := by
  refine RawOk.mk (d := 1) ha hZ pn_java_lang_Math_getExponent__D_I (own_w hw (i := 55) rfl) (by decide) ?_
  intro m meth c U hby hml hown hret hmm hlk X0 e0 r1 r2
  refine RGo.cast (ef_rm_gexp3_0 m) ?_
  have D := @hb _ _ hby
  obtain ⟨T137, X137, e137, st137⟩ := d2lR X0 hx hZ hown (own_w hw (i := 56) rfl) (own_w hw (i := 59) rfl) (own_w hw (i := 57) rfl) (own_w hw (i := 58) rfl) e0 (g := (mkF m 1 #[.val (.double (4613937818241073152 : UInt64)), .second] [(.double (4613937818241073152 : UInt64))])) rfl rfl (D d11_1) r1 r2 (by decide) (Nat.le_of_ble_eq_true rfl) (z := (4613937818241073152 : Int64)) (by decide +kernel)
  refine RGo.of (T' := T137) (f' := (mkF m 16 #[.val (.double (4613937818241073152 : UInt64)), .second] [(.int 1)])) (fun _ k => XS.dloadN X0.here hx rfl (D d11_0) rfl (st137 _ (X137.ldc2Long hx hown (mvT hZ (own_w hw (i := 60) rfl)) (g := (mkF m 4 #[.val (.double (4613937818241073152 : UInt64)), .second] [(.long (4613937818241073152 : Int64))])) rfl (D d11_4) _ (XS.land X137.here hx rfl (D d11_7) rfl (XS.bipush X137.here hx rfl (D d11_8) (XS.lshr X137.here hx rfl (D d11_10) rfl (X137.ldc2Long hx hown (mvT hZ (own_w hw (i := 61) rfl)) (g := (mkF m 11 #[.val (.double (4613937818241073152 : UInt64)), .second] [(.long (1024 : Int64))])) rfl (D d11_11) _ (XS.lsub X137.here hx rfl (D d11_14) rfl (XS.l2i X137.here hx rfl (D d11_15) rfl k))))))))) ?_
  exact RGo.ret X137 hx hmm hlk hret rfl (Or.inl ⟨rfl, rfl, _, rfl⟩) (D d11_16)
theorem ef_rm_foc3_0 (m : MethodId) : entryFrame m #[(.double (4613937818241073152 : UInt64)), (.double (9223372036854775808 : UInt64)), (.double (4607182418800017408 : UInt64)), (.double (4607182418800017408 : UInt64))] 15 = mkF m 0 #[.val (.double (4613937818241073152 : UInt64)), .second, .val (.double (9223372036854775808 : UInt64)), .second, .val (.double (4607182418800017408 : UInt64)), .second, .val (.double (4607182418800017408 : UInt64)), .second, .unset, .unset, .unset, .unset, .unset, .unset, .unset] [] := by first | (simp [entryFrame, mkF, argsToLocals, Value.category]; done) | rfl
set_option maxRecDepth 65536 in
set_option maxHeartbeats 4000000 in
theorem rm_foc3_0 {l : Launch} {Z : State} {a0 : Array Value} {A : Nat → Addr} {KC : Nat → Cell} {IC : Nat → Int32} {VC : Nat → Value} (hw : ∀ d ∈ tables_1, d.before a0 Z = true) (G : own_Ctx Z A KC IC VC) {p : Program} {e : Env} {s : State} {below : List Frame} (hx : p.tables.exec = Jvm.exec) (ha : l.admits e) (hZ : Z.Warmed39 s.vm) (h0 : Heap) (O0 : Ext Z.heap h0) :
    RawOk p e s below h0 own_m19 3 54 #[(.double (4613937818241073152 : UInt64)), (.double (9223372036854775808 : UInt64)), (.double (4607182418800017408 : UInt64)), (.double (4607182418800017408 : UInt64))] (.double (4613937818241073152 : UInt64)) := by
  refine RawOk.mk (d := 2) ha hZ pn20 (own_w hw (i := 52) rfl) (by decide) ?_
  intro m meth c U hby hml hown hret hmm hlk X0 e0 r1 r2
  refine RGo.cast (ef_rm_foc3_0 m) ?_
  have S__assertionsDisabled : Sta Z Z.heap "java/lang/StrictMath" "$assertionsDisabled" "Z" (.int (1 : Int32)) := G
  have D := @hb _ _ hby
  obtain ⟨T138, X138, e138, st138⟩ := callR X0 hx hZ (y := own_m17) hown (own_w hw (i := 53) rfl) (own_w hw (i := 54) rfl) (own_w hw (i := 20) rfl) (own_w hw (i := 55) rfl) (by decide) e0 (rm_gexp3_0 hw G hx ha hZ h0 O0) (g := (mkF m 1 #[.val (.double (4613937818241073152 : UInt64)), .second, .val (.double (9223372036854775808 : UInt64)), .second, .val (.double (4607182418800017408 : UInt64)), .second, .val (.double (4607182418800017408 : UInt64)), .second, .unset, .unset, .unset, .unset, .unset, .unset, .unset] [(.double (4613937818241073152 : UInt64))])) rfl (argsL := [(.double (4613937818241073152 : UInt64))]) (rest := []) (lenOf pd18 rfl) rfl rfl (D d10_1) r1 r2 (by decide) (Nat.le_of_ble_eq_true rfl)
  obtain ⟨T141, X141, e141, st141⟩ := getSR X138 hx hZ hown (own_w hw (i := 62) rfl) e138 (Sta.ext O0 S__assertionsDisabled) (g := (mkF m 43 #[.val (.double (4613937818241073152 : UInt64)), .second, .val (.double (9223372036854775808 : UInt64)), .second, .val (.double (4607182418800017408 : UInt64)), .second, .val (.double (4607182418800017408 : UInt64)), .second, iv 1, .unset, .unset, .unset, .unset, .unset, .unset] [])) rfl (D d10_43)
  obtain ⟨T143, X143, e143, st143⟩ := d2lR X141 hx hZ hown (own_w hw (i := 63) rfl) (own_w hw (i := 59) rfl) (own_w hw (i := 57) rfl) (own_w hw (i := 58) rfl) e141 (g := (mkF m 70 #[.val (.double (4613937818241073152 : UInt64)), .second, .val (.double (9223372036854775808 : UInt64)), .second, .val (.double (4607182418800017408 : UInt64)), .second, .val (.double (4607182418800017408 : UInt64)), .second, iv 1, .unset, .unset, .unset, .unset, .unset, .unset] [(.double (4613937818241073152 : UInt64))])) rfl rfl (D d10_70) r1 r2 (by decide) (Nat.le_of_ble_eq_true rfl) (z := (4613937818241073152 : Int64)) (by decide +kernel)
  refine RGo.of (T' := T143) (f' := (mkF m 94 #[.val (.double (4613937818241073152 : UInt64)), .second, .val (.double (9223372036854775808 : UInt64)), .second, .val (.double (4607182418800017408 : UInt64)), .second, .val (.double (4607182418800017408 : UInt64)), .second, iv 1, .val (.long (4613937818241073152 : Int64)), .second, .val (.long (2251799813685247 : Int64)), .second, .unset, .unset] [(.double (4613937818241073152 : UInt64))])) (fun _ k => XS.dloadN X0.here hx rfl (D d10_0) rfl (st138 _ (XS.istore X138.here hx rfl (D d10_4) rfl (l' := #[.val (.double (4613937818241073152 : UInt64)), .second, .val (.double (9223372036854775808 : UInt64)), .second, .val (.double (4607182418800017408 : UInt64)), .second, .val (.double (4607182418800017408 : UInt64)), .second, iv 1, .unset, .unset, .unset, .unset, .unset, .unset]) rfl (XS.iload X138.here hx rfl (D d10_6) rfl (XS.ifYes X138.here hx rfl (pc0 := 8) (pc' := 34) rfl (D d10_8) rfl ((if0 _ _).trans (flt (by decide : ¬ ((1 : Int32) < (0 : Int32)))).2.1) (by decide) (by decide) (XS.iload X138.here hx rfl (D d10_34) rfl (XS.bipush X138.here hx rfl (D d10_36) (XS.icmpYes X138.here hx rfl (pc0 := 38) (pc' := 43) rfl (D d10_38) rfl (tlt (by decide : (1 : Int32) < (52 : Int32))).1 (by decide) (by decide) (st141 _ (XS.ifYes X141.here hx rfl (pc0 := 46) (pc' := 69) rfl (D d10_46) rfl ((if0 _ _).trans (feq (by decide : ¬ ((1 : Int32) = (0 : Int32)))).2) (by decide) (by decide) (XS.dloadN X141.here hx rfl (D d10_69) rfl (st143 _ (XS.lstore X143.here hx rfl (D d10_73) rfl (l' := #[.val (.double (4613937818241073152 : UInt64)), .second, .val (.double (9223372036854775808 : UInt64)), .second, .val (.double (4607182418800017408 : UInt64)), .second, .val (.double (4607182418800017408 : UInt64)), .second, iv 1, .val (.long (4613937818241073152 : Int64)), .second, .unset, .unset, .unset, .unset]) rfl (X143.ldc2Long hx hown (mvT hZ (own_w hw (i := 64) rfl)) (g := (mkF m 75 #[.val (.double (4613937818241073152 : UInt64)), .second, .val (.double (9223372036854775808 : UInt64)), .second, .val (.double (4607182418800017408 : UInt64)), .second, .val (.double (4607182418800017408 : UInt64)), .second, iv 1, .val (.long (4613937818241073152 : Int64)), .second, .unset, .unset, .unset, .unset] [])) rfl (D d10_75) _ (XS.iload X143.here hx rfl (D d10_78) rfl (XS.lshr X143.here hx rfl (D d10_80) rfl (XS.lstore X143.here hx rfl (D d10_81) rfl (l' := #[.val (.double (4613937818241073152 : UInt64)), .second, .val (.double (9223372036854775808 : UInt64)), .second, .val (.double (4607182418800017408 : UInt64)), .second, .val (.double (4607182418800017408 : UInt64)), .second, iv 1, .val (.long (4613937818241073152 : Int64)), .second, .val (.long (2251799813685247 : Int64)), .second, .unset, .unset]) rfl (XS.lload X143.here hx rfl (D d10_83) rfl (XS.lload X143.here hx rfl (D d10_85) rfl (XS.land X143.here hx rfl (D d10_87) rfl (XS.lconst X143.here hx rfl (D d10_88) (XS.lcmp X143.here hx rfl (D d10_89) rfl (XS.ifNo X143.here hx rfl (D d10_90) rfl ((if0 _ _).trans (teq (by decide : (0 : Int32) = (0 : Int32))).2) (XS.dloadN X143.here hx rfl (D d10_93) rfl k)))))))))))))))))))))))) ?_
  exact RGo.ret X143 hx hmm hlk hret rfl (Or.inr ⟨rfl, rfl, _, rfl⟩) (D d10_94)
theorem ef_rm_sceil3_0 (m : MethodId) : entryFrame m #[(.double (4613937818241073152 : UInt64))] 2 = mkF m 0 #[.val (.double (4613937818241073152 : UInt64)), .second] [] := by first | (simp [entryFrame, mkF, argsToLocals, Value.category]; done) | rfl
set_option maxRecDepth 65536 in
set_option maxHeartbeats 4000000 in
theorem rm_sceil3_0 {l : Launch} {Z : State} {a0 : Array Value} {A : Nat → Addr} {KC : Nat → Cell} {IC : Nat → Int32} {VC : Nat → Value} (hw : ∀ d ∈ tables_1, d.before a0 Z = true) (G : own_Ctx Z A KC IC VC) {p : Program} {e : Env} {s : State} {below : List Frame} (hx : p.tables.exec = Jvm.exec) (ha : l.admits e) (hZ : Z.Warmed39 s.vm) (h0 : Heap) (O0 : Ext Z.heap h0) :
    RawOk p e s below h0 own_m22 4 67 #[(.double (4613937818241073152 : UInt64))] (.double (4613937818241073152 : UInt64)) := by
  refine RawOk.mk (d := 3) ha hZ pn23 (own_w hw (i := 48) rfl) (by decide) ?_
  intro m meth c U hby hml hown hret hmm hlk X0 e0 r1 r2
  refine RGo.cast (ef_rm_sceil3_0 m) ?_
  have D := @hb _ _ hby
  obtain ⟨T145, X145, e145, st145⟩ := callR X0 hx hZ (y := own_m19) hown (own_w hw (i := 50) rfl) (own_w hw (i := 51) rfl) (own_w hw (i := 47) rfl) (own_w hw (i := 52) rfl) (by decide) e0 (rm_foc3_0 hw G hx ha hZ h0 O0) (g := (mkF m 6 #[.val (.double (4613937818241073152 : UInt64)), .second] [(.double (4607182418800017408 : UInt64)), (.double (4607182418800017408 : UInt64)), (.double (9223372036854775808 : UInt64)), (.double (4613937818241073152 : UInt64))])) rfl (argsL := [(.double (4613937818241073152 : UInt64)), (.double (9223372036854775808 : UInt64)), (.double (4607182418800017408 : UInt64)), (.double (4607182418800017408 : UInt64))]) (rest := []) (lenOf pd21 rfl) rfl rfl (D d9_6) r1 r2 (by decide) (Nat.le_of_ble_eq_true rfl)
  refine RGo.of (T' := T145) (f' := (mkF m 9 #[.val (.double (4613937818241073152 : UInt64)), .second] [(.double (4613937818241073152 : UInt64))])) (fun _ k => XS.dloadN X0.here hx rfl (D d9_0) rfl (X0.ldc2DoubleC hx hown (mvT hZ (own_w hw (i := 49) rfl)) (g := (mkF m 1 #[.val (.double (4613937818241073152 : UInt64)), .second] [(.double (4613937818241073152 : UInt64))])) rfl (D d9_1) _ (XS.dconst1 X0.here hx rfl (D d9_4) (v := (4607182418800017408 : UInt64)) (by decide +kernel) (XS.dconst1 X0.here hx rfl (D d9_5) (v := (4607182418800017408 : UInt64)) (by decide +kernel) (st145 _ k))))) ?_
  exact RGo.ret X145 hx hmm hlk hret rfl (Or.inr ⟨rfl, rfl, _, rfl⟩) (D d9_9)
def own_mid (i : Int32) : UInt64 := if i < 1024 then FP.i2d i else FP.dadd (FP.l2d ((((i % (512 : Int32)) + (512 : Int32)).toInt64) <<< (((i / (512 : Int32)) - (1 : Int32)) &&& 0x3f).toInt64)) (FP.ddiv (FP.l2d (((1 : Int64) <<< (((i / (512 : Int32)) - (1 : Int32)) &&& 0x3f).toInt64) - (1 : Int64))) (4611686018427387904 : UInt64))
theorem own_fin2 : Jvm.Free.Fl.Fin64 (4611686018427387904 : UInt64) := by unfold Jvm.Free.Fl.Fin64; decide
theorem own_nn2 (x : Int64) : Jvm.Free.Fl.NoNaN64 (FP.ddiv (FP.l2d x) (4611686018427387904 : UInt64)) := Jvm.Free.Fl.ddiv_out (Jvm.Free.Fl.l2d_fin x).noNaN own_fin2 (by unfold Jvm.Free.Fl.Nz64; decide)
theorem own_nn3 (x y : Int64) : Jvm.Free.Fl.NoNaN64 (FP.dadd (FP.l2d x) (FP.ddiv (FP.l2d y) (4611686018427387904 : UInt64))) := Jvm.Free.Fl.dadd_out' (Jvm.Free.Fl.l2d_fin x) (own_nn2 y)
theorem own_nn4 (x : Int32) : Jvm.Free.Fl.NoNaN64 (FP.ddiv (FP.i2d x) (4616189618054758400 : UInt64)) := Jvm.Free.Fl.ddiv_out (Jvm.Free.Fl.i2d_fin x).noNaN (by unfold Jvm.Free.Fl.Fin64; decide) (by unfold Jvm.Free.Fl.Nz64; decide)
theorem d12_0 : decode prog_10_method_6_code 0 = .ok (.iload_n 0, 1) := by decide +kernel
theorem d12_1 : decode prog_10_method_6_code 1 = .ok (.sipush 1024, 3) := by decide +kernel
theorem d12_4 : decode prog_10_method_6_code 4 = .ok (.if_icmp .ge 9, 3) := by decide +kernel
theorem d12_7 : decode prog_10_method_6_code 7 = .ok (.iload_n 0, 1) := by decide +kernel
theorem d12_8 : decode prog_10_method_6_code 8 = .ok (.i2d, 1) := by decide +kernel
theorem d12_9 : decode prog_10_method_6_code 9 = .ok (.dstore_n 1, 1) := by decide +kernel
theorem d12_10 : decode prog_10_method_6_code 10 = .ok (.goto 44, 3) := by decide +kernel
theorem d12_54 : decode prog_10_method_6_code 54 = .ok (.dload_n 1, 1) := by decide +kernel
theorem d12_55 : decode prog_10_method_6_code 55 = .ok (.dreturn, 1) := by decide +kernel
theorem d12_13 : decode prog_10_method_6_code 13 = .ok (.iload_n 0, 1) := by decide +kernel
theorem d12_14 : decode prog_10_method_6_code 14 = .ok (.sipush 512, 3) := by decide +kernel
theorem d12_17 : decode prog_10_method_6_code 17 = .ok (.idiv, 1) := by decide +kernel
theorem d12_18 : decode prog_10_method_6_code 18 = .ok (.iconst 1, 1) := by decide +kernel
theorem d12_19 : decode prog_10_method_6_code 19 = .ok (.isub, 1) := by decide +kernel
theorem d12_20 : decode prog_10_method_6_code 20 = .ok (.istore_n 3, 1) := by decide +kernel
theorem d12_21 : decode prog_10_method_6_code 21 = .ok (.iload_n 0, 1) := by decide +kernel
theorem d12_22 : decode prog_10_method_6_code 22 = .ok (.sipush 512, 3) := by decide +kernel
theorem d12_25 : decode prog_10_method_6_code 25 = .ok (.irem, 1) := by decide +kernel
theorem d12_26 : decode prog_10_method_6_code 26 = .ok (.sipush 512, 3) := by decide +kernel
theorem d12_29 : decode prog_10_method_6_code 29 = .ok (.iadd, 1) := by decide +kernel
theorem d12_30 : decode prog_10_method_6_code 30 = .ok (.i2l, 1) := by decide +kernel
theorem d12_31 : decode prog_10_method_6_code 31 = .ok (.iload_n 3, 1) := by decide +kernel
theorem d12_32 : decode prog_10_method_6_code 32 = .ok (.lshl, 1) := by decide +kernel
theorem d12_33 : decode prog_10_method_6_code 33 = .ok (.lstore 4, 2) := by decide +kernel
theorem d12_35 : decode prog_10_method_6_code 35 = .ok (.lconst 1, 1) := by decide +kernel
theorem d12_36 : decode prog_10_method_6_code 36 = .ok (.iload_n 3, 1) := by decide +kernel
theorem d12_37 : decode prog_10_method_6_code 37 = .ok (.lshl, 1) := by decide +kernel
theorem d12_38 : decode prog_10_method_6_code 38 = .ok (.lstore 6, 2) := by decide +kernel
theorem d12_40 : decode prog_10_method_6_code 40 = .ok (.lload 4, 2) := by decide +kernel
theorem d12_42 : decode prog_10_method_6_code 42 = .ok (.l2d, 1) := by decide +kernel
theorem d12_43 : decode prog_10_method_6_code 43 = .ok (.lload 6, 2) := by decide +kernel
theorem d12_45 : decode prog_10_method_6_code 45 = .ok (.lconst 1, 1) := by decide +kernel
theorem d12_46 : decode prog_10_method_6_code 46 = .ok (.lsub, 1) := by decide +kernel
theorem d12_47 : decode prog_10_method_6_code 47 = .ok (.l2d, 1) := by decide +kernel
theorem d12_48 : decode prog_10_method_6_code 48 = .ok (.ldc2_w 51, 3) := by decide +kernel
theorem d12_51 : decode prog_10_method_6_code 51 = .ok (.ddiv, 1) := by decide +kernel
theorem d12_52 : decode prog_10_method_6_code 52 = .ok (.dadd, 1) := by decide +kernel
theorem d12_53 : decode prog_10_method_6_code 53 = .ok (.dstore_n 1, 1) := by decide +kernel
abbrev own_m28 : MethodName := (⟨"com/example/portcall/portcall/cli/Latencies", "middle", "(I)D"⟩ : MethodName)
theorem ef_rm_mid (m : MethodId) (i : Int32) : entryFrame m #[(.int i)] 8 = mkF m 0 #[iv i, .unset, .unset, .unset, .unset, .unset, .unset, .unset] [] := by first | (simp [entryFrame, mkF, argsToLocals, Value.category]; done) | rfl
theorem pn29 : plainFor (⟨"com/example/portcall/portcall/cli/Latencies", "middle", "(I)D"⟩ : MethodName) = true := by first | exact plainFor_of_name (by first | (simp [plainName, overriddenIn]; done) | decide +kernel) | decide +kernel
set_option maxRecDepth 65536 in
set_option maxHeartbeats 40000000 in
theorem rm_mid {l : Launch} {Z : State} {a0 : Array Value} {A : Nat → Addr} {KC : Nat → Cell} {IC : Nat → Int32} {VC : Nat → Value} (hw : ∀ d ∈ tables_1, d.before a0 Z = true) (G : own_Ctx Z A KC IC VC) (i : Int32)  (h0 : Heap) (O0 : Ext Z.heap h0)  :
    Ok l Z own_m28 prog_10_method_6_code 8 (some .double) ({ frames := 0, cells := 0, slots := 0, locals := 0 } : Room) #[(.int i)] h0
      (fun v h L => v = some (.double (own_mid i)) ∧ (h = h0) ∧ (L = [])) := by
  refine Ok.mk pn29 ?_
  intro p e s m below meth c T0 hx hby hml hown hnm hret hlk hZ e0 X0
  refine Go.cast (ef_rm_mid m i) ?_
  have D := @hb _ _ hby
  have N0 := Fr.nil Z.heap.size
  have K0 : Keep h0 h0 [] := Keep.refl _ _
  refine Go.of (T' := T0) (f' := (mkF m 4 #[iv i, .unset, .unset, .unset, .unset, .unset, .unset, .unset] [(.int 1024), (.int i)])) (fun _ k => XS.iloadN X0.here hx rfl (D d12_0) rfl (XS.sipush X0.here hx rfl (D d12_1) k)) ?_
  by_cases hc146 : i < (1024 : Int32)
  · skip
    refine Go.of (T' := T0) (f' := (mkF m 55 #[iv i, .val (.double (FP.i2d i)), .second, .unset, .unset, .unset, .unset, .unset] [(.double (FP.i2d i))])) (fun _ k => XS.icmpNo X0.here hx rfl (D d12_4) rfl (tlt hc146).2.1 (XS.iloadN X0.here hx rfl (D d12_7) rfl (XS.i2dS X0.here hx rfl (D d12_8) rfl rfl (XS.dstoreN X0.here hx rfl (D d12_9) rfl (l' := #[iv i, .val (.double (FP.i2d i)), .second, .unset, .unset, .unset, .unset, .unset]) rfl (XS.goto X0.here hx rfl (pc0 := 10) (pc' := 54) rfl (D d12_10) (by decide) (by decide) (XS.dloadN X0.here hx rfl (D d12_54) rfl k)))))) ?_
    exact Go.retD X0 hx hlk hret (D d12_55) (by decide) (by decide) (by rw [e0]; exact ⟨by rw [own_mid, if_pos hc146], rfl, by simp⟩)
  · skip
    refine Go.of (T' := T0) (f' := (mkF m 46 #[iv i, .unset, .unset, iv ((i / (512 : Int32)) - (1 : Int32)), .val (.long ((((i % (512 : Int32)) + (512 : Int32)).toInt64) <<< (((i / (512 : Int32)) - (1 : Int32)) &&& 0x3f).toInt64)), .second, .val (.long ((1 : Int64) <<< (((i / (512 : Int32)) - (1 : Int32)) &&& 0x3f).toInt64)), .second] [(.long (1 : Int64)), (.long ((1 : Int64) <<< (((i / (512 : Int32)) - (1 : Int32)) &&& 0x3f).toInt64)), (.double (FP.l2d ((((i % (512 : Int32)) + (512 : Int32)).toInt64) <<< (((i / (512 : Int32)) - (1 : Int32)) &&& 0x3f).toInt64)))])) (fun _ k => XS.icmpYes X0.here hx rfl (pc0 := 4) (pc' := 13) rfl (D d12_4) rfl (flt hc146).2.1 (by decide) (by decide) (XS.iloadN X0.here hx rfl (D d12_13) rfl (XS.sipush X0.here hx rfl (D d12_14) (XS.idiv X0.here hx rfl (D d12_17) rfl (by decide) (XS.iconst X0.here hx rfl (D d12_18) (XS.isub X0.here hx rfl (D d12_19) rfl (XS.istoreN X0.here hx rfl (D d12_20) rfl (l' := #[iv i, .unset, .unset, iv ((i / (512 : Int32)) - (1 : Int32)), .unset, .unset, .unset, .unset]) rfl (XS.iloadN X0.here hx rfl (D d12_21) rfl (XS.sipush X0.here hx rfl (D d12_22) (iremM X0 hx rfl (D d12_25) rfl (by decide) (XS.sipush X0.here hx rfl (D d12_26) (XS.iadd X0.here hx rfl (D d12_29) rfl (XS.i2l X0.here hx rfl (D d12_30) rfl (XS.iloadN X0.here hx rfl (D d12_31) rfl (XS.lshl X0.here hx rfl (D d12_32) rfl (XS.lstore X0.here hx rfl (D d12_33) rfl (l' := #[iv i, .unset, .unset, iv ((i / (512 : Int32)) - (1 : Int32)), .val (.long ((((i % (512 : Int32)) + (512 : Int32)).toInt64) <<< (((i / (512 : Int32)) - (1 : Int32)) &&& 0x3f).toInt64)), .second, .unset, .unset]) rfl (XS.lconst X0.here hx rfl (D d12_35) (XS.iloadN X0.here hx rfl (D d12_36) rfl (XS.lshl X0.here hx rfl (D d12_37) rfl (XS.lstore X0.here hx rfl (D d12_38) rfl (l' := #[iv i, .unset, .unset, iv ((i / (512 : Int32)) - (1 : Int32)), .val (.long ((((i % (512 : Int32)) + (512 : Int32)).toInt64) <<< (((i / (512 : Int32)) - (1 : Int32)) &&& 0x3f).toInt64)), .second, .val (.long ((1 : Int64) <<< (((i / (512 : Int32)) - (1 : Int32)) &&& 0x3f).toInt64)), .second]) rfl (XS.lload X0.here hx rfl (D d12_40) rfl (XS.l2dS X0.here hx rfl (D d12_42) rfl rfl (XS.lload X0.here hx rfl (D d12_43) rfl (XS.lconst X0.here hx rfl (D d12_45) k)))))))))))))))))))))))) ?_
    refine Go.of (T' := T0) (f' := (mkF m 55 #[iv i, .val (.double (FP.dadd (FP.l2d ((((i % (512 : Int32)) + (512 : Int32)).toInt64) <<< (((i / (512 : Int32)) - (1 : Int32)) &&& 0x3f).toInt64)) (FP.ddiv (FP.l2d (((1 : Int64) <<< (((i / (512 : Int32)) - (1 : Int32)) &&& 0x3f).toInt64) - (1 : Int64))) (4611686018427387904 : UInt64)))), .second, iv ((i / (512 : Int32)) - (1 : Int32)), .val (.long ((((i % (512 : Int32)) + (512 : Int32)).toInt64) <<< (((i / (512 : Int32)) - (1 : Int32)) &&& 0x3f).toInt64)), .second, .val (.long ((1 : Int64) <<< (((i / (512 : Int32)) - (1 : Int32)) &&& 0x3f).toInt64)), .second] [(.double (FP.dadd (FP.l2d ((((i % (512 : Int32)) + (512 : Int32)).toInt64) <<< (((i / (512 : Int32)) - (1 : Int32)) &&& 0x3f).toInt64)) (FP.ddiv (FP.l2d (((1 : Int64) <<< (((i / (512 : Int32)) - (1 : Int32)) &&& 0x3f).toInt64) - (1 : Int64))) (4611686018427387904 : UInt64))))])) (fun _ k => XS.lsub X0.here hx rfl (D d12_46) rfl (XS.l2dS X0.here hx rfl (D d12_47) rfl rfl (X0.ldc2DoubleC hx hown (mvT hZ (own_w hw (i := 85) rfl)) (g := (mkF m 48 #[iv i, .unset, .unset, iv ((i / (512 : Int32)) - (1 : Int32)), .val (.long ((((i % (512 : Int32)) + (512 : Int32)).toInt64) <<< (((i / (512 : Int32)) - (1 : Int32)) &&& 0x3f).toInt64)), .second, .val (.long ((1 : Int64) <<< (((i / (512 : Int32)) - (1 : Int32)) &&& 0x3f).toInt64)), .second] [(.double (FP.l2d (((1 : Int64) <<< (((i / (512 : Int32)) - (1 : Int32)) &&& 0x3f).toInt64) - (1 : Int64)))), (.double (FP.l2d ((((i % (512 : Int32)) + (512 : Int32)).toInt64) <<< (((i / (512 : Int32)) - (1 : Int32)) &&& 0x3f).toInt64)))])) rfl (D d12_48) _ (XS.ddivS X0.here hx rfl (D d12_51) rfl (own_nn2 _) rfl (XS.daddS X0.here hx rfl (D d12_52) rfl (own_nn3 _ _) rfl (XS.dstoreN X0.here hx rfl (D d12_53) rfl (l' := #[iv i, .val (.double (FP.dadd (FP.l2d ((((i % (512 : Int32)) + (512 : Int32)).toInt64) <<< (((i / (512 : Int32)) - (1 : Int32)) &&& 0x3f).toInt64)) (FP.ddiv (FP.l2d (((1 : Int64) <<< (((i / (512 : Int32)) - (1 : Int32)) &&& 0x3f).toInt64) - (1 : Int64))) (4611686018427387904 : UInt64)))), .second, iv ((i / (512 : Int32)) - (1 : Int32)), .val (.long ((((i % (512 : Int32)) + (512 : Int32)).toInt64) <<< (((i / (512 : Int32)) - (1 : Int32)) &&& 0x3f).toInt64)), .second, .val (.long ((1 : Int64) <<< (((i / (512 : Int32)) - (1 : Int32)) &&& 0x3f).toInt64)), .second]) rfl (XS.dloadN X0.here hx rfl (D d12_54) rfl k))))))) ?_
    exact Go.retD X0 hx hlk hret (D d12_55) (by decide) (by decide) (by rw [e0]; exact ⟨by rw [own_mid, if_neg hc146], rfl, by simp⟩)
def own_rk1 (q : UInt64) : Nat := if q = (4598175219545276416 : UInt64) then 1 else if q = (4602678819172646912 : UInt64) then 1 else if q = (4604930618986332160 : UInt64) then 1 else 1
def own_rk2 (q : UInt64) : Nat := if q = (4598175219545276416 : UInt64) then 1 else if q = (4602678819172646912 : UInt64) then 1 else if q = (4604930618986332160 : UInt64) then 2 else 2
def own_rk3 (q : UInt64) : Nat := if q = (4598175219545276416 : UInt64) then 1 else if q = (4602678819172646912 : UInt64) then 2 else if q = (4604930618986332160 : UInt64) then 3 else 3
theorem own_stop {js : List Nat} {i : Int32} {r : Nat} {rk : Int64} (hi : 0 ≤ i.toInt) (hl : own_lo js i.toNatClampNeg < r) (hj : js.length < 1000) (hr : rk.toInt = r) (h : ¬ lcmpW (Int64.ofNat (own_lo js i.toNatClampNeg) + Int64.ofNat (js.count i.toNatClampNeg)) rk < 0) : own_at js r i := by
  rw [own_of, own_loS, own_cmp _ r _ hr (Nat.lt_of_le_of_lt (own_loLe _ _) hj)] at h
  exact ⟨hi, hl, by omega⟩
theorem own_goon {js : List Nat} {i : Int32} {f r : Nat} {rk : Int64} (hi : 0 ≤ i.toInt) (hf : i.toInt + (f + 1 : Nat) = 16384) (hj : js.length < 1000) (hr : rk.toInt = r) (h : lcmpW (Int64.ofNat (own_lo js i.toNatClampNeg) + Int64.ofNat (js.count i.toNatClampNeg)) rk < 0) : own_lo js (i + 1).toNatClampNeg < r := by
  rw [own_of, own_loS, own_cmp _ r _ hr (Nat.lt_of_le_of_lt (own_loLe _ _) hj)] at h
  rw [← own_n16 hi hf]
  exact h
theorem own_cum {js : List Nat} {i : Int32} {f : Nat} (hi : 0 ≤ i.toInt) (hf : i.toInt + (f + 1 : Nat) = 16384) : Int64.ofNat (own_lo js i.toNatClampNeg) + Int64.ofNat (js.count i.toNatClampNeg) = Int64.ofNat (own_lo js (i + 1).toNatClampNeg) := by
  rw [own_of, own_loS, own_n16 hi hf]
abbrev own_m30 : MethodName := (⟨"com/example/portcall/portcall/cli/Latencies", "percentile", "(D)D"⟩ : MethodName)
theorem d7_35 : decode prog_10_method_4_code 35 = .ok (.lload 5, 2) := by decide +kernel
theorem d7_37 : decode prog_10_method_4_code 37 = .ok (.aload_n 0, 1) := by decide +kernel
theorem d7_38 : decode prog_10_method_4_code 38 = .ok (.getfield 9, 3) := by decide +kernel
theorem d7_41 : decode prog_10_method_4_code 41 = .ok (.iload 7, 2) := by decide +kernel
theorem d7_43 : decode prog_10_method_4_code 43 = .ok (.laload, 1) := by decide +kernel
theorem d7_44 : decode prog_10_method_4_code 44 = .ok (.ladd, 1) := by decide +kernel
theorem d7_45 : decode prog_10_method_4_code 45 = .ok (.lload_n 3, 1) := by decide +kernel
theorem d7_46 : decode prog_10_method_4_code 46 = .ok (.lcmp, 1) := by decide +kernel
theorem d7_47 : decode prog_10_method_4_code 47 = .ok (.ifCond .ge 21, 3) := by decide +kernel
theorem d7_50 : decode prog_10_method_4_code 50 = .ok (.lload 5, 2) := by decide +kernel
theorem d7_52 : decode prog_10_method_4_code 52 = .ok (.aload_n 0, 1) := by decide +kernel
theorem d7_53 : decode prog_10_method_4_code 53 = .ok (.getfield 9, 3) := by decide +kernel
theorem d7_56 : decode prog_10_method_4_code 56 = .ok (.iload 7, 2) := by decide +kernel
theorem d7_58 : decode prog_10_method_4_code 58 = .ok (.laload, 1) := by decide +kernel
theorem d7_59 : decode prog_10_method_4_code 59 = .ok (.ladd, 1) := by decide +kernel
theorem d7_60 : decode prog_10_method_4_code 60 = .ok (.lstore 5, 2) := by decide +kernel
theorem d7_62 : decode prog_10_method_4_code 62 = .ok (.iinc 7 1, 3) := by decide +kernel
theorem d7_65 : decode prog_10_method_4_code 65 = .ok (.goto (-30), 3) := by decide +kernel
theorem d7_68 : decode prog_10_method_4_code 68 = .ok (.iload 7, 2) := by decide +kernel
theorem d7_70 : decode prog_10_method_4_code 70 = .ok (.invokestatic 40, 3) := by decide +kernel
theorem pd31 : parseMethodDescriptor "(I)D" = some ⟨[.int], some .double⟩ := by decide +kernel
theorem d7_73 : decode prog_10_method_4_code 73 = .ok (.dreturn, 1) := by decide +kernel
set_option maxRecDepth 65536 in
set_option maxHeartbeats 40000000 in
theorem rm_pctL {l : Launch} {Z : State} {a0 : Array Value} {A : Nat → Addr} {KC : Nat → Cell} {IC : Nat → Int32} {VC : Nat → Value} (hw : ∀ d ∈ tables_1, d.before a0 Z = true) (G : own_Ctx Z A KC IC VC) {p : Program} {e : Env} {s : State} {m : MethodId} {below : List Frame} {meth : Method} {c : Code} {h0 : Heap} (ob : Addr) (q : UInt64) (ar : Addr) (ka : ClassId) (js : List Nat) (rk : Int64) (rr : Nat) (prem0 : js.length < 1000) (prem1 : own_lt js) (prem2 : rk.toInt = rr) (prem3 : rr ≤ js.length)
    (hx : p.tables.exec = Jvm.exec) (hby : c.code = prog_10_method_4_code) (hml : c.maxLocals = 8) (hown : s.vm.findClass "com/example/portcall/portcall/cli/Latencies" = some m.cls) (hret : meth.sig.returnType = (some .double)) (hlk : meth.locks = false) (hZ : Z.Warmed39 s.vm) :
    ∀ (fuel : Nat) (i : Int32) (cum : Int64) (T0 : State) (h1 : Heap) (locs0 : List Loc) (hi : 0 ≤ i.toInt) (hf : i.toInt + (fuel : Nat) = 16384) (hl : own_lo js i.toNatClampNeg < rr) (hcum : cum = (Int64.ofNat (own_lo js i.toNatClampNeg))) (e0 : T0.heap = h1) (X0 : Stand p l e ({ frames := 8, cells := 0, slots := 0, locals := 160 } : Room) s m #[(.ref ob), (.double q)] below meth c T0 locs0 0 0) (N0 : Fr Z.heap.size locs0) (K0 : Keep h0 h1 []) (O0 : Ext Z.heap h1) (lf0 : Fld Z h1 ob "com/example/portcall/portcall/cli/Latencies" "counts" "[J" (.ref ar)) (lf1 : Arv Z h1 ar ka .long (16384 : Int32) (own_cl js) (.long (0 : Int64))),
      Go p e s below ({ frames := 8, cells := 0, slots := 0, locals := 160 } : Room) (fun v h L => ∃ iz : Int32, v = some (.double (own_mid iz)) ∧ (Fr Z.heap.size L) ∧ (Keep h0 h []) ∧ (own_at js rr iz)) T0 (mkF m 35 #[rv ob, .val (.double q), .second, .val (.long rk), .second, .val (.long cum), .second, iv i] []) := by
  have D := @hb _ _ hby
  intro fuel
  induction fuel with
  | zero =>
    intro i cum T0 h1 locs0 hi hf hl hcum e0 X0 N0 K0 O0 lf0 lf1
    exact absurd (own_e16 hi hf ▸ hl) (by rw [own_loN js prem1]; omega)
  | succ fuel ih =>
    intro i cum T0 h1 locs0 hi hf hl hcum e0 X0 N0 K0 O0 lf0 lf1
    obtain ⟨T147, X147, e147, st147⟩ := getF X0 hx hZ hown (host := "") (Or.inl (own_w hw (i := 11) rfl)) Via.refl e0 lf0 (g := (mkF m 38 #[rv ob, .val (.double q), .second, .val (.long rk), .second, .val (.long cum), .second, iv i] [(.ref ob), (.long cum)])) rfl rfl (D d7_38)
    obtain ⟨cl148, Ar148, qk148, S148, Ng148, H148, G148⟩ := id lf1
    have hin148 := inb_of (j := i) S148 ⟨own_nneg hi, own_lt16 hf⟩
    refine Go.of (T' := T147) (f' := (mkF m 47 #[rv ob, .val (.double q), .second, .val (.long rk), .second, .val (.long cum), .second, iv i] [(.int (lcmpW (cum + (Int64.ofNat (js.count i.toNatClampNeg))) rk))])) (fun _ k => XS.lload X0.here hx rfl (D d7_35) rfl (XS.aloadN X0.here hx rfl (D d7_37) rfl rfl (st147 _ (XS.iload X147.here hx rfl (D d7_41) rfl (X147.laload hx (j := i) (v := (.long (Int64.ofNat (js.count i.toNatClampNeg)))) (by rw [e147]; exact Ar148.1) (State.isArrayOf_alike hZ.alike Ar148.2.1) Ar148.2.2 hin148 (H148.at hin148 (own_cfat _ (own_k16 hi hf))) (g := (mkF m 43 #[rv ob, .val (.double q), .second, .val (.long rk), .second, .val (.long cum), .second, iv i] [(.int i), (.ref ar), (.long cum)])) rfl rfl (D d7_43) _ (XS.ladd X147.here hx rfl (D d7_44) rfl (XS.lloadN X147.here hx rfl (D d7_45) rfl (XS.lcmp X147.here hx rfl (D d7_46) rfl k)))))))) ?_
    by_cases hc149 : (lcmpW (cum + (Int64.ofNat (js.count i.toNatClampNeg))) rk) < (0 : Int32)
    · skip
      obtain ⟨T150, X150, e150, st150⟩ := getF X147 hx hZ hown (host := "") (Or.inl (own_w hw (i := 11) rfl)) Via.refl e147 lf0 (g := (mkF m 53 #[rv ob, .val (.double q), .second, .val (.long rk), .second, .val (.long cum), .second, iv i] [(.ref ob), (.long cum)])) rfl rfl (D d7_53)
      obtain ⟨cl151, Ar151, qk151, S151, Ng151, H151, G151⟩ := id lf1
      have hin151 := inb_of (j := i) S151 ⟨own_nneg hi, own_lt16 hf⟩
      refine Go.of (T' := T150) (f' := (mkF m 35 #[rv ob, .val (.double q), .second, .val (.long rk), .second, .val (.long (cum + (Int64.ofNat (js.count i.toNatClampNeg)))), .second, iv (i + (1 : Int32))] [])) (fun _ k => XS.ifNo X147.here hx rfl (D d7_47) rfl ((if0 _ _).trans (tlt hc149).2.1) (XS.lload X147.here hx rfl (D d7_50) rfl (XS.aloadN X147.here hx rfl (D d7_52) rfl rfl (st150 _ (XS.iload X150.here hx rfl (D d7_56) rfl (X150.laload hx (j := i) (v := (.long (Int64.ofNat (js.count i.toNatClampNeg)))) (by rw [e150]; exact Ar151.1) (State.isArrayOf_alike hZ.alike Ar151.2.1) Ar151.2.2 hin151 (H151.at hin151 (own_cfat _ (own_k16 hi hf))) (g := (mkF m 58 #[rv ob, .val (.double q), .second, .val (.long rk), .second, .val (.long cum), .second, iv i] [(.int i), (.ref ar), (.long cum)])) rfl rfl (D d7_58) _ (XS.ladd X150.here hx rfl (D d7_59) rfl (XS.lstore X150.here hx rfl (D d7_60) rfl (l' := #[rv ob, .val (.double q), .second, .val (.long rk), .second, .val (.long (cum + (Int64.ofNat (js.count i.toNatClampNeg)))), .second, iv i]) rfl (XS.iinc X150.here hx rfl (D d7_62) rfl (l' := #[rv ob, .val (.double q), .second, .val (.long rk), .second, .val (.long (cum + (Int64.ofNat (js.count i.toNatClampNeg)))), .second, iv (i + (1 : Int32))]) rfl (XS.goto X150.here hx rfl (pc0 := 65) (pc' := 35) rfl (D d7_65) (by decide) (by decide) k)))))))))) ?_
      exact ih ((i + (1 : Int32))) ((cum + (Int64.ofNat (js.count i.toNatClampNeg)))) T150 h1 _ (own_hi1 hi hf) (own_hf1 hi hf) (own_goon hi hf prem0 prem2 (hcum ▸ hc149)) (hcum ▸ own_cum hi hf) e150 X150 N0 K0 O0 (lf0) (lf1)
    · skip
      obtain ⟨T152, v152, L152, X152, q152, st152⟩ := callSt X147 hx hZ (y := own_m28) hown (own_w hw (i := 65) rfl) (own_w hw (i := 66) rfl) (own_w hw (i := 3) rfl) (own_w hw (i := 67) rfl) (by decide) (rm_mid hw G i  h1 O0 ) e147 (W := 0) (by decide) (by decide) (by decide) (by decide) (g := (mkF m 70 #[rv ob, .val (.double q), .second, .val (.long rk), .second, .val (.long cum), .second, iv i] [(.int i)])) rfl (by rw [hml]; rfl) (argsL := [(.int i)]) (rest := []) (lenOf pd31 rfl) rfl rfl (Nat.le_of_eq rfl) (D d7_70)
      obtain ⟨rfl, e152, rfl⟩ := q152
      have N152 := Fr.app N0 (Fr.nil _)
      refine Go.of (T' := T152) (f' := (mkF m 73 #[rv ob, .val (.double q), .second, .val (.long rk), .second, .val (.long cum), .second, iv i] [(.double (own_mid i))])) (fun _ k => XS.ifYes X147.here hx rfl (pc0 := 47) (pc' := 68) rfl (D d7_47) rfl ((if0 _ _).trans (flt hc149).2.1) (by decide) (by decide) (XS.iload X147.here hx rfl (D d7_68) rfl (st152 _ k))) ?_
      exact Go.retD X152 hx hlk hret (D d7_73) (by decide) (by decide) (by rw [e152]; exact ⟨i, rfl, N152, K0, own_stop hi hl prem0 prem2 (hcum ▸ hc149)⟩)
theorem d7_0 : decode prog_10_method_4_code 0 = .ok (.aload_n 0, 1) := by decide +kernel
theorem d7_1 : decode prog_10_method_4_code 1 = .ok (.getfield 28, 3) := by decide +kernel
theorem d7_4 : decode prog_10_method_4_code 4 = .ok (.lconst 0, 1) := by decide +kernel
theorem d7_5 : decode prog_10_method_4_code 5 = .ok (.lcmp, 1) := by decide +kernel
theorem d7_6 : decode prog_10_method_4_code 6 = .ok (.ifCond .ne 7, 3) := by decide +kernel
theorem d7_13 : decode prog_10_method_4_code 13 = .ok (.lconst 1, 1) := by decide +kernel
theorem d7_14 : decode prog_10_method_4_code 14 = .ok (.dload_n 1, 1) := by decide +kernel
theorem d7_15 : decode prog_10_method_4_code 15 = .ok (.aload_n 0, 1) := by decide +kernel
theorem d7_16 : decode prog_10_method_4_code 16 = .ok (.getfield 28, 3) := by decide +kernel
theorem d7_19 : decode prog_10_method_4_code 19 = .ok (.l2d, 1) := by decide +kernel
theorem d7_20 : decode prog_10_method_4_code 20 = .ok (.dmul, 1) := by decide +kernel
theorem own_fp32 : Jvm.Free.Fl.NoNaN64 (FP.dmul (4598175219545276416 : UInt64) (4607182418800017408 : UInt64)) ∧ FP.dmul (4598175219545276416 : UInt64) (4607182418800017408 : UInt64) = (4598175219545276416 : UInt64) := ⟨by unfold Jvm.Free.Fl.NoNaN64; decide +kernel, by decide +kernel⟩
theorem d7_21 : decode prog_10_method_4_code 21 = .ok (.invokestatic 36, 3) := by decide +kernel
theorem d7_24 : decode prog_10_method_4_code 24 = .ok (.d2l, 1) := by decide +kernel
theorem d7_25 : decode prog_10_method_4_code 25 = .ok (.invokestatic 13, 3) := by decide +kernel
theorem d7_28 : decode prog_10_method_4_code 28 = .ok (.lstore_n 3, 1) := by decide +kernel
theorem d7_29 : decode prog_10_method_4_code 29 = .ok (.lconst 0, 1) := by decide +kernel
theorem d7_30 : decode prog_10_method_4_code 30 = .ok (.lstore 5, 2) := by decide +kernel
theorem d7_32 : decode prog_10_method_4_code 32 = .ok (.iconst 0, 1) := by decide +kernel
theorem d7_33 : decode prog_10_method_4_code 33 = .ok (.istore 7, 2) := by decide +kernel
theorem own_fp33 : Jvm.Free.Fl.NoNaN64 (FP.dmul (4602678819172646912 : UInt64) (4607182418800017408 : UInt64)) ∧ FP.dmul (4602678819172646912 : UInt64) (4607182418800017408 : UInt64) = (4602678819172646912 : UInt64) := ⟨by unfold Jvm.Free.Fl.NoNaN64; decide +kernel, by decide +kernel⟩
theorem own_fp34 : Jvm.Free.Fl.NoNaN64 (FP.dmul (4604930618986332160 : UInt64) (4607182418800017408 : UInt64)) ∧ FP.dmul (4604930618986332160 : UInt64) (4607182418800017408 : UInt64) = (4604930618986332160 : UInt64) := ⟨by unfold Jvm.Free.Fl.NoNaN64; decide +kernel, by decide +kernel⟩
theorem own_fp35 : Jvm.Free.Fl.NoNaN64 (FP.dmul (4607182418800017408 : UInt64) (4607182418800017408 : UInt64)) ∧ FP.dmul (4607182418800017408 : UInt64) (4607182418800017408 : UInt64) = (4607182418800017408 : UInt64) := ⟨by unfold Jvm.Free.Fl.NoNaN64; decide +kernel, by decide +kernel⟩
theorem ef_rm_pct1 (m : MethodId) (ob : Addr) (q : UInt64) : entryFrame m #[(.ref ob), (.double q)] 8 = mkF m 0 #[rv ob, .val (.double q), .second, .unset, .unset, .unset, .unset, .unset] [] := by first | (simp [entryFrame, mkF, argsToLocals, Value.category]; done) | rfl
theorem pn36 : plainFor (⟨"com/example/portcall/portcall/cli/Latencies", "percentile", "(D)D"⟩ : MethodName) = true := by first | exact plainFor_of_name (by first | (simp [plainName, overriddenIn]; done) | decide +kernel) | decide +kernel
set_option maxRecDepth 65536 in
set_option maxHeartbeats 40000000 in
theorem rm_pct1 {l : Launch} {Z : State} {a0 : Array Value} {A : Nat → Addr} {KC : Nat → Cell} {IC : Nat → Int32} {VC : Nat → Value} (hw : ∀ d ∈ tables_1, d.before a0 Z = true) (G : own_Ctx Z A KC IC VC) (ob : Addr) (q : UInt64) (ar : Addr) (ka : ClassId) (js : List Nat) (h0 : Heap) (O0 : Ext Z.heap h0) (prem0 : q = (4598175219545276416 : UInt64) ∨ q = (4602678819172646912 : UInt64) ∨ q = (4604930618986332160 : UInt64) ∨ q = (4607182418800017408 : UInt64)) (prem1 : own_lt js) (prem2 : js.length = 1) (prem3 : Fld Z h0 ob "com/example/portcall/portcall/cli/Latencies" "counts" "[J" (.ref ar)) (prem4 : Fld Z h0 ob "com/example/portcall/portcall/cli/Latencies" "total" "J" (.long (1 : Int64))) (prem5 : Arv Z h0 ar ka .long (16384 : Int32) (own_cl js) (.long (0 : Int64))) :
    Ok l Z own_m30 prog_10_method_4_code 8 (some .double) ({ frames := 8, cells := 0, slots := 0, locals := 160 } : Room) #[(.ref ob), (.double q)] h0
      (fun v h L => ∃ iz : Int32, v = some (.double (own_mid iz)) ∧ (Fr Z.heap.size L) ∧ (Keep h0 h []) ∧ (own_at js (own_rk1 q) iz)) := by
  refine Ok.mk pn36 ?_
  intro p e s m below meth c T0 hx hby hml hown hnm hret hlk hZ e0 X0
  refine Go.cast (ef_rm_pct1 m ob q) ?_
  have D := @hb _ _ hby
  have N0 := Fr.nil Z.heap.size
  have K0 : Keep h0 h0 [] := Keep.refl _ _
  rcases prem0 with rfl | rfl | rfl | rfl
  · skip
    obtain ⟨T153, X153, e153, st153⟩ := getF X0 hx hZ hown (host := "") (Or.inl (own_w hw (i := 30) rfl)) Via.refl e0 prem4 (g := (mkF m 1 #[rv ob, .val (.double (4598175219545276416 : UInt64)), .second, .unset, .unset, .unset, .unset, .unset] [(.ref ob)])) rfl rfl (D d7_1)
    obtain ⟨T155, X155, e155, st155⟩ := getF X153 hx hZ hown (host := "") (Or.inl (own_w hw (i := 30) rfl)) Via.refl e153 prem4 (g := (mkF m 16 #[rv ob, .val (.double (4598175219545276416 : UInt64)), .second, .unset, .unset, .unset, .unset, .unset] [(.ref ob), (.double (4598175219545276416 : UInt64)), (.long (1 : Int64))])) rfl rfl (D d7_16)
    obtain ⟨T156, X156, e156, st156⟩ := own_mceil X155 hx hZ hown (own_w hw (i := 42) rfl) (own_w hw (i := 43) rfl) (own_w hw (i := 20) rfl) (own_w hw (i := 44) rfl) (own_w hw (i := 47) rfl) (own_w hw (i := 48) rfl) e155 (rm_sceil0_25 hw G hx X155.admits hZ h0 O0) (by decide) (g := (mkF m 21 #[rv ob, .val (.double (4598175219545276416 : UInt64)), .second, .unset, .unset, .unset, .unset, .unset] [(.double (4598175219545276416 : UInt64)), (.long (1 : Int64))])) rfl (by rw [hml]; rfl) rfl (D d7_21) (W := 2) (Nat.le_of_eq rfl) (by decide) (by decide)
    obtain ⟨T157, v157, L157, X157, q157, st157⟩ := callSt X156 hx hZ (y := own_m0) hown (own_w hw (i := 18) rfl) (own_w hw (i := 19) rfl) (own_w hw (i := 20) rfl) (own_w hw (i := 21) rfl) (by decide) (rm_max1_1 hw G   h0 O0 ) e156 (W := 0) (by decide) (by decide) (by decide) (by decide) (g := (mkF m 25 #[rv ob, .val (.double (4598175219545276416 : UInt64)), .second, .unset, .unset, .unset, .unset, .unset] [(.long (1 : Int64)), (.long (1 : Int64))])) rfl (by rw [hml]; rfl) (argsL := [(.long (1 : Int64)), (.long (1 : Int64))]) (rest := []) (lenOf pd12 rfl) rfl rfl (Nat.le_of_eq rfl) (D d7_25)
    obtain ⟨rfl, e157, rfl⟩ := q157
    have N157 := Fr.app N0 (Fr.nil _)
    refine Go.of (T' := T157) (f' := (mkF m 35 #[rv ob, .val (.double (4598175219545276416 : UInt64)), .second, .val (.long (1 : Int64)), .second, .val (.long (0 : Int64)), .second, iv 0] [])) (fun _ k => XS.aloadN X0.here hx rfl (D d7_0) rfl rfl (st153 _ (XS.lconst X153.here hx rfl (D d7_4) (XS.lcmp X153.here hx rfl (D d7_5) rfl (XS.ifYes X153.here hx rfl (pc0 := 6) (pc' := 13) rfl (D d7_6) rfl ((if0 _ _).trans (feq (by decide : ¬ ((1 : Int32) = (0 : Int32)))).2) (by decide) (by decide) (XS.lconst X153.here hx rfl (D d7_13) (XS.dloadN X153.here hx rfl (D d7_14) rfl (XS.aloadN X153.here hx rfl (D d7_15) rfl rfl (st155 _ (XS.l2dS X155.here hx rfl (D d7_19) rfl (v := (4607182418800017408 : UInt64)) (by decide +kernel) (XS.dmulS X155.here hx rfl (D d7_20) rfl (v := (4598175219545276416 : UInt64)) own_fp32.1 own_fp32.2 (st156 _ (XS.d2lS X156.here hx rfl (D d7_24) rfl (v := (1 : Int64)) (by decide +kernel) (st157 _ (XS.lstoreN X157.here hx rfl (D d7_28) rfl (l' := #[rv ob, .val (.double (4598175219545276416 : UInt64)), .second, .val (.long (1 : Int64)), .second, .unset, .unset, .unset]) rfl (XS.lconst X157.here hx rfl (D d7_29) (XS.lstore X157.here hx rfl (D d7_30) rfl (l' := #[rv ob, .val (.double (4598175219545276416 : UInt64)), .second, .val (.long (1 : Int64)), .second, .val (.long (0 : Int64)), .second, .unset]) rfl (XS.iconst X157.here hx rfl (D d7_32) (XS.istore X157.here hx rfl (D d7_33) rfl (l' := #[rv ob, .val (.double (4598175219545276416 : UInt64)), .second, .val (.long (1 : Int64)), .second, .val (.long (0 : Int64)), .second, iv 0]) rfl k))))))))))))))))))) ?_
    exact rm_pctL hw G ob (4598175219545276416 : UInt64) ar ka js (1 : Int64) 1 (by omega) prem1 (by decide) (by omega) hx hby hml hown hret hlk hZ 16384 0 (0 : Int64) T157 h0 _ (by decide) (by decide) (by rw [show (0 : Int32).toNatClampNeg = 0 from rfl, own_lo0]; decide) (by rw [show (0 : Int32).toNatClampNeg = 0 from rfl, own_lo0]; rfl) e157 X157 N157 K0 O0 prem3 prem5
  · skip
    obtain ⟨T158, X158, e158, st158⟩ := getF X0 hx hZ hown (host := "") (Or.inl (own_w hw (i := 30) rfl)) Via.refl e0 prem4 (g := (mkF m 1 #[rv ob, .val (.double (4602678819172646912 : UInt64)), .second, .unset, .unset, .unset, .unset, .unset] [(.ref ob)])) rfl rfl (D d7_1)
    obtain ⟨T160, X160, e160, st160⟩ := getF X158 hx hZ hown (host := "") (Or.inl (own_w hw (i := 30) rfl)) Via.refl e158 prem4 (g := (mkF m 16 #[rv ob, .val (.double (4602678819172646912 : UInt64)), .second, .unset, .unset, .unset, .unset, .unset] [(.ref ob), (.double (4602678819172646912 : UInt64)), (.long (1 : Int64))])) rfl rfl (D d7_16)
    obtain ⟨T161, X161, e161, st161⟩ := own_mceil X160 hx hZ hown (own_w hw (i := 42) rfl) (own_w hw (i := 43) rfl) (own_w hw (i := 20) rfl) (own_w hw (i := 44) rfl) (own_w hw (i := 47) rfl) (own_w hw (i := 48) rfl) e160 (rm_sceil0_5 hw G hx X160.admits hZ h0 O0) (by decide) (g := (mkF m 21 #[rv ob, .val (.double (4602678819172646912 : UInt64)), .second, .unset, .unset, .unset, .unset, .unset] [(.double (4602678819172646912 : UInt64)), (.long (1 : Int64))])) rfl (by rw [hml]; rfl) rfl (D d7_21) (W := 2) (Nat.le_of_eq rfl) (by decide) (by decide)
    obtain ⟨T162, v162, L162, X162, q162, st162⟩ := callSt X161 hx hZ (y := own_m0) hown (own_w hw (i := 18) rfl) (own_w hw (i := 19) rfl) (own_w hw (i := 20) rfl) (own_w hw (i := 21) rfl) (by decide) (rm_max1_1 hw G   h0 O0 ) e161 (W := 0) (by decide) (by decide) (by decide) (by decide) (g := (mkF m 25 #[rv ob, .val (.double (4602678819172646912 : UInt64)), .second, .unset, .unset, .unset, .unset, .unset] [(.long (1 : Int64)), (.long (1 : Int64))])) rfl (by rw [hml]; rfl) (argsL := [(.long (1 : Int64)), (.long (1 : Int64))]) (rest := []) (lenOf pd12 rfl) rfl rfl (Nat.le_of_eq rfl) (D d7_25)
    obtain ⟨rfl, e162, rfl⟩ := q162
    have N162 := Fr.app N0 (Fr.nil _)
    refine Go.of (T' := T162) (f' := (mkF m 35 #[rv ob, .val (.double (4602678819172646912 : UInt64)), .second, .val (.long (1 : Int64)), .second, .val (.long (0 : Int64)), .second, iv 0] [])) (fun _ k => XS.aloadN X0.here hx rfl (D d7_0) rfl rfl (st158 _ (XS.lconst X158.here hx rfl (D d7_4) (XS.lcmp X158.here hx rfl (D d7_5) rfl (XS.ifYes X158.here hx rfl (pc0 := 6) (pc' := 13) rfl (D d7_6) rfl ((if0 _ _).trans (feq (by decide : ¬ ((1 : Int32) = (0 : Int32)))).2) (by decide) (by decide) (XS.lconst X158.here hx rfl (D d7_13) (XS.dloadN X158.here hx rfl (D d7_14) rfl (XS.aloadN X158.here hx rfl (D d7_15) rfl rfl (st160 _ (XS.l2dS X160.here hx rfl (D d7_19) rfl (v := (4607182418800017408 : UInt64)) (by decide +kernel) (XS.dmulS X160.here hx rfl (D d7_20) rfl (v := (4602678819172646912 : UInt64)) own_fp33.1 own_fp33.2 (st161 _ (XS.d2lS X161.here hx rfl (D d7_24) rfl (v := (1 : Int64)) (by decide +kernel) (st162 _ (XS.lstoreN X162.here hx rfl (D d7_28) rfl (l' := #[rv ob, .val (.double (4602678819172646912 : UInt64)), .second, .val (.long (1 : Int64)), .second, .unset, .unset, .unset]) rfl (XS.lconst X162.here hx rfl (D d7_29) (XS.lstore X162.here hx rfl (D d7_30) rfl (l' := #[rv ob, .val (.double (4602678819172646912 : UInt64)), .second, .val (.long (1 : Int64)), .second, .val (.long (0 : Int64)), .second, .unset]) rfl (XS.iconst X162.here hx rfl (D d7_32) (XS.istore X162.here hx rfl (D d7_33) rfl (l' := #[rv ob, .val (.double (4602678819172646912 : UInt64)), .second, .val (.long (1 : Int64)), .second, .val (.long (0 : Int64)), .second, iv 0]) rfl k))))))))))))))))))) ?_
    exact rm_pctL hw G ob (4602678819172646912 : UInt64) ar ka js (1 : Int64) 1 (by omega) prem1 (by decide) (by omega) hx hby hml hown hret hlk hZ 16384 0 (0 : Int64) T162 h0 _ (by decide) (by decide) (by rw [show (0 : Int32).toNatClampNeg = 0 from rfl, own_lo0]; decide) (by rw [show (0 : Int32).toNatClampNeg = 0 from rfl, own_lo0]; rfl) e162 X162 N162 K0 O0 prem3 prem5
  · skip
    obtain ⟨T163, X163, e163, st163⟩ := getF X0 hx hZ hown (host := "") (Or.inl (own_w hw (i := 30) rfl)) Via.refl e0 prem4 (g := (mkF m 1 #[rv ob, .val (.double (4604930618986332160 : UInt64)), .second, .unset, .unset, .unset, .unset, .unset] [(.ref ob)])) rfl rfl (D d7_1)
    obtain ⟨T165, X165, e165, st165⟩ := getF X163 hx hZ hown (host := "") (Or.inl (own_w hw (i := 30) rfl)) Via.refl e163 prem4 (g := (mkF m 16 #[rv ob, .val (.double (4604930618986332160 : UInt64)), .second, .unset, .unset, .unset, .unset, .unset] [(.ref ob), (.double (4604930618986332160 : UInt64)), (.long (1 : Int64))])) rfl rfl (D d7_16)
    obtain ⟨T166, X166, e166, st166⟩ := own_mceil X165 hx hZ hown (own_w hw (i := 42) rfl) (own_w hw (i := 43) rfl) (own_w hw (i := 20) rfl) (own_w hw (i := 44) rfl) (own_w hw (i := 47) rfl) (own_w hw (i := 48) rfl) e165 (rm_sceil0_75 hw G hx X165.admits hZ h0 O0) (by decide) (g := (mkF m 21 #[rv ob, .val (.double (4604930618986332160 : UInt64)), .second, .unset, .unset, .unset, .unset, .unset] [(.double (4604930618986332160 : UInt64)), (.long (1 : Int64))])) rfl (by rw [hml]; rfl) rfl (D d7_21) (W := 2) (Nat.le_of_eq rfl) (by decide) (by decide)
    obtain ⟨T167, v167, L167, X167, q167, st167⟩ := callSt X166 hx hZ (y := own_m0) hown (own_w hw (i := 18) rfl) (own_w hw (i := 19) rfl) (own_w hw (i := 20) rfl) (own_w hw (i := 21) rfl) (by decide) (rm_max1_1 hw G   h0 O0 ) e166 (W := 0) (by decide) (by decide) (by decide) (by decide) (g := (mkF m 25 #[rv ob, .val (.double (4604930618986332160 : UInt64)), .second, .unset, .unset, .unset, .unset, .unset] [(.long (1 : Int64)), (.long (1 : Int64))])) rfl (by rw [hml]; rfl) (argsL := [(.long (1 : Int64)), (.long (1 : Int64))]) (rest := []) (lenOf pd12 rfl) rfl rfl (Nat.le_of_eq rfl) (D d7_25)
    obtain ⟨rfl, e167, rfl⟩ := q167
    have N167 := Fr.app N0 (Fr.nil _)
    refine Go.of (T' := T167) (f' := (mkF m 35 #[rv ob, .val (.double (4604930618986332160 : UInt64)), .second, .val (.long (1 : Int64)), .second, .val (.long (0 : Int64)), .second, iv 0] [])) (fun _ k => XS.aloadN X0.here hx rfl (D d7_0) rfl rfl (st163 _ (XS.lconst X163.here hx rfl (D d7_4) (XS.lcmp X163.here hx rfl (D d7_5) rfl (XS.ifYes X163.here hx rfl (pc0 := 6) (pc' := 13) rfl (D d7_6) rfl ((if0 _ _).trans (feq (by decide : ¬ ((1 : Int32) = (0 : Int32)))).2) (by decide) (by decide) (XS.lconst X163.here hx rfl (D d7_13) (XS.dloadN X163.here hx rfl (D d7_14) rfl (XS.aloadN X163.here hx rfl (D d7_15) rfl rfl (st165 _ (XS.l2dS X165.here hx rfl (D d7_19) rfl (v := (4607182418800017408 : UInt64)) (by decide +kernel) (XS.dmulS X165.here hx rfl (D d7_20) rfl (v := (4604930618986332160 : UInt64)) own_fp34.1 own_fp34.2 (st166 _ (XS.d2lS X166.here hx rfl (D d7_24) rfl (v := (1 : Int64)) (by decide +kernel) (st167 _ (XS.lstoreN X167.here hx rfl (D d7_28) rfl (l' := #[rv ob, .val (.double (4604930618986332160 : UInt64)), .second, .val (.long (1 : Int64)), .second, .unset, .unset, .unset]) rfl (XS.lconst X167.here hx rfl (D d7_29) (XS.lstore X167.here hx rfl (D d7_30) rfl (l' := #[rv ob, .val (.double (4604930618986332160 : UInt64)), .second, .val (.long (1 : Int64)), .second, .val (.long (0 : Int64)), .second, .unset]) rfl (XS.iconst X167.here hx rfl (D d7_32) (XS.istore X167.here hx rfl (D d7_33) rfl (l' := #[rv ob, .val (.double (4604930618986332160 : UInt64)), .second, .val (.long (1 : Int64)), .second, .val (.long (0 : Int64)), .second, iv 0]) rfl k))))))))))))))))))) ?_
    exact rm_pctL hw G ob (4604930618986332160 : UInt64) ar ka js (1 : Int64) 1 (by omega) prem1 (by decide) (by omega) hx hby hml hown hret hlk hZ 16384 0 (0 : Int64) T167 h0 _ (by decide) (by decide) (by rw [show (0 : Int32).toNatClampNeg = 0 from rfl, own_lo0]; decide) (by rw [show (0 : Int32).toNatClampNeg = 0 from rfl, own_lo0]; rfl) e167 X167 N167 K0 O0 prem3 prem5
  · skip
    obtain ⟨T168, X168, e168, st168⟩ := getF X0 hx hZ hown (host := "") (Or.inl (own_w hw (i := 30) rfl)) Via.refl e0 prem4 (g := (mkF m 1 #[rv ob, .val (.double (4607182418800017408 : UInt64)), .second, .unset, .unset, .unset, .unset, .unset] [(.ref ob)])) rfl rfl (D d7_1)
    obtain ⟨T170, X170, e170, st170⟩ := getF X168 hx hZ hown (host := "") (Or.inl (own_w hw (i := 30) rfl)) Via.refl e168 prem4 (g := (mkF m 16 #[rv ob, .val (.double (4607182418800017408 : UInt64)), .second, .unset, .unset, .unset, .unset, .unset] [(.ref ob), (.double (4607182418800017408 : UInt64)), (.long (1 : Int64))])) rfl rfl (D d7_16)
    obtain ⟨T171, X171, e171, st171⟩ := own_mceil X170 hx hZ hown (own_w hw (i := 42) rfl) (own_w hw (i := 43) rfl) (own_w hw (i := 20) rfl) (own_w hw (i := 44) rfl) (own_w hw (i := 47) rfl) (own_w hw (i := 48) rfl) e170 (rm_sceil1_0 hw G hx X170.admits hZ h0 O0) (by decide) (g := (mkF m 21 #[rv ob, .val (.double (4607182418800017408 : UInt64)), .second, .unset, .unset, .unset, .unset, .unset] [(.double (4607182418800017408 : UInt64)), (.long (1 : Int64))])) rfl (by rw [hml]; rfl) rfl (D d7_21) (W := 2) (Nat.le_of_eq rfl) (by decide) (by decide)
    obtain ⟨T172, v172, L172, X172, q172, st172⟩ := callSt X171 hx hZ (y := own_m0) hown (own_w hw (i := 18) rfl) (own_w hw (i := 19) rfl) (own_w hw (i := 20) rfl) (own_w hw (i := 21) rfl) (by decide) (rm_max1_1 hw G   h0 O0 ) e171 (W := 0) (by decide) (by decide) (by decide) (by decide) (g := (mkF m 25 #[rv ob, .val (.double (4607182418800017408 : UInt64)), .second, .unset, .unset, .unset, .unset, .unset] [(.long (1 : Int64)), (.long (1 : Int64))])) rfl (by rw [hml]; rfl) (argsL := [(.long (1 : Int64)), (.long (1 : Int64))]) (rest := []) (lenOf pd12 rfl) rfl rfl (Nat.le_of_eq rfl) (D d7_25)
    obtain ⟨rfl, e172, rfl⟩ := q172
    have N172 := Fr.app N0 (Fr.nil _)
    refine Go.of (T' := T172) (f' := (mkF m 35 #[rv ob, .val (.double (4607182418800017408 : UInt64)), .second, .val (.long (1 : Int64)), .second, .val (.long (0 : Int64)), .second, iv 0] [])) (fun _ k => XS.aloadN X0.here hx rfl (D d7_0) rfl rfl (st168 _ (XS.lconst X168.here hx rfl (D d7_4) (XS.lcmp X168.here hx rfl (D d7_5) rfl (XS.ifYes X168.here hx rfl (pc0 := 6) (pc' := 13) rfl (D d7_6) rfl ((if0 _ _).trans (feq (by decide : ¬ ((1 : Int32) = (0 : Int32)))).2) (by decide) (by decide) (XS.lconst X168.here hx rfl (D d7_13) (XS.dloadN X168.here hx rfl (D d7_14) rfl (XS.aloadN X168.here hx rfl (D d7_15) rfl rfl (st170 _ (XS.l2dS X170.here hx rfl (D d7_19) rfl (v := (4607182418800017408 : UInt64)) (by decide +kernel) (XS.dmulS X170.here hx rfl (D d7_20) rfl (v := (4607182418800017408 : UInt64)) own_fp35.1 own_fp35.2 (st171 _ (XS.d2lS X171.here hx rfl (D d7_24) rfl (v := (1 : Int64)) (by decide +kernel) (st172 _ (XS.lstoreN X172.here hx rfl (D d7_28) rfl (l' := #[rv ob, .val (.double (4607182418800017408 : UInt64)), .second, .val (.long (1 : Int64)), .second, .unset, .unset, .unset]) rfl (XS.lconst X172.here hx rfl (D d7_29) (XS.lstore X172.here hx rfl (D d7_30) rfl (l' := #[rv ob, .val (.double (4607182418800017408 : UInt64)), .second, .val (.long (1 : Int64)), .second, .val (.long (0 : Int64)), .second, .unset]) rfl (XS.iconst X172.here hx rfl (D d7_32) (XS.istore X172.here hx rfl (D d7_33) rfl (l' := #[rv ob, .val (.double (4607182418800017408 : UInt64)), .second, .val (.long (1 : Int64)), .second, .val (.long (0 : Int64)), .second, iv 0]) rfl k))))))))))))))))))) ?_
    exact rm_pctL hw G ob (4607182418800017408 : UInt64) ar ka js (1 : Int64) 1 (by omega) prem1 (by decide) (by omega) hx hby hml hown hret hlk hZ 16384 0 (0 : Int64) T172 h0 _ (by decide) (by decide) (by rw [show (0 : Int32).toNatClampNeg = 0 from rfl, own_lo0]; decide) (by rw [show (0 : Int32).toNatClampNeg = 0 from rfl, own_lo0]; rfl) e172 X172 N172 K0 O0 prem3 prem5
theorem own_fp37 : Jvm.Free.Fl.NoNaN64 (FP.dmul (4598175219545276416 : UInt64) (4611686018427387904 : UInt64)) ∧ FP.dmul (4598175219545276416 : UInt64) (4611686018427387904 : UInt64) = (4602678819172646912 : UInt64) := ⟨by unfold Jvm.Free.Fl.NoNaN64; decide +kernel, by decide +kernel⟩
theorem own_fp38 : Jvm.Free.Fl.NoNaN64 (FP.dmul (4602678819172646912 : UInt64) (4611686018427387904 : UInt64)) ∧ FP.dmul (4602678819172646912 : UInt64) (4611686018427387904 : UInt64) = (4607182418800017408 : UInt64) := ⟨by unfold Jvm.Free.Fl.NoNaN64; decide +kernel, by decide +kernel⟩
theorem own_fp39 : Jvm.Free.Fl.NoNaN64 (FP.dmul (4604930618986332160 : UInt64) (4611686018427387904 : UInt64)) ∧ FP.dmul (4604930618986332160 : UInt64) (4611686018427387904 : UInt64) = (4609434218613702656 : UInt64) := ⟨by unfold Jvm.Free.Fl.NoNaN64; decide +kernel, by decide +kernel⟩
theorem own_fp40 : Jvm.Free.Fl.NoNaN64 (FP.dmul (4607182418800017408 : UInt64) (4611686018427387904 : UInt64)) ∧ FP.dmul (4607182418800017408 : UInt64) (4611686018427387904 : UInt64) = (4611686018427387904 : UInt64) := ⟨by unfold Jvm.Free.Fl.NoNaN64; decide +kernel, by decide +kernel⟩
theorem ef_rm_pct2 (m : MethodId) (ob : Addr) (q : UInt64) : entryFrame m #[(.ref ob), (.double q)] 8 = mkF m 0 #[rv ob, .val (.double q), .second, .unset, .unset, .unset, .unset, .unset] [] := by first | (simp [entryFrame, mkF, argsToLocals, Value.category]; done) | rfl
set_option maxRecDepth 65536 in
set_option maxHeartbeats 40000000 in
theorem rm_pct2 {l : Launch} {Z : State} {a0 : Array Value} {A : Nat → Addr} {KC : Nat → Cell} {IC : Nat → Int32} {VC : Nat → Value} (hw : ∀ d ∈ tables_1, d.before a0 Z = true) (G : own_Ctx Z A KC IC VC) (ob : Addr) (q : UInt64) (ar : Addr) (ka : ClassId) (js : List Nat) (h0 : Heap) (O0 : Ext Z.heap h0) (prem0 : q = (4598175219545276416 : UInt64) ∨ q = (4602678819172646912 : UInt64) ∨ q = (4604930618986332160 : UInt64) ∨ q = (4607182418800017408 : UInt64)) (prem1 : own_lt js) (prem2 : js.length = 2) (prem3 : Fld Z h0 ob "com/example/portcall/portcall/cli/Latencies" "counts" "[J" (.ref ar)) (prem4 : Fld Z h0 ob "com/example/portcall/portcall/cli/Latencies" "total" "J" (.long (2 : Int64))) (prem5 : Arv Z h0 ar ka .long (16384 : Int32) (own_cl js) (.long (0 : Int64))) :
    Ok l Z own_m30 prog_10_method_4_code 8 (some .double) ({ frames := 8, cells := 0, slots := 0, locals := 160 } : Room) #[(.ref ob), (.double q)] h0
      (fun v h L => ∃ iz : Int32, v = some (.double (own_mid iz)) ∧ (Fr Z.heap.size L) ∧ (Keep h0 h []) ∧ (own_at js (own_rk2 q) iz)) := by
  refine Ok.mk pn36 ?_
  intro p e s m below meth c T0 hx hby hml hown hnm hret hlk hZ e0 X0
  refine Go.cast (ef_rm_pct2 m ob q) ?_
  have D := @hb _ _ hby
  have N0 := Fr.nil Z.heap.size
  have K0 : Keep h0 h0 [] := Keep.refl _ _
  rcases prem0 with rfl | rfl | rfl | rfl
  · skip
    obtain ⟨T173, X173, e173, st173⟩ := getF X0 hx hZ hown (host := "") (Or.inl (own_w hw (i := 30) rfl)) Via.refl e0 prem4 (g := (mkF m 1 #[rv ob, .val (.double (4598175219545276416 : UInt64)), .second, .unset, .unset, .unset, .unset, .unset] [(.ref ob)])) rfl rfl (D d7_1)
    obtain ⟨T175, X175, e175, st175⟩ := getF X173 hx hZ hown (host := "") (Or.inl (own_w hw (i := 30) rfl)) Via.refl e173 prem4 (g := (mkF m 16 #[rv ob, .val (.double (4598175219545276416 : UInt64)), .second, .unset, .unset, .unset, .unset, .unset] [(.ref ob), (.double (4598175219545276416 : UInt64)), (.long (1 : Int64))])) rfl rfl (D d7_16)
    obtain ⟨T176, X176, e176, st176⟩ := own_mceil X175 hx hZ hown (own_w hw (i := 42) rfl) (own_w hw (i := 43) rfl) (own_w hw (i := 20) rfl) (own_w hw (i := 44) rfl) (own_w hw (i := 47) rfl) (own_w hw (i := 48) rfl) e175 (rm_sceil0_5 hw G hx X175.admits hZ h0 O0) (by decide) (g := (mkF m 21 #[rv ob, .val (.double (4598175219545276416 : UInt64)), .second, .unset, .unset, .unset, .unset, .unset] [(.double (4602678819172646912 : UInt64)), (.long (1 : Int64))])) rfl (by rw [hml]; rfl) rfl (D d7_21) (W := 2) (Nat.le_of_eq rfl) (by decide) (by decide)
    obtain ⟨T177, v177, L177, X177, q177, st177⟩ := callSt X176 hx hZ (y := own_m0) hown (own_w hw (i := 18) rfl) (own_w hw (i := 19) rfl) (own_w hw (i := 20) rfl) (own_w hw (i := 21) rfl) (by decide) (rm_max1_1 hw G   h0 O0 ) e176 (W := 0) (by decide) (by decide) (by decide) (by decide) (g := (mkF m 25 #[rv ob, .val (.double (4598175219545276416 : UInt64)), .second, .unset, .unset, .unset, .unset, .unset] [(.long (1 : Int64)), (.long (1 : Int64))])) rfl (by rw [hml]; rfl) (argsL := [(.long (1 : Int64)), (.long (1 : Int64))]) (rest := []) (lenOf pd12 rfl) rfl rfl (Nat.le_of_eq rfl) (D d7_25)
    obtain ⟨rfl, e177, rfl⟩ := q177
    have N177 := Fr.app N0 (Fr.nil _)
    refine Go.of (T' := T177) (f' := (mkF m 35 #[rv ob, .val (.double (4598175219545276416 : UInt64)), .second, .val (.long (1 : Int64)), .second, .val (.long (0 : Int64)), .second, iv 0] [])) (fun _ k => XS.aloadN X0.here hx rfl (D d7_0) rfl rfl (st173 _ (XS.lconst X173.here hx rfl (D d7_4) (XS.lcmp X173.here hx rfl (D d7_5) rfl (XS.ifYes X173.here hx rfl (pc0 := 6) (pc' := 13) rfl (D d7_6) rfl ((if0 _ _).trans (feq (by decide : ¬ ((1 : Int32) = (0 : Int32)))).2) (by decide) (by decide) (XS.lconst X173.here hx rfl (D d7_13) (XS.dloadN X173.here hx rfl (D d7_14) rfl (XS.aloadN X173.here hx rfl (D d7_15) rfl rfl (st175 _ (XS.l2dS X175.here hx rfl (D d7_19) rfl (v := (4611686018427387904 : UInt64)) (by decide +kernel) (XS.dmulS X175.here hx rfl (D d7_20) rfl (v := (4602678819172646912 : UInt64)) own_fp37.1 own_fp37.2 (st176 _ (XS.d2lS X176.here hx rfl (D d7_24) rfl (v := (1 : Int64)) (by decide +kernel) (st177 _ (XS.lstoreN X177.here hx rfl (D d7_28) rfl (l' := #[rv ob, .val (.double (4598175219545276416 : UInt64)), .second, .val (.long (1 : Int64)), .second, .unset, .unset, .unset]) rfl (XS.lconst X177.here hx rfl (D d7_29) (XS.lstore X177.here hx rfl (D d7_30) rfl (l' := #[rv ob, .val (.double (4598175219545276416 : UInt64)), .second, .val (.long (1 : Int64)), .second, .val (.long (0 : Int64)), .second, .unset]) rfl (XS.iconst X177.here hx rfl (D d7_32) (XS.istore X177.here hx rfl (D d7_33) rfl (l' := #[rv ob, .val (.double (4598175219545276416 : UInt64)), .second, .val (.long (1 : Int64)), .second, .val (.long (0 : Int64)), .second, iv 0]) rfl k))))))))))))))))))) ?_
    exact rm_pctL hw G ob (4598175219545276416 : UInt64) ar ka js (1 : Int64) 1 (by omega) prem1 (by decide) (by omega) hx hby hml hown hret hlk hZ 16384 0 (0 : Int64) T177 h0 _ (by decide) (by decide) (by rw [show (0 : Int32).toNatClampNeg = 0 from rfl, own_lo0]; decide) (by rw [show (0 : Int32).toNatClampNeg = 0 from rfl, own_lo0]; rfl) e177 X177 N177 K0 O0 prem3 prem5
  · skip
    obtain ⟨T178, X178, e178, st178⟩ := getF X0 hx hZ hown (host := "") (Or.inl (own_w hw (i := 30) rfl)) Via.refl e0 prem4 (g := (mkF m 1 #[rv ob, .val (.double (4602678819172646912 : UInt64)), .second, .unset, .unset, .unset, .unset, .unset] [(.ref ob)])) rfl rfl (D d7_1)
    obtain ⟨T180, X180, e180, st180⟩ := getF X178 hx hZ hown (host := "") (Or.inl (own_w hw (i := 30) rfl)) Via.refl e178 prem4 (g := (mkF m 16 #[rv ob, .val (.double (4602678819172646912 : UInt64)), .second, .unset, .unset, .unset, .unset, .unset] [(.ref ob), (.double (4602678819172646912 : UInt64)), (.long (1 : Int64))])) rfl rfl (D d7_16)
    obtain ⟨T181, X181, e181, st181⟩ := own_mceil X180 hx hZ hown (own_w hw (i := 42) rfl) (own_w hw (i := 43) rfl) (own_w hw (i := 20) rfl) (own_w hw (i := 44) rfl) (own_w hw (i := 47) rfl) (own_w hw (i := 48) rfl) e180 (rm_sceil1_0 hw G hx X180.admits hZ h0 O0) (by decide) (g := (mkF m 21 #[rv ob, .val (.double (4602678819172646912 : UInt64)), .second, .unset, .unset, .unset, .unset, .unset] [(.double (4607182418800017408 : UInt64)), (.long (1 : Int64))])) rfl (by rw [hml]; rfl) rfl (D d7_21) (W := 2) (Nat.le_of_eq rfl) (by decide) (by decide)
    obtain ⟨T182, v182, L182, X182, q182, st182⟩ := callSt X181 hx hZ (y := own_m0) hown (own_w hw (i := 18) rfl) (own_w hw (i := 19) rfl) (own_w hw (i := 20) rfl) (own_w hw (i := 21) rfl) (by decide) (rm_max1_1 hw G   h0 O0 ) e181 (W := 0) (by decide) (by decide) (by decide) (by decide) (g := (mkF m 25 #[rv ob, .val (.double (4602678819172646912 : UInt64)), .second, .unset, .unset, .unset, .unset, .unset] [(.long (1 : Int64)), (.long (1 : Int64))])) rfl (by rw [hml]; rfl) (argsL := [(.long (1 : Int64)), (.long (1 : Int64))]) (rest := []) (lenOf pd12 rfl) rfl rfl (Nat.le_of_eq rfl) (D d7_25)
    obtain ⟨rfl, e182, rfl⟩ := q182
    have N182 := Fr.app N0 (Fr.nil _)
    refine Go.of (T' := T182) (f' := (mkF m 35 #[rv ob, .val (.double (4602678819172646912 : UInt64)), .second, .val (.long (1 : Int64)), .second, .val (.long (0 : Int64)), .second, iv 0] [])) (fun _ k => XS.aloadN X0.here hx rfl (D d7_0) rfl rfl (st178 _ (XS.lconst X178.here hx rfl (D d7_4) (XS.lcmp X178.here hx rfl (D d7_5) rfl (XS.ifYes X178.here hx rfl (pc0 := 6) (pc' := 13) rfl (D d7_6) rfl ((if0 _ _).trans (feq (by decide : ¬ ((1 : Int32) = (0 : Int32)))).2) (by decide) (by decide) (XS.lconst X178.here hx rfl (D d7_13) (XS.dloadN X178.here hx rfl (D d7_14) rfl (XS.aloadN X178.here hx rfl (D d7_15) rfl rfl (st180 _ (XS.l2dS X180.here hx rfl (D d7_19) rfl (v := (4611686018427387904 : UInt64)) (by decide +kernel) (XS.dmulS X180.here hx rfl (D d7_20) rfl (v := (4607182418800017408 : UInt64)) own_fp38.1 own_fp38.2 (st181 _ (XS.d2lS X181.here hx rfl (D d7_24) rfl (v := (1 : Int64)) (by decide +kernel) (st182 _ (XS.lstoreN X182.here hx rfl (D d7_28) rfl (l' := #[rv ob, .val (.double (4602678819172646912 : UInt64)), .second, .val (.long (1 : Int64)), .second, .unset, .unset, .unset]) rfl (XS.lconst X182.here hx rfl (D d7_29) (XS.lstore X182.here hx rfl (D d7_30) rfl (l' := #[rv ob, .val (.double (4602678819172646912 : UInt64)), .second, .val (.long (1 : Int64)), .second, .val (.long (0 : Int64)), .second, .unset]) rfl (XS.iconst X182.here hx rfl (D d7_32) (XS.istore X182.here hx rfl (D d7_33) rfl (l' := #[rv ob, .val (.double (4602678819172646912 : UInt64)), .second, .val (.long (1 : Int64)), .second, .val (.long (0 : Int64)), .second, iv 0]) rfl k))))))))))))))))))) ?_
    exact rm_pctL hw G ob (4602678819172646912 : UInt64) ar ka js (1 : Int64) 1 (by omega) prem1 (by decide) (by omega) hx hby hml hown hret hlk hZ 16384 0 (0 : Int64) T182 h0 _ (by decide) (by decide) (by rw [show (0 : Int32).toNatClampNeg = 0 from rfl, own_lo0]; decide) (by rw [show (0 : Int32).toNatClampNeg = 0 from rfl, own_lo0]; rfl) e182 X182 N182 K0 O0 prem3 prem5
  · skip
    obtain ⟨T183, X183, e183, st183⟩ := getF X0 hx hZ hown (host := "") (Or.inl (own_w hw (i := 30) rfl)) Via.refl e0 prem4 (g := (mkF m 1 #[rv ob, .val (.double (4604930618986332160 : UInt64)), .second, .unset, .unset, .unset, .unset, .unset] [(.ref ob)])) rfl rfl (D d7_1)
    obtain ⟨T185, X185, e185, st185⟩ := getF X183 hx hZ hown (host := "") (Or.inl (own_w hw (i := 30) rfl)) Via.refl e183 prem4 (g := (mkF m 16 #[rv ob, .val (.double (4604930618986332160 : UInt64)), .second, .unset, .unset, .unset, .unset, .unset] [(.ref ob), (.double (4604930618986332160 : UInt64)), (.long (1 : Int64))])) rfl rfl (D d7_16)
    obtain ⟨T186, X186, e186, st186⟩ := own_mceil X185 hx hZ hown (own_w hw (i := 42) rfl) (own_w hw (i := 43) rfl) (own_w hw (i := 20) rfl) (own_w hw (i := 44) rfl) (own_w hw (i := 47) rfl) (own_w hw (i := 48) rfl) e185 (rm_sceil1_5 hw G hx X185.admits hZ h0 O0) (by decide) (g := (mkF m 21 #[rv ob, .val (.double (4604930618986332160 : UInt64)), .second, .unset, .unset, .unset, .unset, .unset] [(.double (4609434218613702656 : UInt64)), (.long (1 : Int64))])) rfl (by rw [hml]; rfl) rfl (D d7_21) (W := 2) (Nat.le_of_eq rfl) (by decide) (by decide)
    obtain ⟨T187, v187, L187, X187, q187, st187⟩ := callSt X186 hx hZ (y := own_m0) hown (own_w hw (i := 18) rfl) (own_w hw (i := 19) rfl) (own_w hw (i := 20) rfl) (own_w hw (i := 21) rfl) (by decide) (rm_max1_2 hw G   h0 O0 ) e186 (W := 0) (by decide) (by decide) (by decide) (by decide) (g := (mkF m 25 #[rv ob, .val (.double (4604930618986332160 : UInt64)), .second, .unset, .unset, .unset, .unset, .unset] [(.long (2 : Int64)), (.long (1 : Int64))])) rfl (by rw [hml]; rfl) (argsL := [(.long (1 : Int64)), (.long (2 : Int64))]) (rest := []) (lenOf pd12 rfl) rfl rfl (Nat.le_of_eq rfl) (D d7_25)
    obtain ⟨rfl, e187, rfl⟩ := q187
    have N187 := Fr.app N0 (Fr.nil _)
    refine Go.of (T' := T187) (f' := (mkF m 35 #[rv ob, .val (.double (4604930618986332160 : UInt64)), .second, .val (.long (2 : Int64)), .second, .val (.long (0 : Int64)), .second, iv 0] [])) (fun _ k => XS.aloadN X0.here hx rfl (D d7_0) rfl rfl (st183 _ (XS.lconst X183.here hx rfl (D d7_4) (XS.lcmp X183.here hx rfl (D d7_5) rfl (XS.ifYes X183.here hx rfl (pc0 := 6) (pc' := 13) rfl (D d7_6) rfl ((if0 _ _).trans (feq (by decide : ¬ ((1 : Int32) = (0 : Int32)))).2) (by decide) (by decide) (XS.lconst X183.here hx rfl (D d7_13) (XS.dloadN X183.here hx rfl (D d7_14) rfl (XS.aloadN X183.here hx rfl (D d7_15) rfl rfl (st185 _ (XS.l2dS X185.here hx rfl (D d7_19) rfl (v := (4611686018427387904 : UInt64)) (by decide +kernel) (XS.dmulS X185.here hx rfl (D d7_20) rfl (v := (4609434218613702656 : UInt64)) own_fp39.1 own_fp39.2 (st186 _ (XS.d2lS X186.here hx rfl (D d7_24) rfl (v := (2 : Int64)) (by decide +kernel) (st187 _ (XS.lstoreN X187.here hx rfl (D d7_28) rfl (l' := #[rv ob, .val (.double (4604930618986332160 : UInt64)), .second, .val (.long (2 : Int64)), .second, .unset, .unset, .unset]) rfl (XS.lconst X187.here hx rfl (D d7_29) (XS.lstore X187.here hx rfl (D d7_30) rfl (l' := #[rv ob, .val (.double (4604930618986332160 : UInt64)), .second, .val (.long (2 : Int64)), .second, .val (.long (0 : Int64)), .second, .unset]) rfl (XS.iconst X187.here hx rfl (D d7_32) (XS.istore X187.here hx rfl (D d7_33) rfl (l' := #[rv ob, .val (.double (4604930618986332160 : UInt64)), .second, .val (.long (2 : Int64)), .second, .val (.long (0 : Int64)), .second, iv 0]) rfl k))))))))))))))))))) ?_
    exact rm_pctL hw G ob (4604930618986332160 : UInt64) ar ka js (2 : Int64) 2 (by omega) prem1 (by decide) (by omega) hx hby hml hown hret hlk hZ 16384 0 (0 : Int64) T187 h0 _ (by decide) (by decide) (by rw [show (0 : Int32).toNatClampNeg = 0 from rfl, own_lo0]; decide) (by rw [show (0 : Int32).toNatClampNeg = 0 from rfl, own_lo0]; rfl) e187 X187 N187 K0 O0 prem3 prem5
  · skip
    obtain ⟨T188, X188, e188, st188⟩ := getF X0 hx hZ hown (host := "") (Or.inl (own_w hw (i := 30) rfl)) Via.refl e0 prem4 (g := (mkF m 1 #[rv ob, .val (.double (4607182418800017408 : UInt64)), .second, .unset, .unset, .unset, .unset, .unset] [(.ref ob)])) rfl rfl (D d7_1)
    obtain ⟨T190, X190, e190, st190⟩ := getF X188 hx hZ hown (host := "") (Or.inl (own_w hw (i := 30) rfl)) Via.refl e188 prem4 (g := (mkF m 16 #[rv ob, .val (.double (4607182418800017408 : UInt64)), .second, .unset, .unset, .unset, .unset, .unset] [(.ref ob), (.double (4607182418800017408 : UInt64)), (.long (1 : Int64))])) rfl rfl (D d7_16)
    obtain ⟨T191, X191, e191, st191⟩ := own_mceil X190 hx hZ hown (own_w hw (i := 42) rfl) (own_w hw (i := 43) rfl) (own_w hw (i := 20) rfl) (own_w hw (i := 44) rfl) (own_w hw (i := 47) rfl) (own_w hw (i := 48) rfl) e190 (rm_sceil2_0 hw G hx X190.admits hZ h0 O0) (by decide) (g := (mkF m 21 #[rv ob, .val (.double (4607182418800017408 : UInt64)), .second, .unset, .unset, .unset, .unset, .unset] [(.double (4611686018427387904 : UInt64)), (.long (1 : Int64))])) rfl (by rw [hml]; rfl) rfl (D d7_21) (W := 2) (Nat.le_of_eq rfl) (by decide) (by decide)
    obtain ⟨T192, v192, L192, X192, q192, st192⟩ := callSt X191 hx hZ (y := own_m0) hown (own_w hw (i := 18) rfl) (own_w hw (i := 19) rfl) (own_w hw (i := 20) rfl) (own_w hw (i := 21) rfl) (by decide) (rm_max1_2 hw G   h0 O0 ) e191 (W := 0) (by decide) (by decide) (by decide) (by decide) (g := (mkF m 25 #[rv ob, .val (.double (4607182418800017408 : UInt64)), .second, .unset, .unset, .unset, .unset, .unset] [(.long (2 : Int64)), (.long (1 : Int64))])) rfl (by rw [hml]; rfl) (argsL := [(.long (1 : Int64)), (.long (2 : Int64))]) (rest := []) (lenOf pd12 rfl) rfl rfl (Nat.le_of_eq rfl) (D d7_25)
    obtain ⟨rfl, e192, rfl⟩ := q192
    have N192 := Fr.app N0 (Fr.nil _)
    refine Go.of (T' := T192) (f' := (mkF m 35 #[rv ob, .val (.double (4607182418800017408 : UInt64)), .second, .val (.long (2 : Int64)), .second, .val (.long (0 : Int64)), .second, iv 0] [])) (fun _ k => XS.aloadN X0.here hx rfl (D d7_0) rfl rfl (st188 _ (XS.lconst X188.here hx rfl (D d7_4) (XS.lcmp X188.here hx rfl (D d7_5) rfl (XS.ifYes X188.here hx rfl (pc0 := 6) (pc' := 13) rfl (D d7_6) rfl ((if0 _ _).trans (feq (by decide : ¬ ((1 : Int32) = (0 : Int32)))).2) (by decide) (by decide) (XS.lconst X188.here hx rfl (D d7_13) (XS.dloadN X188.here hx rfl (D d7_14) rfl (XS.aloadN X188.here hx rfl (D d7_15) rfl rfl (st190 _ (XS.l2dS X190.here hx rfl (D d7_19) rfl (v := (4611686018427387904 : UInt64)) (by decide +kernel) (XS.dmulS X190.here hx rfl (D d7_20) rfl (v := (4611686018427387904 : UInt64)) own_fp40.1 own_fp40.2 (st191 _ (XS.d2lS X191.here hx rfl (D d7_24) rfl (v := (2 : Int64)) (by decide +kernel) (st192 _ (XS.lstoreN X192.here hx rfl (D d7_28) rfl (l' := #[rv ob, .val (.double (4607182418800017408 : UInt64)), .second, .val (.long (2 : Int64)), .second, .unset, .unset, .unset]) rfl (XS.lconst X192.here hx rfl (D d7_29) (XS.lstore X192.here hx rfl (D d7_30) rfl (l' := #[rv ob, .val (.double (4607182418800017408 : UInt64)), .second, .val (.long (2 : Int64)), .second, .val (.long (0 : Int64)), .second, .unset]) rfl (XS.iconst X192.here hx rfl (D d7_32) (XS.istore X192.here hx rfl (D d7_33) rfl (l' := #[rv ob, .val (.double (4607182418800017408 : UInt64)), .second, .val (.long (2 : Int64)), .second, .val (.long (0 : Int64)), .second, iv 0]) rfl k))))))))))))))))))) ?_
    exact rm_pctL hw G ob (4607182418800017408 : UInt64) ar ka js (2 : Int64) 2 (by omega) prem1 (by decide) (by omega) hx hby hml hown hret hlk hZ 16384 0 (0 : Int64) T192 h0 _ (by decide) (by decide) (by rw [show (0 : Int32).toNatClampNeg = 0 from rfl, own_lo0]; decide) (by rw [show (0 : Int32).toNatClampNeg = 0 from rfl, own_lo0]; rfl) e192 X192 N192 K0 O0 prem3 prem5
theorem own_fp41 : Jvm.Free.Fl.NoNaN64 (FP.dmul (4598175219545276416 : UInt64) (4613937818241073152 : UInt64)) ∧ FP.dmul (4598175219545276416 : UInt64) (4613937818241073152 : UInt64) = (4604930618986332160 : UInt64) := ⟨by unfold Jvm.Free.Fl.NoNaN64; decide +kernel, by decide +kernel⟩
theorem own_fp42 : Jvm.Free.Fl.NoNaN64 (FP.dmul (4602678819172646912 : UInt64) (4613937818241073152 : UInt64)) ∧ FP.dmul (4602678819172646912 : UInt64) (4613937818241073152 : UInt64) = (4609434218613702656 : UInt64) := ⟨by unfold Jvm.Free.Fl.NoNaN64; decide +kernel, by decide +kernel⟩
theorem own_fp43 : Jvm.Free.Fl.NoNaN64 (FP.dmul (4604930618986332160 : UInt64) (4613937818241073152 : UInt64)) ∧ FP.dmul (4604930618986332160 : UInt64) (4613937818241073152 : UInt64) = (4612248968380809216 : UInt64) := ⟨by unfold Jvm.Free.Fl.NoNaN64; decide +kernel, by decide +kernel⟩
theorem own_fp44 : Jvm.Free.Fl.NoNaN64 (FP.dmul (4607182418800017408 : UInt64) (4613937818241073152 : UInt64)) ∧ FP.dmul (4607182418800017408 : UInt64) (4613937818241073152 : UInt64) = (4613937818241073152 : UInt64) := ⟨by unfold Jvm.Free.Fl.NoNaN64; decide +kernel, by decide +kernel⟩
theorem ef_rm_pct3 (m : MethodId) (ob : Addr) (q : UInt64) : entryFrame m #[(.ref ob), (.double q)] 8 = mkF m 0 #[rv ob, .val (.double q), .second, .unset, .unset, .unset, .unset, .unset] [] := by first | (simp [entryFrame, mkF, argsToLocals, Value.category]; done) | rfl
set_option maxRecDepth 65536 in
set_option maxHeartbeats 40000000 in
theorem rm_pct3 {l : Launch} {Z : State} {a0 : Array Value} {A : Nat → Addr} {KC : Nat → Cell} {IC : Nat → Int32} {VC : Nat → Value} (hw : ∀ d ∈ tables_1, d.before a0 Z = true) (G : own_Ctx Z A KC IC VC) (ob : Addr) (q : UInt64) (ar : Addr) (ka : ClassId) (js : List Nat) (h0 : Heap) (O0 : Ext Z.heap h0) (prem0 : q = (4598175219545276416 : UInt64) ∨ q = (4602678819172646912 : UInt64) ∨ q = (4604930618986332160 : UInt64) ∨ q = (4607182418800017408 : UInt64)) (prem1 : own_lt js) (prem2 : js.length = 3) (prem3 : Fld Z h0 ob "com/example/portcall/portcall/cli/Latencies" "counts" "[J" (.ref ar)) (prem4 : Fld Z h0 ob "com/example/portcall/portcall/cli/Latencies" "total" "J" (.long (3 : Int64))) (prem5 : Arv Z h0 ar ka .long (16384 : Int32) (own_cl js) (.long (0 : Int64))) :
    Ok l Z own_m30 prog_10_method_4_code 8 (some .double) ({ frames := 8, cells := 0, slots := 0, locals := 160 } : Room) #[(.ref ob), (.double q)] h0
      (fun v h L => ∃ iz : Int32, v = some (.double (own_mid iz)) ∧ (Fr Z.heap.size L) ∧ (Keep h0 h []) ∧ (own_at js (own_rk3 q) iz)) := by
  refine Ok.mk pn36 ?_
  intro p e s m below meth c T0 hx hby hml hown hnm hret hlk hZ e0 X0
  refine Go.cast (ef_rm_pct3 m ob q) ?_
  have D := @hb _ _ hby
  have N0 := Fr.nil Z.heap.size
  have K0 : Keep h0 h0 [] := Keep.refl _ _
  rcases prem0 with rfl | rfl | rfl | rfl
  · skip
    obtain ⟨T193, X193, e193, st193⟩ := getF X0 hx hZ hown (host := "") (Or.inl (own_w hw (i := 30) rfl)) Via.refl e0 prem4 (g := (mkF m 1 #[rv ob, .val (.double (4598175219545276416 : UInt64)), .second, .unset, .unset, .unset, .unset, .unset] [(.ref ob)])) rfl rfl (D d7_1)
    obtain ⟨T195, X195, e195, st195⟩ := getF X193 hx hZ hown (host := "") (Or.inl (own_w hw (i := 30) rfl)) Via.refl e193 prem4 (g := (mkF m 16 #[rv ob, .val (.double (4598175219545276416 : UInt64)), .second, .unset, .unset, .unset, .unset, .unset] [(.ref ob), (.double (4598175219545276416 : UInt64)), (.long (1 : Int64))])) rfl rfl (D d7_16)
    obtain ⟨T196, X196, e196, st196⟩ := own_mceil X195 hx hZ hown (own_w hw (i := 42) rfl) (own_w hw (i := 43) rfl) (own_w hw (i := 20) rfl) (own_w hw (i := 44) rfl) (own_w hw (i := 47) rfl) (own_w hw (i := 48) rfl) e195 (rm_sceil0_75 hw G hx X195.admits hZ h0 O0) (by decide) (g := (mkF m 21 #[rv ob, .val (.double (4598175219545276416 : UInt64)), .second, .unset, .unset, .unset, .unset, .unset] [(.double (4604930618986332160 : UInt64)), (.long (1 : Int64))])) rfl (by rw [hml]; rfl) rfl (D d7_21) (W := 2) (Nat.le_of_eq rfl) (by decide) (by decide)
    obtain ⟨T197, v197, L197, X197, q197, st197⟩ := callSt X196 hx hZ (y := own_m0) hown (own_w hw (i := 18) rfl) (own_w hw (i := 19) rfl) (own_w hw (i := 20) rfl) (own_w hw (i := 21) rfl) (by decide) (rm_max1_1 hw G   h0 O0 ) e196 (W := 0) (by decide) (by decide) (by decide) (by decide) (g := (mkF m 25 #[rv ob, .val (.double (4598175219545276416 : UInt64)), .second, .unset, .unset, .unset, .unset, .unset] [(.long (1 : Int64)), (.long (1 : Int64))])) rfl (by rw [hml]; rfl) (argsL := [(.long (1 : Int64)), (.long (1 : Int64))]) (rest := []) (lenOf pd12 rfl) rfl rfl (Nat.le_of_eq rfl) (D d7_25)
    obtain ⟨rfl, e197, rfl⟩ := q197
    have N197 := Fr.app N0 (Fr.nil _)
    refine Go.of (T' := T197) (f' := (mkF m 35 #[rv ob, .val (.double (4598175219545276416 : UInt64)), .second, .val (.long (1 : Int64)), .second, .val (.long (0 : Int64)), .second, iv 0] [])) (fun _ k => XS.aloadN X0.here hx rfl (D d7_0) rfl rfl (st193 _ (XS.lconst X193.here hx rfl (D d7_4) (XS.lcmp X193.here hx rfl (D d7_5) rfl (XS.ifYes X193.here hx rfl (pc0 := 6) (pc' := 13) rfl (D d7_6) rfl ((if0 _ _).trans (feq (by decide : ¬ ((1 : Int32) = (0 : Int32)))).2) (by decide) (by decide) (XS.lconst X193.here hx rfl (D d7_13) (XS.dloadN X193.here hx rfl (D d7_14) rfl (XS.aloadN X193.here hx rfl (D d7_15) rfl rfl (st195 _ (XS.l2dS X195.here hx rfl (D d7_19) rfl (v := (4613937818241073152 : UInt64)) (by decide +kernel) (XS.dmulS X195.here hx rfl (D d7_20) rfl (v := (4604930618986332160 : UInt64)) own_fp41.1 own_fp41.2 (st196 _ (XS.d2lS X196.here hx rfl (D d7_24) rfl (v := (1 : Int64)) (by decide +kernel) (st197 _ (XS.lstoreN X197.here hx rfl (D d7_28) rfl (l' := #[rv ob, .val (.double (4598175219545276416 : UInt64)), .second, .val (.long (1 : Int64)), .second, .unset, .unset, .unset]) rfl (XS.lconst X197.here hx rfl (D d7_29) (XS.lstore X197.here hx rfl (D d7_30) rfl (l' := #[rv ob, .val (.double (4598175219545276416 : UInt64)), .second, .val (.long (1 : Int64)), .second, .val (.long (0 : Int64)), .second, .unset]) rfl (XS.iconst X197.here hx rfl (D d7_32) (XS.istore X197.here hx rfl (D d7_33) rfl (l' := #[rv ob, .val (.double (4598175219545276416 : UInt64)), .second, .val (.long (1 : Int64)), .second, .val (.long (0 : Int64)), .second, iv 0]) rfl k))))))))))))))))))) ?_
    exact rm_pctL hw G ob (4598175219545276416 : UInt64) ar ka js (1 : Int64) 1 (by omega) prem1 (by decide) (by omega) hx hby hml hown hret hlk hZ 16384 0 (0 : Int64) T197 h0 _ (by decide) (by decide) (by rw [show (0 : Int32).toNatClampNeg = 0 from rfl, own_lo0]; decide) (by rw [show (0 : Int32).toNatClampNeg = 0 from rfl, own_lo0]; rfl) e197 X197 N197 K0 O0 prem3 prem5
  · skip
    obtain ⟨T198, X198, e198, st198⟩ := getF X0 hx hZ hown (host := "") (Or.inl (own_w hw (i := 30) rfl)) Via.refl e0 prem4 (g := (mkF m 1 #[rv ob, .val (.double (4602678819172646912 : UInt64)), .second, .unset, .unset, .unset, .unset, .unset] [(.ref ob)])) rfl rfl (D d7_1)
    obtain ⟨T200, X200, e200, st200⟩ := getF X198 hx hZ hown (host := "") (Or.inl (own_w hw (i := 30) rfl)) Via.refl e198 prem4 (g := (mkF m 16 #[rv ob, .val (.double (4602678819172646912 : UInt64)), .second, .unset, .unset, .unset, .unset, .unset] [(.ref ob), (.double (4602678819172646912 : UInt64)), (.long (1 : Int64))])) rfl rfl (D d7_16)
    obtain ⟨T201, X201, e201, st201⟩ := own_mceil X200 hx hZ hown (own_w hw (i := 42) rfl) (own_w hw (i := 43) rfl) (own_w hw (i := 20) rfl) (own_w hw (i := 44) rfl) (own_w hw (i := 47) rfl) (own_w hw (i := 48) rfl) e200 (rm_sceil1_5 hw G hx X200.admits hZ h0 O0) (by decide) (g := (mkF m 21 #[rv ob, .val (.double (4602678819172646912 : UInt64)), .second, .unset, .unset, .unset, .unset, .unset] [(.double (4609434218613702656 : UInt64)), (.long (1 : Int64))])) rfl (by rw [hml]; rfl) rfl (D d7_21) (W := 2) (Nat.le_of_eq rfl) (by decide) (by decide)
    obtain ⟨T202, v202, L202, X202, q202, st202⟩ := callSt X201 hx hZ (y := own_m0) hown (own_w hw (i := 18) rfl) (own_w hw (i := 19) rfl) (own_w hw (i := 20) rfl) (own_w hw (i := 21) rfl) (by decide) (rm_max1_2 hw G   h0 O0 ) e201 (W := 0) (by decide) (by decide) (by decide) (by decide) (g := (mkF m 25 #[rv ob, .val (.double (4602678819172646912 : UInt64)), .second, .unset, .unset, .unset, .unset, .unset] [(.long (2 : Int64)), (.long (1 : Int64))])) rfl (by rw [hml]; rfl) (argsL := [(.long (1 : Int64)), (.long (2 : Int64))]) (rest := []) (lenOf pd12 rfl) rfl rfl (Nat.le_of_eq rfl) (D d7_25)
    obtain ⟨rfl, e202, rfl⟩ := q202
    have N202 := Fr.app N0 (Fr.nil _)
    refine Go.of (T' := T202) (f' := (mkF m 35 #[rv ob, .val (.double (4602678819172646912 : UInt64)), .second, .val (.long (2 : Int64)), .second, .val (.long (0 : Int64)), .second, iv 0] [])) (fun _ k => XS.aloadN X0.here hx rfl (D d7_0) rfl rfl (st198 _ (XS.lconst X198.here hx rfl (D d7_4) (XS.lcmp X198.here hx rfl (D d7_5) rfl (XS.ifYes X198.here hx rfl (pc0 := 6) (pc' := 13) rfl (D d7_6) rfl ((if0 _ _).trans (feq (by decide : ¬ ((1 : Int32) = (0 : Int32)))).2) (by decide) (by decide) (XS.lconst X198.here hx rfl (D d7_13) (XS.dloadN X198.here hx rfl (D d7_14) rfl (XS.aloadN X198.here hx rfl (D d7_15) rfl rfl (st200 _ (XS.l2dS X200.here hx rfl (D d7_19) rfl (v := (4613937818241073152 : UInt64)) (by decide +kernel) (XS.dmulS X200.here hx rfl (D d7_20) rfl (v := (4609434218613702656 : UInt64)) own_fp42.1 own_fp42.2 (st201 _ (XS.d2lS X201.here hx rfl (D d7_24) rfl (v := (2 : Int64)) (by decide +kernel) (st202 _ (XS.lstoreN X202.here hx rfl (D d7_28) rfl (l' := #[rv ob, .val (.double (4602678819172646912 : UInt64)), .second, .val (.long (2 : Int64)), .second, .unset, .unset, .unset]) rfl (XS.lconst X202.here hx rfl (D d7_29) (XS.lstore X202.here hx rfl (D d7_30) rfl (l' := #[rv ob, .val (.double (4602678819172646912 : UInt64)), .second, .val (.long (2 : Int64)), .second, .val (.long (0 : Int64)), .second, .unset]) rfl (XS.iconst X202.here hx rfl (D d7_32) (XS.istore X202.here hx rfl (D d7_33) rfl (l' := #[rv ob, .val (.double (4602678819172646912 : UInt64)), .second, .val (.long (2 : Int64)), .second, .val (.long (0 : Int64)), .second, iv 0]) rfl k))))))))))))))))))) ?_
    exact rm_pctL hw G ob (4602678819172646912 : UInt64) ar ka js (2 : Int64) 2 (by omega) prem1 (by decide) (by omega) hx hby hml hown hret hlk hZ 16384 0 (0 : Int64) T202 h0 _ (by decide) (by decide) (by rw [show (0 : Int32).toNatClampNeg = 0 from rfl, own_lo0]; decide) (by rw [show (0 : Int32).toNatClampNeg = 0 from rfl, own_lo0]; rfl) e202 X202 N202 K0 O0 prem3 prem5
  · skip
    obtain ⟨T203, X203, e203, st203⟩ := getF X0 hx hZ hown (host := "") (Or.inl (own_w hw (i := 30) rfl)) Via.refl e0 prem4 (g := (mkF m 1 #[rv ob, .val (.double (4604930618986332160 : UInt64)), .second, .unset, .unset, .unset, .unset, .unset] [(.ref ob)])) rfl rfl (D d7_1)
    obtain ⟨T205, X205, e205, st205⟩ := getF X203 hx hZ hown (host := "") (Or.inl (own_w hw (i := 30) rfl)) Via.refl e203 prem4 (g := (mkF m 16 #[rv ob, .val (.double (4604930618986332160 : UInt64)), .second, .unset, .unset, .unset, .unset, .unset] [(.ref ob), (.double (4604930618986332160 : UInt64)), (.long (1 : Int64))])) rfl rfl (D d7_16)
    obtain ⟨T206, X206, e206, st206⟩ := own_mceil X205 hx hZ hown (own_w hw (i := 42) rfl) (own_w hw (i := 43) rfl) (own_w hw (i := 20) rfl) (own_w hw (i := 44) rfl) (own_w hw (i := 47) rfl) (own_w hw (i := 48) rfl) e205 (rm_sceil2_25 hw G hx X205.admits hZ h0 O0) (by decide) (g := (mkF m 21 #[rv ob, .val (.double (4604930618986332160 : UInt64)), .second, .unset, .unset, .unset, .unset, .unset] [(.double (4612248968380809216 : UInt64)), (.long (1 : Int64))])) rfl (by rw [hml]; rfl) rfl (D d7_21) (W := 2) (Nat.le_of_eq rfl) (by decide) (by decide)
    obtain ⟨T207, v207, L207, X207, q207, st207⟩ := callSt X206 hx hZ (y := own_m0) hown (own_w hw (i := 18) rfl) (own_w hw (i := 19) rfl) (own_w hw (i := 20) rfl) (own_w hw (i := 21) rfl) (by decide) (rm_max1_3 hw G   h0 O0 ) e206 (W := 0) (by decide) (by decide) (by decide) (by decide) (g := (mkF m 25 #[rv ob, .val (.double (4604930618986332160 : UInt64)), .second, .unset, .unset, .unset, .unset, .unset] [(.long (3 : Int64)), (.long (1 : Int64))])) rfl (by rw [hml]; rfl) (argsL := [(.long (1 : Int64)), (.long (3 : Int64))]) (rest := []) (lenOf pd12 rfl) rfl rfl (Nat.le_of_eq rfl) (D d7_25)
    obtain ⟨rfl, e207, rfl⟩ := q207
    have N207 := Fr.app N0 (Fr.nil _)
    refine Go.of (T' := T207) (f' := (mkF m 35 #[rv ob, .val (.double (4604930618986332160 : UInt64)), .second, .val (.long (3 : Int64)), .second, .val (.long (0 : Int64)), .second, iv 0] [])) (fun _ k => XS.aloadN X0.here hx rfl (D d7_0) rfl rfl (st203 _ (XS.lconst X203.here hx rfl (D d7_4) (XS.lcmp X203.here hx rfl (D d7_5) rfl (XS.ifYes X203.here hx rfl (pc0 := 6) (pc' := 13) rfl (D d7_6) rfl ((if0 _ _).trans (feq (by decide : ¬ ((1 : Int32) = (0 : Int32)))).2) (by decide) (by decide) (XS.lconst X203.here hx rfl (D d7_13) (XS.dloadN X203.here hx rfl (D d7_14) rfl (XS.aloadN X203.here hx rfl (D d7_15) rfl rfl (st205 _ (XS.l2dS X205.here hx rfl (D d7_19) rfl (v := (4613937818241073152 : UInt64)) (by decide +kernel) (XS.dmulS X205.here hx rfl (D d7_20) rfl (v := (4612248968380809216 : UInt64)) own_fp43.1 own_fp43.2 (st206 _ (XS.d2lS X206.here hx rfl (D d7_24) rfl (v := (3 : Int64)) (by decide +kernel) (st207 _ (XS.lstoreN X207.here hx rfl (D d7_28) rfl (l' := #[rv ob, .val (.double (4604930618986332160 : UInt64)), .second, .val (.long (3 : Int64)), .second, .unset, .unset, .unset]) rfl (XS.lconst X207.here hx rfl (D d7_29) (XS.lstore X207.here hx rfl (D d7_30) rfl (l' := #[rv ob, .val (.double (4604930618986332160 : UInt64)), .second, .val (.long (3 : Int64)), .second, .val (.long (0 : Int64)), .second, .unset]) rfl (XS.iconst X207.here hx rfl (D d7_32) (XS.istore X207.here hx rfl (D d7_33) rfl (l' := #[rv ob, .val (.double (4604930618986332160 : UInt64)), .second, .val (.long (3 : Int64)), .second, .val (.long (0 : Int64)), .second, iv 0]) rfl k))))))))))))))))))) ?_
    exact rm_pctL hw G ob (4604930618986332160 : UInt64) ar ka js (3 : Int64) 3 (by omega) prem1 (by decide) (by omega) hx hby hml hown hret hlk hZ 16384 0 (0 : Int64) T207 h0 _ (by decide) (by decide) (by rw [show (0 : Int32).toNatClampNeg = 0 from rfl, own_lo0]; decide) (by rw [show (0 : Int32).toNatClampNeg = 0 from rfl, own_lo0]; rfl) e207 X207 N207 K0 O0 prem3 prem5
  · skip
    obtain ⟨T208, X208, e208, st208⟩ := getF X0 hx hZ hown (host := "") (Or.inl (own_w hw (i := 30) rfl)) Via.refl e0 prem4 (g := (mkF m 1 #[rv ob, .val (.double (4607182418800017408 : UInt64)), .second, .unset, .unset, .unset, .unset, .unset] [(.ref ob)])) rfl rfl (D d7_1)
    obtain ⟨T210, X210, e210, st210⟩ := getF X208 hx hZ hown (host := "") (Or.inl (own_w hw (i := 30) rfl)) Via.refl e208 prem4 (g := (mkF m 16 #[rv ob, .val (.double (4607182418800017408 : UInt64)), .second, .unset, .unset, .unset, .unset, .unset] [(.ref ob), (.double (4607182418800017408 : UInt64)), (.long (1 : Int64))])) rfl rfl (D d7_16)
    obtain ⟨T211, X211, e211, st211⟩ := own_mceil X210 hx hZ hown (own_w hw (i := 42) rfl) (own_w hw (i := 43) rfl) (own_w hw (i := 20) rfl) (own_w hw (i := 44) rfl) (own_w hw (i := 47) rfl) (own_w hw (i := 48) rfl) e210 (rm_sceil3_0 hw G hx X210.admits hZ h0 O0) (by decide) (g := (mkF m 21 #[rv ob, .val (.double (4607182418800017408 : UInt64)), .second, .unset, .unset, .unset, .unset, .unset] [(.double (4613937818241073152 : UInt64)), (.long (1 : Int64))])) rfl (by rw [hml]; rfl) rfl (D d7_21) (W := 2) (Nat.le_of_eq rfl) (by decide) (by decide)
    obtain ⟨T212, v212, L212, X212, q212, st212⟩ := callSt X211 hx hZ (y := own_m0) hown (own_w hw (i := 18) rfl) (own_w hw (i := 19) rfl) (own_w hw (i := 20) rfl) (own_w hw (i := 21) rfl) (by decide) (rm_max1_3 hw G   h0 O0 ) e211 (W := 0) (by decide) (by decide) (by decide) (by decide) (g := (mkF m 25 #[rv ob, .val (.double (4607182418800017408 : UInt64)), .second, .unset, .unset, .unset, .unset, .unset] [(.long (3 : Int64)), (.long (1 : Int64))])) rfl (by rw [hml]; rfl) (argsL := [(.long (1 : Int64)), (.long (3 : Int64))]) (rest := []) (lenOf pd12 rfl) rfl rfl (Nat.le_of_eq rfl) (D d7_25)
    obtain ⟨rfl, e212, rfl⟩ := q212
    have N212 := Fr.app N0 (Fr.nil _)
    refine Go.of (T' := T212) (f' := (mkF m 35 #[rv ob, .val (.double (4607182418800017408 : UInt64)), .second, .val (.long (3 : Int64)), .second, .val (.long (0 : Int64)), .second, iv 0] [])) (fun _ k => XS.aloadN X0.here hx rfl (D d7_0) rfl rfl (st208 _ (XS.lconst X208.here hx rfl (D d7_4) (XS.lcmp X208.here hx rfl (D d7_5) rfl (XS.ifYes X208.here hx rfl (pc0 := 6) (pc' := 13) rfl (D d7_6) rfl ((if0 _ _).trans (feq (by decide : ¬ ((1 : Int32) = (0 : Int32)))).2) (by decide) (by decide) (XS.lconst X208.here hx rfl (D d7_13) (XS.dloadN X208.here hx rfl (D d7_14) rfl (XS.aloadN X208.here hx rfl (D d7_15) rfl rfl (st210 _ (XS.l2dS X210.here hx rfl (D d7_19) rfl (v := (4613937818241073152 : UInt64)) (by decide +kernel) (XS.dmulS X210.here hx rfl (D d7_20) rfl (v := (4613937818241073152 : UInt64)) own_fp44.1 own_fp44.2 (st211 _ (XS.d2lS X211.here hx rfl (D d7_24) rfl (v := (3 : Int64)) (by decide +kernel) (st212 _ (XS.lstoreN X212.here hx rfl (D d7_28) rfl (l' := #[rv ob, .val (.double (4607182418800017408 : UInt64)), .second, .val (.long (3 : Int64)), .second, .unset, .unset, .unset]) rfl (XS.lconst X212.here hx rfl (D d7_29) (XS.lstore X212.here hx rfl (D d7_30) rfl (l' := #[rv ob, .val (.double (4607182418800017408 : UInt64)), .second, .val (.long (3 : Int64)), .second, .val (.long (0 : Int64)), .second, .unset]) rfl (XS.iconst X212.here hx rfl (D d7_32) (XS.istore X212.here hx rfl (D d7_33) rfl (l' := #[rv ob, .val (.double (4607182418800017408 : UInt64)), .second, .val (.long (3 : Int64)), .second, .val (.long (0 : Int64)), .second, iv 0]) rfl k))))))))))))))))))) ?_
    exact rm_pctL hw G ob (4607182418800017408 : UInt64) ar ka js (3 : Int64) 3 (by omega) prem1 (by decide) (by omega) hx hby hml hown hret hlk hZ 16384 0 (0 : Int64) T212 h0 _ (by decide) (by decide) (by rw [show (0 : Int32).toNatClampNeg = 0 from rfl, own_lo0]; decide) (by rw [show (0 : Int32).toNatClampNeg = 0 from rfl, own_lo0]; rfl) e212 X212 N212 K0 O0 prem3 prem5
theorem d7_9 : decode prog_10_method_4_code 9 = .ok (.ldc2_w 34, 3) := by decide +kernel
theorem d7_12 : decode prog_10_method_4_code 12 = .ok (.dreturn, 1) := by decide +kernel
theorem ef_rm_pct0 (m : MethodId) (ob : Addr) (q : UInt64) : entryFrame m #[(.ref ob), (.double q)] 8 = mkF m 0 #[rv ob, .val (.double q), .second, .unset, .unset, .unset, .unset, .unset] [] := by first | (simp [entryFrame, mkF, argsToLocals, Value.category]; done) | rfl
set_option maxRecDepth 65536 in
set_option maxHeartbeats 40000000 in
theorem rm_pct0 {l : Launch} {Z : State} {a0 : Array Value} {A : Nat → Addr} {KC : Nat → Cell} {IC : Nat → Int32} {VC : Nat → Value} (hw : ∀ d ∈ tables_1, d.before a0 Z = true) (G : own_Ctx Z A KC IC VC) (ob : Addr) (q : UInt64)  (h0 : Heap) (O0 : Ext Z.heap h0) (prem0 : Fld Z h0 ob "com/example/portcall/portcall/cli/Latencies" "total" "J" (.long (0 : Int64))) :
    Ok l Z own_m30 prog_10_method_4_code 8 (some .double) ({ frames := 0, cells := 0, slots := 0, locals := 0 } : Room) #[(.ref ob), (.double q)] h0
      (fun v h L => v = some (.double (9221120237041090560 : UInt64)) ∧ (h = h0) ∧ (L = [])) := by
  refine Ok.mk pn36 ?_
  intro p e s m below meth c T0 hx hby hml hown hnm hret hlk hZ e0 X0
  refine Go.cast (ef_rm_pct0 m ob q) ?_
  have D := @hb _ _ hby
  have N0 := Fr.nil Z.heap.size
  have K0 : Keep h0 h0 [] := Keep.refl _ _
  obtain ⟨T213, X213, e213, st213⟩ := getF X0 hx hZ hown (host := "") (Or.inl (own_w hw (i := 30) rfl)) Via.refl e0 prem0 (g := (mkF m 1 #[rv ob, .val (.double q), .second, .unset, .unset, .unset, .unset, .unset] [(.ref ob)])) rfl rfl (D d7_1)
  refine Go.of (T' := T213) (f' := (mkF m 12 #[rv ob, .val (.double q), .second, .unset, .unset, .unset, .unset, .unset] [(.double (9221120237041090560 : UInt64))])) (fun _ k => XS.aloadN X0.here hx rfl (D d7_0) rfl rfl (st213 _ (XS.lconst X213.here hx rfl (D d7_4) (XS.lcmp X213.here hx rfl (D d7_5) rfl (XS.ifNo X213.here hx rfl (D d7_6) rfl ((if0 _ _).trans (teq (by decide : (0 : Int32) = (0 : Int32))).2) (X213.ldc2DoubleC hx hown (mvT hZ (own_w hw (i := 86) rfl)) (g := (mkF m 9 #[rv ob, .val (.double q), .second, .unset, .unset, .unset, .unset, .unset] [])) rfl (D d7_9) _ k)))))) ?_
  exact Go.retD X213 hx hlk hret (D d7_12) (by decide) (by decide) (by rw [e213]; exact ⟨rfl, rfl, by simp⟩)
theorem d13_0 : decode method_2_code 0 = .ok (.dload_n 0, 1) := by decide +kernel
theorem d13_1 : decode method_2_code 1 = .ok (.dload_n 0, 1) := by decide +kernel
theorem d13_2 : decode method_2_code 2 = .ok (.dcmp .l, 1) := by decide +kernel
theorem d13_3 : decode method_2_code 3 = .ok (.ifCond .eq 15, 3) := by decide +kernel
theorem d13_18 : decode method_2_code 18 = .ok (.dload_n 0, 1) := by decide +kernel
theorem d13_19 : decode method_2_code 19 = .ok (.dload_n 2, 1) := by decide +kernel
theorem d13_20 : decode method_2_code 20 = .ok (.dcmp .l, 1) := by decide +kernel
theorem d13_21 : decode method_2_code 21 = .ok (.ifCond .ne 7, 3) := by decide +kernel
theorem d13_24 : decode method_2_code 24 = .ok (.iconst 1, 1) := by decide +kernel
theorem d13_25 : decode method_2_code 25 = .ok (.goto 4, 3) := by decide +kernel
theorem d13_29 : decode method_2_code 29 = .ok (.ireturn, 1) := by decide +kernel
theorem d13_6 : decode method_2_code 6 = .ok (.dload_n 2, 1) := by decide +kernel
theorem d13_7 : decode method_2_code 7 = .ok (.dload_n 2, 1) := by decide +kernel
theorem d13_8 : decode method_2_code 8 = .ok (.dcmp .l, 1) := by decide +kernel
theorem d13_9 : decode method_2_code 9 = .ok (.ifCond .eq 7, 3) := by decide +kernel
theorem d13_12 : decode method_2_code 12 = .ok (.iconst 1, 1) := by decide +kernel
theorem d13_13 : decode method_2_code 13 = .ok (.goto 4, 3) := by decide +kernel
theorem d13_17 : decode method_2_code 17 = .ok (.ireturn, 1) := by decide +kernel
abbrev own_m45 : MethodName := (⟨"com/example/portcall/portcall/cli/LatenciesAddPinLaw", "same", "(DD)Z"⟩ : MethodName)
theorem ef_rm_same (m : MethodId) (x : UInt64) (y : UInt64) : entryFrame m #[(.double x), (.double y)] 4 = mkF m 0 #[.val (.double x), .second, .val (.double y), .second] [] := by first | (simp [entryFrame, mkF, argsToLocals, Value.category]; done) | rfl
theorem pn46 : plainFor (⟨"com/example/portcall/portcall/cli/LatenciesAddPinLaw", "same", "(DD)Z"⟩ : MethodName) = true := by first | exact plainFor_of_name (by first | (simp [plainName, overriddenIn]; done) | decide +kernel) | decide +kernel
set_option maxRecDepth 65536 in
set_option maxHeartbeats 40000000 in
theorem rm_same {l : Launch} {Z : State} {a0 : Array Value} {A : Nat → Addr} {KC : Nat → Cell} {IC : Nat → Int32} {VC : Nat → Value} (hw : ∀ d ∈ tables_1, d.before a0 Z = true) (G : own_Ctx Z A KC IC VC) (x : UInt64) (y : UInt64)  (h0 : Heap) (O0 : Ext Z.heap h0) (prem0 : y = x) :
    Ok l Z own_m45 method_2_code 4 (some .boolean) ({ frames := 0, cells := 0, slots := 0, locals := 0 } : Room) #[(.double x), (.double y)] h0
      (fun v h L => v = some (.int (1 : Int32)) ∧ (h = h0) ∧ (L = [])) := by
  refine Ok.mk pn46 ?_
  intro p e s m below meth c T0 hx hby hml hown hnm hret hlk hZ e0 X0
  refine Go.cast (ef_rm_same m x y) ?_
  have D := @hb _ _ hby
  have N0 := Fr.nil Z.heap.size
  have K0 : Keep h0 h0 [] := Keep.refl _ _
  refine Go.of (T' := T0) (f' := (mkF m 3 #[.val (.double x), .second, .val (.double y), .second] [(.int (cmpValue (FP.dcmp x x) .l))])) (fun _ k => XS.dloadN X0.here hx rfl (D d13_0) rfl (XS.dloadN X0.here hx rfl (D d13_1) rfl (XS.dcmpS X0.here hx rfl (D d13_2) rfl rfl k))) ?_
  by_cases hc215 : (cmpValue (FP.dcmp x x) .l) = (0 : Int32)
  · skip
    have hc216 : (cmpValue (FP.dcmp x y) .l) = (0 : Int32) := by rw [prem0]; exact hc215
    refine Go.of (T' := T0) (f' := (mkF m 29 #[.val (.double x), .second, .val (.double y), .second] [(.int 1)])) (fun _ k => XS.ifYes X0.here hx rfl (pc0 := 3) (pc' := 18) rfl (D d13_3) rfl ((if0 _ _).trans (teq hc215).1) (by decide) (by decide) (XS.dloadN X0.here hx rfl (D d13_18) rfl (XS.dloadN X0.here hx rfl (D d13_19) rfl (XS.dcmpS X0.here hx rfl (D d13_20) rfl rfl (XS.ifNo X0.here hx rfl (D d13_21) rfl ((if0 _ _).trans (teq hc216).2) (XS.iconst X0.here hx rfl (D d13_24) (XS.goto X0.here hx rfl (pc0 := 25) (pc' := 29) rfl (D d13_25) (by decide) (by decide) k))))))) ?_
    exact Go.retB X0 hx hlk hret (by simp) (D d13_29) (by decide) (by decide) (z' := (1 : Int32)) rfl (by rw [e0]; exact ⟨rfl, rfl, by simp⟩)
  · skip
    have hc217 : ¬ ((cmpValue (FP.dcmp y y) .l) = (0 : Int32)) := by rw [prem0]; exact hc215
    refine Go.of (T' := T0) (f' := (mkF m 17 #[.val (.double x), .second, .val (.double y), .second] [(.int 1)])) (fun _ k => XS.ifNo X0.here hx rfl (D d13_3) rfl ((if0 _ _).trans (feq hc215).1) (XS.dloadN X0.here hx rfl (D d13_6) rfl (XS.dloadN X0.here hx rfl (D d13_7) rfl (XS.dcmpS X0.here hx rfl (D d13_8) rfl rfl (XS.ifNo X0.here hx rfl (D d13_9) rfl ((if0 _ _).trans (feq hc217).1) (XS.iconst X0.here hx rfl (D d13_12) (XS.goto X0.here hx rfl (pc0 := 13) (pc' := 17) rfl (D d13_13) (by decide) (by decide) k))))))) ?_
    exact Go.retB X0 hx hlk hret (by simp) (D d13_17) (by decide) (by decide) (z' := (1 : Int32)) rfl (by rw [e0]; exact ⟨rfl, rfl, by simp⟩)
theorem own_q4 (p : Int32) : FP.ddiv (FP.i2d ((p &&& (3 : Int32)) + (1 : Int32))) (4616189618054758400 : UInt64) = (4598175219545276416 : UInt64) ∨ FP.ddiv (FP.i2d ((p &&& (3 : Int32)) + (1 : Int32))) (4616189618054758400 : UInt64) = (4602678819172646912 : UInt64) ∨ FP.ddiv (FP.i2d ((p &&& (3 : Int32)) + (1 : Int32))) (4616189618054758400 : UInt64) = (4604930618986332160 : UInt64) ∨ FP.ddiv (FP.i2d ((p &&& (3 : Int32)) + (1 : Int32))) (4616189618054758400 : UInt64) = (4607182418800017408 : UInt64) := by
  have h := c_and p 3 (by decide)
  have e3 : (3 : Int32).toInt = 3 := rfl
  have k : (p &&& (3 : Int32)) = 0 ∨ (p &&& (3 : Int32)) = 1 ∨ (p &&& (3 : Int32)) = 2 ∨ (p &&& (3 : Int32)) = 3 := by
    simp only [← Int32.toInt_inj]
    have e0 : (0 : Int32).toInt = 0 := rfl
    have e1 : (1 : Int32).toInt = 1 := rfl
    have e2 : (2 : Int32).toInt = 2 := rfl
    omega
  rcases k with k | k | k | k <;> rw [k]
  · exact Or.inl (by decide +kernel)
  · exact Or.inr (Or.inl (by decide +kernel))
  · exact Or.inr (Or.inr (Or.inl (by decide +kernel)))
  · exact Or.inr (Or.inr (Or.inr (by decide +kernel)))
theorem pd47 : parseMethodDescriptor "()V" = some ⟨[], none⟩ := by decide +kernel
theorem pd48 : parseMethodDescriptor "(Lcom/example/portcall/portcall/cli/Latencies;)V" = some ⟨[(.object "com/example/portcall/portcall/cli/Latencies")], none⟩ := by decide +kernel
theorem pd49 : parseMethodDescriptor "(D)D" = some ⟨[.double], some .double⟩ := by decide +kernel
theorem pd50 : parseMethodDescriptor "(DD)Z" = some ⟨[.double, .double], some .boolean⟩ := by decide +kernel
theorem pd51 : parseMethodDescriptor "(J)V" = some ⟨[.long], none⟩ := by decide +kernel
theorem ef_rm_law (m : MethodId) (p0 : Int64) (p1 : Int64) (p2 : Int64) (p3 : Int32) (p4 : Int32) : entryFrame m #[(.long p0), (.long p1), (.long p2), (.int p3), (.int p4)] maxLocals = mkF m 0 #[.val (.long p0), .second, .val (.long p1), .second, .val (.long p2), .second, iv p3, iv p4, .unset, .unset, .unset, .unset, .unset, .unset, .unset, .unset, .unset, .unset, .unset, .unset] [] := by first | (simp [entryFrame, mkF, argsToLocals, Value.category, maxLocals]; done) | rfl
theorem pn52 : plainFor (⟨"com/example/portcall/portcall/cli/LatenciesAddPinLaw", "law", "(JJJII)Z"⟩ : MethodName) = true := by first | exact plainFor_of_name (by first | (simp [plainName, overriddenIn]; done) | decide +kernel) | decide +kernel
set_option maxRecDepth 65536 in
set_option maxHeartbeats 40000000 in
theorem rm_law {l : Launch} {Z : State} {a0 : Array Value} {A : Nat → Addr} {KC : Nat → Cell} {IC : Nat → Int32} {VC : Nat → Value} (hw : ∀ d ∈ tables_1, d.before a0 Z = true) (G : own_Ctx Z A KC IC VC) (p0 : Int64) (p1 : Int64) (p2 : Int64) (p3 : Int32) (p4 : Int32)  (h0 : Heap) (O0 : Ext Z.heap h0)  :
    Ok l Z x code maxLocals ret room_1 #[(.long p0), (.long p1), (.long p2), (.int p3), (.int p4)] h0
      (fun v h L => v = some (.int (1 : Int32)) ∧ (Fr Z.heap.size L)) := by
  refine Ok.mk pn52 ?_
  intro p e s m below meth c T0 hx hby hml hown hnm hret hlk hZ e0 X0
  have hml : c.maxLocals = 20 := hml
  have hown : s.vm.findClass "com/example/portcall/portcall/cli/LatenciesAddPinLaw" = some m.cls := hown
  refine Go.cast (ef_rm_law m p0 p1 p2 p3 p4) ?_
  have D := @hb _ _ hby
  have N0 := Fr.nil Z.heap.size
  have K0 : Keep h0 h0 [] := Keep.refl _ _
  refine Go.of (T' := T0) (f' := (mkF m 4 #[.val (.long p0), .second, .val (.long p1), .second, .val (.long p2), .second, iv p3, iv p4, .unset, .unset, .unset, .unset, .unset, .unset, .unset, .unset, .unset, .unset, .unset, .unset] [(.int (p3 &&& (1 : Int32)))])) (fun _ k => XS.iload X0.here hx rfl (D at_0) rfl (XS.iconst X0.here hx rfl (D at_2) (XS.iand X0.here hx rfl (D at_3) rfl k))) ?_
  by_cases hc218 : (p3 &&& (1 : Int32)) = (0 : Int32)
  · skip
    refine Go.of (T' := T0) (f' := (mkF m 18 #[.val (.long p0), .second, .val (.long p1), .second, .val (.long p2), .second, iv p3, iv p4, iv 0, .unset, .unset, .unset, .unset, .unset, .unset, .unset, .unset, .unset, .unset, .unset] [(.int (p3 &&& (2 : Int32)))])) (fun _ k => XS.ifYes X0.here hx rfl (pc0 := 4) (pc' := 11) rfl (D at_4) rfl ((if0 _ _).trans (teq hc218).1) (by decide) (by decide) (XS.iconst X0.here hx rfl (D at_11) (XS.istore X0.here hx rfl (D at_12) rfl (l' := #[.val (.long p0), .second, .val (.long p1), .second, .val (.long p2), .second, iv p3, iv p4, iv 0, .unset, .unset, .unset, .unset, .unset, .unset, .unset, .unset, .unset, .unset, .unset]) rfl (XS.iload X0.here hx rfl (D at_14) rfl (XS.iconst X0.here hx rfl (D at_16) (XS.iand X0.here hx rfl (D at_17) rfl k)))))) ?_
    by_cases hc219 : (p3 &&& (2 : Int32)) = (0 : Int32)
    · skip
      refine Go.of (T' := T0) (f' := (mkF m 32 #[.val (.long p0), .second, .val (.long p1), .second, .val (.long p2), .second, iv p3, iv p4, iv 0, iv 0, .unset, .unset, .unset, .unset, .unset, .unset, .unset, .unset, .unset, .unset] [(.int (p3 &&& (4 : Int32)))])) (fun _ k => XS.ifYes X0.here hx rfl (pc0 := 18) (pc' := 25) rfl (D at_18) rfl ((if0 _ _).trans (teq hc219).1) (by decide) (by decide) (XS.iconst X0.here hx rfl (D at_25) (XS.istore X0.here hx rfl (D at_26) rfl (l' := #[.val (.long p0), .second, .val (.long p1), .second, .val (.long p2), .second, iv p3, iv p4, iv 0, iv 0, .unset, .unset, .unset, .unset, .unset, .unset, .unset, .unset, .unset, .unset]) rfl (XS.iload X0.here hx rfl (D at_28) rfl (XS.iconst X0.here hx rfl (D at_30) (XS.iand X0.here hx rfl (D at_31) rfl k)))))) ?_
      by_cases hc220 : (p3 &&& (4 : Int32)) = (0 : Int32)
      · skip
        refine Go.of (T' := T0) (f' := (mkF m 53 #[.val (.long p0), .second, .val (.long p1), .second, .val (.long p2), .second, iv p3, iv p4, iv 0, iv 0, iv 0, .unset, .unset, .unset, .unset, .unset, .unset, .unset, .unset, .unset] [(.double (FP.ddiv (FP.i2d ((p4 &&& (3 : Int32)) + (1 : Int32))) (4616189618054758400 : UInt64)))])) (fun _ k => XS.ifYes X0.here hx rfl (pc0 := 32) (pc' := 39) rfl (D at_32) rfl ((if0 _ _).trans (teq hc220).1) (by decide) (by decide) (XS.iconst X0.here hx rfl (D at_39) (XS.istore X0.here hx rfl (D at_40) rfl (l' := #[.val (.long p0), .second, .val (.long p1), .second, .val (.long p2), .second, iv p3, iv p4, iv 0, iv 0, iv 0, .unset, .unset, .unset, .unset, .unset, .unset, .unset, .unset, .unset]) rfl (XS.iload X0.here hx rfl (D at_42) rfl (XS.iconst X0.here hx rfl (D at_44) (XS.iand X0.here hx rfl (D at_45) rfl (XS.iconst X0.here hx rfl (D at_46) (XS.iadd X0.here hx rfl (D at_47) rfl (XS.i2dS X0.here hx rfl (D at_48) rfl rfl (X0.ldc2DoubleC hx hown (mvT hZ (own_w hw (i := 0) rfl)) (g := (mkF m 49 #[.val (.long p0), .second, .val (.long p1), .second, .val (.long p2), .second, iv p3, iv p4, iv 0, iv 0, iv 0, .unset, .unset, .unset, .unset, .unset, .unset, .unset, .unset, .unset] [(.double (FP.i2d ((p4 &&& (3 : Int32)) + (1 : Int32))))])) rfl (D at_49) _ (XS.ddivS X0.here hx rfl (D at_52) rfl (own_nn4 _) rfl k))))))))))) ?_
        generalize hqv : ((FP.ddiv (FP.i2d ((p4 &&& (3 : Int32)) + (1 : Int32))) (4616189618054758400 : UInt64)) : UInt64) = qv
        have hq := hqv ▸ own_q4 p4
        obtain ⟨T221, h221, b221, q221, X221, e221, E221, A221, D221, st221⟩ := newOb X0 hx hZ hown (own_w hw (i := 1) rfl) (own_w hw (i := 2) rfl) (own_w hw (i := 3) rfl) e0 (g := (mkF m 55 #[.val (.long p0), .second, .val (.long p1), .second, .val (.long p2), .second, iv p3, iv p4, iv 0, iv 0, iv 0, .val (.double qv), .second, .unset, .unset, .unset, .unset, .unset, .unset, .unset] [])) rfl (D at_55) (by decide) (by decide)
        have O222 := Old0.ext O0 E221
        have g_b221 : Z.heap.size ≤ b221 := q221 ▸ O0.1
        have f223 : Fld Z h221 b221 "com/example/portcall/portcall/cli/Latencies" "counts" "[J" .null := D221 (Or.inr (own_w hw (i := 12) rfl)) (ty := (.array .long)) (by decide)
        have f224 : Fld Z h221 b221 "com/example/portcall/portcall/cli/Latencies" "total" "J" (.long (0 : Int64)) := D221 (Or.inl (own_w hw (i := 31) rfl)) (ty := .long) (by decide)
        obtain ⟨T225, v225, L225, X225, q225, st225⟩ := callNew X221 hx hZ (y := own_m10) rfl hown (own_w hw (i := 4) rfl) (own_w hw (i := 5) rfl) (own_w hw (i := 3) rfl) (own_w hw (i := 6) rfl) (by decide) (rm_init hw G b221  h221 O222 A221 f223 f224 g_b221) e221 (W := 1) (by decide) (by decide) (by decide) (by decide) (g := (mkF m 59 #[.val (.long p0), .second, .val (.long p1), .second, .val (.long p2), .second, iv p3, iv p4, iv 0, iv 0, iv 0, .val (.double qv), .second, .unset, .unset, .unset, .unset, .unset, .unset, .unset] [(.ref b221), (.ref b221)])) rfl (by rw [hml]; rfl) (a := b221) (argsL := []) (rest := [(.ref b221)]) (lenOf pd47 rfl) rfl rfl (Nat.le_of_eq rfl) (D at_59)
        obtain ⟨ar_225, ka_225, rfl, N225q, K225q, p225_0, p225_1, p225_2, p225_3⟩ := q225
        have N225 := Fr.app N0 N225q
        have O226 := Old0.keep O222 K225q (allS g_b221 all0)
        have g_ar_225 : Z.heap.size ≤ ar_225 := Nat.le_trans O222.1 p225_0
        have ne_b221_ar_225 : b221 ≠ ar_225 := Nat.ne_of_lt (Nat.lt_of_lt_of_le A221.lt p225_0)
        have f228 : Exa Z T225.heap b221 "com/example/portcall/portcall/cli/Latencies" := (Exa.keep A221 K225q)
        obtain ⟨T227, h227, b227, q227, X227, e227, E227, A227, D227, st227⟩ := newOb X225 hx hZ hown (own_w hw (i := 1) rfl) (own_w hw (i := 2) rfl) (own_w hw (i := 3) rfl) rfl (g := (mkF m 64 #[.val (.long p0), .second, .val (.long p1), .second, .val (.long p2), .second, iv p3, iv p4, iv 0, iv 0, iv 0, .val (.double qv), .second, rv b221, .unset, .unset, .unset, .unset, .unset, .unset] [])) rfl (D at_64) (by decide) (by decide)
        have O229 := Old0.ext O226 E227
        have g_b227 : Z.heap.size ≤ b227 := q227 ▸ O226.1
        have ne_b221_b227 : b221 ≠ b227 := q227 ▸ Nat.ne_of_lt f228.lt
        have ne_ar_225_b227 : ar_225 ≠ b227 := q227 ▸ Nat.ne_of_lt p225_3.lt
        have f230 : Fld Z h227 b227 "com/example/portcall/portcall/cli/Latencies" "counts" "[J" .null := D227 (Or.inr (own_w hw (i := 12) rfl)) (ty := (.array .long)) (by decide)
        have f231 : Fld Z h227 b227 "com/example/portcall/portcall/cli/Latencies" "total" "J" (.long (0 : Int64)) := D227 (Or.inl (own_w hw (i := 31) rfl)) (ty := .long) (by decide)
        have f233 : Exa Z h227 b221 "com/example/portcall/portcall/cli/Latencies" := (Exa.ext E227 f228)
        have f234 : Arv Z h227 ar_225 ka_225 .long (16384 : Int32) (own_cl ([] : List Nat)) (.long (0 : Int64)) := (Arv.ext p225_3 E227)
        obtain ⟨T232, v232, L232, X232, q232, st232⟩ := callNew X227 hx hZ (y := own_m10) rfl hown (own_w hw (i := 4) rfl) (own_w hw (i := 5) rfl) (own_w hw (i := 3) rfl) (own_w hw (i := 6) rfl) (by decide) (rm_init hw G b227  h227 O229 A227 f230 f231 g_b227) e227 (W := 1) (by decide) (by decide) (by decide) (by decide) (g := (mkF m 68 #[.val (.long p0), .second, .val (.long p1), .second, .val (.long p2), .second, iv p3, iv p4, iv 0, iv 0, iv 0, .val (.double qv), .second, rv b221, .unset, .unset, .unset, .unset, .unset, .unset] [(.ref b227), (.ref b227)])) rfl (by rw [hml]; rfl) (a := b227) (argsL := []) (rest := [(.ref b227)]) (lenOf pd47 rfl) rfl rfl (Nat.le_of_eq rfl) (D at_68)
        obtain ⟨ar_232, ka_232, rfl, N232q, K232q, p232_0, p232_1, p232_2, p232_3⟩ := q232
        have N232 := Fr.app N225 N232q
        have O235 := Old0.keep O229 K232q (allS g_b227 all0)
        have g_ar_232 : Z.heap.size ≤ ar_232 := Nat.le_trans O229.1 p232_0
        have ne_b221_ar_232 : b221 ≠ ar_232 := Nat.ne_of_lt (Nat.lt_of_lt_of_le f233.lt p232_0)
        have ne_ar_225_ar_232 : ar_225 ≠ ar_232 := Nat.ne_of_lt (Nat.lt_of_lt_of_le f234.lt p232_0)
        have ne_b227_ar_232 : b227 ≠ ar_232 := Nat.ne_of_lt (Nat.lt_of_lt_of_le A227.lt p232_0)
        have f237 : Exa Z T232.heap b221 "com/example/portcall/portcall/cli/Latencies" := (Exa.keep f233 K232q)
        have f238 : Arv Z T232.heap ar_225 ka_225 .long (16384 : Int32) (own_cl ([] : List Nat)) (.long (0 : Int64)) := (Arv.keep f234 K232q (ninS ne_ar_225_b227 nin0))
        have f239 : Exa Z T232.heap b227 "com/example/portcall/portcall/cli/Latencies" := (Exa.keep A227 K232q)
        obtain ⟨T236, h236, b236, q236, X236, e236, E236, A236, D236, st236⟩ := newOb X232 hx hZ hown (own_w hw (i := 1) rfl) (own_w hw (i := 2) rfl) (own_w hw (i := 3) rfl) rfl (g := (mkF m 73 #[.val (.long p0), .second, .val (.long p1), .second, .val (.long p2), .second, iv p3, iv p4, iv 0, iv 0, iv 0, .val (.double qv), .second, rv b221, rv b227, .unset, .unset, .unset, .unset, .unset] [])) rfl (D at_73) (by decide) (by decide)
        have O240 := Old0.ext O235 E236
        have g_b236 : Z.heap.size ≤ b236 := q236 ▸ O235.1
        have ne_b221_b236 : b221 ≠ b236 := q236 ▸ Nat.ne_of_lt f237.lt
        have ne_ar_225_b236 : ar_225 ≠ b236 := q236 ▸ Nat.ne_of_lt f238.lt
        have ne_b227_b236 : b227 ≠ b236 := q236 ▸ Nat.ne_of_lt f239.lt
        have ne_ar_232_b236 : ar_232 ≠ b236 := q236 ▸ Nat.ne_of_lt p232_3.lt
        have f241 : Fld Z h236 b236 "com/example/portcall/portcall/cli/Latencies" "counts" "[J" .null := D236 (Or.inr (own_w hw (i := 12) rfl)) (ty := (.array .long)) (by decide)
        have f242 : Fld Z h236 b236 "com/example/portcall/portcall/cli/Latencies" "total" "J" (.long (0 : Int64)) := D236 (Or.inl (own_w hw (i := 31) rfl)) (ty := .long) (by decide)
        have f244 : Exa Z h236 b221 "com/example/portcall/portcall/cli/Latencies" := (Exa.ext E236 f237)
        have f245 : Arv Z h236 ar_225 ka_225 .long (16384 : Int32) (own_cl ([] : List Nat)) (.long (0 : Int64)) := (Arv.ext f238 E236)
        have f246 : Exa Z h236 b227 "com/example/portcall/portcall/cli/Latencies" := (Exa.ext E236 f239)
        have f247 : Arv Z h236 ar_232 ka_232 .long (16384 : Int32) (own_cl ([] : List Nat)) (.long (0 : Int64)) := (Arv.ext p232_3 E236)
        obtain ⟨T243, v243, L243, X243, q243, st243⟩ := callNew X236 hx hZ (y := own_m10) rfl hown (own_w hw (i := 4) rfl) (own_w hw (i := 5) rfl) (own_w hw (i := 3) rfl) (own_w hw (i := 6) rfl) (by decide) (rm_init hw G b236  h236 O240 A236 f241 f242 g_b236) e236 (W := 1) (by decide) (by decide) (by decide) (by decide) (g := (mkF m 77 #[.val (.long p0), .second, .val (.long p1), .second, .val (.long p2), .second, iv p3, iv p4, iv 0, iv 0, iv 0, .val (.double qv), .second, rv b221, rv b227, .unset, .unset, .unset, .unset, .unset] [(.ref b236), (.ref b236)])) rfl (by rw [hml]; rfl) (a := b236) (argsL := []) (rest := [(.ref b236)]) (lenOf pd47 rfl) rfl rfl (Nat.le_of_eq rfl) (D at_77)
        obtain ⟨ar_243, ka_243, rfl, N243q, K243q, p243_0, p243_1, p243_2, p243_3⟩ := q243
        have N243 := Fr.app N232 N243q
        have O248 := Old0.keep O240 K243q (allS g_b236 all0)
        have g_ar_243 : Z.heap.size ≤ ar_243 := Nat.le_trans O240.1 p243_0
        have ne_b221_ar_243 : b221 ≠ ar_243 := Nat.ne_of_lt (Nat.lt_of_lt_of_le f244.lt p243_0)
        have ne_ar_225_ar_243 : ar_225 ≠ ar_243 := Nat.ne_of_lt (Nat.lt_of_lt_of_le f245.lt p243_0)
        have ne_b227_ar_243 : b227 ≠ ar_243 := Nat.ne_of_lt (Nat.lt_of_lt_of_le f246.lt p243_0)
        have ne_ar_232_ar_243 : ar_232 ≠ ar_243 := Nat.ne_of_lt (Nat.lt_of_lt_of_le f247.lt p243_0)
        have ne_b236_ar_243 : b236 ≠ ar_243 := Nat.ne_of_lt (Nat.lt_of_lt_of_le A236.lt p243_0)
        have fj250 : Arv Z T243.heap ar_243 ka_243 .long (16384 : Int32) (own_cl ([] : List Nat)) (.long (0 : Int64)) := p243_3
        have fj252 : Arv Z T243.heap ar_243 ka_243 .long (16384 : Int32) (own_cl ([] : List Nat)) (.long (0 : Int64)) := fj250
        have fj254 : Arv Z T243.heap ar_243 ka_243 .long (16384 : Int32) (own_cl ([] : List Nat)) (.long (0 : Int64)) := fj252
        have f256 : Exa Z T243.heap b221 "com/example/portcall/portcall/cli/Latencies" := (Exa.keep f244 K243q)
        have f257 : Exa Z T243.heap b227 "com/example/portcall/portcall/cli/Latencies" := (Exa.keep f246 K243q)
        have f258 : Fld Z T243.heap b221 "com/example/portcall/portcall/cli/Latencies" "counts" "[J" (.ref ar_225) := (Fld.keep (Fld.ext E236 (Fld.keep (Fld.ext E227 p225_1) K232q (ninS ne_b221_b227 nin0))) K243q (ninS ne_b221_b236 nin0))
        have f259 : Fld Z T243.heap b227 "com/example/portcall/portcall/cli/Latencies" "counts" "[J" (.ref ar_232) := (Fld.keep (Fld.ext E236 p232_1) K243q (ninS ne_b227_b236 nin0))
        have f260 : Fld Z T243.heap b221 "com/example/portcall/portcall/cli/Latencies" "total" "J" (.long (0 : Int64)) := (Fld.keep (Fld.ext E236 (Fld.keep (Fld.ext E227 p225_2) K232q (ninS ne_b221_b227 nin0))) K243q (ninS ne_b221_b236 nin0))
        have f261 : Fld Z T243.heap b227 "com/example/portcall/portcall/cli/Latencies" "total" "J" (.long (0 : Int64)) := (Fld.keep (Fld.ext E236 p232_2) K243q (ninS ne_b227_b236 nin0))
        have f262 : Arv Z T243.heap ar_225 ka_225 .long (16384 : Int32) (own_cl ([] : List Nat)) (.long (0 : Int64)) := (Arv.keep f245 K243q (ninS ne_ar_225_b236 nin0))
        have f263 : Arv Z T243.heap ar_232 ka_232 .long (16384 : Int32) (own_cl ([] : List Nat)) (.long (0 : Int64)) := (Arv.keep f247 K243q (ninS ne_ar_232_b236 nin0))
        obtain ⟨T255, v255, L255, X255, q255, st255⟩ := callVi X243 hx hZ (y := own_m15) (z := own_m15) hown (own_w hw (i := 32) rfl) (own_w hw (i := 33) rfl) (notFace_of_selects (args := #[]) (mvT hZ (own_w hw (i := 35) rfl))) (own_w hw (i := 35) rfl) (own_w hw (i := 34) rfl) (own_w hw (i := 36) rfl) (own_w hw (i := 3) rfl) (by decide) (rm_add hw G b221 b227 ar_225 ka_225 (([] : List Nat)) ar_232 ka_232 (([] : List Nat)) ((0 : Int64)) ((0 : Int64)) ((0 : Int64)) T243.heap O248 (by decide) f256 f257 f258 f259 f260 f261 f262 f263 g_b221 g_ar_225 ne_b221_ar_225 ne_b221_b227 ne_b221_ar_232 (Ne.symm ne_ar_225_b227) (Ne.symm ne_ar_225_ar_232)) rfl (W := 0) (by decide) (by decide) (by decide) (by decide) f256 (g := (mkF m 139 #[.val (.long p0), .second, .val (.long p1), .second, .val (.long p2), .second, iv p3, iv p4, iv 0, iv 0, iv 0, .val (.double qv), .second, rv b221, rv b227, rv b236, .unset, .unset, .unset, .unset] [(.ref b227), (.ref b221)])) rfl (by rw [hml]; rfl) (argsL := [(.ref b227)]) (rest := []) (lenOf pd48 rfl) rfl rfl (Nat.le_of_eq rfl) (D at_139)
        obtain ⟨rfl, N255q, K255q, p255_0, p255_1, p255_2⟩ := q255
        have N255 := Fr.app N243 N255q
        have O264 := Old0.keep O248 K255q (allS g_b221 (allS g_ar_225 all0))
        have fj265 : Arv Z T255.heap ar_225 ka_225 .long (16384 : Int32) (own_cl ([] : List Nat)) (.long (0 : Int64)) := p255_2
        refine Go.of (T' := T255) (f' := (mkF m 146 #[.val (.long p0), .second, .val (.long p1), .second, .val (.long p2), .second, iv p3, iv p4, iv 0, iv 0, iv 0, .val (.double qv), .second, rv b221, rv b227, rv b236, .unset, .unset, .unset, .unset] [(.double qv), (.ref b221)])) (fun _ k => XS.dstore X0.here hx rfl (D at_53) rfl (l' := #[.val (.long p0), .second, .val (.long p1), .second, .val (.long p2), .second, iv p3, iv p4, iv 0, iv 0, iv 0, .val (.double qv), .second, .unset, .unset, .unset, .unset, .unset, .unset, .unset]) rfl (st221 _ (XS.dup X221.here hx rfl (D at_58) rfl rfl (st225 _ (XS.astore X225.here hx rfl (D at_62) rfl rfl (l' := #[.val (.long p0), .second, .val (.long p1), .second, .val (.long p2), .second, iv p3, iv p4, iv 0, iv 0, iv 0, .val (.double qv), .second, rv b221, .unset, .unset, .unset, .unset, .unset, .unset]) rfl (st227 _ (XS.dup X227.here hx rfl (D at_67) rfl rfl (st232 _ (XS.astore X232.here hx rfl (D at_71) rfl rfl (l' := #[.val (.long p0), .second, .val (.long p1), .second, .val (.long p2), .second, iv p3, iv p4, iv 0, iv 0, iv 0, .val (.double qv), .second, rv b221, rv b227, .unset, .unset, .unset, .unset, .unset]) rfl (st236 _ (XS.dup X236.here hx rfl (D at_76) rfl rfl (st243 _ (XS.astore X243.here hx rfl (D at_80) rfl rfl (l' := #[.val (.long p0), .second, .val (.long p1), .second, .val (.long p2), .second, iv p3, iv p4, iv 0, iv 0, iv 0, .val (.double qv), .second, rv b221, rv b227, rv b236, .unset, .unset, .unset, .unset]) rfl (XS.iload X243.here hx rfl (D at_82) rfl (XS.ifYes X243.here hx rfl (pc0 := 84) (pc' := 99) rfl (D at_84) rfl ((if0 _ _).trans (teq (by decide : (0 : Int32) = (0 : Int32))).1) (by decide) (by decide) (XS.iload X243.here hx rfl (D at_99) rfl (XS.ifYes X243.here hx rfl (pc0 := 101) (pc' := 116) rfl (D at_101) rfl ((if0 _ _).trans (teq (by decide : (0 : Int32) = (0 : Int32))).1) (by decide) (by decide) (XS.iload X243.here hx rfl (D at_116) rfl (XS.ifYes X243.here hx rfl (pc0 := 118) (pc' := 135) rfl (D at_118) rfl ((if0 _ _).trans (teq (by decide : (0 : Int32) = (0 : Int32))).1) (by decide) (by decide) (XS.aload X243.here hx rfl (D at_135) rfl rfl (XS.aload X243.here hx rfl (D at_137) rfl rfl (st255 _ (XS.aload X255.here hx rfl (D at_142) rfl rfl (XS.dload X255.here hx rfl (D at_144) rfl k)))))))))))))))))))))))) ?_
        have f267 : Exa Z T255.heap b221 "com/example/portcall/portcall/cli/Latencies" := (Exa.keep f256 K255q)
        obtain ⟨T266, v266, L266, X266, q266, st266⟩ := callVi X255 hx hZ (y := own_m30) (z := own_m30) hown (own_w hw (i := 37) rfl) (own_w hw (i := 38) rfl) (notFace_of_selects (args := #[]) (mvT hZ (own_w hw (i := 40) rfl))) (own_w hw (i := 40) rfl) (own_w hw (i := 39) rfl) (own_w hw (i := 41) rfl) (own_w hw (i := 3) rfl) (by decide) (rm_pct0 hw G b221 qv  T255.heap O264 p255_1) rfl (W := 0) (by decide) (by decide) (by decide) (by decide) f267 (g := (mkF m 146 #[.val (.long p0), .second, .val (.long p1), .second, .val (.long p2), .second, iv p3, iv p4, iv 0, iv 0, iv 0, .val (.double qv), .second, rv b221, rv b227, rv b236, .unset, .unset, .unset, .unset] [(.double qv), (.ref b221)])) rfl (by rw [hml]; rfl) (argsL := [(.double qv)]) (rest := []) (lenOf pd49 rfl) rfl rfl (Nat.le_of_eq rfl) (D at_146)
        obtain ⟨rfl, e266, rfl⟩ := q266
        have N266 := Fr.app N255 (Fr.nil _)
        have f269 : Exa Z T255.heap b236 "com/example/portcall/portcall/cli/Latencies" := (Exa.keep (Exa.keep A236 K243q) K255q)
        have f270 : Fld Z T255.heap b236 "com/example/portcall/portcall/cli/Latencies" "total" "J" (.long (0 : Int64)) := (Fld.keep p243_2 K255q (ninS (Ne.symm ne_b221_b236) (ninS (Ne.symm ne_ar_225_b236) nin0)))
        obtain ⟨T268, v268, L268, X268, q268, st268⟩ := callVi X266 hx hZ (y := own_m30) (z := own_m30) hown (own_w hw (i := 37) rfl) (own_w hw (i := 38) rfl) (notFace_of_selects (args := #[]) (mvT hZ (own_w hw (i := 40) rfl))) (own_w hw (i := 40) rfl) (own_w hw (i := 39) rfl) (own_w hw (i := 41) rfl) (own_w hw (i := 3) rfl) (by decide) (rm_pct0 hw G b236 qv  T255.heap O264 f270) e266 (W := 0) (by decide) (by decide) (by decide) (by decide) f269 (g := (mkF m 155 #[.val (.long p0), .second, .val (.long p1), .second, .val (.long p2), .second, iv p3, iv p4, iv 0, iv 0, iv 0, .val (.double qv), .second, rv b221, rv b227, rv b236, .val (.double (9221120237041090560 : UInt64)), .second, .unset, .unset] [(.double qv), (.ref b236)])) rfl (by rw [hml]; rfl) (argsL := [(.double qv)]) (rest := []) (lenOf pd49 rfl) rfl rfl (Nat.le_of_eq rfl) (D at_155)
        obtain ⟨rfl, e268, rfl⟩ := q268
        have N268 := Fr.app N266 (Fr.nil _)
        obtain ⟨T271, v271, L271, X271, q271, st271⟩ := callSt X268 hx hZ (y := own_m45) hown (own_w hw (i := 68) rfl) (own_w hw (i := 69) rfl) (own_w hw (i := 70) rfl) (own_w hw (i := 71) rfl) (by decide) (rm_same hw G ((9221120237041090560 : UInt64)) ((9221120237041090560 : UInt64))  T255.heap O264 (rfl)) e268 (W := 0) (by decide) (by decide) (by decide) (by decide) (g := (mkF m 164 #[.val (.long p0), .second, .val (.long p1), .second, .val (.long p2), .second, iv p3, iv p4, iv 0, iv 0, iv 0, .val (.double qv), .second, rv b221, rv b227, rv b236, .val (.double (9221120237041090560 : UInt64)), .second, .val (.double (9221120237041090560 : UInt64)), .second] [(.double (9221120237041090560 : UInt64)), (.double (9221120237041090560 : UInt64))])) rfl (by rw [hml]; rfl) (argsL := [(.double (9221120237041090560 : UInt64)), (.double (9221120237041090560 : UInt64))]) (rest := []) (lenOf pd50 rfl) rfl rfl (Nat.le_of_eq rfl) (D at_164)
        obtain ⟨rfl, e271, rfl⟩ := q271
        have N271 := Fr.app N268 (Fr.nil _)
        refine Go.of (T' := T271) (f' := (mkF m 167 #[.val (.long p0), .second, .val (.long p1), .second, .val (.long p2), .second, iv p3, iv p4, iv 0, iv 0, iv 0, .val (.double qv), .second, rv b221, rv b227, rv b236, .val (.double (9221120237041090560 : UInt64)), .second, .val (.double (9221120237041090560 : UInt64)), .second] [(.int 1)])) (fun _ k => st266 _ (XS.dstore X266.here hx rfl (D at_149) rfl (l' := #[.val (.long p0), .second, .val (.long p1), .second, .val (.long p2), .second, iv p3, iv p4, iv 0, iv 0, iv 0, .val (.double qv), .second, rv b221, rv b227, rv b236, .val (.double (9221120237041090560 : UInt64)), .second, .unset, .unset]) rfl (XS.aload X266.here hx rfl (D at_151) rfl rfl (XS.dload X266.here hx rfl (D at_153) rfl (st268 _ (XS.dstore X268.here hx rfl (D at_158) rfl (l' := #[.val (.long p0), .second, .val (.long p1), .second, .val (.long p2), .second, iv p3, iv p4, iv 0, iv 0, iv 0, .val (.double qv), .second, rv b221, rv b227, rv b236, .val (.double (9221120237041090560 : UInt64)), .second, .val (.double (9221120237041090560 : UInt64)), .second]) rfl (XS.dload X268.here hx rfl (D at_160) rfl (XS.dload X268.here hx rfl (D at_162) rfl (st271 _ k))))))))) ?_
        exact Go.retB X271 hx hlk hret (by simp) (D at_167) (by decide) (by decide) (z' := (1 : Int32)) rfl ⟨rfl, N271⟩
      · skip
        refine Go.of (T' := T0) (f' := (mkF m 53 #[.val (.long p0), .second, .val (.long p1), .second, .val (.long p2), .second, iv p3, iv p4, iv 0, iv 0, iv 1, .unset, .unset, .unset, .unset, .unset, .unset, .unset, .unset, .unset] [(.double (FP.ddiv (FP.i2d ((p4 &&& (3 : Int32)) + (1 : Int32))) (4616189618054758400 : UInt64)))])) (fun _ k => XS.ifNo X0.here hx rfl (D at_32) rfl ((if0 _ _).trans (feq hc220).1) (XS.iconst X0.here hx rfl (D at_35) (XS.goto X0.here hx rfl (pc0 := 36) (pc' := 40) rfl (D at_36) (by decide) (by decide) (XS.istore X0.here hx rfl (D at_40) rfl (l' := #[.val (.long p0), .second, .val (.long p1), .second, .val (.long p2), .second, iv p3, iv p4, iv 0, iv 0, iv 1, .unset, .unset, .unset, .unset, .unset, .unset, .unset, .unset, .unset]) rfl (XS.iload X0.here hx rfl (D at_42) rfl (XS.iconst X0.here hx rfl (D at_44) (XS.iand X0.here hx rfl (D at_45) rfl (XS.iconst X0.here hx rfl (D at_46) (XS.iadd X0.here hx rfl (D at_47) rfl (XS.i2dS X0.here hx rfl (D at_48) rfl rfl (X0.ldc2DoubleC hx hown (mvT hZ (own_w hw (i := 0) rfl)) (g := (mkF m 49 #[.val (.long p0), .second, .val (.long p1), .second, .val (.long p2), .second, iv p3, iv p4, iv 0, iv 0, iv 1, .unset, .unset, .unset, .unset, .unset, .unset, .unset, .unset, .unset] [(.double (FP.i2d ((p4 &&& (3 : Int32)) + (1 : Int32))))])) rfl (D at_49) _ (XS.ddivS X0.here hx rfl (D at_52) rfl (own_nn4 _) rfl k)))))))))))) ?_
        generalize hqv : ((FP.ddiv (FP.i2d ((p4 &&& (3 : Int32)) + (1 : Int32))) (4616189618054758400 : UInt64)) : UInt64) = qv
        have hq := hqv ▸ own_q4 p4
        obtain ⟨T272, h272, b272, q272, X272, e272, E272, A272, D272, st272⟩ := newOb X0 hx hZ hown (own_w hw (i := 1) rfl) (own_w hw (i := 2) rfl) (own_w hw (i := 3) rfl) e0 (g := (mkF m 55 #[.val (.long p0), .second, .val (.long p1), .second, .val (.long p2), .second, iv p3, iv p4, iv 0, iv 0, iv 1, .val (.double qv), .second, .unset, .unset, .unset, .unset, .unset, .unset, .unset] [])) rfl (D at_55) (by decide) (by decide)
        have O273 := Old0.ext O0 E272
        have g_b272 : Z.heap.size ≤ b272 := q272 ▸ O0.1
        have f274 : Fld Z h272 b272 "com/example/portcall/portcall/cli/Latencies" "counts" "[J" .null := D272 (Or.inr (own_w hw (i := 12) rfl)) (ty := (.array .long)) (by decide)
        have f275 : Fld Z h272 b272 "com/example/portcall/portcall/cli/Latencies" "total" "J" (.long (0 : Int64)) := D272 (Or.inl (own_w hw (i := 31) rfl)) (ty := .long) (by decide)
        obtain ⟨T276, v276, L276, X276, q276, st276⟩ := callNew X272 hx hZ (y := own_m10) rfl hown (own_w hw (i := 4) rfl) (own_w hw (i := 5) rfl) (own_w hw (i := 3) rfl) (own_w hw (i := 6) rfl) (by decide) (rm_init hw G b272  h272 O273 A272 f274 f275 g_b272) e272 (W := 1) (by decide) (by decide) (by decide) (by decide) (g := (mkF m 59 #[.val (.long p0), .second, .val (.long p1), .second, .val (.long p2), .second, iv p3, iv p4, iv 0, iv 0, iv 1, .val (.double qv), .second, .unset, .unset, .unset, .unset, .unset, .unset, .unset] [(.ref b272), (.ref b272)])) rfl (by rw [hml]; rfl) (a := b272) (argsL := []) (rest := [(.ref b272)]) (lenOf pd47 rfl) rfl rfl (Nat.le_of_eq rfl) (D at_59)
        obtain ⟨ar_276, ka_276, rfl, N276q, K276q, p276_0, p276_1, p276_2, p276_3⟩ := q276
        have N276 := Fr.app N0 N276q
        have O277 := Old0.keep O273 K276q (allS g_b272 all0)
        have g_ar_276 : Z.heap.size ≤ ar_276 := Nat.le_trans O273.1 p276_0
        have ne_b272_ar_276 : b272 ≠ ar_276 := Nat.ne_of_lt (Nat.lt_of_lt_of_le A272.lt p276_0)
        have f279 : Exa Z T276.heap b272 "com/example/portcall/portcall/cli/Latencies" := (Exa.keep A272 K276q)
        obtain ⟨T278, h278, b278, q278, X278, e278, E278, A278, D278, st278⟩ := newOb X276 hx hZ hown (own_w hw (i := 1) rfl) (own_w hw (i := 2) rfl) (own_w hw (i := 3) rfl) rfl (g := (mkF m 64 #[.val (.long p0), .second, .val (.long p1), .second, .val (.long p2), .second, iv p3, iv p4, iv 0, iv 0, iv 1, .val (.double qv), .second, rv b272, .unset, .unset, .unset, .unset, .unset, .unset] [])) rfl (D at_64) (by decide) (by decide)
        have O280 := Old0.ext O277 E278
        have g_b278 : Z.heap.size ≤ b278 := q278 ▸ O277.1
        have ne_b272_b278 : b272 ≠ b278 := q278 ▸ Nat.ne_of_lt f279.lt
        have ne_ar_276_b278 : ar_276 ≠ b278 := q278 ▸ Nat.ne_of_lt p276_3.lt
        have f281 : Fld Z h278 b278 "com/example/portcall/portcall/cli/Latencies" "counts" "[J" .null := D278 (Or.inr (own_w hw (i := 12) rfl)) (ty := (.array .long)) (by decide)
        have f282 : Fld Z h278 b278 "com/example/portcall/portcall/cli/Latencies" "total" "J" (.long (0 : Int64)) := D278 (Or.inl (own_w hw (i := 31) rfl)) (ty := .long) (by decide)
        have f284 : Exa Z h278 b272 "com/example/portcall/portcall/cli/Latencies" := (Exa.ext E278 f279)
        have f285 : Arv Z h278 ar_276 ka_276 .long (16384 : Int32) (own_cl ([] : List Nat)) (.long (0 : Int64)) := (Arv.ext p276_3 E278)
        obtain ⟨T283, v283, L283, X283, q283, st283⟩ := callNew X278 hx hZ (y := own_m10) rfl hown (own_w hw (i := 4) rfl) (own_w hw (i := 5) rfl) (own_w hw (i := 3) rfl) (own_w hw (i := 6) rfl) (by decide) (rm_init hw G b278  h278 O280 A278 f281 f282 g_b278) e278 (W := 1) (by decide) (by decide) (by decide) (by decide) (g := (mkF m 68 #[.val (.long p0), .second, .val (.long p1), .second, .val (.long p2), .second, iv p3, iv p4, iv 0, iv 0, iv 1, .val (.double qv), .second, rv b272, .unset, .unset, .unset, .unset, .unset, .unset] [(.ref b278), (.ref b278)])) rfl (by rw [hml]; rfl) (a := b278) (argsL := []) (rest := [(.ref b278)]) (lenOf pd47 rfl) rfl rfl (Nat.le_of_eq rfl) (D at_68)
        obtain ⟨ar_283, ka_283, rfl, N283q, K283q, p283_0, p283_1, p283_2, p283_3⟩ := q283
        have N283 := Fr.app N276 N283q
        have O286 := Old0.keep O280 K283q (allS g_b278 all0)
        have g_ar_283 : Z.heap.size ≤ ar_283 := Nat.le_trans O280.1 p283_0
        have ne_b272_ar_283 : b272 ≠ ar_283 := Nat.ne_of_lt (Nat.lt_of_lt_of_le f284.lt p283_0)
        have ne_ar_276_ar_283 : ar_276 ≠ ar_283 := Nat.ne_of_lt (Nat.lt_of_lt_of_le f285.lt p283_0)
        have ne_b278_ar_283 : b278 ≠ ar_283 := Nat.ne_of_lt (Nat.lt_of_lt_of_le A278.lt p283_0)
        have f288 : Exa Z T283.heap b272 "com/example/portcall/portcall/cli/Latencies" := (Exa.keep f284 K283q)
        have f289 : Arv Z T283.heap ar_276 ka_276 .long (16384 : Int32) (own_cl ([] : List Nat)) (.long (0 : Int64)) := (Arv.keep f285 K283q (ninS ne_ar_276_b278 nin0))
        have f290 : Exa Z T283.heap b278 "com/example/portcall/portcall/cli/Latencies" := (Exa.keep A278 K283q)
        obtain ⟨T287, h287, b287, q287, X287, e287, E287, A287, D287, st287⟩ := newOb X283 hx hZ hown (own_w hw (i := 1) rfl) (own_w hw (i := 2) rfl) (own_w hw (i := 3) rfl) rfl (g := (mkF m 73 #[.val (.long p0), .second, .val (.long p1), .second, .val (.long p2), .second, iv p3, iv p4, iv 0, iv 0, iv 1, .val (.double qv), .second, rv b272, rv b278, .unset, .unset, .unset, .unset, .unset] [])) rfl (D at_73) (by decide) (by decide)
        have O291 := Old0.ext O286 E287
        have g_b287 : Z.heap.size ≤ b287 := q287 ▸ O286.1
        have ne_b272_b287 : b272 ≠ b287 := q287 ▸ Nat.ne_of_lt f288.lt
        have ne_ar_276_b287 : ar_276 ≠ b287 := q287 ▸ Nat.ne_of_lt f289.lt
        have ne_b278_b287 : b278 ≠ b287 := q287 ▸ Nat.ne_of_lt f290.lt
        have ne_ar_283_b287 : ar_283 ≠ b287 := q287 ▸ Nat.ne_of_lt p283_3.lt
        have f292 : Fld Z h287 b287 "com/example/portcall/portcall/cli/Latencies" "counts" "[J" .null := D287 (Or.inr (own_w hw (i := 12) rfl)) (ty := (.array .long)) (by decide)
        have f293 : Fld Z h287 b287 "com/example/portcall/portcall/cli/Latencies" "total" "J" (.long (0 : Int64)) := D287 (Or.inl (own_w hw (i := 31) rfl)) (ty := .long) (by decide)
        have f295 : Exa Z h287 b272 "com/example/portcall/portcall/cli/Latencies" := (Exa.ext E287 f288)
        have f296 : Arv Z h287 ar_276 ka_276 .long (16384 : Int32) (own_cl ([] : List Nat)) (.long (0 : Int64)) := (Arv.ext f289 E287)
        have f297 : Exa Z h287 b278 "com/example/portcall/portcall/cli/Latencies" := (Exa.ext E287 f290)
        have f298 : Arv Z h287 ar_283 ka_283 .long (16384 : Int32) (own_cl ([] : List Nat)) (.long (0 : Int64)) := (Arv.ext p283_3 E287)
        obtain ⟨T294, v294, L294, X294, q294, st294⟩ := callNew X287 hx hZ (y := own_m10) rfl hown (own_w hw (i := 4) rfl) (own_w hw (i := 5) rfl) (own_w hw (i := 3) rfl) (own_w hw (i := 6) rfl) (by decide) (rm_init hw G b287  h287 O291 A287 f292 f293 g_b287) e287 (W := 1) (by decide) (by decide) (by decide) (by decide) (g := (mkF m 77 #[.val (.long p0), .second, .val (.long p1), .second, .val (.long p2), .second, iv p3, iv p4, iv 0, iv 0, iv 1, .val (.double qv), .second, rv b272, rv b278, .unset, .unset, .unset, .unset, .unset] [(.ref b287), (.ref b287)])) rfl (by rw [hml]; rfl) (a := b287) (argsL := []) (rest := [(.ref b287)]) (lenOf pd47 rfl) rfl rfl (Nat.le_of_eq rfl) (D at_77)
        obtain ⟨ar_294, ka_294, rfl, N294q, K294q, p294_0, p294_1, p294_2, p294_3⟩ := q294
        have N294 := Fr.app N283 N294q
        have O299 := Old0.keep O291 K294q (allS g_b287 all0)
        have g_ar_294 : Z.heap.size ≤ ar_294 := Nat.le_trans O291.1 p294_0
        have ne_b272_ar_294 : b272 ≠ ar_294 := Nat.ne_of_lt (Nat.lt_of_lt_of_le f295.lt p294_0)
        have ne_ar_276_ar_294 : ar_276 ≠ ar_294 := Nat.ne_of_lt (Nat.lt_of_lt_of_le f296.lt p294_0)
        have ne_b278_ar_294 : b278 ≠ ar_294 := Nat.ne_of_lt (Nat.lt_of_lt_of_le f297.lt p294_0)
        have ne_ar_283_ar_294 : ar_283 ≠ ar_294 := Nat.ne_of_lt (Nat.lt_of_lt_of_le f298.lt p294_0)
        have ne_b287_ar_294 : b287 ≠ ar_294 := Nat.ne_of_lt (Nat.lt_of_lt_of_le A287.lt p294_0)
        have fj301 : Arv Z T294.heap ar_294 ka_294 .long (16384 : Int32) (own_cl ([] : List Nat)) (.long (0 : Int64)) := p294_3
        have fj303 : Arv Z T294.heap ar_294 ka_294 .long (16384 : Int32) (own_cl ([] : List Nat)) (.long (0 : Int64)) := fj301
        have f306 : Exa Z T294.heap b278 "com/example/portcall/portcall/cli/Latencies" := (Exa.keep f297 K294q)
        have f307 : Fld Z T294.heap b278 "com/example/portcall/portcall/cli/Latencies" "counts" "[J" (.ref ar_283) := (Fld.keep (Fld.ext E287 p283_1) K294q (ninS ne_b278_b287 nin0))
        have f308 : Fld Z T294.heap b278 "com/example/portcall/portcall/cli/Latencies" "total" "J" (.long (0 : Int64)) := (Fld.keep (Fld.ext E287 p283_2) K294q (ninS ne_b278_b287 nin0))
        have f309 : Arv Z T294.heap ar_283 ka_283 .long (16384 : Int32) (own_cl ([] : List Nat)) (.long (0 : Int64)) := (Arv.keep f298 K294q (ninS ne_ar_283_b287 nin0))
        obtain ⟨T305, v305, L305, X305, q305, st305⟩ := callVi X294 hx hZ (y := own_m13) (z := own_m13) hown (own_w hw (i := 13) rfl) (own_w hw (i := 14) rfl) (notFace_of_selects (args := #[]) (mvT hZ (own_w hw (i := 16) rfl))) (own_w hw (i := 16) rfl) (own_w hw (i := 15) rfl) (own_w hw (i := 17) rfl) (own_w hw (i := 3) rfl) (by decide) (rm_rec hw G b278 p2 ar_283 ka_283 (([] : List Nat)) ((0 : Int64)) ((1 : Int64)) T294.heap O299 (by decide) f306 f307 f308 f309 g_b278 g_ar_283 ne_b278_ar_283) rfl (W := 0) (by decide) (by decide) (by decide) (by decide) f306 (g := (mkF m 125 #[.val (.long p0), .second, .val (.long p1), .second, .val (.long p2), .second, iv p3, iv p4, iv 0, iv 0, iv 1, .val (.double qv), .second, rv b272, rv b278, rv b287, .unset, .unset, .unset, .unset] [(.long p2), (.ref b278)])) rfl (by rw [hml]; rfl) (argsL := [(.long p2)]) (rest := []) (lenOf pd51 rfl) rfl rfl (Nat.le_of_eq rfl) (D at_125)
        obtain ⟨rfl, N305q, K305q, p305_0, p305_1, p305_2⟩ := q305
        have N305 := Fr.app N294 N305q
        have O310 := Old0.keep O299 K305q (allS g_b278 (allS g_ar_283 all0))
        have fj311 : Arv Z T305.heap ar_283 ka_283 .long (16384 : Int32) (own_cl ([own_jx p2] : List Nat)) (.long (0 : Int64)) := p305_2
        refine Go.of (T' := T305) (f' := (mkF m 132 #[.val (.long p0), .second, .val (.long p1), .second, .val (.long p2), .second, iv p3, iv p4, iv 0, iv 0, iv 1, .val (.double qv), .second, rv b272, rv b278, rv b287, .unset, .unset, .unset, .unset] [(.long p2), (.ref b287)])) (fun _ k => XS.dstore X0.here hx rfl (D at_53) rfl (l' := #[.val (.long p0), .second, .val (.long p1), .second, .val (.long p2), .second, iv p3, iv p4, iv 0, iv 0, iv 1, .val (.double qv), .second, .unset, .unset, .unset, .unset, .unset, .unset, .unset]) rfl (st272 _ (XS.dup X272.here hx rfl (D at_58) rfl rfl (st276 _ (XS.astore X276.here hx rfl (D at_62) rfl rfl (l' := #[.val (.long p0), .second, .val (.long p1), .second, .val (.long p2), .second, iv p3, iv p4, iv 0, iv 0, iv 1, .val (.double qv), .second, rv b272, .unset, .unset, .unset, .unset, .unset, .unset]) rfl (st278 _ (XS.dup X278.here hx rfl (D at_67) rfl rfl (st283 _ (XS.astore X283.here hx rfl (D at_71) rfl rfl (l' := #[.val (.long p0), .second, .val (.long p1), .second, .val (.long p2), .second, iv p3, iv p4, iv 0, iv 0, iv 1, .val (.double qv), .second, rv b272, rv b278, .unset, .unset, .unset, .unset, .unset]) rfl (st287 _ (XS.dup X287.here hx rfl (D at_76) rfl rfl (st294 _ (XS.astore X294.here hx rfl (D at_80) rfl rfl (l' := #[.val (.long p0), .second, .val (.long p1), .second, .val (.long p2), .second, iv p3, iv p4, iv 0, iv 0, iv 1, .val (.double qv), .second, rv b272, rv b278, rv b287, .unset, .unset, .unset, .unset]) rfl (XS.iload X294.here hx rfl (D at_82) rfl (XS.ifYes X294.here hx rfl (pc0 := 84) (pc' := 99) rfl (D at_84) rfl ((if0 _ _).trans (teq (by decide : (0 : Int32) = (0 : Int32))).1) (by decide) (by decide) (XS.iload X294.here hx rfl (D at_99) rfl (XS.ifYes X294.here hx rfl (pc0 := 101) (pc' := 116) rfl (D at_101) rfl ((if0 _ _).trans (teq (by decide : (0 : Int32) = (0 : Int32))).1) (by decide) (by decide) (XS.iload X294.here hx rfl (D at_116) rfl (XS.ifNo X294.here hx rfl (D at_118) rfl ((if0 _ _).trans (feq (by decide : ¬ ((1 : Int32) = (0 : Int32)))).1) (XS.aload X294.here hx rfl (D at_121) rfl rfl (XS.lload X294.here hx rfl (D at_123) rfl (st305 _ (XS.aload X305.here hx rfl (D at_128) rfl rfl (XS.lload X305.here hx rfl (D at_130) rfl k)))))))))))))))))))))))) ?_
        have f313 : Exa Z T305.heap b287 "com/example/portcall/portcall/cli/Latencies" := (Exa.keep (Exa.keep A287 K294q) K305q)
        have f314 : Fld Z T305.heap b287 "com/example/portcall/portcall/cli/Latencies" "counts" "[J" (.ref ar_294) := (Fld.keep p294_1 K305q (ninS (Ne.symm ne_b278_b287) (ninS (Ne.symm ne_ar_283_b287) nin0)))
        have f315 : Fld Z T305.heap b287 "com/example/portcall/portcall/cli/Latencies" "total" "J" (.long (0 : Int64)) := (Fld.keep p294_2 K305q (ninS (Ne.symm ne_b278_b287) (ninS (Ne.symm ne_ar_283_b287) nin0)))
        have f316 : Arv Z T305.heap ar_294 ka_294 .long (16384 : Int32) (own_cl ([] : List Nat)) (.long (0 : Int64)) := (Arv.keep fj303 K305q (ninS (Ne.symm ne_b278_ar_294) (ninS (Ne.symm ne_ar_283_ar_294) nin0)))
        obtain ⟨T312, v312, L312, X312, q312, st312⟩ := callVi X305 hx hZ (y := own_m13) (z := own_m13) hown (own_w hw (i := 13) rfl) (own_w hw (i := 14) rfl) (notFace_of_selects (args := #[]) (mvT hZ (own_w hw (i := 16) rfl))) (own_w hw (i := 16) rfl) (own_w hw (i := 15) rfl) (own_w hw (i := 17) rfl) (own_w hw (i := 3) rfl) (by decide) (rm_rec hw G b287 p2 ar_294 ka_294 (([] : List Nat)) ((0 : Int64)) ((1 : Int64)) T305.heap O310 (by decide) f313 f314 f315 f316 g_b287 g_ar_294 ne_b287_ar_294) rfl (W := 0) (by decide) (by decide) (by decide) (by decide) f313 (g := (mkF m 132 #[.val (.long p0), .second, .val (.long p1), .second, .val (.long p2), .second, iv p3, iv p4, iv 0, iv 0, iv 1, .val (.double qv), .second, rv b272, rv b278, rv b287, .unset, .unset, .unset, .unset] [(.long p2), (.ref b287)])) rfl (by rw [hml]; rfl) (argsL := [(.long p2)]) (rest := []) (lenOf pd51 rfl) rfl rfl (Nat.le_of_eq rfl) (D at_132)
        obtain ⟨rfl, N312q, K312q, p312_0, p312_1, p312_2⟩ := q312
        have N312 := Fr.app N305 N312q
        have O317 := Old0.keep O310 K312q (allS g_b287 (allS g_ar_294 all0))
        have fj318 : Arv Z T312.heap ar_294 ka_294 .long (16384 : Int32) (own_cl ([own_jx p2] : List Nat)) (.long (0 : Int64)) := p312_2
        have f320 : Exa Z T312.heap b272 "com/example/portcall/portcall/cli/Latencies" := (Exa.keep (Exa.keep (Exa.keep f295 K294q) K305q) K312q)
        have f321 : Exa Z T312.heap b278 "com/example/portcall/portcall/cli/Latencies" := (Exa.keep (Exa.keep f306 K305q) K312q)
        have f322 : Fld Z T312.heap b272 "com/example/portcall/portcall/cli/Latencies" "counts" "[J" (.ref ar_276) := (Fld.keep (Fld.keep (Fld.keep (Fld.ext E287 (Fld.keep (Fld.ext E278 p276_1) K283q (ninS ne_b272_b278 nin0))) K294q (ninS ne_b272_b287 nin0)) K305q (ninS ne_b272_b278 (ninS ne_b272_ar_283 nin0))) K312q (ninS ne_b272_b287 (ninS ne_b272_ar_294 nin0)))
        have f323 : Fld Z T312.heap b278 "com/example/portcall/portcall/cli/Latencies" "counts" "[J" (.ref ar_283) := (Fld.keep p305_0 K312q (ninS ne_b278_b287 (ninS ne_b278_ar_294 nin0)))
        have f324 : Fld Z T312.heap b272 "com/example/portcall/portcall/cli/Latencies" "total" "J" (.long (0 : Int64)) := (Fld.keep (Fld.keep (Fld.keep (Fld.ext E287 (Fld.keep (Fld.ext E278 p276_2) K283q (ninS ne_b272_b278 nin0))) K294q (ninS ne_b272_b287 nin0)) K305q (ninS ne_b272_b278 (ninS ne_b272_ar_283 nin0))) K312q (ninS ne_b272_b287 (ninS ne_b272_ar_294 nin0)))
        have f325 : Fld Z T312.heap b278 "com/example/portcall/portcall/cli/Latencies" "total" "J" (.long (1 : Int64)) := (Fld.keep p305_1 K312q (ninS ne_b278_b287 (ninS ne_b278_ar_294 nin0)))
        have f326 : Arv Z T312.heap ar_276 ka_276 .long (16384 : Int32) (own_cl ([] : List Nat)) (.long (0 : Int64)) := (Arv.keep (Arv.keep (Arv.keep f296 K294q (ninS ne_ar_276_b287 nin0)) K305q (ninS ne_ar_276_b278 (ninS ne_ar_276_ar_283 nin0))) K312q (ninS ne_ar_276_b287 (ninS ne_ar_276_ar_294 nin0)))
        have f327 : Arv Z T312.heap ar_283 ka_283 .long (16384 : Int32) (own_cl ([own_jx p2] : List Nat)) (.long (0 : Int64)) := (Arv.keep fj311 K312q (ninS ne_ar_283_b287 (ninS ne_ar_283_ar_294 nin0)))
        obtain ⟨T319, v319, L319, X319, q319, st319⟩ := callVi X312 hx hZ (y := own_m15) (z := own_m15) hown (own_w hw (i := 32) rfl) (own_w hw (i := 33) rfl) (notFace_of_selects (args := #[]) (mvT hZ (own_w hw (i := 35) rfl))) (own_w hw (i := 35) rfl) (own_w hw (i := 34) rfl) (own_w hw (i := 36) rfl) (own_w hw (i := 3) rfl) (by decide) (rm_add hw G b272 b278 ar_276 ka_276 (([] : List Nat)) ar_283 ka_283 (([own_jx p2] : List Nat)) ((0 : Int64)) ((1 : Int64)) ((1 : Int64)) T312.heap O317 (by decide) f320 f321 f322 f323 f324 f325 f326 f327 g_b272 g_ar_276 ne_b272_ar_276 ne_b272_b278 ne_b272_ar_283 (Ne.symm ne_ar_276_b278) (Ne.symm ne_ar_276_ar_283)) rfl (W := 0) (by decide) (by decide) (by decide) (by decide) f320 (g := (mkF m 139 #[.val (.long p0), .second, .val (.long p1), .second, .val (.long p2), .second, iv p3, iv p4, iv 0, iv 0, iv 1, .val (.double qv), .second, rv b272, rv b278, rv b287, .unset, .unset, .unset, .unset] [(.ref b278), (.ref b272)])) rfl (by rw [hml]; rfl) (argsL := [(.ref b278)]) (rest := []) (lenOf pd48 rfl) rfl rfl (Nat.le_of_eq rfl) (D at_139)
        obtain ⟨rfl, N319q, K319q, p319_0, p319_1, p319_2⟩ := q319
        have N319 := Fr.app N312 N319q
        have O328 := Old0.keep O317 K319q (allS g_b272 (allS g_ar_276 all0))
        have fj329 : Arv Z T319.heap ar_276 ka_276 .long (16384 : Int32) (own_cl ([own_jx p2] : List Nat)) (.long (0 : Int64)) := p319_2
        have f331 : Exa Z T319.heap b272 "com/example/portcall/portcall/cli/Latencies" := (Exa.keep f320 K319q)
        obtain ⟨T330, v330, L330, X330, q330, st330⟩ := callVi X319 hx hZ (y := own_m30) (z := own_m30) hown (own_w hw (i := 37) rfl) (own_w hw (i := 38) rfl) (notFace_of_selects (args := #[]) (mvT hZ (own_w hw (i := 40) rfl))) (own_w hw (i := 40) rfl) (own_w hw (i := 39) rfl) (own_w hw (i := 41) rfl) (own_w hw (i := 3) rfl) (by decide) (rm_pct1 hw G b272 qv ar_276 ka_276 (([own_jx p2] : List Nat)) T319.heap O328 (hq) (And.intro (own_jlt p2) (trivial)) (rfl) p319_0 p319_1 fj329) rfl (W := 0) (by decide) (by decide) (by decide) (by decide) f331 (g := (mkF m 146 #[.val (.long p0), .second, .val (.long p1), .second, .val (.long p2), .second, iv p3, iv p4, iv 0, iv 0, iv 1, .val (.double qv), .second, rv b272, rv b278, rv b287, .unset, .unset, .unset, .unset] [(.double qv), (.ref b272)])) rfl (by rw [hml]; rfl) (argsL := [(.double qv)]) (rest := []) (lenOf pd49 rfl) rfl rfl (Nat.le_of_eq rfl) (D at_146)
        obtain ⟨iz_330, rfl, N330q, K330q, p330_0⟩ := q330
        have N330 := Fr.app N319 N330q
        have O332 := Old0.keep O328 K330q all0
        have f334 : Exa Z T330.heap b287 "com/example/portcall/portcall/cli/Latencies" := (Exa.keep (Exa.keep (Exa.keep f313 K312q) K319q) K330q)
        have f335 : Fld Z T330.heap b287 "com/example/portcall/portcall/cli/Latencies" "counts" "[J" (.ref ar_294) := (Fld.keep (Fld.keep p312_0 K319q (ninS (Ne.symm ne_b272_b287) (ninS (Ne.symm ne_ar_276_b287) nin0))) K330q nin0)
        have f336 : Fld Z T330.heap b287 "com/example/portcall/portcall/cli/Latencies" "total" "J" (.long (1 : Int64)) := (Fld.keep (Fld.keep p312_1 K319q (ninS (Ne.symm ne_b272_b287) (ninS (Ne.symm ne_ar_276_b287) nin0))) K330q nin0)
        have f337 : Arv Z T330.heap ar_294 ka_294 .long (16384 : Int32) (own_cl ([own_jx p2] : List Nat)) (.long (0 : Int64)) := (Arv.keep (Arv.keep fj318 K319q (ninS (Ne.symm ne_b272_ar_294) (ninS (Ne.symm ne_ar_276_ar_294) nin0))) K330q nin0)
        obtain ⟨T333, v333, L333, X333, q333, st333⟩ := callVi X330 hx hZ (y := own_m30) (z := own_m30) hown (own_w hw (i := 37) rfl) (own_w hw (i := 38) rfl) (notFace_of_selects (args := #[]) (mvT hZ (own_w hw (i := 40) rfl))) (own_w hw (i := 40) rfl) (own_w hw (i := 39) rfl) (own_w hw (i := 41) rfl) (own_w hw (i := 3) rfl) (by decide) (rm_pct1 hw G b287 qv ar_294 ka_294 (([own_jx p2] : List Nat)) T330.heap O332 (hq) (And.intro (own_jlt p2) (trivial)) (rfl) f335 f336 f337) rfl (W := 0) (by decide) (by decide) (by decide) (by decide) f334 (g := (mkF m 155 #[.val (.long p0), .second, .val (.long p1), .second, .val (.long p2), .second, iv p3, iv p4, iv 0, iv 0, iv 1, .val (.double qv), .second, rv b272, rv b278, rv b287, .val (.double (own_mid iz_330)), .second, .unset, .unset] [(.double qv), (.ref b287)])) rfl (by rw [hml]; rfl) (argsL := [(.double qv)]) (rest := []) (lenOf pd49 rfl) rfl rfl (Nat.le_of_eq rfl) (D at_155)
        obtain ⟨iz_333, rfl, N333q, K333q, p333_0⟩ := q333
        have N333 := Fr.app N330 N333q
        have O338 := Old0.keep O332 K333q all0
        obtain ⟨T339, v339, L339, X339, q339, st339⟩ := callSt X333 hx hZ (y := own_m45) hown (own_w hw (i := 68) rfl) (own_w hw (i := 69) rfl) (own_w hw (i := 70) rfl) (own_w hw (i := 71) rfl) (by decide) (rm_same hw G ((own_mid iz_330)) ((own_mid iz_333))  T333.heap O338 (congrArg own_mid (own_at1 p333_0 p330_0))) rfl (W := 0) (by decide) (by decide) (by decide) (by decide) (g := (mkF m 164 #[.val (.long p0), .second, .val (.long p1), .second, .val (.long p2), .second, iv p3, iv p4, iv 0, iv 0, iv 1, .val (.double qv), .second, rv b272, rv b278, rv b287, .val (.double (own_mid iz_330)), .second, .val (.double (own_mid iz_333)), .second] [(.double (own_mid iz_333)), (.double (own_mid iz_330))])) rfl (by rw [hml]; rfl) (argsL := [(.double (own_mid iz_330)), (.double (own_mid iz_333))]) (rest := []) (lenOf pd50 rfl) rfl rfl (Nat.le_of_eq rfl) (D at_164)
        obtain ⟨rfl, e339, rfl⟩ := q339
        have N339 := Fr.app N333 (Fr.nil _)
        refine Go.of (T' := T339) (f' := (mkF m 167 #[.val (.long p0), .second, .val (.long p1), .second, .val (.long p2), .second, iv p3, iv p4, iv 0, iv 0, iv 1, .val (.double qv), .second, rv b272, rv b278, rv b287, .val (.double (own_mid iz_330)), .second, .val (.double (own_mid iz_333)), .second] [(.int 1)])) (fun _ k => st312 _ (XS.aload X312.here hx rfl (D at_135) rfl rfl (XS.aload X312.here hx rfl (D at_137) rfl rfl (st319 _ (XS.aload X319.here hx rfl (D at_142) rfl rfl (XS.dload X319.here hx rfl (D at_144) rfl (st330 _ (XS.dstore X330.here hx rfl (D at_149) rfl (l' := #[.val (.long p0), .second, .val (.long p1), .second, .val (.long p2), .second, iv p3, iv p4, iv 0, iv 0, iv 1, .val (.double qv), .second, rv b272, rv b278, rv b287, .val (.double (own_mid iz_330)), .second, .unset, .unset]) rfl (XS.aload X330.here hx rfl (D at_151) rfl rfl (XS.dload X330.here hx rfl (D at_153) rfl (st333 _ (XS.dstore X333.here hx rfl (D at_158) rfl (l' := #[.val (.long p0), .second, .val (.long p1), .second, .val (.long p2), .second, iv p3, iv p4, iv 0, iv 0, iv 1, .val (.double qv), .second, rv b272, rv b278, rv b287, .val (.double (own_mid iz_330)), .second, .val (.double (own_mid iz_333)), .second]) rfl (XS.dload X333.here hx rfl (D at_160) rfl (XS.dload X333.here hx rfl (D at_162) rfl (st339 _ k))))))))))))))) ?_
        exact Go.retB X339 hx hlk hret (by simp) (D at_167) (by decide) (by decide) (z' := (1 : Int32)) rfl ⟨rfl, N339⟩
    · skip
      refine Go.of (T' := T0) (f' := (mkF m 32 #[.val (.long p0), .second, .val (.long p1), .second, .val (.long p2), .second, iv p3, iv p4, iv 0, iv 1, .unset, .unset, .unset, .unset, .unset, .unset, .unset, .unset, .unset, .unset] [(.int (p3 &&& (4 : Int32)))])) (fun _ k => XS.ifNo X0.here hx rfl (D at_18) rfl ((if0 _ _).trans (feq hc219).1) (XS.iconst X0.here hx rfl (D at_21) (XS.goto X0.here hx rfl (pc0 := 22) (pc' := 26) rfl (D at_22) (by decide) (by decide) (XS.istore X0.here hx rfl (D at_26) rfl (l' := #[.val (.long p0), .second, .val (.long p1), .second, .val (.long p2), .second, iv p3, iv p4, iv 0, iv 1, .unset, .unset, .unset, .unset, .unset, .unset, .unset, .unset, .unset, .unset]) rfl (XS.iload X0.here hx rfl (D at_28) rfl (XS.iconst X0.here hx rfl (D at_30) (XS.iand X0.here hx rfl (D at_31) rfl k))))))) ?_
      by_cases hc340 : (p3 &&& (4 : Int32)) = (0 : Int32)
      · skip
        refine Go.of (T' := T0) (f' := (mkF m 53 #[.val (.long p0), .second, .val (.long p1), .second, .val (.long p2), .second, iv p3, iv p4, iv 0, iv 1, iv 0, .unset, .unset, .unset, .unset, .unset, .unset, .unset, .unset, .unset] [(.double (FP.ddiv (FP.i2d ((p4 &&& (3 : Int32)) + (1 : Int32))) (4616189618054758400 : UInt64)))])) (fun _ k => XS.ifYes X0.here hx rfl (pc0 := 32) (pc' := 39) rfl (D at_32) rfl ((if0 _ _).trans (teq hc340).1) (by decide) (by decide) (XS.iconst X0.here hx rfl (D at_39) (XS.istore X0.here hx rfl (D at_40) rfl (l' := #[.val (.long p0), .second, .val (.long p1), .second, .val (.long p2), .second, iv p3, iv p4, iv 0, iv 1, iv 0, .unset, .unset, .unset, .unset, .unset, .unset, .unset, .unset, .unset]) rfl (XS.iload X0.here hx rfl (D at_42) rfl (XS.iconst X0.here hx rfl (D at_44) (XS.iand X0.here hx rfl (D at_45) rfl (XS.iconst X0.here hx rfl (D at_46) (XS.iadd X0.here hx rfl (D at_47) rfl (XS.i2dS X0.here hx rfl (D at_48) rfl rfl (X0.ldc2DoubleC hx hown (mvT hZ (own_w hw (i := 0) rfl)) (g := (mkF m 49 #[.val (.long p0), .second, .val (.long p1), .second, .val (.long p2), .second, iv p3, iv p4, iv 0, iv 1, iv 0, .unset, .unset, .unset, .unset, .unset, .unset, .unset, .unset, .unset] [(.double (FP.i2d ((p4 &&& (3 : Int32)) + (1 : Int32))))])) rfl (D at_49) _ (XS.ddivS X0.here hx rfl (D at_52) rfl (own_nn4 _) rfl k))))))))))) ?_
        generalize hqv : ((FP.ddiv (FP.i2d ((p4 &&& (3 : Int32)) + (1 : Int32))) (4616189618054758400 : UInt64)) : UInt64) = qv
        have hq := hqv ▸ own_q4 p4
        obtain ⟨T341, h341, b341, q341, X341, e341, E341, A341, D341, st341⟩ := newOb X0 hx hZ hown (own_w hw (i := 1) rfl) (own_w hw (i := 2) rfl) (own_w hw (i := 3) rfl) e0 (g := (mkF m 55 #[.val (.long p0), .second, .val (.long p1), .second, .val (.long p2), .second, iv p3, iv p4, iv 0, iv 1, iv 0, .val (.double qv), .second, .unset, .unset, .unset, .unset, .unset, .unset, .unset] [])) rfl (D at_55) (by decide) (by decide)
        have O342 := Old0.ext O0 E341
        have g_b341 : Z.heap.size ≤ b341 := q341 ▸ O0.1
        have f343 : Fld Z h341 b341 "com/example/portcall/portcall/cli/Latencies" "counts" "[J" .null := D341 (Or.inr (own_w hw (i := 12) rfl)) (ty := (.array .long)) (by decide)
        have f344 : Fld Z h341 b341 "com/example/portcall/portcall/cli/Latencies" "total" "J" (.long (0 : Int64)) := D341 (Or.inl (own_w hw (i := 31) rfl)) (ty := .long) (by decide)
        obtain ⟨T345, v345, L345, X345, q345, st345⟩ := callNew X341 hx hZ (y := own_m10) rfl hown (own_w hw (i := 4) rfl) (own_w hw (i := 5) rfl) (own_w hw (i := 3) rfl) (own_w hw (i := 6) rfl) (by decide) (rm_init hw G b341  h341 O342 A341 f343 f344 g_b341) e341 (W := 1) (by decide) (by decide) (by decide) (by decide) (g := (mkF m 59 #[.val (.long p0), .second, .val (.long p1), .second, .val (.long p2), .second, iv p3, iv p4, iv 0, iv 1, iv 0, .val (.double qv), .second, .unset, .unset, .unset, .unset, .unset, .unset, .unset] [(.ref b341), (.ref b341)])) rfl (by rw [hml]; rfl) (a := b341) (argsL := []) (rest := [(.ref b341)]) (lenOf pd47 rfl) rfl rfl (Nat.le_of_eq rfl) (D at_59)
        obtain ⟨ar_345, ka_345, rfl, N345q, K345q, p345_0, p345_1, p345_2, p345_3⟩ := q345
        have N345 := Fr.app N0 N345q
        have O346 := Old0.keep O342 K345q (allS g_b341 all0)
        have g_ar_345 : Z.heap.size ≤ ar_345 := Nat.le_trans O342.1 p345_0
        have ne_b341_ar_345 : b341 ≠ ar_345 := Nat.ne_of_lt (Nat.lt_of_lt_of_le A341.lt p345_0)
        have f348 : Exa Z T345.heap b341 "com/example/portcall/portcall/cli/Latencies" := (Exa.keep A341 K345q)
        obtain ⟨T347, h347, b347, q347, X347, e347, E347, A347, D347, st347⟩ := newOb X345 hx hZ hown (own_w hw (i := 1) rfl) (own_w hw (i := 2) rfl) (own_w hw (i := 3) rfl) rfl (g := (mkF m 64 #[.val (.long p0), .second, .val (.long p1), .second, .val (.long p2), .second, iv p3, iv p4, iv 0, iv 1, iv 0, .val (.double qv), .second, rv b341, .unset, .unset, .unset, .unset, .unset, .unset] [])) rfl (D at_64) (by decide) (by decide)
        have O349 := Old0.ext O346 E347
        have g_b347 : Z.heap.size ≤ b347 := q347 ▸ O346.1
        have ne_b341_b347 : b341 ≠ b347 := q347 ▸ Nat.ne_of_lt f348.lt
        have ne_ar_345_b347 : ar_345 ≠ b347 := q347 ▸ Nat.ne_of_lt p345_3.lt
        have f350 : Fld Z h347 b347 "com/example/portcall/portcall/cli/Latencies" "counts" "[J" .null := D347 (Or.inr (own_w hw (i := 12) rfl)) (ty := (.array .long)) (by decide)
        have f351 : Fld Z h347 b347 "com/example/portcall/portcall/cli/Latencies" "total" "J" (.long (0 : Int64)) := D347 (Or.inl (own_w hw (i := 31) rfl)) (ty := .long) (by decide)
        have f353 : Exa Z h347 b341 "com/example/portcall/portcall/cli/Latencies" := (Exa.ext E347 f348)
        have f354 : Arv Z h347 ar_345 ka_345 .long (16384 : Int32) (own_cl ([] : List Nat)) (.long (0 : Int64)) := (Arv.ext p345_3 E347)
        obtain ⟨T352, v352, L352, X352, q352, st352⟩ := callNew X347 hx hZ (y := own_m10) rfl hown (own_w hw (i := 4) rfl) (own_w hw (i := 5) rfl) (own_w hw (i := 3) rfl) (own_w hw (i := 6) rfl) (by decide) (rm_init hw G b347  h347 O349 A347 f350 f351 g_b347) e347 (W := 1) (by decide) (by decide) (by decide) (by decide) (g := (mkF m 68 #[.val (.long p0), .second, .val (.long p1), .second, .val (.long p2), .second, iv p3, iv p4, iv 0, iv 1, iv 0, .val (.double qv), .second, rv b341, .unset, .unset, .unset, .unset, .unset, .unset] [(.ref b347), (.ref b347)])) rfl (by rw [hml]; rfl) (a := b347) (argsL := []) (rest := [(.ref b347)]) (lenOf pd47 rfl) rfl rfl (Nat.le_of_eq rfl) (D at_68)
        obtain ⟨ar_352, ka_352, rfl, N352q, K352q, p352_0, p352_1, p352_2, p352_3⟩ := q352
        have N352 := Fr.app N345 N352q
        have O355 := Old0.keep O349 K352q (allS g_b347 all0)
        have g_ar_352 : Z.heap.size ≤ ar_352 := Nat.le_trans O349.1 p352_0
        have ne_b341_ar_352 : b341 ≠ ar_352 := Nat.ne_of_lt (Nat.lt_of_lt_of_le f353.lt p352_0)
        have ne_ar_345_ar_352 : ar_345 ≠ ar_352 := Nat.ne_of_lt (Nat.lt_of_lt_of_le f354.lt p352_0)
        have ne_b347_ar_352 : b347 ≠ ar_352 := Nat.ne_of_lt (Nat.lt_of_lt_of_le A347.lt p352_0)
        have f357 : Exa Z T352.heap b341 "com/example/portcall/portcall/cli/Latencies" := (Exa.keep f353 K352q)
        have f358 : Arv Z T352.heap ar_345 ka_345 .long (16384 : Int32) (own_cl ([] : List Nat)) (.long (0 : Int64)) := (Arv.keep f354 K352q (ninS ne_ar_345_b347 nin0))
        have f359 : Exa Z T352.heap b347 "com/example/portcall/portcall/cli/Latencies" := (Exa.keep A347 K352q)
        obtain ⟨T356, h356, b356, q356, X356, e356, E356, A356, D356, st356⟩ := newOb X352 hx hZ hown (own_w hw (i := 1) rfl) (own_w hw (i := 2) rfl) (own_w hw (i := 3) rfl) rfl (g := (mkF m 73 #[.val (.long p0), .second, .val (.long p1), .second, .val (.long p2), .second, iv p3, iv p4, iv 0, iv 1, iv 0, .val (.double qv), .second, rv b341, rv b347, .unset, .unset, .unset, .unset, .unset] [])) rfl (D at_73) (by decide) (by decide)
        have O360 := Old0.ext O355 E356
        have g_b356 : Z.heap.size ≤ b356 := q356 ▸ O355.1
        have ne_b341_b356 : b341 ≠ b356 := q356 ▸ Nat.ne_of_lt f357.lt
        have ne_ar_345_b356 : ar_345 ≠ b356 := q356 ▸ Nat.ne_of_lt f358.lt
        have ne_b347_b356 : b347 ≠ b356 := q356 ▸ Nat.ne_of_lt f359.lt
        have ne_ar_352_b356 : ar_352 ≠ b356 := q356 ▸ Nat.ne_of_lt p352_3.lt
        have f361 : Fld Z h356 b356 "com/example/portcall/portcall/cli/Latencies" "counts" "[J" .null := D356 (Or.inr (own_w hw (i := 12) rfl)) (ty := (.array .long)) (by decide)
        have f362 : Fld Z h356 b356 "com/example/portcall/portcall/cli/Latencies" "total" "J" (.long (0 : Int64)) := D356 (Or.inl (own_w hw (i := 31) rfl)) (ty := .long) (by decide)
        have f364 : Exa Z h356 b341 "com/example/portcall/portcall/cli/Latencies" := (Exa.ext E356 f357)
        have f365 : Arv Z h356 ar_345 ka_345 .long (16384 : Int32) (own_cl ([] : List Nat)) (.long (0 : Int64)) := (Arv.ext f358 E356)
        have f366 : Exa Z h356 b347 "com/example/portcall/portcall/cli/Latencies" := (Exa.ext E356 f359)
        have f367 : Arv Z h356 ar_352 ka_352 .long (16384 : Int32) (own_cl ([] : List Nat)) (.long (0 : Int64)) := (Arv.ext p352_3 E356)
        obtain ⟨T363, v363, L363, X363, q363, st363⟩ := callNew X356 hx hZ (y := own_m10) rfl hown (own_w hw (i := 4) rfl) (own_w hw (i := 5) rfl) (own_w hw (i := 3) rfl) (own_w hw (i := 6) rfl) (by decide) (rm_init hw G b356  h356 O360 A356 f361 f362 g_b356) e356 (W := 1) (by decide) (by decide) (by decide) (by decide) (g := (mkF m 77 #[.val (.long p0), .second, .val (.long p1), .second, .val (.long p2), .second, iv p3, iv p4, iv 0, iv 1, iv 0, .val (.double qv), .second, rv b341, rv b347, .unset, .unset, .unset, .unset, .unset] [(.ref b356), (.ref b356)])) rfl (by rw [hml]; rfl) (a := b356) (argsL := []) (rest := [(.ref b356)]) (lenOf pd47 rfl) rfl rfl (Nat.le_of_eq rfl) (D at_77)
        obtain ⟨ar_363, ka_363, rfl, N363q, K363q, p363_0, p363_1, p363_2, p363_3⟩ := q363
        have N363 := Fr.app N352 N363q
        have O368 := Old0.keep O360 K363q (allS g_b356 all0)
        have g_ar_363 : Z.heap.size ≤ ar_363 := Nat.le_trans O360.1 p363_0
        have ne_b341_ar_363 : b341 ≠ ar_363 := Nat.ne_of_lt (Nat.lt_of_lt_of_le f364.lt p363_0)
        have ne_ar_345_ar_363 : ar_345 ≠ ar_363 := Nat.ne_of_lt (Nat.lt_of_lt_of_le f365.lt p363_0)
        have ne_b347_ar_363 : b347 ≠ ar_363 := Nat.ne_of_lt (Nat.lt_of_lt_of_le f366.lt p363_0)
        have ne_ar_352_ar_363 : ar_352 ≠ ar_363 := Nat.ne_of_lt (Nat.lt_of_lt_of_le f367.lt p363_0)
        have ne_b356_ar_363 : b356 ≠ ar_363 := Nat.ne_of_lt (Nat.lt_of_lt_of_le A356.lt p363_0)
        have fj370 : Arv Z T363.heap ar_363 ka_363 .long (16384 : Int32) (own_cl ([] : List Nat)) (.long (0 : Int64)) := p363_3
        have f373 : Exa Z T363.heap b347 "com/example/portcall/portcall/cli/Latencies" := (Exa.keep f366 K363q)
        have f374 : Fld Z T363.heap b347 "com/example/portcall/portcall/cli/Latencies" "counts" "[J" (.ref ar_352) := (Fld.keep (Fld.ext E356 p352_1) K363q (ninS ne_b347_b356 nin0))
        have f375 : Fld Z T363.heap b347 "com/example/portcall/portcall/cli/Latencies" "total" "J" (.long (0 : Int64)) := (Fld.keep (Fld.ext E356 p352_2) K363q (ninS ne_b347_b356 nin0))
        have f376 : Arv Z T363.heap ar_352 ka_352 .long (16384 : Int32) (own_cl ([] : List Nat)) (.long (0 : Int64)) := (Arv.keep f367 K363q (ninS ne_ar_352_b356 nin0))
        obtain ⟨T372, v372, L372, X372, q372, st372⟩ := callVi X363 hx hZ (y := own_m13) (z := own_m13) hown (own_w hw (i := 13) rfl) (own_w hw (i := 14) rfl) (notFace_of_selects (args := #[]) (mvT hZ (own_w hw (i := 16) rfl))) (own_w hw (i := 16) rfl) (own_w hw (i := 15) rfl) (own_w hw (i := 17) rfl) (own_w hw (i := 3) rfl) (by decide) (rm_rec hw G b347 p1 ar_352 ka_352 (([] : List Nat)) ((0 : Int64)) ((1 : Int64)) T363.heap O368 (by decide) f373 f374 f375 f376 g_b347 g_ar_352 ne_b347_ar_352) rfl (W := 0) (by decide) (by decide) (by decide) (by decide) f373 (g := (mkF m 107 #[.val (.long p0), .second, .val (.long p1), .second, .val (.long p2), .second, iv p3, iv p4, iv 0, iv 1, iv 0, .val (.double qv), .second, rv b341, rv b347, rv b356, .unset, .unset, .unset, .unset] [(.long p1), (.ref b347)])) rfl (by rw [hml]; rfl) (argsL := [(.long p1)]) (rest := []) (lenOf pd51 rfl) rfl rfl (Nat.le_of_eq rfl) (D at_107)
        obtain ⟨rfl, N372q, K372q, p372_0, p372_1, p372_2⟩ := q372
        have N372 := Fr.app N363 N372q
        have O377 := Old0.keep O368 K372q (allS g_b347 (allS g_ar_352 all0))
        have fj378 : Arv Z T372.heap ar_352 ka_352 .long (16384 : Int32) (own_cl ([own_jx p1] : List Nat)) (.long (0 : Int64)) := p372_2
        have f380 : Exa Z T372.heap b356 "com/example/portcall/portcall/cli/Latencies" := (Exa.keep (Exa.keep A356 K363q) K372q)
        have f381 : Fld Z T372.heap b356 "com/example/portcall/portcall/cli/Latencies" "counts" "[J" (.ref ar_363) := (Fld.keep p363_1 K372q (ninS (Ne.symm ne_b347_b356) (ninS (Ne.symm ne_ar_352_b356) nin0)))
        have f382 : Fld Z T372.heap b356 "com/example/portcall/portcall/cli/Latencies" "total" "J" (.long (0 : Int64)) := (Fld.keep p363_2 K372q (ninS (Ne.symm ne_b347_b356) (ninS (Ne.symm ne_ar_352_b356) nin0)))
        have f383 : Arv Z T372.heap ar_363 ka_363 .long (16384 : Int32) (own_cl ([] : List Nat)) (.long (0 : Int64)) := (Arv.keep fj370 K372q (ninS (Ne.symm ne_b347_ar_363) (ninS (Ne.symm ne_ar_352_ar_363) nin0)))
        obtain ⟨T379, v379, L379, X379, q379, st379⟩ := callVi X372 hx hZ (y := own_m13) (z := own_m13) hown (own_w hw (i := 13) rfl) (own_w hw (i := 14) rfl) (notFace_of_selects (args := #[]) (mvT hZ (own_w hw (i := 16) rfl))) (own_w hw (i := 16) rfl) (own_w hw (i := 15) rfl) (own_w hw (i := 17) rfl) (own_w hw (i := 3) rfl) (by decide) (rm_rec hw G b356 p1 ar_363 ka_363 (([] : List Nat)) ((0 : Int64)) ((1 : Int64)) T372.heap O377 (by decide) f380 f381 f382 f383 g_b356 g_ar_363 ne_b356_ar_363) rfl (W := 0) (by decide) (by decide) (by decide) (by decide) f380 (g := (mkF m 113 #[.val (.long p0), .second, .val (.long p1), .second, .val (.long p2), .second, iv p3, iv p4, iv 0, iv 1, iv 0, .val (.double qv), .second, rv b341, rv b347, rv b356, .unset, .unset, .unset, .unset] [(.long p1), (.ref b356)])) rfl (by rw [hml]; rfl) (argsL := [(.long p1)]) (rest := []) (lenOf pd51 rfl) rfl rfl (Nat.le_of_eq rfl) (D at_113)
        obtain ⟨rfl, N379q, K379q, p379_0, p379_1, p379_2⟩ := q379
        have N379 := Fr.app N372 N379q
        have O384 := Old0.keep O377 K379q (allS g_b356 (allS g_ar_363 all0))
        have fj385 : Arv Z T379.heap ar_363 ka_363 .long (16384 : Int32) (own_cl ([own_jx p1] : List Nat)) (.long (0 : Int64)) := p379_2
        refine Go.of (T' := T379) (f' := (mkF m 118 #[.val (.long p0), .second, .val (.long p1), .second, .val (.long p2), .second, iv p3, iv p4, iv 0, iv 1, iv 0, .val (.double qv), .second, rv b341, rv b347, rv b356, .unset, .unset, .unset, .unset] [(.int 0)])) (fun _ k => XS.dstore X0.here hx rfl (D at_53) rfl (l' := #[.val (.long p0), .second, .val (.long p1), .second, .val (.long p2), .second, iv p3, iv p4, iv 0, iv 1, iv 0, .val (.double qv), .second, .unset, .unset, .unset, .unset, .unset, .unset, .unset]) rfl (st341 _ (XS.dup X341.here hx rfl (D at_58) rfl rfl (st345 _ (XS.astore X345.here hx rfl (D at_62) rfl rfl (l' := #[.val (.long p0), .second, .val (.long p1), .second, .val (.long p2), .second, iv p3, iv p4, iv 0, iv 1, iv 0, .val (.double qv), .second, rv b341, .unset, .unset, .unset, .unset, .unset, .unset]) rfl (st347 _ (XS.dup X347.here hx rfl (D at_67) rfl rfl (st352 _ (XS.astore X352.here hx rfl (D at_71) rfl rfl (l' := #[.val (.long p0), .second, .val (.long p1), .second, .val (.long p2), .second, iv p3, iv p4, iv 0, iv 1, iv 0, .val (.double qv), .second, rv b341, rv b347, .unset, .unset, .unset, .unset, .unset]) rfl (st356 _ (XS.dup X356.here hx rfl (D at_76) rfl rfl (st363 _ (XS.astore X363.here hx rfl (D at_80) rfl rfl (l' := #[.val (.long p0), .second, .val (.long p1), .second, .val (.long p2), .second, iv p3, iv p4, iv 0, iv 1, iv 0, .val (.double qv), .second, rv b341, rv b347, rv b356, .unset, .unset, .unset, .unset]) rfl (XS.iload X363.here hx rfl (D at_82) rfl (XS.ifYes X363.here hx rfl (pc0 := 84) (pc' := 99) rfl (D at_84) rfl ((if0 _ _).trans (teq (by decide : (0 : Int32) = (0 : Int32))).1) (by decide) (by decide) (XS.iload X363.here hx rfl (D at_99) rfl (XS.ifNo X363.here hx rfl (D at_101) rfl ((if0 _ _).trans (feq (by decide : ¬ ((1 : Int32) = (0 : Int32)))).1) (XS.aload X363.here hx rfl (D at_104) rfl rfl (XS.lloadN X363.here hx rfl (D at_106) rfl (st372 _ (XS.aload X372.here hx rfl (D at_110) rfl rfl (XS.lloadN X372.here hx rfl (D at_112) rfl (st379 _ (XS.iload X379.here hx rfl (D at_116) rfl k)))))))))))))))))))))))) ?_
        have fj387 : Arv Z T379.heap ar_363 ka_363 .long (16384 : Int32) (own_cl ([own_jx p1] : List Nat)) (.long (0 : Int64)) := fj385
        have f389 : Exa Z T379.heap b341 "com/example/portcall/portcall/cli/Latencies" := (Exa.keep (Exa.keep (Exa.keep f364 K363q) K372q) K379q)
        have f390 : Exa Z T379.heap b347 "com/example/portcall/portcall/cli/Latencies" := (Exa.keep (Exa.keep f373 K372q) K379q)
        have f391 : Fld Z T379.heap b341 "com/example/portcall/portcall/cli/Latencies" "counts" "[J" (.ref ar_345) := (Fld.keep (Fld.keep (Fld.keep (Fld.ext E356 (Fld.keep (Fld.ext E347 p345_1) K352q (ninS ne_b341_b347 nin0))) K363q (ninS ne_b341_b356 nin0)) K372q (ninS ne_b341_b347 (ninS ne_b341_ar_352 nin0))) K379q (ninS ne_b341_b356 (ninS ne_b341_ar_363 nin0)))
        have f392 : Fld Z T379.heap b347 "com/example/portcall/portcall/cli/Latencies" "counts" "[J" (.ref ar_352) := (Fld.keep p372_0 K379q (ninS ne_b347_b356 (ninS ne_b347_ar_363 nin0)))
        have f393 : Fld Z T379.heap b341 "com/example/portcall/portcall/cli/Latencies" "total" "J" (.long (0 : Int64)) := (Fld.keep (Fld.keep (Fld.keep (Fld.ext E356 (Fld.keep (Fld.ext E347 p345_2) K352q (ninS ne_b341_b347 nin0))) K363q (ninS ne_b341_b356 nin0)) K372q (ninS ne_b341_b347 (ninS ne_b341_ar_352 nin0))) K379q (ninS ne_b341_b356 (ninS ne_b341_ar_363 nin0)))
        have f394 : Fld Z T379.heap b347 "com/example/portcall/portcall/cli/Latencies" "total" "J" (.long (1 : Int64)) := (Fld.keep p372_1 K379q (ninS ne_b347_b356 (ninS ne_b347_ar_363 nin0)))
        have f395 : Arv Z T379.heap ar_345 ka_345 .long (16384 : Int32) (own_cl ([] : List Nat)) (.long (0 : Int64)) := (Arv.keep (Arv.keep (Arv.keep f365 K363q (ninS ne_ar_345_b356 nin0)) K372q (ninS ne_ar_345_b347 (ninS ne_ar_345_ar_352 nin0))) K379q (ninS ne_ar_345_b356 (ninS ne_ar_345_ar_363 nin0)))
        have f396 : Arv Z T379.heap ar_352 ka_352 .long (16384 : Int32) (own_cl ([own_jx p1] : List Nat)) (.long (0 : Int64)) := (Arv.keep fj378 K379q (ninS ne_ar_352_b356 (ninS ne_ar_352_ar_363 nin0)))
        obtain ⟨T388, v388, L388, X388, q388, st388⟩ := callVi X379 hx hZ (y := own_m15) (z := own_m15) hown (own_w hw (i := 32) rfl) (own_w hw (i := 33) rfl) (notFace_of_selects (args := #[]) (mvT hZ (own_w hw (i := 35) rfl))) (own_w hw (i := 35) rfl) (own_w hw (i := 34) rfl) (own_w hw (i := 36) rfl) (own_w hw (i := 3) rfl) (by decide) (rm_add hw G b341 b347 ar_345 ka_345 (([] : List Nat)) ar_352 ka_352 (([own_jx p1] : List Nat)) ((0 : Int64)) ((1 : Int64)) ((1 : Int64)) T379.heap O384 (by decide) f389 f390 f391 f392 f393 f394 f395 f396 g_b341 g_ar_345 ne_b341_ar_345 ne_b341_b347 ne_b341_ar_352 (Ne.symm ne_ar_345_b347) (Ne.symm ne_ar_345_ar_352)) rfl (W := 0) (by decide) (by decide) (by decide) (by decide) f389 (g := (mkF m 139 #[.val (.long p0), .second, .val (.long p1), .second, .val (.long p2), .second, iv p3, iv p4, iv 0, iv 1, iv 0, .val (.double qv), .second, rv b341, rv b347, rv b356, .unset, .unset, .unset, .unset] [(.ref b347), (.ref b341)])) rfl (by rw [hml]; rfl) (argsL := [(.ref b347)]) (rest := []) (lenOf pd48 rfl) rfl rfl (Nat.le_of_eq rfl) (D at_139)
        obtain ⟨rfl, N388q, K388q, p388_0, p388_1, p388_2⟩ := q388
        have N388 := Fr.app N379 N388q
        have O397 := Old0.keep O384 K388q (allS g_b341 (allS g_ar_345 all0))
        have fj398 : Arv Z T388.heap ar_345 ka_345 .long (16384 : Int32) (own_cl ([own_jx p1] : List Nat)) (.long (0 : Int64)) := p388_2
        have f400 : Exa Z T388.heap b341 "com/example/portcall/portcall/cli/Latencies" := (Exa.keep f389 K388q)
        obtain ⟨T399, v399, L399, X399, q399, st399⟩ := callVi X388 hx hZ (y := own_m30) (z := own_m30) hown (own_w hw (i := 37) rfl) (own_w hw (i := 38) rfl) (notFace_of_selects (args := #[]) (mvT hZ (own_w hw (i := 40) rfl))) (own_w hw (i := 40) rfl) (own_w hw (i := 39) rfl) (own_w hw (i := 41) rfl) (own_w hw (i := 3) rfl) (by decide) (rm_pct1 hw G b341 qv ar_345 ka_345 (([own_jx p1] : List Nat)) T388.heap O397 (hq) (And.intro (own_jlt p1) (trivial)) (rfl) p388_0 p388_1 fj398) rfl (W := 0) (by decide) (by decide) (by decide) (by decide) f400 (g := (mkF m 146 #[.val (.long p0), .second, .val (.long p1), .second, .val (.long p2), .second, iv p3, iv p4, iv 0, iv 1, iv 0, .val (.double qv), .second, rv b341, rv b347, rv b356, .unset, .unset, .unset, .unset] [(.double qv), (.ref b341)])) rfl (by rw [hml]; rfl) (argsL := [(.double qv)]) (rest := []) (lenOf pd49 rfl) rfl rfl (Nat.le_of_eq rfl) (D at_146)
        obtain ⟨iz_399, rfl, N399q, K399q, p399_0⟩ := q399
        have N399 := Fr.app N388 N399q
        have O401 := Old0.keep O397 K399q all0
        have f403 : Exa Z T399.heap b356 "com/example/portcall/portcall/cli/Latencies" := (Exa.keep (Exa.keep (Exa.keep f380 K379q) K388q) K399q)
        have f404 : Fld Z T399.heap b356 "com/example/portcall/portcall/cli/Latencies" "counts" "[J" (.ref ar_363) := (Fld.keep (Fld.keep p379_0 K388q (ninS (Ne.symm ne_b341_b356) (ninS (Ne.symm ne_ar_345_b356) nin0))) K399q nin0)
        have f405 : Fld Z T399.heap b356 "com/example/portcall/portcall/cli/Latencies" "total" "J" (.long (1 : Int64)) := (Fld.keep (Fld.keep p379_1 K388q (ninS (Ne.symm ne_b341_b356) (ninS (Ne.symm ne_ar_345_b356) nin0))) K399q nin0)
        have f406 : Arv Z T399.heap ar_363 ka_363 .long (16384 : Int32) (own_cl ([own_jx p1] : List Nat)) (.long (0 : Int64)) := (Arv.keep (Arv.keep fj387 K388q (ninS (Ne.symm ne_b341_ar_363) (ninS (Ne.symm ne_ar_345_ar_363) nin0))) K399q nin0)
        obtain ⟨T402, v402, L402, X402, q402, st402⟩ := callVi X399 hx hZ (y := own_m30) (z := own_m30) hown (own_w hw (i := 37) rfl) (own_w hw (i := 38) rfl) (notFace_of_selects (args := #[]) (mvT hZ (own_w hw (i := 40) rfl))) (own_w hw (i := 40) rfl) (own_w hw (i := 39) rfl) (own_w hw (i := 41) rfl) (own_w hw (i := 3) rfl) (by decide) (rm_pct1 hw G b356 qv ar_363 ka_363 (([own_jx p1] : List Nat)) T399.heap O401 (hq) (And.intro (own_jlt p1) (trivial)) (rfl) f404 f405 f406) rfl (W := 0) (by decide) (by decide) (by decide) (by decide) f403 (g := (mkF m 155 #[.val (.long p0), .second, .val (.long p1), .second, .val (.long p2), .second, iv p3, iv p4, iv 0, iv 1, iv 0, .val (.double qv), .second, rv b341, rv b347, rv b356, .val (.double (own_mid iz_399)), .second, .unset, .unset] [(.double qv), (.ref b356)])) rfl (by rw [hml]; rfl) (argsL := [(.double qv)]) (rest := []) (lenOf pd49 rfl) rfl rfl (Nat.le_of_eq rfl) (D at_155)
        obtain ⟨iz_402, rfl, N402q, K402q, p402_0⟩ := q402
        have N402 := Fr.app N399 N402q
        have O407 := Old0.keep O401 K402q all0
        obtain ⟨T408, v408, L408, X408, q408, st408⟩ := callSt X402 hx hZ (y := own_m45) hown (own_w hw (i := 68) rfl) (own_w hw (i := 69) rfl) (own_w hw (i := 70) rfl) (own_w hw (i := 71) rfl) (by decide) (rm_same hw G ((own_mid iz_399)) ((own_mid iz_402))  T402.heap O407 (congrArg own_mid (own_at1 p402_0 p399_0))) rfl (W := 0) (by decide) (by decide) (by decide) (by decide) (g := (mkF m 164 #[.val (.long p0), .second, .val (.long p1), .second, .val (.long p2), .second, iv p3, iv p4, iv 0, iv 1, iv 0, .val (.double qv), .second, rv b341, rv b347, rv b356, .val (.double (own_mid iz_399)), .second, .val (.double (own_mid iz_402)), .second] [(.double (own_mid iz_402)), (.double (own_mid iz_399))])) rfl (by rw [hml]; rfl) (argsL := [(.double (own_mid iz_399)), (.double (own_mid iz_402))]) (rest := []) (lenOf pd50 rfl) rfl rfl (Nat.le_of_eq rfl) (D at_164)
        obtain ⟨rfl, e408, rfl⟩ := q408
        have N408 := Fr.app N402 (Fr.nil _)
        refine Go.of (T' := T408) (f' := (mkF m 167 #[.val (.long p0), .second, .val (.long p1), .second, .val (.long p2), .second, iv p3, iv p4, iv 0, iv 1, iv 0, .val (.double qv), .second, rv b341, rv b347, rv b356, .val (.double (own_mid iz_399)), .second, .val (.double (own_mid iz_402)), .second] [(.int 1)])) (fun _ k => XS.ifYes X379.here hx rfl (pc0 := 118) (pc' := 135) rfl (D at_118) rfl ((if0 _ _).trans (teq (by decide : (0 : Int32) = (0 : Int32))).1) (by decide) (by decide) (XS.aload X379.here hx rfl (D at_135) rfl rfl (XS.aload X379.here hx rfl (D at_137) rfl rfl (st388 _ (XS.aload X388.here hx rfl (D at_142) rfl rfl (XS.dload X388.here hx rfl (D at_144) rfl (st399 _ (XS.dstore X399.here hx rfl (D at_149) rfl (l' := #[.val (.long p0), .second, .val (.long p1), .second, .val (.long p2), .second, iv p3, iv p4, iv 0, iv 1, iv 0, .val (.double qv), .second, rv b341, rv b347, rv b356, .val (.double (own_mid iz_399)), .second, .unset, .unset]) rfl (XS.aload X399.here hx rfl (D at_151) rfl rfl (XS.dload X399.here hx rfl (D at_153) rfl (st402 _ (XS.dstore X402.here hx rfl (D at_158) rfl (l' := #[.val (.long p0), .second, .val (.long p1), .second, .val (.long p2), .second, iv p3, iv p4, iv 0, iv 1, iv 0, .val (.double qv), .second, rv b341, rv b347, rv b356, .val (.double (own_mid iz_399)), .second, .val (.double (own_mid iz_402)), .second]) rfl (XS.dload X402.here hx rfl (D at_160) rfl (XS.dload X402.here hx rfl (D at_162) rfl (st408 _ k))))))))))))))) ?_
        exact Go.retB X408 hx hlk hret (by simp) (D at_167) (by decide) (by decide) (z' := (1 : Int32)) rfl ⟨rfl, N408⟩
      · skip
        refine Go.of (T' := T0) (f' := (mkF m 53 #[.val (.long p0), .second, .val (.long p1), .second, .val (.long p2), .second, iv p3, iv p4, iv 0, iv 1, iv 1, .unset, .unset, .unset, .unset, .unset, .unset, .unset, .unset, .unset] [(.double (FP.ddiv (FP.i2d ((p4 &&& (3 : Int32)) + (1 : Int32))) (4616189618054758400 : UInt64)))])) (fun _ k => XS.ifNo X0.here hx rfl (D at_32) rfl ((if0 _ _).trans (feq hc340).1) (XS.iconst X0.here hx rfl (D at_35) (XS.goto X0.here hx rfl (pc0 := 36) (pc' := 40) rfl (D at_36) (by decide) (by decide) (XS.istore X0.here hx rfl (D at_40) rfl (l' := #[.val (.long p0), .second, .val (.long p1), .second, .val (.long p2), .second, iv p3, iv p4, iv 0, iv 1, iv 1, .unset, .unset, .unset, .unset, .unset, .unset, .unset, .unset, .unset]) rfl (XS.iload X0.here hx rfl (D at_42) rfl (XS.iconst X0.here hx rfl (D at_44) (XS.iand X0.here hx rfl (D at_45) rfl (XS.iconst X0.here hx rfl (D at_46) (XS.iadd X0.here hx rfl (D at_47) rfl (XS.i2dS X0.here hx rfl (D at_48) rfl rfl (X0.ldc2DoubleC hx hown (mvT hZ (own_w hw (i := 0) rfl)) (g := (mkF m 49 #[.val (.long p0), .second, .val (.long p1), .second, .val (.long p2), .second, iv p3, iv p4, iv 0, iv 1, iv 1, .unset, .unset, .unset, .unset, .unset, .unset, .unset, .unset, .unset] [(.double (FP.i2d ((p4 &&& (3 : Int32)) + (1 : Int32))))])) rfl (D at_49) _ (XS.ddivS X0.here hx rfl (D at_52) rfl (own_nn4 _) rfl k)))))))))))) ?_
        generalize hqv : ((FP.ddiv (FP.i2d ((p4 &&& (3 : Int32)) + (1 : Int32))) (4616189618054758400 : UInt64)) : UInt64) = qv
        have hq := hqv ▸ own_q4 p4
        obtain ⟨T409, h409, b409, q409, X409, e409, E409, A409, D409, st409⟩ := newOb X0 hx hZ hown (own_w hw (i := 1) rfl) (own_w hw (i := 2) rfl) (own_w hw (i := 3) rfl) e0 (g := (mkF m 55 #[.val (.long p0), .second, .val (.long p1), .second, .val (.long p2), .second, iv p3, iv p4, iv 0, iv 1, iv 1, .val (.double qv), .second, .unset, .unset, .unset, .unset, .unset, .unset, .unset] [])) rfl (D at_55) (by decide) (by decide)
        have O410 := Old0.ext O0 E409
        have g_b409 : Z.heap.size ≤ b409 := q409 ▸ O0.1
        have f411 : Fld Z h409 b409 "com/example/portcall/portcall/cli/Latencies" "counts" "[J" .null := D409 (Or.inr (own_w hw (i := 12) rfl)) (ty := (.array .long)) (by decide)
        have f412 : Fld Z h409 b409 "com/example/portcall/portcall/cli/Latencies" "total" "J" (.long (0 : Int64)) := D409 (Or.inl (own_w hw (i := 31) rfl)) (ty := .long) (by decide)
        obtain ⟨T413, v413, L413, X413, q413, st413⟩ := callNew X409 hx hZ (y := own_m10) rfl hown (own_w hw (i := 4) rfl) (own_w hw (i := 5) rfl) (own_w hw (i := 3) rfl) (own_w hw (i := 6) rfl) (by decide) (rm_init hw G b409  h409 O410 A409 f411 f412 g_b409) e409 (W := 1) (by decide) (by decide) (by decide) (by decide) (g := (mkF m 59 #[.val (.long p0), .second, .val (.long p1), .second, .val (.long p2), .second, iv p3, iv p4, iv 0, iv 1, iv 1, .val (.double qv), .second, .unset, .unset, .unset, .unset, .unset, .unset, .unset] [(.ref b409), (.ref b409)])) rfl (by rw [hml]; rfl) (a := b409) (argsL := []) (rest := [(.ref b409)]) (lenOf pd47 rfl) rfl rfl (Nat.le_of_eq rfl) (D at_59)
        obtain ⟨ar_413, ka_413, rfl, N413q, K413q, p413_0, p413_1, p413_2, p413_3⟩ := q413
        have N413 := Fr.app N0 N413q
        have O414 := Old0.keep O410 K413q (allS g_b409 all0)
        have g_ar_413 : Z.heap.size ≤ ar_413 := Nat.le_trans O410.1 p413_0
        have ne_b409_ar_413 : b409 ≠ ar_413 := Nat.ne_of_lt (Nat.lt_of_lt_of_le A409.lt p413_0)
        have f416 : Exa Z T413.heap b409 "com/example/portcall/portcall/cli/Latencies" := (Exa.keep A409 K413q)
        obtain ⟨T415, h415, b415, q415, X415, e415, E415, A415, D415, st415⟩ := newOb X413 hx hZ hown (own_w hw (i := 1) rfl) (own_w hw (i := 2) rfl) (own_w hw (i := 3) rfl) rfl (g := (mkF m 64 #[.val (.long p0), .second, .val (.long p1), .second, .val (.long p2), .second, iv p3, iv p4, iv 0, iv 1, iv 1, .val (.double qv), .second, rv b409, .unset, .unset, .unset, .unset, .unset, .unset] [])) rfl (D at_64) (by decide) (by decide)
        have O417 := Old0.ext O414 E415
        have g_b415 : Z.heap.size ≤ b415 := q415 ▸ O414.1
        have ne_b409_b415 : b409 ≠ b415 := q415 ▸ Nat.ne_of_lt f416.lt
        have ne_ar_413_b415 : ar_413 ≠ b415 := q415 ▸ Nat.ne_of_lt p413_3.lt
        have f418 : Fld Z h415 b415 "com/example/portcall/portcall/cli/Latencies" "counts" "[J" .null := D415 (Or.inr (own_w hw (i := 12) rfl)) (ty := (.array .long)) (by decide)
        have f419 : Fld Z h415 b415 "com/example/portcall/portcall/cli/Latencies" "total" "J" (.long (0 : Int64)) := D415 (Or.inl (own_w hw (i := 31) rfl)) (ty := .long) (by decide)
        have f421 : Exa Z h415 b409 "com/example/portcall/portcall/cli/Latencies" := (Exa.ext E415 f416)
        have f422 : Arv Z h415 ar_413 ka_413 .long (16384 : Int32) (own_cl ([] : List Nat)) (.long (0 : Int64)) := (Arv.ext p413_3 E415)
        obtain ⟨T420, v420, L420, X420, q420, st420⟩ := callNew X415 hx hZ (y := own_m10) rfl hown (own_w hw (i := 4) rfl) (own_w hw (i := 5) rfl) (own_w hw (i := 3) rfl) (own_w hw (i := 6) rfl) (by decide) (rm_init hw G b415  h415 O417 A415 f418 f419 g_b415) e415 (W := 1) (by decide) (by decide) (by decide) (by decide) (g := (mkF m 68 #[.val (.long p0), .second, .val (.long p1), .second, .val (.long p2), .second, iv p3, iv p4, iv 0, iv 1, iv 1, .val (.double qv), .second, rv b409, .unset, .unset, .unset, .unset, .unset, .unset] [(.ref b415), (.ref b415)])) rfl (by rw [hml]; rfl) (a := b415) (argsL := []) (rest := [(.ref b415)]) (lenOf pd47 rfl) rfl rfl (Nat.le_of_eq rfl) (D at_68)
        obtain ⟨ar_420, ka_420, rfl, N420q, K420q, p420_0, p420_1, p420_2, p420_3⟩ := q420
        have N420 := Fr.app N413 N420q
        have O423 := Old0.keep O417 K420q (allS g_b415 all0)
        have g_ar_420 : Z.heap.size ≤ ar_420 := Nat.le_trans O417.1 p420_0
        have ne_b409_ar_420 : b409 ≠ ar_420 := Nat.ne_of_lt (Nat.lt_of_lt_of_le f421.lt p420_0)
        have ne_ar_413_ar_420 : ar_413 ≠ ar_420 := Nat.ne_of_lt (Nat.lt_of_lt_of_le f422.lt p420_0)
        have ne_b415_ar_420 : b415 ≠ ar_420 := Nat.ne_of_lt (Nat.lt_of_lt_of_le A415.lt p420_0)
        have f425 : Exa Z T420.heap b409 "com/example/portcall/portcall/cli/Latencies" := (Exa.keep f421 K420q)
        have f426 : Arv Z T420.heap ar_413 ka_413 .long (16384 : Int32) (own_cl ([] : List Nat)) (.long (0 : Int64)) := (Arv.keep f422 K420q (ninS ne_ar_413_b415 nin0))
        have f427 : Exa Z T420.heap b415 "com/example/portcall/portcall/cli/Latencies" := (Exa.keep A415 K420q)
        obtain ⟨T424, h424, b424, q424, X424, e424, E424, A424, D424, st424⟩ := newOb X420 hx hZ hown (own_w hw (i := 1) rfl) (own_w hw (i := 2) rfl) (own_w hw (i := 3) rfl) rfl (g := (mkF m 73 #[.val (.long p0), .second, .val (.long p1), .second, .val (.long p2), .second, iv p3, iv p4, iv 0, iv 1, iv 1, .val (.double qv), .second, rv b409, rv b415, .unset, .unset, .unset, .unset, .unset] [])) rfl (D at_73) (by decide) (by decide)
        have O428 := Old0.ext O423 E424
        have g_b424 : Z.heap.size ≤ b424 := q424 ▸ O423.1
        have ne_b409_b424 : b409 ≠ b424 := q424 ▸ Nat.ne_of_lt f425.lt
        have ne_ar_413_b424 : ar_413 ≠ b424 := q424 ▸ Nat.ne_of_lt f426.lt
        have ne_b415_b424 : b415 ≠ b424 := q424 ▸ Nat.ne_of_lt f427.lt
        have ne_ar_420_b424 : ar_420 ≠ b424 := q424 ▸ Nat.ne_of_lt p420_3.lt
        have f429 : Fld Z h424 b424 "com/example/portcall/portcall/cli/Latencies" "counts" "[J" .null := D424 (Or.inr (own_w hw (i := 12) rfl)) (ty := (.array .long)) (by decide)
        have f430 : Fld Z h424 b424 "com/example/portcall/portcall/cli/Latencies" "total" "J" (.long (0 : Int64)) := D424 (Or.inl (own_w hw (i := 31) rfl)) (ty := .long) (by decide)
        have f432 : Exa Z h424 b409 "com/example/portcall/portcall/cli/Latencies" := (Exa.ext E424 f425)
        have f433 : Arv Z h424 ar_413 ka_413 .long (16384 : Int32) (own_cl ([] : List Nat)) (.long (0 : Int64)) := (Arv.ext f426 E424)
        have f434 : Exa Z h424 b415 "com/example/portcall/portcall/cli/Latencies" := (Exa.ext E424 f427)
        have f435 : Arv Z h424 ar_420 ka_420 .long (16384 : Int32) (own_cl ([] : List Nat)) (.long (0 : Int64)) := (Arv.ext p420_3 E424)
        obtain ⟨T431, v431, L431, X431, q431, st431⟩ := callNew X424 hx hZ (y := own_m10) rfl hown (own_w hw (i := 4) rfl) (own_w hw (i := 5) rfl) (own_w hw (i := 3) rfl) (own_w hw (i := 6) rfl) (by decide) (rm_init hw G b424  h424 O428 A424 f429 f430 g_b424) e424 (W := 1) (by decide) (by decide) (by decide) (by decide) (g := (mkF m 77 #[.val (.long p0), .second, .val (.long p1), .second, .val (.long p2), .second, iv p3, iv p4, iv 0, iv 1, iv 1, .val (.double qv), .second, rv b409, rv b415, .unset, .unset, .unset, .unset, .unset] [(.ref b424), (.ref b424)])) rfl (by rw [hml]; rfl) (a := b424) (argsL := []) (rest := [(.ref b424)]) (lenOf pd47 rfl) rfl rfl (Nat.le_of_eq rfl) (D at_77)
        obtain ⟨ar_431, ka_431, rfl, N431q, K431q, p431_0, p431_1, p431_2, p431_3⟩ := q431
        have N431 := Fr.app N420 N431q
        have O436 := Old0.keep O428 K431q (allS g_b424 all0)
        have g_ar_431 : Z.heap.size ≤ ar_431 := Nat.le_trans O428.1 p431_0
        have ne_b409_ar_431 : b409 ≠ ar_431 := Nat.ne_of_lt (Nat.lt_of_lt_of_le f432.lt p431_0)
        have ne_ar_413_ar_431 : ar_413 ≠ ar_431 := Nat.ne_of_lt (Nat.lt_of_lt_of_le f433.lt p431_0)
        have ne_b415_ar_431 : b415 ≠ ar_431 := Nat.ne_of_lt (Nat.lt_of_lt_of_le f434.lt p431_0)
        have ne_ar_420_ar_431 : ar_420 ≠ ar_431 := Nat.ne_of_lt (Nat.lt_of_lt_of_le f435.lt p431_0)
        have ne_b424_ar_431 : b424 ≠ ar_431 := Nat.ne_of_lt (Nat.lt_of_lt_of_le A424.lt p431_0)
        have fj438 : Arv Z T431.heap ar_431 ka_431 .long (16384 : Int32) (own_cl ([] : List Nat)) (.long (0 : Int64)) := p431_3
        have f441 : Exa Z T431.heap b415 "com/example/portcall/portcall/cli/Latencies" := (Exa.keep f434 K431q)
        have f442 : Fld Z T431.heap b415 "com/example/portcall/portcall/cli/Latencies" "counts" "[J" (.ref ar_420) := (Fld.keep (Fld.ext E424 p420_1) K431q (ninS ne_b415_b424 nin0))
        have f443 : Fld Z T431.heap b415 "com/example/portcall/portcall/cli/Latencies" "total" "J" (.long (0 : Int64)) := (Fld.keep (Fld.ext E424 p420_2) K431q (ninS ne_b415_b424 nin0))
        have f444 : Arv Z T431.heap ar_420 ka_420 .long (16384 : Int32) (own_cl ([] : List Nat)) (.long (0 : Int64)) := (Arv.keep f435 K431q (ninS ne_ar_420_b424 nin0))
        obtain ⟨T440, v440, L440, X440, q440, st440⟩ := callVi X431 hx hZ (y := own_m13) (z := own_m13) hown (own_w hw (i := 13) rfl) (own_w hw (i := 14) rfl) (notFace_of_selects (args := #[]) (mvT hZ (own_w hw (i := 16) rfl))) (own_w hw (i := 16) rfl) (own_w hw (i := 15) rfl) (own_w hw (i := 17) rfl) (own_w hw (i := 3) rfl) (by decide) (rm_rec hw G b415 p1 ar_420 ka_420 (([] : List Nat)) ((0 : Int64)) ((1 : Int64)) T431.heap O436 (by decide) f441 f442 f443 f444 g_b415 g_ar_420 ne_b415_ar_420) rfl (W := 0) (by decide) (by decide) (by decide) (by decide) f441 (g := (mkF m 107 #[.val (.long p0), .second, .val (.long p1), .second, .val (.long p2), .second, iv p3, iv p4, iv 0, iv 1, iv 1, .val (.double qv), .second, rv b409, rv b415, rv b424, .unset, .unset, .unset, .unset] [(.long p1), (.ref b415)])) rfl (by rw [hml]; rfl) (argsL := [(.long p1)]) (rest := []) (lenOf pd51 rfl) rfl rfl (Nat.le_of_eq rfl) (D at_107)
        obtain ⟨rfl, N440q, K440q, p440_0, p440_1, p440_2⟩ := q440
        have N440 := Fr.app N431 N440q
        have O445 := Old0.keep O436 K440q (allS g_b415 (allS g_ar_420 all0))
        have fj446 : Arv Z T440.heap ar_420 ka_420 .long (16384 : Int32) (own_cl ([own_jx p1] : List Nat)) (.long (0 : Int64)) := p440_2
        have f448 : Exa Z T440.heap b424 "com/example/portcall/portcall/cli/Latencies" := (Exa.keep (Exa.keep A424 K431q) K440q)
        have f449 : Fld Z T440.heap b424 "com/example/portcall/portcall/cli/Latencies" "counts" "[J" (.ref ar_431) := (Fld.keep p431_1 K440q (ninS (Ne.symm ne_b415_b424) (ninS (Ne.symm ne_ar_420_b424) nin0)))
        have f450 : Fld Z T440.heap b424 "com/example/portcall/portcall/cli/Latencies" "total" "J" (.long (0 : Int64)) := (Fld.keep p431_2 K440q (ninS (Ne.symm ne_b415_b424) (ninS (Ne.symm ne_ar_420_b424) nin0)))
        have f451 : Arv Z T440.heap ar_431 ka_431 .long (16384 : Int32) (own_cl ([] : List Nat)) (.long (0 : Int64)) := (Arv.keep fj438 K440q (ninS (Ne.symm ne_b415_ar_431) (ninS (Ne.symm ne_ar_420_ar_431) nin0)))
        obtain ⟨T447, v447, L447, X447, q447, st447⟩ := callVi X440 hx hZ (y := own_m13) (z := own_m13) hown (own_w hw (i := 13) rfl) (own_w hw (i := 14) rfl) (notFace_of_selects (args := #[]) (mvT hZ (own_w hw (i := 16) rfl))) (own_w hw (i := 16) rfl) (own_w hw (i := 15) rfl) (own_w hw (i := 17) rfl) (own_w hw (i := 3) rfl) (by decide) (rm_rec hw G b424 p1 ar_431 ka_431 (([] : List Nat)) ((0 : Int64)) ((1 : Int64)) T440.heap O445 (by decide) f448 f449 f450 f451 g_b424 g_ar_431 ne_b424_ar_431) rfl (W := 0) (by decide) (by decide) (by decide) (by decide) f448 (g := (mkF m 113 #[.val (.long p0), .second, .val (.long p1), .second, .val (.long p2), .second, iv p3, iv p4, iv 0, iv 1, iv 1, .val (.double qv), .second, rv b409, rv b415, rv b424, .unset, .unset, .unset, .unset] [(.long p1), (.ref b424)])) rfl (by rw [hml]; rfl) (argsL := [(.long p1)]) (rest := []) (lenOf pd51 rfl) rfl rfl (Nat.le_of_eq rfl) (D at_113)
        obtain ⟨rfl, N447q, K447q, p447_0, p447_1, p447_2⟩ := q447
        have N447 := Fr.app N440 N447q
        have O452 := Old0.keep O445 K447q (allS g_b424 (allS g_ar_431 all0))
        have fj453 : Arv Z T447.heap ar_431 ka_431 .long (16384 : Int32) (own_cl ([own_jx p1] : List Nat)) (.long (0 : Int64)) := p447_2
        refine Go.of (T' := T447) (f' := (mkF m 118 #[.val (.long p0), .second, .val (.long p1), .second, .val (.long p2), .second, iv p3, iv p4, iv 0, iv 1, iv 1, .val (.double qv), .second, rv b409, rv b415, rv b424, .unset, .unset, .unset, .unset] [(.int 1)])) (fun _ k => XS.dstore X0.here hx rfl (D at_53) rfl (l' := #[.val (.long p0), .second, .val (.long p1), .second, .val (.long p2), .second, iv p3, iv p4, iv 0, iv 1, iv 1, .val (.double qv), .second, .unset, .unset, .unset, .unset, .unset, .unset, .unset]) rfl (st409 _ (XS.dup X409.here hx rfl (D at_58) rfl rfl (st413 _ (XS.astore X413.here hx rfl (D at_62) rfl rfl (l' := #[.val (.long p0), .second, .val (.long p1), .second, .val (.long p2), .second, iv p3, iv p4, iv 0, iv 1, iv 1, .val (.double qv), .second, rv b409, .unset, .unset, .unset, .unset, .unset, .unset]) rfl (st415 _ (XS.dup X415.here hx rfl (D at_67) rfl rfl (st420 _ (XS.astore X420.here hx rfl (D at_71) rfl rfl (l' := #[.val (.long p0), .second, .val (.long p1), .second, .val (.long p2), .second, iv p3, iv p4, iv 0, iv 1, iv 1, .val (.double qv), .second, rv b409, rv b415, .unset, .unset, .unset, .unset, .unset]) rfl (st424 _ (XS.dup X424.here hx rfl (D at_76) rfl rfl (st431 _ (XS.astore X431.here hx rfl (D at_80) rfl rfl (l' := #[.val (.long p0), .second, .val (.long p1), .second, .val (.long p2), .second, iv p3, iv p4, iv 0, iv 1, iv 1, .val (.double qv), .second, rv b409, rv b415, rv b424, .unset, .unset, .unset, .unset]) rfl (XS.iload X431.here hx rfl (D at_82) rfl (XS.ifYes X431.here hx rfl (pc0 := 84) (pc' := 99) rfl (D at_84) rfl ((if0 _ _).trans (teq (by decide : (0 : Int32) = (0 : Int32))).1) (by decide) (by decide) (XS.iload X431.here hx rfl (D at_99) rfl (XS.ifNo X431.here hx rfl (D at_101) rfl ((if0 _ _).trans (feq (by decide : ¬ ((1 : Int32) = (0 : Int32)))).1) (XS.aload X431.here hx rfl (D at_104) rfl rfl (XS.lloadN X431.here hx rfl (D at_106) rfl (st440 _ (XS.aload X440.here hx rfl (D at_110) rfl rfl (XS.lloadN X440.here hx rfl (D at_112) rfl (st447 _ (XS.iload X447.here hx rfl (D at_116) rfl k)))))))))))))))))))))))) ?_
        have f456 : Exa Z T447.heap b415 "com/example/portcall/portcall/cli/Latencies" := (Exa.keep (Exa.keep f441 K440q) K447q)
        have f457 : Fld Z T447.heap b415 "com/example/portcall/portcall/cli/Latencies" "counts" "[J" (.ref ar_420) := (Fld.keep p440_0 K447q (ninS ne_b415_b424 (ninS ne_b415_ar_431 nin0)))
        have f458 : Fld Z T447.heap b415 "com/example/portcall/portcall/cli/Latencies" "total" "J" (.long (1 : Int64)) := (Fld.keep p440_1 K447q (ninS ne_b415_b424 (ninS ne_b415_ar_431 nin0)))
        have f459 : Arv Z T447.heap ar_420 ka_420 .long (16384 : Int32) (own_cl ([own_jx p1] : List Nat)) (.long (0 : Int64)) := (Arv.keep fj446 K447q (ninS ne_ar_420_b424 (ninS ne_ar_420_ar_431 nin0)))
        obtain ⟨T455, v455, L455, X455, q455, st455⟩ := callVi X447 hx hZ (y := own_m13) (z := own_m13) hown (own_w hw (i := 13) rfl) (own_w hw (i := 14) rfl) (notFace_of_selects (args := #[]) (mvT hZ (own_w hw (i := 16) rfl))) (own_w hw (i := 16) rfl) (own_w hw (i := 15) rfl) (own_w hw (i := 17) rfl) (own_w hw (i := 3) rfl) (by decide) (rm_rec hw G b415 p2 ar_420 ka_420 (([own_jx p1] : List Nat)) ((1 : Int64)) ((2 : Int64)) T447.heap O452 (by decide) f456 f457 f458 f459 g_b415 g_ar_420 ne_b415_ar_420) rfl (W := 0) (by decide) (by decide) (by decide) (by decide) f456 (g := (mkF m 125 #[.val (.long p0), .second, .val (.long p1), .second, .val (.long p2), .second, iv p3, iv p4, iv 0, iv 1, iv 1, .val (.double qv), .second, rv b409, rv b415, rv b424, .unset, .unset, .unset, .unset] [(.long p2), (.ref b415)])) rfl (by rw [hml]; rfl) (argsL := [(.long p2)]) (rest := []) (lenOf pd51 rfl) rfl rfl (Nat.le_of_eq rfl) (D at_125)
        obtain ⟨rfl, N455q, K455q, p455_0, p455_1, p455_2⟩ := q455
        have N455 := Fr.app N447 N455q
        have O460 := Old0.keep O452 K455q (allS g_b415 (allS g_ar_420 all0))
        have fj461 : Arv Z T455.heap ar_420 ka_420 .long (16384 : Int32) (own_cl ([own_jx p1, own_jx p2] : List Nat)) (.long (0 : Int64)) := p455_2
        have f463 : Exa Z T455.heap b424 "com/example/portcall/portcall/cli/Latencies" := (Exa.keep (Exa.keep f448 K447q) K455q)
        have f464 : Fld Z T455.heap b424 "com/example/portcall/portcall/cli/Latencies" "counts" "[J" (.ref ar_431) := (Fld.keep p447_0 K455q (ninS (Ne.symm ne_b415_b424) (ninS (Ne.symm ne_ar_420_b424) nin0)))
        have f465 : Fld Z T455.heap b424 "com/example/portcall/portcall/cli/Latencies" "total" "J" (.long (1 : Int64)) := (Fld.keep p447_1 K455q (ninS (Ne.symm ne_b415_b424) (ninS (Ne.symm ne_ar_420_b424) nin0)))
        have f466 : Arv Z T455.heap ar_431 ka_431 .long (16384 : Int32) (own_cl ([own_jx p1] : List Nat)) (.long (0 : Int64)) := (Arv.keep fj453 K455q (ninS (Ne.symm ne_b415_ar_431) (ninS (Ne.symm ne_ar_420_ar_431) nin0)))
        obtain ⟨T462, v462, L462, X462, q462, st462⟩ := callVi X455 hx hZ (y := own_m13) (z := own_m13) hown (own_w hw (i := 13) rfl) (own_w hw (i := 14) rfl) (notFace_of_selects (args := #[]) (mvT hZ (own_w hw (i := 16) rfl))) (own_w hw (i := 16) rfl) (own_w hw (i := 15) rfl) (own_w hw (i := 17) rfl) (own_w hw (i := 3) rfl) (by decide) (rm_rec hw G b424 p2 ar_431 ka_431 (([own_jx p1] : List Nat)) ((1 : Int64)) ((2 : Int64)) T455.heap O460 (by decide) f463 f464 f465 f466 g_b424 g_ar_431 ne_b424_ar_431) rfl (W := 0) (by decide) (by decide) (by decide) (by decide) f463 (g := (mkF m 132 #[.val (.long p0), .second, .val (.long p1), .second, .val (.long p2), .second, iv p3, iv p4, iv 0, iv 1, iv 1, .val (.double qv), .second, rv b409, rv b415, rv b424, .unset, .unset, .unset, .unset] [(.long p2), (.ref b424)])) rfl (by rw [hml]; rfl) (argsL := [(.long p2)]) (rest := []) (lenOf pd51 rfl) rfl rfl (Nat.le_of_eq rfl) (D at_132)
        obtain ⟨rfl, N462q, K462q, p462_0, p462_1, p462_2⟩ := q462
        have N462 := Fr.app N455 N462q
        have O467 := Old0.keep O460 K462q (allS g_b424 (allS g_ar_431 all0))
        have fj468 : Arv Z T462.heap ar_431 ka_431 .long (16384 : Int32) (own_cl ([own_jx p1, own_jx p2] : List Nat)) (.long (0 : Int64)) := p462_2
        have f470 : Exa Z T462.heap b409 "com/example/portcall/portcall/cli/Latencies" := (Exa.keep (Exa.keep (Exa.keep (Exa.keep (Exa.keep f432 K431q) K440q) K447q) K455q) K462q)
        have f471 : Exa Z T462.heap b415 "com/example/portcall/portcall/cli/Latencies" := (Exa.keep (Exa.keep f456 K455q) K462q)
        have f472 : Fld Z T462.heap b409 "com/example/portcall/portcall/cli/Latencies" "counts" "[J" (.ref ar_413) := (Fld.keep (Fld.keep (Fld.keep (Fld.keep (Fld.keep (Fld.ext E424 (Fld.keep (Fld.ext E415 p413_1) K420q (ninS ne_b409_b415 nin0))) K431q (ninS ne_b409_b424 nin0)) K440q (ninS ne_b409_b415 (ninS ne_b409_ar_420 nin0))) K447q (ninS ne_b409_b424 (ninS ne_b409_ar_431 nin0))) K455q (ninS ne_b409_b415 (ninS ne_b409_ar_420 nin0))) K462q (ninS ne_b409_b424 (ninS ne_b409_ar_431 nin0)))
        have f473 : Fld Z T462.heap b415 "com/example/portcall/portcall/cli/Latencies" "counts" "[J" (.ref ar_420) := (Fld.keep p455_0 K462q (ninS ne_b415_b424 (ninS ne_b415_ar_431 nin0)))
        have f474 : Fld Z T462.heap b409 "com/example/portcall/portcall/cli/Latencies" "total" "J" (.long (0 : Int64)) := (Fld.keep (Fld.keep (Fld.keep (Fld.keep (Fld.keep (Fld.ext E424 (Fld.keep (Fld.ext E415 p413_2) K420q (ninS ne_b409_b415 nin0))) K431q (ninS ne_b409_b424 nin0)) K440q (ninS ne_b409_b415 (ninS ne_b409_ar_420 nin0))) K447q (ninS ne_b409_b424 (ninS ne_b409_ar_431 nin0))) K455q (ninS ne_b409_b415 (ninS ne_b409_ar_420 nin0))) K462q (ninS ne_b409_b424 (ninS ne_b409_ar_431 nin0)))
        have f475 : Fld Z T462.heap b415 "com/example/portcall/portcall/cli/Latencies" "total" "J" (.long (2 : Int64)) := (Fld.keep p455_1 K462q (ninS ne_b415_b424 (ninS ne_b415_ar_431 nin0)))
        have f476 : Arv Z T462.heap ar_413 ka_413 .long (16384 : Int32) (own_cl ([] : List Nat)) (.long (0 : Int64)) := (Arv.keep (Arv.keep (Arv.keep (Arv.keep (Arv.keep f433 K431q (ninS ne_ar_413_b424 nin0)) K440q (ninS ne_ar_413_b415 (ninS ne_ar_413_ar_420 nin0))) K447q (ninS ne_ar_413_b424 (ninS ne_ar_413_ar_431 nin0))) K455q (ninS ne_ar_413_b415 (ninS ne_ar_413_ar_420 nin0))) K462q (ninS ne_ar_413_b424 (ninS ne_ar_413_ar_431 nin0)))
        have f477 : Arv Z T462.heap ar_420 ka_420 .long (16384 : Int32) (own_cl ([own_jx p1, own_jx p2] : List Nat)) (.long (0 : Int64)) := (Arv.keep fj461 K462q (ninS ne_ar_420_b424 (ninS ne_ar_420_ar_431 nin0)))
        obtain ⟨T469, v469, L469, X469, q469, st469⟩ := callVi X462 hx hZ (y := own_m15) (z := own_m15) hown (own_w hw (i := 32) rfl) (own_w hw (i := 33) rfl) (notFace_of_selects (args := #[]) (mvT hZ (own_w hw (i := 35) rfl))) (own_w hw (i := 35) rfl) (own_w hw (i := 34) rfl) (own_w hw (i := 36) rfl) (own_w hw (i := 3) rfl) (by decide) (rm_add hw G b409 b415 ar_413 ka_413 (([] : List Nat)) ar_420 ka_420 (([own_jx p1, own_jx p2] : List Nat)) ((0 : Int64)) ((2 : Int64)) ((2 : Int64)) T462.heap O467 (by decide) f470 f471 f472 f473 f474 f475 f476 f477 g_b409 g_ar_413 ne_b409_ar_413 ne_b409_b415 ne_b409_ar_420 (Ne.symm ne_ar_413_b415) (Ne.symm ne_ar_413_ar_420)) rfl (W := 0) (by decide) (by decide) (by decide) (by decide) f470 (g := (mkF m 139 #[.val (.long p0), .second, .val (.long p1), .second, .val (.long p2), .second, iv p3, iv p4, iv 0, iv 1, iv 1, .val (.double qv), .second, rv b409, rv b415, rv b424, .unset, .unset, .unset, .unset] [(.ref b415), (.ref b409)])) rfl (by rw [hml]; rfl) (argsL := [(.ref b415)]) (rest := []) (lenOf pd48 rfl) rfl rfl (Nat.le_of_eq rfl) (D at_139)
        obtain ⟨rfl, N469q, K469q, p469_0, p469_1, p469_2⟩ := q469
        have N469 := Fr.app N462 N469q
        have O478 := Old0.keep O467 K469q (allS g_b409 (allS g_ar_413 all0))
        have fj479 : Arv Z T469.heap ar_413 ka_413 .long (16384 : Int32) (own_cl ([own_jx p1, own_jx p2] : List Nat)) (.long (0 : Int64)) := p469_2
        have f481 : Exa Z T469.heap b409 "com/example/portcall/portcall/cli/Latencies" := (Exa.keep f470 K469q)
        obtain ⟨T480, v480, L480, X480, q480, st480⟩ := callVi X469 hx hZ (y := own_m30) (z := own_m30) hown (own_w hw (i := 37) rfl) (own_w hw (i := 38) rfl) (notFace_of_selects (args := #[]) (mvT hZ (own_w hw (i := 40) rfl))) (own_w hw (i := 40) rfl) (own_w hw (i := 39) rfl) (own_w hw (i := 41) rfl) (own_w hw (i := 3) rfl) (by decide) (rm_pct2 hw G b409 qv ar_413 ka_413 (([own_jx p1, own_jx p2] : List Nat)) T469.heap O478 (hq) (And.intro (own_jlt p1) (And.intro (own_jlt p2) (trivial))) (rfl) p469_0 p469_1 fj479) rfl (W := 0) (by decide) (by decide) (by decide) (by decide) f481 (g := (mkF m 146 #[.val (.long p0), .second, .val (.long p1), .second, .val (.long p2), .second, iv p3, iv p4, iv 0, iv 1, iv 1, .val (.double qv), .second, rv b409, rv b415, rv b424, .unset, .unset, .unset, .unset] [(.double qv), (.ref b409)])) rfl (by rw [hml]; rfl) (argsL := [(.double qv)]) (rest := []) (lenOf pd49 rfl) rfl rfl (Nat.le_of_eq rfl) (D at_146)
        obtain ⟨iz_480, rfl, N480q, K480q, p480_0⟩ := q480
        have N480 := Fr.app N469 N480q
        have O482 := Old0.keep O478 K480q all0
        have f484 : Exa Z T480.heap b424 "com/example/portcall/portcall/cli/Latencies" := (Exa.keep (Exa.keep (Exa.keep f463 K462q) K469q) K480q)
        have f485 : Fld Z T480.heap b424 "com/example/portcall/portcall/cli/Latencies" "counts" "[J" (.ref ar_431) := (Fld.keep (Fld.keep p462_0 K469q (ninS (Ne.symm ne_b409_b424) (ninS (Ne.symm ne_ar_413_b424) nin0))) K480q nin0)
        have f486 : Fld Z T480.heap b424 "com/example/portcall/portcall/cli/Latencies" "total" "J" (.long (2 : Int64)) := (Fld.keep (Fld.keep p462_1 K469q (ninS (Ne.symm ne_b409_b424) (ninS (Ne.symm ne_ar_413_b424) nin0))) K480q nin0)
        have f487 : Arv Z T480.heap ar_431 ka_431 .long (16384 : Int32) (own_cl ([own_jx p1, own_jx p2] : List Nat)) (.long (0 : Int64)) := (Arv.keep (Arv.keep fj468 K469q (ninS (Ne.symm ne_b409_ar_431) (ninS (Ne.symm ne_ar_413_ar_431) nin0))) K480q nin0)
        obtain ⟨T483, v483, L483, X483, q483, st483⟩ := callVi X480 hx hZ (y := own_m30) (z := own_m30) hown (own_w hw (i := 37) rfl) (own_w hw (i := 38) rfl) (notFace_of_selects (args := #[]) (mvT hZ (own_w hw (i := 40) rfl))) (own_w hw (i := 40) rfl) (own_w hw (i := 39) rfl) (own_w hw (i := 41) rfl) (own_w hw (i := 3) rfl) (by decide) (rm_pct2 hw G b424 qv ar_431 ka_431 (([own_jx p1, own_jx p2] : List Nat)) T480.heap O482 (hq) (And.intro (own_jlt p1) (And.intro (own_jlt p2) (trivial))) (rfl) f485 f486 f487) rfl (W := 0) (by decide) (by decide) (by decide) (by decide) f484 (g := (mkF m 155 #[.val (.long p0), .second, .val (.long p1), .second, .val (.long p2), .second, iv p3, iv p4, iv 0, iv 1, iv 1, .val (.double qv), .second, rv b409, rv b415, rv b424, .val (.double (own_mid iz_480)), .second, .unset, .unset] [(.double qv), (.ref b424)])) rfl (by rw [hml]; rfl) (argsL := [(.double qv)]) (rest := []) (lenOf pd49 rfl) rfl rfl (Nat.le_of_eq rfl) (D at_155)
        obtain ⟨iz_483, rfl, N483q, K483q, p483_0⟩ := q483
        have N483 := Fr.app N480 N483q
        have O488 := Old0.keep O482 K483q all0
        obtain ⟨T489, v489, L489, X489, q489, st489⟩ := callSt X483 hx hZ (y := own_m45) hown (own_w hw (i := 68) rfl) (own_w hw (i := 69) rfl) (own_w hw (i := 70) rfl) (own_w hw (i := 71) rfl) (by decide) (rm_same hw G ((own_mid iz_480)) ((own_mid iz_483))  T483.heap O488 (congrArg own_mid (own_at1 p483_0 p480_0))) rfl (W := 0) (by decide) (by decide) (by decide) (by decide) (g := (mkF m 164 #[.val (.long p0), .second, .val (.long p1), .second, .val (.long p2), .second, iv p3, iv p4, iv 0, iv 1, iv 1, .val (.double qv), .second, rv b409, rv b415, rv b424, .val (.double (own_mid iz_480)), .second, .val (.double (own_mid iz_483)), .second] [(.double (own_mid iz_483)), (.double (own_mid iz_480))])) rfl (by rw [hml]; rfl) (argsL := [(.double (own_mid iz_480)), (.double (own_mid iz_483))]) (rest := []) (lenOf pd50 rfl) rfl rfl (Nat.le_of_eq rfl) (D at_164)
        obtain ⟨rfl, e489, rfl⟩ := q489
        have N489 := Fr.app N483 (Fr.nil _)
        refine Go.of (T' := T489) (f' := (mkF m 167 #[.val (.long p0), .second, .val (.long p1), .second, .val (.long p2), .second, iv p3, iv p4, iv 0, iv 1, iv 1, .val (.double qv), .second, rv b409, rv b415, rv b424, .val (.double (own_mid iz_480)), .second, .val (.double (own_mid iz_483)), .second] [(.int 1)])) (fun _ k => XS.ifNo X447.here hx rfl (D at_118) rfl ((if0 _ _).trans (feq (by decide : ¬ ((1 : Int32) = (0 : Int32)))).1) (XS.aload X447.here hx rfl (D at_121) rfl rfl (XS.lload X447.here hx rfl (D at_123) rfl (st455 _ (XS.aload X455.here hx rfl (D at_128) rfl rfl (XS.lload X455.here hx rfl (D at_130) rfl (st462 _ (XS.aload X462.here hx rfl (D at_135) rfl rfl (XS.aload X462.here hx rfl (D at_137) rfl rfl (st469 _ (XS.aload X469.here hx rfl (D at_142) rfl rfl (XS.dload X469.here hx rfl (D at_144) rfl (st480 _ (XS.dstore X480.here hx rfl (D at_149) rfl (l' := #[.val (.long p0), .second, .val (.long p1), .second, .val (.long p2), .second, iv p3, iv p4, iv 0, iv 1, iv 1, .val (.double qv), .second, rv b409, rv b415, rv b424, .val (.double (own_mid iz_480)), .second, .unset, .unset]) rfl (XS.aload X480.here hx rfl (D at_151) rfl rfl (XS.dload X480.here hx rfl (D at_153) rfl (st483 _ (XS.dstore X483.here hx rfl (D at_158) rfl (l' := #[.val (.long p0), .second, .val (.long p1), .second, .val (.long p2), .second, iv p3, iv p4, iv 0, iv 1, iv 1, .val (.double qv), .second, rv b409, rv b415, rv b424, .val (.double (own_mid iz_480)), .second, .val (.double (own_mid iz_483)), .second]) rfl (XS.dload X483.here hx rfl (D at_160) rfl (XS.dload X483.here hx rfl (D at_162) rfl (st489 _ k))))))))))))))))))))) ?_
        exact Go.retB X489 hx hlk hret (by simp) (D at_167) (by decide) (by decide) (z' := (1 : Int32)) rfl ⟨rfl, N489⟩
  · skip
    refine Go.of (T' := T0) (f' := (mkF m 18 #[.val (.long p0), .second, .val (.long p1), .second, .val (.long p2), .second, iv p3, iv p4, iv 1, .unset, .unset, .unset, .unset, .unset, .unset, .unset, .unset, .unset, .unset, .unset] [(.int (p3 &&& (2 : Int32)))])) (fun _ k => XS.ifNo X0.here hx rfl (D at_4) rfl ((if0 _ _).trans (feq hc218).1) (XS.iconst X0.here hx rfl (D at_7) (XS.goto X0.here hx rfl (pc0 := 8) (pc' := 12) rfl (D at_8) (by decide) (by decide) (XS.istore X0.here hx rfl (D at_12) rfl (l' := #[.val (.long p0), .second, .val (.long p1), .second, .val (.long p2), .second, iv p3, iv p4, iv 1, .unset, .unset, .unset, .unset, .unset, .unset, .unset, .unset, .unset, .unset, .unset]) rfl (XS.iload X0.here hx rfl (D at_14) rfl (XS.iconst X0.here hx rfl (D at_16) (XS.iand X0.here hx rfl (D at_17) rfl k))))))) ?_
    by_cases hc490 : (p3 &&& (2 : Int32)) = (0 : Int32)
    · skip
      refine Go.of (T' := T0) (f' := (mkF m 32 #[.val (.long p0), .second, .val (.long p1), .second, .val (.long p2), .second, iv p3, iv p4, iv 1, iv 0, .unset, .unset, .unset, .unset, .unset, .unset, .unset, .unset, .unset, .unset] [(.int (p3 &&& (4 : Int32)))])) (fun _ k => XS.ifYes X0.here hx rfl (pc0 := 18) (pc' := 25) rfl (D at_18) rfl ((if0 _ _).trans (teq hc490).1) (by decide) (by decide) (XS.iconst X0.here hx rfl (D at_25) (XS.istore X0.here hx rfl (D at_26) rfl (l' := #[.val (.long p0), .second, .val (.long p1), .second, .val (.long p2), .second, iv p3, iv p4, iv 1, iv 0, .unset, .unset, .unset, .unset, .unset, .unset, .unset, .unset, .unset, .unset]) rfl (XS.iload X0.here hx rfl (D at_28) rfl (XS.iconst X0.here hx rfl (D at_30) (XS.iand X0.here hx rfl (D at_31) rfl k)))))) ?_
      by_cases hc491 : (p3 &&& (4 : Int32)) = (0 : Int32)
      · skip
        refine Go.of (T' := T0) (f' := (mkF m 53 #[.val (.long p0), .second, .val (.long p1), .second, .val (.long p2), .second, iv p3, iv p4, iv 1, iv 0, iv 0, .unset, .unset, .unset, .unset, .unset, .unset, .unset, .unset, .unset] [(.double (FP.ddiv (FP.i2d ((p4 &&& (3 : Int32)) + (1 : Int32))) (4616189618054758400 : UInt64)))])) (fun _ k => XS.ifYes X0.here hx rfl (pc0 := 32) (pc' := 39) rfl (D at_32) rfl ((if0 _ _).trans (teq hc491).1) (by decide) (by decide) (XS.iconst X0.here hx rfl (D at_39) (XS.istore X0.here hx rfl (D at_40) rfl (l' := #[.val (.long p0), .second, .val (.long p1), .second, .val (.long p2), .second, iv p3, iv p4, iv 1, iv 0, iv 0, .unset, .unset, .unset, .unset, .unset, .unset, .unset, .unset, .unset]) rfl (XS.iload X0.here hx rfl (D at_42) rfl (XS.iconst X0.here hx rfl (D at_44) (XS.iand X0.here hx rfl (D at_45) rfl (XS.iconst X0.here hx rfl (D at_46) (XS.iadd X0.here hx rfl (D at_47) rfl (XS.i2dS X0.here hx rfl (D at_48) rfl rfl (X0.ldc2DoubleC hx hown (mvT hZ (own_w hw (i := 0) rfl)) (g := (mkF m 49 #[.val (.long p0), .second, .val (.long p1), .second, .val (.long p2), .second, iv p3, iv p4, iv 1, iv 0, iv 0, .unset, .unset, .unset, .unset, .unset, .unset, .unset, .unset, .unset] [(.double (FP.i2d ((p4 &&& (3 : Int32)) + (1 : Int32))))])) rfl (D at_49) _ (XS.ddivS X0.here hx rfl (D at_52) rfl (own_nn4 _) rfl k))))))))))) ?_
        generalize hqv : ((FP.ddiv (FP.i2d ((p4 &&& (3 : Int32)) + (1 : Int32))) (4616189618054758400 : UInt64)) : UInt64) = qv
        have hq := hqv ▸ own_q4 p4
        obtain ⟨T492, h492, b492, q492, X492, e492, E492, A492, D492, st492⟩ := newOb X0 hx hZ hown (own_w hw (i := 1) rfl) (own_w hw (i := 2) rfl) (own_w hw (i := 3) rfl) e0 (g := (mkF m 55 #[.val (.long p0), .second, .val (.long p1), .second, .val (.long p2), .second, iv p3, iv p4, iv 1, iv 0, iv 0, .val (.double qv), .second, .unset, .unset, .unset, .unset, .unset, .unset, .unset] [])) rfl (D at_55) (by decide) (by decide)
        have O493 := Old0.ext O0 E492
        have g_b492 : Z.heap.size ≤ b492 := q492 ▸ O0.1
        have f494 : Fld Z h492 b492 "com/example/portcall/portcall/cli/Latencies" "counts" "[J" .null := D492 (Or.inr (own_w hw (i := 12) rfl)) (ty := (.array .long)) (by decide)
        have f495 : Fld Z h492 b492 "com/example/portcall/portcall/cli/Latencies" "total" "J" (.long (0 : Int64)) := D492 (Or.inl (own_w hw (i := 31) rfl)) (ty := .long) (by decide)
        obtain ⟨T496, v496, L496, X496, q496, st496⟩ := callNew X492 hx hZ (y := own_m10) rfl hown (own_w hw (i := 4) rfl) (own_w hw (i := 5) rfl) (own_w hw (i := 3) rfl) (own_w hw (i := 6) rfl) (by decide) (rm_init hw G b492  h492 O493 A492 f494 f495 g_b492) e492 (W := 1) (by decide) (by decide) (by decide) (by decide) (g := (mkF m 59 #[.val (.long p0), .second, .val (.long p1), .second, .val (.long p2), .second, iv p3, iv p4, iv 1, iv 0, iv 0, .val (.double qv), .second, .unset, .unset, .unset, .unset, .unset, .unset, .unset] [(.ref b492), (.ref b492)])) rfl (by rw [hml]; rfl) (a := b492) (argsL := []) (rest := [(.ref b492)]) (lenOf pd47 rfl) rfl rfl (Nat.le_of_eq rfl) (D at_59)
        obtain ⟨ar_496, ka_496, rfl, N496q, K496q, p496_0, p496_1, p496_2, p496_3⟩ := q496
        have N496 := Fr.app N0 N496q
        have O497 := Old0.keep O493 K496q (allS g_b492 all0)
        have g_ar_496 : Z.heap.size ≤ ar_496 := Nat.le_trans O493.1 p496_0
        have ne_b492_ar_496 : b492 ≠ ar_496 := Nat.ne_of_lt (Nat.lt_of_lt_of_le A492.lt p496_0)
        have f499 : Exa Z T496.heap b492 "com/example/portcall/portcall/cli/Latencies" := (Exa.keep A492 K496q)
        obtain ⟨T498, h498, b498, q498, X498, e498, E498, A498, D498, st498⟩ := newOb X496 hx hZ hown (own_w hw (i := 1) rfl) (own_w hw (i := 2) rfl) (own_w hw (i := 3) rfl) rfl (g := (mkF m 64 #[.val (.long p0), .second, .val (.long p1), .second, .val (.long p2), .second, iv p3, iv p4, iv 1, iv 0, iv 0, .val (.double qv), .second, rv b492, .unset, .unset, .unset, .unset, .unset, .unset] [])) rfl (D at_64) (by decide) (by decide)
        have O500 := Old0.ext O497 E498
        have g_b498 : Z.heap.size ≤ b498 := q498 ▸ O497.1
        have ne_b492_b498 : b492 ≠ b498 := q498 ▸ Nat.ne_of_lt f499.lt
        have ne_ar_496_b498 : ar_496 ≠ b498 := q498 ▸ Nat.ne_of_lt p496_3.lt
        have f501 : Fld Z h498 b498 "com/example/portcall/portcall/cli/Latencies" "counts" "[J" .null := D498 (Or.inr (own_w hw (i := 12) rfl)) (ty := (.array .long)) (by decide)
        have f502 : Fld Z h498 b498 "com/example/portcall/portcall/cli/Latencies" "total" "J" (.long (0 : Int64)) := D498 (Or.inl (own_w hw (i := 31) rfl)) (ty := .long) (by decide)
        have f504 : Exa Z h498 b492 "com/example/portcall/portcall/cli/Latencies" := (Exa.ext E498 f499)
        have f505 : Arv Z h498 ar_496 ka_496 .long (16384 : Int32) (own_cl ([] : List Nat)) (.long (0 : Int64)) := (Arv.ext p496_3 E498)
        obtain ⟨T503, v503, L503, X503, q503, st503⟩ := callNew X498 hx hZ (y := own_m10) rfl hown (own_w hw (i := 4) rfl) (own_w hw (i := 5) rfl) (own_w hw (i := 3) rfl) (own_w hw (i := 6) rfl) (by decide) (rm_init hw G b498  h498 O500 A498 f501 f502 g_b498) e498 (W := 1) (by decide) (by decide) (by decide) (by decide) (g := (mkF m 68 #[.val (.long p0), .second, .val (.long p1), .second, .val (.long p2), .second, iv p3, iv p4, iv 1, iv 0, iv 0, .val (.double qv), .second, rv b492, .unset, .unset, .unset, .unset, .unset, .unset] [(.ref b498), (.ref b498)])) rfl (by rw [hml]; rfl) (a := b498) (argsL := []) (rest := [(.ref b498)]) (lenOf pd47 rfl) rfl rfl (Nat.le_of_eq rfl) (D at_68)
        obtain ⟨ar_503, ka_503, rfl, N503q, K503q, p503_0, p503_1, p503_2, p503_3⟩ := q503
        have N503 := Fr.app N496 N503q
        have O506 := Old0.keep O500 K503q (allS g_b498 all0)
        have g_ar_503 : Z.heap.size ≤ ar_503 := Nat.le_trans O500.1 p503_0
        have ne_b492_ar_503 : b492 ≠ ar_503 := Nat.ne_of_lt (Nat.lt_of_lt_of_le f504.lt p503_0)
        have ne_ar_496_ar_503 : ar_496 ≠ ar_503 := Nat.ne_of_lt (Nat.lt_of_lt_of_le f505.lt p503_0)
        have ne_b498_ar_503 : b498 ≠ ar_503 := Nat.ne_of_lt (Nat.lt_of_lt_of_le A498.lt p503_0)
        have f508 : Exa Z T503.heap b492 "com/example/portcall/portcall/cli/Latencies" := (Exa.keep f504 K503q)
        have f509 : Arv Z T503.heap ar_496 ka_496 .long (16384 : Int32) (own_cl ([] : List Nat)) (.long (0 : Int64)) := (Arv.keep f505 K503q (ninS ne_ar_496_b498 nin0))
        have f510 : Exa Z T503.heap b498 "com/example/portcall/portcall/cli/Latencies" := (Exa.keep A498 K503q)
        obtain ⟨T507, h507, b507, q507, X507, e507, E507, A507, D507, st507⟩ := newOb X503 hx hZ hown (own_w hw (i := 1) rfl) (own_w hw (i := 2) rfl) (own_w hw (i := 3) rfl) rfl (g := (mkF m 73 #[.val (.long p0), .second, .val (.long p1), .second, .val (.long p2), .second, iv p3, iv p4, iv 1, iv 0, iv 0, .val (.double qv), .second, rv b492, rv b498, .unset, .unset, .unset, .unset, .unset] [])) rfl (D at_73) (by decide) (by decide)
        have O511 := Old0.ext O506 E507
        have g_b507 : Z.heap.size ≤ b507 := q507 ▸ O506.1
        have ne_b492_b507 : b492 ≠ b507 := q507 ▸ Nat.ne_of_lt f508.lt
        have ne_ar_496_b507 : ar_496 ≠ b507 := q507 ▸ Nat.ne_of_lt f509.lt
        have ne_b498_b507 : b498 ≠ b507 := q507 ▸ Nat.ne_of_lt f510.lt
        have ne_ar_503_b507 : ar_503 ≠ b507 := q507 ▸ Nat.ne_of_lt p503_3.lt
        have f512 : Fld Z h507 b507 "com/example/portcall/portcall/cli/Latencies" "counts" "[J" .null := D507 (Or.inr (own_w hw (i := 12) rfl)) (ty := (.array .long)) (by decide)
        have f513 : Fld Z h507 b507 "com/example/portcall/portcall/cli/Latencies" "total" "J" (.long (0 : Int64)) := D507 (Or.inl (own_w hw (i := 31) rfl)) (ty := .long) (by decide)
        have f515 : Exa Z h507 b492 "com/example/portcall/portcall/cli/Latencies" := (Exa.ext E507 f508)
        have f516 : Arv Z h507 ar_496 ka_496 .long (16384 : Int32) (own_cl ([] : List Nat)) (.long (0 : Int64)) := (Arv.ext f509 E507)
        have f517 : Exa Z h507 b498 "com/example/portcall/portcall/cli/Latencies" := (Exa.ext E507 f510)
        have f518 : Arv Z h507 ar_503 ka_503 .long (16384 : Int32) (own_cl ([] : List Nat)) (.long (0 : Int64)) := (Arv.ext p503_3 E507)
        obtain ⟨T514, v514, L514, X514, q514, st514⟩ := callNew X507 hx hZ (y := own_m10) rfl hown (own_w hw (i := 4) rfl) (own_w hw (i := 5) rfl) (own_w hw (i := 3) rfl) (own_w hw (i := 6) rfl) (by decide) (rm_init hw G b507  h507 O511 A507 f512 f513 g_b507) e507 (W := 1) (by decide) (by decide) (by decide) (by decide) (g := (mkF m 77 #[.val (.long p0), .second, .val (.long p1), .second, .val (.long p2), .second, iv p3, iv p4, iv 1, iv 0, iv 0, .val (.double qv), .second, rv b492, rv b498, .unset, .unset, .unset, .unset, .unset] [(.ref b507), (.ref b507)])) rfl (by rw [hml]; rfl) (a := b507) (argsL := []) (rest := [(.ref b507)]) (lenOf pd47 rfl) rfl rfl (Nat.le_of_eq rfl) (D at_77)
        obtain ⟨ar_514, ka_514, rfl, N514q, K514q, p514_0, p514_1, p514_2, p514_3⟩ := q514
        have N514 := Fr.app N503 N514q
        have O519 := Old0.keep O511 K514q (allS g_b507 all0)
        have g_ar_514 : Z.heap.size ≤ ar_514 := Nat.le_trans O511.1 p514_0
        have ne_b492_ar_514 : b492 ≠ ar_514 := Nat.ne_of_lt (Nat.lt_of_lt_of_le f515.lt p514_0)
        have ne_ar_496_ar_514 : ar_496 ≠ ar_514 := Nat.ne_of_lt (Nat.lt_of_lt_of_le f516.lt p514_0)
        have ne_b498_ar_514 : b498 ≠ ar_514 := Nat.ne_of_lt (Nat.lt_of_lt_of_le f517.lt p514_0)
        have ne_ar_503_ar_514 : ar_503 ≠ ar_514 := Nat.ne_of_lt (Nat.lt_of_lt_of_le f518.lt p514_0)
        have ne_b507_ar_514 : b507 ≠ ar_514 := Nat.ne_of_lt (Nat.lt_of_lt_of_le A507.lt p514_0)
        have f522 : Exa Z T514.heap b492 "com/example/portcall/portcall/cli/Latencies" := (Exa.keep f515 K514q)
        have f523 : Fld Z T514.heap b492 "com/example/portcall/portcall/cli/Latencies" "counts" "[J" (.ref ar_496) := (Fld.keep (Fld.ext E507 (Fld.keep (Fld.ext E498 p496_1) K503q (ninS ne_b492_b498 nin0))) K514q (ninS ne_b492_b507 nin0))
        have f524 : Fld Z T514.heap b492 "com/example/portcall/portcall/cli/Latencies" "total" "J" (.long (0 : Int64)) := (Fld.keep (Fld.ext E507 (Fld.keep (Fld.ext E498 p496_2) K503q (ninS ne_b492_b498 nin0))) K514q (ninS ne_b492_b507 nin0))
        have f525 : Arv Z T514.heap ar_496 ka_496 .long (16384 : Int32) (own_cl ([] : List Nat)) (.long (0 : Int64)) := (Arv.keep f516 K514q (ninS ne_ar_496_b507 nin0))
        obtain ⟨T521, v521, L521, X521, q521, st521⟩ := callVi X514 hx hZ (y := own_m13) (z := own_m13) hown (own_w hw (i := 13) rfl) (own_w hw (i := 14) rfl) (notFace_of_selects (args := #[]) (mvT hZ (own_w hw (i := 16) rfl))) (own_w hw (i := 16) rfl) (own_w hw (i := 15) rfl) (own_w hw (i := 17) rfl) (own_w hw (i := 3) rfl) (by decide) (rm_rec hw G b492 p0 ar_496 ka_496 (([] : List Nat)) ((0 : Int64)) ((1 : Int64)) T514.heap O519 (by decide) f522 f523 f524 f525 g_b492 g_ar_496 ne_b492_ar_496) rfl (W := 0) (by decide) (by decide) (by decide) (by decide) f522 (g := (mkF m 90 #[.val (.long p0), .second, .val (.long p1), .second, .val (.long p2), .second, iv p3, iv p4, iv 1, iv 0, iv 0, .val (.double qv), .second, rv b492, rv b498, rv b507, .unset, .unset, .unset, .unset] [(.long p0), (.ref b492)])) rfl (by rw [hml]; rfl) (argsL := [(.long p0)]) (rest := []) (lenOf pd51 rfl) rfl rfl (Nat.le_of_eq rfl) (D at_90)
        obtain ⟨rfl, N521q, K521q, p521_0, p521_1, p521_2⟩ := q521
        have N521 := Fr.app N514 N521q
        have O526 := Old0.keep O519 K521q (allS g_b492 (allS g_ar_496 all0))
        have fj527 : Arv Z T521.heap ar_496 ka_496 .long (16384 : Int32) (own_cl ([own_jx p0] : List Nat)) (.long (0 : Int64)) := p521_2
        have f529 : Exa Z T521.heap b507 "com/example/portcall/portcall/cli/Latencies" := (Exa.keep (Exa.keep A507 K514q) K521q)
        have f530 : Fld Z T521.heap b507 "com/example/portcall/portcall/cli/Latencies" "counts" "[J" (.ref ar_514) := (Fld.keep p514_1 K521q (ninS (Ne.symm ne_b492_b507) (ninS (Ne.symm ne_ar_496_b507) nin0)))
        have f531 : Fld Z T521.heap b507 "com/example/portcall/portcall/cli/Latencies" "total" "J" (.long (0 : Int64)) := (Fld.keep p514_2 K521q (ninS (Ne.symm ne_b492_b507) (ninS (Ne.symm ne_ar_496_b507) nin0)))
        have f532 : Arv Z T521.heap ar_514 ka_514 .long (16384 : Int32) (own_cl ([] : List Nat)) (.long (0 : Int64)) := (Arv.keep p514_3 K521q (ninS (Ne.symm ne_b492_ar_514) (ninS (Ne.symm ne_ar_496_ar_514) nin0)))
        obtain ⟨T528, v528, L528, X528, q528, st528⟩ := callVi X521 hx hZ (y := own_m13) (z := own_m13) hown (own_w hw (i := 13) rfl) (own_w hw (i := 14) rfl) (notFace_of_selects (args := #[]) (mvT hZ (own_w hw (i := 16) rfl))) (own_w hw (i := 16) rfl) (own_w hw (i := 15) rfl) (own_w hw (i := 17) rfl) (own_w hw (i := 3) rfl) (by decide) (rm_rec hw G b507 p0 ar_514 ka_514 (([] : List Nat)) ((0 : Int64)) ((1 : Int64)) T521.heap O526 (by decide) f529 f530 f531 f532 g_b507 g_ar_514 ne_b507_ar_514) rfl (W := 0) (by decide) (by decide) (by decide) (by decide) f529 (g := (mkF m 96 #[.val (.long p0), .second, .val (.long p1), .second, .val (.long p2), .second, iv p3, iv p4, iv 1, iv 0, iv 0, .val (.double qv), .second, rv b492, rv b498, rv b507, .unset, .unset, .unset, .unset] [(.long p0), (.ref b507)])) rfl (by rw [hml]; rfl) (argsL := [(.long p0)]) (rest := []) (lenOf pd51 rfl) rfl rfl (Nat.le_of_eq rfl) (D at_96)
        obtain ⟨rfl, N528q, K528q, p528_0, p528_1, p528_2⟩ := q528
        have N528 := Fr.app N521 N528q
        have O533 := Old0.keep O526 K528q (allS g_b507 (allS g_ar_514 all0))
        have fj534 : Arv Z T528.heap ar_514 ka_514 .long (16384 : Int32) (own_cl ([own_jx p0] : List Nat)) (.long (0 : Int64)) := p528_2
        have fj536 : Arv Z T528.heap ar_514 ka_514 .long (16384 : Int32) (own_cl ([own_jx p0] : List Nat)) (.long (0 : Int64)) := fj534
        refine Go.of (T' := T528) (f' := (mkF m 118 #[.val (.long p0), .second, .val (.long p1), .second, .val (.long p2), .second, iv p3, iv p4, iv 1, iv 0, iv 0, .val (.double qv), .second, rv b492, rv b498, rv b507, .unset, .unset, .unset, .unset] [(.int 0)])) (fun _ k => XS.dstore X0.here hx rfl (D at_53) rfl (l' := #[.val (.long p0), .second, .val (.long p1), .second, .val (.long p2), .second, iv p3, iv p4, iv 1, iv 0, iv 0, .val (.double qv), .second, .unset, .unset, .unset, .unset, .unset, .unset, .unset]) rfl (st492 _ (XS.dup X492.here hx rfl (D at_58) rfl rfl (st496 _ (XS.astore X496.here hx rfl (D at_62) rfl rfl (l' := #[.val (.long p0), .second, .val (.long p1), .second, .val (.long p2), .second, iv p3, iv p4, iv 1, iv 0, iv 0, .val (.double qv), .second, rv b492, .unset, .unset, .unset, .unset, .unset, .unset]) rfl (st498 _ (XS.dup X498.here hx rfl (D at_67) rfl rfl (st503 _ (XS.astore X503.here hx rfl (D at_71) rfl rfl (l' := #[.val (.long p0), .second, .val (.long p1), .second, .val (.long p2), .second, iv p3, iv p4, iv 1, iv 0, iv 0, .val (.double qv), .second, rv b492, rv b498, .unset, .unset, .unset, .unset, .unset]) rfl (st507 _ (XS.dup X507.here hx rfl (D at_76) rfl rfl (st514 _ (XS.astore X514.here hx rfl (D at_80) rfl rfl (l' := #[.val (.long p0), .second, .val (.long p1), .second, .val (.long p2), .second, iv p3, iv p4, iv 1, iv 0, iv 0, .val (.double qv), .second, rv b492, rv b498, rv b507, .unset, .unset, .unset, .unset]) rfl (XS.iload X514.here hx rfl (D at_82) rfl (XS.ifNo X514.here hx rfl (D at_84) rfl ((if0 _ _).trans (feq (by decide : ¬ ((1 : Int32) = (0 : Int32)))).1) (XS.aload X514.here hx rfl (D at_87) rfl rfl (XS.lloadN X514.here hx rfl (D at_89) rfl (st521 _ (XS.aload X521.here hx rfl (D at_93) rfl rfl (XS.lloadN X521.here hx rfl (D at_95) rfl (st528 _ (XS.iload X528.here hx rfl (D at_99) rfl (XS.ifYes X528.here hx rfl (pc0 := 101) (pc' := 116) rfl (D at_101) rfl ((if0 _ _).trans (teq (by decide : (0 : Int32) = (0 : Int32))).1) (by decide) (by decide) (XS.iload X528.here hx rfl (D at_116) rfl k)))))))))))))))))))))))) ?_
        have fj538 : Arv Z T528.heap ar_514 ka_514 .long (16384 : Int32) (own_cl ([own_jx p0] : List Nat)) (.long (0 : Int64)) := fj536
        have f540 : Exa Z T528.heap b492 "com/example/portcall/portcall/cli/Latencies" := (Exa.keep (Exa.keep f522 K521q) K528q)
        have f541 : Exa Z T528.heap b498 "com/example/portcall/portcall/cli/Latencies" := (Exa.keep (Exa.keep (Exa.keep f517 K514q) K521q) K528q)
        have f542 : Fld Z T528.heap b492 "com/example/portcall/portcall/cli/Latencies" "counts" "[J" (.ref ar_496) := (Fld.keep p521_0 K528q (ninS ne_b492_b507 (ninS ne_b492_ar_514 nin0)))
        have f543 : Fld Z T528.heap b498 "com/example/portcall/portcall/cli/Latencies" "counts" "[J" (.ref ar_503) := (Fld.keep (Fld.keep (Fld.keep (Fld.ext E507 p503_1) K514q (ninS ne_b498_b507 nin0)) K521q (ninS (Ne.symm ne_b492_b498) (ninS (Ne.symm ne_ar_496_b498) nin0))) K528q (ninS ne_b498_b507 (ninS ne_b498_ar_514 nin0)))
        have f544 : Fld Z T528.heap b492 "com/example/portcall/portcall/cli/Latencies" "total" "J" (.long (1 : Int64)) := (Fld.keep p521_1 K528q (ninS ne_b492_b507 (ninS ne_b492_ar_514 nin0)))
        have f545 : Fld Z T528.heap b498 "com/example/portcall/portcall/cli/Latencies" "total" "J" (.long (0 : Int64)) := (Fld.keep (Fld.keep (Fld.keep (Fld.ext E507 p503_2) K514q (ninS ne_b498_b507 nin0)) K521q (ninS (Ne.symm ne_b492_b498) (ninS (Ne.symm ne_ar_496_b498) nin0))) K528q (ninS ne_b498_b507 (ninS ne_b498_ar_514 nin0)))
        have f546 : Arv Z T528.heap ar_496 ka_496 .long (16384 : Int32) (own_cl ([own_jx p0] : List Nat)) (.long (0 : Int64)) := (Arv.keep fj527 K528q (ninS ne_ar_496_b507 (ninS ne_ar_496_ar_514 nin0)))
        have f547 : Arv Z T528.heap ar_503 ka_503 .long (16384 : Int32) (own_cl ([] : List Nat)) (.long (0 : Int64)) := (Arv.keep (Arv.keep (Arv.keep f518 K514q (ninS ne_ar_503_b507 nin0)) K521q (ninS (Ne.symm ne_b492_ar_503) (ninS (Ne.symm ne_ar_496_ar_503) nin0))) K528q (ninS ne_ar_503_b507 (ninS ne_ar_503_ar_514 nin0)))
        obtain ⟨T539, v539, L539, X539, q539, st539⟩ := callVi X528 hx hZ (y := own_m15) (z := own_m15) hown (own_w hw (i := 32) rfl) (own_w hw (i := 33) rfl) (notFace_of_selects (args := #[]) (mvT hZ (own_w hw (i := 35) rfl))) (own_w hw (i := 35) rfl) (own_w hw (i := 34) rfl) (own_w hw (i := 36) rfl) (own_w hw (i := 3) rfl) (by decide) (rm_add hw G b492 b498 ar_496 ka_496 (([own_jx p0] : List Nat)) ar_503 ka_503 (([] : List Nat)) ((1 : Int64)) ((0 : Int64)) ((1 : Int64)) T528.heap O533 (by decide) f540 f541 f542 f543 f544 f545 f546 f547 g_b492 g_ar_496 ne_b492_ar_496 ne_b492_b498 ne_b492_ar_503 (Ne.symm ne_ar_496_b498) (Ne.symm ne_ar_496_ar_503)) rfl (W := 0) (by decide) (by decide) (by decide) (by decide) f540 (g := (mkF m 139 #[.val (.long p0), .second, .val (.long p1), .second, .val (.long p2), .second, iv p3, iv p4, iv 1, iv 0, iv 0, .val (.double qv), .second, rv b492, rv b498, rv b507, .unset, .unset, .unset, .unset] [(.ref b498), (.ref b492)])) rfl (by rw [hml]; rfl) (argsL := [(.ref b498)]) (rest := []) (lenOf pd48 rfl) rfl rfl (Nat.le_of_eq rfl) (D at_139)
        obtain ⟨rfl, N539q, K539q, p539_0, p539_1, p539_2⟩ := q539
        have N539 := Fr.app N528 N539q
        have O548 := Old0.keep O533 K539q (allS g_b492 (allS g_ar_496 all0))
        have fj549 : Arv Z T539.heap ar_496 ka_496 .long (16384 : Int32) (own_cl ([own_jx p0] : List Nat)) (.long (0 : Int64)) := p539_2
        have f551 : Exa Z T539.heap b492 "com/example/portcall/portcall/cli/Latencies" := (Exa.keep f540 K539q)
        obtain ⟨T550, v550, L550, X550, q550, st550⟩ := callVi X539 hx hZ (y := own_m30) (z := own_m30) hown (own_w hw (i := 37) rfl) (own_w hw (i := 38) rfl) (notFace_of_selects (args := #[]) (mvT hZ (own_w hw (i := 40) rfl))) (own_w hw (i := 40) rfl) (own_w hw (i := 39) rfl) (own_w hw (i := 41) rfl) (own_w hw (i := 3) rfl) (by decide) (rm_pct1 hw G b492 qv ar_496 ka_496 (([own_jx p0] : List Nat)) T539.heap O548 (hq) (And.intro (own_jlt p0) (trivial)) (rfl) p539_0 p539_1 fj549) rfl (W := 0) (by decide) (by decide) (by decide) (by decide) f551 (g := (mkF m 146 #[.val (.long p0), .second, .val (.long p1), .second, .val (.long p2), .second, iv p3, iv p4, iv 1, iv 0, iv 0, .val (.double qv), .second, rv b492, rv b498, rv b507, .unset, .unset, .unset, .unset] [(.double qv), (.ref b492)])) rfl (by rw [hml]; rfl) (argsL := [(.double qv)]) (rest := []) (lenOf pd49 rfl) rfl rfl (Nat.le_of_eq rfl) (D at_146)
        obtain ⟨iz_550, rfl, N550q, K550q, p550_0⟩ := q550
        have N550 := Fr.app N539 N550q
        have O552 := Old0.keep O548 K550q all0
        have f554 : Exa Z T550.heap b507 "com/example/portcall/portcall/cli/Latencies" := (Exa.keep (Exa.keep (Exa.keep f529 K528q) K539q) K550q)
        have f555 : Fld Z T550.heap b507 "com/example/portcall/portcall/cli/Latencies" "counts" "[J" (.ref ar_514) := (Fld.keep (Fld.keep p528_0 K539q (ninS (Ne.symm ne_b492_b507) (ninS (Ne.symm ne_ar_496_b507) nin0))) K550q nin0)
        have f556 : Fld Z T550.heap b507 "com/example/portcall/portcall/cli/Latencies" "total" "J" (.long (1 : Int64)) := (Fld.keep (Fld.keep p528_1 K539q (ninS (Ne.symm ne_b492_b507) (ninS (Ne.symm ne_ar_496_b507) nin0))) K550q nin0)
        have f557 : Arv Z T550.heap ar_514 ka_514 .long (16384 : Int32) (own_cl ([own_jx p0] : List Nat)) (.long (0 : Int64)) := (Arv.keep (Arv.keep fj538 K539q (ninS (Ne.symm ne_b492_ar_514) (ninS (Ne.symm ne_ar_496_ar_514) nin0))) K550q nin0)
        obtain ⟨T553, v553, L553, X553, q553, st553⟩ := callVi X550 hx hZ (y := own_m30) (z := own_m30) hown (own_w hw (i := 37) rfl) (own_w hw (i := 38) rfl) (notFace_of_selects (args := #[]) (mvT hZ (own_w hw (i := 40) rfl))) (own_w hw (i := 40) rfl) (own_w hw (i := 39) rfl) (own_w hw (i := 41) rfl) (own_w hw (i := 3) rfl) (by decide) (rm_pct1 hw G b507 qv ar_514 ka_514 (([own_jx p0] : List Nat)) T550.heap O552 (hq) (And.intro (own_jlt p0) (trivial)) (rfl) f555 f556 f557) rfl (W := 0) (by decide) (by decide) (by decide) (by decide) f554 (g := (mkF m 155 #[.val (.long p0), .second, .val (.long p1), .second, .val (.long p2), .second, iv p3, iv p4, iv 1, iv 0, iv 0, .val (.double qv), .second, rv b492, rv b498, rv b507, .val (.double (own_mid iz_550)), .second, .unset, .unset] [(.double qv), (.ref b507)])) rfl (by rw [hml]; rfl) (argsL := [(.double qv)]) (rest := []) (lenOf pd49 rfl) rfl rfl (Nat.le_of_eq rfl) (D at_155)
        obtain ⟨iz_553, rfl, N553q, K553q, p553_0⟩ := q553
        have N553 := Fr.app N550 N553q
        have O558 := Old0.keep O552 K553q all0
        obtain ⟨T559, v559, L559, X559, q559, st559⟩ := callSt X553 hx hZ (y := own_m45) hown (own_w hw (i := 68) rfl) (own_w hw (i := 69) rfl) (own_w hw (i := 70) rfl) (own_w hw (i := 71) rfl) (by decide) (rm_same hw G ((own_mid iz_550)) ((own_mid iz_553))  T553.heap O558 (congrArg own_mid (own_at1 p553_0 p550_0))) rfl (W := 0) (by decide) (by decide) (by decide) (by decide) (g := (mkF m 164 #[.val (.long p0), .second, .val (.long p1), .second, .val (.long p2), .second, iv p3, iv p4, iv 1, iv 0, iv 0, .val (.double qv), .second, rv b492, rv b498, rv b507, .val (.double (own_mid iz_550)), .second, .val (.double (own_mid iz_553)), .second] [(.double (own_mid iz_553)), (.double (own_mid iz_550))])) rfl (by rw [hml]; rfl) (argsL := [(.double (own_mid iz_550)), (.double (own_mid iz_553))]) (rest := []) (lenOf pd50 rfl) rfl rfl (Nat.le_of_eq rfl) (D at_164)
        obtain ⟨rfl, e559, rfl⟩ := q559
        have N559 := Fr.app N553 (Fr.nil _)
        refine Go.of (T' := T559) (f' := (mkF m 167 #[.val (.long p0), .second, .val (.long p1), .second, .val (.long p2), .second, iv p3, iv p4, iv 1, iv 0, iv 0, .val (.double qv), .second, rv b492, rv b498, rv b507, .val (.double (own_mid iz_550)), .second, .val (.double (own_mid iz_553)), .second] [(.int 1)])) (fun _ k => XS.ifYes X528.here hx rfl (pc0 := 118) (pc' := 135) rfl (D at_118) rfl ((if0 _ _).trans (teq (by decide : (0 : Int32) = (0 : Int32))).1) (by decide) (by decide) (XS.aload X528.here hx rfl (D at_135) rfl rfl (XS.aload X528.here hx rfl (D at_137) rfl rfl (st539 _ (XS.aload X539.here hx rfl (D at_142) rfl rfl (XS.dload X539.here hx rfl (D at_144) rfl (st550 _ (XS.dstore X550.here hx rfl (D at_149) rfl (l' := #[.val (.long p0), .second, .val (.long p1), .second, .val (.long p2), .second, iv p3, iv p4, iv 1, iv 0, iv 0, .val (.double qv), .second, rv b492, rv b498, rv b507, .val (.double (own_mid iz_550)), .second, .unset, .unset]) rfl (XS.aload X550.here hx rfl (D at_151) rfl rfl (XS.dload X550.here hx rfl (D at_153) rfl (st553 _ (XS.dstore X553.here hx rfl (D at_158) rfl (l' := #[.val (.long p0), .second, .val (.long p1), .second, .val (.long p2), .second, iv p3, iv p4, iv 1, iv 0, iv 0, .val (.double qv), .second, rv b492, rv b498, rv b507, .val (.double (own_mid iz_550)), .second, .val (.double (own_mid iz_553)), .second]) rfl (XS.dload X553.here hx rfl (D at_160) rfl (XS.dload X553.here hx rfl (D at_162) rfl (st559 _ k))))))))))))))) ?_
        exact Go.retB X559 hx hlk hret (by simp) (D at_167) (by decide) (by decide) (z' := (1 : Int32)) rfl ⟨rfl, N559⟩
      · skip
        refine Go.of (T' := T0) (f' := (mkF m 53 #[.val (.long p0), .second, .val (.long p1), .second, .val (.long p2), .second, iv p3, iv p4, iv 1, iv 0, iv 1, .unset, .unset, .unset, .unset, .unset, .unset, .unset, .unset, .unset] [(.double (FP.ddiv (FP.i2d ((p4 &&& (3 : Int32)) + (1 : Int32))) (4616189618054758400 : UInt64)))])) (fun _ k => XS.ifNo X0.here hx rfl (D at_32) rfl ((if0 _ _).trans (feq hc491).1) (XS.iconst X0.here hx rfl (D at_35) (XS.goto X0.here hx rfl (pc0 := 36) (pc' := 40) rfl (D at_36) (by decide) (by decide) (XS.istore X0.here hx rfl (D at_40) rfl (l' := #[.val (.long p0), .second, .val (.long p1), .second, .val (.long p2), .second, iv p3, iv p4, iv 1, iv 0, iv 1, .unset, .unset, .unset, .unset, .unset, .unset, .unset, .unset, .unset]) rfl (XS.iload X0.here hx rfl (D at_42) rfl (XS.iconst X0.here hx rfl (D at_44) (XS.iand X0.here hx rfl (D at_45) rfl (XS.iconst X0.here hx rfl (D at_46) (XS.iadd X0.here hx rfl (D at_47) rfl (XS.i2dS X0.here hx rfl (D at_48) rfl rfl (X0.ldc2DoubleC hx hown (mvT hZ (own_w hw (i := 0) rfl)) (g := (mkF m 49 #[.val (.long p0), .second, .val (.long p1), .second, .val (.long p2), .second, iv p3, iv p4, iv 1, iv 0, iv 1, .unset, .unset, .unset, .unset, .unset, .unset, .unset, .unset, .unset] [(.double (FP.i2d ((p4 &&& (3 : Int32)) + (1 : Int32))))])) rfl (D at_49) _ (XS.ddivS X0.here hx rfl (D at_52) rfl (own_nn4 _) rfl k)))))))))))) ?_
        generalize hqv : ((FP.ddiv (FP.i2d ((p4 &&& (3 : Int32)) + (1 : Int32))) (4616189618054758400 : UInt64)) : UInt64) = qv
        have hq := hqv ▸ own_q4 p4
        obtain ⟨T560, h560, b560, q560, X560, e560, E560, A560, D560, st560⟩ := newOb X0 hx hZ hown (own_w hw (i := 1) rfl) (own_w hw (i := 2) rfl) (own_w hw (i := 3) rfl) e0 (g := (mkF m 55 #[.val (.long p0), .second, .val (.long p1), .second, .val (.long p2), .second, iv p3, iv p4, iv 1, iv 0, iv 1, .val (.double qv), .second, .unset, .unset, .unset, .unset, .unset, .unset, .unset] [])) rfl (D at_55) (by decide) (by decide)
        have O561 := Old0.ext O0 E560
        have g_b560 : Z.heap.size ≤ b560 := q560 ▸ O0.1
        have f562 : Fld Z h560 b560 "com/example/portcall/portcall/cli/Latencies" "counts" "[J" .null := D560 (Or.inr (own_w hw (i := 12) rfl)) (ty := (.array .long)) (by decide)
        have f563 : Fld Z h560 b560 "com/example/portcall/portcall/cli/Latencies" "total" "J" (.long (0 : Int64)) := D560 (Or.inl (own_w hw (i := 31) rfl)) (ty := .long) (by decide)
        obtain ⟨T564, v564, L564, X564, q564, st564⟩ := callNew X560 hx hZ (y := own_m10) rfl hown (own_w hw (i := 4) rfl) (own_w hw (i := 5) rfl) (own_w hw (i := 3) rfl) (own_w hw (i := 6) rfl) (by decide) (rm_init hw G b560  h560 O561 A560 f562 f563 g_b560) e560 (W := 1) (by decide) (by decide) (by decide) (by decide) (g := (mkF m 59 #[.val (.long p0), .second, .val (.long p1), .second, .val (.long p2), .second, iv p3, iv p4, iv 1, iv 0, iv 1, .val (.double qv), .second, .unset, .unset, .unset, .unset, .unset, .unset, .unset] [(.ref b560), (.ref b560)])) rfl (by rw [hml]; rfl) (a := b560) (argsL := []) (rest := [(.ref b560)]) (lenOf pd47 rfl) rfl rfl (Nat.le_of_eq rfl) (D at_59)
        obtain ⟨ar_564, ka_564, rfl, N564q, K564q, p564_0, p564_1, p564_2, p564_3⟩ := q564
        have N564 := Fr.app N0 N564q
        have O565 := Old0.keep O561 K564q (allS g_b560 all0)
        have g_ar_564 : Z.heap.size ≤ ar_564 := Nat.le_trans O561.1 p564_0
        have ne_b560_ar_564 : b560 ≠ ar_564 := Nat.ne_of_lt (Nat.lt_of_lt_of_le A560.lt p564_0)
        have f567 : Exa Z T564.heap b560 "com/example/portcall/portcall/cli/Latencies" := (Exa.keep A560 K564q)
        obtain ⟨T566, h566, b566, q566, X566, e566, E566, A566, D566, st566⟩ := newOb X564 hx hZ hown (own_w hw (i := 1) rfl) (own_w hw (i := 2) rfl) (own_w hw (i := 3) rfl) rfl (g := (mkF m 64 #[.val (.long p0), .second, .val (.long p1), .second, .val (.long p2), .second, iv p3, iv p4, iv 1, iv 0, iv 1, .val (.double qv), .second, rv b560, .unset, .unset, .unset, .unset, .unset, .unset] [])) rfl (D at_64) (by decide) (by decide)
        have O568 := Old0.ext O565 E566
        have g_b566 : Z.heap.size ≤ b566 := q566 ▸ O565.1
        have ne_b560_b566 : b560 ≠ b566 := q566 ▸ Nat.ne_of_lt f567.lt
        have ne_ar_564_b566 : ar_564 ≠ b566 := q566 ▸ Nat.ne_of_lt p564_3.lt
        have f569 : Fld Z h566 b566 "com/example/portcall/portcall/cli/Latencies" "counts" "[J" .null := D566 (Or.inr (own_w hw (i := 12) rfl)) (ty := (.array .long)) (by decide)
        have f570 : Fld Z h566 b566 "com/example/portcall/portcall/cli/Latencies" "total" "J" (.long (0 : Int64)) := D566 (Or.inl (own_w hw (i := 31) rfl)) (ty := .long) (by decide)
        have f572 : Exa Z h566 b560 "com/example/portcall/portcall/cli/Latencies" := (Exa.ext E566 f567)
        have f573 : Arv Z h566 ar_564 ka_564 .long (16384 : Int32) (own_cl ([] : List Nat)) (.long (0 : Int64)) := (Arv.ext p564_3 E566)
        obtain ⟨T571, v571, L571, X571, q571, st571⟩ := callNew X566 hx hZ (y := own_m10) rfl hown (own_w hw (i := 4) rfl) (own_w hw (i := 5) rfl) (own_w hw (i := 3) rfl) (own_w hw (i := 6) rfl) (by decide) (rm_init hw G b566  h566 O568 A566 f569 f570 g_b566) e566 (W := 1) (by decide) (by decide) (by decide) (by decide) (g := (mkF m 68 #[.val (.long p0), .second, .val (.long p1), .second, .val (.long p2), .second, iv p3, iv p4, iv 1, iv 0, iv 1, .val (.double qv), .second, rv b560, .unset, .unset, .unset, .unset, .unset, .unset] [(.ref b566), (.ref b566)])) rfl (by rw [hml]; rfl) (a := b566) (argsL := []) (rest := [(.ref b566)]) (lenOf pd47 rfl) rfl rfl (Nat.le_of_eq rfl) (D at_68)
        obtain ⟨ar_571, ka_571, rfl, N571q, K571q, p571_0, p571_1, p571_2, p571_3⟩ := q571
        have N571 := Fr.app N564 N571q
        have O574 := Old0.keep O568 K571q (allS g_b566 all0)
        have g_ar_571 : Z.heap.size ≤ ar_571 := Nat.le_trans O568.1 p571_0
        have ne_b560_ar_571 : b560 ≠ ar_571 := Nat.ne_of_lt (Nat.lt_of_lt_of_le f572.lt p571_0)
        have ne_ar_564_ar_571 : ar_564 ≠ ar_571 := Nat.ne_of_lt (Nat.lt_of_lt_of_le f573.lt p571_0)
        have ne_b566_ar_571 : b566 ≠ ar_571 := Nat.ne_of_lt (Nat.lt_of_lt_of_le A566.lt p571_0)
        have f576 : Exa Z T571.heap b560 "com/example/portcall/portcall/cli/Latencies" := (Exa.keep f572 K571q)
        have f577 : Arv Z T571.heap ar_564 ka_564 .long (16384 : Int32) (own_cl ([] : List Nat)) (.long (0 : Int64)) := (Arv.keep f573 K571q (ninS ne_ar_564_b566 nin0))
        have f578 : Exa Z T571.heap b566 "com/example/portcall/portcall/cli/Latencies" := (Exa.keep A566 K571q)
        obtain ⟨T575, h575, b575, q575, X575, e575, E575, A575, D575, st575⟩ := newOb X571 hx hZ hown (own_w hw (i := 1) rfl) (own_w hw (i := 2) rfl) (own_w hw (i := 3) rfl) rfl (g := (mkF m 73 #[.val (.long p0), .second, .val (.long p1), .second, .val (.long p2), .second, iv p3, iv p4, iv 1, iv 0, iv 1, .val (.double qv), .second, rv b560, rv b566, .unset, .unset, .unset, .unset, .unset] [])) rfl (D at_73) (by decide) (by decide)
        have O579 := Old0.ext O574 E575
        have g_b575 : Z.heap.size ≤ b575 := q575 ▸ O574.1
        have ne_b560_b575 : b560 ≠ b575 := q575 ▸ Nat.ne_of_lt f576.lt
        have ne_ar_564_b575 : ar_564 ≠ b575 := q575 ▸ Nat.ne_of_lt f577.lt
        have ne_b566_b575 : b566 ≠ b575 := q575 ▸ Nat.ne_of_lt f578.lt
        have ne_ar_571_b575 : ar_571 ≠ b575 := q575 ▸ Nat.ne_of_lt p571_3.lt
        have f580 : Fld Z h575 b575 "com/example/portcall/portcall/cli/Latencies" "counts" "[J" .null := D575 (Or.inr (own_w hw (i := 12) rfl)) (ty := (.array .long)) (by decide)
        have f581 : Fld Z h575 b575 "com/example/portcall/portcall/cli/Latencies" "total" "J" (.long (0 : Int64)) := D575 (Or.inl (own_w hw (i := 31) rfl)) (ty := .long) (by decide)
        have f583 : Exa Z h575 b560 "com/example/portcall/portcall/cli/Latencies" := (Exa.ext E575 f576)
        have f584 : Arv Z h575 ar_564 ka_564 .long (16384 : Int32) (own_cl ([] : List Nat)) (.long (0 : Int64)) := (Arv.ext f577 E575)
        have f585 : Exa Z h575 b566 "com/example/portcall/portcall/cli/Latencies" := (Exa.ext E575 f578)
        have f586 : Arv Z h575 ar_571 ka_571 .long (16384 : Int32) (own_cl ([] : List Nat)) (.long (0 : Int64)) := (Arv.ext p571_3 E575)
        obtain ⟨T582, v582, L582, X582, q582, st582⟩ := callNew X575 hx hZ (y := own_m10) rfl hown (own_w hw (i := 4) rfl) (own_w hw (i := 5) rfl) (own_w hw (i := 3) rfl) (own_w hw (i := 6) rfl) (by decide) (rm_init hw G b575  h575 O579 A575 f580 f581 g_b575) e575 (W := 1) (by decide) (by decide) (by decide) (by decide) (g := (mkF m 77 #[.val (.long p0), .second, .val (.long p1), .second, .val (.long p2), .second, iv p3, iv p4, iv 1, iv 0, iv 1, .val (.double qv), .second, rv b560, rv b566, .unset, .unset, .unset, .unset, .unset] [(.ref b575), (.ref b575)])) rfl (by rw [hml]; rfl) (a := b575) (argsL := []) (rest := [(.ref b575)]) (lenOf pd47 rfl) rfl rfl (Nat.le_of_eq rfl) (D at_77)
        obtain ⟨ar_582, ka_582, rfl, N582q, K582q, p582_0, p582_1, p582_2, p582_3⟩ := q582
        have N582 := Fr.app N571 N582q
        have O587 := Old0.keep O579 K582q (allS g_b575 all0)
        have g_ar_582 : Z.heap.size ≤ ar_582 := Nat.le_trans O579.1 p582_0
        have ne_b560_ar_582 : b560 ≠ ar_582 := Nat.ne_of_lt (Nat.lt_of_lt_of_le f583.lt p582_0)
        have ne_ar_564_ar_582 : ar_564 ≠ ar_582 := Nat.ne_of_lt (Nat.lt_of_lt_of_le f584.lt p582_0)
        have ne_b566_ar_582 : b566 ≠ ar_582 := Nat.ne_of_lt (Nat.lt_of_lt_of_le f585.lt p582_0)
        have ne_ar_571_ar_582 : ar_571 ≠ ar_582 := Nat.ne_of_lt (Nat.lt_of_lt_of_le f586.lt p582_0)
        have ne_b575_ar_582 : b575 ≠ ar_582 := Nat.ne_of_lt (Nat.lt_of_lt_of_le A575.lt p582_0)
        have f590 : Exa Z T582.heap b560 "com/example/portcall/portcall/cli/Latencies" := (Exa.keep f583 K582q)
        have f591 : Fld Z T582.heap b560 "com/example/portcall/portcall/cli/Latencies" "counts" "[J" (.ref ar_564) := (Fld.keep (Fld.ext E575 (Fld.keep (Fld.ext E566 p564_1) K571q (ninS ne_b560_b566 nin0))) K582q (ninS ne_b560_b575 nin0))
        have f592 : Fld Z T582.heap b560 "com/example/portcall/portcall/cli/Latencies" "total" "J" (.long (0 : Int64)) := (Fld.keep (Fld.ext E575 (Fld.keep (Fld.ext E566 p564_2) K571q (ninS ne_b560_b566 nin0))) K582q (ninS ne_b560_b575 nin0))
        have f593 : Arv Z T582.heap ar_564 ka_564 .long (16384 : Int32) (own_cl ([] : List Nat)) (.long (0 : Int64)) := (Arv.keep f584 K582q (ninS ne_ar_564_b575 nin0))
        obtain ⟨T589, v589, L589, X589, q589, st589⟩ := callVi X582 hx hZ (y := own_m13) (z := own_m13) hown (own_w hw (i := 13) rfl) (own_w hw (i := 14) rfl) (notFace_of_selects (args := #[]) (mvT hZ (own_w hw (i := 16) rfl))) (own_w hw (i := 16) rfl) (own_w hw (i := 15) rfl) (own_w hw (i := 17) rfl) (own_w hw (i := 3) rfl) (by decide) (rm_rec hw G b560 p0 ar_564 ka_564 (([] : List Nat)) ((0 : Int64)) ((1 : Int64)) T582.heap O587 (by decide) f590 f591 f592 f593 g_b560 g_ar_564 ne_b560_ar_564) rfl (W := 0) (by decide) (by decide) (by decide) (by decide) f590 (g := (mkF m 90 #[.val (.long p0), .second, .val (.long p1), .second, .val (.long p2), .second, iv p3, iv p4, iv 1, iv 0, iv 1, .val (.double qv), .second, rv b560, rv b566, rv b575, .unset, .unset, .unset, .unset] [(.long p0), (.ref b560)])) rfl (by rw [hml]; rfl) (argsL := [(.long p0)]) (rest := []) (lenOf pd51 rfl) rfl rfl (Nat.le_of_eq rfl) (D at_90)
        obtain ⟨rfl, N589q, K589q, p589_0, p589_1, p589_2⟩ := q589
        have N589 := Fr.app N582 N589q
        have O594 := Old0.keep O587 K589q (allS g_b560 (allS g_ar_564 all0))
        have fj595 : Arv Z T589.heap ar_564 ka_564 .long (16384 : Int32) (own_cl ([own_jx p0] : List Nat)) (.long (0 : Int64)) := p589_2
        have f597 : Exa Z T589.heap b575 "com/example/portcall/portcall/cli/Latencies" := (Exa.keep (Exa.keep A575 K582q) K589q)
        have f598 : Fld Z T589.heap b575 "com/example/portcall/portcall/cli/Latencies" "counts" "[J" (.ref ar_582) := (Fld.keep p582_1 K589q (ninS (Ne.symm ne_b560_b575) (ninS (Ne.symm ne_ar_564_b575) nin0)))
        have f599 : Fld Z T589.heap b575 "com/example/portcall/portcall/cli/Latencies" "total" "J" (.long (0 : Int64)) := (Fld.keep p582_2 K589q (ninS (Ne.symm ne_b560_b575) (ninS (Ne.symm ne_ar_564_b575) nin0)))
        have f600 : Arv Z T589.heap ar_582 ka_582 .long (16384 : Int32) (own_cl ([] : List Nat)) (.long (0 : Int64)) := (Arv.keep p582_3 K589q (ninS (Ne.symm ne_b560_ar_582) (ninS (Ne.symm ne_ar_564_ar_582) nin0)))
        obtain ⟨T596, v596, L596, X596, q596, st596⟩ := callVi X589 hx hZ (y := own_m13) (z := own_m13) hown (own_w hw (i := 13) rfl) (own_w hw (i := 14) rfl) (notFace_of_selects (args := #[]) (mvT hZ (own_w hw (i := 16) rfl))) (own_w hw (i := 16) rfl) (own_w hw (i := 15) rfl) (own_w hw (i := 17) rfl) (own_w hw (i := 3) rfl) (by decide) (rm_rec hw G b575 p0 ar_582 ka_582 (([] : List Nat)) ((0 : Int64)) ((1 : Int64)) T589.heap O594 (by decide) f597 f598 f599 f600 g_b575 g_ar_582 ne_b575_ar_582) rfl (W := 0) (by decide) (by decide) (by decide) (by decide) f597 (g := (mkF m 96 #[.val (.long p0), .second, .val (.long p1), .second, .val (.long p2), .second, iv p3, iv p4, iv 1, iv 0, iv 1, .val (.double qv), .second, rv b560, rv b566, rv b575, .unset, .unset, .unset, .unset] [(.long p0), (.ref b575)])) rfl (by rw [hml]; rfl) (argsL := [(.long p0)]) (rest := []) (lenOf pd51 rfl) rfl rfl (Nat.le_of_eq rfl) (D at_96)
        obtain ⟨rfl, N596q, K596q, p596_0, p596_1, p596_2⟩ := q596
        have N596 := Fr.app N589 N596q
        have O601 := Old0.keep O594 K596q (allS g_b575 (allS g_ar_582 all0))
        have fj602 : Arv Z T596.heap ar_582 ka_582 .long (16384 : Int32) (own_cl ([own_jx p0] : List Nat)) (.long (0 : Int64)) := p596_2
        have fj604 : Arv Z T596.heap ar_582 ka_582 .long (16384 : Int32) (own_cl ([own_jx p0] : List Nat)) (.long (0 : Int64)) := fj602
        refine Go.of (T' := T596) (f' := (mkF m 118 #[.val (.long p0), .second, .val (.long p1), .second, .val (.long p2), .second, iv p3, iv p4, iv 1, iv 0, iv 1, .val (.double qv), .second, rv b560, rv b566, rv b575, .unset, .unset, .unset, .unset] [(.int 1)])) (fun _ k => XS.dstore X0.here hx rfl (D at_53) rfl (l' := #[.val (.long p0), .second, .val (.long p1), .second, .val (.long p2), .second, iv p3, iv p4, iv 1, iv 0, iv 1, .val (.double qv), .second, .unset, .unset, .unset, .unset, .unset, .unset, .unset]) rfl (st560 _ (XS.dup X560.here hx rfl (D at_58) rfl rfl (st564 _ (XS.astore X564.here hx rfl (D at_62) rfl rfl (l' := #[.val (.long p0), .second, .val (.long p1), .second, .val (.long p2), .second, iv p3, iv p4, iv 1, iv 0, iv 1, .val (.double qv), .second, rv b560, .unset, .unset, .unset, .unset, .unset, .unset]) rfl (st566 _ (XS.dup X566.here hx rfl (D at_67) rfl rfl (st571 _ (XS.astore X571.here hx rfl (D at_71) rfl rfl (l' := #[.val (.long p0), .second, .val (.long p1), .second, .val (.long p2), .second, iv p3, iv p4, iv 1, iv 0, iv 1, .val (.double qv), .second, rv b560, rv b566, .unset, .unset, .unset, .unset, .unset]) rfl (st575 _ (XS.dup X575.here hx rfl (D at_76) rfl rfl (st582 _ (XS.astore X582.here hx rfl (D at_80) rfl rfl (l' := #[.val (.long p0), .second, .val (.long p1), .second, .val (.long p2), .second, iv p3, iv p4, iv 1, iv 0, iv 1, .val (.double qv), .second, rv b560, rv b566, rv b575, .unset, .unset, .unset, .unset]) rfl (XS.iload X582.here hx rfl (D at_82) rfl (XS.ifNo X582.here hx rfl (D at_84) rfl ((if0 _ _).trans (feq (by decide : ¬ ((1 : Int32) = (0 : Int32)))).1) (XS.aload X582.here hx rfl (D at_87) rfl rfl (XS.lloadN X582.here hx rfl (D at_89) rfl (st589 _ (XS.aload X589.here hx rfl (D at_93) rfl rfl (XS.lloadN X589.here hx rfl (D at_95) rfl (st596 _ (XS.iload X596.here hx rfl (D at_99) rfl (XS.ifYes X596.here hx rfl (pc0 := 101) (pc' := 116) rfl (D at_101) rfl ((if0 _ _).trans (teq (by decide : (0 : Int32) = (0 : Int32))).1) (by decide) (by decide) (XS.iload X596.here hx rfl (D at_116) rfl k)))))))))))))))))))))))) ?_
        have f607 : Exa Z T596.heap b566 "com/example/portcall/portcall/cli/Latencies" := (Exa.keep (Exa.keep (Exa.keep f585 K582q) K589q) K596q)
        have f608 : Fld Z T596.heap b566 "com/example/portcall/portcall/cli/Latencies" "counts" "[J" (.ref ar_571) := (Fld.keep (Fld.keep (Fld.keep (Fld.ext E575 p571_1) K582q (ninS ne_b566_b575 nin0)) K589q (ninS (Ne.symm ne_b560_b566) (ninS (Ne.symm ne_ar_564_b566) nin0))) K596q (ninS ne_b566_b575 (ninS ne_b566_ar_582 nin0)))
        have f609 : Fld Z T596.heap b566 "com/example/portcall/portcall/cli/Latencies" "total" "J" (.long (0 : Int64)) := (Fld.keep (Fld.keep (Fld.keep (Fld.ext E575 p571_2) K582q (ninS ne_b566_b575 nin0)) K589q (ninS (Ne.symm ne_b560_b566) (ninS (Ne.symm ne_ar_564_b566) nin0))) K596q (ninS ne_b566_b575 (ninS ne_b566_ar_582 nin0)))
        have f610 : Arv Z T596.heap ar_571 ka_571 .long (16384 : Int32) (own_cl ([] : List Nat)) (.long (0 : Int64)) := (Arv.keep (Arv.keep (Arv.keep f586 K582q (ninS ne_ar_571_b575 nin0)) K589q (ninS (Ne.symm ne_b560_ar_571) (ninS (Ne.symm ne_ar_564_ar_571) nin0))) K596q (ninS ne_ar_571_b575 (ninS ne_ar_571_ar_582 nin0)))
        obtain ⟨T606, v606, L606, X606, q606, st606⟩ := callVi X596 hx hZ (y := own_m13) (z := own_m13) hown (own_w hw (i := 13) rfl) (own_w hw (i := 14) rfl) (notFace_of_selects (args := #[]) (mvT hZ (own_w hw (i := 16) rfl))) (own_w hw (i := 16) rfl) (own_w hw (i := 15) rfl) (own_w hw (i := 17) rfl) (own_w hw (i := 3) rfl) (by decide) (rm_rec hw G b566 p2 ar_571 ka_571 (([] : List Nat)) ((0 : Int64)) ((1 : Int64)) T596.heap O601 (by decide) f607 f608 f609 f610 g_b566 g_ar_571 ne_b566_ar_571) rfl (W := 0) (by decide) (by decide) (by decide) (by decide) f607 (g := (mkF m 125 #[.val (.long p0), .second, .val (.long p1), .second, .val (.long p2), .second, iv p3, iv p4, iv 1, iv 0, iv 1, .val (.double qv), .second, rv b560, rv b566, rv b575, .unset, .unset, .unset, .unset] [(.long p2), (.ref b566)])) rfl (by rw [hml]; rfl) (argsL := [(.long p2)]) (rest := []) (lenOf pd51 rfl) rfl rfl (Nat.le_of_eq rfl) (D at_125)
        obtain ⟨rfl, N606q, K606q, p606_0, p606_1, p606_2⟩ := q606
        have N606 := Fr.app N596 N606q
        have O611 := Old0.keep O601 K606q (allS g_b566 (allS g_ar_571 all0))
        have fj612 : Arv Z T606.heap ar_571 ka_571 .long (16384 : Int32) (own_cl ([own_jx p2] : List Nat)) (.long (0 : Int64)) := p606_2
        have f614 : Exa Z T606.heap b575 "com/example/portcall/portcall/cli/Latencies" := (Exa.keep (Exa.keep f597 K596q) K606q)
        have f615 : Fld Z T606.heap b575 "com/example/portcall/portcall/cli/Latencies" "counts" "[J" (.ref ar_582) := (Fld.keep p596_0 K606q (ninS (Ne.symm ne_b566_b575) (ninS (Ne.symm ne_ar_571_b575) nin0)))
        have f616 : Fld Z T606.heap b575 "com/example/portcall/portcall/cli/Latencies" "total" "J" (.long (1 : Int64)) := (Fld.keep p596_1 K606q (ninS (Ne.symm ne_b566_b575) (ninS (Ne.symm ne_ar_571_b575) nin0)))
        have f617 : Arv Z T606.heap ar_582 ka_582 .long (16384 : Int32) (own_cl ([own_jx p0] : List Nat)) (.long (0 : Int64)) := (Arv.keep fj604 K606q (ninS (Ne.symm ne_b566_ar_582) (ninS (Ne.symm ne_ar_571_ar_582) nin0)))
        obtain ⟨T613, v613, L613, X613, q613, st613⟩ := callVi X606 hx hZ (y := own_m13) (z := own_m13) hown (own_w hw (i := 13) rfl) (own_w hw (i := 14) rfl) (notFace_of_selects (args := #[]) (mvT hZ (own_w hw (i := 16) rfl))) (own_w hw (i := 16) rfl) (own_w hw (i := 15) rfl) (own_w hw (i := 17) rfl) (own_w hw (i := 3) rfl) (by decide) (rm_rec hw G b575 p2 ar_582 ka_582 (([own_jx p0] : List Nat)) ((1 : Int64)) ((2 : Int64)) T606.heap O611 (by decide) f614 f615 f616 f617 g_b575 g_ar_582 ne_b575_ar_582) rfl (W := 0) (by decide) (by decide) (by decide) (by decide) f614 (g := (mkF m 132 #[.val (.long p0), .second, .val (.long p1), .second, .val (.long p2), .second, iv p3, iv p4, iv 1, iv 0, iv 1, .val (.double qv), .second, rv b560, rv b566, rv b575, .unset, .unset, .unset, .unset] [(.long p2), (.ref b575)])) rfl (by rw [hml]; rfl) (argsL := [(.long p2)]) (rest := []) (lenOf pd51 rfl) rfl rfl (Nat.le_of_eq rfl) (D at_132)
        obtain ⟨rfl, N613q, K613q, p613_0, p613_1, p613_2⟩ := q613
        have N613 := Fr.app N606 N613q
        have O618 := Old0.keep O611 K613q (allS g_b575 (allS g_ar_582 all0))
        have fj619 : Arv Z T613.heap ar_582 ka_582 .long (16384 : Int32) (own_cl ([own_jx p0, own_jx p2] : List Nat)) (.long (0 : Int64)) := p613_2
        have f621 : Exa Z T613.heap b560 "com/example/portcall/portcall/cli/Latencies" := (Exa.keep (Exa.keep (Exa.keep (Exa.keep f590 K589q) K596q) K606q) K613q)
        have f622 : Exa Z T613.heap b566 "com/example/portcall/portcall/cli/Latencies" := (Exa.keep (Exa.keep f607 K606q) K613q)
        have f623 : Fld Z T613.heap b560 "com/example/portcall/portcall/cli/Latencies" "counts" "[J" (.ref ar_564) := (Fld.keep (Fld.keep (Fld.keep p589_0 K596q (ninS ne_b560_b575 (ninS ne_b560_ar_582 nin0))) K606q (ninS ne_b560_b566 (ninS ne_b560_ar_571 nin0))) K613q (ninS ne_b560_b575 (ninS ne_b560_ar_582 nin0)))
        have f624 : Fld Z T613.heap b566 "com/example/portcall/portcall/cli/Latencies" "counts" "[J" (.ref ar_571) := (Fld.keep p606_0 K613q (ninS ne_b566_b575 (ninS ne_b566_ar_582 nin0)))
        have f625 : Fld Z T613.heap b560 "com/example/portcall/portcall/cli/Latencies" "total" "J" (.long (1 : Int64)) := (Fld.keep (Fld.keep (Fld.keep p589_1 K596q (ninS ne_b560_b575 (ninS ne_b560_ar_582 nin0))) K606q (ninS ne_b560_b566 (ninS ne_b560_ar_571 nin0))) K613q (ninS ne_b560_b575 (ninS ne_b560_ar_582 nin0)))
        have f626 : Fld Z T613.heap b566 "com/example/portcall/portcall/cli/Latencies" "total" "J" (.long (1 : Int64)) := (Fld.keep p606_1 K613q (ninS ne_b566_b575 (ninS ne_b566_ar_582 nin0)))
        have f627 : Arv Z T613.heap ar_564 ka_564 .long (16384 : Int32) (own_cl ([own_jx p0] : List Nat)) (.long (0 : Int64)) := (Arv.keep (Arv.keep (Arv.keep fj595 K596q (ninS ne_ar_564_b575 (ninS ne_ar_564_ar_582 nin0))) K606q (ninS ne_ar_564_b566 (ninS ne_ar_564_ar_571 nin0))) K613q (ninS ne_ar_564_b575 (ninS ne_ar_564_ar_582 nin0)))
        have f628 : Arv Z T613.heap ar_571 ka_571 .long (16384 : Int32) (own_cl ([own_jx p2] : List Nat)) (.long (0 : Int64)) := (Arv.keep fj612 K613q (ninS ne_ar_571_b575 (ninS ne_ar_571_ar_582 nin0)))
        obtain ⟨T620, v620, L620, X620, q620, st620⟩ := callVi X613 hx hZ (y := own_m15) (z := own_m15) hown (own_w hw (i := 32) rfl) (own_w hw (i := 33) rfl) (notFace_of_selects (args := #[]) (mvT hZ (own_w hw (i := 35) rfl))) (own_w hw (i := 35) rfl) (own_w hw (i := 34) rfl) (own_w hw (i := 36) rfl) (own_w hw (i := 3) rfl) (by decide) (rm_add hw G b560 b566 ar_564 ka_564 (([own_jx p0] : List Nat)) ar_571 ka_571 (([own_jx p2] : List Nat)) ((1 : Int64)) ((1 : Int64)) ((2 : Int64)) T613.heap O618 (by decide) f621 f622 f623 f624 f625 f626 f627 f628 g_b560 g_ar_564 ne_b560_ar_564 ne_b560_b566 ne_b560_ar_571 (Ne.symm ne_ar_564_b566) (Ne.symm ne_ar_564_ar_571)) rfl (W := 0) (by decide) (by decide) (by decide) (by decide) f621 (g := (mkF m 139 #[.val (.long p0), .second, .val (.long p1), .second, .val (.long p2), .second, iv p3, iv p4, iv 1, iv 0, iv 1, .val (.double qv), .second, rv b560, rv b566, rv b575, .unset, .unset, .unset, .unset] [(.ref b566), (.ref b560)])) rfl (by rw [hml]; rfl) (argsL := [(.ref b566)]) (rest := []) (lenOf pd48 rfl) rfl rfl (Nat.le_of_eq rfl) (D at_139)
        obtain ⟨rfl, N620q, K620q, p620_0, p620_1, p620_2⟩ := q620
        have N620 := Fr.app N613 N620q
        have O629 := Old0.keep O618 K620q (allS g_b560 (allS g_ar_564 all0))
        have fj630 : Arv Z T620.heap ar_564 ka_564 .long (16384 : Int32) (own_cl ([own_jx p0, own_jx p2] : List Nat)) (.long (0 : Int64)) := p620_2
        have f632 : Exa Z T620.heap b560 "com/example/portcall/portcall/cli/Latencies" := (Exa.keep f621 K620q)
        obtain ⟨T631, v631, L631, X631, q631, st631⟩ := callVi X620 hx hZ (y := own_m30) (z := own_m30) hown (own_w hw (i := 37) rfl) (own_w hw (i := 38) rfl) (notFace_of_selects (args := #[]) (mvT hZ (own_w hw (i := 40) rfl))) (own_w hw (i := 40) rfl) (own_w hw (i := 39) rfl) (own_w hw (i := 41) rfl) (own_w hw (i := 3) rfl) (by decide) (rm_pct2 hw G b560 qv ar_564 ka_564 (([own_jx p0, own_jx p2] : List Nat)) T620.heap O629 (hq) (And.intro (own_jlt p0) (And.intro (own_jlt p2) (trivial))) (rfl) p620_0 p620_1 fj630) rfl (W := 0) (by decide) (by decide) (by decide) (by decide) f632 (g := (mkF m 146 #[.val (.long p0), .second, .val (.long p1), .second, .val (.long p2), .second, iv p3, iv p4, iv 1, iv 0, iv 1, .val (.double qv), .second, rv b560, rv b566, rv b575, .unset, .unset, .unset, .unset] [(.double qv), (.ref b560)])) rfl (by rw [hml]; rfl) (argsL := [(.double qv)]) (rest := []) (lenOf pd49 rfl) rfl rfl (Nat.le_of_eq rfl) (D at_146)
        obtain ⟨iz_631, rfl, N631q, K631q, p631_0⟩ := q631
        have N631 := Fr.app N620 N631q
        have O633 := Old0.keep O629 K631q all0
        have f635 : Exa Z T631.heap b575 "com/example/portcall/portcall/cli/Latencies" := (Exa.keep (Exa.keep (Exa.keep f614 K613q) K620q) K631q)
        have f636 : Fld Z T631.heap b575 "com/example/portcall/portcall/cli/Latencies" "counts" "[J" (.ref ar_582) := (Fld.keep (Fld.keep p613_0 K620q (ninS (Ne.symm ne_b560_b575) (ninS (Ne.symm ne_ar_564_b575) nin0))) K631q nin0)
        have f637 : Fld Z T631.heap b575 "com/example/portcall/portcall/cli/Latencies" "total" "J" (.long (2 : Int64)) := (Fld.keep (Fld.keep p613_1 K620q (ninS (Ne.symm ne_b560_b575) (ninS (Ne.symm ne_ar_564_b575) nin0))) K631q nin0)
        have f638 : Arv Z T631.heap ar_582 ka_582 .long (16384 : Int32) (own_cl ([own_jx p0, own_jx p2] : List Nat)) (.long (0 : Int64)) := (Arv.keep (Arv.keep fj619 K620q (ninS (Ne.symm ne_b560_ar_582) (ninS (Ne.symm ne_ar_564_ar_582) nin0))) K631q nin0)
        obtain ⟨T634, v634, L634, X634, q634, st634⟩ := callVi X631 hx hZ (y := own_m30) (z := own_m30) hown (own_w hw (i := 37) rfl) (own_w hw (i := 38) rfl) (notFace_of_selects (args := #[]) (mvT hZ (own_w hw (i := 40) rfl))) (own_w hw (i := 40) rfl) (own_w hw (i := 39) rfl) (own_w hw (i := 41) rfl) (own_w hw (i := 3) rfl) (by decide) (rm_pct2 hw G b575 qv ar_582 ka_582 (([own_jx p0, own_jx p2] : List Nat)) T631.heap O633 (hq) (And.intro (own_jlt p0) (And.intro (own_jlt p2) (trivial))) (rfl) f636 f637 f638) rfl (W := 0) (by decide) (by decide) (by decide) (by decide) f635 (g := (mkF m 155 #[.val (.long p0), .second, .val (.long p1), .second, .val (.long p2), .second, iv p3, iv p4, iv 1, iv 0, iv 1, .val (.double qv), .second, rv b560, rv b566, rv b575, .val (.double (own_mid iz_631)), .second, .unset, .unset] [(.double qv), (.ref b575)])) rfl (by rw [hml]; rfl) (argsL := [(.double qv)]) (rest := []) (lenOf pd49 rfl) rfl rfl (Nat.le_of_eq rfl) (D at_155)
        obtain ⟨iz_634, rfl, N634q, K634q, p634_0⟩ := q634
        have N634 := Fr.app N631 N634q
        have O639 := Old0.keep O633 K634q all0
        obtain ⟨T640, v640, L640, X640, q640, st640⟩ := callSt X634 hx hZ (y := own_m45) hown (own_w hw (i := 68) rfl) (own_w hw (i := 69) rfl) (own_w hw (i := 70) rfl) (own_w hw (i := 71) rfl) (by decide) (rm_same hw G ((own_mid iz_631)) ((own_mid iz_634))  T634.heap O639 (congrArg own_mid (own_at1 p634_0 p631_0))) rfl (W := 0) (by decide) (by decide) (by decide) (by decide) (g := (mkF m 164 #[.val (.long p0), .second, .val (.long p1), .second, .val (.long p2), .second, iv p3, iv p4, iv 1, iv 0, iv 1, .val (.double qv), .second, rv b560, rv b566, rv b575, .val (.double (own_mid iz_631)), .second, .val (.double (own_mid iz_634)), .second] [(.double (own_mid iz_634)), (.double (own_mid iz_631))])) rfl (by rw [hml]; rfl) (argsL := [(.double (own_mid iz_631)), (.double (own_mid iz_634))]) (rest := []) (lenOf pd50 rfl) rfl rfl (Nat.le_of_eq rfl) (D at_164)
        obtain ⟨rfl, e640, rfl⟩ := q640
        have N640 := Fr.app N634 (Fr.nil _)
        refine Go.of (T' := T640) (f' := (mkF m 167 #[.val (.long p0), .second, .val (.long p1), .second, .val (.long p2), .second, iv p3, iv p4, iv 1, iv 0, iv 1, .val (.double qv), .second, rv b560, rv b566, rv b575, .val (.double (own_mid iz_631)), .second, .val (.double (own_mid iz_634)), .second] [(.int 1)])) (fun _ k => XS.ifNo X596.here hx rfl (D at_118) rfl ((if0 _ _).trans (feq (by decide : ¬ ((1 : Int32) = (0 : Int32)))).1) (XS.aload X596.here hx rfl (D at_121) rfl rfl (XS.lload X596.here hx rfl (D at_123) rfl (st606 _ (XS.aload X606.here hx rfl (D at_128) rfl rfl (XS.lload X606.here hx rfl (D at_130) rfl (st613 _ (XS.aload X613.here hx rfl (D at_135) rfl rfl (XS.aload X613.here hx rfl (D at_137) rfl rfl (st620 _ (XS.aload X620.here hx rfl (D at_142) rfl rfl (XS.dload X620.here hx rfl (D at_144) rfl (st631 _ (XS.dstore X631.here hx rfl (D at_149) rfl (l' := #[.val (.long p0), .second, .val (.long p1), .second, .val (.long p2), .second, iv p3, iv p4, iv 1, iv 0, iv 1, .val (.double qv), .second, rv b560, rv b566, rv b575, .val (.double (own_mid iz_631)), .second, .unset, .unset]) rfl (XS.aload X631.here hx rfl (D at_151) rfl rfl (XS.dload X631.here hx rfl (D at_153) rfl (st634 _ (XS.dstore X634.here hx rfl (D at_158) rfl (l' := #[.val (.long p0), .second, .val (.long p1), .second, .val (.long p2), .second, iv p3, iv p4, iv 1, iv 0, iv 1, .val (.double qv), .second, rv b560, rv b566, rv b575, .val (.double (own_mid iz_631)), .second, .val (.double (own_mid iz_634)), .second]) rfl (XS.dload X634.here hx rfl (D at_160) rfl (XS.dload X634.here hx rfl (D at_162) rfl (st640 _ k))))))))))))))))))))) ?_
        exact Go.retB X640 hx hlk hret (by simp) (D at_167) (by decide) (by decide) (z' := (1 : Int32)) rfl ⟨rfl, N640⟩
    · skip
      refine Go.of (T' := T0) (f' := (mkF m 32 #[.val (.long p0), .second, .val (.long p1), .second, .val (.long p2), .second, iv p3, iv p4, iv 1, iv 1, .unset, .unset, .unset, .unset, .unset, .unset, .unset, .unset, .unset, .unset] [(.int (p3 &&& (4 : Int32)))])) (fun _ k => XS.ifNo X0.here hx rfl (D at_18) rfl ((if0 _ _).trans (feq hc490).1) (XS.iconst X0.here hx rfl (D at_21) (XS.goto X0.here hx rfl (pc0 := 22) (pc' := 26) rfl (D at_22) (by decide) (by decide) (XS.istore X0.here hx rfl (D at_26) rfl (l' := #[.val (.long p0), .second, .val (.long p1), .second, .val (.long p2), .second, iv p3, iv p4, iv 1, iv 1, .unset, .unset, .unset, .unset, .unset, .unset, .unset, .unset, .unset, .unset]) rfl (XS.iload X0.here hx rfl (D at_28) rfl (XS.iconst X0.here hx rfl (D at_30) (XS.iand X0.here hx rfl (D at_31) rfl k))))))) ?_
      by_cases hc641 : (p3 &&& (4 : Int32)) = (0 : Int32)
      · skip
        refine Go.of (T' := T0) (f' := (mkF m 53 #[.val (.long p0), .second, .val (.long p1), .second, .val (.long p2), .second, iv p3, iv p4, iv 1, iv 1, iv 0, .unset, .unset, .unset, .unset, .unset, .unset, .unset, .unset, .unset] [(.double (FP.ddiv (FP.i2d ((p4 &&& (3 : Int32)) + (1 : Int32))) (4616189618054758400 : UInt64)))])) (fun _ k => XS.ifYes X0.here hx rfl (pc0 := 32) (pc' := 39) rfl (D at_32) rfl ((if0 _ _).trans (teq hc641).1) (by decide) (by decide) (XS.iconst X0.here hx rfl (D at_39) (XS.istore X0.here hx rfl (D at_40) rfl (l' := #[.val (.long p0), .second, .val (.long p1), .second, .val (.long p2), .second, iv p3, iv p4, iv 1, iv 1, iv 0, .unset, .unset, .unset, .unset, .unset, .unset, .unset, .unset, .unset]) rfl (XS.iload X0.here hx rfl (D at_42) rfl (XS.iconst X0.here hx rfl (D at_44) (XS.iand X0.here hx rfl (D at_45) rfl (XS.iconst X0.here hx rfl (D at_46) (XS.iadd X0.here hx rfl (D at_47) rfl (XS.i2dS X0.here hx rfl (D at_48) rfl rfl (X0.ldc2DoubleC hx hown (mvT hZ (own_w hw (i := 0) rfl)) (g := (mkF m 49 #[.val (.long p0), .second, .val (.long p1), .second, .val (.long p2), .second, iv p3, iv p4, iv 1, iv 1, iv 0, .unset, .unset, .unset, .unset, .unset, .unset, .unset, .unset, .unset] [(.double (FP.i2d ((p4 &&& (3 : Int32)) + (1 : Int32))))])) rfl (D at_49) _ (XS.ddivS X0.here hx rfl (D at_52) rfl (own_nn4 _) rfl k))))))))))) ?_
        generalize hqv : ((FP.ddiv (FP.i2d ((p4 &&& (3 : Int32)) + (1 : Int32))) (4616189618054758400 : UInt64)) : UInt64) = qv
        have hq := hqv ▸ own_q4 p4
        obtain ⟨T642, h642, b642, q642, X642, e642, E642, A642, D642, st642⟩ := newOb X0 hx hZ hown (own_w hw (i := 1) rfl) (own_w hw (i := 2) rfl) (own_w hw (i := 3) rfl) e0 (g := (mkF m 55 #[.val (.long p0), .second, .val (.long p1), .second, .val (.long p2), .second, iv p3, iv p4, iv 1, iv 1, iv 0, .val (.double qv), .second, .unset, .unset, .unset, .unset, .unset, .unset, .unset] [])) rfl (D at_55) (by decide) (by decide)
        have O643 := Old0.ext O0 E642
        have g_b642 : Z.heap.size ≤ b642 := q642 ▸ O0.1
        have f644 : Fld Z h642 b642 "com/example/portcall/portcall/cli/Latencies" "counts" "[J" .null := D642 (Or.inr (own_w hw (i := 12) rfl)) (ty := (.array .long)) (by decide)
        have f645 : Fld Z h642 b642 "com/example/portcall/portcall/cli/Latencies" "total" "J" (.long (0 : Int64)) := D642 (Or.inl (own_w hw (i := 31) rfl)) (ty := .long) (by decide)
        obtain ⟨T646, v646, L646, X646, q646, st646⟩ := callNew X642 hx hZ (y := own_m10) rfl hown (own_w hw (i := 4) rfl) (own_w hw (i := 5) rfl) (own_w hw (i := 3) rfl) (own_w hw (i := 6) rfl) (by decide) (rm_init hw G b642  h642 O643 A642 f644 f645 g_b642) e642 (W := 1) (by decide) (by decide) (by decide) (by decide) (g := (mkF m 59 #[.val (.long p0), .second, .val (.long p1), .second, .val (.long p2), .second, iv p3, iv p4, iv 1, iv 1, iv 0, .val (.double qv), .second, .unset, .unset, .unset, .unset, .unset, .unset, .unset] [(.ref b642), (.ref b642)])) rfl (by rw [hml]; rfl) (a := b642) (argsL := []) (rest := [(.ref b642)]) (lenOf pd47 rfl) rfl rfl (Nat.le_of_eq rfl) (D at_59)
        obtain ⟨ar_646, ka_646, rfl, N646q, K646q, p646_0, p646_1, p646_2, p646_3⟩ := q646
        have N646 := Fr.app N0 N646q
        have O647 := Old0.keep O643 K646q (allS g_b642 all0)
        have g_ar_646 : Z.heap.size ≤ ar_646 := Nat.le_trans O643.1 p646_0
        have ne_b642_ar_646 : b642 ≠ ar_646 := Nat.ne_of_lt (Nat.lt_of_lt_of_le A642.lt p646_0)
        have f649 : Exa Z T646.heap b642 "com/example/portcall/portcall/cli/Latencies" := (Exa.keep A642 K646q)
        obtain ⟨T648, h648, b648, q648, X648, e648, E648, A648, D648, st648⟩ := newOb X646 hx hZ hown (own_w hw (i := 1) rfl) (own_w hw (i := 2) rfl) (own_w hw (i := 3) rfl) rfl (g := (mkF m 64 #[.val (.long p0), .second, .val (.long p1), .second, .val (.long p2), .second, iv p3, iv p4, iv 1, iv 1, iv 0, .val (.double qv), .second, rv b642, .unset, .unset, .unset, .unset, .unset, .unset] [])) rfl (D at_64) (by decide) (by decide)
        have O650 := Old0.ext O647 E648
        have g_b648 : Z.heap.size ≤ b648 := q648 ▸ O647.1
        have ne_b642_b648 : b642 ≠ b648 := q648 ▸ Nat.ne_of_lt f649.lt
        have ne_ar_646_b648 : ar_646 ≠ b648 := q648 ▸ Nat.ne_of_lt p646_3.lt
        have f651 : Fld Z h648 b648 "com/example/portcall/portcall/cli/Latencies" "counts" "[J" .null := D648 (Or.inr (own_w hw (i := 12) rfl)) (ty := (.array .long)) (by decide)
        have f652 : Fld Z h648 b648 "com/example/portcall/portcall/cli/Latencies" "total" "J" (.long (0 : Int64)) := D648 (Or.inl (own_w hw (i := 31) rfl)) (ty := .long) (by decide)
        have f654 : Exa Z h648 b642 "com/example/portcall/portcall/cli/Latencies" := (Exa.ext E648 f649)
        have f655 : Arv Z h648 ar_646 ka_646 .long (16384 : Int32) (own_cl ([] : List Nat)) (.long (0 : Int64)) := (Arv.ext p646_3 E648)
        obtain ⟨T653, v653, L653, X653, q653, st653⟩ := callNew X648 hx hZ (y := own_m10) rfl hown (own_w hw (i := 4) rfl) (own_w hw (i := 5) rfl) (own_w hw (i := 3) rfl) (own_w hw (i := 6) rfl) (by decide) (rm_init hw G b648  h648 O650 A648 f651 f652 g_b648) e648 (W := 1) (by decide) (by decide) (by decide) (by decide) (g := (mkF m 68 #[.val (.long p0), .second, .val (.long p1), .second, .val (.long p2), .second, iv p3, iv p4, iv 1, iv 1, iv 0, .val (.double qv), .second, rv b642, .unset, .unset, .unset, .unset, .unset, .unset] [(.ref b648), (.ref b648)])) rfl (by rw [hml]; rfl) (a := b648) (argsL := []) (rest := [(.ref b648)]) (lenOf pd47 rfl) rfl rfl (Nat.le_of_eq rfl) (D at_68)
        obtain ⟨ar_653, ka_653, rfl, N653q, K653q, p653_0, p653_1, p653_2, p653_3⟩ := q653
        have N653 := Fr.app N646 N653q
        have O656 := Old0.keep O650 K653q (allS g_b648 all0)
        have g_ar_653 : Z.heap.size ≤ ar_653 := Nat.le_trans O650.1 p653_0
        have ne_b642_ar_653 : b642 ≠ ar_653 := Nat.ne_of_lt (Nat.lt_of_lt_of_le f654.lt p653_0)
        have ne_ar_646_ar_653 : ar_646 ≠ ar_653 := Nat.ne_of_lt (Nat.lt_of_lt_of_le f655.lt p653_0)
        have ne_b648_ar_653 : b648 ≠ ar_653 := Nat.ne_of_lt (Nat.lt_of_lt_of_le A648.lt p653_0)
        have f658 : Exa Z T653.heap b642 "com/example/portcall/portcall/cli/Latencies" := (Exa.keep f654 K653q)
        have f659 : Arv Z T653.heap ar_646 ka_646 .long (16384 : Int32) (own_cl ([] : List Nat)) (.long (0 : Int64)) := (Arv.keep f655 K653q (ninS ne_ar_646_b648 nin0))
        have f660 : Exa Z T653.heap b648 "com/example/portcall/portcall/cli/Latencies" := (Exa.keep A648 K653q)
        obtain ⟨T657, h657, b657, q657, X657, e657, E657, A657, D657, st657⟩ := newOb X653 hx hZ hown (own_w hw (i := 1) rfl) (own_w hw (i := 2) rfl) (own_w hw (i := 3) rfl) rfl (g := (mkF m 73 #[.val (.long p0), .second, .val (.long p1), .second, .val (.long p2), .second, iv p3, iv p4, iv 1, iv 1, iv 0, .val (.double qv), .second, rv b642, rv b648, .unset, .unset, .unset, .unset, .unset] [])) rfl (D at_73) (by decide) (by decide)
        have O661 := Old0.ext O656 E657
        have g_b657 : Z.heap.size ≤ b657 := q657 ▸ O656.1
        have ne_b642_b657 : b642 ≠ b657 := q657 ▸ Nat.ne_of_lt f658.lt
        have ne_ar_646_b657 : ar_646 ≠ b657 := q657 ▸ Nat.ne_of_lt f659.lt
        have ne_b648_b657 : b648 ≠ b657 := q657 ▸ Nat.ne_of_lt f660.lt
        have ne_ar_653_b657 : ar_653 ≠ b657 := q657 ▸ Nat.ne_of_lt p653_3.lt
        have f662 : Fld Z h657 b657 "com/example/portcall/portcall/cli/Latencies" "counts" "[J" .null := D657 (Or.inr (own_w hw (i := 12) rfl)) (ty := (.array .long)) (by decide)
        have f663 : Fld Z h657 b657 "com/example/portcall/portcall/cli/Latencies" "total" "J" (.long (0 : Int64)) := D657 (Or.inl (own_w hw (i := 31) rfl)) (ty := .long) (by decide)
        have f665 : Exa Z h657 b642 "com/example/portcall/portcall/cli/Latencies" := (Exa.ext E657 f658)
        have f666 : Arv Z h657 ar_646 ka_646 .long (16384 : Int32) (own_cl ([] : List Nat)) (.long (0 : Int64)) := (Arv.ext f659 E657)
        have f667 : Exa Z h657 b648 "com/example/portcall/portcall/cli/Latencies" := (Exa.ext E657 f660)
        have f668 : Arv Z h657 ar_653 ka_653 .long (16384 : Int32) (own_cl ([] : List Nat)) (.long (0 : Int64)) := (Arv.ext p653_3 E657)
        obtain ⟨T664, v664, L664, X664, q664, st664⟩ := callNew X657 hx hZ (y := own_m10) rfl hown (own_w hw (i := 4) rfl) (own_w hw (i := 5) rfl) (own_w hw (i := 3) rfl) (own_w hw (i := 6) rfl) (by decide) (rm_init hw G b657  h657 O661 A657 f662 f663 g_b657) e657 (W := 1) (by decide) (by decide) (by decide) (by decide) (g := (mkF m 77 #[.val (.long p0), .second, .val (.long p1), .second, .val (.long p2), .second, iv p3, iv p4, iv 1, iv 1, iv 0, .val (.double qv), .second, rv b642, rv b648, .unset, .unset, .unset, .unset, .unset] [(.ref b657), (.ref b657)])) rfl (by rw [hml]; rfl) (a := b657) (argsL := []) (rest := [(.ref b657)]) (lenOf pd47 rfl) rfl rfl (Nat.le_of_eq rfl) (D at_77)
        obtain ⟨ar_664, ka_664, rfl, N664q, K664q, p664_0, p664_1, p664_2, p664_3⟩ := q664
        have N664 := Fr.app N653 N664q
        have O669 := Old0.keep O661 K664q (allS g_b657 all0)
        have g_ar_664 : Z.heap.size ≤ ar_664 := Nat.le_trans O661.1 p664_0
        have ne_b642_ar_664 : b642 ≠ ar_664 := Nat.ne_of_lt (Nat.lt_of_lt_of_le f665.lt p664_0)
        have ne_ar_646_ar_664 : ar_646 ≠ ar_664 := Nat.ne_of_lt (Nat.lt_of_lt_of_le f666.lt p664_0)
        have ne_b648_ar_664 : b648 ≠ ar_664 := Nat.ne_of_lt (Nat.lt_of_lt_of_le f667.lt p664_0)
        have ne_ar_653_ar_664 : ar_653 ≠ ar_664 := Nat.ne_of_lt (Nat.lt_of_lt_of_le f668.lt p664_0)
        have ne_b657_ar_664 : b657 ≠ ar_664 := Nat.ne_of_lt (Nat.lt_of_lt_of_le A657.lt p664_0)
        have f672 : Exa Z T664.heap b642 "com/example/portcall/portcall/cli/Latencies" := (Exa.keep f665 K664q)
        have f673 : Fld Z T664.heap b642 "com/example/portcall/portcall/cli/Latencies" "counts" "[J" (.ref ar_646) := (Fld.keep (Fld.ext E657 (Fld.keep (Fld.ext E648 p646_1) K653q (ninS ne_b642_b648 nin0))) K664q (ninS ne_b642_b657 nin0))
        have f674 : Fld Z T664.heap b642 "com/example/portcall/portcall/cli/Latencies" "total" "J" (.long (0 : Int64)) := (Fld.keep (Fld.ext E657 (Fld.keep (Fld.ext E648 p646_2) K653q (ninS ne_b642_b648 nin0))) K664q (ninS ne_b642_b657 nin0))
        have f675 : Arv Z T664.heap ar_646 ka_646 .long (16384 : Int32) (own_cl ([] : List Nat)) (.long (0 : Int64)) := (Arv.keep f666 K664q (ninS ne_ar_646_b657 nin0))
        obtain ⟨T671, v671, L671, X671, q671, st671⟩ := callVi X664 hx hZ (y := own_m13) (z := own_m13) hown (own_w hw (i := 13) rfl) (own_w hw (i := 14) rfl) (notFace_of_selects (args := #[]) (mvT hZ (own_w hw (i := 16) rfl))) (own_w hw (i := 16) rfl) (own_w hw (i := 15) rfl) (own_w hw (i := 17) rfl) (own_w hw (i := 3) rfl) (by decide) (rm_rec hw G b642 p0 ar_646 ka_646 (([] : List Nat)) ((0 : Int64)) ((1 : Int64)) T664.heap O669 (by decide) f672 f673 f674 f675 g_b642 g_ar_646 ne_b642_ar_646) rfl (W := 0) (by decide) (by decide) (by decide) (by decide) f672 (g := (mkF m 90 #[.val (.long p0), .second, .val (.long p1), .second, .val (.long p2), .second, iv p3, iv p4, iv 1, iv 1, iv 0, .val (.double qv), .second, rv b642, rv b648, rv b657, .unset, .unset, .unset, .unset] [(.long p0), (.ref b642)])) rfl (by rw [hml]; rfl) (argsL := [(.long p0)]) (rest := []) (lenOf pd51 rfl) rfl rfl (Nat.le_of_eq rfl) (D at_90)
        obtain ⟨rfl, N671q, K671q, p671_0, p671_1, p671_2⟩ := q671
        have N671 := Fr.app N664 N671q
        have O676 := Old0.keep O669 K671q (allS g_b642 (allS g_ar_646 all0))
        have fj677 : Arv Z T671.heap ar_646 ka_646 .long (16384 : Int32) (own_cl ([own_jx p0] : List Nat)) (.long (0 : Int64)) := p671_2
        have f679 : Exa Z T671.heap b657 "com/example/portcall/portcall/cli/Latencies" := (Exa.keep (Exa.keep A657 K664q) K671q)
        have f680 : Fld Z T671.heap b657 "com/example/portcall/portcall/cli/Latencies" "counts" "[J" (.ref ar_664) := (Fld.keep p664_1 K671q (ninS (Ne.symm ne_b642_b657) (ninS (Ne.symm ne_ar_646_b657) nin0)))
        have f681 : Fld Z T671.heap b657 "com/example/portcall/portcall/cli/Latencies" "total" "J" (.long (0 : Int64)) := (Fld.keep p664_2 K671q (ninS (Ne.symm ne_b642_b657) (ninS (Ne.symm ne_ar_646_b657) nin0)))
        have f682 : Arv Z T671.heap ar_664 ka_664 .long (16384 : Int32) (own_cl ([] : List Nat)) (.long (0 : Int64)) := (Arv.keep p664_3 K671q (ninS (Ne.symm ne_b642_ar_664) (ninS (Ne.symm ne_ar_646_ar_664) nin0)))
        obtain ⟨T678, v678, L678, X678, q678, st678⟩ := callVi X671 hx hZ (y := own_m13) (z := own_m13) hown (own_w hw (i := 13) rfl) (own_w hw (i := 14) rfl) (notFace_of_selects (args := #[]) (mvT hZ (own_w hw (i := 16) rfl))) (own_w hw (i := 16) rfl) (own_w hw (i := 15) rfl) (own_w hw (i := 17) rfl) (own_w hw (i := 3) rfl) (by decide) (rm_rec hw G b657 p0 ar_664 ka_664 (([] : List Nat)) ((0 : Int64)) ((1 : Int64)) T671.heap O676 (by decide) f679 f680 f681 f682 g_b657 g_ar_664 ne_b657_ar_664) rfl (W := 0) (by decide) (by decide) (by decide) (by decide) f679 (g := (mkF m 96 #[.val (.long p0), .second, .val (.long p1), .second, .val (.long p2), .second, iv p3, iv p4, iv 1, iv 1, iv 0, .val (.double qv), .second, rv b642, rv b648, rv b657, .unset, .unset, .unset, .unset] [(.long p0), (.ref b657)])) rfl (by rw [hml]; rfl) (argsL := [(.long p0)]) (rest := []) (lenOf pd51 rfl) rfl rfl (Nat.le_of_eq rfl) (D at_96)
        obtain ⟨rfl, N678q, K678q, p678_0, p678_1, p678_2⟩ := q678
        have N678 := Fr.app N671 N678q
        have O683 := Old0.keep O676 K678q (allS g_b657 (allS g_ar_664 all0))
        have fj684 : Arv Z T678.heap ar_664 ka_664 .long (16384 : Int32) (own_cl ([own_jx p0] : List Nat)) (.long (0 : Int64)) := p678_2
        refine Go.of (T' := T678) (f' := (mkF m 106 #[.val (.long p0), .second, .val (.long p1), .second, .val (.long p2), .second, iv p3, iv p4, iv 1, iv 1, iv 0, .val (.double qv), .second, rv b642, rv b648, rv b657, .unset, .unset, .unset, .unset] [(.ref b648)])) (fun _ k => XS.dstore X0.here hx rfl (D at_53) rfl (l' := #[.val (.long p0), .second, .val (.long p1), .second, .val (.long p2), .second, iv p3, iv p4, iv 1, iv 1, iv 0, .val (.double qv), .second, .unset, .unset, .unset, .unset, .unset, .unset, .unset]) rfl (st642 _ (XS.dup X642.here hx rfl (D at_58) rfl rfl (st646 _ (XS.astore X646.here hx rfl (D at_62) rfl rfl (l' := #[.val (.long p0), .second, .val (.long p1), .second, .val (.long p2), .second, iv p3, iv p4, iv 1, iv 1, iv 0, .val (.double qv), .second, rv b642, .unset, .unset, .unset, .unset, .unset, .unset]) rfl (st648 _ (XS.dup X648.here hx rfl (D at_67) rfl rfl (st653 _ (XS.astore X653.here hx rfl (D at_71) rfl rfl (l' := #[.val (.long p0), .second, .val (.long p1), .second, .val (.long p2), .second, iv p3, iv p4, iv 1, iv 1, iv 0, .val (.double qv), .second, rv b642, rv b648, .unset, .unset, .unset, .unset, .unset]) rfl (st657 _ (XS.dup X657.here hx rfl (D at_76) rfl rfl (st664 _ (XS.astore X664.here hx rfl (D at_80) rfl rfl (l' := #[.val (.long p0), .second, .val (.long p1), .second, .val (.long p2), .second, iv p3, iv p4, iv 1, iv 1, iv 0, .val (.double qv), .second, rv b642, rv b648, rv b657, .unset, .unset, .unset, .unset]) rfl (XS.iload X664.here hx rfl (D at_82) rfl (XS.ifNo X664.here hx rfl (D at_84) rfl ((if0 _ _).trans (feq (by decide : ¬ ((1 : Int32) = (0 : Int32)))).1) (XS.aload X664.here hx rfl (D at_87) rfl rfl (XS.lloadN X664.here hx rfl (D at_89) rfl (st671 _ (XS.aload X671.here hx rfl (D at_93) rfl rfl (XS.lloadN X671.here hx rfl (D at_95) rfl (st678 _ (XS.iload X678.here hx rfl (D at_99) rfl (XS.ifNo X678.here hx rfl (D at_101) rfl ((if0 _ _).trans (feq (by decide : ¬ ((1 : Int32) = (0 : Int32)))).1) (XS.aload X678.here hx rfl (D at_104) rfl rfl k)))))))))))))))))))))))) ?_
        have f687 : Exa Z T678.heap b648 "com/example/portcall/portcall/cli/Latencies" := (Exa.keep (Exa.keep (Exa.keep f667 K664q) K671q) K678q)
        have f688 : Fld Z T678.heap b648 "com/example/portcall/portcall/cli/Latencies" "counts" "[J" (.ref ar_653) := (Fld.keep (Fld.keep (Fld.keep (Fld.ext E657 p653_1) K664q (ninS ne_b648_b657 nin0)) K671q (ninS (Ne.symm ne_b642_b648) (ninS (Ne.symm ne_ar_646_b648) nin0))) K678q (ninS ne_b648_b657 (ninS ne_b648_ar_664 nin0)))
        have f689 : Fld Z T678.heap b648 "com/example/portcall/portcall/cli/Latencies" "total" "J" (.long (0 : Int64)) := (Fld.keep (Fld.keep (Fld.keep (Fld.ext E657 p653_2) K664q (ninS ne_b648_b657 nin0)) K671q (ninS (Ne.symm ne_b642_b648) (ninS (Ne.symm ne_ar_646_b648) nin0))) K678q (ninS ne_b648_b657 (ninS ne_b648_ar_664 nin0)))
        have f690 : Arv Z T678.heap ar_653 ka_653 .long (16384 : Int32) (own_cl ([] : List Nat)) (.long (0 : Int64)) := (Arv.keep (Arv.keep (Arv.keep f668 K664q (ninS ne_ar_653_b657 nin0)) K671q (ninS (Ne.symm ne_b642_ar_653) (ninS (Ne.symm ne_ar_646_ar_653) nin0))) K678q (ninS ne_ar_653_b657 (ninS ne_ar_653_ar_664 nin0)))
        obtain ⟨T686, v686, L686, X686, q686, st686⟩ := callVi X678 hx hZ (y := own_m13) (z := own_m13) hown (own_w hw (i := 13) rfl) (own_w hw (i := 14) rfl) (notFace_of_selects (args := #[]) (mvT hZ (own_w hw (i := 16) rfl))) (own_w hw (i := 16) rfl) (own_w hw (i := 15) rfl) (own_w hw (i := 17) rfl) (own_w hw (i := 3) rfl) (by decide) (rm_rec hw G b648 p1 ar_653 ka_653 (([] : List Nat)) ((0 : Int64)) ((1 : Int64)) T678.heap O683 (by decide) f687 f688 f689 f690 g_b648 g_ar_653 ne_b648_ar_653) rfl (W := 0) (by decide) (by decide) (by decide) (by decide) f687 (g := (mkF m 107 #[.val (.long p0), .second, .val (.long p1), .second, .val (.long p2), .second, iv p3, iv p4, iv 1, iv 1, iv 0, .val (.double qv), .second, rv b642, rv b648, rv b657, .unset, .unset, .unset, .unset] [(.long p1), (.ref b648)])) rfl (by rw [hml]; rfl) (argsL := [(.long p1)]) (rest := []) (lenOf pd51 rfl) rfl rfl (Nat.le_of_eq rfl) (D at_107)
        obtain ⟨rfl, N686q, K686q, p686_0, p686_1, p686_2⟩ := q686
        have N686 := Fr.app N678 N686q
        have O691 := Old0.keep O683 K686q (allS g_b648 (allS g_ar_653 all0))
        have fj692 : Arv Z T686.heap ar_653 ka_653 .long (16384 : Int32) (own_cl ([own_jx p1] : List Nat)) (.long (0 : Int64)) := p686_2
        have f694 : Exa Z T686.heap b657 "com/example/portcall/portcall/cli/Latencies" := (Exa.keep (Exa.keep f679 K678q) K686q)
        have f695 : Fld Z T686.heap b657 "com/example/portcall/portcall/cli/Latencies" "counts" "[J" (.ref ar_664) := (Fld.keep p678_0 K686q (ninS (Ne.symm ne_b648_b657) (ninS (Ne.symm ne_ar_653_b657) nin0)))
        have f696 : Fld Z T686.heap b657 "com/example/portcall/portcall/cli/Latencies" "total" "J" (.long (1 : Int64)) := (Fld.keep p678_1 K686q (ninS (Ne.symm ne_b648_b657) (ninS (Ne.symm ne_ar_653_b657) nin0)))
        have f697 : Arv Z T686.heap ar_664 ka_664 .long (16384 : Int32) (own_cl ([own_jx p0] : List Nat)) (.long (0 : Int64)) := (Arv.keep fj684 K686q (ninS (Ne.symm ne_b648_ar_664) (ninS (Ne.symm ne_ar_653_ar_664) nin0)))
        obtain ⟨T693, v693, L693, X693, q693, st693⟩ := callVi X686 hx hZ (y := own_m13) (z := own_m13) hown (own_w hw (i := 13) rfl) (own_w hw (i := 14) rfl) (notFace_of_selects (args := #[]) (mvT hZ (own_w hw (i := 16) rfl))) (own_w hw (i := 16) rfl) (own_w hw (i := 15) rfl) (own_w hw (i := 17) rfl) (own_w hw (i := 3) rfl) (by decide) (rm_rec hw G b657 p1 ar_664 ka_664 (([own_jx p0] : List Nat)) ((1 : Int64)) ((2 : Int64)) T686.heap O691 (by decide) f694 f695 f696 f697 g_b657 g_ar_664 ne_b657_ar_664) rfl (W := 0) (by decide) (by decide) (by decide) (by decide) f694 (g := (mkF m 113 #[.val (.long p0), .second, .val (.long p1), .second, .val (.long p2), .second, iv p3, iv p4, iv 1, iv 1, iv 0, .val (.double qv), .second, rv b642, rv b648, rv b657, .unset, .unset, .unset, .unset] [(.long p1), (.ref b657)])) rfl (by rw [hml]; rfl) (argsL := [(.long p1)]) (rest := []) (lenOf pd51 rfl) rfl rfl (Nat.le_of_eq rfl) (D at_113)
        obtain ⟨rfl, N693q, K693q, p693_0, p693_1, p693_2⟩ := q693
        have N693 := Fr.app N686 N693q
        have O698 := Old0.keep O691 K693q (allS g_b657 (allS g_ar_664 all0))
        have fj699 : Arv Z T693.heap ar_664 ka_664 .long (16384 : Int32) (own_cl ([own_jx p0, own_jx p1] : List Nat)) (.long (0 : Int64)) := p693_2
        have fj701 : Arv Z T693.heap ar_664 ka_664 .long (16384 : Int32) (own_cl ([own_jx p0, own_jx p1] : List Nat)) (.long (0 : Int64)) := fj699
        have f703 : Exa Z T693.heap b642 "com/example/portcall/portcall/cli/Latencies" := (Exa.keep (Exa.keep (Exa.keep (Exa.keep f672 K671q) K678q) K686q) K693q)
        have f704 : Exa Z T693.heap b648 "com/example/portcall/portcall/cli/Latencies" := (Exa.keep (Exa.keep f687 K686q) K693q)
        have f705 : Fld Z T693.heap b642 "com/example/portcall/portcall/cli/Latencies" "counts" "[J" (.ref ar_646) := (Fld.keep (Fld.keep (Fld.keep p671_0 K678q (ninS ne_b642_b657 (ninS ne_b642_ar_664 nin0))) K686q (ninS ne_b642_b648 (ninS ne_b642_ar_653 nin0))) K693q (ninS ne_b642_b657 (ninS ne_b642_ar_664 nin0)))
        have f706 : Fld Z T693.heap b648 "com/example/portcall/portcall/cli/Latencies" "counts" "[J" (.ref ar_653) := (Fld.keep p686_0 K693q (ninS ne_b648_b657 (ninS ne_b648_ar_664 nin0)))
        have f707 : Fld Z T693.heap b642 "com/example/portcall/portcall/cli/Latencies" "total" "J" (.long (1 : Int64)) := (Fld.keep (Fld.keep (Fld.keep p671_1 K678q (ninS ne_b642_b657 (ninS ne_b642_ar_664 nin0))) K686q (ninS ne_b642_b648 (ninS ne_b642_ar_653 nin0))) K693q (ninS ne_b642_b657 (ninS ne_b642_ar_664 nin0)))
        have f708 : Fld Z T693.heap b648 "com/example/portcall/portcall/cli/Latencies" "total" "J" (.long (1 : Int64)) := (Fld.keep p686_1 K693q (ninS ne_b648_b657 (ninS ne_b648_ar_664 nin0)))
        have f709 : Arv Z T693.heap ar_646 ka_646 .long (16384 : Int32) (own_cl ([own_jx p0] : List Nat)) (.long (0 : Int64)) := (Arv.keep (Arv.keep (Arv.keep fj677 K678q (ninS ne_ar_646_b657 (ninS ne_ar_646_ar_664 nin0))) K686q (ninS ne_ar_646_b648 (ninS ne_ar_646_ar_653 nin0))) K693q (ninS ne_ar_646_b657 (ninS ne_ar_646_ar_664 nin0)))
        have f710 : Arv Z T693.heap ar_653 ka_653 .long (16384 : Int32) (own_cl ([own_jx p1] : List Nat)) (.long (0 : Int64)) := (Arv.keep fj692 K693q (ninS ne_ar_653_b657 (ninS ne_ar_653_ar_664 nin0)))
        obtain ⟨T702, v702, L702, X702, q702, st702⟩ := callVi X693 hx hZ (y := own_m15) (z := own_m15) hown (own_w hw (i := 32) rfl) (own_w hw (i := 33) rfl) (notFace_of_selects (args := #[]) (mvT hZ (own_w hw (i := 35) rfl))) (own_w hw (i := 35) rfl) (own_w hw (i := 34) rfl) (own_w hw (i := 36) rfl) (own_w hw (i := 3) rfl) (by decide) (rm_add hw G b642 b648 ar_646 ka_646 (([own_jx p0] : List Nat)) ar_653 ka_653 (([own_jx p1] : List Nat)) ((1 : Int64)) ((1 : Int64)) ((2 : Int64)) T693.heap O698 (by decide) f703 f704 f705 f706 f707 f708 f709 f710 g_b642 g_ar_646 ne_b642_ar_646 ne_b642_b648 ne_b642_ar_653 (Ne.symm ne_ar_646_b648) (Ne.symm ne_ar_646_ar_653)) rfl (W := 0) (by decide) (by decide) (by decide) (by decide) f703 (g := (mkF m 139 #[.val (.long p0), .second, .val (.long p1), .second, .val (.long p2), .second, iv p3, iv p4, iv 1, iv 1, iv 0, .val (.double qv), .second, rv b642, rv b648, rv b657, .unset, .unset, .unset, .unset] [(.ref b648), (.ref b642)])) rfl (by rw [hml]; rfl) (argsL := [(.ref b648)]) (rest := []) (lenOf pd48 rfl) rfl rfl (Nat.le_of_eq rfl) (D at_139)
        obtain ⟨rfl, N702q, K702q, p702_0, p702_1, p702_2⟩ := q702
        have N702 := Fr.app N693 N702q
        have O711 := Old0.keep O698 K702q (allS g_b642 (allS g_ar_646 all0))
        have fj712 : Arv Z T702.heap ar_646 ka_646 .long (16384 : Int32) (own_cl ([own_jx p0, own_jx p1] : List Nat)) (.long (0 : Int64)) := p702_2
        have f714 : Exa Z T702.heap b642 "com/example/portcall/portcall/cli/Latencies" := (Exa.keep f703 K702q)
        obtain ⟨T713, v713, L713, X713, q713, st713⟩ := callVi X702 hx hZ (y := own_m30) (z := own_m30) hown (own_w hw (i := 37) rfl) (own_w hw (i := 38) rfl) (notFace_of_selects (args := #[]) (mvT hZ (own_w hw (i := 40) rfl))) (own_w hw (i := 40) rfl) (own_w hw (i := 39) rfl) (own_w hw (i := 41) rfl) (own_w hw (i := 3) rfl) (by decide) (rm_pct2 hw G b642 qv ar_646 ka_646 (([own_jx p0, own_jx p1] : List Nat)) T702.heap O711 (hq) (And.intro (own_jlt p0) (And.intro (own_jlt p1) (trivial))) (rfl) p702_0 p702_1 fj712) rfl (W := 0) (by decide) (by decide) (by decide) (by decide) f714 (g := (mkF m 146 #[.val (.long p0), .second, .val (.long p1), .second, .val (.long p2), .second, iv p3, iv p4, iv 1, iv 1, iv 0, .val (.double qv), .second, rv b642, rv b648, rv b657, .unset, .unset, .unset, .unset] [(.double qv), (.ref b642)])) rfl (by rw [hml]; rfl) (argsL := [(.double qv)]) (rest := []) (lenOf pd49 rfl) rfl rfl (Nat.le_of_eq rfl) (D at_146)
        obtain ⟨iz_713, rfl, N713q, K713q, p713_0⟩ := q713
        have N713 := Fr.app N702 N713q
        have O715 := Old0.keep O711 K713q all0
        have f717 : Exa Z T713.heap b657 "com/example/portcall/portcall/cli/Latencies" := (Exa.keep (Exa.keep (Exa.keep f694 K693q) K702q) K713q)
        have f718 : Fld Z T713.heap b657 "com/example/portcall/portcall/cli/Latencies" "counts" "[J" (.ref ar_664) := (Fld.keep (Fld.keep p693_0 K702q (ninS (Ne.symm ne_b642_b657) (ninS (Ne.symm ne_ar_646_b657) nin0))) K713q nin0)
        have f719 : Fld Z T713.heap b657 "com/example/portcall/portcall/cli/Latencies" "total" "J" (.long (2 : Int64)) := (Fld.keep (Fld.keep p693_1 K702q (ninS (Ne.symm ne_b642_b657) (ninS (Ne.symm ne_ar_646_b657) nin0))) K713q nin0)
        have f720 : Arv Z T713.heap ar_664 ka_664 .long (16384 : Int32) (own_cl ([own_jx p0, own_jx p1] : List Nat)) (.long (0 : Int64)) := (Arv.keep (Arv.keep fj701 K702q (ninS (Ne.symm ne_b642_ar_664) (ninS (Ne.symm ne_ar_646_ar_664) nin0))) K713q nin0)
        obtain ⟨T716, v716, L716, X716, q716, st716⟩ := callVi X713 hx hZ (y := own_m30) (z := own_m30) hown (own_w hw (i := 37) rfl) (own_w hw (i := 38) rfl) (notFace_of_selects (args := #[]) (mvT hZ (own_w hw (i := 40) rfl))) (own_w hw (i := 40) rfl) (own_w hw (i := 39) rfl) (own_w hw (i := 41) rfl) (own_w hw (i := 3) rfl) (by decide) (rm_pct2 hw G b657 qv ar_664 ka_664 (([own_jx p0, own_jx p1] : List Nat)) T713.heap O715 (hq) (And.intro (own_jlt p0) (And.intro (own_jlt p1) (trivial))) (rfl) f718 f719 f720) rfl (W := 0) (by decide) (by decide) (by decide) (by decide) f717 (g := (mkF m 155 #[.val (.long p0), .second, .val (.long p1), .second, .val (.long p2), .second, iv p3, iv p4, iv 1, iv 1, iv 0, .val (.double qv), .second, rv b642, rv b648, rv b657, .val (.double (own_mid iz_713)), .second, .unset, .unset] [(.double qv), (.ref b657)])) rfl (by rw [hml]; rfl) (argsL := [(.double qv)]) (rest := []) (lenOf pd49 rfl) rfl rfl (Nat.le_of_eq rfl) (D at_155)
        obtain ⟨iz_716, rfl, N716q, K716q, p716_0⟩ := q716
        have N716 := Fr.app N713 N716q
        have O721 := Old0.keep O715 K716q all0
        obtain ⟨T722, v722, L722, X722, q722, st722⟩ := callSt X716 hx hZ (y := own_m45) hown (own_w hw (i := 68) rfl) (own_w hw (i := 69) rfl) (own_w hw (i := 70) rfl) (own_w hw (i := 71) rfl) (by decide) (rm_same hw G ((own_mid iz_713)) ((own_mid iz_716))  T716.heap O721 (congrArg own_mid (own_at1 p716_0 p713_0))) rfl (W := 0) (by decide) (by decide) (by decide) (by decide) (g := (mkF m 164 #[.val (.long p0), .second, .val (.long p1), .second, .val (.long p2), .second, iv p3, iv p4, iv 1, iv 1, iv 0, .val (.double qv), .second, rv b642, rv b648, rv b657, .val (.double (own_mid iz_713)), .second, .val (.double (own_mid iz_716)), .second] [(.double (own_mid iz_716)), (.double (own_mid iz_713))])) rfl (by rw [hml]; rfl) (argsL := [(.double (own_mid iz_713)), (.double (own_mid iz_716))]) (rest := []) (lenOf pd50 rfl) rfl rfl (Nat.le_of_eq rfl) (D at_164)
        obtain ⟨rfl, e722, rfl⟩ := q722
        have N722 := Fr.app N716 (Fr.nil _)
        refine Go.of (T' := T722) (f' := (mkF m 167 #[.val (.long p0), .second, .val (.long p1), .second, .val (.long p2), .second, iv p3, iv p4, iv 1, iv 1, iv 0, .val (.double qv), .second, rv b642, rv b648, rv b657, .val (.double (own_mid iz_713)), .second, .val (.double (own_mid iz_716)), .second] [(.int 1)])) (fun _ k => XS.lloadN X678.here hx rfl (D at_106) rfl (st686 _ (XS.aload X686.here hx rfl (D at_110) rfl rfl (XS.lloadN X686.here hx rfl (D at_112) rfl (st693 _ (XS.iload X693.here hx rfl (D at_116) rfl (XS.ifYes X693.here hx rfl (pc0 := 118) (pc' := 135) rfl (D at_118) rfl ((if0 _ _).trans (teq (by decide : (0 : Int32) = (0 : Int32))).1) (by decide) (by decide) (XS.aload X693.here hx rfl (D at_135) rfl rfl (XS.aload X693.here hx rfl (D at_137) rfl rfl (st702 _ (XS.aload X702.here hx rfl (D at_142) rfl rfl (XS.dload X702.here hx rfl (D at_144) rfl (st713 _ (XS.dstore X713.here hx rfl (D at_149) rfl (l' := #[.val (.long p0), .second, .val (.long p1), .second, .val (.long p2), .second, iv p3, iv p4, iv 1, iv 1, iv 0, .val (.double qv), .second, rv b642, rv b648, rv b657, .val (.double (own_mid iz_713)), .second, .unset, .unset]) rfl (XS.aload X713.here hx rfl (D at_151) rfl rfl (XS.dload X713.here hx rfl (D at_153) rfl (st716 _ (XS.dstore X716.here hx rfl (D at_158) rfl (l' := #[.val (.long p0), .second, .val (.long p1), .second, .val (.long p2), .second, iv p3, iv p4, iv 1, iv 1, iv 0, .val (.double qv), .second, rv b642, rv b648, rv b657, .val (.double (own_mid iz_713)), .second, .val (.double (own_mid iz_716)), .second]) rfl (XS.dload X716.here hx rfl (D at_160) rfl (XS.dload X716.here hx rfl (D at_162) rfl (st722 _ k))))))))))))))))))))) ?_
        exact Go.retB X722 hx hlk hret (by simp) (D at_167) (by decide) (by decide) (z' := (1 : Int32)) rfl ⟨rfl, N722⟩
      · skip
        refine Go.of (T' := T0) (f' := (mkF m 53 #[.val (.long p0), .second, .val (.long p1), .second, .val (.long p2), .second, iv p3, iv p4, iv 1, iv 1, iv 1, .unset, .unset, .unset, .unset, .unset, .unset, .unset, .unset, .unset] [(.double (FP.ddiv (FP.i2d ((p4 &&& (3 : Int32)) + (1 : Int32))) (4616189618054758400 : UInt64)))])) (fun _ k => XS.ifNo X0.here hx rfl (D at_32) rfl ((if0 _ _).trans (feq hc641).1) (XS.iconst X0.here hx rfl (D at_35) (XS.goto X0.here hx rfl (pc0 := 36) (pc' := 40) rfl (D at_36) (by decide) (by decide) (XS.istore X0.here hx rfl (D at_40) rfl (l' := #[.val (.long p0), .second, .val (.long p1), .second, .val (.long p2), .second, iv p3, iv p4, iv 1, iv 1, iv 1, .unset, .unset, .unset, .unset, .unset, .unset, .unset, .unset, .unset]) rfl (XS.iload X0.here hx rfl (D at_42) rfl (XS.iconst X0.here hx rfl (D at_44) (XS.iand X0.here hx rfl (D at_45) rfl (XS.iconst X0.here hx rfl (D at_46) (XS.iadd X0.here hx rfl (D at_47) rfl (XS.i2dS X0.here hx rfl (D at_48) rfl rfl (X0.ldc2DoubleC hx hown (mvT hZ (own_w hw (i := 0) rfl)) (g := (mkF m 49 #[.val (.long p0), .second, .val (.long p1), .second, .val (.long p2), .second, iv p3, iv p4, iv 1, iv 1, iv 1, .unset, .unset, .unset, .unset, .unset, .unset, .unset, .unset, .unset] [(.double (FP.i2d ((p4 &&& (3 : Int32)) + (1 : Int32))))])) rfl (D at_49) _ (XS.ddivS X0.here hx rfl (D at_52) rfl (own_nn4 _) rfl k)))))))))))) ?_
        generalize hqv : ((FP.ddiv (FP.i2d ((p4 &&& (3 : Int32)) + (1 : Int32))) (4616189618054758400 : UInt64)) : UInt64) = qv
        have hq := hqv ▸ own_q4 p4
        obtain ⟨T723, h723, b723, q723, X723, e723, E723, A723, D723, st723⟩ := newOb X0 hx hZ hown (own_w hw (i := 1) rfl) (own_w hw (i := 2) rfl) (own_w hw (i := 3) rfl) e0 (g := (mkF m 55 #[.val (.long p0), .second, .val (.long p1), .second, .val (.long p2), .second, iv p3, iv p4, iv 1, iv 1, iv 1, .val (.double qv), .second, .unset, .unset, .unset, .unset, .unset, .unset, .unset] [])) rfl (D at_55) (by decide) (by decide)
        have O724 := Old0.ext O0 E723
        have g_b723 : Z.heap.size ≤ b723 := q723 ▸ O0.1
        have f725 : Fld Z h723 b723 "com/example/portcall/portcall/cli/Latencies" "counts" "[J" .null := D723 (Or.inr (own_w hw (i := 12) rfl)) (ty := (.array .long)) (by decide)
        have f726 : Fld Z h723 b723 "com/example/portcall/portcall/cli/Latencies" "total" "J" (.long (0 : Int64)) := D723 (Or.inl (own_w hw (i := 31) rfl)) (ty := .long) (by decide)
        obtain ⟨T727, v727, L727, X727, q727, st727⟩ := callNew X723 hx hZ (y := own_m10) rfl hown (own_w hw (i := 4) rfl) (own_w hw (i := 5) rfl) (own_w hw (i := 3) rfl) (own_w hw (i := 6) rfl) (by decide) (rm_init hw G b723  h723 O724 A723 f725 f726 g_b723) e723 (W := 1) (by decide) (by decide) (by decide) (by decide) (g := (mkF m 59 #[.val (.long p0), .second, .val (.long p1), .second, .val (.long p2), .second, iv p3, iv p4, iv 1, iv 1, iv 1, .val (.double qv), .second, .unset, .unset, .unset, .unset, .unset, .unset, .unset] [(.ref b723), (.ref b723)])) rfl (by rw [hml]; rfl) (a := b723) (argsL := []) (rest := [(.ref b723)]) (lenOf pd47 rfl) rfl rfl (Nat.le_of_eq rfl) (D at_59)
        obtain ⟨ar_727, ka_727, rfl, N727q, K727q, p727_0, p727_1, p727_2, p727_3⟩ := q727
        have N727 := Fr.app N0 N727q
        have O728 := Old0.keep O724 K727q (allS g_b723 all0)
        have g_ar_727 : Z.heap.size ≤ ar_727 := Nat.le_trans O724.1 p727_0
        have ne_b723_ar_727 : b723 ≠ ar_727 := Nat.ne_of_lt (Nat.lt_of_lt_of_le A723.lt p727_0)
        have f730 : Exa Z T727.heap b723 "com/example/portcall/portcall/cli/Latencies" := (Exa.keep A723 K727q)
        obtain ⟨T729, h729, b729, q729, X729, e729, E729, A729, D729, st729⟩ := newOb X727 hx hZ hown (own_w hw (i := 1) rfl) (own_w hw (i := 2) rfl) (own_w hw (i := 3) rfl) rfl (g := (mkF m 64 #[.val (.long p0), .second, .val (.long p1), .second, .val (.long p2), .second, iv p3, iv p4, iv 1, iv 1, iv 1, .val (.double qv), .second, rv b723, .unset, .unset, .unset, .unset, .unset, .unset] [])) rfl (D at_64) (by decide) (by decide)
        have O731 := Old0.ext O728 E729
        have g_b729 : Z.heap.size ≤ b729 := q729 ▸ O728.1
        have ne_b723_b729 : b723 ≠ b729 := q729 ▸ Nat.ne_of_lt f730.lt
        have ne_ar_727_b729 : ar_727 ≠ b729 := q729 ▸ Nat.ne_of_lt p727_3.lt
        have f732 : Fld Z h729 b729 "com/example/portcall/portcall/cli/Latencies" "counts" "[J" .null := D729 (Or.inr (own_w hw (i := 12) rfl)) (ty := (.array .long)) (by decide)
        have f733 : Fld Z h729 b729 "com/example/portcall/portcall/cli/Latencies" "total" "J" (.long (0 : Int64)) := D729 (Or.inl (own_w hw (i := 31) rfl)) (ty := .long) (by decide)
        have f735 : Exa Z h729 b723 "com/example/portcall/portcall/cli/Latencies" := (Exa.ext E729 f730)
        have f736 : Arv Z h729 ar_727 ka_727 .long (16384 : Int32) (own_cl ([] : List Nat)) (.long (0 : Int64)) := (Arv.ext p727_3 E729)
        obtain ⟨T734, v734, L734, X734, q734, st734⟩ := callNew X729 hx hZ (y := own_m10) rfl hown (own_w hw (i := 4) rfl) (own_w hw (i := 5) rfl) (own_w hw (i := 3) rfl) (own_w hw (i := 6) rfl) (by decide) (rm_init hw G b729  h729 O731 A729 f732 f733 g_b729) e729 (W := 1) (by decide) (by decide) (by decide) (by decide) (g := (mkF m 68 #[.val (.long p0), .second, .val (.long p1), .second, .val (.long p2), .second, iv p3, iv p4, iv 1, iv 1, iv 1, .val (.double qv), .second, rv b723, .unset, .unset, .unset, .unset, .unset, .unset] [(.ref b729), (.ref b729)])) rfl (by rw [hml]; rfl) (a := b729) (argsL := []) (rest := [(.ref b729)]) (lenOf pd47 rfl) rfl rfl (Nat.le_of_eq rfl) (D at_68)
        obtain ⟨ar_734, ka_734, rfl, N734q, K734q, p734_0, p734_1, p734_2, p734_3⟩ := q734
        have N734 := Fr.app N727 N734q
        have O737 := Old0.keep O731 K734q (allS g_b729 all0)
        have g_ar_734 : Z.heap.size ≤ ar_734 := Nat.le_trans O731.1 p734_0
        have ne_b723_ar_734 : b723 ≠ ar_734 := Nat.ne_of_lt (Nat.lt_of_lt_of_le f735.lt p734_0)
        have ne_ar_727_ar_734 : ar_727 ≠ ar_734 := Nat.ne_of_lt (Nat.lt_of_lt_of_le f736.lt p734_0)
        have ne_b729_ar_734 : b729 ≠ ar_734 := Nat.ne_of_lt (Nat.lt_of_lt_of_le A729.lt p734_0)
        have f739 : Exa Z T734.heap b723 "com/example/portcall/portcall/cli/Latencies" := (Exa.keep f735 K734q)
        have f740 : Arv Z T734.heap ar_727 ka_727 .long (16384 : Int32) (own_cl ([] : List Nat)) (.long (0 : Int64)) := (Arv.keep f736 K734q (ninS ne_ar_727_b729 nin0))
        have f741 : Exa Z T734.heap b729 "com/example/portcall/portcall/cli/Latencies" := (Exa.keep A729 K734q)
        obtain ⟨T738, h738, b738, q738, X738, e738, E738, A738, D738, st738⟩ := newOb X734 hx hZ hown (own_w hw (i := 1) rfl) (own_w hw (i := 2) rfl) (own_w hw (i := 3) rfl) rfl (g := (mkF m 73 #[.val (.long p0), .second, .val (.long p1), .second, .val (.long p2), .second, iv p3, iv p4, iv 1, iv 1, iv 1, .val (.double qv), .second, rv b723, rv b729, .unset, .unset, .unset, .unset, .unset] [])) rfl (D at_73) (by decide) (by decide)
        have O742 := Old0.ext O737 E738
        have g_b738 : Z.heap.size ≤ b738 := q738 ▸ O737.1
        have ne_b723_b738 : b723 ≠ b738 := q738 ▸ Nat.ne_of_lt f739.lt
        have ne_ar_727_b738 : ar_727 ≠ b738 := q738 ▸ Nat.ne_of_lt f740.lt
        have ne_b729_b738 : b729 ≠ b738 := q738 ▸ Nat.ne_of_lt f741.lt
        have ne_ar_734_b738 : ar_734 ≠ b738 := q738 ▸ Nat.ne_of_lt p734_3.lt
        have f743 : Fld Z h738 b738 "com/example/portcall/portcall/cli/Latencies" "counts" "[J" .null := D738 (Or.inr (own_w hw (i := 12) rfl)) (ty := (.array .long)) (by decide)
        have f744 : Fld Z h738 b738 "com/example/portcall/portcall/cli/Latencies" "total" "J" (.long (0 : Int64)) := D738 (Or.inl (own_w hw (i := 31) rfl)) (ty := .long) (by decide)
        have f746 : Exa Z h738 b723 "com/example/portcall/portcall/cli/Latencies" := (Exa.ext E738 f739)
        have f747 : Arv Z h738 ar_727 ka_727 .long (16384 : Int32) (own_cl ([] : List Nat)) (.long (0 : Int64)) := (Arv.ext f740 E738)
        have f748 : Exa Z h738 b729 "com/example/portcall/portcall/cli/Latencies" := (Exa.ext E738 f741)
        have f749 : Arv Z h738 ar_734 ka_734 .long (16384 : Int32) (own_cl ([] : List Nat)) (.long (0 : Int64)) := (Arv.ext p734_3 E738)
        obtain ⟨T745, v745, L745, X745, q745, st745⟩ := callNew X738 hx hZ (y := own_m10) rfl hown (own_w hw (i := 4) rfl) (own_w hw (i := 5) rfl) (own_w hw (i := 3) rfl) (own_w hw (i := 6) rfl) (by decide) (rm_init hw G b738  h738 O742 A738 f743 f744 g_b738) e738 (W := 1) (by decide) (by decide) (by decide) (by decide) (g := (mkF m 77 #[.val (.long p0), .second, .val (.long p1), .second, .val (.long p2), .second, iv p3, iv p4, iv 1, iv 1, iv 1, .val (.double qv), .second, rv b723, rv b729, .unset, .unset, .unset, .unset, .unset] [(.ref b738), (.ref b738)])) rfl (by rw [hml]; rfl) (a := b738) (argsL := []) (rest := [(.ref b738)]) (lenOf pd47 rfl) rfl rfl (Nat.le_of_eq rfl) (D at_77)
        obtain ⟨ar_745, ka_745, rfl, N745q, K745q, p745_0, p745_1, p745_2, p745_3⟩ := q745
        have N745 := Fr.app N734 N745q
        have O750 := Old0.keep O742 K745q (allS g_b738 all0)
        have g_ar_745 : Z.heap.size ≤ ar_745 := Nat.le_trans O742.1 p745_0
        have ne_b723_ar_745 : b723 ≠ ar_745 := Nat.ne_of_lt (Nat.lt_of_lt_of_le f746.lt p745_0)
        have ne_ar_727_ar_745 : ar_727 ≠ ar_745 := Nat.ne_of_lt (Nat.lt_of_lt_of_le f747.lt p745_0)
        have ne_b729_ar_745 : b729 ≠ ar_745 := Nat.ne_of_lt (Nat.lt_of_lt_of_le f748.lt p745_0)
        have ne_ar_734_ar_745 : ar_734 ≠ ar_745 := Nat.ne_of_lt (Nat.lt_of_lt_of_le f749.lt p745_0)
        have ne_b738_ar_745 : b738 ≠ ar_745 := Nat.ne_of_lt (Nat.lt_of_lt_of_le A738.lt p745_0)
        have f753 : Exa Z T745.heap b723 "com/example/portcall/portcall/cli/Latencies" := (Exa.keep f746 K745q)
        have f754 : Fld Z T745.heap b723 "com/example/portcall/portcall/cli/Latencies" "counts" "[J" (.ref ar_727) := (Fld.keep (Fld.ext E738 (Fld.keep (Fld.ext E729 p727_1) K734q (ninS ne_b723_b729 nin0))) K745q (ninS ne_b723_b738 nin0))
        have f755 : Fld Z T745.heap b723 "com/example/portcall/portcall/cli/Latencies" "total" "J" (.long (0 : Int64)) := (Fld.keep (Fld.ext E738 (Fld.keep (Fld.ext E729 p727_2) K734q (ninS ne_b723_b729 nin0))) K745q (ninS ne_b723_b738 nin0))
        have f756 : Arv Z T745.heap ar_727 ka_727 .long (16384 : Int32) (own_cl ([] : List Nat)) (.long (0 : Int64)) := (Arv.keep f747 K745q (ninS ne_ar_727_b738 nin0))
        obtain ⟨T752, v752, L752, X752, q752, st752⟩ := callVi X745 hx hZ (y := own_m13) (z := own_m13) hown (own_w hw (i := 13) rfl) (own_w hw (i := 14) rfl) (notFace_of_selects (args := #[]) (mvT hZ (own_w hw (i := 16) rfl))) (own_w hw (i := 16) rfl) (own_w hw (i := 15) rfl) (own_w hw (i := 17) rfl) (own_w hw (i := 3) rfl) (by decide) (rm_rec hw G b723 p0 ar_727 ka_727 (([] : List Nat)) ((0 : Int64)) ((1 : Int64)) T745.heap O750 (by decide) f753 f754 f755 f756 g_b723 g_ar_727 ne_b723_ar_727) rfl (W := 0) (by decide) (by decide) (by decide) (by decide) f753 (g := (mkF m 90 #[.val (.long p0), .second, .val (.long p1), .second, .val (.long p2), .second, iv p3, iv p4, iv 1, iv 1, iv 1, .val (.double qv), .second, rv b723, rv b729, rv b738, .unset, .unset, .unset, .unset] [(.long p0), (.ref b723)])) rfl (by rw [hml]; rfl) (argsL := [(.long p0)]) (rest := []) (lenOf pd51 rfl) rfl rfl (Nat.le_of_eq rfl) (D at_90)
        obtain ⟨rfl, N752q, K752q, p752_0, p752_1, p752_2⟩ := q752
        have N752 := Fr.app N745 N752q
        have O757 := Old0.keep O750 K752q (allS g_b723 (allS g_ar_727 all0))
        have fj758 : Arv Z T752.heap ar_727 ka_727 .long (16384 : Int32) (own_cl ([own_jx p0] : List Nat)) (.long (0 : Int64)) := p752_2
        have f760 : Exa Z T752.heap b738 "com/example/portcall/portcall/cli/Latencies" := (Exa.keep (Exa.keep A738 K745q) K752q)
        have f761 : Fld Z T752.heap b738 "com/example/portcall/portcall/cli/Latencies" "counts" "[J" (.ref ar_745) := (Fld.keep p745_1 K752q (ninS (Ne.symm ne_b723_b738) (ninS (Ne.symm ne_ar_727_b738) nin0)))
        have f762 : Fld Z T752.heap b738 "com/example/portcall/portcall/cli/Latencies" "total" "J" (.long (0 : Int64)) := (Fld.keep p745_2 K752q (ninS (Ne.symm ne_b723_b738) (ninS (Ne.symm ne_ar_727_b738) nin0)))
        have f763 : Arv Z T752.heap ar_745 ka_745 .long (16384 : Int32) (own_cl ([] : List Nat)) (.long (0 : Int64)) := (Arv.keep p745_3 K752q (ninS (Ne.symm ne_b723_ar_745) (ninS (Ne.symm ne_ar_727_ar_745) nin0)))
        obtain ⟨T759, v759, L759, X759, q759, st759⟩ := callVi X752 hx hZ (y := own_m13) (z := own_m13) hown (own_w hw (i := 13) rfl) (own_w hw (i := 14) rfl) (notFace_of_selects (args := #[]) (mvT hZ (own_w hw (i := 16) rfl))) (own_w hw (i := 16) rfl) (own_w hw (i := 15) rfl) (own_w hw (i := 17) rfl) (own_w hw (i := 3) rfl) (by decide) (rm_rec hw G b738 p0 ar_745 ka_745 (([] : List Nat)) ((0 : Int64)) ((1 : Int64)) T752.heap O757 (by decide) f760 f761 f762 f763 g_b738 g_ar_745 ne_b738_ar_745) rfl (W := 0) (by decide) (by decide) (by decide) (by decide) f760 (g := (mkF m 96 #[.val (.long p0), .second, .val (.long p1), .second, .val (.long p2), .second, iv p3, iv p4, iv 1, iv 1, iv 1, .val (.double qv), .second, rv b723, rv b729, rv b738, .unset, .unset, .unset, .unset] [(.long p0), (.ref b738)])) rfl (by rw [hml]; rfl) (argsL := [(.long p0)]) (rest := []) (lenOf pd51 rfl) rfl rfl (Nat.le_of_eq rfl) (D at_96)
        obtain ⟨rfl, N759q, K759q, p759_0, p759_1, p759_2⟩ := q759
        have N759 := Fr.app N752 N759q
        have O764 := Old0.keep O757 K759q (allS g_b738 (allS g_ar_745 all0))
        have fj765 : Arv Z T759.heap ar_745 ka_745 .long (16384 : Int32) (own_cl ([own_jx p0] : List Nat)) (.long (0 : Int64)) := p759_2
        refine Go.of (T' := T759) (f' := (mkF m 106 #[.val (.long p0), .second, .val (.long p1), .second, .val (.long p2), .second, iv p3, iv p4, iv 1, iv 1, iv 1, .val (.double qv), .second, rv b723, rv b729, rv b738, .unset, .unset, .unset, .unset] [(.ref b729)])) (fun _ k => XS.dstore X0.here hx rfl (D at_53) rfl (l' := #[.val (.long p0), .second, .val (.long p1), .second, .val (.long p2), .second, iv p3, iv p4, iv 1, iv 1, iv 1, .val (.double qv), .second, .unset, .unset, .unset, .unset, .unset, .unset, .unset]) rfl (st723 _ (XS.dup X723.here hx rfl (D at_58) rfl rfl (st727 _ (XS.astore X727.here hx rfl (D at_62) rfl rfl (l' := #[.val (.long p0), .second, .val (.long p1), .second, .val (.long p2), .second, iv p3, iv p4, iv 1, iv 1, iv 1, .val (.double qv), .second, rv b723, .unset, .unset, .unset, .unset, .unset, .unset]) rfl (st729 _ (XS.dup X729.here hx rfl (D at_67) rfl rfl (st734 _ (XS.astore X734.here hx rfl (D at_71) rfl rfl (l' := #[.val (.long p0), .second, .val (.long p1), .second, .val (.long p2), .second, iv p3, iv p4, iv 1, iv 1, iv 1, .val (.double qv), .second, rv b723, rv b729, .unset, .unset, .unset, .unset, .unset]) rfl (st738 _ (XS.dup X738.here hx rfl (D at_76) rfl rfl (st745 _ (XS.astore X745.here hx rfl (D at_80) rfl rfl (l' := #[.val (.long p0), .second, .val (.long p1), .second, .val (.long p2), .second, iv p3, iv p4, iv 1, iv 1, iv 1, .val (.double qv), .second, rv b723, rv b729, rv b738, .unset, .unset, .unset, .unset]) rfl (XS.iload X745.here hx rfl (D at_82) rfl (XS.ifNo X745.here hx rfl (D at_84) rfl ((if0 _ _).trans (feq (by decide : ¬ ((1 : Int32) = (0 : Int32)))).1) (XS.aload X745.here hx rfl (D at_87) rfl rfl (XS.lloadN X745.here hx rfl (D at_89) rfl (st752 _ (XS.aload X752.here hx rfl (D at_93) rfl rfl (XS.lloadN X752.here hx rfl (D at_95) rfl (st759 _ (XS.iload X759.here hx rfl (D at_99) rfl (XS.ifNo X759.here hx rfl (D at_101) rfl ((if0 _ _).trans (feq (by decide : ¬ ((1 : Int32) = (0 : Int32)))).1) (XS.aload X759.here hx rfl (D at_104) rfl rfl k)))))))))))))))))))))))) ?_
        have f768 : Exa Z T759.heap b729 "com/example/portcall/portcall/cli/Latencies" := (Exa.keep (Exa.keep (Exa.keep f748 K745q) K752q) K759q)
        have f769 : Fld Z T759.heap b729 "com/example/portcall/portcall/cli/Latencies" "counts" "[J" (.ref ar_734) := (Fld.keep (Fld.keep (Fld.keep (Fld.ext E738 p734_1) K745q (ninS ne_b729_b738 nin0)) K752q (ninS (Ne.symm ne_b723_b729) (ninS (Ne.symm ne_ar_727_b729) nin0))) K759q (ninS ne_b729_b738 (ninS ne_b729_ar_745 nin0)))
        have f770 : Fld Z T759.heap b729 "com/example/portcall/portcall/cli/Latencies" "total" "J" (.long (0 : Int64)) := (Fld.keep (Fld.keep (Fld.keep (Fld.ext E738 p734_2) K745q (ninS ne_b729_b738 nin0)) K752q (ninS (Ne.symm ne_b723_b729) (ninS (Ne.symm ne_ar_727_b729) nin0))) K759q (ninS ne_b729_b738 (ninS ne_b729_ar_745 nin0)))
        have f771 : Arv Z T759.heap ar_734 ka_734 .long (16384 : Int32) (own_cl ([] : List Nat)) (.long (0 : Int64)) := (Arv.keep (Arv.keep (Arv.keep f749 K745q (ninS ne_ar_734_b738 nin0)) K752q (ninS (Ne.symm ne_b723_ar_734) (ninS (Ne.symm ne_ar_727_ar_734) nin0))) K759q (ninS ne_ar_734_b738 (ninS ne_ar_734_ar_745 nin0)))
        obtain ⟨T767, v767, L767, X767, q767, st767⟩ := callVi X759 hx hZ (y := own_m13) (z := own_m13) hown (own_w hw (i := 13) rfl) (own_w hw (i := 14) rfl) (notFace_of_selects (args := #[]) (mvT hZ (own_w hw (i := 16) rfl))) (own_w hw (i := 16) rfl) (own_w hw (i := 15) rfl) (own_w hw (i := 17) rfl) (own_w hw (i := 3) rfl) (by decide) (rm_rec hw G b729 p1 ar_734 ka_734 (([] : List Nat)) ((0 : Int64)) ((1 : Int64)) T759.heap O764 (by decide) f768 f769 f770 f771 g_b729 g_ar_734 ne_b729_ar_734) rfl (W := 0) (by decide) (by decide) (by decide) (by decide) f768 (g := (mkF m 107 #[.val (.long p0), .second, .val (.long p1), .second, .val (.long p2), .second, iv p3, iv p4, iv 1, iv 1, iv 1, .val (.double qv), .second, rv b723, rv b729, rv b738, .unset, .unset, .unset, .unset] [(.long p1), (.ref b729)])) rfl (by rw [hml]; rfl) (argsL := [(.long p1)]) (rest := []) (lenOf pd51 rfl) rfl rfl (Nat.le_of_eq rfl) (D at_107)
        obtain ⟨rfl, N767q, K767q, p767_0, p767_1, p767_2⟩ := q767
        have N767 := Fr.app N759 N767q
        have O772 := Old0.keep O764 K767q (allS g_b729 (allS g_ar_734 all0))
        have fj773 : Arv Z T767.heap ar_734 ka_734 .long (16384 : Int32) (own_cl ([own_jx p1] : List Nat)) (.long (0 : Int64)) := p767_2
        have f775 : Exa Z T767.heap b738 "com/example/portcall/portcall/cli/Latencies" := (Exa.keep (Exa.keep f760 K759q) K767q)
        have f776 : Fld Z T767.heap b738 "com/example/portcall/portcall/cli/Latencies" "counts" "[J" (.ref ar_745) := (Fld.keep p759_0 K767q (ninS (Ne.symm ne_b729_b738) (ninS (Ne.symm ne_ar_734_b738) nin0)))
        have f777 : Fld Z T767.heap b738 "com/example/portcall/portcall/cli/Latencies" "total" "J" (.long (1 : Int64)) := (Fld.keep p759_1 K767q (ninS (Ne.symm ne_b729_b738) (ninS (Ne.symm ne_ar_734_b738) nin0)))
        have f778 : Arv Z T767.heap ar_745 ka_745 .long (16384 : Int32) (own_cl ([own_jx p0] : List Nat)) (.long (0 : Int64)) := (Arv.keep fj765 K767q (ninS (Ne.symm ne_b729_ar_745) (ninS (Ne.symm ne_ar_734_ar_745) nin0)))
        obtain ⟨T774, v774, L774, X774, q774, st774⟩ := callVi X767 hx hZ (y := own_m13) (z := own_m13) hown (own_w hw (i := 13) rfl) (own_w hw (i := 14) rfl) (notFace_of_selects (args := #[]) (mvT hZ (own_w hw (i := 16) rfl))) (own_w hw (i := 16) rfl) (own_w hw (i := 15) rfl) (own_w hw (i := 17) rfl) (own_w hw (i := 3) rfl) (by decide) (rm_rec hw G b738 p1 ar_745 ka_745 (([own_jx p0] : List Nat)) ((1 : Int64)) ((2 : Int64)) T767.heap O772 (by decide) f775 f776 f777 f778 g_b738 g_ar_745 ne_b738_ar_745) rfl (W := 0) (by decide) (by decide) (by decide) (by decide) f775 (g := (mkF m 113 #[.val (.long p0), .second, .val (.long p1), .second, .val (.long p2), .second, iv p3, iv p4, iv 1, iv 1, iv 1, .val (.double qv), .second, rv b723, rv b729, rv b738, .unset, .unset, .unset, .unset] [(.long p1), (.ref b738)])) rfl (by rw [hml]; rfl) (argsL := [(.long p1)]) (rest := []) (lenOf pd51 rfl) rfl rfl (Nat.le_of_eq rfl) (D at_113)
        obtain ⟨rfl, N774q, K774q, p774_0, p774_1, p774_2⟩ := q774
        have N774 := Fr.app N767 N774q
        have O779 := Old0.keep O772 K774q (allS g_b738 (allS g_ar_745 all0))
        have fj780 : Arv Z T774.heap ar_745 ka_745 .long (16384 : Int32) (own_cl ([own_jx p0, own_jx p1] : List Nat)) (.long (0 : Int64)) := p774_2
        have f783 : Exa Z T774.heap b729 "com/example/portcall/portcall/cli/Latencies" := (Exa.keep (Exa.keep f768 K767q) K774q)
        have f784 : Fld Z T774.heap b729 "com/example/portcall/portcall/cli/Latencies" "counts" "[J" (.ref ar_734) := (Fld.keep p767_0 K774q (ninS ne_b729_b738 (ninS ne_b729_ar_745 nin0)))
        have f785 : Fld Z T774.heap b729 "com/example/portcall/portcall/cli/Latencies" "total" "J" (.long (1 : Int64)) := (Fld.keep p767_1 K774q (ninS ne_b729_b738 (ninS ne_b729_ar_745 nin0)))
        have f786 : Arv Z T774.heap ar_734 ka_734 .long (16384 : Int32) (own_cl ([own_jx p1] : List Nat)) (.long (0 : Int64)) := (Arv.keep fj773 K774q (ninS ne_ar_734_b738 (ninS ne_ar_734_ar_745 nin0)))
        obtain ⟨T782, v782, L782, X782, q782, st782⟩ := callVi X774 hx hZ (y := own_m13) (z := own_m13) hown (own_w hw (i := 13) rfl) (own_w hw (i := 14) rfl) (notFace_of_selects (args := #[]) (mvT hZ (own_w hw (i := 16) rfl))) (own_w hw (i := 16) rfl) (own_w hw (i := 15) rfl) (own_w hw (i := 17) rfl) (own_w hw (i := 3) rfl) (by decide) (rm_rec hw G b729 p2 ar_734 ka_734 (([own_jx p1] : List Nat)) ((1 : Int64)) ((2 : Int64)) T774.heap O779 (by decide) f783 f784 f785 f786 g_b729 g_ar_734 ne_b729_ar_734) rfl (W := 0) (by decide) (by decide) (by decide) (by decide) f783 (g := (mkF m 125 #[.val (.long p0), .second, .val (.long p1), .second, .val (.long p2), .second, iv p3, iv p4, iv 1, iv 1, iv 1, .val (.double qv), .second, rv b723, rv b729, rv b738, .unset, .unset, .unset, .unset] [(.long p2), (.ref b729)])) rfl (by rw [hml]; rfl) (argsL := [(.long p2)]) (rest := []) (lenOf pd51 rfl) rfl rfl (Nat.le_of_eq rfl) (D at_125)
        obtain ⟨rfl, N782q, K782q, p782_0, p782_1, p782_2⟩ := q782
        have N782 := Fr.app N774 N782q
        have O787 := Old0.keep O779 K782q (allS g_b729 (allS g_ar_734 all0))
        have fj788 : Arv Z T782.heap ar_734 ka_734 .long (16384 : Int32) (own_cl ([own_jx p1, own_jx p2] : List Nat)) (.long (0 : Int64)) := p782_2
        have f790 : Exa Z T782.heap b738 "com/example/portcall/portcall/cli/Latencies" := (Exa.keep (Exa.keep f775 K774q) K782q)
        have f791 : Fld Z T782.heap b738 "com/example/portcall/portcall/cli/Latencies" "counts" "[J" (.ref ar_745) := (Fld.keep p774_0 K782q (ninS (Ne.symm ne_b729_b738) (ninS (Ne.symm ne_ar_734_b738) nin0)))
        have f792 : Fld Z T782.heap b738 "com/example/portcall/portcall/cli/Latencies" "total" "J" (.long (2 : Int64)) := (Fld.keep p774_1 K782q (ninS (Ne.symm ne_b729_b738) (ninS (Ne.symm ne_ar_734_b738) nin0)))
        have f793 : Arv Z T782.heap ar_745 ka_745 .long (16384 : Int32) (own_cl ([own_jx p0, own_jx p1] : List Nat)) (.long (0 : Int64)) := (Arv.keep fj780 K782q (ninS (Ne.symm ne_b729_ar_745) (ninS (Ne.symm ne_ar_734_ar_745) nin0)))
        obtain ⟨T789, v789, L789, X789, q789, st789⟩ := callVi X782 hx hZ (y := own_m13) (z := own_m13) hown (own_w hw (i := 13) rfl) (own_w hw (i := 14) rfl) (notFace_of_selects (args := #[]) (mvT hZ (own_w hw (i := 16) rfl))) (own_w hw (i := 16) rfl) (own_w hw (i := 15) rfl) (own_w hw (i := 17) rfl) (own_w hw (i := 3) rfl) (by decide) (rm_rec hw G b738 p2 ar_745 ka_745 (([own_jx p0, own_jx p1] : List Nat)) ((2 : Int64)) ((3 : Int64)) T782.heap O787 (by decide) f790 f791 f792 f793 g_b738 g_ar_745 ne_b738_ar_745) rfl (W := 0) (by decide) (by decide) (by decide) (by decide) f790 (g := (mkF m 132 #[.val (.long p0), .second, .val (.long p1), .second, .val (.long p2), .second, iv p3, iv p4, iv 1, iv 1, iv 1, .val (.double qv), .second, rv b723, rv b729, rv b738, .unset, .unset, .unset, .unset] [(.long p2), (.ref b738)])) rfl (by rw [hml]; rfl) (argsL := [(.long p2)]) (rest := []) (lenOf pd51 rfl) rfl rfl (Nat.le_of_eq rfl) (D at_132)
        obtain ⟨rfl, N789q, K789q, p789_0, p789_1, p789_2⟩ := q789
        have N789 := Fr.app N782 N789q
        have O794 := Old0.keep O787 K789q (allS g_b738 (allS g_ar_745 all0))
        have fj795 : Arv Z T789.heap ar_745 ka_745 .long (16384 : Int32) (own_cl ([own_jx p0, own_jx p1, own_jx p2] : List Nat)) (.long (0 : Int64)) := p789_2
        have f797 : Exa Z T789.heap b723 "com/example/portcall/portcall/cli/Latencies" := (Exa.keep (Exa.keep (Exa.keep (Exa.keep (Exa.keep (Exa.keep f753 K752q) K759q) K767q) K774q) K782q) K789q)
        have f798 : Exa Z T789.heap b729 "com/example/portcall/portcall/cli/Latencies" := (Exa.keep (Exa.keep f783 K782q) K789q)
        have f799 : Fld Z T789.heap b723 "com/example/portcall/portcall/cli/Latencies" "counts" "[J" (.ref ar_727) := (Fld.keep (Fld.keep (Fld.keep (Fld.keep (Fld.keep p752_0 K759q (ninS ne_b723_b738 (ninS ne_b723_ar_745 nin0))) K767q (ninS ne_b723_b729 (ninS ne_b723_ar_734 nin0))) K774q (ninS ne_b723_b738 (ninS ne_b723_ar_745 nin0))) K782q (ninS ne_b723_b729 (ninS ne_b723_ar_734 nin0))) K789q (ninS ne_b723_b738 (ninS ne_b723_ar_745 nin0)))
        have f800 : Fld Z T789.heap b729 "com/example/portcall/portcall/cli/Latencies" "counts" "[J" (.ref ar_734) := (Fld.keep p782_0 K789q (ninS ne_b729_b738 (ninS ne_b729_ar_745 nin0)))
        have f801 : Fld Z T789.heap b723 "com/example/portcall/portcall/cli/Latencies" "total" "J" (.long (1 : Int64)) := (Fld.keep (Fld.keep (Fld.keep (Fld.keep (Fld.keep p752_1 K759q (ninS ne_b723_b738 (ninS ne_b723_ar_745 nin0))) K767q (ninS ne_b723_b729 (ninS ne_b723_ar_734 nin0))) K774q (ninS ne_b723_b738 (ninS ne_b723_ar_745 nin0))) K782q (ninS ne_b723_b729 (ninS ne_b723_ar_734 nin0))) K789q (ninS ne_b723_b738 (ninS ne_b723_ar_745 nin0)))
        have f802 : Fld Z T789.heap b729 "com/example/portcall/portcall/cli/Latencies" "total" "J" (.long (2 : Int64)) := (Fld.keep p782_1 K789q (ninS ne_b729_b738 (ninS ne_b729_ar_745 nin0)))
        have f803 : Arv Z T789.heap ar_727 ka_727 .long (16384 : Int32) (own_cl ([own_jx p0] : List Nat)) (.long (0 : Int64)) := (Arv.keep (Arv.keep (Arv.keep (Arv.keep (Arv.keep fj758 K759q (ninS ne_ar_727_b738 (ninS ne_ar_727_ar_745 nin0))) K767q (ninS ne_ar_727_b729 (ninS ne_ar_727_ar_734 nin0))) K774q (ninS ne_ar_727_b738 (ninS ne_ar_727_ar_745 nin0))) K782q (ninS ne_ar_727_b729 (ninS ne_ar_727_ar_734 nin0))) K789q (ninS ne_ar_727_b738 (ninS ne_ar_727_ar_745 nin0)))
        have f804 : Arv Z T789.heap ar_734 ka_734 .long (16384 : Int32) (own_cl ([own_jx p1, own_jx p2] : List Nat)) (.long (0 : Int64)) := (Arv.keep fj788 K789q (ninS ne_ar_734_b738 (ninS ne_ar_734_ar_745 nin0)))
        obtain ⟨T796, v796, L796, X796, q796, st796⟩ := callVi X789 hx hZ (y := own_m15) (z := own_m15) hown (own_w hw (i := 32) rfl) (own_w hw (i := 33) rfl) (notFace_of_selects (args := #[]) (mvT hZ (own_w hw (i := 35) rfl))) (own_w hw (i := 35) rfl) (own_w hw (i := 34) rfl) (own_w hw (i := 36) rfl) (own_w hw (i := 3) rfl) (by decide) (rm_add hw G b723 b729 ar_727 ka_727 (([own_jx p0] : List Nat)) ar_734 ka_734 (([own_jx p1, own_jx p2] : List Nat)) ((1 : Int64)) ((2 : Int64)) ((3 : Int64)) T789.heap O794 (by decide) f797 f798 f799 f800 f801 f802 f803 f804 g_b723 g_ar_727 ne_b723_ar_727 ne_b723_b729 ne_b723_ar_734 (Ne.symm ne_ar_727_b729) (Ne.symm ne_ar_727_ar_734)) rfl (W := 0) (by decide) (by decide) (by decide) (by decide) f797 (g := (mkF m 139 #[.val (.long p0), .second, .val (.long p1), .second, .val (.long p2), .second, iv p3, iv p4, iv 1, iv 1, iv 1, .val (.double qv), .second, rv b723, rv b729, rv b738, .unset, .unset, .unset, .unset] [(.ref b729), (.ref b723)])) rfl (by rw [hml]; rfl) (argsL := [(.ref b729)]) (rest := []) (lenOf pd48 rfl) rfl rfl (Nat.le_of_eq rfl) (D at_139)
        obtain ⟨rfl, N796q, K796q, p796_0, p796_1, p796_2⟩ := q796
        have N796 := Fr.app N789 N796q
        have O805 := Old0.keep O794 K796q (allS g_b723 (allS g_ar_727 all0))
        have fj806 : Arv Z T796.heap ar_727 ka_727 .long (16384 : Int32) (own_cl ([own_jx p0, own_jx p1, own_jx p2] : List Nat)) (.long (0 : Int64)) := p796_2
        have f808 : Exa Z T796.heap b723 "com/example/portcall/portcall/cli/Latencies" := (Exa.keep f797 K796q)
        obtain ⟨T807, v807, L807, X807, q807, st807⟩ := callVi X796 hx hZ (y := own_m30) (z := own_m30) hown (own_w hw (i := 37) rfl) (own_w hw (i := 38) rfl) (notFace_of_selects (args := #[]) (mvT hZ (own_w hw (i := 40) rfl))) (own_w hw (i := 40) rfl) (own_w hw (i := 39) rfl) (own_w hw (i := 41) rfl) (own_w hw (i := 3) rfl) (by decide) (rm_pct3 hw G b723 qv ar_727 ka_727 (([own_jx p0, own_jx p1, own_jx p2] : List Nat)) T796.heap O805 (hq) (And.intro (own_jlt p0) (And.intro (own_jlt p1) (And.intro (own_jlt p2) (trivial)))) (rfl) p796_0 p796_1 fj806) rfl (W := 0) (by decide) (by decide) (by decide) (by decide) f808 (g := (mkF m 146 #[.val (.long p0), .second, .val (.long p1), .second, .val (.long p2), .second, iv p3, iv p4, iv 1, iv 1, iv 1, .val (.double qv), .second, rv b723, rv b729, rv b738, .unset, .unset, .unset, .unset] [(.double qv), (.ref b723)])) rfl (by rw [hml]; rfl) (argsL := [(.double qv)]) (rest := []) (lenOf pd49 rfl) rfl rfl (Nat.le_of_eq rfl) (D at_146)
        obtain ⟨iz_807, rfl, N807q, K807q, p807_0⟩ := q807
        have N807 := Fr.app N796 N807q
        have O809 := Old0.keep O805 K807q all0
        have f811 : Exa Z T807.heap b738 "com/example/portcall/portcall/cli/Latencies" := (Exa.keep (Exa.keep (Exa.keep f790 K789q) K796q) K807q)
        have f812 : Fld Z T807.heap b738 "com/example/portcall/portcall/cli/Latencies" "counts" "[J" (.ref ar_745) := (Fld.keep (Fld.keep p789_0 K796q (ninS (Ne.symm ne_b723_b738) (ninS (Ne.symm ne_ar_727_b738) nin0))) K807q nin0)
        have f813 : Fld Z T807.heap b738 "com/example/portcall/portcall/cli/Latencies" "total" "J" (.long (3 : Int64)) := (Fld.keep (Fld.keep p789_1 K796q (ninS (Ne.symm ne_b723_b738) (ninS (Ne.symm ne_ar_727_b738) nin0))) K807q nin0)
        have f814 : Arv Z T807.heap ar_745 ka_745 .long (16384 : Int32) (own_cl ([own_jx p0, own_jx p1, own_jx p2] : List Nat)) (.long (0 : Int64)) := (Arv.keep (Arv.keep fj795 K796q (ninS (Ne.symm ne_b723_ar_745) (ninS (Ne.symm ne_ar_727_ar_745) nin0))) K807q nin0)
        obtain ⟨T810, v810, L810, X810, q810, st810⟩ := callVi X807 hx hZ (y := own_m30) (z := own_m30) hown (own_w hw (i := 37) rfl) (own_w hw (i := 38) rfl) (notFace_of_selects (args := #[]) (mvT hZ (own_w hw (i := 40) rfl))) (own_w hw (i := 40) rfl) (own_w hw (i := 39) rfl) (own_w hw (i := 41) rfl) (own_w hw (i := 3) rfl) (by decide) (rm_pct3 hw G b738 qv ar_745 ka_745 (([own_jx p0, own_jx p1, own_jx p2] : List Nat)) T807.heap O809 (hq) (And.intro (own_jlt p0) (And.intro (own_jlt p1) (And.intro (own_jlt p2) (trivial)))) (rfl) f812 f813 f814) rfl (W := 0) (by decide) (by decide) (by decide) (by decide) f811 (g := (mkF m 155 #[.val (.long p0), .second, .val (.long p1), .second, .val (.long p2), .second, iv p3, iv p4, iv 1, iv 1, iv 1, .val (.double qv), .second, rv b723, rv b729, rv b738, .val (.double (own_mid iz_807)), .second, .unset, .unset] [(.double qv), (.ref b738)])) rfl (by rw [hml]; rfl) (argsL := [(.double qv)]) (rest := []) (lenOf pd49 rfl) rfl rfl (Nat.le_of_eq rfl) (D at_155)
        obtain ⟨iz_810, rfl, N810q, K810q, p810_0⟩ := q810
        have N810 := Fr.app N807 N810q
        have O815 := Old0.keep O809 K810q all0
        refine Go.of (T' := T810) (f' := (mkF m 160 #[.val (.long p0), .second, .val (.long p1), .second, .val (.long p2), .second, iv p3, iv p4, iv 1, iv 1, iv 1, .val (.double qv), .second, rv b723, rv b729, rv b738, .val (.double (own_mid iz_807)), .second, .val (.double (own_mid iz_810)), .second] [])) (fun _ k => XS.lloadN X759.here hx rfl (D at_106) rfl (st767 _ (XS.aload X767.here hx rfl (D at_110) rfl rfl (XS.lloadN X767.here hx rfl (D at_112) rfl (st774 _ (XS.iload X774.here hx rfl (D at_116) rfl (XS.ifNo X774.here hx rfl (D at_118) rfl ((if0 _ _).trans (feq (by decide : ¬ ((1 : Int32) = (0 : Int32)))).1) (XS.aload X774.here hx rfl (D at_121) rfl rfl (XS.lload X774.here hx rfl (D at_123) rfl (st782 _ (XS.aload X782.here hx rfl (D at_128) rfl rfl (XS.lload X782.here hx rfl (D at_130) rfl (st789 _ (XS.aload X789.here hx rfl (D at_135) rfl rfl (XS.aload X789.here hx rfl (D at_137) rfl rfl (st796 _ (XS.aload X796.here hx rfl (D at_142) rfl rfl (XS.dload X796.here hx rfl (D at_144) rfl (st807 _ (XS.dstore X807.here hx rfl (D at_149) rfl (l' := #[.val (.long p0), .second, .val (.long p1), .second, .val (.long p2), .second, iv p3, iv p4, iv 1, iv 1, iv 1, .val (.double qv), .second, rv b723, rv b729, rv b738, .val (.double (own_mid iz_807)), .second, .unset, .unset]) rfl (XS.aload X807.here hx rfl (D at_151) rfl rfl (XS.dload X807.here hx rfl (D at_153) rfl (st810 _ (XS.dstore X810.here hx rfl (D at_158) rfl (l' := #[.val (.long p0), .second, .val (.long p1), .second, .val (.long p2), .second, iv p3, iv p4, iv 1, iv 1, iv 1, .val (.double qv), .second, rv b723, rv b729, rv b738, .val (.double (own_mid iz_807)), .second, .val (.double (own_mid iz_810)), .second]) rfl k)))))))))))))))))))))))) ?_
        obtain ⟨T816, v816, L816, X816, q816, st816⟩ := callSt X810 hx hZ (y := own_m45) hown (own_w hw (i := 68) rfl) (own_w hw (i := 69) rfl) (own_w hw (i := 70) rfl) (own_w hw (i := 71) rfl) (by decide) (rm_same hw G ((own_mid iz_807)) ((own_mid iz_810))  T810.heap O815 (congrArg own_mid (own_at1 p810_0 p807_0))) rfl (W := 0) (by decide) (by decide) (by decide) (by decide) (g := (mkF m 164 #[.val (.long p0), .second, .val (.long p1), .second, .val (.long p2), .second, iv p3, iv p4, iv 1, iv 1, iv 1, .val (.double qv), .second, rv b723, rv b729, rv b738, .val (.double (own_mid iz_807)), .second, .val (.double (own_mid iz_810)), .second] [(.double (own_mid iz_810)), (.double (own_mid iz_807))])) rfl (by rw [hml]; rfl) (argsL := [(.double (own_mid iz_807)), (.double (own_mid iz_810))]) (rest := []) (lenOf pd50 rfl) rfl rfl (Nat.le_of_eq rfl) (D at_164)
        obtain ⟨rfl, e816, rfl⟩ := q816
        have N816 := Fr.app N810 (Fr.nil _)
        refine Go.of (T' := T816) (f' := (mkF m 167 #[.val (.long p0), .second, .val (.long p1), .second, .val (.long p2), .second, iv p3, iv p4, iv 1, iv 1, iv 1, .val (.double qv), .second, rv b723, rv b729, rv b738, .val (.double (own_mid iz_807)), .second, .val (.double (own_mid iz_810)), .second] [(.int 1)])) (fun _ k => XS.dload X810.here hx rfl (D at_160) rfl (XS.dload X810.here hx rfl (D at_162) rfl (st816 _ k))) ?_
        exact Go.retB X816 hx hlk hret (by simp) (D at_167) (by decide) (by decide) (z' := (1 : Int32)) rfl ⟨rfl, N816⟩
set_option maxRecDepth 65536 in
set_option maxHeartbeats 40000000 in
theorem comes_1 {Post : Tables → Env → Array Value → State → Outcome → State → Prop} (hpost : ∀ tb e args s v u, (limb_1_1.after args s (.returned v) u = true ∧ limb_1_2.after args s (.returned v) u = true ∧ True) → FrameEnd s (.returned v) u (Jvm.fieldLocs frame_1_writes args s ++ Jvm.arrayLocs frame_1_arrays args s ++ Jvm.staticLocs frame_1_statics s) 24 98432 → Post tb e args s (.returned v) u) :
    ArmFor flags0 classFile x code maxLocals ret World_1 tables_1 room_1 Calls_1 rest_1 Pre_1 Post := by
  intro l hfl _ _ p e ha hc hk s m args below hf hA hF happ hP
  obtain ⟨hcalls, hrest, hpre⟩ := hP
  obtain ⟨-, -, -, hnamed, -, -, -, hat⟩ := (Spec.applies_iff hf).mp happ
  obtain ⟨hg, hn⟩ := and_e (Cond.before_iff.mp (show (Jvm.Cond.and given_1 narrow_1).before args s = true from hpre))
  obtain ⟨ga0, gb0⟩ := and_e hg
  obtain ⟨ga1, gb1⟩ := and_e gb0
  obtain ⟨ga2, gb2⟩ := and_e gb1
  obtain ⟨ga3, gb3⟩ := and_e gb2
  obtain ⟨ga4, gb4⟩ := and_e gb3
  obtain ⟨w0, w1, w2, w3, w4, rfl⟩ : ∃ w0 w1 w2 w3 w4 : Value, args = #[w0, w1, w2, w3, w4] := by
    have hs : args.size = 5 := by simpa [Cond.value, given_1] using ga0
    obtain ⟨L⟩ := args
    match L, hs with
    | [w0, w1, w2, w3, w4], _ => exact ⟨w0, w1, w2, w3, w4, rfl⟩
  have hw := fun d (hd : d ∈ tables_1) => atoms_spec (ws := Jvm.Cond.code x code maxLocals ret :: tables_1) hat d (List.mem_cons_of_mem _ hd)
  have hfit : Fit s := fun {y c} hc i hi => by
    obtain ⟨ha, rfl⟩ := Array.getElem?_eq_some_iff.mp hc
    have q := List.all_eq_true.mp ((Array.all_eq_true_iff_forall_mem.mp hF) _ (Array.getElem_mem ha)) i (List.mem_range.mpr hi)
    simpa [Array.getElem?_eq_getElem hi] using q
  obtain ⟨hsets, hown0⟩ := atoms_of _ (rest_1_c_eq ▸ (show rest_1_c.before _ s = true from hrest))
  obtain ⟨i0, ei0⟩ := isL_v ga1
  obtain rfl : w0 = (.long i0) := Option.some.inj ei0
  obtain ⟨i1, ei1⟩ := isL_v ga2
  obtain rfl : w1 = (.long i1) := Option.some.inj ei1
  obtain ⟨i2, ei2⟩ := isL_v ga3
  obtain rfl : w2 = (.long i2) := Option.some.inj ei2
  obtain ⟨i3, ei3⟩ := is_v ga4
  obtain rfl : w3 = (.int i3) := Option.some.inj ei3
  obtain ⟨i4, ei4⟩ := is_v gb4
  obtain rfl : w4 = (.int i4) := Option.some.inj ei4
  have js2 := Cond.before_iff.mp (hsets _ (List.mem_of_getElem? (i := 2) rfl))
  have ev0 := eqI_v js2
  have S__assertionsDisabled : Sta s s.heap "java/lang/StrictMath" "$assertionsDisabled" "Z" (.int (1 : Int32)) := Sta.start ev0 (Or.inl (hsets _ (List.mem_of_getElem? (i := 1) rfl)))
  obtain ⟨n, o, h1, h2, h3, _, L, rfl, ⟨rfl, N⟩, hq⟩ := rm_law hw (A := fun n => ([] : List Addr).getD n 0) (KC := fun _ => { cls := 0, slots := #[], vm := .none }) (IC := fun n => ([] : List Int32).getD n 0) (VC := fun n => ([] : List Value).getD n .null) S__assertionsDisabled i0 i1 i2 i3 i4 s.heap ext_rfl tables_1 p e ha hc hk s m _ below hf ((Spec.applies_iff_loose hf).mp happ).1 ⟨rfl, State.Warmed39.refl s, rfl⟩ trivial
  refine ⟨n, _, h1, h2, h3, hpost _ _ _ _ _ _ ⟨Cond.after_iff.mpr rfl, Cond.after_iff.mpr (eq_i res_at (Term.int_eval (1)) rfl), trivial⟩ ⟨hq.1, hq.2.1, (hq.2.2.sift fun y hy => Or.inr (N y hy)).mono (by decide) (by decide)⟩⟩
theorem main_1_1 : Claimed_1_1 := comes_1 fun _ _ _ _ _ _ h hF => ⟨h.1, hF⟩
theorem main_1_2 : Claimed_1_2 := comes_1 fun _ _ _ _ _ _ h hF => ⟨h.2.1, hF⟩
end Jvm.Pilot.@@N@@
namespace Jvm.Pilot.@@N@@
open Jvm Jvm.ClassFile Sem Op Lib Jvm.Free Jvm.Stand Jvm.Pilot.@@N@@.Jvm.D
/-! MADE BY PROGRAM (witnessworld.py) out of the Statement's table words and the real class files: 20 classes; the members and pool entries that the words name. The judged class is class 1, her method 2. -/
namespace start1
open Jvm.ClassFile
def u (s : String) : CpInfo := .utf8 (stringToUtf16 s)
/-- a pool by its gaps: so many unusable entries, then the entry; so many at the end -/
def gap : Nat → List CpInfo → List CpInfo
  | 0, r => r
  | n + 1, r => .unusable :: gap n r
def poolList (es : List (Nat × CpInfo)) (last : Nat) : List CpInfo := es.foldr (fun e r => gap e.1 (e.2 :: r)) (gap last [])
def pool (es : List (Nat × CpInfo)) (last : Nat) : Array CpInfo := ⟨poolList es last⟩
def fileOf (pool : Array CpInfo) (this : Nat) (attrs : Array Attribute := #[]) (ms : Array MethodInfo := #[]) (fl : Nat := 33) (sup : Nat := 0) (ifs : Array Nat := #[]) (fds : Array FieldInfo := #[]) : ClassFile where
  minorVersion := 0
  majorVersion := 65
  constantPool := pool
  accessFlags := fl
  thisClass := this
  superClass := sup
  interfaces := ifs
  fields := fds
  methods := ms
  attributes := attrs
def plain (name : String) (sup : Option ClassId) : Class where
  name := name
  kind := .ordinary
  loader := none
  accessFlags := 33
  super := sup
  interfaces := #[]
  cf := none
  fields := #[]
  methods := #[]
  instanceTypes := #[]
  staticTypes := #[]
  resolved := #[]
  callSites := []
  init := .initialized
  statics := none
  mirror := none

def pool0 : Array CpInfo := pool [(5, u "<init>"), (0, u "()V"), (1, .class_ 10), (1, u "java/lang/Object")] 113

def k0c0 : Code := { maxStack := 0, maxLocals := 1, code := object_method_1_code, exceptionTable := #[], attributes := #[] }
def k0m0 : Method := { name := "<init>", desc := "()V", sig := { parameters := [], returnType := none }, accessFlags := 1, code := some k0c0 }
/-- java/lang/Object -/
def k0 : Class := { plain "java/lang/Object" none with
  accessFlags := 33
  interfaces := #[]
  cf := some (fileOf pool0 8 #[] #[{ accessFlags := 1, nameIndex := 5, descriptorIndex := 6, attributes := #[] }] 33 0 #[] #[])
  fields := #[]
  methods := #[k0m0]
  instanceTypes := #[]
  staticTypes := #[]
  resolved := Array.replicate 124 none
  statics := none }

def pool1 : Array CpInfo := pool [(2, .class_ 4), (0, .nameAndType 5 6), (0, u "java/lang/Object"), (0, u "<init>"), (0, u "()V"), (0, .double 4616189618054758400), (1, .class_ 10), (0, u "com/example/portcall/portcall/cli/Latencies"), (0, .methodref 9 3), (0, .methodref 9 13), (0, .nameAndType 14 15), (0, u "record"), (0, u "(J)V"), (0, .methodref 9 17), (0, .nameAndType 18 19), (0, u "add"), (0, u "(Lcom/example/portcall/portcall/cli/Latencies;)V"), (0, .methodref 9 21), (0, .nameAndType 22 23), (0, u "percentile"), (0, u "(D)D"), (0, .methodref 25 26), (0, .class_ 27), (0, .nameAndType 28 29), (0, u "com/example/portcall/portcall/cli/LatenciesAddPinLaw"), (0, u "same"), (0, u "(DD)Z"), (3, u "law"), (0, u "(JJJII)Z")] 2

def k1m0 : Method := { name := "<init>", desc := "()V", sig := { parameters := [], returnType := none }, accessFlags := 1, code := none }
def k1c1 : Code := { maxStack := 4, maxLocals := 4, code := method_2_code, exceptionTable := #[], attributes := #[] }
def k1m1 : Method := { name := "same", desc := "(DD)Z", sig := { parameters := [.double, .double], returnType := some .boolean }, accessFlags := 10, code := some k1c1 }
def k1c2 : Code := { maxStack := 4, maxLocals := 20, code := code, exceptionTable := #[], attributes := #[] }
def k1m2 : Method := { name := "law", desc := "(JJJII)Z", sig := { parameters := [.long, .long, .long, .int, .int], returnType := some .boolean }, accessFlags := 9, code := some k1c2 }
/-- com/example/portcall/portcall/cli/LatenciesAddPinLaw -/
def k1 : Class := { plain "com/example/portcall/portcall/cli/LatenciesAddPinLaw" (some 0) with
  accessFlags := 49
  interfaces := #[]
  cf := some (fileOf pool1 25 #[] #[{ accessFlags := 1, nameIndex := 5, descriptorIndex := 6, attributes := #[] }, { accessFlags := 10, nameIndex := 28, descriptorIndex := 29, attributes := #[] }, { accessFlags := 9, nameIndex := 33, descriptorIndex := 34, attributes := #[] }] 49 2 #[] #[])
  fields := #[]
  methods := #[k1m0, k1m1, k1m2]
  instanceTypes := #[]
  staticTypes := #[]
  resolved := Array.replicate 37 none
  statics := none }

def pool2 : Array CpInfo := pool [(1, .class_ 2), (0, u "com/example/portcall/portcall/cli/Latencies"), (0, .methodref 4 5), (0, .class_ 6), (0, .nameAndType 7 8), (0, u "java/lang/Object"), (0, u "<init>"), (0, u "()V"), (0, .fieldref 1 10), (0, .nameAndType 11 12), (0, u "counts"), (0, u "[J"), (0, .methodref 14 15), (0, .class_ 16), (0, .nameAndType 17 18), (0, u "java/lang/Math"), (0, u "max"), (0, u "(JJ)J"), (0, .long 1099511627775), (1, .methodref 14 22), (0, .nameAndType 23 18), (0, u "min"), (0, .methodref 1 25), (0, .nameAndType 26 27), (0, u "index"), (0, u "(J)I"), (0, .fieldref 1 29), (0, .nameAndType 30 31), (0, u "total"), (0, u "J"), (2, .double 9221120237041090560), (1, .methodref 14 37), (0, .nameAndType 38 39), (0, u "ceil"), (0, u "(D)D"), (0, .methodref 1 41), (0, .nameAndType 42 43), (0, u "middle"), (0, u "(I)D"), (0, .long 1024), (1, .methodref 47 48), (0, .class_ 49), (0, .nameAndType 50 27), (0, u "java/lang/Long"), (0, u "numberOfLeadingZeros"), (0, .double 4611686018427387904), (1, u "SUB_BITS"), (0, u "I"), (2, u "SUB_BUCKETS"), (1, u "MAX_BITS"), (1, u "MAX_NANOS"), (2, u "record"), (0, u "(J)V"), (0, u "add"), (0, u "(Lcom/example/portcall/portcall/cli/Latencies;)V"), (1, u "percentile")] 2

def k2c0 : Code := { maxStack := 2, maxLocals := 1, code := prog_10_method_1_code, exceptionTable := #[], attributes := #[] }
def k2m0 : Method := { name := "<init>", desc := "()V", sig := { parameters := [], returnType := none }, accessFlags := 0, code := some k2c0 }
def k2c1 : Code := { maxStack := 6, maxLocals := 5, code := prog_10_method_2_code, exceptionTable := #[], attributes := #[] }
def k2m1 : Method := { name := "record", desc := "(J)V", sig := { parameters := [.long], returnType := none }, accessFlags := 0, code := some k2c1 }
def k2c2 : Code := { maxStack := 6, maxLocals := 3, code := prog_10_method_3_code, exceptionTable := #[], attributes := #[] }
def k2m2 : Method := { name := "add", desc := "(Lcom/example/portcall/portcall/cli/Latencies;)V", sig := { parameters := [(.object "com/example/portcall/portcall/cli/Latencies")], returnType := none }, accessFlags := 0, code := some k2c2 }
def k2c3 : Code := { maxStack := 6, maxLocals := 8, code := prog_10_method_4_code, exceptionTable := #[], attributes := #[] }
def k2m3 : Method := { name := "percentile", desc := "(D)D", sig := { parameters := [.double], returnType := some .double }, accessFlags := 0, code := some k2c3 }
def k2c4 : Code := { maxStack := 4, maxLocals := 5, code := prog_10_method_5_code, exceptionTable := #[], attributes := #[] }
def k2m4 : Method := { name := "index", desc := "(J)I", sig := { parameters := [.long], returnType := some .int }, accessFlags := 10, code := some k2c4 }
def k2c5 : Code := { maxStack := 6, maxLocals := 8, code := prog_10_method_6_code, exceptionTable := #[], attributes := #[] }
def k2m5 : Method := { name := "middle", desc := "(I)D", sig := { parameters := [.int], returnType := some .double }, accessFlags := 10, code := some k2c5 }
/-- com/example/portcall/portcall/cli/Latencies -/
def k2 : Class := { plain "com/example/portcall/portcall/cli/Latencies" (some 0) with
  accessFlags := 48
  interfaces := #[]
  cf := some (fileOf pool2 1 #[] #[{ accessFlags := 0, nameIndex := 7, descriptorIndex := 8, attributes := #[] }, { accessFlags := 0, nameIndex := 64, descriptorIndex := 65, attributes := #[] }, { accessFlags := 0, nameIndex := 66, descriptorIndex := 67, attributes := #[] }, { accessFlags := 0, nameIndex := 69, descriptorIndex := 39, attributes := #[] }, { accessFlags := 10, nameIndex := 26, descriptorIndex := 27, attributes := #[] }, { accessFlags := 10, nameIndex := 42, descriptorIndex := 43, attributes := #[] }] 48 4 #[] #[{ accessFlags := 26, nameIndex := 53, descriptorIndex := 54, attributes := #[] }, { accessFlags := 26, nameIndex := 57, descriptorIndex := 54, attributes := #[] }, { accessFlags := 26, nameIndex := 59, descriptorIndex := 54, attributes := #[] }, { accessFlags := 26, nameIndex := 61, descriptorIndex := 31, attributes := #[] }, { accessFlags := 18, nameIndex := 11, descriptorIndex := 12, attributes := #[] }, { accessFlags := 2, nameIndex := 30, descriptorIndex := 31, attributes := #[] }])
  fields := #[{ name := "SUB_BITS", type := .int, accessFlags := 26, slot := 0, constantValue := 0 }, { name := "SUB_BUCKETS", type := .int, accessFlags := 26, slot := 1, constantValue := 0 }, { name := "MAX_BITS", type := .int, accessFlags := 26, slot := 2, constantValue := 0 }, { name := "MAX_NANOS", type := .long, accessFlags := 26, slot := 3, constantValue := 0 }, { name := "counts", type := (.array .long), accessFlags := 18, slot := 0, constantValue := 0 }, { name := "total", type := .long, accessFlags := 2, slot := 1, constantValue := 0 }]
  methods := #[k2m0, k2m1, k2m2, k2m3, k2m4, k2m5]
  instanceTypes := #[(.array .long), .long]
  staticTypes := #[.int, .int, .int, .long]
  resolved := Array.replicate 72 none
  statics := none }

def pool3 : Array CpInfo := pool [(1, .class_ 2), (0, u "java/lang/Math"), (1, .class_ 6), (1, u "java/lang/Object"), (0, u "<init>"), (0, u "()V"), (1, .class_ 12), (1, u "java/lang/StrictMath"), (1, u "(D)D"), (38, .methodref 10 54), (0, .nameAndType 55 14), (0, u "ceil"), (23, .methodref 80 81), (0, .class_ 82), (0, .nameAndType 83 84), (0, u "java/lang/Double"), (0, u "doubleToRawLongBits"), (0, u "(D)J"), (2, .long 9218868437227405312), (10, .class_ 100), (1, u "java/lang/Math$RandomNumberGeneratorHolder"), (20, u "(JJ)J"), (50, u "negativeZeroFloatBits"), (0, u "J"), (2, u "negativeZeroDoubleBits"), (21, u "max"), (2, u "min"), (43, u "$assertionsDisabled"), (0, u "Z"), (33, u "getExponent"), (0, u "(D)I"), (40, .long 1023), (15, u "twoToTheDoubleScaleDown"), (0, u "D"), (4, u "twoToTheDoubleScaleUp"), (9, u "E"), (3, u "PI"), (2, u "TAU"), (2, u "DEGREES_TO_RADIANS"), (0, u "RADIANS_TO_DEGREES")] 94

def k3m0 : Method := { name := "<init>", desc := "()V", sig := { parameters := [], returnType := none }, accessFlags := 2, code := none }
def k3c1 : Code := { maxStack := 2, maxLocals := 2, code := jdk_29_method_16_code, exceptionTable := #[], attributes := #[] }
def k3m1 : Method := { name := "ceil", desc := "(D)D", sig := { parameters := [.double], returnType := some .double }, accessFlags := 9, code := some k3c1 }
def k3c2 : Code := { maxStack := 4, maxLocals := 4, code := jdk_29_method_66_code, exceptionTable := #[], attributes := #[] }
def k3m2 : Method := { name := "max", desc := "(JJ)J", sig := { parameters := [.long, .long], returnType := some .long }, accessFlags := 9, code := some k3c2 }
def k3c3 : Code := { maxStack := 4, maxLocals := 4, code := jdk_29_method_70_code, exceptionTable := #[], attributes := #[] }
def k3m3 : Method := { name := "min", desc := "(JJ)J", sig := { parameters := [.long, .long], returnType := some .long }, accessFlags := 9, code := some k3c3 }
def k3c4 : Code := { maxStack := 4, maxLocals := 2, code := jdk_29_method_92_code, exceptionTable := #[], attributes := #[] }
def k3m4 : Method := { name := "getExponent", desc := "(D)I", sig := { parameters := [.double], returnType := some .int }, accessFlags := 9, code := some k3c4 }
/-- java/lang/Math -/
def k3 : Class := { plain "java/lang/Math" (some 0) with
  accessFlags := 49
  interfaces := #[]
  cf := some (fileOf pool3 1 #[.nestMembers #[98]] #[{ accessFlags := 2, nameIndex := 7, descriptorIndex := 8, attributes := #[] }, { accessFlags := 9, nameIndex := 55, descriptorIndex := 14, attributes := #[] }, { accessFlags := 9, nameIndex := 198, descriptorIndex := 121, attributes := #[] }, { accessFlags := 9, nameIndex := 201, descriptorIndex := 121, attributes := #[] }, { accessFlags := 9, nameIndex := 280, descriptorIndex := 281, attributes := #[] }] 49 4 #[] #[{ accessFlags := 25, nameIndex := 354, descriptorIndex := 339, attributes := #[] }, { accessFlags := 25, nameIndex := 358, descriptorIndex := 339, attributes := #[] }, { accessFlags := 25, nameIndex := 361, descriptorIndex := 339, attributes := #[] }, { accessFlags := 26, nameIndex := 364, descriptorIndex := 339, attributes := #[] }, { accessFlags := 26, nameIndex := 365, descriptorIndex := 339, attributes := #[] }, { accessFlags := 26, nameIndex := 172, descriptorIndex := 173, attributes := #[] }, { accessFlags := 26, nameIndex := 176, descriptorIndex := 173, attributes := #[] }, { accessFlags := 8, nameIndex := 344, descriptorIndex := 339, attributes := #[] }, { accessFlags := 8, nameIndex := 338, descriptorIndex := 339, attributes := #[] }, { accessFlags := 4120, nameIndex := 245, descriptorIndex := 246, attributes := #[] }])
  fields := #[{ name := "E", type := .double, accessFlags := 25, slot := 0, constantValue := 0 }, { name := "PI", type := .double, accessFlags := 25, slot := 1, constantValue := 0 }, { name := "TAU", type := .double, accessFlags := 25, slot := 2, constantValue := 0 }, { name := "DEGREES_TO_RADIANS", type := .double, accessFlags := 26, slot := 3, constantValue := 0 }, { name := "RADIANS_TO_DEGREES", type := .double, accessFlags := 26, slot := 4, constantValue := 0 }, { name := "negativeZeroFloatBits", type := .long, accessFlags := 26, slot := 5, constantValue := 0 }, { name := "negativeZeroDoubleBits", type := .long, accessFlags := 26, slot := 6, constantValue := 0 }, { name := "twoToTheDoubleScaleUp", type := .double, accessFlags := 8, slot := 7, constantValue := 0 }, { name := "twoToTheDoubleScaleDown", type := .double, accessFlags := 8, slot := 8, constantValue := 0 }, { name := "$assertionsDisabled", type := .boolean, accessFlags := 4120, slot := 9, constantValue := 0 }]
  methods := #[k3m0, k3m1, k3m2, k3m3, k3m4]
  instanceTypes := #[]
  staticTypes := #[.double, .double, .double, .double, .double, .long, .long, .double, .double, .boolean]
  resolved := Array.replicate 460 none
  statics := none }

def pool4 : Array CpInfo := pool [(1, .class_ 2), (0, u "java/lang/StrictMath"), (1, .class_ 6), (1, u "java/lang/Object"), (0, u "<init>"), (0, u "()V"), (5, u "(D)D"), (16, .class_ 33), (1, u "java/lang/Math"), (24, .double 9223372036854775808), (1, .methodref 1 61), (0, .nameAndType 62 63), (0, u "floorOrCeil"), (0, u "(DDDD)D"), (2, .methodref 31 67), (0, .nameAndType 68 69), (0, u "getExponent"), (0, u "(D)I"), (0, .fieldref 1 71), (0, .nameAndType 72 73), (0, u "$assertionsDisabled"), (0, u "Z"), (3, .methodref 78 79), (0, .class_ 80), (0, .nameAndType 81 82), (0, u "java/lang/Double"), (0, u "doubleToRawLongBits"), (0, u "(D)J"), (2, .long 4503599627370495), (1, .long 18446744073709551615), (1, .methodref 78 90), (0, .nameAndType 91 92), (0, u "longBitsToDouble"), (0, u "(J)D"), (21, .class_ 116), (1, u "java/lang/StrictMath$RandomNumberGeneratorHolder"), (222, u "E"), (0, u "D"), (3, u "PI"), (2, u "TAU"), (26, u "ceil")] 61

def k4m0 : Method := { name := "<init>", desc := "()V", sig := { parameters := [], returnType := none }, accessFlags := 2, code := none }
def k4c1 : Code := { maxStack := 8, maxLocals := 2, code := jdk_128_method_16_code, exceptionTable := #[], attributes := #[] }
def k4m1 : Method := { name := "ceil", desc := "(D)D", sig := { parameters := [.double], returnType := some .double }, accessFlags := 9, code := some k4c1 }
def k4c2 : Code := { maxStack := 6, maxLocals := 15, code := jdk_128_method_18_code, exceptionTable := #[], attributes := #[] }
def k4m2 : Method := { name := "floorOrCeil", desc := "(DDDD)D", sig := { parameters := [.double, .double, .double, .double], returnType := some .double }, accessFlags := 10, code := some k4c2 }
/-- java/lang/StrictMath -/
def k4 : Class := { plain "java/lang/StrictMath" (some 0) with
  accessFlags := 49
  interfaces := #[]
  cf := some (fileOf pool4 1 #[.nestMembers #[114]] #[{ accessFlags := 2, nameIndex := 7, descriptorIndex := 8, attributes := #[] }, { accessFlags := 9, nameIndex := 374, descriptorIndex := 14, attributes := #[] }, { accessFlags := 10, nameIndex := 62, descriptorIndex := 63, attributes := #[] }] 49 4 #[] #[{ accessFlags := 25, nameIndex := 339, descriptorIndex := 340, attributes := #[] }, { accessFlags := 25, nameIndex := 344, descriptorIndex := 340, attributes := #[] }, { accessFlags := 25, nameIndex := 347, descriptorIndex := 340, attributes := #[] }, { accessFlags := 4120, nameIndex := 72, descriptorIndex := 73, attributes := #[] }])
  fields := #[{ name := "E", type := .double, accessFlags := 25, slot := 0, constantValue := 0 }, { name := "PI", type := .double, accessFlags := 25, slot := 1, constantValue := 0 }, { name := "TAU", type := .double, accessFlags := 25, slot := 2, constantValue := 0 }, { name := "$assertionsDisabled", type := .boolean, accessFlags := 4120, slot := 3, constantValue := 0 }]
  methods := #[k4m0, k4m1, k4m2]
  instanceTypes := #[]
  staticTypes := #[.double, .double, .double, .boolean]
  resolved := Array.replicate 436 none
  statics := some 0 }

def pool5 : Array CpInfo := pool [(1, .class_ 2), (0, u "java/io/Serializable"), (0, .class_ 4), (0, u "java/lang/Object")] 2

/-- java/io/Serializable -/
def k5 : Class := { plain "java/io/Serializable" (some 0) with
  accessFlags := 1537
  interfaces := #[]
  cf := some (fileOf pool5 1 #[] #[] 1537 3 #[] #[])
  fields := #[]
  methods := #[]
  instanceTypes := #[]
  staticTypes := #[]
  resolved := Array.replicate 7 none
  statics := none }

def pool6 : Array CpInfo := pool [(2, .class_ 4), (1, u "java/lang/Object"), (0, u "<init>"), (0, u "()V"), (1, .class_ 10), (1, u "java/lang/Number"), (2, .class_ 14), (0, u "java/io/Serializable"), (0, u "serialVersionUID"), (0, u "J")] 20

def k6m0 : Method := { name := "<init>", desc := "()V", sig := { parameters := [], returnType := none }, accessFlags := 1, code := none }
/-- java/lang/Number -/
def k6 : Class := { plain "java/lang/Number" (some 0) with
  accessFlags := 1057
  interfaces := #[5]
  cf := some (fileOf pool6 8 #[] #[{ accessFlags := 1, nameIndex := 5, descriptorIndex := 6, attributes := #[] }] 1057 2 #[13] #[{ accessFlags := 26, nameIndex := 15, descriptorIndex := 16, attributes := #[] }])
  fields := #[{ name := "serialVersionUID", type := .long, accessFlags := 26, slot := 0, constantValue := 0 }]
  methods := #[k6m0]
  instanceTypes := #[]
  staticTypes := #[.long]
  resolved := Array.replicate 37 none
  statics := none }

def pool7 : Array CpInfo := pool [(1, .class_ 2), (0, u "java/lang/Comparable"), (0, .class_ 4), (0, u "java/lang/Object")] 7

/-- java/lang/Comparable -/
def k7 : Class := { plain "java/lang/Comparable" (some 0) with
  accessFlags := 1537
  interfaces := #[]
  cf := some (fileOf pool7 1 #[] #[] 1537 3 #[] #[])
  fields := #[]
  methods := #[]
  instanceTypes := #[]
  staticTypes := #[]
  resolved := Array.replicate 12 none
  statics := none }

def pool8 : Array CpInfo := pool [(1, .class_ 2), (0, u "java/lang/constant/Constable"), (0, .class_ 4), (0, u "java/lang/Object")] 6

/-- java/lang/constant/Constable -/
def k8 : Class := { plain "java/lang/constant/Constable" (some 0) with
  accessFlags := 1537
  interfaces := #[]
  cf := some (fileOf pool8 1 #[] #[] 1537 3 #[] #[])
  fields := #[]
  methods := #[]
  instanceTypes := #[]
  staticTypes := #[]
  resolved := Array.replicate 11 none
  statics := none }

def pool9 : Array CpInfo := pool [(1, .class_ 2), (0, u "java/lang/constant/ConstantDesc"), (0, .class_ 4), (0, u "java/lang/Object")] 32

/-- java/lang/constant/ConstantDesc -/
def k9 : Class := { plain "java/lang/constant/ConstantDesc" (some 0) with
  accessFlags := 1537
  interfaces := #[]
  cf := some (fileOf pool9 1 #[] #[] 1537 3 #[] #[])
  fields := #[]
  methods := #[]
  instanceTypes := #[]
  staticTypes := #[]
  resolved := Array.replicate 37 none
  statics := none }

def pool10 : Array CpInfo := pool [(1, .class_ 2), (0, u "java/lang/Double"), (46, u "(D)J"), (64, .class_ 116), (1, u "java/lang/Number"), (3, u "value"), (0, u "D"), (14, u "doubleToRawLongBits"), (36, u "TYPE"), (0, u "Ljava/lang/Class;"), (0, .class_ 176), (0, u "java/lang/Comparable"), (0, .class_ 178), (0, u "java/lang/constant/Constable"), (0, .class_ 180), (0, u "java/lang/constant/ConstantDesc"), (0, u "POSITIVE_INFINITY"), (3, u "NEGATIVE_INFINITY"), (2, u "NaN"), (2, u "MAX_VALUE"), (0, u "MIN_NORMAL"), (0, u "MIN_VALUE"), (2, u "SIZE"), (0, u "I"), (1, u "PRECISION"), (1, u "MAX_EXPONENT"), (1, u "MIN_EXPONENT"), (1, u "BYTES"), (3, u "serialVersionUID"), (0, u "J"), (48, u "longBitsToDouble"), (0, u "(J)D")] 29

def k10m0 : Method := { name := "doubleToRawLongBits", desc := "(D)J", sig := { parameters := [.double], returnType := some .long }, accessFlags := 265, code := none }
def k10m1 : Method := { name := "longBitsToDouble", desc := "(J)D", sig := { parameters := [.long], returnType := some .double }, accessFlags := 265, code := none }
/-- java/lang/Double -/
def k10 : Class := { plain "java/lang/Double" (some 6) with
  accessFlags := 49
  interfaces := #[7, 8, 9]
  cf := some (fileOf pool10 1 #[] #[{ accessFlags := 265, nameIndex := 136, descriptorIndex := 49, attributes := #[] }, { accessFlags := 265, nameIndex := 259, descriptorIndex := 260, attributes := #[] }] 49 114 #[175, 177, 179] #[{ accessFlags := 25, nameIndex := 181, descriptorIndex := 121, attributes := #[] }, { accessFlags := 25, nameIndex := 185, descriptorIndex := 121, attributes := #[] }, { accessFlags := 25, nameIndex := 188, descriptorIndex := 121, attributes := #[] }, { accessFlags := 25, nameIndex := 191, descriptorIndex := 121, attributes := #[] }, { accessFlags := 25, nameIndex := 192, descriptorIndex := 121, attributes := #[] }, { accessFlags := 25, nameIndex := 193, descriptorIndex := 121, attributes := #[] }, { accessFlags := 25, nameIndex := 196, descriptorIndex := 197, attributes := #[] }, { accessFlags := 25, nameIndex := 199, descriptorIndex := 197, attributes := #[] }, { accessFlags := 25, nameIndex := 201, descriptorIndex := 197, attributes := #[] }, { accessFlags := 25, nameIndex := 203, descriptorIndex := 197, attributes := #[] }, { accessFlags := 25, nameIndex := 205, descriptorIndex := 197, attributes := #[] }, { accessFlags := 25, nameIndex := 173, descriptorIndex := 174, attributes := #[] }, { accessFlags := 18, nameIndex := 120, descriptorIndex := 121, attributes := #[] }, { accessFlags := 26, nameIndex := 209, descriptorIndex := 210, attributes := #[] }])
  fields := #[{ name := "POSITIVE_INFINITY", type := .double, accessFlags := 25, slot := 0, constantValue := 0 }, { name := "NEGATIVE_INFINITY", type := .double, accessFlags := 25, slot := 1, constantValue := 0 }, { name := "NaN", type := .double, accessFlags := 25, slot := 2, constantValue := 0 }, { name := "MAX_VALUE", type := .double, accessFlags := 25, slot := 3, constantValue := 0 }, { name := "MIN_NORMAL", type := .double, accessFlags := 25, slot := 4, constantValue := 0 }, { name := "MIN_VALUE", type := .double, accessFlags := 25, slot := 5, constantValue := 0 }, { name := "SIZE", type := .int, accessFlags := 25, slot := 6, constantValue := 0 }, { name := "PRECISION", type := .int, accessFlags := 25, slot := 7, constantValue := 0 }, { name := "MAX_EXPONENT", type := .int, accessFlags := 25, slot := 8, constantValue := 0 }, { name := "MIN_EXPONENT", type := .int, accessFlags := 25, slot := 9, constantValue := 0 }, { name := "BYTES", type := .int, accessFlags := 25, slot := 10, constantValue := 0 }, { name := "TYPE", type := (.object "java/lang/Class"), accessFlags := 25, slot := 11, constantValue := 0 }, { name := "value", type := .double, accessFlags := 18, slot := 0, constantValue := 0 }, { name := "serialVersionUID", type := .long, accessFlags := 26, slot := 12, constantValue := 0 }]
  methods := #[k10m0, k10m1]
  instanceTypes := #[.double]
  staticTypes := #[.double, .double, .double, .double, .double, .double, .int, .int, .int, .int, .int, (.object "java/lang/Class"), .long]
  resolved := Array.replicate 290 none
  statics := none }

def pool11 : Array CpInfo := pool [(1, .class_ 2), (0, u "java/lang/Long"), (15, .class_ 20), (1, u "java/lang/Integer"), (79, u "numberOfLeadingZeros"), (0, u "(J)I"), (133, .class_ 237), (1, u "java/lang/Long$LongCache"), (33, .class_ 272), (0, u "java/lang/Number"), (2, u "value"), (0, u "J"), (31, .methodref 18 309), (0, .nameAndType 100 310), (0, u "(I)I"), (50, u "TYPE"), (0, u "Ljava/lang/Class;"), (0, .class_ 364), (0, u "java/lang/Comparable"), (0, .class_ 366), (0, u "java/lang/constant/Constable"), (0, .class_ 368), (0, u "java/lang/constant/ConstantDesc"), (0, u "MIN_VALUE"), (1, u "MAX_VALUE"), (4, u "SIZE"), (0, u "I"), (1, u "BYTES"), (1, u "serialVersionUID")] 142

def k11c0 : Code := { maxStack := 3, maxLocals := 3, code := jdk_35_method_48_code, exceptionTable := #[], attributes := #[] }
def k11m0 : Method := { name := "numberOfLeadingZeros", desc := "(J)I", sig := { parameters := [.long], returnType := some .int }, accessFlags := 9, code := some k11c0 }
/-- java/lang/Long -/
def k11 : Class := { plain "java/lang/Long" (some 6) with
  accessFlags := 49
  interfaces := #[7, 8, 9]
  cf := some (fileOf pool11 1 #[.nestMembers #[235]] #[{ accessFlags := 9, nameIndex := 100, descriptorIndex := 101, attributes := #[] }] 49 271 #[363, 365, 367] #[{ accessFlags := 25, nameIndex := 369, descriptorIndex := 276, attributes := #[] }, { accessFlags := 25, nameIndex := 371, descriptorIndex := 276, attributes := #[] }, { accessFlags := 25, nameIndex := 361, descriptorIndex := 362, attributes := #[] }, { accessFlags := 18, nameIndex := 275, descriptorIndex := 276, attributes := #[] }, { accessFlags := 25, nameIndex := 376, descriptorIndex := 377, attributes := #[] }, { accessFlags := 25, nameIndex := 379, descriptorIndex := 377, attributes := #[] }, { accessFlags := 26, nameIndex := 381, descriptorIndex := 276, attributes := #[] }])
  fields := #[{ name := "MIN_VALUE", type := .long, accessFlags := 25, slot := 0, constantValue := 0 }, { name := "MAX_VALUE", type := .long, accessFlags := 25, slot := 1, constantValue := 0 }, { name := "TYPE", type := (.object "java/lang/Class"), accessFlags := 25, slot := 2, constantValue := 0 }, { name := "value", type := .long, accessFlags := 18, slot := 0, constantValue := 0 }, { name := "SIZE", type := .int, accessFlags := 25, slot := 3, constantValue := 0 }, { name := "BYTES", type := .int, accessFlags := 25, slot := 4, constantValue := 0 }, { name := "serialVersionUID", type := .long, accessFlags := 26, slot := 5, constantValue := 0 }]
  methods := #[k11m0]
  instanceTypes := #[.long]
  staticTypes := #[.long, .long, (.object "java/lang/Class"), .int, .int, .long]
  resolved := Array.replicate 524 none
  statics := none }

def pool12 : Array CpInfo := pool [(1, .class_ 2), (0, u "java/lang/Integer"), (16, u "digits"), (0, u "[C"), (32, u "numberOfLeadingZeros"), (0, u "(I)I"), (30, u "DigitOnes"), (0, u "[B"), (2, u "DigitTens"), (99, .class_ 190), (0, u "java/lang/Integer$IntegerCache"), (3, u "I"), (8, .class_ 204), (0, u "java/lang/Number"), (2, u "value"), (56, .integer 65536), (37, u "TYPE"), (0, u "Ljava/lang/Class;"), (0, .class_ 305), (0, u "java/lang/Comparable"), (0, .class_ 307), (0, u "java/lang/constant/Constable"), (0, .class_ 309), (0, u "java/lang/constant/ConstantDesc"), (0, u "MIN_VALUE"), (1, u "MAX_VALUE"), (3, u "SIZE"), (1, u "BYTES"), (1, u "serialVersionUID"), (0, u "J")] 131

def k12c0 : Code := { maxStack := 3, maxLocals := 2, code := jdk_33_method_47_code, exceptionTable := #[], attributes := #[] }
def k12m0 : Method := { name := "numberOfLeadingZeros", desc := "(I)I", sig := { parameters := [.int], returnType := some .int }, accessFlags := 9, code := some k12c0 }
/-- java/lang/Integer -/
def k12 : Class := { plain "java/lang/Integer" (some 6) with
  accessFlags := 49
  interfaces := #[7, 8, 9]
  cf := some (fileOf pool12 1 #[.nestMembers #[189]] #[{ accessFlags := 9, nameIndex := 53, descriptorIndex := 54, attributes := #[] }] 49 203 #[304, 306, 308] #[{ accessFlags := 25, nameIndex := 310, descriptorIndex := 194, attributes := #[] }, { accessFlags := 25, nameIndex := 312, descriptorIndex := 194, attributes := #[] }, { accessFlags := 25, nameIndex := 302, descriptorIndex := 303, attributes := #[] }, { accessFlags := 24, nameIndex := 19, descriptorIndex := 20, attributes := #[] }, { accessFlags := 24, nameIndex := 89, descriptorIndex := 86, attributes := #[] }, { accessFlags := 24, nameIndex := 85, descriptorIndex := 86, attributes := #[] }, { accessFlags := 18, nameIndex := 207, descriptorIndex := 194, attributes := #[] }, { accessFlags := 25, nameIndex := 316, descriptorIndex := 194, attributes := #[] }, { accessFlags := 25, nameIndex := 318, descriptorIndex := 194, attributes := #[] }, { accessFlags := 26, nameIndex := 320, descriptorIndex := 321, attributes := #[] }])
  fields := #[{ name := "MIN_VALUE", type := .int, accessFlags := 25, slot := 0, constantValue := 0 }, { name := "MAX_VALUE", type := .int, accessFlags := 25, slot := 1, constantValue := 0 }, { name := "TYPE", type := (.object "java/lang/Class"), accessFlags := 25, slot := 2, constantValue := 0 }, { name := "digits", type := (.array .char), accessFlags := 24, slot := 3, constantValue := 0 }, { name := "DigitTens", type := (.array .byte), accessFlags := 24, slot := 4, constantValue := 0 }, { name := "DigitOnes", type := (.array .byte), accessFlags := 24, slot := 5, constantValue := 0 }, { name := "value", type := .int, accessFlags := 18, slot := 0, constantValue := 0 }, { name := "SIZE", type := .int, accessFlags := 25, slot := 6, constantValue := 0 }, { name := "BYTES", type := .int, accessFlags := 25, slot := 7, constantValue := 0 }, { name := "serialVersionUID", type := .long, accessFlags := 26, slot := 8, constantValue := 0 }]
  methods := #[k12m0]
  instanceTypes := #[.int]
  staticTypes := #[.int, .int, (.object "java/lang/Class"), (.array .char), (.array .byte), (.array .byte), .int, .int, .long]
  resolved := Array.replicate 453 none
  statics := none }

def pool13 : Array CpInfo := pool [(1, u "java/lang/Cloneable"), (0, .class_ 1), (0, u "java/lang/Object"), (0, .class_ 3)] 3

/-- java/lang/Cloneable -/
def k13 : Class := { plain "java/lang/Cloneable" (some 0) with
  accessFlags := 1537
  interfaces := #[]
  cf := some (fileOf pool13 2 #[] #[] 1537 4 #[] #[])
  fields := #[]
  methods := #[]
  instanceTypes := #[]
  staticTypes := #[]
  resolved := Array.replicate 8 none
  statics := none }

/-- the primitive byte -/
def k14 : Class := { plain "byte" none with kind := .primitive 'B', accessFlags := 0x411 }
/-- [B -/
def k15 : Class := { plain "[B" (some 0) with kind := .array 14 .byte, interfaces := #[13, 5], accessFlags := 1041 }

/-- the primitive int -/
def k16 : Class := { plain "int" none with kind := .primitive 'I', accessFlags := 0x411 }
/-- [I -/
def k17 : Class := { plain "[I" (some 0) with kind := .array 16 .int, interfaces := #[13, 5], accessFlags := 1041 }

/-- the primitive long -/
def k18 : Class := { plain "long" none with kind := .primitive 'J', accessFlags := 0x411 }
/-- [J -/
def k19 : Class := { plain "[J" (some 0) with kind := .array 18 .long, interfaces := #[13, 5], accessFlags := 1041 }

def heap : Heap := #[{ cls := 4, slots := #[.double 0, .double 0, .double 0, .int 1], vm := .statics 4 }]
def classes : Array Class := #[k0, k1, k2, k3, k4, k5, k6, k7, k8, k9, k10, k11, k12, k13, k14, k15, k16, k17, k18, k19]
def interned : List (Array UInt16 × Addr) := []
def slotsUsed : Nat := 4
def theMethod : MethodId := ⟨1, 2⟩
def args0 : Array Value := #[.long 5, .long 6, .long 7, .int 8, .int 9]
def aboutOver (below : List Frame) : State where
  vm := { classes := classes, interned := interned.toArray }
  heap := heap
  slotsUsed := slotsUsed
  threads := #[{ frames := .invoking theMethod args0 :: below }]
def below0 : List Frame := [.native { method := ⟨0, 0⟩, args := #[] }]
def about1 : State := aboutOver below0
def p0 : Program := .bare "" "" ""
def e0 : Env := launch0.env 0 0 0
theorem w_frames : about1.frames = Frame.invoking theMethod args0 :: below0 := rfl
set_option maxRecDepth 65536 in
theorem w_args : argsFit about1.vm theMethod args0 = true := by decide +kernel
set_option maxRecDepth 65536 in
theorem w_heap : heapFits about1 = true := by decide +kernel
set_option maxRecDepth 65536 in
theorem w_runnable : about1.curStatus? = some .runnable := by decide +kernel
set_option maxRecDepth 65536 in
theorem w_alone : about1.alone = true := by decide +kernel
set_option maxRecDepth 65536 in
theorem w_named : about1.methodNamed? x = some theMethod := by decide +kernel
set_option maxRecDepth 65536 in
theorem w_hears : about1.hears theMethod below0 = true := by decide +kernel
set_option maxRecDepth 65536 in
theorem w_ripe : about1.ripe theMethod args0 below0 = true := by decide +kernel
theorem w_running : about1.status = .running := rfl
set_option maxRecDepth 65536 in
theorem w_room : about1.hasRoom e0.platform room_1 = true :=
  launch0.hasRoom_least _ room_1 (by decide +kernel) (by decide +kernel) (by decide +kernel) (by decide +kernel) (by decide +kernel) (by decide +kernel)
theorem allAtoms_all (ts : List Jvm.Cond) (a : Array Jvm.Value) (st : Jvm.State) : (allAtoms ts).before a st = ts.all (fun c => c.before a st) := by
  induction ts with
  | nil => rfl
  | cons c t ih =>
    show (Jvm.Cond.and c (allAtoms t)).before a st = _
    rw [Jvm.Cond.before_and, ih, List.all_cons]
def words1 : List Jvm.Cond := Jvm.Cond.code x code maxLocals ret :: tables_1
/-- a 'code' word, met by the world's own term for the bytes: nothing is compared byte by byte -/
theorem code_word {y : MethodName} {bytes : ByteArray} {mx : Nat} {rt : Option FieldType} {a : Array Value} {s : State} {m : MethodId} {meth : Method} {c : Code} (h1 : s.methodNamed? y = some m) (h2 : s.vm.method? m = some meth) (h3 : meth.code = some c) (h4 : c.code = bytes)
    (h5 : (c.maxLocals == mx && c.exceptionTable.isEmpty && decide (c.maxStack ≤ mostOperands) && decide (meth.sig.returnType = rt) && !meth.locks && decide (parseMethodDescriptor y.desc = some meth.sig)) = true) : (Jvm.Cond.code y bytes mx rt).before a s = true := by
  simp only [Bool.and_eq_true, beq_iff_eq, Bool.not_eq_true', decide_eq_true_eq] at h5
  obtain ⟨⟨⟨⟨⟨g1, g2⟩, g3⟩, g4⟩, g5⟩, g6⟩ := h5
  simp [Cond.before, Cond.holds, Cond.value, h1, h2, h3, h4, g1, g2, g3, g4, g5, g6]
def isCode : Jvm.Cond → Bool
  | .code _ _ _ _ => true
  | _ => false
theorem all_split {L : List Jvm.Cond} {P : Jvm.Cond → Bool} (h1 : L.all (fun c => isCode c || P c) = true) (h2 : ∀ c ∈ L.filter isCode, P c = true) : L.all P = true := by
  refine List.all_eq_true.mpr fun c hc => ?_
  have h := List.all_eq_true.mp h1 c hc
  rcases Bool.eq_false_or_eq_true (isCode c) with hi | hi
  · exact h2 c (List.mem_filter.mpr ⟨hc, hi⟩)
  · simpa [hi] using h
set_option maxRecDepth 65536 in
theorem w_c0 : (Jvm.Cond.code x code maxLocals ret).before args0 about1 = true := code_word (m := ⟨1, 2⟩) (meth := k1m2) (c := k1c2) (by decide +kernel) rfl rfl rfl (by decide +kernel)
set_option maxRecDepth 65536 in
theorem w_c1 : (Jvm.Cond.code ({ cls := "com/example/portcall/portcall/cli/Latencies", name := "<init>", desc := "()V" } : Jvm.MethodName) prog_10_method_1_code (1 : Nat) (Option.none : Option Jvm.ClassFile.FieldType)).before args0 about1 = true := code_word (m := ⟨2, 0⟩) (meth := k2m0) (c := k2c0) (by decide +kernel) rfl rfl rfl (by decide +kernel)
set_option maxRecDepth 65536 in
theorem w_c2 : (Jvm.Cond.code ({ cls := "java/lang/Object", name := "<init>", desc := "()V" } : Jvm.MethodName) object_method_1_code (1 : Nat) (Option.none : Option Jvm.ClassFile.FieldType)).before args0 about1 = true := code_word (m := ⟨0, 0⟩) (meth := k0m0) (c := k0c0) (by decide +kernel) rfl rfl rfl (by decide +kernel)
set_option maxRecDepth 65536 in
theorem w_c3 : (Jvm.Cond.code ({ cls := "com/example/portcall/portcall/cli/Latencies", name := "record", desc := "(J)V" } : Jvm.MethodName) prog_10_method_2_code (5 : Nat) (Option.none : Option Jvm.ClassFile.FieldType)).before args0 about1 = true := code_word (m := ⟨2, 1⟩) (meth := k2m1) (c := k2c1) (by decide +kernel) rfl rfl rfl (by decide +kernel)
set_option maxRecDepth 65536 in
theorem w_c4 : (Jvm.Cond.code ({ cls := "java/lang/Math", name := "max", desc := "(JJ)J" } : Jvm.MethodName) jdk_29_method_66_code (4 : Nat) (Option.some Jvm.ClassFile.FieldType.long)).before args0 about1 = true := code_word (m := ⟨3, 2⟩) (meth := k3m2) (c := k3c2) (by decide +kernel) rfl rfl rfl (by decide +kernel)
set_option maxRecDepth 65536 in
theorem w_c5 : (Jvm.Cond.code ({ cls := "java/lang/Math", name := "min", desc := "(JJ)J" } : Jvm.MethodName) jdk_29_method_70_code (4 : Nat) (Option.some Jvm.ClassFile.FieldType.long)).before args0 about1 = true := code_word (m := ⟨3, 3⟩) (meth := k3m3) (c := k3c3) (by decide +kernel) rfl rfl rfl (by decide +kernel)
set_option maxRecDepth 65536 in
theorem w_c6 : (Jvm.Cond.code ({ cls := "com/example/portcall/portcall/cli/Latencies", name := "index", desc := "(J)I" } : Jvm.MethodName) prog_10_method_5_code (5 : Nat) (Option.some Jvm.ClassFile.FieldType.int)).before args0 about1 = true := code_word (m := ⟨2, 4⟩) (meth := k2m4) (c := k2c4) (by decide +kernel) rfl rfl rfl (by decide +kernel)
set_option maxRecDepth 65536 in
theorem w_c7 : (Jvm.Cond.code ({ cls := "com/example/portcall/portcall/cli/Latencies", name := "add", desc := "(Lcom/example/portcall/portcall/cli/Latencies;)V" } : Jvm.MethodName) prog_10_method_3_code (3 : Nat) (Option.none : Option Jvm.ClassFile.FieldType)).before args0 about1 = true := code_word (m := ⟨2, 2⟩) (meth := k2m2) (c := k2c2) (by decide +kernel) rfl rfl rfl (by decide +kernel)
set_option maxRecDepth 65536 in
theorem w_c8 : (Jvm.Cond.code ({ cls := "com/example/portcall/portcall/cli/Latencies", name := "percentile", desc := "(D)D" } : Jvm.MethodName) prog_10_method_4_code (8 : Nat) (Option.some Jvm.ClassFile.FieldType.double)).before args0 about1 = true := code_word (m := ⟨2, 3⟩) (meth := k2m3) (c := k2c3) (by decide +kernel) rfl rfl rfl (by decide +kernel)
set_option maxRecDepth 65536 in
theorem w_c9 : (Jvm.Cond.code ({ cls := "java/lang/Math", name := "ceil", desc := "(D)D" } : Jvm.MethodName) jdk_29_method_16_code (2 : Nat) (Option.some Jvm.ClassFile.FieldType.double)).before args0 about1 = true := code_word (m := ⟨3, 1⟩) (meth := k3m1) (c := k3c1) (by decide +kernel) rfl rfl rfl (by decide +kernel)
set_option maxRecDepth 65536 in
theorem w_c10 : (Jvm.Cond.code ({ cls := "java/lang/StrictMath", name := "ceil", desc := "(D)D" } : Jvm.MethodName) jdk_128_method_16_code (2 : Nat) (Option.some Jvm.ClassFile.FieldType.double)).before args0 about1 = true := code_word (m := ⟨4, 1⟩) (meth := k4m1) (c := k4c1) (by decide +kernel) rfl rfl rfl (by decide +kernel)
set_option maxRecDepth 65536 in
theorem w_c11 : (Jvm.Cond.code ({ cls := "java/lang/StrictMath", name := "floorOrCeil", desc := "(DDDD)D" } : Jvm.MethodName) jdk_128_method_18_code (15 : Nat) (Option.some Jvm.ClassFile.FieldType.double)).before args0 about1 = true := code_word (m := ⟨4, 2⟩) (meth := k4m2) (c := k4c2) (by decide +kernel) rfl rfl rfl (by decide +kernel)
set_option maxRecDepth 65536 in
theorem w_c12 : (Jvm.Cond.code ({ cls := "java/lang/Math", name := "getExponent", desc := "(D)I" } : Jvm.MethodName) jdk_29_method_92_code (2 : Nat) (Option.some Jvm.ClassFile.FieldType.int)).before args0 about1 = true := code_word (m := ⟨3, 4⟩) (meth := k3m4) (c := k3c4) (by decide +kernel) rfl rfl rfl (by decide +kernel)
set_option maxRecDepth 65536 in
theorem w_c13 : (Jvm.Cond.code ({ cls := "com/example/portcall/portcall/cli/Latencies", name := "middle", desc := "(I)D" } : Jvm.MethodName) prog_10_method_6_code (8 : Nat) (Option.some Jvm.ClassFile.FieldType.double)).before args0 about1 = true := code_word (m := ⟨2, 5⟩) (meth := k2m5) (c := k2c5) (by decide +kernel) rfl rfl rfl (by decide +kernel)
set_option maxRecDepth 65536 in
theorem w_c14 : (Jvm.Cond.code ({ cls := "com/example/portcall/portcall/cli/LatenciesAddPinLaw", name := "same", desc := "(DD)Z" } : Jvm.MethodName) method_2_code (4 : Nat) (Option.some Jvm.ClassFile.FieldType.boolean)).before args0 about1 = true := code_word (m := ⟨1, 1⟩) (meth := k1m1) (c := k1c1) (by decide +kernel) rfl rfl rfl (by decide +kernel)
set_option maxRecDepth 65536 in
theorem w_c15 : (Jvm.Cond.code ({ cls := "java/lang/Long", name := "numberOfLeadingZeros", desc := "(J)I" } : Jvm.MethodName) jdk_35_method_48_code (3 : Nat) (Option.some Jvm.ClassFile.FieldType.int)).before args0 about1 = true := code_word (m := ⟨11, 0⟩) (meth := k11m0) (c := k11c0) (by decide +kernel) rfl rfl rfl (by decide +kernel)
set_option maxRecDepth 65536 in
theorem w_c16 : (Jvm.Cond.code ({ cls := "java/lang/Integer", name := "numberOfLeadingZeros", desc := "(I)I" } : Jvm.MethodName) jdk_33_method_47_code (2 : Nat) (Option.some Jvm.ClassFile.FieldType.int)).before args0 about1 = true := code_word (m := ⟨12, 0⟩) (meth := k12m0) (c := k12c0) (by decide +kernel) rfl rfl rfl (by decide +kernel)
def codes1 : List Jvm.Cond := [Jvm.Cond.code x code maxLocals ret, Jvm.Cond.code ({ cls := "com/example/portcall/portcall/cli/Latencies", name := "<init>", desc := "()V" } : Jvm.MethodName) prog_10_method_1_code (1 : Nat) (Option.none : Option Jvm.ClassFile.FieldType), Jvm.Cond.code ({ cls := "java/lang/Object", name := "<init>", desc := "()V" } : Jvm.MethodName) object_method_1_code (1 : Nat) (Option.none : Option Jvm.ClassFile.FieldType), Jvm.Cond.code ({ cls := "com/example/portcall/portcall/cli/Latencies", name := "record", desc := "(J)V" } : Jvm.MethodName) prog_10_method_2_code (5 : Nat) (Option.none : Option Jvm.ClassFile.FieldType), Jvm.Cond.code ({ cls := "java/lang/Math", name := "max", desc := "(JJ)J" } : Jvm.MethodName) jdk_29_method_66_code (4 : Nat) (Option.some Jvm.ClassFile.FieldType.long), Jvm.Cond.code ({ cls := "java/lang/Math", name := "min", desc := "(JJ)J" } : Jvm.MethodName) jdk_29_method_70_code (4 : Nat) (Option.some Jvm.ClassFile.FieldType.long), Jvm.Cond.code ({ cls := "com/example/portcall/portcall/cli/Latencies", name := "index", desc := "(J)I" } : Jvm.MethodName) prog_10_method_5_code (5 : Nat) (Option.some Jvm.ClassFile.FieldType.int), Jvm.Cond.code ({ cls := "com/example/portcall/portcall/cli/Latencies", name := "add", desc := "(Lcom/example/portcall/portcall/cli/Latencies;)V" } : Jvm.MethodName) prog_10_method_3_code (3 : Nat) (Option.none : Option Jvm.ClassFile.FieldType), Jvm.Cond.code ({ cls := "com/example/portcall/portcall/cli/Latencies", name := "percentile", desc := "(D)D" } : Jvm.MethodName) prog_10_method_4_code (8 : Nat) (Option.some Jvm.ClassFile.FieldType.double), Jvm.Cond.code ({ cls := "java/lang/Math", name := "ceil", desc := "(D)D" } : Jvm.MethodName) jdk_29_method_16_code (2 : Nat) (Option.some Jvm.ClassFile.FieldType.double), Jvm.Cond.code ({ cls := "java/lang/StrictMath", name := "ceil", desc := "(D)D" } : Jvm.MethodName) jdk_128_method_16_code (2 : Nat) (Option.some Jvm.ClassFile.FieldType.double), Jvm.Cond.code ({ cls := "java/lang/StrictMath", name := "floorOrCeil", desc := "(DDDD)D" } : Jvm.MethodName) jdk_128_method_18_code (15 : Nat) (Option.some Jvm.ClassFile.FieldType.double), Jvm.Cond.code ({ cls := "java/lang/Math", name := "getExponent", desc := "(D)I" } : Jvm.MethodName) jdk_29_method_92_code (2 : Nat) (Option.some Jvm.ClassFile.FieldType.int), Jvm.Cond.code ({ cls := "com/example/portcall/portcall/cli/Latencies", name := "middle", desc := "(I)D" } : Jvm.MethodName) prog_10_method_6_code (8 : Nat) (Option.some Jvm.ClassFile.FieldType.double), Jvm.Cond.code ({ cls := "com/example/portcall/portcall/cli/LatenciesAddPinLaw", name := "same", desc := "(DD)Z" } : Jvm.MethodName) method_2_code (4 : Nat) (Option.some Jvm.ClassFile.FieldType.boolean), Jvm.Cond.code ({ cls := "java/lang/Long", name := "numberOfLeadingZeros", desc := "(J)I" } : Jvm.MethodName) jdk_35_method_48_code (3 : Nat) (Option.some Jvm.ClassFile.FieldType.int), Jvm.Cond.code ({ cls := "java/lang/Integer", name := "numberOfLeadingZeros", desc := "(I)I" } : Jvm.MethodName) jdk_33_method_47_code (2 : Nat) (Option.some Jvm.ClassFile.FieldType.int)]
set_option maxRecDepth 65536 in
theorem codes_eq : words1.filter isCode = codes1 := rfl
theorem w_codes : ∀ c ∈ words1.filter isCode, c.before args0 about1 = true := by
  rw [codes_eq]
  intro c hc
  simp only [codes1, List.mem_cons, List.not_mem_nil, or_false] at hc
  rcases hc with rfl | rfl | rfl | rfl | rfl | rfl | rfl | rfl | rfl | rfl | rfl | rfl | rfl | rfl | rfl | rfl | rfl
  · exact w_c0
  · exact w_c1
  · exact w_c2
  · exact w_c3
  · exact w_c4
  · exact w_c5
  · exact w_c6
  · exact w_c7
  · exact w_c8
  · exact w_c9
  · exact w_c10
  · exact w_c11
  · exact w_c12
  · exact w_c13
  · exact w_c14
  · exact w_c15
  · exact w_c16
set_option maxRecDepth 65536 in
theorem w_t1 : (words1.take 24).all (fun c => isCode c || c.before args0 about1) = true := by decide +kernel
set_option maxRecDepth 65536 in
theorem w_t2 : ((words1.drop 24).take 24).all (fun c => isCode c || c.before args0 about1) = true := by decide +kernel
set_option maxRecDepth 65536 in
theorem w_t3 : (((words1.drop 24).drop 24).take 24).all (fun c => isCode c || c.before args0 about1) = true := by decide +kernel
set_option maxRecDepth 65536 in
theorem w_t4 : (((words1.drop 24).drop 24).drop 24).all (fun c => isCode c || c.before args0 about1) = true := by decide +kernel
theorem w_tables : (allAtoms (Jvm.Cond.code x code maxLocals ret :: tables_1)).before args0 about1 = true := by
  rw [allAtoms_all]
  show words1.all (fun c => c.before args0 about1) = true
  refine all_split ?_ w_codes
  rw [← List.take_append_drop 24 words1, List.all_append, w_t1, ← List.take_append_drop 24 (words1.drop 24), List.all_append, w_t2, ← List.take_append_drop 24 ((words1.drop 24).drop 24), List.all_append, w_t3, w_t4]
  rfl
set_option maxRecDepth 65536 in
theorem w_rest : rest_1_c.before args0 about1 = true := by decide +kernel
set_option maxRecDepth 65536 in
theorem w_case : (Jvm.Cond.and given_1 narrow_1).before args0 about1 = true := by decide +kernel
theorem w_applies : (headSpec (Jvm.Cond.code x code maxLocals ret :: tables_1) room_1).applies x e0.platform about1 = true :=
  (Spec.applies_iff w_frames).mpr ⟨w_running, w_runnable, w_alone, w_named, w_hears, w_ripe, w_room, w_tables⟩
theorem atStart : AtStart classFile x code maxLocals ret World_1 tables_1 room_1 Calls_1 rest_1 Pre_1 launch0 p0 e0 about1 theMethod args0 below0 :=
  ⟨lists_1, trivial, launch0.admits_env _ _ _, launch0.least_env, fairChoices_fair.cas, fairChoices_fair.clock, w_frames, w_args, w_heap, w_applies, trivial, w_rest, w_case⟩
end start1
theorem witness_1 : WitnessClaimed_1 := ⟨start1.p0, start1.e0, start1.about1, start1.theMethod, start1.args0, start1.below0, start1.atStart⟩
end Jvm.Pilot.@@N@@
