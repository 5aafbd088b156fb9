import JvmDerived
import JvmDerived.Pilot.@@N@@Statement
import JvmDerived.Pilot.@@N@@Code
set_option linter.unusedVariables false
set_option linter.unusedSimpArgs false
namespace Jvm.Pilot.@@N@@
open Jvm Jvm.ClassFile Sem Op Lib Jvm.Free Jvm.Stand Jvm.LawKit Jvm.RoadKit Bundle Jvm.Pilot.@@N@@.Jvm.D

/-! ## own kit: a walk as a tree -/
section OwnKit
variable {p : Program} {l : Launch} {e : Env} {R : Room} {s : State} {m : MethodId} {args : Array Value} {below : List Frame} {meth : Method} {c : Code} {T T' : State} {locs : List Loc} {cells slots : Nat} {Q : Option Value → Heap → List Loc → Prop} {f f' : JFrame} {Z : State} {a0 : Array Value} {h h' : Heap}
/-- from here the body comes to its return, and Q holds there -/
def Go (p : Program) (e : Env) (s : State) (below : List Frame) (R : Room) (Q : Option Value → Heap → List Loc → Prop) (T : State) (f : JFrame) : Prop :=
  ∃ s₂ o, Steps p.tables e below (T.setTop f) s₂ ∧ s₂.status = .running ∧ Ended s₂ below o ∧ ∃ v L, o = .returned v ∧ Q v s₂.heap L ∧ FrameEnd s o s₂ L R.cells R.slots
theorem Go.of (k : ∀ t, Steps p.tables e below (T'.setTop f') t → Steps p.tables e below (T.setTop f) t) (G : Go p e s below R Q T' f') : Go p e s below R Q T f := by
  obtain ⟨s2, o, h1, h2⟩ := G
  exact ⟨s2, o, k _ h1, h2⟩
theorem Go.cast (q : f = f') (G : Go p e s below R Q T f') : Go p e s below R Q T f := q ▸ G
theorem Go.retO (X : Stand p l e R s m args below meth c T locs cells slots) (hx : p.tables.exec = Jvm.exec) (hlk : meth.locks = false) {pc : Nat} {Ls : Array Slot} {w : Value} {t : FieldType} {i : Instr} {rest : List Value} (hret : meth.sig.returnType = some t) (hn : narrow t w = w)
    (hi : (i = .ireturn ∧ (t = .int ∨ t = .boolean ∨ t = .byte ∨ t = .char ∨ t = .short) ∧ ∃ z, w = .int z) ∨ (i = .lreturn ∧ t = .long ∧ ∃ z, w = .long z) ∨ (i = .dreturn ∧ t = .double ∧ ∃ z, w = .double z) ∨ (i = .freturn ∧ t = .float ∧ ∃ z, w = .float z) ∨ (i = .areturn ∧ t.isReference = true ∧ w.isRef = true))
    (hd : decode c.code pc = .ok (i, 1)) (hc : cells ≤ R.cells) (hs : slots ≤ R.slots) (hq : Q (some w) T.heap locs) : Go p e s below R Q T (mkF m pc Ls (w :: rest)) := by
  obtain ⟨fs, hr, hrun, hended, hW, hsame⟩ := X.leave (v := some w) (fun h => by rw [hret] at h; cases h) hlk
  exact ⟨_, _, retOut X hx hret hn hi hd hr, hrun, hended, _, _, rfl, hq, ⟨_, rfl⟩, hW, hsame.mono hc hs⟩
theorem Go.retI (X : Stand p l e R s m args below meth c T locs cells slots) (hx : p.tables.exec = Jvm.exec) (hlk : meth.locks = false) (hret : meth.sig.returnType = some .int) {pc : Nat} {Ls : Array Slot} {z : Int32} {rest : List Value}
    (hd : decode c.code pc = .ok (.ireturn, 1)) (hc : cells ≤ R.cells) (hs : slots ≤ R.slots) (hq : Q (some (.int z)) T.heap locs) : Go p e s below R Q T (mkF m pc Ls (.int z :: rest)) :=
  Go.retO X hx hlk hret rfl (Or.inl ⟨rfl, Or.inl rfl, _, rfl⟩) hd hc hs hq
theorem Go.retJ (X : Stand p l e R s m args below meth c T locs cells slots) (hx : p.tables.exec = Jvm.exec) (hlk : meth.locks = false) (hret : meth.sig.returnType = some .long) {pc : Nat} {Ls : Array Slot} {z : Int64} {rest : List Value}
    (hd : decode c.code pc = .ok (.lreturn, 1)) (hc : cells ≤ R.cells) (hs : slots ≤ R.slots) (hq : Q (some (.long z)) T.heap locs) : Go p e s below R Q T (mkF m pc Ls (.long z :: rest)) :=
  Go.retO X hx hlk hret rfl (Or.inr (Or.inl ⟨rfl, rfl, _, rfl⟩)) hd hc hs hq
theorem Go.retD (X : Stand p l e R s m args below meth c T locs cells slots) (hx : p.tables.exec = Jvm.exec) (hlk : meth.locks = false) (hret : meth.sig.returnType = some .double) {pc : Nat} {Ls : Array Slot} {z : UInt64} {rest : List Value}
    (hd : decode c.code pc = .ok (.dreturn, 1)) (hc : cells ≤ R.cells) (hs : slots ≤ R.slots) (hq : Q (some (.double z)) T.heap locs) : Go p e s below R Q T (mkF m pc Ls (.double z :: rest)) :=
  Go.retO X hx hlk hret rfl (Or.inr (Or.inr (Or.inl ⟨rfl, rfl, _, rfl⟩))) hd hc hs hq
theorem Go.retA (X : Stand p l e R s m args below meth c T locs cells slots) (hx : p.tables.exec = Jvm.exec) (hlk : meth.locks = false) {t : FieldType} (hret : meth.sig.returnType = some t) (ht : t.isReference = true) {pc : Nat} {Ls : Array Slot} {w : Value} {rest : List Value}
    (hw : w.isRef = true) (hd : decode c.code pc = .ok (.areturn, 1)) (hc : cells ≤ R.cells) (hs : slots ≤ R.slots) (hq : Q (some w) T.heap locs) : Go p e s below R Q T (mkF m pc Ls (w :: rest)) :=
  Go.retO X hx hlk hret (by cases t <;> first | (cases ht; done) | rfl) (Or.inr (Or.inr (Or.inr (Or.inr ⟨rfl, ht, hw⟩)))) hd hc hs hq
theorem Go.retB (X : Stand p l e R s m args below meth c T locs cells slots) (hx : p.tables.exec = Jvm.exec) (hlk : meth.locks = false) {t : FieldType} (hret : meth.sig.returnType = some t) (ht : t = .boolean ∨ t = .byte ∨ t = .char ∨ t = .short) {pc : Nat} {Ls : Array Slot} {z : Int32} {rest : List Value}
    (hd : decode c.code pc = .ok (.ireturn, 1)) (hc : cells ≤ R.cells) (hs : slots ≤ R.slots) {z' : Int32} (hz : nar t z = z') (hq : Q (some (.int z')) T.heap locs) : Go p e s below R Q T (mkF m pc Ls (.int z :: rest)) := by
  subst hz
  obtain ⟨fs, hr, hrun, hended, hW, hsame⟩ := X.leave (v := some (.int (nar t z))) (fun h => by rw [hret] at h; cases h) hlk
  exact ⟨_, _, retN X hx hret ht hd hr, hrun, hended, _, _, rfl, hq, ⟨_, rfl⟩, hW, hsame.mono hc hs⟩
theorem Go.retV (X : Stand p l e R s m args below meth c T locs cells slots) (hx : p.tables.exec = Jvm.exec) (hlk : meth.locks = false) (hret : meth.sig.returnType = none) {pc : Nat} {Ls : Array Slot}
    (hd : decode c.code pc = .ok (.return_, 1)) (hc : cells ≤ R.cells) (hs : slots ≤ R.slots) (hq : Q none T.heap locs) : Go p e s below R Q T (mkF m pc Ls []) := by
  obtain ⟨fs, hr, hrun, hended, hW, hsame⟩ := X.leave (v := none) (fun _ => rfl) hlk
  exact ⟨_, _, X.returnOut hx hret hd hr, hrun, hended, _, _, rfl, hq, ⟨_, rfl⟩, hW, hsame.mono hc hs⟩
/-- a body's contract: handed as', over the heap h, it returns and Q holds -/
def Ok (l : Launch) (Z : State) (y : MethodName) (bytes : ByteArray) (maxL : Nat) (ret : Option FieldType) (rm : Room) (as' : Array Value) (h : Heap) (Q : Option Value → Heap → List Loc → Prop) : Prop :=
  ∀ ws : List Jvm.Cond, MetFree l y (head1 (Jvm.Cond.code y bytes maxL ret :: ws) rm) (fun a U => a = as' ∧ Z.Warmed39 U.vm ∧ U.heap = h) (fun _ _ _ _ _ => True) (fun _ U o U' => ∃ v L, o = .returned v ∧ Q v U'.heap L ∧ FrameEnd U o U' L rm.cells rm.slots)
theorem Ok.mk {y : MethodName} {bytes : ByteArray} {maxL : Nat} {ret : Option FieldType} {rm : Room} {as' : Array Value} (hn : plainFor y = true)
    (k : ∀ p e s m below meth c s₁, p.tables.exec = Jvm.exec → c.code = bytes → c.maxLocals = maxL → s.vm.findClass y.cls = some m.cls → meth.name = y.name → meth.sig.returnType = ret → meth.locks = false → Z.Warmed39 s.vm → s₁.heap = h → Stand p l e rm s m as' below meth c s₁ [] 0 0 → Go p e s below rm Q s₁ (entryFrame m as' maxL)) :
    Ok l Z y bytes maxL ret rm as' h Q := by
  intro ws
  refine MetFree.of_bodySF hn hisR ?_
  intro p e s m args below meth c s₁ Bd hml0 hP hK
  obtain ⟨rfl, hZ, hh⟩ := hP
  exact k p e s m below meth c s₁ Bd.exec Bd.bytes hml0 (findClass_of_methodNamed Bd.named) (name_of_methodNamed Bd.named Bd.method).1 Bd.returns Bd.notSynchronized hZ (by rw [← hh, Bd.state]; rfl) (Stand.of_body Bd)
theorem callSt (X : Stand p l e R s m args below meth c T locs cells slots) (hx : p.tables.exec = Jvm.exec) (hZ : Z.Warmed39 s.vm) {own : String} {index : Nat} {y : MethodName} {bytes : ByteArray} {maxL : Nat} {ret : Option FieldType} {rm : Room} {as' : Array Value}
    (hown : s.vm.findClass own = some m.cls) (w1 : (Jvm.Cond.methodLink own index y).before a0 Z = true) (w2 : (Jvm.Cond.static y).before a0 Z = true) (w3 : (Jvm.Cond.initialized y.cls).before a0 Z = true) (w4 : (Jvm.Cond.code y bytes maxL ret).before a0 Z = true)
    (hy : y.cls ≠ "java/lang/invoke/MethodHandle" ∧ y.cls ≠ "java/lang/invoke/VarHandle") (hM : Ok l Z y bytes maxL ret rm as' h Q) (eT : T.heap = h) {W : Nat} (hf : rm.frames + 1 ≤ R.frames) (hl : W + (maxL + 11) + rm.locals ≤ R.locals) (hc : cells + rm.cells ≤ R.cells) (hs : slots + rm.slots ≤ R.slots)
    {g : JFrame} (hg : g.method = m) (hsize : g.locals.size = c.maxLocals) {argsL rest : List Value} (hlen : ∀ sig, parseMethodDescriptor y.desc = some sig → argsL.length = sig.parameters.length) (has : argsL.toArray = as')
    (hstack : g.stack = argsL.reverse ++ rest) (hW : 2 * g.monitorRoom + (rest.map fun v => v.category).sum ≤ W) (hd : decode c.code g.pc = .ok (.invokestatic index, 3)) :
    ∃ T' v L, Stand p l e R s m args below meth c T' (locs ++ L) (cells + rm.cells) (slots + rm.slots) ∧ Q v T'.heap L ∧ ∀ t, Steps p.tables e below (T'.setTop { g with pc := g.pc + 3, stack := v.toList ++ rest }) t → Steps p.tables e below (T.setTop g) t := by
  subst has
  obtain ⟨v, _, ⟨T1, L1, k1, n1⟩, -, X1, ⟨Lc, hQ, l1, y1, z1⟩, st⟩ := Jvm.LawKit.callS X hx (y := y) hown (mvT hZ w1) (mvT hZ w2) (mvT hZ w3) (mvT hZ w4) hy (backOf (W := W) (hM []) hZ w4 w3 hf hl) hg hsize hlen hstack hW hd (fun _ _ => ⟨rfl, eT, hc, hs⟩)
  dsimp only [Pt.U, Pt.locs, Pt.cells, Pt.slots] at X1 l1 y1 z1 st hQ
  subst l1 y1 z1
  exact ⟨T1, v, Lc, X1, hQ, st⟩
theorem callNew (X : Stand p l e R s m args below meth c T locs cells slots) (hx : p.tables.exec = Jvm.exec) (hZ : Z.Warmed39 s.vm) {own : String} {index : Nat} {y : MethodName} {bytes : ByteArray} {maxL : Nat} {rm : Room} {as' : Array Value} (hy1 : y.name = "<init>")
    (hown : s.vm.findClass own = some m.cls) (w1 : (Jvm.Cond.methodLink own index y).before a0 Z = true) (w2 : (Jvm.Cond.instanceMethod y).before a0 Z = true) (w3 : (Jvm.Cond.initialized y.cls).before a0 Z = true) (w4 : (Jvm.Cond.code y bytes maxL none).before a0 Z = true)
    (hy : y.cls ≠ "java/lang/invoke/MethodHandle" ∧ y.cls ≠ "java/lang/invoke/VarHandle") (hM : Ok l Z y bytes maxL none rm as' h Q) (eT : T.heap = h) {W : Nat} (hf : rm.frames + 1 ≤ R.frames) (hl : W + (maxL + 11) + rm.locals ≤ R.locals) (hc : cells + rm.cells ≤ R.cells) (hs : slots + rm.slots ≤ R.slots)
    {g : JFrame} (hg : g.method = m) (hsize : g.locals.size = c.maxLocals) {a : Addr} {argsL rest : List Value} (hlen : ∀ sig, parseMethodDescriptor y.desc = some sig → argsL.length = sig.parameters.length) (has : (.ref a :: argsL).toArray = as')
    (hstack : g.stack = argsL.reverse ++ .ref a :: rest) (hW : 2 * g.monitorRoom + (rest.map fun v => v.category).sum ≤ W) (hd : decode c.code g.pc = .ok (.invokespecial index, 3)) :
    ∃ T' v L, Stand p l e R s m args below meth c T' (locs ++ L) (cells + rm.cells) (slots + rm.slots) ∧ Q v T'.heap L ∧ ∀ t, Steps p.tables e below (T'.setTop { g with pc := g.pc + 3, stack := v.toList ++ rest }) t → Steps p.tables e below (T.setTop g) t := by
  subst has
  obtain ⟨v, _, ⟨T1, L1, k1, n1⟩, -, X1, ⟨Lc, hQ, l1, y1, z1⟩, st⟩ := X.specialBack hx (y := y) hy1 hown (mvT hZ w1) (mvT hZ w2) (mvT hZ w4) hy (backOf (W := W) (hM []) hZ w4 w3 hf hl) hg hsize (Steps.refl _) (a := a) hlen hstack hW hd (fun _ _ => ⟨rfl, eT, hc, hs⟩)
  dsimp only [Pt.U, Pt.locs, Pt.cells, Pt.slots] at X1 l1 y1 z1 st hQ
  subst l1 y1 z1
  exact ⟨T1, v, Lc, X1, hQ, fun t k => st.trans k⟩
theorem callVi (X : Stand p l e R s m args below meth c T locs cells slots) (hx : p.tables.exec = Jvm.exec) (hZ : Z.Warmed39 s.vm) {own C : String} {index : Nat} {y z : MethodName} {bytes : ByteArray} {maxL : Nat} {ret : Option FieldType} {rm : Room} {as' : Array Value}
    (hown : s.vm.findClass own = some m.cls) (w1 : (Jvm.Cond.methodLink own index y).before a0 Z = true) (w2 : (Jvm.Cond.declares y).before a0 Z = true) (nf : NotFace s y) (w3 : (Jvm.Cond.selects C y z).before a0 Z = true) (w4 : (Jvm.Cond.instanceMethod z).before a0 Z = true) (w5 : (Jvm.Cond.code z bytes maxL ret).before a0 Z = true) (w6 : (Jvm.Cond.initialized z.cls).before a0 Z = true)
    (hy : y.cls ≠ "java/lang/invoke/MethodHandle" ∧ y.cls ≠ "java/lang/invoke/VarHandle") (hM : Ok l Z z bytes maxL ret rm as' h Q) (eT : T.heap = h) {W : Nat} (hf : rm.frames + 1 ≤ R.frames) (hl : W + (maxL + 11) + rm.locals ≤ R.locals) (hc : cells + rm.cells ≤ R.cells) (hs : slots + rm.slots ≤ R.slots)
    {a : Addr} (E : Exa Z h a C) {g : JFrame} (hg : g.method = m) (hsize : g.locals.size = c.maxLocals) {argsL rest : List Value} (hlen : ∀ sig, parseMethodDescriptor y.desc = some sig → argsL.length = sig.parameters.length) (has : (.ref a :: argsL).toArray = as')
    (hstack : g.stack = argsL.reverse ++ .ref a :: rest) (hW : 2 * g.monitorRoom + (rest.map fun v => v.category).sum ≤ W) (hd : decode c.code g.pc = .ok (.invokevirtual index, 3)) :
    ∃ T' v L, Stand p l e R s m args below meth c T' (locs ++ L) (cells + rm.cells) (slots + rm.slots) ∧ Q v T'.heap L ∧ ∀ t, Steps p.tables e below (T'.setTop { g with pc := g.pc + 3, stack := v.toList ++ rest }) t → Steps p.tables e below (T.setTop g) t := by
  subst has
  obtain ⟨cq, kq, qa, qb, qc⟩ := isOf hZ eT E
  obtain ⟨v, _, ⟨T1, L1, k1, n1⟩, -, X1, ⟨Lc, hQ, l1, y1, z1⟩, st⟩ := X.virtualBack hx (y := y) (z := z) hown (mvT hZ w1) (mvT hZ w2) nf (mvT hZ w3) (mvT hZ w4) hy (backOf (W := W) (hM []) hZ w5 w6 hf hl) qa qc hg hsize (Steps.refl _) hlen hstack hW hd (fun _ _ => ⟨rfl, eT, hc, hs⟩)
  dsimp only [Pt.U, Pt.locs, Pt.cells, Pt.slots] at X1 l1 y1 z1 st hQ
  subst l1 y1 z1
  exact ⟨T1, v, Lc, X1, hQ, fun t k => st.trans k⟩
/-- a new object at the address a: a fresh name for the heap's end -/
theorem newOb (X : Stand p l e R s m args below meth c T locs cells slots) (hx : p.tables.exec = Jvm.exec) (hZ : Z.Warmed39 s.vm) {own C : String} {index n : Nat} (hown : s.vm.findClass own = some m.cls) (w : (Jvm.Cond.classLink own index C).before a0 Z = true) (wi : (Jvm.Cond.instantiable C n).before a0 Z = true) (wz : (Jvm.Cond.initialized C).before a0 Z = true) (eT : T.heap = h)
    {g : JFrame} (hg : g.method = m) (hd : decode c.code g.pc = .ok (.new index, 3)) (hc : cells + 1 ≤ R.cells) (hl : slots + n ≤ R.slots) :
    ∃ T' h' a, a = h.size ∧ Stand p l e R s m args below meth c T' locs (cells + 1) (slots + n) ∧ T'.heap = h' ∧ Ext h h' ∧ Exa Z h' a C ∧ (∀ {O nm d : String} {ty : FieldType}, Laid Z a0 C O nm d → parseFieldDescriptor d = some ty → Fld Z h' a O nm d (defaultValue ty)) ∧
      ∀ t, Steps p.tables e below (T'.setTop { g with pc := g.pc + 3, stack := .ref a :: g.stack }) t → Steps p.tables e below (T.setTop g) t := by
  obtain ⟨T2, h2, X2, e2, E2, A2, D2, -, st2⟩ := newO X hx hZ hown w wi wz eT hg hd hc hl
  exact ⟨T2, h2, h.size, rfl, X2, e2, E2, A2, D2, st2⟩
theorem Old0.keep {ws : List Addr} (X : Ext Z.heap h) (K : Keep h h' ws) (q : ∀ x ∈ ws, Z.heap.size ≤ x) : Ext Z.heap h' := (Old.keep (n0 := Z.heap.size) ⟨rfl, X⟩ K q).2
theorem Old0.wr {a : Addr} {sl : Nat} {v : Value} (X : Ext Z.heap h) (W : Wr h h' a sl v) (q : Z.heap.size ≤ a) : Ext Z.heap h' := (Old.wr (n0 := Z.heap.size) ⟨rfl, X⟩ W q).2
theorem Old0.ext (X : Ext Z.heap h) (E : Ext h h') : Ext Z.heap h' := (Old.ext (n0 := Z.heap.size) ⟨rfl, X⟩ E).2
theorem ext_rfl : Ext h h := ⟨Nat.le_refl _, fun _ _ q => q⟩
theorem eqI_v {first : State} {o : Option Outcome} {idx : List Nat} {a : Term} {k : Int32} (q : (Jvm.Cond.eq a (.int k)).value args first o s idx = some true) : a.eval args first o idx s = some (.int k) := by
  cases ha : a.eval args first o idx s with
  | none => simp [Jvm.Cond.value, ha] at q
  | some x => cases x <;> simp [Jvm.Cond.value, ha, Term.eval] at q ⊢; exact q
theorem eqJ_v {first : State} {o : Option Outcome} {idx : List Nat} {a : Term} {k : Int64} (q : (Jvm.Cond.eq a (.long k)).value args first o s idx = some true) : a.eval args first o idx s = some (.long k) := by
  cases ha : a.eval args first o idx s with
  | none => simp [Jvm.Cond.value, ha] at q
  | some x => cases x <;> simp [Jvm.Cond.value, ha, Term.eval] at q ⊢; exact q
theorem eqR_v {first : State} {o : Option Outcome} {idx : List Nat} {a b : Term} {x : Addr} (hb : b.eval args first o idx s = some (.ref x)) (q : (Jvm.Cond.eq a b).value args first o s idx = some true) : a.eval args first o idx s = some (.ref x) := by
  cases ha : a.eval args first o idx s with
  | none => simp [Jvm.Cond.value, ha] at q
  | some x => cases x <;> simp [Jvm.Cond.value, ha, hb] at q ⊢; exact q
theorem callPr (X : Stand p l e R s m args below meth c T locs cells slots) (hx : p.tables.exec = Jvm.exec) (hZ : Z.Warmed39 s.vm) {own : String} {index : Nat} {y : MethodName} {bytes : ByteArray} {maxL : Nat} {ret : Option FieldType} {rm : Room} {as' : Array Value}
    (hown : s.vm.findClass own = some m.cls) (w1 : (Jvm.Cond.methodLink own index y).before a0 Z = true) (w2 : (Jvm.Cond.instanceMethod y).before a0 Z = true) (w3 : (Jvm.Cond.selects y.cls y y).before a0 Z = true) (w4 : (Jvm.Cond.privateMethod y).before a0 Z = true) (w5 : (Jvm.Cond.initialized y.cls).before a0 Z = true) (w6 : (Jvm.Cond.code y bytes maxL ret).before a0 Z = true)
    (hy : y.cls ≠ "java/lang/invoke/MethodHandle" ∧ y.cls ≠ "java/lang/invoke/VarHandle") (hM : Ok l Z y bytes maxL ret rm as' h Q) (eT : T.heap = h) {W : Nat} (hf : rm.frames + 1 ≤ R.frames) (hl : W + (maxL + 11) + rm.locals ≤ R.locals) (hc : cells + rm.cells ≤ R.cells) (hs : slots + rm.slots ≤ R.slots)
    {C : String} {a : Addr} (E : Exa Z h a C) {g : JFrame} (hg : g.method = m) (hsize : g.locals.size = c.maxLocals) {argsL rest : List Value} (hlen : ∀ sig, parseMethodDescriptor y.desc = some sig → argsL.length = sig.parameters.length) (has : (.ref a :: argsL).toArray = as')
    (hstack : g.stack = argsL.reverse ++ .ref a :: rest) (hW : 2 * g.monitorRoom + (rest.map fun v => v.category).sum ≤ W) (hd : decode c.code g.pc = .ok (.invokevirtual index, 3)) :
    ∃ T' v L, Stand p l e R s m args below meth c T' (locs ++ L) (cells + rm.cells) (slots + rm.slots) ∧ Q v T'.heap L ∧ ∀ t, Steps p.tables e below (T'.setTop { g with pc := g.pc + 3, stack := v.toList ++ rest }) t → Steps p.tables e below (T.setTop g) t := by
  subst has
  obtain ⟨cq, q1, q2⟩ := E.cell
  obtain ⟨v, _, ⟨T1, L1, k1, n1⟩, -, X1, ⟨Lc, hQ, l1, y1, z1⟩, st⟩ := X.privateBack hx (y := y) hown (mvT hZ w1) (mvT hZ w2) (mvT hZ w3) (Cond.privateMethod_at (mvP hZ w4 (args := #[]))) (mvT hZ w6) hy (backOf (W := W) (hM []) hZ w6 w5 hf hl) hg hsize (Steps.refl _) (a := a) (by rw [eT]; exact q1) q2 hlen hstack hW hd (fun _ _ => ⟨rfl, eT, hc, hs⟩)
  dsimp only [Pt.U, Pt.locs, Pt.cells, Pt.slots] at X1 l1 y1 z1 st hQ
  subst l1 y1 z1
  exact ⟨T1, v, Lc, X1, hQ, fun t k => st.trans k⟩
theorem callIf (X : Stand p l e R s m args below meth c T locs cells slots) (hx : p.tables.exec = Jvm.exec) (hZ : Z.Warmed39 s.vm) {own C : String} {index count : Nat} {xi y : MethodName} {bytes : ByteArray} {maxL : Nat} {ret : Option FieldType} {rm : Room} {as' : Array Value}
    (hown : s.vm.findClass own = some m.cls) (w1 : (Jvm.Cond.methodLink own index xi).before a0 Z = true) (w2 : (Jvm.Cond.declares xi).before a0 Z = true) (w3 : (Jvm.Cond.interfaceMethod xi.cls xi.cls xi.name xi.desc).before args s = true) (w4 : (Jvm.Cond.selects C xi y).before a0 Z = true) (w5 : (Jvm.Cond.instanceMethod y).before a0 Z = true) (w6 : (Jvm.Cond.publicMethod y).before a0 Z = true) (w7 : (Jvm.Cond.unhidden C xi.name xi.desc).before a0 Z = true) (w8 : (Jvm.Cond.castable C xi.cls).before a0 Z = true) (w9 : (Jvm.Cond.code y bytes maxL ret).before a0 Z = true) (w10 : (Jvm.Cond.initialized y.cls).before a0 Z = true)
    (hy : xi.cls ≠ "java/lang/invoke/MethodHandle" ∧ xi.cls ≠ "java/lang/invoke/VarHandle") (hM : Ok l Z y bytes maxL ret rm as' h Q) (eT : T.heap = h) {W : Nat} (hf : rm.frames + 1 ≤ R.frames) (hl : W + (maxL + 11) + rm.locals ≤ R.locals) (hc : cells + rm.cells ≤ R.cells) (hs : slots + rm.slots ≤ R.slots)
    {a : Addr} (E : Exa Z h a C) {g : JFrame} (hg : g.method = m) (hsize : g.locals.size = c.maxLocals) {argsL rest : List Value} (hlen : ∀ sig, parseMethodDescriptor xi.desc = some sig → argsL.length = sig.parameters.length) (has : (.ref a :: argsL).toArray = as')
    (hstack : g.stack = argsL.reverse ++ .ref a :: rest) (hW : 2 * g.monitorRoom + (rest.map fun v => v.category).sum ≤ W) (hd : decode c.code g.pc = .ok (.invokeinterface index count, 5)) :
    ∃ T' v L, Stand p l e R s m args below meth c T' (locs ++ L) (cells + rm.cells) (slots + rm.slots) ∧ Q v T'.heap L ∧ ∀ t, Steps p.tables e below (T'.setTop { g with pc := g.pc + 5, stack := v.toList ++ rest }) t → Steps p.tables e below (T.setTop g) t := by
  subst has
  obtain ⟨cq, kq, qa, qb, qc⟩ := isOf hZ eT E
  obtain ⟨v, _, ⟨T1, L1, k1, n1⟩, -, X1, ⟨Lc, hQ, l1, y1, z1⟩, st⟩ := X.interfaceBack hx (xi := xi) (y := y) hown (mvT hZ w1) (mvT hZ w2) w3 (mvT hZ w4) (mvT hZ w5) (mvT hZ w6) (mvT hZ w7) (mvT hZ w8) hy (backOf (W := W) (hM []) hZ w9 w10 hf hl) qa qb qc hg hsize (Steps.refl _) hlen hstack hW hd (fun _ _ => ⟨rfl, eT, hc, hs⟩)
  dsimp only [Pt.U, Pt.locs, Pt.cells, Pt.slots] at X1 l1 y1 z1 st hQ
  subst l1 y1 z1
  exact ⟨T1, v, Lc, X1, hQ, fun t k => st.trans k⟩
theorem newAr (X : Stand p l e R s m args below meth c T locs cells slots) (hx : p.tables.exec = Jvm.exec) (hZ : Z.Warmed39 s.vm) {aty : ArrayType} (w : (Jvm.Cond.arrayClass (newarray.typeOf aty)).before a0 Z = true) (eT : T.heap = h) {g : JFrame} (hg : g.method = m) (hd : decode c.code g.pc = .ok (.newarray aty, 2)) {n : Int32} {rest : List Value} (hs : g.stack = .int n :: rest)
    (hn : ¬ n < 0) {cap : Nat} (hcap : n.toNatClampNeg ≤ cap) (hb : cap * 8 ≤ 536870912) (hc : cells + 1 ≤ R.cells) (hl : slots + cap ≤ R.slots) {ad : String} (had : "[" ++ (newarray.typeOf aty).toString = ad) :
    ∃ T' h' k a, a = h.size ∧ Stand p l e R s m args below meth c T' locs (cells + 1) (slots + cap) ∧ T'.heap = h' ∧ Ext h h' ∧ Arv Z h' a k (newarray.typeOf aty) n [] (defaultValue (newarray.typeOf aty)) ∧ Exa Z h' a ad ∧
      ∀ t, Steps p.tables e below (T'.setTop { g with pc := g.pc + 2, stack := .ref a :: rest }) t → Steps p.tables e below (T.setTop g) t := by
  obtain ⟨T2, h2, k, X2, e2, E2, A2, B2, st2⟩ := newPE X hx hZ w eT hg hd hs hn hcap hb hc hl had
  exact ⟨T2, h2, k, h.size, rfl, X2, e2, E2, Arv.new A2 hn, B2, st2⟩
theorem newRr (X : Stand p l e R s m args below meth c T locs cells slots) (hx : p.tables.exec = Jvm.exec) (hZ : Z.Warmed39 s.vm) {own C : String} {index : Nat} (hown : s.vm.findClass own = some m.cls) (w1 : (Jvm.Cond.classLink own index C).before a0 Z = true) (w2 : (Jvm.Cond.arrayOver (.object C)).before a0 Z = true)
    (eT : T.heap = h) {g : JFrame} (hg : g.method = m) (hd : decode c.code g.pc = .ok (.anewarray index, 3)) {n : Int32} {rest : List Value} (hs : g.stack = .int n :: rest) (hn : ¬ n < 0) {cap : Nat} (hcap : n.toNatClampNeg ≤ cap) (hb : cap * 8 ≤ 536870912) (hc : cells + 1 ≤ R.cells) (hl : slots + cap ≤ R.slots) {ad : String} (had : "[" ++ (FieldType.object C).toString = ad) :
    ∃ T' h' k a, a = h.size ∧ Stand p l e R s m args below meth c T' locs (cells + 1) (slots + cap) ∧ T'.heap = h' ∧ Ext h h' ∧ Arv Z h' a k (.object C) n [] .null ∧ Exa Z h' a ad ∧ Ovr Z k C ∧
      ∀ t, Steps p.tables e below (T'.setTop { g with pc := g.pc + 3, stack := .ref a :: rest }) t → Steps p.tables e below (T.setTop g) t := by
  obtain ⟨T2, h2, k, X2, e2, E2, A2, B2, O2, st2⟩ := newRE X hx hZ hown w1 w2 eT hg hd hs hn hcap hb hc hl had
  exact ⟨T2, h2, k, h.size, rfl, X2, e2, E2, Arv.new A2 hn, B2, O2, st2⟩
theorem own_len {t : Term} {a : Addr} {cl : Cell} {ty : FieldType} {k : Int32} (ev : t.eval args s none [] s = some (.ref a)) (A : Arr s s.heap a cl ty) (q : (Term.length t).eval args s none [] s = some (.int k)) : cl.slots.size < 2 ^ 31 ∧ cl.slots.size.toInt32 = k := by
  have ha := Arr.fin (U := s) (Vm.Alike.refl _) A
  simp only [Term.eval, ev] at q
  simp at q
  rw [ha] at q
  simp only [Option.bind_some] at q
  split at q
  · rename_i hlt
    simp only [Option.some.injEq, Value.int.injEq] at q
    exact ⟨hlt, q⟩
  · cases q
theorem own_el {t : Term} {a : Addr} {cl : Cell} {ty : FieldType} {j : Int32} {v : Value} (ev : t.eval args s none [] s = some (.ref a)) (A : Arr s s.heap a cl ty) (q : (Term.elem t (.int j)).eval args s none [] s = some v) : cl.slots[j.toNatClampNeg]? = some v :=
  (elem_in q ev rfl A.1).2
theorem cloneV (X : Stand p l e R s m args below meth c T locs cells slots) (hx : p.tables.exec = Jvm.exec) (hZ : Z.Warmed39 s.vm) {own ad : String} {index : Nat} (hown : s.vm.findClass own = some m.cls)
    (w1 : (Jvm.Cond.methodLink own index ⟨ad, "clone", "()Ljava/lang/Object;"⟩).before a0 Z = true) (w2 : (Jvm.Cond.sameMethod ad "java/lang/Object" "clone" "()Ljava/lang/Object;").before a0 Z = true) (w3 : (Jvm.Cond.native ⟨"java/lang/Object", "clone", "()Ljava/lang/Object;"⟩).before a0 Z = true)
    (w4 : (Jvm.Cond.instanceMethod ⟨"java/lang/Object", "clone", "()Ljava/lang/Object;"⟩).before a0 Z = true) (w5 : (Jvm.Cond.selects ad ⟨ad, "clone", "()Ljava/lang/Object;"⟩ ⟨"java/lang/Object", "clone", "()Ljava/lang/Object;"⟩).before a0 Z = true) (w6 : (Jvm.Cond.castable ad "java/lang/Cloneable").before a0 Z = true)
    (eT : T.heap = h) {b : Addr} {k : ClassId} {ty : FieldType} {z : Int32} {vs : List Value} {dv : Value} (F : Arv Z h b k ty z vs dv) (E : Exa Z h b ad) {g : JFrame} (hg : g.method = m) (hsize : g.locals.size = c.maxLocals) {rest : List Value} (hst : g.stack = .ref b :: rest) (hd : decode c.code g.pc = .ok (.invokevirtual index, 3))
    (hf : 1 ≤ R.frames) {W cap : Nat} (hW : 2 * g.monitorRoom + (rest.map fun v => v.category).sum ≤ W) (hl : W + 14 ≤ R.locals) (hcap : z.toNatClampNeg ≤ cap) (hc : cells + 1 ≤ R.cells) (hsl : slots + cap ≤ R.slots) :
    ∃ T' h' a, a = h.size ∧ Stand p l e R s m args below meth c T' locs (cells + 1) (slots + cap) ∧ T'.heap = h' ∧ Ext h h' ∧ Arv Z h' a k ty z vs dv ∧ Exa Z h' a ad ∧
      ∀ t, Steps p.tables e below (T'.setTop { g with pc := g.pc + 3, stack := .ref a :: rest }) t → Steps p.tables e below (T.setTop g) t := by
  obtain ⟨T2, h2, X2, e2, E2, A2, B2, st2⟩ := cloneH X hx hZ hown w1 w2 w3 w4 w5 w6 eT F.arh E hg hsize hst hd hf hW hl hcap hc hsl
  exact ⟨T2, h2, h.size, rfl, X2, e2, E2, A2, B2, st2⟩
end OwnKit
theorem d_prog_120_method_2_code_0 : decode prog_120_method_2_code 0 = .ok (.iload_n 0, 1) := by decide +kernel
theorem d_prog_120_method_2_code_1 : decode prog_120_method_2_code 1 = .ok (.ifCond .eq 9, 3) := by decide +kernel
theorem d_prog_120_method_2_code_10 : decode prog_120_method_2_code 10 = .ok (.getstatic 21, 3) := by decide +kernel
theorem d_prog_120_method_2_code_13 : decode prog_120_method_2_code 13 = .ok (.areturn, 1) := by decide +kernel
theorem ef_rm_own0 (m : MethodId)  : entryFrame m #[(.int (0 : Int32))] 1 = mkF m 0 #[.val (.int (0 : Int32))] [] := by first | (simp [entryFrame, mkF, argsToLocals, Value.category]; done) | rfl
theorem pn_com_example_mailroom_mailroom_engine_Timeline_Race_own__Z_Lcom_example_mailroom_mailroom_engine_Timeline_Race_ : plainFor (⟨"com/example/mailroom/mailroom/engine/Timeline$Race", "own", "(Z)Lcom/example/mailroom/mailroom/engine/Timeline$Race;"⟩ : MethodName) = true := by first | exact plainFor_of_name (by first | (simp [plainName, overriddenIn]; done) | decide +kernel) | decide +kernel
set_option maxRecDepth 65536 in
set_option maxHeartbeats 40000000 in
theorem rm_own0 {l : Launch} {Z : State} {a0 : Array Value} (hw : ∀ d ∈ tables_1, d.before a0 Z = true) (s_OWN : Addr) (s_OWN_runners : Addr) (s_OWN_CONTENDED : Addr) (S_OWN : Sta Z Z.heap "com/example/mailroom/mailroom/engine/Timeline$Race" "OWN" "Lcom/example/mailroom/mailroom/engine/Timeline$Race;" (.ref s_OWN)) (E_s_OWN : Exa Z Z.heap s_OWN "com/example/mailroom/mailroom/engine/Timeline$Race") (F_s_OWN_contends : Fld Z Z.heap s_OWN "com/example/mailroom/mailroom/engine/Timeline$Race" "contends" "Z" (.int (0 : Int32))) (F_s_OWN_runners : Fld Z Z.heap s_OWN "com/example/mailroom/mailroom/engine/Timeline$Race" "runners" "Ljava/util/BitSet;" (.ref s_OWN_runners)) (E_s_OWN_runners : Exa Z Z.heap s_OWN_runners "java/util/BitSet") (F_s_OWN_runners_wordsInUse : Fld Z Z.heap s_OWN_runners "java/util/BitSet" "wordsInUse" "I" (.int (0 : Int32))) (S_OWN_CONTENDED : Sta Z Z.heap "com/example/mailroom/mailroom/engine/Timeline$Race" "OWN_CONTENDED" "Lcom/example/mailroom/mailroom/engine/Timeline$Race;" (.ref s_OWN_CONTENDED)) (E_s_OWN_CONTENDED : Exa Z Z.heap s_OWN_CONTENDED "com/example/mailroom/mailroom/engine/Timeline$Race") (F_s_OWN_CONTENDED_contends : Fld Z Z.heap s_OWN_CONTENDED "com/example/mailroom/mailroom/engine/Timeline$Race" "contends" "Z" (.int (1 : Int32))) (F_s_OWN_CONTENDED_runners : Fld Z Z.heap s_OWN_CONTENDED "com/example/mailroom/mailroom/engine/Timeline$Race" "runners" "Ljava/util/BitSet;" (.ref s_OWN_runners)) (S__assertionsDisabled : Sta Z Z.heap "java/util/BitSet" "$assertionsDisabled" "Z" (.int (1 : Int32)))   (h0 : Heap) (O0 : Ext Z.heap h0)  :
    Ok l Z (⟨"com/example/mailroom/mailroom/engine/Timeline$Race", "own", "(Z)Lcom/example/mailroom/mailroom/engine/Timeline$Race;"⟩ : MethodName) prog_120_method_2_code 1 (some (.object "com/example/mailroom/mailroom/engine/Timeline$Race")) ({ frames := 0, cells := 0, slots := 0, locals := 0 } : Room) #[(.int (0 : Int32))] h0
      (fun v h L => v = some (.ref s_OWN) ∧ (h = h0) ∧ (L = [])) := by
  refine Ok.mk pn_com_example_mailroom_mailroom_engine_Timeline_Race_own__Z_Lcom_example_mailroom_mailroom_engine_Timeline_Race_ ?_
  intro p e s m below meth c T0 hx hby hml hown hnm hret hlk hZ e0 X0
  refine Go.cast (ef_rm_own0 m ) ?_
  have N0 := Fr.nil Z.heap.size
  have K0 : Keep h0 h0 [] := Keep.refl _ _
  refine Go.of (T' := T0) (f' := (mkF m 1 #[.val (.int (0 : Int32))] [(.int (0 : Int32))])) (fun _ k => XS.iloadN X0.here hx rfl (hb hby d_prog_120_method_2_code_0) rfl k) ?_
  refine Go.of (T' := T0) (f' := (mkF m 10 #[.val (.int (0 : Int32))] [])) (fun _ k => XS.ifYes X0.here hx rfl (pc0 := 1) (pc' := 10) rfl (hb hby d_prog_120_method_2_code_1) rfl ((if0 _ _).trans (teq (by decide : (0 : Int32) = (0 : Int32))).1) (by decide) (by decide) k) ?_
  obtain ⟨T2, X2, e2, st2⟩ := getS2 X0 hx hZ hown (host := "") (Or.inl (hw _ (List.mem_of_getElem? (i := 4) rfl))) Via.refl e0 (Sta.ext O0 S_OWN) (g := (mkF m 10 #[.val (.int (0 : Int32))] [])) rfl (hb hby d_prog_120_method_2_code_10)
  refine Go.of (T' := T2) (f' := (mkF m 13 #[.val (.int (0 : Int32))] [(.ref s_OWN)])) (fun _ k => st2 _ k) ?_
  exact Go.retA X2 hx hlk hret rfl rfl (hb hby d_prog_120_method_2_code_13) (by decide) (by decide) (by rw [e2]; exact ⟨rfl, rfl, by simp⟩)
theorem d_prog_120_method_8_code_0 : decode prog_120_method_8_code 0 = .ok (.aload_n 0, 1) := by decide +kernel
theorem d_prog_120_method_8_code_1 : decode prog_120_method_8_code 1 = .ok (.getfield 7, 3) := by decide +kernel
theorem d_prog_120_method_8_code_4 : decode prog_120_method_8_code 4 = .ok (.ireturn, 1) := by decide +kernel
theorem ef_rm_cont0 (m : MethodId) (ob : Addr) : entryFrame m #[(.ref ob)] 1 = mkF m 0 #[.val (.ref ob)] [] := by first | (simp [entryFrame, mkF, argsToLocals, Value.category]; done) | rfl
theorem pn_com_example_mailroom_mailroom_engine_Timeline_Race_contends___Z : plainFor (⟨"com/example/mailroom/mailroom/engine/Timeline$Race", "contends", "()Z"⟩ : MethodName) = true := by first | exact plainFor_of_name (by first | (simp [plainName, overriddenIn]; done) | decide +kernel) | decide +kernel
set_option maxRecDepth 65536 in
set_option maxHeartbeats 40000000 in
theorem rm_cont0 {l : Launch} {Z : State} {a0 : Array Value} (hw : ∀ d ∈ tables_1, d.before a0 Z = true) (s_OWN : Addr) (s_OWN_runners : Addr) (s_OWN_CONTENDED : Addr) (S_OWN : Sta Z Z.heap "com/example/mailroom/mailroom/engine/Timeline$Race" "OWN" "Lcom/example/mailroom/mailroom/engine/Timeline$Race;" (.ref s_OWN)) (E_s_OWN : Exa Z Z.heap s_OWN "com/example/mailroom/mailroom/engine/Timeline$Race") (F_s_OWN_contends : Fld Z Z.heap s_OWN "com/example/mailroom/mailroom/engine/Timeline$Race" "contends" "Z" (.int (0 : Int32))) (F_s_OWN_runners : Fld Z Z.heap s_OWN "com/example/mailroom/mailroom/engine/Timeline$Race" "runners" "Ljava/util/BitSet;" (.ref s_OWN_runners)) (E_s_OWN_runners : Exa Z Z.heap s_OWN_runners "java/util/BitSet") (F_s_OWN_runners_wordsInUse : Fld Z Z.heap s_OWN_runners "java/util/BitSet" "wordsInUse" "I" (.int (0 : Int32))) (S_OWN_CONTENDED : Sta Z Z.heap "com/example/mailroom/mailroom/engine/Timeline$Race" "OWN_CONTENDED" "Lcom/example/mailroom/mailroom/engine/Timeline$Race;" (.ref s_OWN_CONTENDED)) (E_s_OWN_CONTENDED : Exa Z Z.heap s_OWN_CONTENDED "com/example/mailroom/mailroom/engine/Timeline$Race") (F_s_OWN_CONTENDED_contends : Fld Z Z.heap s_OWN_CONTENDED "com/example/mailroom/mailroom/engine/Timeline$Race" "contends" "Z" (.int (1 : Int32))) (F_s_OWN_CONTENDED_runners : Fld Z Z.heap s_OWN_CONTENDED "com/example/mailroom/mailroom/engine/Timeline$Race" "runners" "Ljava/util/BitSet;" (.ref s_OWN_runners)) (S__assertionsDisabled : Sta Z Z.heap "java/util/BitSet" "$assertionsDisabled" "Z" (.int (1 : Int32))) (ob : Addr)  (h0 : Heap) (O0 : Ext Z.heap h0) (prem0 : Fld Z h0 ob "com/example/mailroom/mailroom/engine/Timeline$Race" "contends" "Z" (.int (0 : Int32))) :
    Ok l Z (⟨"com/example/mailroom/mailroom/engine/Timeline$Race", "contends", "()Z"⟩ : MethodName) prog_120_method_8_code 1 (some .boolean) ({ frames := 0, cells := 0, slots := 0, locals := 0 } : Room) #[(.ref ob)] h0
      (fun v h L => v = some (.int (0 : Int32)) ∧ (h = h0) ∧ (L = [])) := by
  refine Ok.mk pn_com_example_mailroom_mailroom_engine_Timeline_Race_contends___Z ?_
  intro p e s m below meth c T0 hx hby hml hown hnm hret hlk hZ e0 X0
  refine Go.cast (ef_rm_cont0 m ob) ?_
  have N0 := Fr.nil Z.heap.size
  have K0 : Keep h0 h0 [] := Keep.refl _ _
  refine Go.of (T' := T0) (f' := (mkF m 1 #[.val (.ref ob)] [(.ref ob)])) (fun _ k => XS.aloadN X0.here hx rfl (hb hby d_prog_120_method_8_code_0) rfl rfl k) ?_
  obtain ⟨T3, X3, e3, st3⟩ := getF X0 hx hZ hown (host := "") (Or.inl (hw _ (List.mem_of_getElem? (i := 11) rfl))) Via.refl e0 prem0 (g := (mkF m 1 #[.val (.ref ob)] [(.ref ob)])) rfl rfl (hb hby d_prog_120_method_8_code_1)
  refine Go.of (T' := T3) (f' := (mkF m 4 #[.val (.ref ob)] [(.int (0 : Int32))])) (fun _ k => st3 _ k) ?_
  exact Go.retB X3 hx hlk hret (by simp) (hb hby d_prog_120_method_8_code_4) (by decide) (by decide) (z' := (0 : Int32)) rfl (by rw [e3]; exact ⟨rfl, rfl, by simp⟩)
theorem d_prog_120_method_2_code_4 : decode prog_120_method_2_code 4 = .ok (.getstatic 17, 3) := by decide +kernel
theorem d_prog_120_method_2_code_7 : decode prog_120_method_2_code 7 = .ok (.goto 6, 3) := by decide +kernel
theorem ef_rm_own1 (m : MethodId)  : entryFrame m #[(.int (1 : Int32))] 1 = mkF m 0 #[.val (.int (1 : Int32))] [] := by first | (simp [entryFrame, mkF, argsToLocals, Value.category]; done) | rfl
set_option maxRecDepth 65536 in
set_option maxHeartbeats 40000000 in
theorem rm_own1 {l : Launch} {Z : State} {a0 : Array Value} (hw : ∀ d ∈ tables_1, d.before a0 Z = true) (s_OWN : Addr) (s_OWN_runners : Addr) (s_OWN_CONTENDED : Addr) (S_OWN : Sta Z Z.heap "com/example/mailroom/mailroom/engine/Timeline$Race" "OWN" "Lcom/example/mailroom/mailroom/engine/Timeline$Race;" (.ref s_OWN)) (E_s_OWN : Exa Z Z.heap s_OWN "com/example/mailroom/mailroom/engine/Timeline$Race") (F_s_OWN_contends : Fld Z Z.heap s_OWN "com/example/mailroom/mailroom/engine/Timeline$Race" "contends" "Z" (.int (0 : Int32))) (F_s_OWN_runners : Fld Z Z.heap s_OWN "com/example/mailroom/mailroom/engine/Timeline$Race" "runners" "Ljava/util/BitSet;" (.ref s_OWN_runners)) (E_s_OWN_runners : Exa Z Z.heap s_OWN_runners "java/util/BitSet") (F_s_OWN_runners_wordsInUse : Fld Z Z.heap s_OWN_runners "java/util/BitSet" "wordsInUse" "I" (.int (0 : Int32))) (S_OWN_CONTENDED : Sta Z Z.heap "com/example/mailroom/mailroom/engine/Timeline$Race" "OWN_CONTENDED" "Lcom/example/mailroom/mailroom/engine/Timeline$Race;" (.ref s_OWN_CONTENDED)) (E_s_OWN_CONTENDED : Exa Z Z.heap s_OWN_CONTENDED "com/example/mailroom/mailroom/engine/Timeline$Race") (F_s_OWN_CONTENDED_contends : Fld Z Z.heap s_OWN_CONTENDED "com/example/mailroom/mailroom/engine/Timeline$Race" "contends" "Z" (.int (1 : Int32))) (F_s_OWN_CONTENDED_runners : Fld Z Z.heap s_OWN_CONTENDED "com/example/mailroom/mailroom/engine/Timeline$Race" "runners" "Ljava/util/BitSet;" (.ref s_OWN_runners)) (S__assertionsDisabled : Sta Z Z.heap "java/util/BitSet" "$assertionsDisabled" "Z" (.int (1 : Int32)))   (h0 : Heap) (O0 : Ext Z.heap h0)  :
    Ok l Z (⟨"com/example/mailroom/mailroom/engine/Timeline$Race", "own", "(Z)Lcom/example/mailroom/mailroom/engine/Timeline$Race;"⟩ : MethodName) prog_120_method_2_code 1 (some (.object "com/example/mailroom/mailroom/engine/Timeline$Race")) ({ frames := 0, cells := 0, slots := 0, locals := 0 } : Room) #[(.int (1 : Int32))] h0
      (fun v h L => v = some (.ref s_OWN_CONTENDED) ∧ (h = h0) ∧ (L = [])) := by
  refine Ok.mk pn_com_example_mailroom_mailroom_engine_Timeline_Race_own__Z_Lcom_example_mailroom_mailroom_engine_Timeline_Race_ ?_
  intro p e s m below meth c T0 hx hby hml hown hnm hret hlk hZ e0 X0
  refine Go.cast (ef_rm_own1 m ) ?_
  have N0 := Fr.nil Z.heap.size
  have K0 : Keep h0 h0 [] := Keep.refl _ _
  refine Go.of (T' := T0) (f' := (mkF m 1 #[.val (.int (1 : Int32))] [(.int (1 : Int32))])) (fun _ k => XS.iloadN X0.here hx rfl (hb hby d_prog_120_method_2_code_0) rfl k) ?_
  refine Go.of (T' := T0) (f' := (mkF m 4 #[.val (.int (1 : Int32))] [])) (fun _ k => XS.ifNo X0.here hx rfl (hb hby d_prog_120_method_2_code_1) rfl ((if0 _ _).trans (feq (by decide : ¬ ((1 : Int32) = (0 : Int32)))).1) k) ?_
  obtain ⟨T5, X5, e5, st5⟩ := getS2 X0 hx hZ hown (host := "") (Or.inl (hw _ (List.mem_of_getElem? (i := 89) rfl))) Via.refl e0 (Sta.ext O0 S_OWN_CONTENDED) (g := (mkF m 4 #[.val (.int (1 : Int32))] [])) rfl (hb hby d_prog_120_method_2_code_4)
  refine Go.of (T' := T5) (f' := (mkF m 7 #[.val (.int (1 : Int32))] [(.ref s_OWN_CONTENDED)])) (fun _ k => st5 _ k) ?_
  refine Go.of (T' := T5) (f' := (mkF m 13 #[.val (.int (1 : Int32))] [(.ref s_OWN_CONTENDED)])) (fun _ k => XS.goto X5.here hx rfl (pc0 := 7) (pc' := 13) rfl (hb hby d_prog_120_method_2_code_7) (by decide) (by decide) k) ?_
  exact Go.retA X5 hx hlk hret rfl rfl (hb hby d_prog_120_method_2_code_13) (by decide) (by decide) (by rw [e5]; exact ⟨rfl, rfl, by simp⟩)
theorem ef_rm_cont1 (m : MethodId) (ob : Addr) : entryFrame m #[(.ref ob)] 1 = mkF m 0 #[.val (.ref ob)] [] := by first | (simp [entryFrame, mkF, argsToLocals, Value.category]; done) | rfl
set_option maxRecDepth 65536 in
set_option maxHeartbeats 40000000 in
theorem rm_cont1 {l : Launch} {Z : State} {a0 : Array Value} (hw : ∀ d ∈ tables_1, d.before a0 Z = true) (s_OWN : Addr) (s_OWN_runners : Addr) (s_OWN_CONTENDED : Addr) (S_OWN : Sta Z Z.heap "com/example/mailroom/mailroom/engine/Timeline$Race" "OWN" "Lcom/example/mailroom/mailroom/engine/Timeline$Race;" (.ref s_OWN)) (E_s_OWN : Exa Z Z.heap s_OWN "com/example/mailroom/mailroom/engine/Timeline$Race") (F_s_OWN_contends : Fld Z Z.heap s_OWN "com/example/mailroom/mailroom/engine/Timeline$Race" "contends" "Z" (.int (0 : Int32))) (F_s_OWN_runners : Fld Z Z.heap s_OWN "com/example/mailroom/mailroom/engine/Timeline$Race" "runners" "Ljava/util/BitSet;" (.ref s_OWN_runners)) (E_s_OWN_runners : Exa Z Z.heap s_OWN_runners "java/util/BitSet") (F_s_OWN_runners_wordsInUse : Fld Z Z.heap s_OWN_runners "java/util/BitSet" "wordsInUse" "I" (.int (0 : Int32))) (S_OWN_CONTENDED : Sta Z Z.heap "com/example/mailroom/mailroom/engine/Timeline$Race" "OWN_CONTENDED" "Lcom/example/mailroom/mailroom/engine/Timeline$Race;" (.ref s_OWN_CONTENDED)) (E_s_OWN_CONTENDED : Exa Z Z.heap s_OWN_CONTENDED "com/example/mailroom/mailroom/engine/Timeline$Race") (F_s_OWN_CONTENDED_contends : Fld Z Z.heap s_OWN_CONTENDED "com/example/mailroom/mailroom/engine/Timeline$Race" "contends" "Z" (.int (1 : Int32))) (F_s_OWN_CONTENDED_runners : Fld Z Z.heap s_OWN_CONTENDED "com/example/mailroom/mailroom/engine/Timeline$Race" "runners" "Ljava/util/BitSet;" (.ref s_OWN_runners)) (S__assertionsDisabled : Sta Z Z.heap "java/util/BitSet" "$assertionsDisabled" "Z" (.int (1 : Int32))) (ob : Addr)  (h0 : Heap) (O0 : Ext Z.heap h0) (prem0 : Fld Z h0 ob "com/example/mailroom/mailroom/engine/Timeline$Race" "contends" "Z" (.int (1 : Int32))) :
    Ok l Z (⟨"com/example/mailroom/mailroom/engine/Timeline$Race", "contends", "()Z"⟩ : MethodName) prog_120_method_8_code 1 (some .boolean) ({ frames := 0, cells := 0, slots := 0, locals := 0 } : Room) #[(.ref ob)] h0
      (fun v h L => v = some (.int (1 : Int32)) ∧ (h = h0) ∧ (L = [])) := by
  refine Ok.mk pn_com_example_mailroom_mailroom_engine_Timeline_Race_contends___Z ?_
  intro p e s m below meth c T0 hx hby hml hown hnm hret hlk hZ e0 X0
  refine Go.cast (ef_rm_cont1 m ob) ?_
  have N0 := Fr.nil Z.heap.size
  have K0 : Keep h0 h0 [] := Keep.refl _ _
  refine Go.of (T' := T0) (f' := (mkF m 1 #[.val (.ref ob)] [(.ref ob)])) (fun _ k => XS.aloadN X0.here hx rfl (hb hby d_prog_120_method_8_code_0) rfl rfl k) ?_
  obtain ⟨T6, X6, e6, st6⟩ := getF X0 hx hZ hown (host := "") (Or.inl (hw _ (List.mem_of_getElem? (i := 11) rfl))) Via.refl e0 prem0 (g := (mkF m 1 #[.val (.ref ob)] [(.ref ob)])) rfl rfl (hb hby d_prog_120_method_8_code_1)
  refine Go.of (T' := T6) (f' := (mkF m 4 #[.val (.ref ob)] [(.int (1 : Int32))])) (fun _ k => st6 _ k) ?_
  exact Go.retB X6 hx hlk hret (by simp) (hb hby d_prog_120_method_8_code_4) (by decide) (by decide) (z' := (1 : Int32)) rfl (by rw [e6]; exact ⟨rfl, rfl, by simp⟩)
theorem d_prog_120_method_9_code_0 : decode prog_120_method_9_code 0 = .ok (.aload_n 0, 1) := by decide +kernel
theorem d_prog_120_method_9_code_1 : decode prog_120_method_9_code 1 = .ok (.getfield 13, 3) := by decide +kernel
theorem d_prog_120_method_9_code_4 : decode prog_120_method_9_code 4 = .ok (.areturn, 1) := by decide +kernel
theorem ef_rm_runners (m : MethodId) (ob : Addr) : entryFrame m #[(.ref ob)] 1 = mkF m 0 #[.val (.ref ob)] [] := by first | (simp [entryFrame, mkF, argsToLocals, Value.category]; done) | rfl
theorem pn_com_example_mailroom_mailroom_engine_Timeline_Race_runners___Ljava_util_BitSet_ : plainFor (⟨"com/example/mailroom/mailroom/engine/Timeline$Race", "runners", "()Ljava/util/BitSet;"⟩ : MethodName) = true := by first | exact plainFor_of_name (by first | (simp [plainName, overriddenIn]; done) | decide +kernel) | decide +kernel
set_option maxRecDepth 65536 in
set_option maxHeartbeats 40000000 in
theorem rm_runners {l : Launch} {Z : State} {a0 : Array Value} (hw : ∀ d ∈ tables_1, d.before a0 Z = true) (s_OWN : Addr) (s_OWN_runners : Addr) (s_OWN_CONTENDED : Addr) (S_OWN : Sta Z Z.heap "com/example/mailroom/mailroom/engine/Timeline$Race" "OWN" "Lcom/example/mailroom/mailroom/engine/Timeline$Race;" (.ref s_OWN)) (E_s_OWN : Exa Z Z.heap s_OWN "com/example/mailroom/mailroom/engine/Timeline$Race") (F_s_OWN_contends : Fld Z Z.heap s_OWN "com/example/mailroom/mailroom/engine/Timeline$Race" "contends" "Z" (.int (0 : Int32))) (F_s_OWN_runners : Fld Z Z.heap s_OWN "com/example/mailroom/mailroom/engine/Timeline$Race" "runners" "Ljava/util/BitSet;" (.ref s_OWN_runners)) (E_s_OWN_runners : Exa Z Z.heap s_OWN_runners "java/util/BitSet") (F_s_OWN_runners_wordsInUse : Fld Z Z.heap s_OWN_runners "java/util/BitSet" "wordsInUse" "I" (.int (0 : Int32))) (S_OWN_CONTENDED : Sta Z Z.heap "com/example/mailroom/mailroom/engine/Timeline$Race" "OWN_CONTENDED" "Lcom/example/mailroom/mailroom/engine/Timeline$Race;" (.ref s_OWN_CONTENDED)) (E_s_OWN_CONTENDED : Exa Z Z.heap s_OWN_CONTENDED "com/example/mailroom/mailroom/engine/Timeline$Race") (F_s_OWN_CONTENDED_contends : Fld Z Z.heap s_OWN_CONTENDED "com/example/mailroom/mailroom/engine/Timeline$Race" "contends" "Z" (.int (1 : Int32))) (F_s_OWN_CONTENDED_runners : Fld Z Z.heap s_OWN_CONTENDED "com/example/mailroom/mailroom/engine/Timeline$Race" "runners" "Ljava/util/BitSet;" (.ref s_OWN_runners)) (S__assertionsDisabled : Sta Z Z.heap "java/util/BitSet" "$assertionsDisabled" "Z" (.int (1 : Int32))) (ob : Addr) (w : Addr) (h0 : Heap) (O0 : Ext Z.heap h0) (prem0 : Fld Z h0 ob "com/example/mailroom/mailroom/engine/Timeline$Race" "runners" "Ljava/util/BitSet;" (.ref w)) :
    Ok l Z (⟨"com/example/mailroom/mailroom/engine/Timeline$Race", "runners", "()Ljava/util/BitSet;"⟩ : MethodName) prog_120_method_9_code 1 (some (.object "java/util/BitSet")) ({ frames := 0, cells := 0, slots := 0, locals := 0 } : Room) #[(.ref ob)] h0
      (fun v h L => v = some (.ref w) ∧ (h = h0) ∧ (L = [])) := by
  refine Ok.mk pn_com_example_mailroom_mailroom_engine_Timeline_Race_runners___Ljava_util_BitSet_ ?_
  intro p e s m below meth c T0 hx hby hml hown hnm hret hlk hZ e0 X0
  refine Go.cast (ef_rm_runners m ob) ?_
  have N0 := Fr.nil Z.heap.size
  have K0 : Keep h0 h0 [] := Keep.refl _ _
  refine Go.of (T' := T0) (f' := (mkF m 1 #[.val (.ref ob)] [(.ref ob)])) (fun _ k => XS.aloadN X0.here hx rfl (hb hby d_prog_120_method_9_code_0) rfl rfl k) ?_
  obtain ⟨T7, X7, e7, st7⟩ := getF X0 hx hZ hown (host := "") (Or.inl (hw _ (List.mem_of_getElem? (i := 18) rfl))) Via.refl e0 prem0 (g := (mkF m 1 #[.val (.ref ob)] [(.ref ob)])) rfl rfl (hb hby d_prog_120_method_9_code_1)
  refine Go.of (T' := T7) (f' := (mkF m 4 #[.val (.ref ob)] [(.ref w)])) (fun _ k => st7 _ k) ?_
  exact Go.retA X7 hx hlk hret rfl rfl (hb hby d_prog_120_method_9_code_4) (by decide) (by decide) (by rw [e7]; exact ⟨rfl, rfl, by simp⟩)
theorem d_jdk_92_method_33_code_0 : decode jdk_92_method_33_code 0 = .ok (.aload_n 0, 1) := by decide +kernel
theorem d_jdk_92_method_33_code_1 : decode jdk_92_method_33_code 1 = .ok (.getfield 7, 3) := by decide +kernel
theorem d_jdk_92_method_33_code_4 : decode jdk_92_method_33_code 4 = .ok (.ifCond .ne 7, 3) := by decide +kernel
theorem d_jdk_92_method_33_code_11 : decode jdk_92_method_33_code 11 = .ok (.iconst 0, 1) := by decide +kernel
theorem d_jdk_92_method_33_code_12 : decode jdk_92_method_33_code 12 = .ok (.ireturn, 1) := by decide +kernel
theorem ef_rm_empty0 (m : MethodId) (bs : Addr) : entryFrame m #[(.ref bs)] 1 = mkF m 0 #[.val (.ref bs)] [] := by first | (simp [entryFrame, mkF, argsToLocals, Value.category]; done) | rfl
theorem pn_java_util_BitSet_isEmpty___Z : plainFor (⟨"java/util/BitSet", "isEmpty", "()Z"⟩ : MethodName) = true := by first | exact plainFor_of_name (by first | (simp [plainName, overriddenIn]; done) | decide +kernel) | decide +kernel
set_option maxRecDepth 65536 in
set_option maxHeartbeats 40000000 in
theorem rm_empty0 {l : Launch} {Z : State} {a0 : Array Value} (hw : ∀ d ∈ tables_1, d.before a0 Z = true) (s_OWN : Addr) (s_OWN_runners : Addr) (s_OWN_CONTENDED : Addr) (S_OWN : Sta Z Z.heap "com/example/mailroom/mailroom/engine/Timeline$Race" "OWN" "Lcom/example/mailroom/mailroom/engine/Timeline$Race;" (.ref s_OWN)) (E_s_OWN : Exa Z Z.heap s_OWN "com/example/mailroom/mailroom/engine/Timeline$Race") (F_s_OWN_contends : Fld Z Z.heap s_OWN "com/example/mailroom/mailroom/engine/Timeline$Race" "contends" "Z" (.int (0 : Int32))) (F_s_OWN_runners : Fld Z Z.heap s_OWN "com/example/mailroom/mailroom/engine/Timeline$Race" "runners" "Ljava/util/BitSet;" (.ref s_OWN_runners)) (E_s_OWN_runners : Exa Z Z.heap s_OWN_runners "java/util/BitSet") (F_s_OWN_runners_wordsInUse : Fld Z Z.heap s_OWN_runners "java/util/BitSet" "wordsInUse" "I" (.int (0 : Int32))) (S_OWN_CONTENDED : Sta Z Z.heap "com/example/mailroom/mailroom/engine/Timeline$Race" "OWN_CONTENDED" "Lcom/example/mailroom/mailroom/engine/Timeline$Race;" (.ref s_OWN_CONTENDED)) (E_s_OWN_CONTENDED : Exa Z Z.heap s_OWN_CONTENDED "com/example/mailroom/mailroom/engine/Timeline$Race") (F_s_OWN_CONTENDED_contends : Fld Z Z.heap s_OWN_CONTENDED "com/example/mailroom/mailroom/engine/Timeline$Race" "contends" "Z" (.int (1 : Int32))) (F_s_OWN_CONTENDED_runners : Fld Z Z.heap s_OWN_CONTENDED "com/example/mailroom/mailroom/engine/Timeline$Race" "runners" "Ljava/util/BitSet;" (.ref s_OWN_runners)) (S__assertionsDisabled : Sta Z Z.heap "java/util/BitSet" "$assertionsDisabled" "Z" (.int (1 : Int32))) (bs : Addr)  (h0 : Heap) (O0 : Ext Z.heap h0) (prem0 : Fld Z h0 bs "java/util/BitSet" "wordsInUse" "I" (.int (1 : Int32))) :
    Ok l Z (⟨"java/util/BitSet", "isEmpty", "()Z"⟩ : MethodName) jdk_92_method_33_code 1 (some .boolean) ({ frames := 0, cells := 0, slots := 0, locals := 0 } : Room) #[(.ref bs)] h0
      (fun v h L => v = some (.int (0 : Int32)) ∧ (h = h0) ∧ (L = [])) := by
  refine Ok.mk pn_java_util_BitSet_isEmpty___Z ?_
  intro p e s m below meth c T0 hx hby hml hown hnm hret hlk hZ e0 X0
  refine Go.cast (ef_rm_empty0 m bs) ?_
  have N0 := Fr.nil Z.heap.size
  have K0 : Keep h0 h0 [] := Keep.refl _ _
  refine Go.of (T' := T0) (f' := (mkF m 1 #[.val (.ref bs)] [(.ref bs)])) (fun _ k => XS.aloadN X0.here hx rfl (hb hby d_jdk_92_method_33_code_0) rfl rfl k) ?_
  obtain ⟨T8, X8, e8, st8⟩ := getF X0 hx hZ hown (host := "") (Or.inl (hw _ (List.mem_of_getElem? (i := 26) rfl))) Via.refl e0 prem0 (g := (mkF m 1 #[.val (.ref bs)] [(.ref bs)])) rfl rfl (hb hby d_jdk_92_method_33_code_1)
  refine Go.of (T' := T8) (f' := (mkF m 4 #[.val (.ref bs)] [(.int (1 : Int32))])) (fun _ k => st8 _ k) ?_
  refine Go.of (T' := T8) (f' := (mkF m 11 #[.val (.ref bs)] [])) (fun _ k => XS.ifYes X8.here hx rfl (pc0 := 4) (pc' := 11) rfl (hb hby d_jdk_92_method_33_code_4) rfl ((if0 _ _).trans (feq (by decide : ¬ ((1 : Int32) = (0 : Int32)))).2) (by decide) (by decide) k) ?_
  refine Go.of (T' := T8) (f' := (mkF m 12 #[.val (.ref bs)] [(.int (0 : Int32))])) (fun _ k => XS.iconst X8.here hx rfl (hb hby d_jdk_92_method_33_code_11) k) ?_
  exact Go.retB X8 hx hlk hret (by simp) (hb hby d_jdk_92_method_33_code_12) (by decide) (by decide) (z' := (0 : Int32)) rfl (by rw [e8]; exact ⟨rfl, rfl, by simp⟩)
theorem d_jdk_92_method_33_code_7 : decode jdk_92_method_33_code 7 = .ok (.iconst 1, 1) := by decide +kernel
theorem d_jdk_92_method_33_code_8 : decode jdk_92_method_33_code 8 = .ok (.goto 4, 3) := by decide +kernel
theorem ef_rm_empty1 (m : MethodId) (bs : Addr) : entryFrame m #[(.ref bs)] 1 = mkF m 0 #[.val (.ref bs)] [] := by first | (simp [entryFrame, mkF, argsToLocals, Value.category]; done) | rfl
set_option maxRecDepth 65536 in
set_option maxHeartbeats 40000000 in
theorem rm_empty1 {l : Launch} {Z : State} {a0 : Array Value} (hw : ∀ d ∈ tables_1, d.before a0 Z = true) (s_OWN : Addr) (s_OWN_runners : Addr) (s_OWN_CONTENDED : Addr) (S_OWN : Sta Z Z.heap "com/example/mailroom/mailroom/engine/Timeline$Race" "OWN" "Lcom/example/mailroom/mailroom/engine/Timeline$Race;" (.ref s_OWN)) (E_s_OWN : Exa Z Z.heap s_OWN "com/example/mailroom/mailroom/engine/Timeline$Race") (F_s_OWN_contends : Fld Z Z.heap s_OWN "com/example/mailroom/mailroom/engine/Timeline$Race" "contends" "Z" (.int (0 : Int32))) (F_s_OWN_runners : Fld Z Z.heap s_OWN "com/example/mailroom/mailroom/engine/Timeline$Race" "runners" "Ljava/util/BitSet;" (.ref s_OWN_runners)) (E_s_OWN_runners : Exa Z Z.heap s_OWN_runners "java/util/BitSet") (F_s_OWN_runners_wordsInUse : Fld Z Z.heap s_OWN_runners "java/util/BitSet" "wordsInUse" "I" (.int (0 : Int32))) (S_OWN_CONTENDED : Sta Z Z.heap "com/example/mailroom/mailroom/engine/Timeline$Race" "OWN_CONTENDED" "Lcom/example/mailroom/mailroom/engine/Timeline$Race;" (.ref s_OWN_CONTENDED)) (E_s_OWN_CONTENDED : Exa Z Z.heap s_OWN_CONTENDED "com/example/mailroom/mailroom/engine/Timeline$Race") (F_s_OWN_CONTENDED_contends : Fld Z Z.heap s_OWN_CONTENDED "com/example/mailroom/mailroom/engine/Timeline$Race" "contends" "Z" (.int (1 : Int32))) (F_s_OWN_CONTENDED_runners : Fld Z Z.heap s_OWN_CONTENDED "com/example/mailroom/mailroom/engine/Timeline$Race" "runners" "Ljava/util/BitSet;" (.ref s_OWN_runners)) (S__assertionsDisabled : Sta Z Z.heap "java/util/BitSet" "$assertionsDisabled" "Z" (.int (1 : Int32))) (bs : Addr)  (h0 : Heap) (O0 : Ext Z.heap h0) (prem0 : Fld Z h0 bs "java/util/BitSet" "wordsInUse" "I" (.int (0 : Int32))) :
    Ok l Z (⟨"java/util/BitSet", "isEmpty", "()Z"⟩ : MethodName) jdk_92_method_33_code 1 (some .boolean) ({ frames := 0, cells := 0, slots := 0, locals := 0 } : Room) #[(.ref bs)] h0
      (fun v h L => v = some (.int (1 : Int32)) ∧ (h = h0) ∧ (L = [])) := by
  refine Ok.mk pn_java_util_BitSet_isEmpty___Z ?_
  intro p e s m below meth c T0 hx hby hml hown hnm hret hlk hZ e0 X0
  refine Go.cast (ef_rm_empty1 m bs) ?_
  have N0 := Fr.nil Z.heap.size
  have K0 : Keep h0 h0 [] := Keep.refl _ _
  refine Go.of (T' := T0) (f' := (mkF m 1 #[.val (.ref bs)] [(.ref bs)])) (fun _ k => XS.aloadN X0.here hx rfl (hb hby d_jdk_92_method_33_code_0) rfl rfl k) ?_
  obtain ⟨T10, X10, e10, st10⟩ := getF X0 hx hZ hown (host := "") (Or.inl (hw _ (List.mem_of_getElem? (i := 26) rfl))) Via.refl e0 prem0 (g := (mkF m 1 #[.val (.ref bs)] [(.ref bs)])) rfl rfl (hb hby d_jdk_92_method_33_code_1)
  refine Go.of (T' := T10) (f' := (mkF m 4 #[.val (.ref bs)] [(.int (0 : Int32))])) (fun _ k => st10 _ k) ?_
  refine Go.of (T' := T10) (f' := (mkF m 7 #[.val (.ref bs)] [])) (fun _ k => XS.ifNo X10.here hx rfl (hb hby d_jdk_92_method_33_code_4) rfl ((if0 _ _).trans (teq (by decide : (0 : Int32) = (0 : Int32))).2) k) ?_
  refine Go.of (T' := T10) (f' := (mkF m 8 #[.val (.ref bs)] [(.int (1 : Int32))])) (fun _ k => XS.iconst X10.here hx rfl (hb hby d_jdk_92_method_33_code_7) k) ?_
  refine Go.of (T' := T10) (f' := (mkF m 12 #[.val (.ref bs)] [(.int (1 : Int32))])) (fun _ k => XS.goto X10.here hx rfl (pc0 := 8) (pc' := 12) rfl (hb hby d_jdk_92_method_33_code_8) (by decide) (by decide) k) ?_
  exact Go.retB X10 hx hlk hret (by simp) (hb hby d_jdk_92_method_33_code_12) (by decide) (by decide) (z' := (1 : Int32)) rfl (by rw [e10]; exact ⟨rfl, rfl, by simp⟩)
theorem d_jdk_92_method_1_code_0 : decode jdk_92_method_1_code 0 = .ok (.iload_n 0, 1) := by decide +kernel
theorem d_jdk_92_method_1_code_1 : decode jdk_92_method_1_code 1 = .ok (.bipush 6, 2) := by decide +kernel
theorem d_jdk_92_method_1_code_3 : decode jdk_92_method_1_code 3 = .ok (.ishr, 1) := by decide +kernel
theorem d_jdk_92_method_1_code_4 : decode jdk_92_method_1_code 4 = .ok (.ireturn, 1) := by decide +kernel
theorem ef_rm_wi63 (m : MethodId)  : entryFrame m #[(.int (63 : Int32))] 1 = mkF m 0 #[.val (.int (63 : Int32))] [] := by first | (simp [entryFrame, mkF, argsToLocals, Value.category]; done) | rfl
theorem pn_java_util_BitSet_wordIndex__I_I : plainFor (⟨"java/util/BitSet", "wordIndex", "(I)I"⟩ : MethodName) = true := by first | exact plainFor_of_name (by first | (simp [plainName, overriddenIn]; done) | decide +kernel) | decide +kernel
set_option maxRecDepth 65536 in
set_option maxHeartbeats 40000000 in
theorem rm_wi63 {l : Launch} {Z : State} {a0 : Array Value} (hw : ∀ d ∈ tables_1, d.before a0 Z = true) (s_OWN : Addr) (s_OWN_runners : Addr) (s_OWN_CONTENDED : Addr) (S_OWN : Sta Z Z.heap "com/example/mailroom/mailroom/engine/Timeline$Race" "OWN" "Lcom/example/mailroom/mailroom/engine/Timeline$Race;" (.ref s_OWN)) (E_s_OWN : Exa Z Z.heap s_OWN "com/example/mailroom/mailroom/engine/Timeline$Race") (F_s_OWN_contends : Fld Z Z.heap s_OWN "com/example/mailroom/mailroom/engine/Timeline$Race" "contends" "Z" (.int (0 : Int32))) (F_s_OWN_runners : Fld Z Z.heap s_OWN "com/example/mailroom/mailroom/engine/Timeline$Race" "runners" "Ljava/util/BitSet;" (.ref s_OWN_runners)) (E_s_OWN_runners : Exa Z Z.heap s_OWN_runners "java/util/BitSet") (F_s_OWN_runners_wordsInUse : Fld Z Z.heap s_OWN_runners "java/util/BitSet" "wordsInUse" "I" (.int (0 : Int32))) (S_OWN_CONTENDED : Sta Z Z.heap "com/example/mailroom/mailroom/engine/Timeline$Race" "OWN_CONTENDED" "Lcom/example/mailroom/mailroom/engine/Timeline$Race;" (.ref s_OWN_CONTENDED)) (E_s_OWN_CONTENDED : Exa Z Z.heap s_OWN_CONTENDED "com/example/mailroom/mailroom/engine/Timeline$Race") (F_s_OWN_CONTENDED_contends : Fld Z Z.heap s_OWN_CONTENDED "com/example/mailroom/mailroom/engine/Timeline$Race" "contends" "Z" (.int (1 : Int32))) (F_s_OWN_CONTENDED_runners : Fld Z Z.heap s_OWN_CONTENDED "com/example/mailroom/mailroom/engine/Timeline$Race" "runners" "Ljava/util/BitSet;" (.ref s_OWN_runners)) (S__assertionsDisabled : Sta Z Z.heap "java/util/BitSet" "$assertionsDisabled" "Z" (.int (1 : Int32)))   (h0 : Heap) (O0 : Ext Z.heap h0)  :
    Ok l Z (⟨"java/util/BitSet", "wordIndex", "(I)I"⟩ : MethodName) jdk_92_method_1_code 1 (some .int) ({ frames := 0, cells := 0, slots := 0, locals := 0 } : Room) #[(.int (63 : Int32))] h0
      (fun v h L => v = some (.int (0 : Int32)) ∧ (h = h0) ∧ (L = [])) := by
  refine Ok.mk pn_java_util_BitSet_wordIndex__I_I ?_
  intro p e s m below meth c T0 hx hby hml hown hnm hret hlk hZ e0 X0
  refine Go.cast (ef_rm_wi63 m ) ?_
  have N0 := Fr.nil Z.heap.size
  have K0 : Keep h0 h0 [] := Keep.refl _ _
  refine Go.of (T' := T0) (f' := (mkF m 1 #[.val (.int (63 : Int32))] [(.int (63 : Int32))])) (fun _ k => XS.iloadN X0.here hx rfl (hb hby d_jdk_92_method_1_code_0) rfl k) ?_
  refine Go.of (T' := T0) (f' := (mkF m 3 #[.val (.int (63 : Int32))] [(.int (6 : Int32)), (.int (63 : Int32))])) (fun _ k => XS.bipush X0.here hx rfl (hb hby d_jdk_92_method_1_code_1) k) ?_
  refine Go.of (T' := T0) (f' := (mkF m 4 #[.val (.int (63 : Int32))] [(.int (0 : Int32))])) (fun _ k => XS.ishr X0.here hx rfl (hb hby d_jdk_92_method_1_code_3) rfl k) ?_
  exact Go.retI X0 hx hlk hret (hb hby d_jdk_92_method_1_code_4) (by decide) (by decide) (by rw [e0]; exact ⟨rfl, rfl, by simp⟩)
theorem ef_rm_wi (m : MethodId) (kv : Int32) : entryFrame m #[(.int kv)] 1 = mkF m 0 #[.val (.int kv)] [] := by first | (simp [entryFrame, mkF, argsToLocals, Value.category]; done) | rfl
set_option maxRecDepth 65536 in
set_option maxHeartbeats 40000000 in
theorem rm_wi {l : Launch} {Z : State} {a0 : Array Value} (hw : ∀ d ∈ tables_1, d.before a0 Z = true) (s_OWN : Addr) (s_OWN_runners : Addr) (s_OWN_CONTENDED : Addr) (S_OWN : Sta Z Z.heap "com/example/mailroom/mailroom/engine/Timeline$Race" "OWN" "Lcom/example/mailroom/mailroom/engine/Timeline$Race;" (.ref s_OWN)) (E_s_OWN : Exa Z Z.heap s_OWN "com/example/mailroom/mailroom/engine/Timeline$Race") (F_s_OWN_contends : Fld Z Z.heap s_OWN "com/example/mailroom/mailroom/engine/Timeline$Race" "contends" "Z" (.int (0 : Int32))) (F_s_OWN_runners : Fld Z Z.heap s_OWN "com/example/mailroom/mailroom/engine/Timeline$Race" "runners" "Ljava/util/BitSet;" (.ref s_OWN_runners)) (E_s_OWN_runners : Exa Z Z.heap s_OWN_runners "java/util/BitSet") (F_s_OWN_runners_wordsInUse : Fld Z Z.heap s_OWN_runners "java/util/BitSet" "wordsInUse" "I" (.int (0 : Int32))) (S_OWN_CONTENDED : Sta Z Z.heap "com/example/mailroom/mailroom/engine/Timeline$Race" "OWN_CONTENDED" "Lcom/example/mailroom/mailroom/engine/Timeline$Race;" (.ref s_OWN_CONTENDED)) (E_s_OWN_CONTENDED : Exa Z Z.heap s_OWN_CONTENDED "com/example/mailroom/mailroom/engine/Timeline$Race") (F_s_OWN_CONTENDED_contends : Fld Z Z.heap s_OWN_CONTENDED "com/example/mailroom/mailroom/engine/Timeline$Race" "contends" "Z" (.int (1 : Int32))) (F_s_OWN_CONTENDED_runners : Fld Z Z.heap s_OWN_CONTENDED "com/example/mailroom/mailroom/engine/Timeline$Race" "runners" "Ljava/util/BitSet;" (.ref s_OWN_runners)) (S__assertionsDisabled : Sta Z Z.heap "java/util/BitSet" "$assertionsDisabled" "Z" (.int (1 : Int32))) (kv : Int32)  (h0 : Heap) (O0 : Ext Z.heap h0) (prem0 : kv >>> ((6 : Int32) &&& 31) = 0) :
    Ok l Z (⟨"java/util/BitSet", "wordIndex", "(I)I"⟩ : MethodName) jdk_92_method_1_code 1 (some .int) ({ frames := 0, cells := 0, slots := 0, locals := 0 } : Room) #[(.int kv)] h0
      (fun v h L => v = some (.int (0 : Int32)) ∧ (h = h0) ∧ (L = [])) := by
  refine Ok.mk pn_java_util_BitSet_wordIndex__I_I ?_
  intro p e s m below meth c T0 hx hby hml hown hnm hret hlk hZ e0 X0
  refine Go.cast (ef_rm_wi m kv) ?_
  have N0 := Fr.nil Z.heap.size
  have K0 : Keep h0 h0 [] := Keep.refl _ _
  refine Go.of (T' := T0) (f' := (mkF m 1 #[.val (.int kv)] [(.int kv)])) (fun _ k => XS.iloadN X0.here hx rfl (hb hby d_jdk_92_method_1_code_0) rfl k) ?_
  refine Go.of (T' := T0) (f' := (mkF m 3 #[.val (.int kv)] [(.int (6 : Int32)), (.int kv)])) (fun _ k => XS.bipush X0.here hx rfl (hb hby d_jdk_92_method_1_code_1) k) ?_
  refine Go.of (T' := T0) (f' := (mkF m 4 #[.val (.int kv)] [(.int (kv >>> ((6 : Int32) &&& 31)))])) (fun _ k => XS.ishr X0.here hx rfl (hb hby d_jdk_92_method_1_code_3) rfl k) ?_
  exact Go.retI X0 hx hlk hret (hb hby d_jdk_92_method_1_code_4) (by decide) (by decide) (by rw [e0]; exact ⟨by rw [prem0], rfl, by simp⟩)
theorem d_jdk_92_method_6_code_0 : decode jdk_92_method_6_code 0 = .ok (.aload_n 0, 1) := by decide +kernel
theorem d_jdk_92_method_6_code_1 : decode jdk_92_method_6_code 1 = .ok (.iload_n 1, 1) := by decide +kernel
theorem d_jdk_92_method_6_code_2 : decode jdk_92_method_6_code 2 = .ok (.iconst 1, 1) := by decide +kernel
theorem d_jdk_92_method_6_code_3 : decode jdk_92_method_6_code 3 = .ok (.isub, 1) := by decide +kernel
theorem d_jdk_92_method_6_code_4 : decode jdk_92_method_6_code 4 = .ok (.invokestatic 52, 3) := by decide +kernel
theorem pd__I_I : parseMethodDescriptor "(I)I" = some ⟨[.int], some .int⟩ := by decide +kernel
theorem d_jdk_92_method_6_code_7 : decode jdk_92_method_6_code 7 = .ok (.iconst 1, 1) := by decide +kernel
theorem d_jdk_92_method_6_code_8 : decode jdk_92_method_6_code 8 = .ok (.iadd, 1) := by decide +kernel
theorem d_jdk_92_method_6_code_9 : decode jdk_92_method_6_code 9 = .ok (.newarray .long, 2) := by decide +kernel
theorem d_jdk_92_method_6_code_11 : decode jdk_92_method_6_code 11 = .ok (.putfield 11, 3) := by decide +kernel
theorem d_jdk_92_method_6_code_14 : decode jdk_92_method_6_code 14 = .ok (.return_, 1) := by decide +kernel
theorem ef_rm_initW (m : MethodId) (bs : Addr) : entryFrame m #[(.ref bs), (.int (64 : Int32))] 2 = mkF m 0 #[.val (.ref bs), .val (.int (64 : Int32))] [] := by first | (simp [entryFrame, mkF, argsToLocals, Value.category]; done) | rfl
theorem pn_java_util_BitSet_initWords__I_V : plainFor (⟨"java/util/BitSet", "initWords", "(I)V"⟩ : MethodName) = true := by first | exact plainFor_of_name (by first | (simp [plainName, overriddenIn]; done) | decide +kernel) | decide +kernel
set_option maxRecDepth 65536 in
set_option maxHeartbeats 40000000 in
theorem rm_initW {l : Launch} {Z : State} {a0 : Array Value} (hw : ∀ d ∈ tables_1, d.before a0 Z = true) (s_OWN : Addr) (s_OWN_runners : Addr) (s_OWN_CONTENDED : Addr) (S_OWN : Sta Z Z.heap "com/example/mailroom/mailroom/engine/Timeline$Race" "OWN" "Lcom/example/mailroom/mailroom/engine/Timeline$Race;" (.ref s_OWN)) (E_s_OWN : Exa Z Z.heap s_OWN "com/example/mailroom/mailroom/engine/Timeline$Race") (F_s_OWN_contends : Fld Z Z.heap s_OWN "com/example/mailroom/mailroom/engine/Timeline$Race" "contends" "Z" (.int (0 : Int32))) (F_s_OWN_runners : Fld Z Z.heap s_OWN "com/example/mailroom/mailroom/engine/Timeline$Race" "runners" "Ljava/util/BitSet;" (.ref s_OWN_runners)) (E_s_OWN_runners : Exa Z Z.heap s_OWN_runners "java/util/BitSet") (F_s_OWN_runners_wordsInUse : Fld Z Z.heap s_OWN_runners "java/util/BitSet" "wordsInUse" "I" (.int (0 : Int32))) (S_OWN_CONTENDED : Sta Z Z.heap "com/example/mailroom/mailroom/engine/Timeline$Race" "OWN_CONTENDED" "Lcom/example/mailroom/mailroom/engine/Timeline$Race;" (.ref s_OWN_CONTENDED)) (E_s_OWN_CONTENDED : Exa Z Z.heap s_OWN_CONTENDED "com/example/mailroom/mailroom/engine/Timeline$Race") (F_s_OWN_CONTENDED_contends : Fld Z Z.heap s_OWN_CONTENDED "com/example/mailroom/mailroom/engine/Timeline$Race" "contends" "Z" (.int (1 : Int32))) (F_s_OWN_CONTENDED_runners : Fld Z Z.heap s_OWN_CONTENDED "com/example/mailroom/mailroom/engine/Timeline$Race" "runners" "Ljava/util/BitSet;" (.ref s_OWN_runners)) (S__assertionsDisabled : Sta Z Z.heap "java/util/BitSet" "$assertionsDisabled" "Z" (.int (1 : Int32))) (bs : Addr)  (h0 : Heap) (O0 : Ext Z.heap h0) (prem0 : Exa Z h0 bs "java/util/BitSet") (prem1 : Fld Z h0 bs "java/util/BitSet" "words" "[J" .null) (prem2 : Fld Z h0 bs "java/util/BitSet" "wordsInUse" "I" (.int (0 : Int32))) (prem3 : Fld Z h0 bs "java/util/BitSet" "sizeIsSticky" "Z" (.int (0 : Int32))) (prem4 : Z.heap.size ≤ bs) :
    Ok l Z (⟨"java/util/BitSet", "initWords", "(I)V"⟩ : MethodName) jdk_92_method_6_code 2 none ({ frames := 1, cells := 1, slots := 1, locals := 13 } : Room) #[(.ref bs), (.int (64 : Int32))] h0
      (fun v h L => ∃ wd : Addr, ∃ kw : ClassId, v = none ∧ (Fr Z.heap.size L) ∧ (Keep h0 h [bs]) ∧ (h0.size ≤ wd) ∧ (Fld Z h bs "java/util/BitSet" "words" "[J" (.ref wd)) ∧ (Fld Z h bs "java/util/BitSet" "wordsInUse" "I" (.int (0 : Int32))) ∧ (Fld Z h bs "java/util/BitSet" "sizeIsSticky" "Z" (.int (0 : Int32))) ∧ (Arv Z h wd kw .long (1 : Int32) [(.long (0 : Int64))] (.long (0 : Int64))) ∧ (Exa Z h wd "[J")) := by
  refine Ok.mk pn_java_util_BitSet_initWords__I_V ?_
  intro p e s m below meth c T0 hx hby hml hown hnm hret hlk hZ e0 X0
  refine Go.cast (ef_rm_initW m bs) ?_
  have N0 := Fr.nil Z.heap.size
  have K0 : Keep h0 h0 [bs] := Keep.refl _ _
  refine Go.of (T' := T0) (f' := (mkF m 1 #[.val (.ref bs), .val (.int (64 : Int32))] [(.ref bs)])) (fun _ k => XS.aloadN X0.here hx rfl (hb hby d_jdk_92_method_6_code_0) rfl rfl k) ?_
  refine Go.of (T' := T0) (f' := (mkF m 2 #[.val (.ref bs), .val (.int (64 : Int32))] [(.int (64 : Int32)), (.ref bs)])) (fun _ k => XS.iloadN X0.here hx rfl (hb hby d_jdk_92_method_6_code_1) rfl k) ?_
  refine Go.of (T' := T0) (f' := (mkF m 3 #[.val (.ref bs), .val (.int (64 : Int32))] [(.int (1 : Int32)), (.int (64 : Int32)), (.ref bs)])) (fun _ k => XS.iconst X0.here hx rfl (hb hby d_jdk_92_method_6_code_2) k) ?_
  refine Go.of (T' := T0) (f' := (mkF m 4 #[.val (.ref bs), .val (.int (64 : Int32))] [(.int (63 : Int32)), (.ref bs)])) (fun _ k => XS.isub X0.here hx rfl (hb hby d_jdk_92_method_6_code_3) rfl k) ?_
  obtain ⟨T12, v12, L12, X12, q12, st12⟩ := callSt X0 hx hZ (y := (⟨"java/util/BitSet", "wordIndex", "(I)I"⟩ : MethodName)) hown (hw _ (List.mem_of_getElem? (i := 46) rfl)) (hw _ (List.mem_of_getElem? (i := 47) rfl)) (hw _ (List.mem_of_getElem? (i := 24) rfl)) (hw _ (List.mem_of_getElem? (i := 48) rfl)) (by decide) (rm_wi63 hw s_OWN s_OWN_runners s_OWN_CONTENDED S_OWN E_s_OWN F_s_OWN_contends F_s_OWN_runners E_s_OWN_runners F_s_OWN_runners_wordsInUse S_OWN_CONTENDED E_s_OWN_CONTENDED F_s_OWN_CONTENDED_contends F_s_OWN_CONTENDED_runners S__assertionsDisabled   h0 O0 ) e0 (W := 1) (by decide) (by decide) (by decide) (by decide) (g := (mkF m 4 #[.val (.ref bs), .val (.int (64 : Int32))] [(.int (63 : Int32)), (.ref bs)])) rfl (by rw [hml]; rfl) (argsL := [(.int (63 : Int32))]) (rest := [(.ref bs)]) (lenOf pd__I_I rfl) rfl rfl (by show 2 * 0 + _ ≤ _; exact Nat.le_of_eq rfl) (hb hby d_jdk_92_method_6_code_4)
  obtain ⟨rfl, e12, rfl⟩ := q12
  have N12 := Fr.app N0 (Fr.nil _)
  refine Go.of (T' := T12) (f' := (mkF m 7 #[.val (.ref bs), .val (.int (64 : Int32))] [(.int (0 : Int32)), (.ref bs)])) (fun _ k => st12 _ k) ?_
  refine Go.of (T' := T12) (f' := (mkF m 8 #[.val (.ref bs), .val (.int (64 : Int32))] [(.int (1 : Int32)), (.int (0 : Int32)), (.ref bs)])) (fun _ k => XS.iconst X12.here hx rfl (hb hby d_jdk_92_method_6_code_7) k) ?_
  refine Go.of (T' := T12) (f' := (mkF m 9 #[.val (.ref bs), .val (.int (64 : Int32))] [(.int (1 : Int32)), (.ref bs)])) (fun _ k => XS.iadd X12.here hx rfl (hb hby d_jdk_92_method_6_code_8) rfl k) ?_
  obtain ⟨T13, h13, k13, b13, q13, X13, e13, E13, V13, A13, st13⟩ := newAr X12 hx hZ (hw _ (List.mem_of_getElem? (i := 49) rfl)) e12 (g := (mkF m 9 #[.val (.ref bs), .val (.int (64 : Int32))] [(.int (1 : Int32)), (.ref bs)])) rfl (hb hby d_jdk_92_method_6_code_9) rfl (by decide) (cap := 1) (by decide) (by decide) (by decide) (by decide) (ad := "[J") (by decide)
  have O14 := Old0.ext O0 E13
  have K14 := Keep.ext K0 E13
  have g_b13 : Z.heap.size ≤ b13 := q13 ▸ O0.1
  have z_b13 : h0.size ≤ b13 := q13 ▸ K0.1
  have ne_bs_b13 : bs ≠ b13 := q13 ▸ Nat.ne_of_lt prem0.lt
  have f15 : Arv Z h13 b13 k13 .long (1 : Int32) [(.long (0 : Int64))] (.long (0 : Int64)) := Arv.pad V13 (pad_rep [] (.long (0 : Int64)) 1)
  refine Go.of (T' := T13) (f' := (mkF m 11 #[.val (.ref bs), .val (.int (64 : Int32))] [(.ref b13), (.ref bs)])) (fun _ k => st13 _ k) ?_
  have f17 : Exa Z h13 bs "java/util/BitSet" := (Exa.ext E13 prem0)
  have f18 : Fld Z h13 bs "java/util/BitSet" "words" "[J" .null := (Fld.ext E13 prem1)
  obtain ⟨T16, h16, X16, e16, W16, st16⟩ := putF X13 hx hZ hown (host := "") (Or.inl (hw _ (List.mem_of_getElem? (i := 50) rfl))) Via.refl e13 f18 f17 (Or.inl (hw _ (List.mem_of_getElem? (i := 51) rfl))) (hw _ (List.mem_of_getElem? (i := 32) rfl)) (ty := (.array .long)) (by decide) rfl rfl (g := (mkF m 11 #[.val (.ref bs), .val (.int (64 : Int32))] [(.ref b13), (.ref bs)])) rfl rfl (hb hby d_jdk_92_method_6_code_11)
  have O19 := Old0.wr O14 W16 prem4
  have K19 := Keep.wr K14 W16 (Or.inl (List.mem_of_getElem? (i := 0) rfl))
  have N16 := Fr.snoc X16 N12 prem4
  have f16 : Fld Z h16 bs "java/util/BitSet" "words" "[J" (.ref b13) := Fld.same W16 f18
  refine Go.of (T' := T16) (f' := (mkF m 14 #[.val (.ref bs), .val (.int (64 : Int32))] [])) (fun _ k => st16 _ k) ?_
  have f20 : Fld Z h16 bs "java/util/BitSet" "wordsInUse" "I" (.int (0 : Int32)) := (Fld.other W16 (Fld.ext E13 prem2) (Or.inr (slot_ne (Or.inl (hw _ (List.mem_of_getElem? (i := 27) rfl))) (Or.inl (hw _ (List.mem_of_getElem? (i := 51) rfl))) (by decide) (t := .int) (t' := (.array .long)) (by decide) (by decide))))
  have f21 : Fld Z h16 bs "java/util/BitSet" "sizeIsSticky" "Z" (.int (0 : Int32)) := (Fld.other W16 (Fld.ext E13 prem3) (Or.inr (slot_ne (Or.inl (hw _ (List.mem_of_getElem? (i := 40) rfl))) (Or.inl (hw _ (List.mem_of_getElem? (i := 51) rfl))) (by decide) (t := .boolean) (t' := (.array .long)) (by decide) (by decide))))
  have f22 : Arv Z h16 b13 k13 .long (1 : Int32) [(.long (0 : Int64))] (.long (0 : Int64)) := (Arv.other f15 W16 (Ne.symm ne_bs_b13))
  have f23 : Exa Z h16 b13 "[J" := (Exa.wr W16 A13)
  exact Go.retV X16 hx hlk hret (hb hby d_jdk_92_method_6_code_14) (by decide) (by decide) (by rw [e16]; exact ⟨b13, k13, rfl, N16, K19, z_b13, f16, f20, f21, f22, f23⟩)
theorem d_jdk_92_method_4_code_0 : decode jdk_92_method_4_code 0 = .ok (.aload_n 0, 1) := by decide +kernel
theorem d_jdk_92_method_4_code_1 : decode jdk_92_method_4_code 1 = .ok (.invokespecial 21, 3) := by decide +kernel
theorem d_jdk_92_method_4_code_4 : decode jdk_92_method_4_code 4 = .ok (.aload_n 0, 1) := by decide +kernel
theorem d_jdk_92_method_4_code_5 : decode jdk_92_method_4_code 5 = .ok (.iconst 0, 1) := by decide +kernel
theorem d_jdk_92_method_4_code_6 : decode jdk_92_method_4_code 6 = .ok (.putfield 7, 3) := by decide +kernel
theorem d_jdk_92_method_4_code_9 : decode jdk_92_method_4_code 9 = .ok (.aload_n 0, 1) := by decide +kernel
theorem d_jdk_92_method_4_code_10 : decode jdk_92_method_4_code 10 = .ok (.iconst 0, 1) := by decide +kernel
theorem d_jdk_92_method_4_code_11 : decode jdk_92_method_4_code 11 = .ok (.putfield 24, 3) := by decide +kernel
theorem d_jdk_92_method_4_code_14 : decode jdk_92_method_4_code 14 = .ok (.aload_n 0, 1) := by decide +kernel
theorem d_jdk_92_method_4_code_15 : decode jdk_92_method_4_code 15 = .ok (.bipush 64, 2) := by decide +kernel
theorem d_jdk_92_method_4_code_17 : decode jdk_92_method_4_code 17 = .ok (.invokevirtual 27, 3) := by decide +kernel
theorem pd__I_V : parseMethodDescriptor "(I)V" = some ⟨[.int], none⟩ := by decide +kernel
theorem d_jdk_92_method_4_code_20 : decode jdk_92_method_4_code 20 = .ok (.aload_n 0, 1) := by decide +kernel
theorem d_jdk_92_method_4_code_21 : decode jdk_92_method_4_code 21 = .ok (.iconst 0, 1) := by decide +kernel
theorem d_jdk_92_method_4_code_22 : decode jdk_92_method_4_code 22 = .ok (.putfield 24, 3) := by decide +kernel
theorem d_jdk_92_method_4_code_25 : decode jdk_92_method_4_code 25 = .ok (.return_, 1) := by decide +kernel
theorem ef_rm_bsinit (m : MethodId) (bs : Addr) : entryFrame m #[(.ref bs)] 1 = mkF m 0 #[.val (.ref bs)] [] := by first | (simp [entryFrame, mkF, argsToLocals, Value.category]; done) | rfl
theorem pn_java_util_BitSet__init____V : plainFor (⟨"java/util/BitSet", "<init>", "()V"⟩ : MethodName) = true := by first | exact plainFor_of_name (by first | (simp [plainName, overriddenIn]; done) | decide +kernel) | decide +kernel
set_option maxRecDepth 65536 in
set_option maxHeartbeats 40000000 in
theorem rm_bsinit {l : Launch} {Z : State} {a0 : Array Value} (hw : ∀ d ∈ tables_1, d.before a0 Z = true) (s_OWN : Addr) (s_OWN_runners : Addr) (s_OWN_CONTENDED : Addr) (S_OWN : Sta Z Z.heap "com/example/mailroom/mailroom/engine/Timeline$Race" "OWN" "Lcom/example/mailroom/mailroom/engine/Timeline$Race;" (.ref s_OWN)) (E_s_OWN : Exa Z Z.heap s_OWN "com/example/mailroom/mailroom/engine/Timeline$Race") (F_s_OWN_contends : Fld Z Z.heap s_OWN "com/example/mailroom/mailroom/engine/Timeline$Race" "contends" "Z" (.int (0 : Int32))) (F_s_OWN_runners : Fld Z Z.heap s_OWN "com/example/mailroom/mailroom/engine/Timeline$Race" "runners" "Ljava/util/BitSet;" (.ref s_OWN_runners)) (E_s_OWN_runners : Exa Z Z.heap s_OWN_runners "java/util/BitSet") (F_s_OWN_runners_wordsInUse : Fld Z Z.heap s_OWN_runners "java/util/BitSet" "wordsInUse" "I" (.int (0 : Int32))) (S_OWN_CONTENDED : Sta Z Z.heap "com/example/mailroom/mailroom/engine/Timeline$Race" "OWN_CONTENDED" "Lcom/example/mailroom/mailroom/engine/Timeline$Race;" (.ref s_OWN_CONTENDED)) (E_s_OWN_CONTENDED : Exa Z Z.heap s_OWN_CONTENDED "com/example/mailroom/mailroom/engine/Timeline$Race") (F_s_OWN_CONTENDED_contends : Fld Z Z.heap s_OWN_CONTENDED "com/example/mailroom/mailroom/engine/Timeline$Race" "contends" "Z" (.int (1 : Int32))) (F_s_OWN_CONTENDED_runners : Fld Z Z.heap s_OWN_CONTENDED "com/example/mailroom/mailroom/engine/Timeline$Race" "runners" "Ljava/util/BitSet;" (.ref s_OWN_runners)) (S__assertionsDisabled : Sta Z Z.heap "java/util/BitSet" "$assertionsDisabled" "Z" (.int (1 : Int32))) (bs : Addr)  (h0 : Heap) (O0 : Ext Z.heap h0) (prem0 : Exa Z h0 bs "java/util/BitSet") (prem1 : Fld Z h0 bs "java/util/BitSet" "wordsInUse" "I" (.int (0 : Int32))) (prem2 : Fld Z h0 bs "java/util/BitSet" "sizeIsSticky" "Z" (.int (0 : Int32))) (prem3 : Fld Z h0 bs "java/util/BitSet" "words" "[J" .null) (prem4 : Z.heap.size ≤ bs) :
    Ok l Z (⟨"java/util/BitSet", "<init>", "()V"⟩ : MethodName) jdk_92_method_4_code 1 none ({ frames := 2, cells := 1, slots := 1, locals := 26 } : Room) #[(.ref bs)] h0
      (fun v h L => ∃ wd : Addr, ∃ kw : ClassId, v = none ∧ (Fr Z.heap.size L) ∧ (Keep h0 h [bs]) ∧ (h0.size ≤ wd) ∧ (Fld Z h bs "java/util/BitSet" "wordsInUse" "I" (.int (0 : Int32))) ∧ (Fld Z h bs "java/util/BitSet" "words" "[J" (.ref wd)) ∧ (Arv Z h wd kw .long (1 : Int32) [(.long (0 : Int64))] (.long (0 : Int64))) ∧ (Exa Z h wd "[J")) := by
  refine Ok.mk pn_java_util_BitSet__init____V ?_
  intro p e s m below meth c T0 hx hby hml hown hnm hret hlk hZ e0 X0
  refine Go.cast (ef_rm_bsinit m bs) ?_
  have N0 := Fr.nil Z.heap.size
  have K0 : Keep h0 h0 [bs] := Keep.refl _ _
  refine Go.of (T' := T0) (f' := (mkF m 1 #[.val (.ref bs)] [(.ref bs)])) (fun _ k => XS.aloadN X0.here hx rfl (hb hby d_jdk_92_method_4_code_0) rfl rfl k) ?_
  obtain ⟨T24, X24, e24, st24⟩ := initO X0 hx hZ hown (hw _ (List.mem_of_getElem? (i := 36) rfl)) (hw _ (List.mem_of_getElem? (i := 37) rfl)) (hw _ (List.mem_of_getElem? (i := 38) rfl)) e0 (g := (mkF m 1 #[.val (.ref bs)] [(.ref bs)])) rfl (by rw [hml]; rfl) rfl (hb hby d_jdk_92_method_4_code_1) (by decide) (W := 0) (by show 2 * 0 + _ ≤ _; exact Nat.le_of_eq rfl) (by decide)
  refine Go.of (T' := T24) (f' := (mkF m 4 #[.val (.ref bs)] [])) (fun _ k => st24 _ k) ?_
  refine Go.of (T' := T24) (f' := (mkF m 5 #[.val (.ref bs)] [(.ref bs)])) (fun _ k => XS.aloadN X24.here hx rfl (hb hby d_jdk_92_method_4_code_4) rfl rfl k) ?_
  refine Go.of (T' := T24) (f' := (mkF m 6 #[.val (.ref bs)] [(.int (0 : Int32)), (.ref bs)])) (fun _ k => XS.iconst X24.here hx rfl (hb hby d_jdk_92_method_4_code_5) k) ?_
  obtain ⟨T25, h25, X25, e25, W25, st25⟩ := putF X24 hx hZ hown (host := "") (Or.inl (hw _ (List.mem_of_getElem? (i := 26) rfl))) Via.refl e24 prem1 prem0 (Or.inl (hw _ (List.mem_of_getElem? (i := 27) rfl))) (hw _ (List.mem_of_getElem? (i := 32) rfl)) (ty := .int) (by decide) rfl rfl (g := (mkF m 6 #[.val (.ref bs)] [(.int (0 : Int32)), (.ref bs)])) rfl rfl (hb hby d_jdk_92_method_4_code_6)
  have O26 := Old0.wr O0 W25 prem4
  have K26 := Keep.wr K0 W25 (Or.inl (List.mem_of_getElem? (i := 0) rfl))
  have N25 := Fr.snoc X25 N0 prem4
  have f25 : Fld Z h25 bs "java/util/BitSet" "wordsInUse" "I" (.int (0 : Int32)) := Fld.same W25 prem1
  refine Go.of (T' := T25) (f' := (mkF m 9 #[.val (.ref bs)] [])) (fun _ k => st25 _ k) ?_
  refine Go.of (T' := T25) (f' := (mkF m 10 #[.val (.ref bs)] [(.ref bs)])) (fun _ k => XS.aloadN X25.here hx rfl (hb hby d_jdk_92_method_4_code_9) rfl rfl k) ?_
  refine Go.of (T' := T25) (f' := (mkF m 11 #[.val (.ref bs)] [(.int (0 : Int32)), (.ref bs)])) (fun _ k => XS.iconst X25.here hx rfl (hb hby d_jdk_92_method_4_code_10) k) ?_
  have f28 : Exa Z h25 bs "java/util/BitSet" := (Exa.wr W25 prem0)
  have f29 : Fld Z h25 bs "java/util/BitSet" "sizeIsSticky" "Z" (.int (0 : Int32)) := (Fld.other W25 prem2 (Or.inr (slot_ne (Or.inl (hw _ (List.mem_of_getElem? (i := 40) rfl))) (Or.inl (hw _ (List.mem_of_getElem? (i := 27) rfl))) (by decide) (t := .boolean) (t' := .int) (by decide) (by decide))))
  obtain ⟨T27, h27, X27, e27, W27, st27⟩ := putFN X25 hx hZ hown (hw _ (List.mem_of_getElem? (i := 39) rfl)) Via.refl e25 f29 f28 (Or.inl (hw _ (List.mem_of_getElem? (i := 40) rfl))) (hw _ (List.mem_of_getElem? (i := 32) rfl)) (ty := .boolean) (v' := (.int (0 : Int32))) (by decide) rfl rfl (g := (mkF m 11 #[.val (.ref bs)] [(.int (0 : Int32)), (.ref bs)])) rfl rfl (hb hby d_jdk_92_method_4_code_11)
  have O30 := Old0.wr O26 W27 prem4
  have K30 := Keep.wr K26 W27 (Or.inl (List.mem_of_getElem? (i := 0) rfl))
  have N27 := Fr.snoc X27 N25 prem4
  have f27 : Fld Z h27 bs "java/util/BitSet" "sizeIsSticky" "Z" (.int (0 : Int32)) := Fld.same W27 f29
  refine Go.of (T' := T27) (f' := (mkF m 14 #[.val (.ref bs)] [])) (fun _ k => st27 _ k) ?_
  refine Go.of (T' := T27) (f' := (mkF m 15 #[.val (.ref bs)] [(.ref bs)])) (fun _ k => XS.aloadN X27.here hx rfl (hb hby d_jdk_92_method_4_code_14) rfl rfl k) ?_
  refine Go.of (T' := T27) (f' := (mkF m 17 #[.val (.ref bs)] [(.int (64 : Int32)), (.ref bs)])) (fun _ k => XS.bipush X27.here hx rfl (hb hby d_jdk_92_method_4_code_15) k) ?_
  have f32 : Exa Z h27 bs "java/util/BitSet" := (Exa.wr W27 f28)
  have f33 : Fld Z h27 bs "java/util/BitSet" "words" "[J" .null := (Fld.other W27 (Fld.other W25 prem3 (Or.inr (slot_ne (Or.inl (hw _ (List.mem_of_getElem? (i := 51) rfl))) (Or.inl (hw _ (List.mem_of_getElem? (i := 27) rfl))) (by decide) (t := (.array .long)) (t' := .int) (by decide) (by decide)))) (Or.inr (slot_ne (Or.inl (hw _ (List.mem_of_getElem? (i := 51) rfl))) (Or.inl (hw _ (List.mem_of_getElem? (i := 40) rfl))) (by decide) (t := (.array .long)) (t' := .boolean) (by decide) (by decide))))
  have f34 : Fld Z h27 bs "java/util/BitSet" "wordsInUse" "I" (.int (0 : Int32)) := (Fld.other W27 f25 (Or.inr (slot_ne (Or.inl (hw _ (List.mem_of_getElem? (i := 27) rfl))) (Or.inl (hw _ (List.mem_of_getElem? (i := 40) rfl))) (by decide) (t := .int) (t' := .boolean) (by decide) (by decide))))
  obtain ⟨T31, v31, L31, X31, q31, st31⟩ := callPr X27 hx hZ (y := (⟨"java/util/BitSet", "initWords", "(I)V"⟩ : MethodName)) hown (hw _ (List.mem_of_getElem? (i := 41) rfl)) (hw _ (List.mem_of_getElem? (i := 42) rfl)) (hw _ (List.mem_of_getElem? (i := 44) rfl)) (hw _ (List.mem_of_getElem? (i := 43) rfl)) (hw _ (List.mem_of_getElem? (i := 24) rfl)) (hw _ (List.mem_of_getElem? (i := 45) rfl)) (by decide) (rm_initW hw s_OWN s_OWN_runners s_OWN_CONTENDED S_OWN E_s_OWN F_s_OWN_contends F_s_OWN_runners E_s_OWN_runners F_s_OWN_runners_wordsInUse S_OWN_CONTENDED E_s_OWN_CONTENDED F_s_OWN_CONTENDED_contends F_s_OWN_CONTENDED_runners S__assertionsDisabled bs  h27 O30 f32 f33 f34 f27 prem4) e27 (W := 0) (by decide) (by decide) (by decide) (by decide) f32 (g := (mkF m 17 #[.val (.ref bs)] [(.int (64 : Int32)), (.ref bs)])) rfl (by rw [hml]; rfl) (a := bs) (argsL := [(.int (64 : Int32))]) (rest := []) (lenOf pd__I_V rfl) rfl rfl (by show 2 * 0 + _ ≤ _; exact Nat.le_of_eq rfl) (hb hby d_jdk_92_method_4_code_17)
  obtain ⟨wd_31, kw_31, rfl, N31q, K31q, p31_0, p31_1, p31_2, p31_3, p31_4, p31_5⟩ := q31
  have N31 := Fr.app N27 N31q
  have O35 := Old0.keep O30 K31q (allS prem4 all0)
  have K35 := Keep.trans K30 K31q (allS (Or.inl (List.mem_of_getElem? (i := 0) rfl)) all0)
  have z_wd_31 : h0.size ≤ wd_31 := Nat.le_trans K30.1 p31_0
  have g_wd_31 : Z.heap.size ≤ wd_31 := Nat.le_trans O30.1 p31_0
  have ne_bs_wd_31 : bs ≠ wd_31 := Nat.ne_of_lt (Nat.lt_of_lt_of_le f32.lt p31_0)
  refine Go.of (T' := T31) (f' := (mkF m 20 #[.val (.ref bs)] [])) (fun _ k => st31 _ k) ?_
  refine Go.of (T' := T31) (f' := (mkF m 21 #[.val (.ref bs)] [(.ref bs)])) (fun _ k => XS.aloadN X31.here hx rfl (hb hby d_jdk_92_method_4_code_20) rfl rfl k) ?_
  refine Go.of (T' := T31) (f' := (mkF m 22 #[.val (.ref bs)] [(.int (0 : Int32)), (.ref bs)])) (fun _ k => XS.iconst X31.here hx rfl (hb hby d_jdk_92_method_4_code_21) k) ?_
  have f37 : Exa Z T31.heap bs "java/util/BitSet" := (Exa.keep f32 K31q)
  obtain ⟨T36, h36, X36, e36, W36, st36⟩ := putFN X31 hx hZ hown (hw _ (List.mem_of_getElem? (i := 39) rfl)) Via.refl rfl p31_3 f37 (Or.inl (hw _ (List.mem_of_getElem? (i := 40) rfl))) (hw _ (List.mem_of_getElem? (i := 32) rfl)) (ty := .boolean) (v' := (.int (0 : Int32))) (by decide) rfl rfl (g := (mkF m 22 #[.val (.ref bs)] [(.int (0 : Int32)), (.ref bs)])) rfl rfl (hb hby d_jdk_92_method_4_code_22)
  have O38 := Old0.wr O35 W36 prem4
  have K38 := Keep.wr K35 W36 (Or.inl (List.mem_of_getElem? (i := 0) rfl))
  have N36 := Fr.snoc X36 N31 prem4
  have f36 : Fld Z h36 bs "java/util/BitSet" "sizeIsSticky" "Z" (.int (0 : Int32)) := Fld.same W36 p31_3
  refine Go.of (T' := T36) (f' := (mkF m 25 #[.val (.ref bs)] [])) (fun _ k => st36 _ k) ?_
  have f39 : Fld Z h36 bs "java/util/BitSet" "wordsInUse" "I" (.int (0 : Int32)) := (Fld.other W36 p31_2 (Or.inr (slot_ne (Or.inl (hw _ (List.mem_of_getElem? (i := 27) rfl))) (Or.inl (hw _ (List.mem_of_getElem? (i := 40) rfl))) (by decide) (t := .int) (t' := .boolean) (by decide) (by decide))))
  have f40 : Fld Z h36 bs "java/util/BitSet" "words" "[J" (.ref wd_31) := (Fld.other W36 p31_1 (Or.inr (slot_ne (Or.inl (hw _ (List.mem_of_getElem? (i := 51) rfl))) (Or.inl (hw _ (List.mem_of_getElem? (i := 40) rfl))) (by decide) (t := (.array .long)) (t' := .boolean) (by decide) (by decide))))
  have f41 : Arv Z h36 wd_31 kw_31 .long (1 : Int32) [(.long (0 : Int64))] (.long (0 : Int64)) := (Arv.other p31_4 W36 (Ne.symm ne_bs_wd_31))
  have f42 : Exa Z h36 wd_31 "[J" := (Exa.wr W36 p31_5)
  exact Go.retV X36 hx hlk hret (hb hby d_jdk_92_method_4_code_25) (by decide) (by decide) (by rw [e36]; exact ⟨wd_31, kw_31, rfl, N36, K38, z_wd_31, f39, f40, f41, f42⟩)
theorem d_jdk_92_method_14_code_0 : decode jdk_92_method_14_code 0 = .ok (.aload_n 0, 1) := by decide +kernel
theorem d_jdk_92_method_14_code_1 : decode jdk_92_method_14_code 1 = .ok (.getfield 11, 3) := by decide +kernel
theorem d_jdk_92_method_14_code_4 : decode jdk_92_method_14_code 4 = .ok (.arraylength, 1) := by decide +kernel
theorem d_jdk_92_method_14_code_5 : decode jdk_92_method_14_code 5 = .ok (.iload_n 1, 1) := by decide +kernel
theorem d_jdk_92_method_14_code_6 : decode jdk_92_method_14_code 6 = .ok (.if_icmp .ge 32, 3) := by decide +kernel
theorem d_jdk_92_method_14_code_38 : decode jdk_92_method_14_code 38 = .ok (.return_, 1) := by decide +kernel
theorem ef_rm_ensure (m : MethodId) (bs : Addr) : entryFrame m #[(.ref bs), (.int (1 : Int32))] 3 = mkF m 0 #[.val (.ref bs), .val (.int (1 : Int32)), .unset] [] := by first | (simp [entryFrame, mkF, argsToLocals, Value.category]; done) | rfl
theorem pn_java_util_BitSet_ensureCapacity__I_V : plainFor (⟨"java/util/BitSet", "ensureCapacity", "(I)V"⟩ : MethodName) = true := by first | exact plainFor_of_name (by first | (simp [plainName, overriddenIn]; done) | decide +kernel) | decide +kernel
set_option maxRecDepth 65536 in
set_option maxHeartbeats 40000000 in
theorem rm_ensure {l : Launch} {Z : State} {a0 : Array Value} (hw : ∀ d ∈ tables_1, d.before a0 Z = true) (s_OWN : Addr) (s_OWN_runners : Addr) (s_OWN_CONTENDED : Addr) (S_OWN : Sta Z Z.heap "com/example/mailroom/mailroom/engine/Timeline$Race" "OWN" "Lcom/example/mailroom/mailroom/engine/Timeline$Race;" (.ref s_OWN)) (E_s_OWN : Exa Z Z.heap s_OWN "com/example/mailroom/mailroom/engine/Timeline$Race") (F_s_OWN_contends : Fld Z Z.heap s_OWN "com/example/mailroom/mailroom/engine/Timeline$Race" "contends" "Z" (.int (0 : Int32))) (F_s_OWN_runners : Fld Z Z.heap s_OWN "com/example/mailroom/mailroom/engine/Timeline$Race" "runners" "Ljava/util/BitSet;" (.ref s_OWN_runners)) (E_s_OWN_runners : Exa Z Z.heap s_OWN_runners "java/util/BitSet") (F_s_OWN_runners_wordsInUse : Fld Z Z.heap s_OWN_runners "java/util/BitSet" "wordsInUse" "I" (.int (0 : Int32))) (S_OWN_CONTENDED : Sta Z Z.heap "com/example/mailroom/mailroom/engine/Timeline$Race" "OWN_CONTENDED" "Lcom/example/mailroom/mailroom/engine/Timeline$Race;" (.ref s_OWN_CONTENDED)) (E_s_OWN_CONTENDED : Exa Z Z.heap s_OWN_CONTENDED "com/example/mailroom/mailroom/engine/Timeline$Race") (F_s_OWN_CONTENDED_contends : Fld Z Z.heap s_OWN_CONTENDED "com/example/mailroom/mailroom/engine/Timeline$Race" "contends" "Z" (.int (1 : Int32))) (F_s_OWN_CONTENDED_runners : Fld Z Z.heap s_OWN_CONTENDED "com/example/mailroom/mailroom/engine/Timeline$Race" "runners" "Ljava/util/BitSet;" (.ref s_OWN_runners)) (S__assertionsDisabled : Sta Z Z.heap "java/util/BitSet" "$assertionsDisabled" "Z" (.int (1 : Int32))) (bs : Addr) (wd : Addr) (kw : ClassId) (h0 : Heap) (O0 : Ext Z.heap h0) (prem0 : Fld Z h0 bs "java/util/BitSet" "words" "[J" (.ref wd)) (prem1 : Arv Z h0 wd kw .long (1 : Int32) [(.long (0 : Int64))] (.long (0 : Int64))) :
    Ok l Z (⟨"java/util/BitSet", "ensureCapacity", "(I)V"⟩ : MethodName) jdk_92_method_14_code 3 none ({ frames := 0, cells := 0, slots := 0, locals := 0 } : Room) #[(.ref bs), (.int (1 : Int32))] h0
      (fun v h L => v = none ∧ (h = h0) ∧ (L = [])) := by
  refine Ok.mk pn_java_util_BitSet_ensureCapacity__I_V ?_
  intro p e s m below meth c T0 hx hby hml hown hnm hret hlk hZ e0 X0
  refine Go.cast (ef_rm_ensure m bs) ?_
  have N0 := Fr.nil Z.heap.size
  have K0 : Keep h0 h0 [] := Keep.refl _ _
  refine Go.of (T' := T0) (f' := (mkF m 1 #[.val (.ref bs), .val (.int (1 : Int32)), .unset] [(.ref bs)])) (fun _ k => XS.aloadN X0.here hx rfl (hb hby d_jdk_92_method_14_code_0) rfl rfl k) ?_
  obtain ⟨T43, X43, e43, st43⟩ := getF X0 hx hZ hown (host := "") (Or.inl (hw _ (List.mem_of_getElem? (i := 50) rfl))) Via.refl e0 prem0 (g := (mkF m 1 #[.val (.ref bs), .val (.int (1 : Int32)), .unset] [(.ref bs)])) rfl rfl (hb hby d_jdk_92_method_14_code_1)
  refine Go.of (T' := T43) (f' := (mkF m 4 #[.val (.ref bs), .val (.int (1 : Int32)), .unset] [(.ref wd)])) (fun _ k => st43 _ k) ?_
  obtain ⟨cl44, Ar44, qk44, S44, Ng44, H44, G44⟩ := id prem1
  refine Go.of (T' := T43) (f' := (mkF m 5 #[.val (.ref bs), .val (.int (1 : Int32)), .unset] [(.int (1 : Int32))])) (fun _ k => X43.arraylength hx (by rw [e43]; exact Ar44.1) (State.isArrayOf_alike hZ.alike Ar44.2.1) (g := (mkF m 4 #[.val (.ref bs), .val (.int (1 : Int32)), .unset] [(.ref wd)])) rfl rfl (hb hby d_jdk_92_method_14_code_4) _ (by rw [len_of S44 Ng44]; exact k)) ?_
  refine Go.of (T' := T43) (f' := (mkF m 6 #[.val (.ref bs), .val (.int (1 : Int32)), .unset] [(.int (1 : Int32)), (.int (1 : Int32))])) (fun _ k => XS.iloadN X43.here hx rfl (hb hby d_jdk_92_method_14_code_5) rfl k) ?_
  refine Go.of (T' := T43) (f' := (mkF m 38 #[.val (.ref bs), .val (.int (1 : Int32)), .unset] [])) (fun _ k => XS.icmpYes X43.here hx rfl (pc0 := 6) (pc' := 38) rfl (hb hby d_jdk_92_method_14_code_6) rfl (flt (by decide : ¬ ((1 : Int32) < (1 : Int32)))).2.1 (by decide) (by decide) k) ?_
  exact Go.retV X43 hx hlk hret (hb hby d_jdk_92_method_14_code_38) (by decide) (by decide) (by rw [e43]; exact ⟨rfl, rfl, by simp⟩)
theorem d_jdk_92_method_15_code_0 : decode jdk_92_method_15_code 0 = .ok (.iload_n 1, 1) := by decide +kernel
theorem d_jdk_92_method_15_code_1 : decode jdk_92_method_15_code 1 = .ok (.iconst 1, 1) := by decide +kernel
theorem d_jdk_92_method_15_code_2 : decode jdk_92_method_15_code 2 = .ok (.iadd, 1) := by decide +kernel
theorem d_jdk_92_method_15_code_3 : decode jdk_92_method_15_code 3 = .ok (.istore_n 2, 1) := by decide +kernel
theorem d_jdk_92_method_15_code_4 : decode jdk_92_method_15_code 4 = .ok (.aload_n 0, 1) := by decide +kernel
theorem d_jdk_92_method_15_code_5 : decode jdk_92_method_15_code 5 = .ok (.getfield 7, 3) := by decide +kernel
theorem d_jdk_92_method_15_code_8 : decode jdk_92_method_15_code 8 = .ok (.iload_n 2, 1) := by decide +kernel
theorem d_jdk_92_method_15_code_9 : decode jdk_92_method_15_code 9 = .ok (.if_icmp .ge 13, 3) := by decide +kernel
theorem d_jdk_92_method_15_code_12 : decode jdk_92_method_15_code 12 = .ok (.aload_n 0, 1) := by decide +kernel
theorem d_jdk_92_method_15_code_13 : decode jdk_92_method_15_code 13 = .ok (.iload_n 2, 1) := by decide +kernel
theorem d_jdk_92_method_15_code_14 : decode jdk_92_method_15_code 14 = .ok (.invokevirtual 139, 3) := by decide +kernel
theorem d_jdk_92_method_15_code_17 : decode jdk_92_method_15_code 17 = .ok (.aload_n 0, 1) := by decide +kernel
theorem d_jdk_92_method_15_code_18 : decode jdk_92_method_15_code 18 = .ok (.iload_n 2, 1) := by decide +kernel
theorem d_jdk_92_method_15_code_19 : decode jdk_92_method_15_code 19 = .ok (.putfield 7, 3) := by decide +kernel
theorem d_jdk_92_method_15_code_22 : decode jdk_92_method_15_code 22 = .ok (.return_, 1) := by decide +kernel
theorem ef_rm_expand (m : MethodId) (bs : Addr) : entryFrame m #[(.ref bs), (.int (0 : Int32))] 3 = mkF m 0 #[.val (.ref bs), .val (.int (0 : Int32)), .unset] [] := by first | (simp [entryFrame, mkF, argsToLocals, Value.category]; done) | rfl
theorem pn_java_util_BitSet_expandTo__I_V : plainFor (⟨"java/util/BitSet", "expandTo", "(I)V"⟩ : MethodName) = true := by first | exact plainFor_of_name (by first | (simp [plainName, overriddenIn]; done) | decide +kernel) | decide +kernel
set_option maxRecDepth 65536 in
set_option maxHeartbeats 40000000 in
theorem rm_expand {l : Launch} {Z : State} {a0 : Array Value} (hw : ∀ d ∈ tables_1, d.before a0 Z = true) (s_OWN : Addr) (s_OWN_runners : Addr) (s_OWN_CONTENDED : Addr) (S_OWN : Sta Z Z.heap "com/example/mailroom/mailroom/engine/Timeline$Race" "OWN" "Lcom/example/mailroom/mailroom/engine/Timeline$Race;" (.ref s_OWN)) (E_s_OWN : Exa Z Z.heap s_OWN "com/example/mailroom/mailroom/engine/Timeline$Race") (F_s_OWN_contends : Fld Z Z.heap s_OWN "com/example/mailroom/mailroom/engine/Timeline$Race" "contends" "Z" (.int (0 : Int32))) (F_s_OWN_runners : Fld Z Z.heap s_OWN "com/example/mailroom/mailroom/engine/Timeline$Race" "runners" "Ljava/util/BitSet;" (.ref s_OWN_runners)) (E_s_OWN_runners : Exa Z Z.heap s_OWN_runners "java/util/BitSet") (F_s_OWN_runners_wordsInUse : Fld Z Z.heap s_OWN_runners "java/util/BitSet" "wordsInUse" "I" (.int (0 : Int32))) (S_OWN_CONTENDED : Sta Z Z.heap "com/example/mailroom/mailroom/engine/Timeline$Race" "OWN_CONTENDED" "Lcom/example/mailroom/mailroom/engine/Timeline$Race;" (.ref s_OWN_CONTENDED)) (E_s_OWN_CONTENDED : Exa Z Z.heap s_OWN_CONTENDED "com/example/mailroom/mailroom/engine/Timeline$Race") (F_s_OWN_CONTENDED_contends : Fld Z Z.heap s_OWN_CONTENDED "com/example/mailroom/mailroom/engine/Timeline$Race" "contends" "Z" (.int (1 : Int32))) (F_s_OWN_CONTENDED_runners : Fld Z Z.heap s_OWN_CONTENDED "com/example/mailroom/mailroom/engine/Timeline$Race" "runners" "Ljava/util/BitSet;" (.ref s_OWN_runners)) (S__assertionsDisabled : Sta Z Z.heap "java/util/BitSet" "$assertionsDisabled" "Z" (.int (1 : Int32))) (bs : Addr) (wd : Addr) (kw : ClassId) (h0 : Heap) (O0 : Ext Z.heap h0) (prem0 : Exa Z h0 bs "java/util/BitSet") (prem1 : Fld Z h0 bs "java/util/BitSet" "wordsInUse" "I" (.int (0 : Int32))) (prem2 : Fld Z h0 bs "java/util/BitSet" "words" "[J" (.ref wd)) (prem3 : Arv Z h0 wd kw .long (1 : Int32) [(.long (0 : Int64))] (.long (0 : Int64))) (prem4 : Z.heap.size ≤ bs) :
    Ok l Z (⟨"java/util/BitSet", "expandTo", "(I)V"⟩ : MethodName) jdk_92_method_15_code 3 none ({ frames := 1, cells := 0, slots := 0, locals := 14 } : Room) #[(.ref bs), (.int (0 : Int32))] h0
      (fun v h L => v = none ∧ (Fr Z.heap.size L) ∧ (Keep h0 h [bs]) ∧ (Fld Z h bs "java/util/BitSet" "wordsInUse" "I" (.int (1 : Int32))) ∧ (Fld Z h bs "java/util/BitSet" "words" "[J" (.ref wd))) := by
  refine Ok.mk pn_java_util_BitSet_expandTo__I_V ?_
  intro p e s m below meth c T0 hx hby hml hown hnm hret hlk hZ e0 X0
  refine Go.cast (ef_rm_expand m bs) ?_
  have N0 := Fr.nil Z.heap.size
  have K0 : Keep h0 h0 [bs] := Keep.refl _ _
  refine Go.of (T' := T0) (f' := (mkF m 1 #[.val (.ref bs), .val (.int (0 : Int32)), .unset] [(.int (0 : Int32))])) (fun _ k => XS.iloadN X0.here hx rfl (hb hby d_jdk_92_method_15_code_0) rfl k) ?_
  refine Go.of (T' := T0) (f' := (mkF m 2 #[.val (.ref bs), .val (.int (0 : Int32)), .unset] [(.int (1 : Int32)), (.int (0 : Int32))])) (fun _ k => XS.iconst X0.here hx rfl (hb hby d_jdk_92_method_15_code_1) k) ?_
  refine Go.of (T' := T0) (f' := (mkF m 3 #[.val (.ref bs), .val (.int (0 : Int32)), .unset] [(.int (1 : Int32))])) (fun _ k => XS.iadd X0.here hx rfl (hb hby d_jdk_92_method_15_code_2) rfl k) ?_
  refine Go.of (T' := T0) (f' := (mkF m 4 #[.val (.ref bs), .val (.int (0 : Int32)), .val (.int (1 : Int32))] [])) (fun _ k => XS.istoreN X0.here hx rfl (hb hby d_jdk_92_method_15_code_3) rfl (l' := #[.val (.ref bs), .val (.int (0 : Int32)), .val (.int (1 : Int32))]) rfl k) ?_
  refine Go.of (T' := T0) (f' := (mkF m 5 #[.val (.ref bs), .val (.int (0 : Int32)), .val (.int (1 : Int32))] [(.ref bs)])) (fun _ k => XS.aloadN X0.here hx rfl (hb hby d_jdk_92_method_15_code_4) rfl rfl k) ?_
  obtain ⟨T46, X46, e46, st46⟩ := getF X0 hx hZ hown (host := "") (Or.inl (hw _ (List.mem_of_getElem? (i := 26) rfl))) Via.refl e0 prem1 (g := (mkF m 5 #[.val (.ref bs), .val (.int (0 : Int32)), .val (.int (1 : Int32))] [(.ref bs)])) rfl rfl (hb hby d_jdk_92_method_15_code_5)
  refine Go.of (T' := T46) (f' := (mkF m 8 #[.val (.ref bs), .val (.int (0 : Int32)), .val (.int (1 : Int32))] [(.int (0 : Int32))])) (fun _ k => st46 _ k) ?_
  refine Go.of (T' := T46) (f' := (mkF m 9 #[.val (.ref bs), .val (.int (0 : Int32)), .val (.int (1 : Int32))] [(.int (1 : Int32)), (.int (0 : Int32))])) (fun _ k => XS.iloadN X46.here hx rfl (hb hby d_jdk_92_method_15_code_8) rfl k) ?_
  refine Go.of (T' := T46) (f' := (mkF m 12 #[.val (.ref bs), .val (.int (0 : Int32)), .val (.int (1 : Int32))] [])) (fun _ k => XS.icmpNo X46.here hx rfl (hb hby d_jdk_92_method_15_code_9) rfl (tlt (by decide : (0 : Int32) < (1 : Int32))).2.1 k) ?_
  refine Go.of (T' := T46) (f' := (mkF m 13 #[.val (.ref bs), .val (.int (0 : Int32)), .val (.int (1 : Int32))] [(.ref bs)])) (fun _ k => XS.aloadN X46.here hx rfl (hb hby d_jdk_92_method_15_code_12) rfl rfl k) ?_
  refine Go.of (T' := T46) (f' := (mkF m 14 #[.val (.ref bs), .val (.int (0 : Int32)), .val (.int (1 : Int32))] [(.int (1 : Int32)), (.ref bs)])) (fun _ k => XS.iloadN X46.here hx rfl (hb hby d_jdk_92_method_15_code_13) rfl k) ?_
  obtain ⟨T48, v48, L48, X48, q48, st48⟩ := callPr X46 hx hZ (y := (⟨"java/util/BitSet", "ensureCapacity", "(I)V"⟩ : MethodName)) hown (hw _ (List.mem_of_getElem? (i := 62) rfl)) (hw _ (List.mem_of_getElem? (i := 63) rfl)) (hw _ (List.mem_of_getElem? (i := 65) rfl)) (hw _ (List.mem_of_getElem? (i := 64) rfl)) (hw _ (List.mem_of_getElem? (i := 24) rfl)) (hw _ (List.mem_of_getElem? (i := 66) rfl)) (by decide) (rm_ensure hw s_OWN s_OWN_runners s_OWN_CONTENDED S_OWN E_s_OWN F_s_OWN_contends F_s_OWN_runners E_s_OWN_runners F_s_OWN_runners_wordsInUse S_OWN_CONTENDED E_s_OWN_CONTENDED F_s_OWN_CONTENDED_contends F_s_OWN_CONTENDED_runners S__assertionsDisabled bs wd kw h0 O0 prem2 prem3) e46 (W := 0) (by decide) (by decide) (by decide) (by decide) prem0 (g := (mkF m 14 #[.val (.ref bs), .val (.int (0 : Int32)), .val (.int (1 : Int32))] [(.int (1 : Int32)), (.ref bs)])) rfl (by rw [hml]; rfl) (a := bs) (argsL := [(.int (1 : Int32))]) (rest := []) (lenOf pd__I_V rfl) rfl rfl (by show 2 * 0 + _ ≤ _; exact Nat.le_of_eq rfl) (hb hby d_jdk_92_method_15_code_14)
  obtain ⟨rfl, e48, rfl⟩ := q48
  have N48 := Fr.app N0 (Fr.nil _)
  refine Go.of (T' := T48) (f' := (mkF m 17 #[.val (.ref bs), .val (.int (0 : Int32)), .val (.int (1 : Int32))] [])) (fun _ k => st48 _ k) ?_
  refine Go.of (T' := T48) (f' := (mkF m 18 #[.val (.ref bs), .val (.int (0 : Int32)), .val (.int (1 : Int32))] [(.ref bs)])) (fun _ k => XS.aloadN X48.here hx rfl (hb hby d_jdk_92_method_15_code_17) rfl rfl k) ?_
  refine Go.of (T' := T48) (f' := (mkF m 19 #[.val (.ref bs), .val (.int (0 : Int32)), .val (.int (1 : Int32))] [(.int (1 : Int32)), (.ref bs)])) (fun _ k => XS.iloadN X48.here hx rfl (hb hby d_jdk_92_method_15_code_18) rfl k) ?_
  obtain ⟨T49, h49, X49, e49, W49, st49⟩ := putF X48 hx hZ hown (host := "") (Or.inl (hw _ (List.mem_of_getElem? (i := 26) rfl))) Via.refl e48 prem1 prem0 (Or.inl (hw _ (List.mem_of_getElem? (i := 27) rfl))) (hw _ (List.mem_of_getElem? (i := 32) rfl)) (ty := .int) (by decide) rfl rfl (g := (mkF m 19 #[.val (.ref bs), .val (.int (0 : Int32)), .val (.int (1 : Int32))] [(.int (1 : Int32)), (.ref bs)])) rfl rfl (hb hby d_jdk_92_method_15_code_19)
  have O50 := Old0.wr O0 W49 prem4
  have K50 := Keep.wr K0 W49 (Or.inl (List.mem_of_getElem? (i := 0) rfl))
  have N49 := Fr.snoc X49 N48 prem4
  have f49 : Fld Z h49 bs "java/util/BitSet" "wordsInUse" "I" (.int (1 : Int32)) := Fld.same W49 prem1
  refine Go.of (T' := T49) (f' := (mkF m 22 #[.val (.ref bs), .val (.int (0 : Int32)), .val (.int (1 : Int32))] [])) (fun _ k => st49 _ k) ?_
  have f51 : Fld Z h49 bs "java/util/BitSet" "words" "[J" (.ref wd) := (Fld.other W49 prem2 (Or.inr (slot_ne (Or.inl (hw _ (List.mem_of_getElem? (i := 51) rfl))) (Or.inl (hw _ (List.mem_of_getElem? (i := 27) rfl))) (by decide) (t := (.array .long)) (t' := .int) (by decide) (by decide))))
  exact Go.retV X49 hx hlk hret (hb hby d_jdk_92_method_15_code_22) (by decide) (by decide) (by rw [e49]; exact ⟨rfl, N49, K50, f49, f51⟩)
theorem d_jdk_92_method_2_code_0 : decode jdk_92_method_2_code 0 = .ok (.getstatic 3, 3) := by decide +kernel
theorem d_jdk_92_method_2_code_3 : decode jdk_92_method_2_code 3 = .ok (.ifCond .ne 34, 3) := by decide +kernel
theorem d_jdk_92_method_2_code_37 : decode jdk_92_method_2_code 37 = .ok (.getstatic 3, 3) := by decide +kernel
theorem d_jdk_92_method_2_code_40 : decode jdk_92_method_2_code 40 = .ok (.ifCond .ne 30, 3) := by decide +kernel
theorem d_jdk_92_method_2_code_70 : decode jdk_92_method_2_code 70 = .ok (.getstatic 3, 3) := by decide +kernel
theorem d_jdk_92_method_2_code_73 : decode jdk_92_method_2_code 73 = .ok (.ifCond .ne 37, 3) := by decide +kernel
theorem d_jdk_92_method_2_code_110 : decode jdk_92_method_2_code 110 = .ok (.return_, 1) := by decide +kernel
theorem ef_rm_check (m : MethodId) (bs : Addr) : entryFrame m #[(.ref bs)] 1 = mkF m 0 #[.val (.ref bs)] [] := by first | (simp [entryFrame, mkF, argsToLocals, Value.category]; done) | rfl
theorem pn_java_util_BitSet_checkInvariants___V : plainFor (⟨"java/util/BitSet", "checkInvariants", "()V"⟩ : MethodName) = true := by first | exact plainFor_of_name (by first | (simp [plainName, overriddenIn]; done) | decide +kernel) | decide +kernel
set_option maxRecDepth 65536 in
set_option maxHeartbeats 40000000 in
theorem rm_check {l : Launch} {Z : State} {a0 : Array Value} (hw : ∀ d ∈ tables_1, d.before a0 Z = true) (s_OWN : Addr) (s_OWN_runners : Addr) (s_OWN_CONTENDED : Addr) (S_OWN : Sta Z Z.heap "com/example/mailroom/mailroom/engine/Timeline$Race" "OWN" "Lcom/example/mailroom/mailroom/engine/Timeline$Race;" (.ref s_OWN)) (E_s_OWN : Exa Z Z.heap s_OWN "com/example/mailroom/mailroom/engine/Timeline$Race") (F_s_OWN_contends : Fld Z Z.heap s_OWN "com/example/mailroom/mailroom/engine/Timeline$Race" "contends" "Z" (.int (0 : Int32))) (F_s_OWN_runners : Fld Z Z.heap s_OWN "com/example/mailroom/mailroom/engine/Timeline$Race" "runners" "Ljava/util/BitSet;" (.ref s_OWN_runners)) (E_s_OWN_runners : Exa Z Z.heap s_OWN_runners "java/util/BitSet") (F_s_OWN_runners_wordsInUse : Fld Z Z.heap s_OWN_runners "java/util/BitSet" "wordsInUse" "I" (.int (0 : Int32))) (S_OWN_CONTENDED : Sta Z Z.heap "com/example/mailroom/mailroom/engine/Timeline$Race" "OWN_CONTENDED" "Lcom/example/mailroom/mailroom/engine/Timeline$Race;" (.ref s_OWN_CONTENDED)) (E_s_OWN_CONTENDED : Exa Z Z.heap s_OWN_CONTENDED "com/example/mailroom/mailroom/engine/Timeline$Race") (F_s_OWN_CONTENDED_contends : Fld Z Z.heap s_OWN_CONTENDED "com/example/mailroom/mailroom/engine/Timeline$Race" "contends" "Z" (.int (1 : Int32))) (F_s_OWN_CONTENDED_runners : Fld Z Z.heap s_OWN_CONTENDED "com/example/mailroom/mailroom/engine/Timeline$Race" "runners" "Ljava/util/BitSet;" (.ref s_OWN_runners)) (S__assertionsDisabled : Sta Z Z.heap "java/util/BitSet" "$assertionsDisabled" "Z" (.int (1 : Int32))) (bs : Addr)  (h0 : Heap) (O0 : Ext Z.heap h0)  :
    Ok l Z (⟨"java/util/BitSet", "checkInvariants", "()V"⟩ : MethodName) jdk_92_method_2_code 1 none ({ frames := 0, cells := 0, slots := 0, locals := 0 } : Room) #[(.ref bs)] h0
      (fun v h L => v = none ∧ (h = h0) ∧ (L = [])) := by
  refine Ok.mk pn_java_util_BitSet_checkInvariants___V ?_
  intro p e s m below meth c T0 hx hby hml hown hnm hret hlk hZ e0 X0
  refine Go.cast (ef_rm_check m bs) ?_
  have N0 := Fr.nil Z.heap.size
  have K0 : Keep h0 h0 [] := Keep.refl _ _
  obtain ⟨T52, X52, e52, st52⟩ := getS2 X0 hx hZ hown (host := "") (Or.inl (hw _ (List.mem_of_getElem? (i := 72) rfl))) Via.refl e0 (Sta.ext O0 S__assertionsDisabled) (g := (mkF m 0 #[.val (.ref bs)] [])) rfl (hb hby d_jdk_92_method_2_code_0)
  refine Go.of (T' := T52) (f' := (mkF m 3 #[.val (.ref bs)] [(.int (1 : Int32))])) (fun _ k => st52 _ k) ?_
  refine Go.of (T' := T52) (f' := (mkF m 37 #[.val (.ref bs)] [])) (fun _ k => XS.ifYes X52.here hx rfl (pc0 := 3) (pc' := 37) rfl (hb hby d_jdk_92_method_2_code_3) rfl ((if0 _ _).trans (feq (by decide : ¬ ((1 : Int32) = (0 : Int32)))).2) (by decide) (by decide) k) ?_
  obtain ⟨T54, X54, e54, st54⟩ := getS2 X52 hx hZ hown (host := "") (Or.inl (hw _ (List.mem_of_getElem? (i := 72) rfl))) Via.refl e52 (Sta.ext O0 S__assertionsDisabled) (g := (mkF m 37 #[.val (.ref bs)] [])) rfl (hb hby d_jdk_92_method_2_code_37)
  refine Go.of (T' := T54) (f' := (mkF m 40 #[.val (.ref bs)] [(.int (1 : Int32))])) (fun _ k => st54 _ k) ?_
  refine Go.of (T' := T54) (f' := (mkF m 70 #[.val (.ref bs)] [])) (fun _ k => XS.ifYes X54.here hx rfl (pc0 := 40) (pc' := 70) rfl (hb hby d_jdk_92_method_2_code_40) rfl ((if0 _ _).trans (feq (by decide : ¬ ((1 : Int32) = (0 : Int32)))).2) (by decide) (by decide) k) ?_
  obtain ⟨T56, X56, e56, st56⟩ := getS2 X54 hx hZ hown (host := "") (Or.inl (hw _ (List.mem_of_getElem? (i := 72) rfl))) Via.refl e54 (Sta.ext O0 S__assertionsDisabled) (g := (mkF m 70 #[.val (.ref bs)] [])) rfl (hb hby d_jdk_92_method_2_code_70)
  refine Go.of (T' := T56) (f' := (mkF m 73 #[.val (.ref bs)] [(.int (1 : Int32))])) (fun _ k => st56 _ k) ?_
  refine Go.of (T' := T56) (f' := (mkF m 110 #[.val (.ref bs)] [])) (fun _ k => XS.ifYes X56.here hx rfl (pc0 := 73) (pc' := 110) rfl (hb hby d_jdk_92_method_2_code_73) rfl ((if0 _ _).trans (feq (by decide : ¬ ((1 : Int32) = (0 : Int32)))).2) (by decide) (by decide) k) ?_
  exact Go.retV X56 hx hlk hret (hb hby d_jdk_92_method_2_code_110) (by decide) (by decide) (by rw [e56]; exact ⟨rfl, rfl, by simp⟩)
theorem d_jdk_92_method_19_code_0 : decode jdk_92_method_19_code 0 = .ok (.iload_n 1, 1) := by decide +kernel
theorem d_jdk_92_method_19_code_1 : decode jdk_92_method_19_code 1 = .ok (.ifCond .ge 30, 3) := by decide +kernel
theorem d_jdk_92_method_19_code_31 : decode jdk_92_method_19_code 31 = .ok (.iload_n 1, 1) := by decide +kernel
theorem d_jdk_92_method_19_code_32 : decode jdk_92_method_19_code 32 = .ok (.invokestatic 52, 3) := by decide +kernel
theorem d_jdk_92_method_19_code_35 : decode jdk_92_method_19_code 35 = .ok (.istore_n 2, 1) := by decide +kernel
theorem d_jdk_92_method_19_code_36 : decode jdk_92_method_19_code 36 = .ok (.aload_n 0, 1) := by decide +kernel
theorem d_jdk_92_method_19_code_37 : decode jdk_92_method_19_code 37 = .ok (.iload_n 2, 1) := by decide +kernel
theorem d_jdk_92_method_19_code_38 : decode jdk_92_method_19_code 38 = .ok (.invokevirtual 155, 3) := by decide +kernel
theorem d_jdk_92_method_19_code_41 : decode jdk_92_method_19_code 41 = .ok (.aload_n 0, 1) := by decide +kernel
theorem d_jdk_92_method_19_code_42 : decode jdk_92_method_19_code 42 = .ok (.getfield 11, 3) := by decide +kernel
theorem d_jdk_92_method_19_code_45 : decode jdk_92_method_19_code 45 = .ok (.iload_n 2, 1) := by decide +kernel
theorem d_jdk_92_method_19_code_46 : decode jdk_92_method_19_code 46 = .ok (.dup2, 1) := by decide +kernel
theorem d_jdk_92_method_19_code_47 : decode jdk_92_method_19_code 47 = .ok (.laload, 1) := by decide +kernel
theorem d_jdk_92_method_19_code_48 : decode jdk_92_method_19_code 48 = .ok (.lconst 1, 1) := by decide +kernel
theorem d_jdk_92_method_19_code_49 : decode jdk_92_method_19_code 49 = .ok (.iload_n 1, 1) := by decide +kernel
theorem d_jdk_92_method_19_code_50 : decode jdk_92_method_19_code 50 = .ok (.lshl, 1) := by decide +kernel
theorem d_jdk_92_method_19_code_51 : decode jdk_92_method_19_code 51 = .ok (.lor, 1) := by decide +kernel
theorem d_jdk_92_method_19_code_52 : decode jdk_92_method_19_code 52 = .ok (.lastore, 1) := by decide +kernel
theorem d_jdk_92_method_19_code_53 : decode jdk_92_method_19_code 53 = .ok (.aload_n 0, 1) := by decide +kernel
theorem d_jdk_92_method_19_code_54 : decode jdk_92_method_19_code 54 = .ok (.invokevirtual 56, 3) := by decide +kernel
theorem pd___V : parseMethodDescriptor "()V" = some ⟨[], none⟩ := by decide +kernel
theorem d_jdk_92_method_19_code_57 : decode jdk_92_method_19_code 57 = .ok (.return_, 1) := by decide +kernel
theorem ef_rm_set (m : MethodId) (bs : Addr) (kv : Int32) : entryFrame m #[(.ref bs), (.int kv)] 3 = mkF m 0 #[.val (.ref bs), .val (.int kv), .unset] [] := by first | (simp [entryFrame, mkF, argsToLocals, Value.category]; done) | rfl
theorem pn_java_util_BitSet_set__I_V : plainFor (⟨"java/util/BitSet", "set", "(I)V"⟩ : MethodName) = true := by first | exact plainFor_of_name (by first | (simp [plainName, overriddenIn]; done) | decide +kernel) | decide +kernel
set_option maxRecDepth 65536 in
set_option maxHeartbeats 40000000 in
theorem rm_set {l : Launch} {Z : State} {a0 : Array Value} (hw : ∀ d ∈ tables_1, d.before a0 Z = true) (s_OWN : Addr) (s_OWN_runners : Addr) (s_OWN_CONTENDED : Addr) (S_OWN : Sta Z Z.heap "com/example/mailroom/mailroom/engine/Timeline$Race" "OWN" "Lcom/example/mailroom/mailroom/engine/Timeline$Race;" (.ref s_OWN)) (E_s_OWN : Exa Z Z.heap s_OWN "com/example/mailroom/mailroom/engine/Timeline$Race") (F_s_OWN_contends : Fld Z Z.heap s_OWN "com/example/mailroom/mailroom/engine/Timeline$Race" "contends" "Z" (.int (0 : Int32))) (F_s_OWN_runners : Fld Z Z.heap s_OWN "com/example/mailroom/mailroom/engine/Timeline$Race" "runners" "Ljava/util/BitSet;" (.ref s_OWN_runners)) (E_s_OWN_runners : Exa Z Z.heap s_OWN_runners "java/util/BitSet") (F_s_OWN_runners_wordsInUse : Fld Z Z.heap s_OWN_runners "java/util/BitSet" "wordsInUse" "I" (.int (0 : Int32))) (S_OWN_CONTENDED : Sta Z Z.heap "com/example/mailroom/mailroom/engine/Timeline$Race" "OWN_CONTENDED" "Lcom/example/mailroom/mailroom/engine/Timeline$Race;" (.ref s_OWN_CONTENDED)) (E_s_OWN_CONTENDED : Exa Z Z.heap s_OWN_CONTENDED "com/example/mailroom/mailroom/engine/Timeline$Race") (F_s_OWN_CONTENDED_contends : Fld Z Z.heap s_OWN_CONTENDED "com/example/mailroom/mailroom/engine/Timeline$Race" "contends" "Z" (.int (1 : Int32))) (F_s_OWN_CONTENDED_runners : Fld Z Z.heap s_OWN_CONTENDED "com/example/mailroom/mailroom/engine/Timeline$Race" "runners" "Ljava/util/BitSet;" (.ref s_OWN_runners)) (S__assertionsDisabled : Sta Z Z.heap "java/util/BitSet" "$assertionsDisabled" "Z" (.int (1 : Int32))) (bs : Addr) (kv : Int32) (wd : Addr) (kw : ClassId) (h0 : Heap) (O0 : Ext Z.heap h0) (prem0 : kv >>> ((6 : Int32) &&& 31) = 0) (prem1 : ¬ kv < 0) (prem2 : Exa Z h0 bs "java/util/BitSet") (prem3 : Fld Z h0 bs "java/util/BitSet" "wordsInUse" "I" (.int (0 : Int32))) (prem4 : Fld Z h0 bs "java/util/BitSet" "words" "[J" (.ref wd)) (prem5 : Arv Z h0 wd kw .long (1 : Int32) [(.long (0 : Int64))] (.long (0 : Int64))) (prem6 : Z.heap.size ≤ bs) (prem7 : Z.heap.size ≤ wd) (prem8 : bs ≠ wd) :
    Ok l Z (⟨"java/util/BitSet", "set", "(I)V"⟩ : MethodName) jdk_92_method_19_code 3 none ({ frames := 2, cells := 0, slots := 0, locals := 28 } : Room) #[(.ref bs), (.int kv)] h0
      (fun v h L => v = none ∧ (Fr Z.heap.size L) ∧ (Keep h0 h [bs, wd]) ∧ (Fld Z h bs "java/util/BitSet" "wordsInUse" "I" (.int (1 : Int32)))) := by
  refine Ok.mk pn_java_util_BitSet_set__I_V ?_
  intro p e s m below meth c T0 hx hby hml hown hnm hret hlk hZ e0 X0
  refine Go.cast (ef_rm_set m bs kv) ?_
  have N0 := Fr.nil Z.heap.size
  have K0 : Keep h0 h0 [bs, wd] := Keep.refl _ _
  refine Go.of (T' := T0) (f' := (mkF m 1 #[.val (.ref bs), .val (.int kv), .unset] [(.int kv)])) (fun _ k => XS.iloadN X0.here hx rfl (hb hby d_jdk_92_method_19_code_0) rfl k) ?_
  have hc58 : ¬ (kv < (0 : Int32)) := prem1
  refine Go.of (T' := T0) (f' := (mkF m 31 #[.val (.ref bs), .val (.int kv), .unset] [])) (fun _ k => XS.ifYes X0.here hx rfl (pc0 := 1) (pc' := 31) rfl (hb hby d_jdk_92_method_19_code_1) rfl ((if0 _ _).trans (flt hc58).2.1) (by decide) (by decide) k) ?_
  refine Go.of (T' := T0) (f' := (mkF m 32 #[.val (.ref bs), .val (.int kv), .unset] [(.int kv)])) (fun _ k => XS.iloadN X0.here hx rfl (hb hby d_jdk_92_method_19_code_31) rfl k) ?_
  obtain ⟨T59, v59, L59, X59, q59, st59⟩ := callSt X0 hx hZ (y := (⟨"java/util/BitSet", "wordIndex", "(I)I"⟩ : MethodName)) hown (hw _ (List.mem_of_getElem? (i := 46) rfl)) (hw _ (List.mem_of_getElem? (i := 47) rfl)) (hw _ (List.mem_of_getElem? (i := 24) rfl)) (hw _ (List.mem_of_getElem? (i := 48) rfl)) (by decide) (rm_wi hw s_OWN s_OWN_runners s_OWN_CONTENDED S_OWN E_s_OWN F_s_OWN_contends F_s_OWN_runners E_s_OWN_runners F_s_OWN_runners_wordsInUse S_OWN_CONTENDED E_s_OWN_CONTENDED F_s_OWN_CONTENDED_contends F_s_OWN_CONTENDED_runners S__assertionsDisabled kv  h0 O0 (prem0)) e0 (W := 0) (by decide) (by decide) (by decide) (by decide) (g := (mkF m 32 #[.val (.ref bs), .val (.int kv), .unset] [(.int kv)])) rfl (by rw [hml]; rfl) (argsL := [(.int kv)]) (rest := []) (lenOf pd__I_I rfl) rfl rfl (by show 2 * 0 + _ ≤ _; exact Nat.le_of_eq rfl) (hb hby d_jdk_92_method_19_code_32)
  obtain ⟨rfl, e59, rfl⟩ := q59
  have N59 := Fr.app N0 (Fr.nil _)
  refine Go.of (T' := T59) (f' := (mkF m 35 #[.val (.ref bs), .val (.int kv), .unset] [(.int (0 : Int32))])) (fun _ k => st59 _ k) ?_
  refine Go.of (T' := T59) (f' := (mkF m 36 #[.val (.ref bs), .val (.int kv), .val (.int (0 : Int32))] [])) (fun _ k => XS.istoreN X59.here hx rfl (hb hby d_jdk_92_method_19_code_35) rfl (l' := #[.val (.ref bs), .val (.int kv), .val (.int (0 : Int32))]) rfl k) ?_
  refine Go.of (T' := T59) (f' := (mkF m 37 #[.val (.ref bs), .val (.int kv), .val (.int (0 : Int32))] [(.ref bs)])) (fun _ k => XS.aloadN X59.here hx rfl (hb hby d_jdk_92_method_19_code_36) rfl rfl k) ?_
  refine Go.of (T' := T59) (f' := (mkF m 38 #[.val (.ref bs), .val (.int kv), .val (.int (0 : Int32))] [(.int (0 : Int32)), (.ref bs)])) (fun _ k => XS.iloadN X59.here hx rfl (hb hby d_jdk_92_method_19_code_37) rfl k) ?_
  obtain ⟨T60, v60, L60, X60, q60, st60⟩ := callPr X59 hx hZ (y := (⟨"java/util/BitSet", "expandTo", "(I)V"⟩ : MethodName)) hown (hw _ (List.mem_of_getElem? (i := 57) rfl)) (hw _ (List.mem_of_getElem? (i := 58) rfl)) (hw _ (List.mem_of_getElem? (i := 60) rfl)) (hw _ (List.mem_of_getElem? (i := 59) rfl)) (hw _ (List.mem_of_getElem? (i := 24) rfl)) (hw _ (List.mem_of_getElem? (i := 61) rfl)) (by decide) (rm_expand hw s_OWN s_OWN_runners s_OWN_CONTENDED S_OWN E_s_OWN F_s_OWN_contends F_s_OWN_runners E_s_OWN_runners F_s_OWN_runners_wordsInUse S_OWN_CONTENDED E_s_OWN_CONTENDED F_s_OWN_CONTENDED_contends F_s_OWN_CONTENDED_runners S__assertionsDisabled bs wd kw h0 O0 prem2 prem3 prem4 prem5 prem6) e59 (W := 0) (by decide) (by decide) (by decide) (by decide) prem2 (g := (mkF m 38 #[.val (.ref bs), .val (.int kv), .val (.int (0 : Int32))] [(.int (0 : Int32)), (.ref bs)])) rfl (by rw [hml]; rfl) (a := bs) (argsL := [(.int (0 : Int32))]) (rest := []) (lenOf pd__I_V rfl) rfl rfl (by show 2 * 0 + _ ≤ _; exact Nat.le_of_eq rfl) (hb hby d_jdk_92_method_19_code_38)
  obtain ⟨rfl, N60q, K60q, p60_0, p60_1⟩ := q60
  have N60 := Fr.app N59 N60q
  have O61 := Old0.keep O0 K60q (allS prem6 all0)
  have K61 := Keep.trans K0 K60q (allS (Or.inl (List.mem_of_getElem? (i := 0) rfl)) all0)
  refine Go.of (T' := T60) (f' := (mkF m 41 #[.val (.ref bs), .val (.int kv), .val (.int (0 : Int32))] [])) (fun _ k => st60 _ k) ?_
  refine Go.of (T' := T60) (f' := (mkF m 42 #[.val (.ref bs), .val (.int kv), .val (.int (0 : Int32))] [(.ref bs)])) (fun _ k => XS.aloadN X60.here hx rfl (hb hby d_jdk_92_method_19_code_41) rfl rfl k) ?_
  obtain ⟨T62, X62, e62, st62⟩ := getF X60 hx hZ hown (host := "") (Or.inl (hw _ (List.mem_of_getElem? (i := 50) rfl))) Via.refl rfl p60_1 (g := (mkF m 42 #[.val (.ref bs), .val (.int kv), .val (.int (0 : Int32))] [(.ref bs)])) rfl rfl (hb hby d_jdk_92_method_19_code_42)
  refine Go.of (T' := T62) (f' := (mkF m 45 #[.val (.ref bs), .val (.int kv), .val (.int (0 : Int32))] [(.ref wd)])) (fun _ k => st62 _ k) ?_
  refine Go.of (T' := T62) (f' := (mkF m 46 #[.val (.ref bs), .val (.int kv), .val (.int (0 : Int32))] [(.int (0 : Int32)), (.ref wd)])) (fun _ k => XS.iloadN X62.here hx rfl (hb hby d_jdk_92_method_19_code_45) rfl k) ?_
  refine Go.of (T' := T62) (f' := (mkF m 47 #[.val (.ref bs), .val (.int kv), .val (.int (0 : Int32))] [(.int (0 : Int32)), (.ref wd), (.int (0 : Int32)), (.ref wd)])) (fun _ k => XT.dup2 X62.here hx rfl (hb hby d_jdk_92_method_19_code_46) rfl rfl rfl k) ?_
  have f64 : Arv Z T60.heap wd kw .long (1 : Int32) [(.long (0 : Int64))] (.long (0 : Int64)) := (Arv.keep prem5 K60q (ninS (Ne.symm prem8) nin0))
  obtain ⟨cl63, Ar63, qk63, S63, Ng63, H63, G63⟩ := id f64
  have hin63 := inb_of (j := (0 : Int32)) S63 ⟨by decide, by decide⟩
  refine Go.of (T' := T62) (f' := (mkF m 48 #[.val (.ref bs), .val (.int kv), .val (.int (0 : Int32))] [(.long (0 : Int64)), (.int (0 : Int32)), (.ref wd)])) (fun _ k => X62.laload hx (j := (0 : Int32)) (v := (.long (0 : Int64))) (by rw [e62]; exact Ar63.1) (State.isArrayOf_alike hZ.alike Ar63.2.1) Ar63.2.2 hin63 (H63.at hin63 rfl) (g := (mkF m 47 #[.val (.ref bs), .val (.int kv), .val (.int (0 : Int32))] [(.int (0 : Int32)), (.ref wd), (.int (0 : Int32)), (.ref wd)])) rfl rfl (hb hby d_jdk_92_method_19_code_47) _ k) ?_
  refine Go.of (T' := T62) (f' := (mkF m 49 #[.val (.ref bs), .val (.int kv), .val (.int (0 : Int32))] [(.long (1 : Int64)), (.long (0 : Int64)), (.int (0 : Int32)), (.ref wd)])) (fun _ k => XS.lconst X62.here hx rfl (hb hby d_jdk_92_method_19_code_48) k) ?_
  refine Go.of (T' := T62) (f' := (mkF m 50 #[.val (.ref bs), .val (.int kv), .val (.int (0 : Int32))] [(.int kv), (.long (1 : Int64)), (.long (0 : Int64)), (.int (0 : Int32)), (.ref wd)])) (fun _ k => XS.iloadN X62.here hx rfl (hb hby d_jdk_92_method_19_code_49) rfl k) ?_
  refine Go.of (T' := T62) (f' := (mkF m 51 #[.val (.ref bs), .val (.int kv), .val (.int (0 : Int32))] [(.long ((1 : Int64) <<< (kv &&& 0x3f).toInt64)), (.long (0 : Int64)), (.int (0 : Int32)), (.ref wd)])) (fun _ k => XS.lshl X62.here hx rfl (hb hby d_jdk_92_method_19_code_50) rfl k) ?_
  refine Go.of (T' := T62) (f' := (mkF m 52 #[.val (.ref bs), .val (.int kv), .val (.int (0 : Int32))] [(.long ((0 : Int64) ||| ((1 : Int64) <<< (kv &&& 0x3f).toInt64))), (.int (0 : Int32)), (.ref wd)])) (fun _ k => XS.lor X62.here hx rfl (hb hby d_jdk_92_method_19_code_51) rfl k) ?_
  obtain ⟨cl65, Ar65, qk65, S65, Ng65, H65, G65⟩ := id f64
  obtain ⟨T65, h65, X65, e65, W65, st65⟩ := stJ X62 hx hZ e62 Ar65 (j := (0 : Int32)) (inb_of S65 ⟨by decide, by decide⟩) (g := (mkF m 52 #[.val (.ref bs), .val (.int kv), .val (.int (0 : Int32))] [(.long ((0 : Int64) ||| ((1 : Int64) <<< (kv &&& 0x3f).toInt64))), (.int (0 : Int32)), (.ref wd)])) rfl rfl (hb hby d_jdk_92_method_19_code_52)
  have O66 := Old0.wr O61 W65 prem7
  have K66 := Keep.wr K61 W65 (Or.inl (List.mem_of_getElem? (i := 1) rfl))
  have f65 : Arv Z h65 wd kw .long (1 : Int32) [(.long ((0 : Int64) ||| ((1 : Int64) <<< (kv &&& 0x3f).toInt64)))] (.long (0 : Int64)) := Arv.set Ar65 qk65 S65 Ng65 H65 G65 (v := (.long ((0 : Int64) ||| ((1 : Int64) <<< (kv &&& 0x3f).toInt64)))) rfl W65 0 rfl (Nat.le_of_ble_eq_true rfl)
  have N65 := Fr.snoc X65 N60 prem7
  refine Go.of (T' := T65) (f' := (mkF m 53 #[.val (.ref bs), .val (.int kv), .val (.int (0 : Int32))] [])) (fun _ k => st65 _ k) ?_
  refine Go.of (T' := T65) (f' := (mkF m 54 #[.val (.ref bs), .val (.int kv), .val (.int (0 : Int32))] [(.ref bs)])) (fun _ k => XS.aloadN X65.here hx rfl (hb hby d_jdk_92_method_19_code_53) rfl rfl k) ?_
  have f68 : Exa Z h65 bs "java/util/BitSet" := (Exa.wr W65 (Exa.keep prem2 K60q))
  obtain ⟨T67, v67, L67, X67, q67, st67⟩ := callPr X65 hx hZ (y := (⟨"java/util/BitSet", "checkInvariants", "()V"⟩ : MethodName)) hown (hw _ (List.mem_of_getElem? (i := 67) rfl)) (hw _ (List.mem_of_getElem? (i := 68) rfl)) (hw _ (List.mem_of_getElem? (i := 70) rfl)) (hw _ (List.mem_of_getElem? (i := 69) rfl)) (hw _ (List.mem_of_getElem? (i := 24) rfl)) (hw _ (List.mem_of_getElem? (i := 71) rfl)) (by decide) (rm_check hw s_OWN s_OWN_runners s_OWN_CONTENDED S_OWN E_s_OWN F_s_OWN_contends F_s_OWN_runners E_s_OWN_runners F_s_OWN_runners_wordsInUse S_OWN_CONTENDED E_s_OWN_CONTENDED F_s_OWN_CONTENDED_contends F_s_OWN_CONTENDED_runners S__assertionsDisabled bs  h65 O66 ) e65 (W := 0) (by decide) (by decide) (by decide) (by decide) f68 (g := (mkF m 54 #[.val (.ref bs), .val (.int kv), .val (.int (0 : Int32))] [(.ref bs)])) rfl (by rw [hml]; rfl) (a := bs) (argsL := []) (rest := []) (lenOf pd___V rfl) rfl rfl (by show 2 * 0 + _ ≤ _; exact Nat.le_of_eq rfl) (hb hby d_jdk_92_method_19_code_54)
  obtain ⟨rfl, e67, rfl⟩ := q67
  have N67 := Fr.app N65 (Fr.nil _)
  refine Go.of (T' := T67) (f' := (mkF m 57 #[.val (.ref bs), .val (.int kv), .val (.int (0 : Int32))] [])) (fun _ k => st67 _ k) ?_
  have f69 : Fld Z h65 bs "java/util/BitSet" "wordsInUse" "I" (.int (1 : Int32)) := (Fld.other W65 p60_0 (Or.inl prem8))
  exact Go.retV X67 hx hlk hret (hb hby d_jdk_92_method_19_code_57) (by decide) (by decide) (by rw [e67]; exact ⟨rfl, N67, K66, f69⟩)
theorem d_jdk_30_method_1_code_0 : decode jdk_30_method_1_code 0 = .ok (.aload_n 0, 1) := by decide +kernel
theorem d_jdk_30_method_1_code_1 : decode jdk_30_method_1_code 1 = .ok (.invokespecial 1, 3) := by decide +kernel
theorem d_jdk_30_method_1_code_4 : decode jdk_30_method_1_code 4 = .ok (.return_, 1) := by decide +kernel
theorem ef_rm_rec (m : MethodId) (ob : Addr) : entryFrame m #[(.ref ob)] 1 = mkF m 0 #[.val (.ref ob)] [] := by first | (simp [entryFrame, mkF, argsToLocals, Value.category]; done) | rfl
theorem pn_java_lang_Record__init____V : plainFor (⟨"java/lang/Record", "<init>", "()V"⟩ : MethodName) = true := by first | exact plainFor_of_name (by first | (simp [plainName, overriddenIn]; done) | decide +kernel) | decide +kernel
set_option maxRecDepth 65536 in
set_option maxHeartbeats 40000000 in
theorem rm_rec {l : Launch} {Z : State} {a0 : Array Value} (hw : ∀ d ∈ tables_1, d.before a0 Z = true) (s_OWN : Addr) (s_OWN_runners : Addr) (s_OWN_CONTENDED : Addr) (S_OWN : Sta Z Z.heap "com/example/mailroom/mailroom/engine/Timeline$Race" "OWN" "Lcom/example/mailroom/mailroom/engine/Timeline$Race;" (.ref s_OWN)) (E_s_OWN : Exa Z Z.heap s_OWN "com/example/mailroom/mailroom/engine/Timeline$Race") (F_s_OWN_contends : Fld Z Z.heap s_OWN "com/example/mailroom/mailroom/engine/Timeline$Race" "contends" "Z" (.int (0 : Int32))) (F_s_OWN_runners : Fld Z Z.heap s_OWN "com/example/mailroom/mailroom/engine/Timeline$Race" "runners" "Ljava/util/BitSet;" (.ref s_OWN_runners)) (E_s_OWN_runners : Exa Z Z.heap s_OWN_runners "java/util/BitSet") (F_s_OWN_runners_wordsInUse : Fld Z Z.heap s_OWN_runners "java/util/BitSet" "wordsInUse" "I" (.int (0 : Int32))) (S_OWN_CONTENDED : Sta Z Z.heap "com/example/mailroom/mailroom/engine/Timeline$Race" "OWN_CONTENDED" "Lcom/example/mailroom/mailroom/engine/Timeline$Race;" (.ref s_OWN_CONTENDED)) (E_s_OWN_CONTENDED : Exa Z Z.heap s_OWN_CONTENDED "com/example/mailroom/mailroom/engine/Timeline$Race") (F_s_OWN_CONTENDED_contends : Fld Z Z.heap s_OWN_CONTENDED "com/example/mailroom/mailroom/engine/Timeline$Race" "contends" "Z" (.int (1 : Int32))) (F_s_OWN_CONTENDED_runners : Fld Z Z.heap s_OWN_CONTENDED "com/example/mailroom/mailroom/engine/Timeline$Race" "runners" "Ljava/util/BitSet;" (.ref s_OWN_runners)) (S__assertionsDisabled : Sta Z Z.heap "java/util/BitSet" "$assertionsDisabled" "Z" (.int (1 : Int32))) (ob : Addr)  (h0 : Heap) (O0 : Ext Z.heap h0)  :
    Ok l Z (⟨"java/lang/Record", "<init>", "()V"⟩ : MethodName) jdk_30_method_1_code 1 none ({ frames := 1, cells := 0, slots := 0, locals := 12 } : Room) #[(.ref ob)] h0
      (fun v h L => v = none ∧ (h = h0) ∧ (L = [])) := by
  refine Ok.mk pn_java_lang_Record__init____V ?_
  intro p e s m below meth c T0 hx hby hml hown hnm hret hlk hZ e0 X0
  refine Go.cast (ef_rm_rec m ob) ?_
  have N0 := Fr.nil Z.heap.size
  have K0 : Keep h0 h0 [] := Keep.refl _ _
  refine Go.of (T' := T0) (f' := (mkF m 1 #[.val (.ref ob)] [(.ref ob)])) (fun _ k => XS.aloadN X0.here hx rfl (hb hby d_jdk_30_method_1_code_0) rfl rfl k) ?_
  obtain ⟨T70, X70, e70, st70⟩ := initO X0 hx hZ hown (hw _ (List.mem_of_getElem? (i := 83) rfl)) (hw _ (List.mem_of_getElem? (i := 37) rfl)) (hw _ (List.mem_of_getElem? (i := 38) rfl)) e0 (g := (mkF m 1 #[.val (.ref ob)] [(.ref ob)])) rfl (by rw [hml]; rfl) rfl (hb hby d_jdk_30_method_1_code_1) (by decide) (W := 0) (by show 2 * 0 + _ ≤ _; exact Nat.le_of_eq rfl) (by decide)
  refine Go.of (T' := T70) (f' := (mkF m 4 #[.val (.ref ob)] [])) (fun _ k => st70 _ k) ?_
  exact Go.retV X70 hx hlk hret (hb hby d_jdk_30_method_1_code_4) (by decide) (by decide) (by rw [e70]; exact ⟨rfl, rfl, by simp⟩)
theorem d_prog_120_method_1_code_0 : decode prog_120_method_1_code 0 = .ok (.aload_n 0, 1) := by decide +kernel
theorem d_prog_120_method_1_code_1 : decode prog_120_method_1_code 1 = .ok (.invokespecial 1, 3) := by decide +kernel
theorem d_prog_120_method_1_code_4 : decode prog_120_method_1_code 4 = .ok (.aload_n 0, 1) := by decide +kernel
theorem d_prog_120_method_1_code_5 : decode prog_120_method_1_code 5 = .ok (.iload_n 1, 1) := by decide +kernel
theorem d_prog_120_method_1_code_6 : decode prog_120_method_1_code 6 = .ok (.putfield 7, 3) := by decide +kernel
theorem d_prog_120_method_1_code_9 : decode prog_120_method_1_code 9 = .ok (.aload_n 0, 1) := by decide +kernel
theorem d_prog_120_method_1_code_10 : decode prog_120_method_1_code 10 = .ok (.aload_n 2, 1) := by decide +kernel
theorem d_prog_120_method_1_code_11 : decode prog_120_method_1_code 11 = .ok (.putfield 13, 3) := by decide +kernel
theorem d_prog_120_method_1_code_14 : decode prog_120_method_1_code 14 = .ok (.return_, 1) := by decide +kernel
theorem ef_rm_rinit0 (m : MethodId) (ob : Addr) (bs : Addr) : entryFrame m #[(.ref ob), (.int (0 : Int32)), (.ref bs)] 3 = mkF m 0 #[.val (.ref ob), .val (.int (0 : Int32)), .val (.ref bs)] [] := by first | (simp [entryFrame, mkF, argsToLocals, Value.category]; done) | rfl
theorem pn_com_example_mailroom_mailroom_engine_Timeline_Race__init___ZLjava_util_BitSet__V : plainFor (⟨"com/example/mailroom/mailroom/engine/Timeline$Race", "<init>", "(ZLjava/util/BitSet;)V"⟩ : MethodName) = true := by first | exact plainFor_of_name (by first | (simp [plainName, overriddenIn]; done) | decide +kernel) | decide +kernel
set_option maxRecDepth 65536 in
set_option maxHeartbeats 40000000 in
theorem rm_rinit0 {l : Launch} {Z : State} {a0 : Array Value} (hw : ∀ d ∈ tables_1, d.before a0 Z = true) (s_OWN : Addr) (s_OWN_runners : Addr) (s_OWN_CONTENDED : Addr) (S_OWN : Sta Z Z.heap "com/example/mailroom/mailroom/engine/Timeline$Race" "OWN" "Lcom/example/mailroom/mailroom/engine/Timeline$Race;" (.ref s_OWN)) (E_s_OWN : Exa Z Z.heap s_OWN "com/example/mailroom/mailroom/engine/Timeline$Race") (F_s_OWN_contends : Fld Z Z.heap s_OWN "com/example/mailroom/mailroom/engine/Timeline$Race" "contends" "Z" (.int (0 : Int32))) (F_s_OWN_runners : Fld Z Z.heap s_OWN "com/example/mailroom/mailroom/engine/Timeline$Race" "runners" "Ljava/util/BitSet;" (.ref s_OWN_runners)) (E_s_OWN_runners : Exa Z Z.heap s_OWN_runners "java/util/BitSet") (F_s_OWN_runners_wordsInUse : Fld Z Z.heap s_OWN_runners "java/util/BitSet" "wordsInUse" "I" (.int (0 : Int32))) (S_OWN_CONTENDED : Sta Z Z.heap "com/example/mailroom/mailroom/engine/Timeline$Race" "OWN_CONTENDED" "Lcom/example/mailroom/mailroom/engine/Timeline$Race;" (.ref s_OWN_CONTENDED)) (E_s_OWN_CONTENDED : Exa Z Z.heap s_OWN_CONTENDED "com/example/mailroom/mailroom/engine/Timeline$Race") (F_s_OWN_CONTENDED_contends : Fld Z Z.heap s_OWN_CONTENDED "com/example/mailroom/mailroom/engine/Timeline$Race" "contends" "Z" (.int (1 : Int32))) (F_s_OWN_CONTENDED_runners : Fld Z Z.heap s_OWN_CONTENDED "com/example/mailroom/mailroom/engine/Timeline$Race" "runners" "Ljava/util/BitSet;" (.ref s_OWN_runners)) (S__assertionsDisabled : Sta Z Z.heap "java/util/BitSet" "$assertionsDisabled" "Z" (.int (1 : Int32))) (ob : Addr) (bs : Addr)  (h0 : Heap) (O0 : Ext Z.heap h0) (prem0 : Exa Z h0 ob "com/example/mailroom/mailroom/engine/Timeline$Race") (prem1 : Fld Z h0 ob "com/example/mailroom/mailroom/engine/Timeline$Race" "contends" "Z" (.int (0 : Int32))) (prem2 : Fld Z h0 ob "com/example/mailroom/mailroom/engine/Timeline$Race" "runners" "Ljava/util/BitSet;" .null) (prem3 : Z.heap.size ≤ ob) :
    Ok l Z (⟨"com/example/mailroom/mailroom/engine/Timeline$Race", "<init>", "(ZLjava/util/BitSet;)V"⟩ : MethodName) prog_120_method_1_code 3 none ({ frames := 2, cells := 0, slots := 0, locals := 24 } : Room) #[(.ref ob), (.int (0 : Int32)), (.ref bs)] h0
      (fun v h L => v = none ∧ (Fr Z.heap.size L) ∧ (Keep h0 h [ob]) ∧ (Fld Z h ob "com/example/mailroom/mailroom/engine/Timeline$Race" "contends" "Z" (.int (0 : Int32))) ∧ (Fld Z h ob "com/example/mailroom/mailroom/engine/Timeline$Race" "runners" "Ljava/util/BitSet;" (.ref bs))) := by
  refine Ok.mk pn_com_example_mailroom_mailroom_engine_Timeline_Race__init___ZLjava_util_BitSet__V ?_
  intro p e s m below meth c T0 hx hby hml hown hnm hret hlk hZ e0 X0
  refine Go.cast (ef_rm_rinit0 m ob bs) ?_
  have N0 := Fr.nil Z.heap.size
  have K0 : Keep h0 h0 [ob] := Keep.refl _ _
  refine Go.of (T' := T0) (f' := (mkF m 1 #[.val (.ref ob), .val (.int (0 : Int32)), .val (.ref bs)] [(.ref ob)])) (fun _ k => XS.aloadN X0.here hx rfl (hb hby d_prog_120_method_1_code_0) rfl rfl k) ?_
  obtain ⟨T71, v71, L71, X71, q71, st71⟩ := callNew X0 hx hZ (y := (⟨"java/lang/Record", "<init>", "()V"⟩ : MethodName)) rfl hown (hw _ (List.mem_of_getElem? (i := 78) rfl)) (hw _ (List.mem_of_getElem? (i := 79) rfl)) (hw _ (List.mem_of_getElem? (i := 81) rfl)) (hw _ (List.mem_of_getElem? (i := 82) rfl)) (by decide) (rm_rec hw s_OWN s_OWN_runners s_OWN_CONTENDED S_OWN E_s_OWN F_s_OWN_contends F_s_OWN_runners E_s_OWN_runners F_s_OWN_runners_wordsInUse S_OWN_CONTENDED E_s_OWN_CONTENDED F_s_OWN_CONTENDED_contends F_s_OWN_CONTENDED_runners S__assertionsDisabled ob  h0 O0 ) e0 (W := 0) (by decide) (by decide) (by decide) (by decide) (g := (mkF m 1 #[.val (.ref ob), .val (.int (0 : Int32)), .val (.ref bs)] [(.ref ob)])) rfl (by rw [hml]; rfl) (a := ob) (argsL := []) (rest := []) (lenOf pd___V rfl) rfl rfl (by show 2 * 0 + _ ≤ _; exact Nat.le_of_eq rfl) (hb hby d_prog_120_method_1_code_1)
  obtain ⟨rfl, e71, rfl⟩ := q71
  have N71 := Fr.app N0 (Fr.nil _)
  refine Go.of (T' := T71) (f' := (mkF m 4 #[.val (.ref ob), .val (.int (0 : Int32)), .val (.ref bs)] [])) (fun _ k => st71 _ k) ?_
  refine Go.of (T' := T71) (f' := (mkF m 5 #[.val (.ref ob), .val (.int (0 : Int32)), .val (.ref bs)] [(.ref ob)])) (fun _ k => XS.aloadN X71.here hx rfl (hb hby d_prog_120_method_1_code_4) rfl rfl k) ?_
  refine Go.of (T' := T71) (f' := (mkF m 6 #[.val (.ref ob), .val (.int (0 : Int32)), .val (.ref bs)] [(.int (0 : Int32)), (.ref ob)])) (fun _ k => XS.iloadN X71.here hx rfl (hb hby d_prog_120_method_1_code_5) rfl k) ?_
  obtain ⟨T72, h72, X72, e72, W72, st72⟩ := putFN X71 hx hZ hown (hw _ (List.mem_of_getElem? (i := 11) rfl)) Via.refl e71 prem1 prem0 (Or.inr ⟨(hw _ (List.mem_of_getElem? (i := 12) rfl)), rfl, hnm⟩) (hw _ (List.mem_of_getElem? (i := 74) rfl)) (ty := .boolean) (v' := (.int (0 : Int32))) (by decide) rfl rfl (g := (mkF m 6 #[.val (.ref ob), .val (.int (0 : Int32)), .val (.ref bs)] [(.int (0 : Int32)), (.ref ob)])) rfl rfl (hb hby d_prog_120_method_1_code_6)
  have O73 := Old0.wr O0 W72 prem3
  have K73 := Keep.wr K0 W72 (Or.inl (List.mem_of_getElem? (i := 0) rfl))
  have N72 := Fr.snoc X72 N71 prem3
  have f72 : Fld Z h72 ob "com/example/mailroom/mailroom/engine/Timeline$Race" "contends" "Z" (.int (0 : Int32)) := Fld.same W72 prem1
  refine Go.of (T' := T72) (f' := (mkF m 9 #[.val (.ref ob), .val (.int (0 : Int32)), .val (.ref bs)] [])) (fun _ k => st72 _ k) ?_
  refine Go.of (T' := T72) (f' := (mkF m 10 #[.val (.ref ob), .val (.int (0 : Int32)), .val (.ref bs)] [(.ref ob)])) (fun _ k => XS.aloadN X72.here hx rfl (hb hby d_prog_120_method_1_code_9) rfl rfl k) ?_
  refine Go.of (T' := T72) (f' := (mkF m 11 #[.val (.ref ob), .val (.int (0 : Int32)), .val (.ref bs)] [(.ref bs), (.ref ob)])) (fun _ k => XS.aloadN X72.here hx rfl (hb hby d_prog_120_method_1_code_10) rfl rfl k) ?_
  have f75 : Exa Z h72 ob "com/example/mailroom/mailroom/engine/Timeline$Race" := (Exa.wr W72 prem0)
  have f76 : Fld Z h72 ob "com/example/mailroom/mailroom/engine/Timeline$Race" "runners" "Ljava/util/BitSet;" .null := (Fld.other W72 prem2 (Or.inr (slot_ne (Or.inr (hw _ (List.mem_of_getElem? (i := 19) rfl))) (Or.inr (hw _ (List.mem_of_getElem? (i := 12) rfl))) (by decide) (t := (.object "java/util/BitSet")) (t' := .boolean) (by decide) (by decide))))
  obtain ⟨T74, h74, X74, e74, W74, st74⟩ := putF X72 hx hZ hown (host := "") (Or.inl (hw _ (List.mem_of_getElem? (i := 18) rfl))) Via.refl e72 f76 f75 (Or.inr ⟨(hw _ (List.mem_of_getElem? (i := 19) rfl)), rfl, hnm⟩) (hw _ (List.mem_of_getElem? (i := 74) rfl)) (ty := (.object "java/util/BitSet")) (by decide) rfl rfl (g := (mkF m 11 #[.val (.ref ob), .val (.int (0 : Int32)), .val (.ref bs)] [(.ref bs), (.ref ob)])) rfl rfl (hb hby d_prog_120_method_1_code_11)
  have O77 := Old0.wr O73 W74 prem3
  have K77 := Keep.wr K73 W74 (Or.inl (List.mem_of_getElem? (i := 0) rfl))
  have N74 := Fr.snoc X74 N72 prem3
  have f74 : Fld Z h74 ob "com/example/mailroom/mailroom/engine/Timeline$Race" "runners" "Ljava/util/BitSet;" (.ref bs) := Fld.same W74 f76
  refine Go.of (T' := T74) (f' := (mkF m 14 #[.val (.ref ob), .val (.int (0 : Int32)), .val (.ref bs)] [])) (fun _ k => st74 _ k) ?_
  have f78 : Fld Z h74 ob "com/example/mailroom/mailroom/engine/Timeline$Race" "contends" "Z" (.int (0 : Int32)) := (Fld.other W74 f72 (Or.inr (slot_ne (Or.inr (hw _ (List.mem_of_getElem? (i := 12) rfl))) (Or.inr (hw _ (List.mem_of_getElem? (i := 19) rfl))) (by decide) (t := .boolean) (t' := (.object "java/util/BitSet")) (by decide) (by decide))))
  exact Go.retV X74 hx hlk hret (hb hby d_prog_120_method_1_code_14) (by decide) (by decide) (by rw [e74]; exact ⟨rfl, N74, K77, f78, f74⟩)
theorem d_prog_120_method_3_code_0 : decode prog_120_method_3_code 0 = .ok (.new 24, 3) := by decide +kernel
theorem d_prog_120_method_3_code_3 : decode prog_120_method_3_code 3 = .ok (.dup, 1) := by decide +kernel
theorem d_prog_120_method_3_code_4 : decode prog_120_method_3_code 4 = .ok (.invokespecial 26, 3) := by decide +kernel
theorem d_prog_120_method_3_code_7 : decode prog_120_method_3_code 7 = .ok (.astore_n 2, 1) := by decide +kernel
theorem d_prog_120_method_3_code_8 : decode prog_120_method_3_code 8 = .ok (.aload_n 2, 1) := by decide +kernel
theorem d_prog_120_method_3_code_9 : decode prog_120_method_3_code 9 = .ok (.iload_n 0, 1) := by decide +kernel
theorem d_prog_120_method_3_code_10 : decode prog_120_method_3_code 10 = .ok (.invokevirtual 27, 3) := by decide +kernel
theorem d_prog_120_method_3_code_13 : decode prog_120_method_3_code 13 = .ok (.new 8, 3) := by decide +kernel
theorem d_prog_120_method_3_code_16 : decode prog_120_method_3_code 16 = .ok (.dup, 1) := by decide +kernel
theorem d_prog_120_method_3_code_17 : decode prog_120_method_3_code 17 = .ok (.iload_n 1, 1) := by decide +kernel
theorem d_prog_120_method_3_code_18 : decode prog_120_method_3_code 18 = .ok (.aload_n 2, 1) := by decide +kernel
theorem d_prog_120_method_3_code_19 : decode prog_120_method_3_code 19 = .ok (.invokespecial 31, 3) := by decide +kernel
theorem pd__ZLjava_util_BitSet__V : parseMethodDescriptor "(ZLjava/util/BitSet;)V" = some ⟨[.boolean, (.object "java/util/BitSet")], none⟩ := by decide +kernel
theorem d_prog_120_method_3_code_22 : decode prog_120_method_3_code 22 = .ok (.areturn, 1) := by decide +kernel
theorem ef_rm_through0 (m : MethodId) (kv : Int32) : entryFrame m #[(.int kv), (.int (0 : Int32))] 3 = mkF m 0 #[.val (.int kv), .val (.int (0 : Int32)), .unset] [] := by first | (simp [entryFrame, mkF, argsToLocals, Value.category]; done) | rfl
theorem pn_com_example_mailroom_mailroom_engine_Timeline_Race_through__IZ_Lcom_example_mailroom_mailroom_engine_Timeline_Race_ : plainFor (⟨"com/example/mailroom/mailroom/engine/Timeline$Race", "through", "(IZ)Lcom/example/mailroom/mailroom/engine/Timeline$Race;"⟩ : MethodName) = true := by first | exact plainFor_of_name (by first | (simp [plainName, overriddenIn]; done) | decide +kernel) | decide +kernel
set_option maxRecDepth 65536 in
set_option maxHeartbeats 40000000 in
theorem rm_through0 {l : Launch} {Z : State} {a0 : Array Value} (hw : ∀ d ∈ tables_1, d.before a0 Z = true) (s_OWN : Addr) (s_OWN_runners : Addr) (s_OWN_CONTENDED : Addr) (S_OWN : Sta Z Z.heap "com/example/mailroom/mailroom/engine/Timeline$Race" "OWN" "Lcom/example/mailroom/mailroom/engine/Timeline$Race;" (.ref s_OWN)) (E_s_OWN : Exa Z Z.heap s_OWN "com/example/mailroom/mailroom/engine/Timeline$Race") (F_s_OWN_contends : Fld Z Z.heap s_OWN "com/example/mailroom/mailroom/engine/Timeline$Race" "contends" "Z" (.int (0 : Int32))) (F_s_OWN_runners : Fld Z Z.heap s_OWN "com/example/mailroom/mailroom/engine/Timeline$Race" "runners" "Ljava/util/BitSet;" (.ref s_OWN_runners)) (E_s_OWN_runners : Exa Z Z.heap s_OWN_runners "java/util/BitSet") (F_s_OWN_runners_wordsInUse : Fld Z Z.heap s_OWN_runners "java/util/BitSet" "wordsInUse" "I" (.int (0 : Int32))) (S_OWN_CONTENDED : Sta Z Z.heap "com/example/mailroom/mailroom/engine/Timeline$Race" "OWN_CONTENDED" "Lcom/example/mailroom/mailroom/engine/Timeline$Race;" (.ref s_OWN_CONTENDED)) (E_s_OWN_CONTENDED : Exa Z Z.heap s_OWN_CONTENDED "com/example/mailroom/mailroom/engine/Timeline$Race") (F_s_OWN_CONTENDED_contends : Fld Z Z.heap s_OWN_CONTENDED "com/example/mailroom/mailroom/engine/Timeline$Race" "contends" "Z" (.int (1 : Int32))) (F_s_OWN_CONTENDED_runners : Fld Z Z.heap s_OWN_CONTENDED "com/example/mailroom/mailroom/engine/Timeline$Race" "runners" "Ljava/util/BitSet;" (.ref s_OWN_runners)) (S__assertionsDisabled : Sta Z Z.heap "java/util/BitSet" "$assertionsDisabled" "Z" (.int (1 : Int32))) (kv : Int32)  (h0 : Heap) (O0 : Ext Z.heap h0) (prem0 : kv >>> ((6 : Int32) &&& 31) = 0) (prem1 : ¬ kv < 0) :
    Ok l Z (⟨"com/example/mailroom/mailroom/engine/Timeline$Race", "through", "(IZ)Lcom/example/mailroom/mailroom/engine/Timeline$Race;"⟩ : MethodName) prog_120_method_3_code 3 (some (.object "com/example/mailroom/mailroom/engine/Timeline$Race")) ({ frames := 3, cells := 3, slots := 6, locals := 42 } : Room) #[(.int kv), (.int (0 : Int32))] h0
      (fun v h L => ∃ ob : Addr, ∃ bs : Addr, v = some (.ref ob) ∧ (Fr Z.heap.size L) ∧ (Keep h0 h []) ∧ (h0.size ≤ ob) ∧ (h0.size ≤ bs) ∧ (Exa Z h ob "com/example/mailroom/mailroom/engine/Timeline$Race") ∧ (Fld Z h ob "com/example/mailroom/mailroom/engine/Timeline$Race" "contends" "Z" (.int (0 : Int32))) ∧ (Fld Z h ob "com/example/mailroom/mailroom/engine/Timeline$Race" "runners" "Ljava/util/BitSet;" (.ref bs)) ∧ (Exa Z h bs "java/util/BitSet") ∧ (Fld Z h bs "java/util/BitSet" "wordsInUse" "I" (.int (1 : Int32)))) := by
  refine Ok.mk pn_com_example_mailroom_mailroom_engine_Timeline_Race_through__IZ_Lcom_example_mailroom_mailroom_engine_Timeline_Race_ ?_
  intro p e s m below meth c T0 hx hby hml hown hnm hret hlk hZ e0 X0
  refine Go.cast (ef_rm_through0 m kv) ?_
  have N0 := Fr.nil Z.heap.size
  have K0 : Keep h0 h0 [] := Keep.refl _ _
  obtain ⟨T79, h79, b79, q79, X79, e79, E79, A79, D79, st79⟩ := newOb X0 hx hZ hown (hw _ (List.mem_of_getElem? (i := 31) rfl)) (hw _ (List.mem_of_getElem? (i := 32) rfl)) (hw _ (List.mem_of_getElem? (i := 24) rfl)) e0 (g := (mkF m 0 #[.val (.int kv), .val (.int (0 : Int32)), .unset] [])) rfl (hb hby d_prog_120_method_3_code_0) (by decide) (by decide)
  have O80 := Old0.ext O0 E79
  have K80 := Keep.ext K0 E79
  have g_b79 : Z.heap.size ≤ b79 := q79 ▸ O0.1
  have z_b79 : h0.size ≤ b79 := q79 ▸ K0.1
  have f81 : Fld Z h79 b79 "java/util/BitSet" "wordsInUse" "I" (.int (0 : Int32)) := D79 (Or.inl (hw _ (List.mem_of_getElem? (i := 27) rfl))) (ty := .int) (by decide)
  have f82 : Fld Z h79 b79 "java/util/BitSet" "sizeIsSticky" "Z" (.int (0 : Int32)) := D79 (Or.inl (hw _ (List.mem_of_getElem? (i := 40) rfl))) (ty := .boolean) (by decide)
  have f83 : Fld Z h79 b79 "java/util/BitSet" "words" "[J" .null := D79 (Or.inl (hw _ (List.mem_of_getElem? (i := 51) rfl))) (ty := (.array .long)) (by decide)
  refine Go.of (T' := T79) (f' := (mkF m 3 #[.val (.int kv), .val (.int (0 : Int32)), .unset] [(.ref b79)])) (fun _ k => st79 _ k) ?_
  refine Go.of (T' := T79) (f' := (mkF m 4 #[.val (.int kv), .val (.int (0 : Int32)), .unset] [(.ref b79), (.ref b79)])) (fun _ k => XS.dup X79.here hx rfl (hb hby d_prog_120_method_3_code_3) rfl rfl k) ?_
  obtain ⟨T84, v84, L84, X84, q84, st84⟩ := callNew X79 hx hZ (y := (⟨"java/util/BitSet", "<init>", "()V"⟩ : MethodName)) rfl hown (hw _ (List.mem_of_getElem? (i := 33) rfl)) (hw _ (List.mem_of_getElem? (i := 34) rfl)) (hw _ (List.mem_of_getElem? (i := 24) rfl)) (hw _ (List.mem_of_getElem? (i := 35) rfl)) (by decide) (rm_bsinit hw s_OWN s_OWN_runners s_OWN_CONTENDED S_OWN E_s_OWN F_s_OWN_contends F_s_OWN_runners E_s_OWN_runners F_s_OWN_runners_wordsInUse S_OWN_CONTENDED E_s_OWN_CONTENDED F_s_OWN_CONTENDED_contends F_s_OWN_CONTENDED_runners S__assertionsDisabled b79  h79 O80 A79 f81 f82 f83 g_b79) e79 (W := 1) (by decide) (by decide) (by decide) (by decide) (g := (mkF m 4 #[.val (.int kv), .val (.int (0 : Int32)), .unset] [(.ref b79), (.ref b79)])) rfl (by rw [hml]; rfl) (a := b79) (argsL := []) (rest := [(.ref b79)]) (lenOf pd___V rfl) rfl rfl (by show 2 * 0 + _ ≤ _; exact Nat.le_of_eq rfl) (hb hby d_prog_120_method_3_code_4)
  obtain ⟨wd_84, kw_84, rfl, N84q, K84q, p84_0, p84_1, p84_2, p84_3, p84_4⟩ := q84
  have N84 := Fr.app N0 N84q
  have O85 := Old0.keep O80 K84q (allS g_b79 all0)
  have K85 := Keep.trans K80 K84q (allS (Or.inr z_b79) all0)
  have z_wd_84 : h0.size ≤ wd_84 := Nat.le_trans K80.1 p84_0
  have g_wd_84 : Z.heap.size ≤ wd_84 := Nat.le_trans O80.1 p84_0
  have ne_b79_wd_84 : b79 ≠ wd_84 := Nat.ne_of_lt (Nat.lt_of_lt_of_le A79.lt p84_0)
  refine Go.of (T' := T84) (f' := (mkF m 7 #[.val (.int kv), .val (.int (0 : Int32)), .unset] [(.ref b79)])) (fun _ k => st84 _ k) ?_
  refine Go.of (T' := T84) (f' := (mkF m 8 #[.val (.int kv), .val (.int (0 : Int32)), .val (.ref b79)] [])) (fun _ k => XS.astoreN X84.here hx rfl (hb hby d_prog_120_method_3_code_7) rfl rfl (l' := #[.val (.int kv), .val (.int (0 : Int32)), .val (.ref b79)]) rfl k) ?_
  refine Go.of (T' := T84) (f' := (mkF m 9 #[.val (.int kv), .val (.int (0 : Int32)), .val (.ref b79)] [(.ref b79)])) (fun _ k => XS.aloadN X84.here hx rfl (hb hby d_prog_120_method_3_code_8) rfl rfl k) ?_
  refine Go.of (T' := T84) (f' := (mkF m 10 #[.val (.int kv), .val (.int (0 : Int32)), .val (.ref b79)] [(.int kv), (.ref b79)])) (fun _ k => XS.iloadN X84.here hx rfl (hb hby d_prog_120_method_3_code_9) rfl k) ?_
  have f87 : Exa Z T84.heap b79 "java/util/BitSet" := (Exa.keep A79 K84q)
  obtain ⟨T86, v86, L86, X86, q86, st86⟩ := callVi X84 hx hZ (y := (⟨"java/util/BitSet", "set", "(I)V"⟩ : MethodName)) (z := (⟨"java/util/BitSet", "set", "(I)V"⟩ : MethodName)) hown (hw _ (List.mem_of_getElem? (i := 52) rfl)) (hw _ (List.mem_of_getElem? (i := 53) rfl)) (notFace_of_selects (args := #[]) (mvT hZ (hw _ (List.mem_of_getElem? (i := 55) rfl)))) (hw _ (List.mem_of_getElem? (i := 55) rfl)) (hw _ (List.mem_of_getElem? (i := 54) rfl)) (hw _ (List.mem_of_getElem? (i := 56) rfl)) (hw _ (List.mem_of_getElem? (i := 24) rfl)) (by decide) (rm_set hw s_OWN s_OWN_runners s_OWN_CONTENDED S_OWN E_s_OWN F_s_OWN_contends F_s_OWN_runners E_s_OWN_runners F_s_OWN_runners_wordsInUse S_OWN_CONTENDED E_s_OWN_CONTENDED F_s_OWN_CONTENDED_contends F_s_OWN_CONTENDED_runners S__assertionsDisabled b79 kv wd_84 kw_84 T84.heap O85 (prem0) (prem1) f87 p84_1 p84_2 p84_3 g_b79 g_wd_84 ne_b79_wd_84) rfl (W := 0) (by decide) (by decide) (by decide) (by decide) f87 (g := (mkF m 10 #[.val (.int kv), .val (.int (0 : Int32)), .val (.ref b79)] [(.int kv), (.ref b79)])) rfl (by rw [hml]; rfl) (argsL := [(.int kv)]) (rest := []) (lenOf pd__I_V rfl) rfl rfl (by show 2 * 0 + _ ≤ _; exact Nat.le_of_eq rfl) (hb hby d_prog_120_method_3_code_10)
  obtain ⟨rfl, N86q, K86q, p86_0⟩ := q86
  have N86 := Fr.app N84 N86q
  have O88 := Old0.keep O85 K86q (allS g_b79 (allS g_wd_84 all0))
  have K88 := Keep.trans K85 K86q (allS (Or.inr z_b79) (allS (Or.inr z_wd_84) all0))
  refine Go.of (T' := T86) (f' := (mkF m 13 #[.val (.int kv), .val (.int (0 : Int32)), .val (.ref b79)] [])) (fun _ k => st86 _ k) ?_
  have f90 : Exa Z T86.heap b79 "java/util/BitSet" := (Exa.keep f87 K86q)
  have f91 : Exa Z T86.heap wd_84 "[J" := (Exa.keep p84_4 K86q)
  obtain ⟨T89, h89, b89, q89, X89, e89, E89, A89, D89, st89⟩ := newOb X86 hx hZ hown (hw _ (List.mem_of_getElem? (i := 73) rfl)) (hw _ (List.mem_of_getElem? (i := 74) rfl)) (hw _ (List.mem_of_getElem? (i := 2) rfl)) rfl (g := (mkF m 13 #[.val (.int kv), .val (.int (0 : Int32)), .val (.ref b79)] [])) rfl (hb hby d_prog_120_method_3_code_13) (by decide) (by decide)
  have O92 := Old0.ext O88 E89
  have K92 := Keep.ext K88 E89
  have g_b89 : Z.heap.size ≤ b89 := q89 ▸ O88.1
  have z_b89 : h0.size ≤ b89 := q89 ▸ K88.1
  have ne_b79_b89 : b79 ≠ b89 := q89 ▸ Nat.ne_of_lt f90.lt
  have ne_wd_84_b89 : wd_84 ≠ b89 := q89 ▸ Nat.ne_of_lt f91.lt
  have f93 : Fld Z h89 b89 "com/example/mailroom/mailroom/engine/Timeline$Race" "contends" "Z" (.int (0 : Int32)) := D89 (Or.inr (hw _ (List.mem_of_getElem? (i := 12) rfl))) (ty := .boolean) (by decide)
  have f94 : Fld Z h89 b89 "com/example/mailroom/mailroom/engine/Timeline$Race" "runners" "Ljava/util/BitSet;" .null := D89 (Or.inr (hw _ (List.mem_of_getElem? (i := 19) rfl))) (ty := (.object "java/util/BitSet")) (by decide)
  refine Go.of (T' := T89) (f' := (mkF m 16 #[.val (.int kv), .val (.int (0 : Int32)), .val (.ref b79)] [(.ref b89)])) (fun _ k => st89 _ k) ?_
  refine Go.of (T' := T89) (f' := (mkF m 17 #[.val (.int kv), .val (.int (0 : Int32)), .val (.ref b79)] [(.ref b89), (.ref b89)])) (fun _ k => XS.dup X89.here hx rfl (hb hby d_prog_120_method_3_code_16) rfl rfl k) ?_
  refine Go.of (T' := T89) (f' := (mkF m 18 #[.val (.int kv), .val (.int (0 : Int32)), .val (.ref b79)] [(.int (0 : Int32)), (.ref b89), (.ref b89)])) (fun _ k => XS.iloadN X89.here hx rfl (hb hby d_prog_120_method_3_code_17) rfl k) ?_
  refine Go.of (T' := T89) (f' := (mkF m 19 #[.val (.int kv), .val (.int (0 : Int32)), .val (.ref b79)] [(.ref b79), (.int (0 : Int32)), (.ref b89), (.ref b89)])) (fun _ k => XS.aloadN X89.here hx rfl (hb hby d_prog_120_method_3_code_18) rfl rfl k) ?_
  obtain ⟨T95, v95, L95, X95, q95, st95⟩ := callNew X89 hx hZ (y := (⟨"com/example/mailroom/mailroom/engine/Timeline$Race", "<init>", "(ZLjava/util/BitSet;)V"⟩ : MethodName)) rfl hown (hw _ (List.mem_of_getElem? (i := 75) rfl)) (hw _ (List.mem_of_getElem? (i := 76) rfl)) (hw _ (List.mem_of_getElem? (i := 2) rfl)) (hw _ (List.mem_of_getElem? (i := 77) rfl)) (by decide) (rm_rinit0 hw s_OWN s_OWN_runners s_OWN_CONTENDED S_OWN E_s_OWN F_s_OWN_contends F_s_OWN_runners E_s_OWN_runners F_s_OWN_runners_wordsInUse S_OWN_CONTENDED E_s_OWN_CONTENDED F_s_OWN_CONTENDED_contends F_s_OWN_CONTENDED_runners S__assertionsDisabled b89 b79  h89 O92 A89 f93 f94 g_b89) e89 (W := 1) (by decide) (by decide) (by decide) (by decide) (g := (mkF m 19 #[.val (.int kv), .val (.int (0 : Int32)), .val (.ref b79)] [(.ref b79), (.int (0 : Int32)), (.ref b89), (.ref b89)])) rfl (by rw [hml]; rfl) (a := b89) (argsL := [(.int (0 : Int32)), (.ref b79)]) (rest := [(.ref b89)]) (lenOf pd__ZLjava_util_BitSet__V rfl) rfl rfl (by show 2 * 0 + _ ≤ _; exact Nat.le_of_eq rfl) (hb hby d_prog_120_method_3_code_19)
  obtain ⟨rfl, N95q, K95q, p95_0, p95_1⟩ := q95
  have N95 := Fr.app N86 N95q
  have O96 := Old0.keep O92 K95q (allS g_b89 all0)
  have K96 := Keep.trans K92 K95q (allS (Or.inr z_b89) all0)
  refine Go.of (T' := T95) (f' := (mkF m 22 #[.val (.int kv), .val (.int (0 : Int32)), .val (.ref b79)] [(.ref b89)])) (fun _ k => st95 _ k) ?_
  have f97 : Exa Z T95.heap b89 "com/example/mailroom/mailroom/engine/Timeline$Race" := (Exa.keep A89 K95q)
  have f98 : Exa Z T95.heap b79 "java/util/BitSet" := (Exa.keep (Exa.ext E89 f90) K95q)
  have f99 : Fld Z T95.heap b79 "java/util/BitSet" "wordsInUse" "I" (.int (1 : Int32)) := (Fld.keep (Fld.ext E89 p86_0) K95q (ninS ne_b79_b89 nin0))
  exact Go.retA X95 hx hlk hret rfl rfl (hb hby d_prog_120_method_3_code_22) (by decide) (by decide) ⟨b89, b79, rfl, N95, K96, z_b89, z_b79, f97, p95_0, p95_1, f98, f99⟩
theorem d_prog_120_method_4_code_0 : decode prog_120_method_4_code 0 = .ok (.aload_n 0, 1) := by decide +kernel
theorem d_prog_120_method_4_code_1 : decode prog_120_method_4_code 1 = .ok (.getfield 7, 3) := by decide +kernel
theorem d_prog_120_method_4_code_4 : decode prog_120_method_4_code 4 = .ok (.ifCond .ne 10, 3) := by decide +kernel
theorem d_prog_120_method_4_code_7 : decode prog_120_method_4_code 7 = .ok (.aload_n 1, 1) := by decide +kernel
theorem d_prog_120_method_4_code_8 : decode prog_120_method_4_code 8 = .ok (.getfield 7, 3) := by decide +kernel
theorem d_prog_120_method_4_code_11 : decode prog_120_method_4_code 11 = .ok (.ifCond .eq 7, 3) := by decide +kernel
theorem d_prog_120_method_4_code_18 : decode prog_120_method_4_code 18 = .ok (.iconst 0, 1) := by decide +kernel
theorem d_prog_120_method_4_code_19 : decode prog_120_method_4_code 19 = .ok (.istore_n 2, 1) := by decide +kernel
theorem d_prog_120_method_4_code_20 : decode prog_120_method_4_code 20 = .ok (.aload_n 0, 1) := by decide +kernel
theorem d_prog_120_method_4_code_21 : decode prog_120_method_4_code 21 = .ok (.getfield 13, 3) := by decide +kernel
theorem d_prog_120_method_4_code_24 : decode prog_120_method_4_code 24 = .ok (.invokevirtual 34, 3) := by decide +kernel
theorem pd___Z : parseMethodDescriptor "()Z" = some ⟨[], some .boolean⟩ := by decide +kernel
theorem d_prog_120_method_4_code_27 : decode prog_120_method_4_code 27 = .ok (.ifCond .ne 13, 3) := by decide +kernel
theorem d_prog_120_method_4_code_30 : decode prog_120_method_4_code 30 = .ok (.aload_n 1, 1) := by decide +kernel
theorem d_prog_120_method_4_code_31 : decode prog_120_method_4_code 31 = .ok (.getfield 13, 3) := by decide +kernel
theorem d_prog_120_method_4_code_34 : decode prog_120_method_4_code 34 = .ok (.invokevirtual 34, 3) := by decide +kernel
theorem d_prog_120_method_4_code_37 : decode prog_120_method_4_code 37 = .ok (.ifCond .eq 8, 3) := by decide +kernel
theorem d_prog_120_method_4_code_40 : decode prog_120_method_4_code 40 = .ok (.iload_n 2, 1) := by decide +kernel
theorem d_prog_120_method_4_code_41 : decode prog_120_method_4_code 41 = .ok (.invokestatic 38, 3) := by decide +kernel
theorem pd__Z_Lcom_example_mailroom_mailroom_engine_Timeline_Race_ : parseMethodDescriptor "(Z)Lcom/example/mailroom/mailroom/engine/Timeline$Race;" = some ⟨[.boolean], some (.object "com/example/mailroom/mailroom/engine/Timeline$Race")⟩ := by decide +kernel
theorem d_prog_120_method_4_code_44 : decode prog_120_method_4_code 44 = .ok (.areturn, 1) := by decide +kernel
theorem ef_rm_join00 (m : MethodId) (ob : Addr) (s_OWN : Addr) : entryFrame m #[(.ref ob), (.ref s_OWN)] 4 = mkF m 0 #[.val (.ref ob), .val (.ref s_OWN), .unset, .unset] [] := by first | (simp [entryFrame, mkF, argsToLocals, Value.category]; done) | rfl
theorem pn_com_example_mailroom_mailroom_engine_Timeline_Race_join__Lcom_example_mailroom_mailroom_engine_Timeline_Race_Lcom_example_mailroom_mailroom_engine_Timeline_Race__Lcom_example_mailroom_mailroom_engine_Timeline_Race_ : plainFor (⟨"com/example/mailroom/mailroom/engine/Timeline$Race", "join", "(Lcom/example/mailroom/mailroom/engine/Timeline$Race;Lcom/example/mailroom/mailroom/engine/Timeline$Race;)Lcom/example/mailroom/mailroom/engine/Timeline$Race;"⟩ : MethodName) = true := by first | exact plainFor_of_name (by first | (simp [plainName, overriddenIn]; done) | decide +kernel) | decide +kernel
set_option maxRecDepth 65536 in
set_option maxHeartbeats 40000000 in
theorem rm_join00 {l : Launch} {Z : State} {a0 : Array Value} (hw : ∀ d ∈ tables_1, d.before a0 Z = true) (s_OWN : Addr) (s_OWN_runners : Addr) (s_OWN_CONTENDED : Addr) (S_OWN : Sta Z Z.heap "com/example/mailroom/mailroom/engine/Timeline$Race" "OWN" "Lcom/example/mailroom/mailroom/engine/Timeline$Race;" (.ref s_OWN)) (E_s_OWN : Exa Z Z.heap s_OWN "com/example/mailroom/mailroom/engine/Timeline$Race") (F_s_OWN_contends : Fld Z Z.heap s_OWN "com/example/mailroom/mailroom/engine/Timeline$Race" "contends" "Z" (.int (0 : Int32))) (F_s_OWN_runners : Fld Z Z.heap s_OWN "com/example/mailroom/mailroom/engine/Timeline$Race" "runners" "Ljava/util/BitSet;" (.ref s_OWN_runners)) (E_s_OWN_runners : Exa Z Z.heap s_OWN_runners "java/util/BitSet") (F_s_OWN_runners_wordsInUse : Fld Z Z.heap s_OWN_runners "java/util/BitSet" "wordsInUse" "I" (.int (0 : Int32))) (S_OWN_CONTENDED : Sta Z Z.heap "com/example/mailroom/mailroom/engine/Timeline$Race" "OWN_CONTENDED" "Lcom/example/mailroom/mailroom/engine/Timeline$Race;" (.ref s_OWN_CONTENDED)) (E_s_OWN_CONTENDED : Exa Z Z.heap s_OWN_CONTENDED "com/example/mailroom/mailroom/engine/Timeline$Race") (F_s_OWN_CONTENDED_contends : Fld Z Z.heap s_OWN_CONTENDED "com/example/mailroom/mailroom/engine/Timeline$Race" "contends" "Z" (.int (1 : Int32))) (F_s_OWN_CONTENDED_runners : Fld Z Z.heap s_OWN_CONTENDED "com/example/mailroom/mailroom/engine/Timeline$Race" "runners" "Ljava/util/BitSet;" (.ref s_OWN_runners)) (S__assertionsDisabled : Sta Z Z.heap "java/util/BitSet" "$assertionsDisabled" "Z" (.int (1 : Int32))) (ob : Addr) (bs : Addr) (h0 : Heap) (O0 : Ext Z.heap h0) (prem0 : Fld Z h0 ob "com/example/mailroom/mailroom/engine/Timeline$Race" "contends" "Z" (.int (0 : Int32))) (prem1 : Fld Z h0 ob "com/example/mailroom/mailroom/engine/Timeline$Race" "runners" "Ljava/util/BitSet;" (.ref bs)) (prem2 : Exa Z h0 bs "java/util/BitSet") (prem3 : Fld Z h0 bs "java/util/BitSet" "wordsInUse" "I" (.int (1 : Int32))) :
    Ok l Z (⟨"com/example/mailroom/mailroom/engine/Timeline$Race", "join", "(Lcom/example/mailroom/mailroom/engine/Timeline$Race;Lcom/example/mailroom/mailroom/engine/Timeline$Race;)Lcom/example/mailroom/mailroom/engine/Timeline$Race;"⟩ : MethodName) prog_120_method_4_code 4 (some (.object "com/example/mailroom/mailroom/engine/Timeline$Race")) ({ frames := 1, cells := 0, slots := 0, locals := 12 } : Room) #[(.ref ob), (.ref s_OWN)] h0
      (fun v h L => v = some (.ref s_OWN) ∧ (h = h0) ∧ (L = [])) := by
  refine Ok.mk pn_com_example_mailroom_mailroom_engine_Timeline_Race_join__Lcom_example_mailroom_mailroom_engine_Timeline_Race_Lcom_example_mailroom_mailroom_engine_Timeline_Race__Lcom_example_mailroom_mailroom_engine_Timeline_Race_ ?_
  intro p e s m below meth c T0 hx hby hml hown hnm hret hlk hZ e0 X0
  refine Go.cast (ef_rm_join00 m ob s_OWN) ?_
  have N0 := Fr.nil Z.heap.size
  have K0 : Keep h0 h0 [] := Keep.refl _ _
  refine Go.of (T' := T0) (f' := (mkF m 1 #[.val (.ref ob), .val (.ref s_OWN), .unset, .unset] [(.ref ob)])) (fun _ k => XS.aloadN X0.here hx rfl (hb hby d_prog_120_method_4_code_0) rfl rfl k) ?_
  obtain ⟨T100, X100, e100, st100⟩ := getF X0 hx hZ hown (host := "") (Or.inl (hw _ (List.mem_of_getElem? (i := 11) rfl))) Via.refl e0 prem0 (g := (mkF m 1 #[.val (.ref ob), .val (.ref s_OWN), .unset, .unset] [(.ref ob)])) rfl rfl (hb hby d_prog_120_method_4_code_1)
  refine Go.of (T' := T100) (f' := (mkF m 4 #[.val (.ref ob), .val (.ref s_OWN), .unset, .unset] [(.int (0 : Int32))])) (fun _ k => st100 _ k) ?_
  refine Go.of (T' := T100) (f' := (mkF m 7 #[.val (.ref ob), .val (.ref s_OWN), .unset, .unset] [])) (fun _ k => XS.ifNo X100.here hx rfl (hb hby d_prog_120_method_4_code_4) rfl ((if0 _ _).trans (teq (by decide : (0 : Int32) = (0 : Int32))).2) k) ?_
  refine Go.of (T' := T100) (f' := (mkF m 8 #[.val (.ref ob), .val (.ref s_OWN), .unset, .unset] [(.ref s_OWN)])) (fun _ k => XS.aloadN X100.here hx rfl (hb hby d_prog_120_method_4_code_7) rfl rfl k) ?_
  obtain ⟨T102, X102, e102, st102⟩ := getF X100 hx hZ hown (host := "") (Or.inl (hw _ (List.mem_of_getElem? (i := 11) rfl))) Via.refl e100 (Fld.ext O0 F_s_OWN_contends) (g := (mkF m 8 #[.val (.ref ob), .val (.ref s_OWN), .unset, .unset] [(.ref s_OWN)])) rfl rfl (hb hby d_prog_120_method_4_code_8)
  refine Go.of (T' := T102) (f' := (mkF m 11 #[.val (.ref ob), .val (.ref s_OWN), .unset, .unset] [(.int (0 : Int32))])) (fun _ k => st102 _ k) ?_
  refine Go.of (T' := T102) (f' := (mkF m 18 #[.val (.ref ob), .val (.ref s_OWN), .unset, .unset] [])) (fun _ k => XS.ifYes X102.here hx rfl (pc0 := 11) (pc' := 18) rfl (hb hby d_prog_120_method_4_code_11) rfl ((if0 _ _).trans (teq (by decide : (0 : Int32) = (0 : Int32))).1) (by decide) (by decide) k) ?_
  refine Go.of (T' := T102) (f' := (mkF m 19 #[.val (.ref ob), .val (.ref s_OWN), .unset, .unset] [(.int (0 : Int32))])) (fun _ k => XS.iconst X102.here hx rfl (hb hby d_prog_120_method_4_code_18) k) ?_
  refine Go.of (T' := T102) (f' := (mkF m 20 #[.val (.ref ob), .val (.ref s_OWN), .val (.int (0 : Int32)), .unset] [])) (fun _ k => XS.istoreN X102.here hx rfl (hb hby d_prog_120_method_4_code_19) rfl (l' := #[.val (.ref ob), .val (.ref s_OWN), .val (.int (0 : Int32)), .unset]) rfl k) ?_
  refine Go.of (T' := T102) (f' := (mkF m 21 #[.val (.ref ob), .val (.ref s_OWN), .val (.int (0 : Int32)), .unset] [(.ref ob)])) (fun _ k => XS.aloadN X102.here hx rfl (hb hby d_prog_120_method_4_code_20) rfl rfl k) ?_
  obtain ⟨T104, X104, e104, st104⟩ := getF X102 hx hZ hown (host := "") (Or.inl (hw _ (List.mem_of_getElem? (i := 18) rfl))) Via.refl e102 prem1 (g := (mkF m 21 #[.val (.ref ob), .val (.ref s_OWN), .val (.int (0 : Int32)), .unset] [(.ref ob)])) rfl rfl (hb hby d_prog_120_method_4_code_21)
  refine Go.of (T' := T104) (f' := (mkF m 24 #[.val (.ref ob), .val (.ref s_OWN), .val (.int (0 : Int32)), .unset] [(.ref bs)])) (fun _ k => st104 _ k) ?_
  obtain ⟨T105, v105, L105, X105, q105, st105⟩ := callVi X104 hx hZ (y := (⟨"java/util/BitSet", "isEmpty", "()Z"⟩ : MethodName)) (z := (⟨"java/util/BitSet", "isEmpty", "()Z"⟩ : MethodName)) hown (hw _ (List.mem_of_getElem? (i := 87) rfl)) (hw _ (List.mem_of_getElem? (i := 21) rfl)) (notFace_of_selects (args := #[]) (mvT hZ (hw _ (List.mem_of_getElem? (i := 23) rfl)))) (hw _ (List.mem_of_getElem? (i := 23) rfl)) (hw _ (List.mem_of_getElem? (i := 22) rfl)) (hw _ (List.mem_of_getElem? (i := 25) rfl)) (hw _ (List.mem_of_getElem? (i := 24) rfl)) (by decide) (rm_empty0 hw s_OWN s_OWN_runners s_OWN_CONTENDED S_OWN E_s_OWN F_s_OWN_contends F_s_OWN_runners E_s_OWN_runners F_s_OWN_runners_wordsInUse S_OWN_CONTENDED E_s_OWN_CONTENDED F_s_OWN_CONTENDED_contends F_s_OWN_CONTENDED_runners S__assertionsDisabled bs  h0 O0 prem3) e104 (W := 0) (by decide) (by decide) (by decide) (by decide) prem2 (g := (mkF m 24 #[.val (.ref ob), .val (.ref s_OWN), .val (.int (0 : Int32)), .unset] [(.ref bs)])) rfl (by rw [hml]; rfl) (argsL := []) (rest := []) (lenOf pd___Z rfl) rfl rfl (by show 2 * 0 + _ ≤ _; exact Nat.le_of_eq rfl) (hb hby d_prog_120_method_4_code_24)
  obtain ⟨rfl, e105, rfl⟩ := q105
  have N105 := Fr.app N0 (Fr.nil _)
  refine Go.of (T' := T105) (f' := (mkF m 27 #[.val (.ref ob), .val (.ref s_OWN), .val (.int (0 : Int32)), .unset] [(.int (0 : Int32))])) (fun _ k => st105 _ k) ?_
  refine Go.of (T' := T105) (f' := (mkF m 30 #[.val (.ref ob), .val (.ref s_OWN), .val (.int (0 : Int32)), .unset] [])) (fun _ k => XS.ifNo X105.here hx rfl (hb hby d_prog_120_method_4_code_27) rfl ((if0 _ _).trans (teq (by decide : (0 : Int32) = (0 : Int32))).2) k) ?_
  refine Go.of (T' := T105) (f' := (mkF m 31 #[.val (.ref ob), .val (.ref s_OWN), .val (.int (0 : Int32)), .unset] [(.ref s_OWN)])) (fun _ k => XS.aloadN X105.here hx rfl (hb hby d_prog_120_method_4_code_30) rfl rfl k) ?_
  obtain ⟨T107, X107, e107, st107⟩ := getF X105 hx hZ hown (host := "") (Or.inl (hw _ (List.mem_of_getElem? (i := 18) rfl))) Via.refl e105 (Fld.ext O0 F_s_OWN_runners) (g := (mkF m 31 #[.val (.ref ob), .val (.ref s_OWN), .val (.int (0 : Int32)), .unset] [(.ref s_OWN)])) rfl rfl (hb hby d_prog_120_method_4_code_31)
  refine Go.of (T' := T107) (f' := (mkF m 34 #[.val (.ref ob), .val (.ref s_OWN), .val (.int (0 : Int32)), .unset] [(.ref s_OWN_runners)])) (fun _ k => st107 _ k) ?_
  obtain ⟨T108, v108, L108, X108, q108, st108⟩ := callVi X107 hx hZ (y := (⟨"java/util/BitSet", "isEmpty", "()Z"⟩ : MethodName)) (z := (⟨"java/util/BitSet", "isEmpty", "()Z"⟩ : MethodName)) hown (hw _ (List.mem_of_getElem? (i := 87) rfl)) (hw _ (List.mem_of_getElem? (i := 21) rfl)) (notFace_of_selects (args := #[]) (mvT hZ (hw _ (List.mem_of_getElem? (i := 23) rfl)))) (hw _ (List.mem_of_getElem? (i := 23) rfl)) (hw _ (List.mem_of_getElem? (i := 22) rfl)) (hw _ (List.mem_of_getElem? (i := 25) rfl)) (hw _ (List.mem_of_getElem? (i := 24) rfl)) (by decide) (rm_empty1 hw s_OWN s_OWN_runners s_OWN_CONTENDED S_OWN E_s_OWN F_s_OWN_contends F_s_OWN_runners E_s_OWN_runners F_s_OWN_runners_wordsInUse S_OWN_CONTENDED E_s_OWN_CONTENDED F_s_OWN_CONTENDED_contends F_s_OWN_CONTENDED_runners S__assertionsDisabled s_OWN_runners  h0 O0 (Fld.ext O0 F_s_OWN_runners_wordsInUse)) e107 (W := 0) (by decide) (by decide) (by decide) (by decide) (Exa.ext O0 E_s_OWN_runners) (g := (mkF m 34 #[.val (.ref ob), .val (.ref s_OWN), .val (.int (0 : Int32)), .unset] [(.ref s_OWN_runners)])) rfl (by rw [hml]; rfl) (argsL := []) (rest := []) (lenOf pd___Z rfl) rfl rfl (by show 2 * 0 + _ ≤ _; exact Nat.le_of_eq rfl) (hb hby d_prog_120_method_4_code_34)
  obtain ⟨rfl, e108, rfl⟩ := q108
  have N108 := Fr.app N105 (Fr.nil _)
  refine Go.of (T' := T108) (f' := (mkF m 37 #[.val (.ref ob), .val (.ref s_OWN), .val (.int (0 : Int32)), .unset] [(.int (1 : Int32))])) (fun _ k => st108 _ k) ?_
  refine Go.of (T' := T108) (f' := (mkF m 40 #[.val (.ref ob), .val (.ref s_OWN), .val (.int (0 : Int32)), .unset] [])) (fun _ k => XS.ifNo X108.here hx rfl (hb hby d_prog_120_method_4_code_37) rfl ((if0 _ _).trans (feq (by decide : ¬ ((1 : Int32) = (0 : Int32)))).1) k) ?_
  refine Go.of (T' := T108) (f' := (mkF m 41 #[.val (.ref ob), .val (.ref s_OWN), .val (.int (0 : Int32)), .unset] [(.int (0 : Int32))])) (fun _ k => XS.iloadN X108.here hx rfl (hb hby d_prog_120_method_4_code_40) rfl k) ?_
  obtain ⟨T110, v110, L110, X110, q110, st110⟩ := callSt X108 hx hZ (y := (⟨"com/example/mailroom/mailroom/engine/Timeline$Race", "own", "(Z)Lcom/example/mailroom/mailroom/engine/Timeline$Race;"⟩ : MethodName)) hown (hw _ (List.mem_of_getElem? (i := 88) rfl)) (hw _ (List.mem_of_getElem? (i := 1) rfl)) (hw _ (List.mem_of_getElem? (i := 2) rfl)) (hw _ (List.mem_of_getElem? (i := 3) rfl)) (by decide) (rm_own0 hw s_OWN s_OWN_runners s_OWN_CONTENDED S_OWN E_s_OWN F_s_OWN_contends F_s_OWN_runners E_s_OWN_runners F_s_OWN_runners_wordsInUse S_OWN_CONTENDED E_s_OWN_CONTENDED F_s_OWN_CONTENDED_contends F_s_OWN_CONTENDED_runners S__assertionsDisabled   h0 O0 ) e108 (W := 0) (by decide) (by decide) (by decide) (by decide) (g := (mkF m 41 #[.val (.ref ob), .val (.ref s_OWN), .val (.int (0 : Int32)), .unset] [(.int (0 : Int32))])) rfl (by rw [hml]; rfl) (argsL := [(.int (0 : Int32))]) (rest := []) (lenOf pd__Z_Lcom_example_mailroom_mailroom_engine_Timeline_Race_ rfl) rfl rfl (by show 2 * 0 + _ ≤ _; exact Nat.le_of_eq rfl) (hb hby d_prog_120_method_4_code_41)
  obtain ⟨rfl, e110, rfl⟩ := q110
  have N110 := Fr.app N108 (Fr.nil _)
  refine Go.of (T' := T110) (f' := (mkF m 44 #[.val (.ref ob), .val (.ref s_OWN), .val (.int (0 : Int32)), .unset] [(.ref s_OWN)])) (fun _ k => st110 _ k) ?_
  exact Go.retA X110 hx hlk hret rfl rfl (hb hby d_prog_120_method_4_code_44) (by decide) (by decide) (by rw [e110]; exact ⟨rfl, rfl, by simp⟩)
theorem d_prog_120_method_4_code_14 : decode prog_120_method_4_code 14 = .ok (.iconst 1, 1) := by decide +kernel
theorem d_prog_120_method_4_code_15 : decode prog_120_method_4_code 15 = .ok (.goto 4, 3) := by decide +kernel
theorem ef_rm_join01 (m : MethodId) (ob : Addr) (s_OWN_CONTENDED : Addr) : entryFrame m #[(.ref ob), (.ref s_OWN_CONTENDED)] 4 = mkF m 0 #[.val (.ref ob), .val (.ref s_OWN_CONTENDED), .unset, .unset] [] := by first | (simp [entryFrame, mkF, argsToLocals, Value.category]; done) | rfl
set_option maxRecDepth 65536 in
set_option maxHeartbeats 40000000 in
theorem rm_join01 {l : Launch} {Z : State} {a0 : Array Value} (hw : ∀ d ∈ tables_1, d.before a0 Z = true) (s_OWN : Addr) (s_OWN_runners : Addr) (s_OWN_CONTENDED : Addr) (S_OWN : Sta Z Z.heap "com/example/mailroom/mailroom/engine/Timeline$Race" "OWN" "Lcom/example/mailroom/mailroom/engine/Timeline$Race;" (.ref s_OWN)) (E_s_OWN : Exa Z Z.heap s_OWN "com/example/mailroom/mailroom/engine/Timeline$Race") (F_s_OWN_contends : Fld Z Z.heap s_OWN "com/example/mailroom/mailroom/engine/Timeline$Race" "contends" "Z" (.int (0 : Int32))) (F_s_OWN_runners : Fld Z Z.heap s_OWN "com/example/mailroom/mailroom/engine/Timeline$Race" "runners" "Ljava/util/BitSet;" (.ref s_OWN_runners)) (E_s_OWN_runners : Exa Z Z.heap s_OWN_runners "java/util/BitSet") (F_s_OWN_runners_wordsInUse : Fld Z Z.heap s_OWN_runners "java/util/BitSet" "wordsInUse" "I" (.int (0 : Int32))) (S_OWN_CONTENDED : Sta Z Z.heap "com/example/mailroom/mailroom/engine/Timeline$Race" "OWN_CONTENDED" "Lcom/example/mailroom/mailroom/engine/Timeline$Race;" (.ref s_OWN_CONTENDED)) (E_s_OWN_CONTENDED : Exa Z Z.heap s_OWN_CONTENDED "com/example/mailroom/mailroom/engine/Timeline$Race") (F_s_OWN_CONTENDED_contends : Fld Z Z.heap s_OWN_CONTENDED "com/example/mailroom/mailroom/engine/Timeline$Race" "contends" "Z" (.int (1 : Int32))) (F_s_OWN_CONTENDED_runners : Fld Z Z.heap s_OWN_CONTENDED "com/example/mailroom/mailroom/engine/Timeline$Race" "runners" "Ljava/util/BitSet;" (.ref s_OWN_runners)) (S__assertionsDisabled : Sta Z Z.heap "java/util/BitSet" "$assertionsDisabled" "Z" (.int (1 : Int32))) (ob : Addr) (bs : Addr) (h0 : Heap) (O0 : Ext Z.heap h0) (prem0 : Fld Z h0 ob "com/example/mailroom/mailroom/engine/Timeline$Race" "contends" "Z" (.int (0 : Int32))) (prem1 : Fld Z h0 ob "com/example/mailroom/mailroom/engine/Timeline$Race" "runners" "Ljava/util/BitSet;" (.ref bs)) (prem2 : Exa Z h0 bs "java/util/BitSet") (prem3 : Fld Z h0 bs "java/util/BitSet" "wordsInUse" "I" (.int (1 : Int32))) :
    Ok l Z (⟨"com/example/mailroom/mailroom/engine/Timeline$Race", "join", "(Lcom/example/mailroom/mailroom/engine/Timeline$Race;Lcom/example/mailroom/mailroom/engine/Timeline$Race;)Lcom/example/mailroom/mailroom/engine/Timeline$Race;"⟩ : MethodName) prog_120_method_4_code 4 (some (.object "com/example/mailroom/mailroom/engine/Timeline$Race")) ({ frames := 1, cells := 0, slots := 0, locals := 12 } : Room) #[(.ref ob), (.ref s_OWN_CONTENDED)] h0
      (fun v h L => v = some (.ref s_OWN_CONTENDED) ∧ (h = h0) ∧ (L = [])) := by
  refine Ok.mk pn_com_example_mailroom_mailroom_engine_Timeline_Race_join__Lcom_example_mailroom_mailroom_engine_Timeline_Race_Lcom_example_mailroom_mailroom_engine_Timeline_Race__Lcom_example_mailroom_mailroom_engine_Timeline_Race_ ?_
  intro p e s m below meth c T0 hx hby hml hown hnm hret hlk hZ e0 X0
  refine Go.cast (ef_rm_join01 m ob s_OWN_CONTENDED) ?_
  have N0 := Fr.nil Z.heap.size
  have K0 : Keep h0 h0 [] := Keep.refl _ _
  refine Go.of (T' := T0) (f' := (mkF m 1 #[.val (.ref ob), .val (.ref s_OWN_CONTENDED), .unset, .unset] [(.ref ob)])) (fun _ k => XS.aloadN X0.here hx rfl (hb hby d_prog_120_method_4_code_0) rfl rfl k) ?_
  obtain ⟨T111, X111, e111, st111⟩ := getF X0 hx hZ hown (host := "") (Or.inl (hw _ (List.mem_of_getElem? (i := 11) rfl))) Via.refl e0 prem0 (g := (mkF m 1 #[.val (.ref ob), .val (.ref s_OWN_CONTENDED), .unset, .unset] [(.ref ob)])) rfl rfl (hb hby d_prog_120_method_4_code_1)
  refine Go.of (T' := T111) (f' := (mkF m 4 #[.val (.ref ob), .val (.ref s_OWN_CONTENDED), .unset, .unset] [(.int (0 : Int32))])) (fun _ k => st111 _ k) ?_
  refine Go.of (T' := T111) (f' := (mkF m 7 #[.val (.ref ob), .val (.ref s_OWN_CONTENDED), .unset, .unset] [])) (fun _ k => XS.ifNo X111.here hx rfl (hb hby d_prog_120_method_4_code_4) rfl ((if0 _ _).trans (teq (by decide : (0 : Int32) = (0 : Int32))).2) k) ?_
  refine Go.of (T' := T111) (f' := (mkF m 8 #[.val (.ref ob), .val (.ref s_OWN_CONTENDED), .unset, .unset] [(.ref s_OWN_CONTENDED)])) (fun _ k => XS.aloadN X111.here hx rfl (hb hby d_prog_120_method_4_code_7) rfl rfl k) ?_
  obtain ⟨T113, X113, e113, st113⟩ := getF X111 hx hZ hown (host := "") (Or.inl (hw _ (List.mem_of_getElem? (i := 11) rfl))) Via.refl e111 (Fld.ext O0 F_s_OWN_CONTENDED_contends) (g := (mkF m 8 #[.val (.ref ob), .val (.ref s_OWN_CONTENDED), .unset, .unset] [(.ref s_OWN_CONTENDED)])) rfl rfl (hb hby d_prog_120_method_4_code_8)
  refine Go.of (T' := T113) (f' := (mkF m 11 #[.val (.ref ob), .val (.ref s_OWN_CONTENDED), .unset, .unset] [(.int (1 : Int32))])) (fun _ k => st113 _ k) ?_
  refine Go.of (T' := T113) (f' := (mkF m 14 #[.val (.ref ob), .val (.ref s_OWN_CONTENDED), .unset, .unset] [])) (fun _ k => XS.ifNo X113.here hx rfl (hb hby d_prog_120_method_4_code_11) rfl ((if0 _ _).trans (feq (by decide : ¬ ((1 : Int32) = (0 : Int32)))).1) k) ?_
  refine Go.of (T' := T113) (f' := (mkF m 15 #[.val (.ref ob), .val (.ref s_OWN_CONTENDED), .unset, .unset] [(.int (1 : Int32))])) (fun _ k => XS.iconst X113.here hx rfl (hb hby d_prog_120_method_4_code_14) k) ?_
  refine Go.of (T' := T113) (f' := (mkF m 19 #[.val (.ref ob), .val (.ref s_OWN_CONTENDED), .unset, .unset] [(.int (1 : Int32))])) (fun _ k => XS.goto X113.here hx rfl (pc0 := 15) (pc' := 19) rfl (hb hby d_prog_120_method_4_code_15) (by decide) (by decide) k) ?_
  refine Go.of (T' := T113) (f' := (mkF m 20 #[.val (.ref ob), .val (.ref s_OWN_CONTENDED), .val (.int (1 : Int32)), .unset] [])) (fun _ k => XS.istoreN X113.here hx rfl (hb hby d_prog_120_method_4_code_19) rfl (l' := #[.val (.ref ob), .val (.ref s_OWN_CONTENDED), .val (.int (1 : Int32)), .unset]) rfl k) ?_
  refine Go.of (T' := T113) (f' := (mkF m 21 #[.val (.ref ob), .val (.ref s_OWN_CONTENDED), .val (.int (1 : Int32)), .unset] [(.ref ob)])) (fun _ k => XS.aloadN X113.here hx rfl (hb hby d_prog_120_method_4_code_20) rfl rfl k) ?_
  obtain ⟨T115, X115, e115, st115⟩ := getF X113 hx hZ hown (host := "") (Or.inl (hw _ (List.mem_of_getElem? (i := 18) rfl))) Via.refl e113 prem1 (g := (mkF m 21 #[.val (.ref ob), .val (.ref s_OWN_CONTENDED), .val (.int (1 : Int32)), .unset] [(.ref ob)])) rfl rfl (hb hby d_prog_120_method_4_code_21)
  refine Go.of (T' := T115) (f' := (mkF m 24 #[.val (.ref ob), .val (.ref s_OWN_CONTENDED), .val (.int (1 : Int32)), .unset] [(.ref bs)])) (fun _ k => st115 _ k) ?_
  obtain ⟨T116, v116, L116, X116, q116, st116⟩ := callVi X115 hx hZ (y := (⟨"java/util/BitSet", "isEmpty", "()Z"⟩ : MethodName)) (z := (⟨"java/util/BitSet", "isEmpty", "()Z"⟩ : MethodName)) hown (hw _ (List.mem_of_getElem? (i := 87) rfl)) (hw _ (List.mem_of_getElem? (i := 21) rfl)) (notFace_of_selects (args := #[]) (mvT hZ (hw _ (List.mem_of_getElem? (i := 23) rfl)))) (hw _ (List.mem_of_getElem? (i := 23) rfl)) (hw _ (List.mem_of_getElem? (i := 22) rfl)) (hw _ (List.mem_of_getElem? (i := 25) rfl)) (hw _ (List.mem_of_getElem? (i := 24) rfl)) (by decide) (rm_empty0 hw s_OWN s_OWN_runners s_OWN_CONTENDED S_OWN E_s_OWN F_s_OWN_contends F_s_OWN_runners E_s_OWN_runners F_s_OWN_runners_wordsInUse S_OWN_CONTENDED E_s_OWN_CONTENDED F_s_OWN_CONTENDED_contends F_s_OWN_CONTENDED_runners S__assertionsDisabled bs  h0 O0 prem3) e115 (W := 0) (by decide) (by decide) (by decide) (by decide) prem2 (g := (mkF m 24 #[.val (.ref ob), .val (.ref s_OWN_CONTENDED), .val (.int (1 : Int32)), .unset] [(.ref bs)])) rfl (by rw [hml]; rfl) (argsL := []) (rest := []) (lenOf pd___Z rfl) rfl rfl (by show 2 * 0 + _ ≤ _; exact Nat.le_of_eq rfl) (hb hby d_prog_120_method_4_code_24)
  obtain ⟨rfl, e116, rfl⟩ := q116
  have N116 := Fr.app N0 (Fr.nil _)
  refine Go.of (T' := T116) (f' := (mkF m 27 #[.val (.ref ob), .val (.ref s_OWN_CONTENDED), .val (.int (1 : Int32)), .unset] [(.int (0 : Int32))])) (fun _ k => st116 _ k) ?_
  refine Go.of (T' := T116) (f' := (mkF m 30 #[.val (.ref ob), .val (.ref s_OWN_CONTENDED), .val (.int (1 : Int32)), .unset] [])) (fun _ k => XS.ifNo X116.here hx rfl (hb hby d_prog_120_method_4_code_27) rfl ((if0 _ _).trans (teq (by decide : (0 : Int32) = (0 : Int32))).2) k) ?_
  refine Go.of (T' := T116) (f' := (mkF m 31 #[.val (.ref ob), .val (.ref s_OWN_CONTENDED), .val (.int (1 : Int32)), .unset] [(.ref s_OWN_CONTENDED)])) (fun _ k => XS.aloadN X116.here hx rfl (hb hby d_prog_120_method_4_code_30) rfl rfl k) ?_
  obtain ⟨T118, X118, e118, st118⟩ := getF X116 hx hZ hown (host := "") (Or.inl (hw _ (List.mem_of_getElem? (i := 18) rfl))) Via.refl e116 (Fld.ext O0 F_s_OWN_CONTENDED_runners) (g := (mkF m 31 #[.val (.ref ob), .val (.ref s_OWN_CONTENDED), .val (.int (1 : Int32)), .unset] [(.ref s_OWN_CONTENDED)])) rfl rfl (hb hby d_prog_120_method_4_code_31)
  refine Go.of (T' := T118) (f' := (mkF m 34 #[.val (.ref ob), .val (.ref s_OWN_CONTENDED), .val (.int (1 : Int32)), .unset] [(.ref s_OWN_runners)])) (fun _ k => st118 _ k) ?_
  obtain ⟨T119, v119, L119, X119, q119, st119⟩ := callVi X118 hx hZ (y := (⟨"java/util/BitSet", "isEmpty", "()Z"⟩ : MethodName)) (z := (⟨"java/util/BitSet", "isEmpty", "()Z"⟩ : MethodName)) hown (hw _ (List.mem_of_getElem? (i := 87) rfl)) (hw _ (List.mem_of_getElem? (i := 21) rfl)) (notFace_of_selects (args := #[]) (mvT hZ (hw _ (List.mem_of_getElem? (i := 23) rfl)))) (hw _ (List.mem_of_getElem? (i := 23) rfl)) (hw _ (List.mem_of_getElem? (i := 22) rfl)) (hw _ (List.mem_of_getElem? (i := 25) rfl)) (hw _ (List.mem_of_getElem? (i := 24) rfl)) (by decide) (rm_empty1 hw s_OWN s_OWN_runners s_OWN_CONTENDED S_OWN E_s_OWN F_s_OWN_contends F_s_OWN_runners E_s_OWN_runners F_s_OWN_runners_wordsInUse S_OWN_CONTENDED E_s_OWN_CONTENDED F_s_OWN_CONTENDED_contends F_s_OWN_CONTENDED_runners S__assertionsDisabled s_OWN_runners  h0 O0 (Fld.ext O0 F_s_OWN_runners_wordsInUse)) e118 (W := 0) (by decide) (by decide) (by decide) (by decide) (Exa.ext O0 E_s_OWN_runners) (g := (mkF m 34 #[.val (.ref ob), .val (.ref s_OWN_CONTENDED), .val (.int (1 : Int32)), .unset] [(.ref s_OWN_runners)])) rfl (by rw [hml]; rfl) (argsL := []) (rest := []) (lenOf pd___Z rfl) rfl rfl (by show 2 * 0 + _ ≤ _; exact Nat.le_of_eq rfl) (hb hby d_prog_120_method_4_code_34)
  obtain ⟨rfl, e119, rfl⟩ := q119
  have N119 := Fr.app N116 (Fr.nil _)
  refine Go.of (T' := T119) (f' := (mkF m 37 #[.val (.ref ob), .val (.ref s_OWN_CONTENDED), .val (.int (1 : Int32)), .unset] [(.int (1 : Int32))])) (fun _ k => st119 _ k) ?_
  refine Go.of (T' := T119) (f' := (mkF m 40 #[.val (.ref ob), .val (.ref s_OWN_CONTENDED), .val (.int (1 : Int32)), .unset] [])) (fun _ k => XS.ifNo X119.here hx rfl (hb hby d_prog_120_method_4_code_37) rfl ((if0 _ _).trans (feq (by decide : ¬ ((1 : Int32) = (0 : Int32)))).1) k) ?_
  refine Go.of (T' := T119) (f' := (mkF m 41 #[.val (.ref ob), .val (.ref s_OWN_CONTENDED), .val (.int (1 : Int32)), .unset] [(.int (1 : Int32))])) (fun _ k => XS.iloadN X119.here hx rfl (hb hby d_prog_120_method_4_code_40) rfl k) ?_
  obtain ⟨T121, v121, L121, X121, q121, st121⟩ := callSt X119 hx hZ (y := (⟨"com/example/mailroom/mailroom/engine/Timeline$Race", "own", "(Z)Lcom/example/mailroom/mailroom/engine/Timeline$Race;"⟩ : MethodName)) hown (hw _ (List.mem_of_getElem? (i := 88) rfl)) (hw _ (List.mem_of_getElem? (i := 1) rfl)) (hw _ (List.mem_of_getElem? (i := 2) rfl)) (hw _ (List.mem_of_getElem? (i := 3) rfl)) (by decide) (rm_own1 hw s_OWN s_OWN_runners s_OWN_CONTENDED S_OWN E_s_OWN F_s_OWN_contends F_s_OWN_runners E_s_OWN_runners F_s_OWN_runners_wordsInUse S_OWN_CONTENDED E_s_OWN_CONTENDED F_s_OWN_CONTENDED_contends F_s_OWN_CONTENDED_runners S__assertionsDisabled   h0 O0 ) e119 (W := 0) (by decide) (by decide) (by decide) (by decide) (g := (mkF m 41 #[.val (.ref ob), .val (.ref s_OWN_CONTENDED), .val (.int (1 : Int32)), .unset] [(.int (1 : Int32))])) rfl (by rw [hml]; rfl) (argsL := [(.int (1 : Int32))]) (rest := []) (lenOf pd__Z_Lcom_example_mailroom_mailroom_engine_Timeline_Race_ rfl) rfl rfl (by show 2 * 0 + _ ≤ _; exact Nat.le_of_eq rfl) (hb hby d_prog_120_method_4_code_41)
  obtain ⟨rfl, e121, rfl⟩ := q121
  have N121 := Fr.app N119 (Fr.nil _)
  refine Go.of (T' := T121) (f' := (mkF m 44 #[.val (.ref ob), .val (.ref s_OWN_CONTENDED), .val (.int (1 : Int32)), .unset] [(.ref s_OWN_CONTENDED)])) (fun _ k => st121 _ k) ?_
  exact Go.retA X121 hx hlk hret rfl rfl (hb hby d_prog_120_method_4_code_44) (by decide) (by decide) (by rw [e121]; exact ⟨rfl, rfl, by simp⟩)
theorem ef_rm_rinit1 (m : MethodId) (ob : Addr) (bs : Addr) : entryFrame m #[(.ref ob), (.int (1 : Int32)), (.ref bs)] 3 = mkF m 0 #[.val (.ref ob), .val (.int (1 : Int32)), .val (.ref bs)] [] := by first | (simp [entryFrame, mkF, argsToLocals, Value.category]; done) | rfl
set_option maxRecDepth 65536 in
set_option maxHeartbeats 40000000 in
theorem rm_rinit1 {l : Launch} {Z : State} {a0 : Array Value} (hw : ∀ d ∈ tables_1, d.before a0 Z = true) (s_OWN : Addr) (s_OWN_runners : Addr) (s_OWN_CONTENDED : Addr) (S_OWN : Sta Z Z.heap "com/example/mailroom/mailroom/engine/Timeline$Race" "OWN" "Lcom/example/mailroom/mailroom/engine/Timeline$Race;" (.ref s_OWN)) (E_s_OWN : Exa Z Z.heap s_OWN "com/example/mailroom/mailroom/engine/Timeline$Race") (F_s_OWN_contends : Fld Z Z.heap s_OWN "com/example/mailroom/mailroom/engine/Timeline$Race" "contends" "Z" (.int (0 : Int32))) (F_s_OWN_runners : Fld Z Z.heap s_OWN "com/example/mailroom/mailroom/engine/Timeline$Race" "runners" "Ljava/util/BitSet;" (.ref s_OWN_runners)) (E_s_OWN_runners : Exa Z Z.heap s_OWN_runners "java/util/BitSet") (F_s_OWN_runners_wordsInUse : Fld Z Z.heap s_OWN_runners "java/util/BitSet" "wordsInUse" "I" (.int (0 : Int32))) (S_OWN_CONTENDED : Sta Z Z.heap "com/example/mailroom/mailroom/engine/Timeline$Race" "OWN_CONTENDED" "Lcom/example/mailroom/mailroom/engine/Timeline$Race;" (.ref s_OWN_CONTENDED)) (E_s_OWN_CONTENDED : Exa Z Z.heap s_OWN_CONTENDED "com/example/mailroom/mailroom/engine/Timeline$Race") (F_s_OWN_CONTENDED_contends : Fld Z Z.heap s_OWN_CONTENDED "com/example/mailroom/mailroom/engine/Timeline$Race" "contends" "Z" (.int (1 : Int32))) (F_s_OWN_CONTENDED_runners : Fld Z Z.heap s_OWN_CONTENDED "com/example/mailroom/mailroom/engine/Timeline$Race" "runners" "Ljava/util/BitSet;" (.ref s_OWN_runners)) (S__assertionsDisabled : Sta Z Z.heap "java/util/BitSet" "$assertionsDisabled" "Z" (.int (1 : Int32))) (ob : Addr) (bs : Addr)  (h0 : Heap) (O0 : Ext Z.heap h0) (prem0 : Exa Z h0 ob "com/example/mailroom/mailroom/engine/Timeline$Race") (prem1 : Fld Z h0 ob "com/example/mailroom/mailroom/engine/Timeline$Race" "contends" "Z" (.int (0 : Int32))) (prem2 : Fld Z h0 ob "com/example/mailroom/mailroom/engine/Timeline$Race" "runners" "Ljava/util/BitSet;" .null) (prem3 : Z.heap.size ≤ ob) :
    Ok l Z (⟨"com/example/mailroom/mailroom/engine/Timeline$Race", "<init>", "(ZLjava/util/BitSet;)V"⟩ : MethodName) prog_120_method_1_code 3 none ({ frames := 2, cells := 0, slots := 0, locals := 24 } : Room) #[(.ref ob), (.int (1 : Int32)), (.ref bs)] h0
      (fun v h L => v = none ∧ (Fr Z.heap.size L) ∧ (Keep h0 h [ob]) ∧ (Fld Z h ob "com/example/mailroom/mailroom/engine/Timeline$Race" "contends" "Z" (.int (1 : Int32))) ∧ (Fld Z h ob "com/example/mailroom/mailroom/engine/Timeline$Race" "runners" "Ljava/util/BitSet;" (.ref bs))) := by
  refine Ok.mk pn_com_example_mailroom_mailroom_engine_Timeline_Race__init___ZLjava_util_BitSet__V ?_
  intro p e s m below meth c T0 hx hby hml hown hnm hret hlk hZ e0 X0
  refine Go.cast (ef_rm_rinit1 m ob bs) ?_
  have N0 := Fr.nil Z.heap.size
  have K0 : Keep h0 h0 [ob] := Keep.refl _ _
  refine Go.of (T' := T0) (f' := (mkF m 1 #[.val (.ref ob), .val (.int (1 : Int32)), .val (.ref bs)] [(.ref ob)])) (fun _ k => XS.aloadN X0.here hx rfl (hb hby d_prog_120_method_1_code_0) rfl rfl k) ?_
  obtain ⟨T122, v122, L122, X122, q122, st122⟩ := callNew X0 hx hZ (y := (⟨"java/lang/Record", "<init>", "()V"⟩ : MethodName)) rfl hown (hw _ (List.mem_of_getElem? (i := 78) rfl)) (hw _ (List.mem_of_getElem? (i := 79) rfl)) (hw _ (List.mem_of_getElem? (i := 81) rfl)) (hw _ (List.mem_of_getElem? (i := 82) rfl)) (by decide) (rm_rec hw s_OWN s_OWN_runners s_OWN_CONTENDED S_OWN E_s_OWN F_s_OWN_contends F_s_OWN_runners E_s_OWN_runners F_s_OWN_runners_wordsInUse S_OWN_CONTENDED E_s_OWN_CONTENDED F_s_OWN_CONTENDED_contends F_s_OWN_CONTENDED_runners S__assertionsDisabled ob  h0 O0 ) e0 (W := 0) (by decide) (by decide) (by decide) (by decide) (g := (mkF m 1 #[.val (.ref ob), .val (.int (1 : Int32)), .val (.ref bs)] [(.ref ob)])) rfl (by rw [hml]; rfl) (a := ob) (argsL := []) (rest := []) (lenOf pd___V rfl) rfl rfl (by show 2 * 0 + _ ≤ _; exact Nat.le_of_eq rfl) (hb hby d_prog_120_method_1_code_1)
  obtain ⟨rfl, e122, rfl⟩ := q122
  have N122 := Fr.app N0 (Fr.nil _)
  refine Go.of (T' := T122) (f' := (mkF m 4 #[.val (.ref ob), .val (.int (1 : Int32)), .val (.ref bs)] [])) (fun _ k => st122 _ k) ?_
  refine Go.of (T' := T122) (f' := (mkF m 5 #[.val (.ref ob), .val (.int (1 : Int32)), .val (.ref bs)] [(.ref ob)])) (fun _ k => XS.aloadN X122.here hx rfl (hb hby d_prog_120_method_1_code_4) rfl rfl k) ?_
  refine Go.of (T' := T122) (f' := (mkF m 6 #[.val (.ref ob), .val (.int (1 : Int32)), .val (.ref bs)] [(.int (1 : Int32)), (.ref ob)])) (fun _ k => XS.iloadN X122.here hx rfl (hb hby d_prog_120_method_1_code_5) rfl k) ?_
  obtain ⟨T123, h123, X123, e123, W123, st123⟩ := putFN X122 hx hZ hown (hw _ (List.mem_of_getElem? (i := 11) rfl)) Via.refl e122 prem1 prem0 (Or.inr ⟨(hw _ (List.mem_of_getElem? (i := 12) rfl)), rfl, hnm⟩) (hw _ (List.mem_of_getElem? (i := 74) rfl)) (ty := .boolean) (v' := (.int (1 : Int32))) (by decide) rfl rfl (g := (mkF m 6 #[.val (.ref ob), .val (.int (1 : Int32)), .val (.ref bs)] [(.int (1 : Int32)), (.ref ob)])) rfl rfl (hb hby d_prog_120_method_1_code_6)
  have O124 := Old0.wr O0 W123 prem3
  have K124 := Keep.wr K0 W123 (Or.inl (List.mem_of_getElem? (i := 0) rfl))
  have N123 := Fr.snoc X123 N122 prem3
  have f123 : Fld Z h123 ob "com/example/mailroom/mailroom/engine/Timeline$Race" "contends" "Z" (.int (1 : Int32)) := Fld.same W123 prem1
  refine Go.of (T' := T123) (f' := (mkF m 9 #[.val (.ref ob), .val (.int (1 : Int32)), .val (.ref bs)] [])) (fun _ k => st123 _ k) ?_
  refine Go.of (T' := T123) (f' := (mkF m 10 #[.val (.ref ob), .val (.int (1 : Int32)), .val (.ref bs)] [(.ref ob)])) (fun _ k => XS.aloadN X123.here hx rfl (hb hby d_prog_120_method_1_code_9) rfl rfl k) ?_
  refine Go.of (T' := T123) (f' := (mkF m 11 #[.val (.ref ob), .val (.int (1 : Int32)), .val (.ref bs)] [(.ref bs), (.ref ob)])) (fun _ k => XS.aloadN X123.here hx rfl (hb hby d_prog_120_method_1_code_10) rfl rfl k) ?_
  have f126 : Exa Z h123 ob "com/example/mailroom/mailroom/engine/Timeline$Race" := (Exa.wr W123 prem0)
  have f127 : Fld Z h123 ob "com/example/mailroom/mailroom/engine/Timeline$Race" "runners" "Ljava/util/BitSet;" .null := (Fld.other W123 prem2 (Or.inr (slot_ne (Or.inr (hw _ (List.mem_of_getElem? (i := 19) rfl))) (Or.inr (hw _ (List.mem_of_getElem? (i := 12) rfl))) (by decide) (t := (.object "java/util/BitSet")) (t' := .boolean) (by decide) (by decide))))
  obtain ⟨T125, h125, X125, e125, W125, st125⟩ := putF X123 hx hZ hown (host := "") (Or.inl (hw _ (List.mem_of_getElem? (i := 18) rfl))) Via.refl e123 f127 f126 (Or.inr ⟨(hw _ (List.mem_of_getElem? (i := 19) rfl)), rfl, hnm⟩) (hw _ (List.mem_of_getElem? (i := 74) rfl)) (ty := (.object "java/util/BitSet")) (by decide) rfl rfl (g := (mkF m 11 #[.val (.ref ob), .val (.int (1 : Int32)), .val (.ref bs)] [(.ref bs), (.ref ob)])) rfl rfl (hb hby d_prog_120_method_1_code_11)
  have O128 := Old0.wr O124 W125 prem3
  have K128 := Keep.wr K124 W125 (Or.inl (List.mem_of_getElem? (i := 0) rfl))
  have N125 := Fr.snoc X125 N123 prem3
  have f125 : Fld Z h125 ob "com/example/mailroom/mailroom/engine/Timeline$Race" "runners" "Ljava/util/BitSet;" (.ref bs) := Fld.same W125 f127
  refine Go.of (T' := T125) (f' := (mkF m 14 #[.val (.ref ob), .val (.int (1 : Int32)), .val (.ref bs)] [])) (fun _ k => st125 _ k) ?_
  have f129 : Fld Z h125 ob "com/example/mailroom/mailroom/engine/Timeline$Race" "contends" "Z" (.int (1 : Int32)) := (Fld.other W125 f123 (Or.inr (slot_ne (Or.inr (hw _ (List.mem_of_getElem? (i := 12) rfl))) (Or.inr (hw _ (List.mem_of_getElem? (i := 19) rfl))) (by decide) (t := .boolean) (t' := (.object "java/util/BitSet")) (by decide) (by decide))))
  exact Go.retV X125 hx hlk hret (hb hby d_prog_120_method_1_code_14) (by decide) (by decide) (by rw [e125]; exact ⟨rfl, N125, K128, f129, f125⟩)
theorem ef_rm_through1 (m : MethodId) (kv : Int32) : entryFrame m #[(.int kv), (.int (1 : Int32))] 3 = mkF m 0 #[.val (.int kv), .val (.int (1 : Int32)), .unset] [] := by first | (simp [entryFrame, mkF, argsToLocals, Value.category]; done) | rfl
set_option maxRecDepth 65536 in
set_option maxHeartbeats 40000000 in
theorem rm_through1 {l : Launch} {Z : State} {a0 : Array Value} (hw : ∀ d ∈ tables_1, d.before a0 Z = true) (s_OWN : Addr) (s_OWN_runners : Addr) (s_OWN_CONTENDED : Addr) (S_OWN : Sta Z Z.heap "com/example/mailroom/mailroom/engine/Timeline$Race" "OWN" "Lcom/example/mailroom/mailroom/engine/Timeline$Race;" (.ref s_OWN)) (E_s_OWN : Exa Z Z.heap s_OWN "com/example/mailroom/mailroom/engine/Timeline$Race") (F_s_OWN_contends : Fld Z Z.heap s_OWN "com/example/mailroom/mailroom/engine/Timeline$Race" "contends" "Z" (.int (0 : Int32))) (F_s_OWN_runners : Fld Z Z.heap s_OWN "com/example/mailroom/mailroom/engine/Timeline$Race" "runners" "Ljava/util/BitSet;" (.ref s_OWN_runners)) (E_s_OWN_runners : Exa Z Z.heap s_OWN_runners "java/util/BitSet") (F_s_OWN_runners_wordsInUse : Fld Z Z.heap s_OWN_runners "java/util/BitSet" "wordsInUse" "I" (.int (0 : Int32))) (S_OWN_CONTENDED : Sta Z Z.heap "com/example/mailroom/mailroom/engine/Timeline$Race" "OWN_CONTENDED" "Lcom/example/mailroom/mailroom/engine/Timeline$Race;" (.ref s_OWN_CONTENDED)) (E_s_OWN_CONTENDED : Exa Z Z.heap s_OWN_CONTENDED "com/example/mailroom/mailroom/engine/Timeline$Race") (F_s_OWN_CONTENDED_contends : Fld Z Z.heap s_OWN_CONTENDED "com/example/mailroom/mailroom/engine/Timeline$Race" "contends" "Z" (.int (1 : Int32))) (F_s_OWN_CONTENDED_runners : Fld Z Z.heap s_OWN_CONTENDED "com/example/mailroom/mailroom/engine/Timeline$Race" "runners" "Ljava/util/BitSet;" (.ref s_OWN_runners)) (S__assertionsDisabled : Sta Z Z.heap "java/util/BitSet" "$assertionsDisabled" "Z" (.int (1 : Int32))) (kv : Int32)  (h0 : Heap) (O0 : Ext Z.heap h0) (prem0 : kv >>> ((6 : Int32) &&& 31) = 0) (prem1 : ¬ kv < 0) :
    Ok l Z (⟨"com/example/mailroom/mailroom/engine/Timeline$Race", "through", "(IZ)Lcom/example/mailroom/mailroom/engine/Timeline$Race;"⟩ : MethodName) prog_120_method_3_code 3 (some (.object "com/example/mailroom/mailroom/engine/Timeline$Race")) ({ frames := 3, cells := 3, slots := 6, locals := 42 } : Room) #[(.int kv), (.int (1 : Int32))] h0
      (fun v h L => ∃ ob : Addr, ∃ bs : Addr, v = some (.ref ob) ∧ (Fr Z.heap.size L) ∧ (Keep h0 h []) ∧ (h0.size ≤ ob) ∧ (h0.size ≤ bs) ∧ (Exa Z h ob "com/example/mailroom/mailroom/engine/Timeline$Race") ∧ (Fld Z h ob "com/example/mailroom/mailroom/engine/Timeline$Race" "contends" "Z" (.int (1 : Int32))) ∧ (Fld Z h ob "com/example/mailroom/mailroom/engine/Timeline$Race" "runners" "Ljava/util/BitSet;" (.ref bs)) ∧ (Exa Z h bs "java/util/BitSet") ∧ (Fld Z h bs "java/util/BitSet" "wordsInUse" "I" (.int (1 : Int32)))) := by
  refine Ok.mk pn_com_example_mailroom_mailroom_engine_Timeline_Race_through__IZ_Lcom_example_mailroom_mailroom_engine_Timeline_Race_ ?_
  intro p e s m below meth c T0 hx hby hml hown hnm hret hlk hZ e0 X0
  refine Go.cast (ef_rm_through1 m kv) ?_
  have N0 := Fr.nil Z.heap.size
  have K0 : Keep h0 h0 [] := Keep.refl _ _
  obtain ⟨T130, h130, b130, q130, X130, e130, E130, A130, D130, st130⟩ := newOb X0 hx hZ hown (hw _ (List.mem_of_getElem? (i := 31) rfl)) (hw _ (List.mem_of_getElem? (i := 32) rfl)) (hw _ (List.mem_of_getElem? (i := 24) rfl)) e0 (g := (mkF m 0 #[.val (.int kv), .val (.int (1 : Int32)), .unset] [])) rfl (hb hby d_prog_120_method_3_code_0) (by decide) (by decide)
  have O131 := Old0.ext O0 E130
  have K131 := Keep.ext K0 E130
  have g_b130 : Z.heap.size ≤ b130 := q130 ▸ O0.1
  have z_b130 : h0.size ≤ b130 := q130 ▸ K0.1
  have f132 : Fld Z h130 b130 "java/util/BitSet" "wordsInUse" "I" (.int (0 : Int32)) := D130 (Or.inl (hw _ (List.mem_of_getElem? (i := 27) rfl))) (ty := .int) (by decide)
  have f133 : Fld Z h130 b130 "java/util/BitSet" "sizeIsSticky" "Z" (.int (0 : Int32)) := D130 (Or.inl (hw _ (List.mem_of_getElem? (i := 40) rfl))) (ty := .boolean) (by decide)
  have f134 : Fld Z h130 b130 "java/util/BitSet" "words" "[J" .null := D130 (Or.inl (hw _ (List.mem_of_getElem? (i := 51) rfl))) (ty := (.array .long)) (by decide)
  refine Go.of (T' := T130) (f' := (mkF m 3 #[.val (.int kv), .val (.int (1 : Int32)), .unset] [(.ref b130)])) (fun _ k => st130 _ k) ?_
  refine Go.of (T' := T130) (f' := (mkF m 4 #[.val (.int kv), .val (.int (1 : Int32)), .unset] [(.ref b130), (.ref b130)])) (fun _ k => XS.dup X130.here hx rfl (hb hby d_prog_120_method_3_code_3) rfl rfl k) ?_
  obtain ⟨T135, v135, L135, X135, q135, st135⟩ := callNew X130 hx hZ (y := (⟨"java/util/BitSet", "<init>", "()V"⟩ : MethodName)) rfl hown (hw _ (List.mem_of_getElem? (i := 33) rfl)) (hw _ (List.mem_of_getElem? (i := 34) rfl)) (hw _ (List.mem_of_getElem? (i := 24) rfl)) (hw _ (List.mem_of_getElem? (i := 35) rfl)) (by decide) (rm_bsinit hw s_OWN s_OWN_runners s_OWN_CONTENDED S_OWN E_s_OWN F_s_OWN_contends F_s_OWN_runners E_s_OWN_runners F_s_OWN_runners_wordsInUse S_OWN_CONTENDED E_s_OWN_CONTENDED F_s_OWN_CONTENDED_contends F_s_OWN_CONTENDED_runners S__assertionsDisabled b130  h130 O131 A130 f132 f133 f134 g_b130) e130 (W := 1) (by decide) (by decide) (by decide) (by decide) (g := (mkF m 4 #[.val (.int kv), .val (.int (1 : Int32)), .unset] [(.ref b130), (.ref b130)])) rfl (by rw [hml]; rfl) (a := b130) (argsL := []) (rest := [(.ref b130)]) (lenOf pd___V rfl) rfl rfl (by show 2 * 0 + _ ≤ _; exact Nat.le_of_eq rfl) (hb hby d_prog_120_method_3_code_4)
  obtain ⟨wd_135, kw_135, rfl, N135q, K135q, p135_0, p135_1, p135_2, p135_3, p135_4⟩ := q135
  have N135 := Fr.app N0 N135q
  have O136 := Old0.keep O131 K135q (allS g_b130 all0)
  have K136 := Keep.trans K131 K135q (allS (Or.inr z_b130) all0)
  have z_wd_135 : h0.size ≤ wd_135 := Nat.le_trans K131.1 p135_0
  have g_wd_135 : Z.heap.size ≤ wd_135 := Nat.le_trans O131.1 p135_0
  have ne_b130_wd_135 : b130 ≠ wd_135 := Nat.ne_of_lt (Nat.lt_of_lt_of_le A130.lt p135_0)
  refine Go.of (T' := T135) (f' := (mkF m 7 #[.val (.int kv), .val (.int (1 : Int32)), .unset] [(.ref b130)])) (fun _ k => st135 _ k) ?_
  refine Go.of (T' := T135) (f' := (mkF m 8 #[.val (.int kv), .val (.int (1 : Int32)), .val (.ref b130)] [])) (fun _ k => XS.astoreN X135.here hx rfl (hb hby d_prog_120_method_3_code_7) rfl rfl (l' := #[.val (.int kv), .val (.int (1 : Int32)), .val (.ref b130)]) rfl k) ?_
  refine Go.of (T' := T135) (f' := (mkF m 9 #[.val (.int kv), .val (.int (1 : Int32)), .val (.ref b130)] [(.ref b130)])) (fun _ k => XS.aloadN X135.here hx rfl (hb hby d_prog_120_method_3_code_8) rfl rfl k) ?_
  refine Go.of (T' := T135) (f' := (mkF m 10 #[.val (.int kv), .val (.int (1 : Int32)), .val (.ref b130)] [(.int kv), (.ref b130)])) (fun _ k => XS.iloadN X135.here hx rfl (hb hby d_prog_120_method_3_code_9) rfl k) ?_
  have f138 : Exa Z T135.heap b130 "java/util/BitSet" := (Exa.keep A130 K135q)
  obtain ⟨T137, v137, L137, X137, q137, st137⟩ := callVi X135 hx hZ (y := (⟨"java/util/BitSet", "set", "(I)V"⟩ : MethodName)) (z := (⟨"java/util/BitSet", "set", "(I)V"⟩ : MethodName)) hown (hw _ (List.mem_of_getElem? (i := 52) rfl)) (hw _ (List.mem_of_getElem? (i := 53) rfl)) (notFace_of_selects (args := #[]) (mvT hZ (hw _ (List.mem_of_getElem? (i := 55) rfl)))) (hw _ (List.mem_of_getElem? (i := 55) rfl)) (hw _ (List.mem_of_getElem? (i := 54) rfl)) (hw _ (List.mem_of_getElem? (i := 56) rfl)) (hw _ (List.mem_of_getElem? (i := 24) rfl)) (by decide) (rm_set hw s_OWN s_OWN_runners s_OWN_CONTENDED S_OWN E_s_OWN F_s_OWN_contends F_s_OWN_runners E_s_OWN_runners F_s_OWN_runners_wordsInUse S_OWN_CONTENDED E_s_OWN_CONTENDED F_s_OWN_CONTENDED_contends F_s_OWN_CONTENDED_runners S__assertionsDisabled b130 kv wd_135 kw_135 T135.heap O136 (prem0) (prem1) f138 p135_1 p135_2 p135_3 g_b130 g_wd_135 ne_b130_wd_135) rfl (W := 0) (by decide) (by decide) (by decide) (by decide) f138 (g := (mkF m 10 #[.val (.int kv), .val (.int (1 : Int32)), .val (.ref b130)] [(.int kv), (.ref b130)])) rfl (by rw [hml]; rfl) (argsL := [(.int kv)]) (rest := []) (lenOf pd__I_V rfl) rfl rfl (by show 2 * 0 + _ ≤ _; exact Nat.le_of_eq rfl) (hb hby d_prog_120_method_3_code_10)
  obtain ⟨rfl, N137q, K137q, p137_0⟩ := q137
  have N137 := Fr.app N135 N137q
  have O139 := Old0.keep O136 K137q (allS g_b130 (allS g_wd_135 all0))
  have K139 := Keep.trans K136 K137q (allS (Or.inr z_b130) (allS (Or.inr z_wd_135) all0))
  refine Go.of (T' := T137) (f' := (mkF m 13 #[.val (.int kv), .val (.int (1 : Int32)), .val (.ref b130)] [])) (fun _ k => st137 _ k) ?_
  have f141 : Exa Z T137.heap b130 "java/util/BitSet" := (Exa.keep f138 K137q)
  have f142 : Exa Z T137.heap wd_135 "[J" := (Exa.keep p135_4 K137q)
  obtain ⟨T140, h140, b140, q140, X140, e140, E140, A140, D140, st140⟩ := newOb X137 hx hZ hown (hw _ (List.mem_of_getElem? (i := 73) rfl)) (hw _ (List.mem_of_getElem? (i := 74) rfl)) (hw _ (List.mem_of_getElem? (i := 2) rfl)) rfl (g := (mkF m 13 #[.val (.int kv), .val (.int (1 : Int32)), .val (.ref b130)] [])) rfl (hb hby d_prog_120_method_3_code_13) (by decide) (by decide)
  have O143 := Old0.ext O139 E140
  have K143 := Keep.ext K139 E140
  have g_b140 : Z.heap.size ≤ b140 := q140 ▸ O139.1
  have z_b140 : h0.size ≤ b140 := q140 ▸ K139.1
  have ne_b130_b140 : b130 ≠ b140 := q140 ▸ Nat.ne_of_lt f141.lt
  have ne_wd_135_b140 : wd_135 ≠ b140 := q140 ▸ Nat.ne_of_lt f142.lt
  have f144 : Fld Z h140 b140 "com/example/mailroom/mailroom/engine/Timeline$Race" "contends" "Z" (.int (0 : Int32)) := D140 (Or.inr (hw _ (List.mem_of_getElem? (i := 12) rfl))) (ty := .boolean) (by decide)
  have f145 : Fld Z h140 b140 "com/example/mailroom/mailroom/engine/Timeline$Race" "runners" "Ljava/util/BitSet;" .null := D140 (Or.inr (hw _ (List.mem_of_getElem? (i := 19) rfl))) (ty := (.object "java/util/BitSet")) (by decide)
  refine Go.of (T' := T140) (f' := (mkF m 16 #[.val (.int kv), .val (.int (1 : Int32)), .val (.ref b130)] [(.ref b140)])) (fun _ k => st140 _ k) ?_
  refine Go.of (T' := T140) (f' := (mkF m 17 #[.val (.int kv), .val (.int (1 : Int32)), .val (.ref b130)] [(.ref b140), (.ref b140)])) (fun _ k => XS.dup X140.here hx rfl (hb hby d_prog_120_method_3_code_16) rfl rfl k) ?_
  refine Go.of (T' := T140) (f' := (mkF m 18 #[.val (.int kv), .val (.int (1 : Int32)), .val (.ref b130)] [(.int (1 : Int32)), (.ref b140), (.ref b140)])) (fun _ k => XS.iloadN X140.here hx rfl (hb hby d_prog_120_method_3_code_17) rfl k) ?_
  refine Go.of (T' := T140) (f' := (mkF m 19 #[.val (.int kv), .val (.int (1 : Int32)), .val (.ref b130)] [(.ref b130), (.int (1 : Int32)), (.ref b140), (.ref b140)])) (fun _ k => XS.aloadN X140.here hx rfl (hb hby d_prog_120_method_3_code_18) rfl rfl k) ?_
  obtain ⟨T146, v146, L146, X146, q146, st146⟩ := callNew X140 hx hZ (y := (⟨"com/example/mailroom/mailroom/engine/Timeline$Race", "<init>", "(ZLjava/util/BitSet;)V"⟩ : MethodName)) rfl hown (hw _ (List.mem_of_getElem? (i := 75) rfl)) (hw _ (List.mem_of_getElem? (i := 76) rfl)) (hw _ (List.mem_of_getElem? (i := 2) rfl)) (hw _ (List.mem_of_getElem? (i := 77) rfl)) (by decide) (rm_rinit1 hw s_OWN s_OWN_runners s_OWN_CONTENDED S_OWN E_s_OWN F_s_OWN_contends F_s_OWN_runners E_s_OWN_runners F_s_OWN_runners_wordsInUse S_OWN_CONTENDED E_s_OWN_CONTENDED F_s_OWN_CONTENDED_contends F_s_OWN_CONTENDED_runners S__assertionsDisabled b140 b130  h140 O143 A140 f144 f145 g_b140) e140 (W := 1) (by decide) (by decide) (by decide) (by decide) (g := (mkF m 19 #[.val (.int kv), .val (.int (1 : Int32)), .val (.ref b130)] [(.ref b130), (.int (1 : Int32)), (.ref b140), (.ref b140)])) rfl (by rw [hml]; rfl) (a := b140) (argsL := [(.int (1 : Int32)), (.ref b130)]) (rest := [(.ref b140)]) (lenOf pd__ZLjava_util_BitSet__V rfl) rfl rfl (by show 2 * 0 + _ ≤ _; exact Nat.le_of_eq rfl) (hb hby d_prog_120_method_3_code_19)
  obtain ⟨rfl, N146q, K146q, p146_0, p146_1⟩ := q146
  have N146 := Fr.app N137 N146q
  have O147 := Old0.keep O143 K146q (allS g_b140 all0)
  have K147 := Keep.trans K143 K146q (allS (Or.inr z_b140) all0)
  refine Go.of (T' := T146) (f' := (mkF m 22 #[.val (.int kv), .val (.int (1 : Int32)), .val (.ref b130)] [(.ref b140)])) (fun _ k => st146 _ k) ?_
  have f148 : Exa Z T146.heap b140 "com/example/mailroom/mailroom/engine/Timeline$Race" := (Exa.keep A140 K146q)
  have f149 : Exa Z T146.heap b130 "java/util/BitSet" := (Exa.keep (Exa.ext E140 f141) K146q)
  have f150 : Fld Z T146.heap b130 "java/util/BitSet" "wordsInUse" "I" (.int (1 : Int32)) := (Fld.keep (Fld.ext E140 p137_0) K146q (ninS ne_b130_b140 nin0))
  exact Go.retA X146 hx hlk hret rfl rfl (hb hby d_prog_120_method_3_code_22) (by decide) (by decide) ⟨b140, b130, rfl, N146, K147, z_b140, z_b130, f148, p146_0, p146_1, f149, f150⟩
theorem ef_rm_join10 (m : MethodId) (ob : Addr) (s_OWN : Addr) : entryFrame m #[(.ref ob), (.ref s_OWN)] 4 = mkF m 0 #[.val (.ref ob), .val (.ref s_OWN), .unset, .unset] [] := by first | (simp [entryFrame, mkF, argsToLocals, Value.category]; done) | rfl
set_option maxRecDepth 65536 in
set_option maxHeartbeats 40000000 in
theorem rm_join10 {l : Launch} {Z : State} {a0 : Array Value} (hw : ∀ d ∈ tables_1, d.before a0 Z = true) (s_OWN : Addr) (s_OWN_runners : Addr) (s_OWN_CONTENDED : Addr) (S_OWN : Sta Z Z.heap "com/example/mailroom/mailroom/engine/Timeline$Race" "OWN" "Lcom/example/mailroom/mailroom/engine/Timeline$Race;" (.ref s_OWN)) (E_s_OWN : Exa Z Z.heap s_OWN "com/example/mailroom/mailroom/engine/Timeline$Race") (F_s_OWN_contends : Fld Z Z.heap s_OWN "com/example/mailroom/mailroom/engine/Timeline$Race" "contends" "Z" (.int (0 : Int32))) (F_s_OWN_runners : Fld Z Z.heap s_OWN "com/example/mailroom/mailroom/engine/Timeline$Race" "runners" "Ljava/util/BitSet;" (.ref s_OWN_runners)) (E_s_OWN_runners : Exa Z Z.heap s_OWN_runners "java/util/BitSet") (F_s_OWN_runners_wordsInUse : Fld Z Z.heap s_OWN_runners "java/util/BitSet" "wordsInUse" "I" (.int (0 : Int32))) (S_OWN_CONTENDED : Sta Z Z.heap "com/example/mailroom/mailroom/engine/Timeline$Race" "OWN_CONTENDED" "Lcom/example/mailroom/mailroom/engine/Timeline$Race;" (.ref s_OWN_CONTENDED)) (E_s_OWN_CONTENDED : Exa Z Z.heap s_OWN_CONTENDED "com/example/mailroom/mailroom/engine/Timeline$Race") (F_s_OWN_CONTENDED_contends : Fld Z Z.heap s_OWN_CONTENDED "com/example/mailroom/mailroom/engine/Timeline$Race" "contends" "Z" (.int (1 : Int32))) (F_s_OWN_CONTENDED_runners : Fld Z Z.heap s_OWN_CONTENDED "com/example/mailroom/mailroom/engine/Timeline$Race" "runners" "Ljava/util/BitSet;" (.ref s_OWN_runners)) (S__assertionsDisabled : Sta Z Z.heap "java/util/BitSet" "$assertionsDisabled" "Z" (.int (1 : Int32))) (ob : Addr) (bs : Addr) (h0 : Heap) (O0 : Ext Z.heap h0) (prem0 : Fld Z h0 ob "com/example/mailroom/mailroom/engine/Timeline$Race" "contends" "Z" (.int (1 : Int32))) (prem1 : Fld Z h0 ob "com/example/mailroom/mailroom/engine/Timeline$Race" "runners" "Ljava/util/BitSet;" (.ref bs)) (prem2 : Exa Z h0 bs "java/util/BitSet") (prem3 : Fld Z h0 bs "java/util/BitSet" "wordsInUse" "I" (.int (1 : Int32))) :
    Ok l Z (⟨"com/example/mailroom/mailroom/engine/Timeline$Race", "join", "(Lcom/example/mailroom/mailroom/engine/Timeline$Race;Lcom/example/mailroom/mailroom/engine/Timeline$Race;)Lcom/example/mailroom/mailroom/engine/Timeline$Race;"⟩ : MethodName) prog_120_method_4_code 4 (some (.object "com/example/mailroom/mailroom/engine/Timeline$Race")) ({ frames := 1, cells := 0, slots := 0, locals := 12 } : Room) #[(.ref ob), (.ref s_OWN)] h0
      (fun v h L => v = some (.ref s_OWN_CONTENDED) ∧ (h = h0) ∧ (L = [])) := by
  refine Ok.mk pn_com_example_mailroom_mailroom_engine_Timeline_Race_join__Lcom_example_mailroom_mailroom_engine_Timeline_Race_Lcom_example_mailroom_mailroom_engine_Timeline_Race__Lcom_example_mailroom_mailroom_engine_Timeline_Race_ ?_
  intro p e s m below meth c T0 hx hby hml hown hnm hret hlk hZ e0 X0
  refine Go.cast (ef_rm_join10 m ob s_OWN) ?_
  have N0 := Fr.nil Z.heap.size
  have K0 : Keep h0 h0 [] := Keep.refl _ _
  refine Go.of (T' := T0) (f' := (mkF m 1 #[.val (.ref ob), .val (.ref s_OWN), .unset, .unset] [(.ref ob)])) (fun _ k => XS.aloadN X0.here hx rfl (hb hby d_prog_120_method_4_code_0) rfl rfl k) ?_
  obtain ⟨T151, X151, e151, st151⟩ := getF X0 hx hZ hown (host := "") (Or.inl (hw _ (List.mem_of_getElem? (i := 11) rfl))) Via.refl e0 prem0 (g := (mkF m 1 #[.val (.ref ob), .val (.ref s_OWN), .unset, .unset] [(.ref ob)])) rfl rfl (hb hby d_prog_120_method_4_code_1)
  refine Go.of (T' := T151) (f' := (mkF m 4 #[.val (.ref ob), .val (.ref s_OWN), .unset, .unset] [(.int (1 : Int32))])) (fun _ k => st151 _ k) ?_
  refine Go.of (T' := T151) (f' := (mkF m 14 #[.val (.ref ob), .val (.ref s_OWN), .unset, .unset] [])) (fun _ k => XS.ifYes X151.here hx rfl (pc0 := 4) (pc' := 14) rfl (hb hby d_prog_120_method_4_code_4) rfl ((if0 _ _).trans (feq (by decide : ¬ ((1 : Int32) = (0 : Int32)))).2) (by decide) (by decide) k) ?_
  refine Go.of (T' := T151) (f' := (mkF m 15 #[.val (.ref ob), .val (.ref s_OWN), .unset, .unset] [(.int (1 : Int32))])) (fun _ k => XS.iconst X151.here hx rfl (hb hby d_prog_120_method_4_code_14) k) ?_
  refine Go.of (T' := T151) (f' := (mkF m 19 #[.val (.ref ob), .val (.ref s_OWN), .unset, .unset] [(.int (1 : Int32))])) (fun _ k => XS.goto X151.here hx rfl (pc0 := 15) (pc' := 19) rfl (hb hby d_prog_120_method_4_code_15) (by decide) (by decide) k) ?_
  refine Go.of (T' := T151) (f' := (mkF m 20 #[.val (.ref ob), .val (.ref s_OWN), .val (.int (1 : Int32)), .unset] [])) (fun _ k => XS.istoreN X151.here hx rfl (hb hby d_prog_120_method_4_code_19) rfl (l' := #[.val (.ref ob), .val (.ref s_OWN), .val (.int (1 : Int32)), .unset]) rfl k) ?_
  refine Go.of (T' := T151) (f' := (mkF m 21 #[.val (.ref ob), .val (.ref s_OWN), .val (.int (1 : Int32)), .unset] [(.ref ob)])) (fun _ k => XS.aloadN X151.here hx rfl (hb hby d_prog_120_method_4_code_20) rfl rfl k) ?_
  obtain ⟨T153, X153, e153, st153⟩ := getF X151 hx hZ hown (host := "") (Or.inl (hw _ (List.mem_of_getElem? (i := 18) rfl))) Via.refl e151 prem1 (g := (mkF m 21 #[.val (.ref ob), .val (.ref s_OWN), .val (.int (1 : Int32)), .unset] [(.ref ob)])) rfl rfl (hb hby d_prog_120_method_4_code_21)
  refine Go.of (T' := T153) (f' := (mkF m 24 #[.val (.ref ob), .val (.ref s_OWN), .val (.int (1 : Int32)), .unset] [(.ref bs)])) (fun _ k => st153 _ k) ?_
  obtain ⟨T154, v154, L154, X154, q154, st154⟩ := callVi X153 hx hZ (y := (⟨"java/util/BitSet", "isEmpty", "()Z"⟩ : MethodName)) (z := (⟨"java/util/BitSet", "isEmpty", "()Z"⟩ : MethodName)) hown (hw _ (List.mem_of_getElem? (i := 87) rfl)) (hw _ (List.mem_of_getElem? (i := 21) rfl)) (notFace_of_selects (args := #[]) (mvT hZ (hw _ (List.mem_of_getElem? (i := 23) rfl)))) (hw _ (List.mem_of_getElem? (i := 23) rfl)) (hw _ (List.mem_of_getElem? (i := 22) rfl)) (hw _ (List.mem_of_getElem? (i := 25) rfl)) (hw _ (List.mem_of_getElem? (i := 24) rfl)) (by decide) (rm_empty0 hw s_OWN s_OWN_runners s_OWN_CONTENDED S_OWN E_s_OWN F_s_OWN_contends F_s_OWN_runners E_s_OWN_runners F_s_OWN_runners_wordsInUse S_OWN_CONTENDED E_s_OWN_CONTENDED F_s_OWN_CONTENDED_contends F_s_OWN_CONTENDED_runners S__assertionsDisabled bs  h0 O0 prem3) e153 (W := 0) (by decide) (by decide) (by decide) (by decide) prem2 (g := (mkF m 24 #[.val (.ref ob), .val (.ref s_OWN), .val (.int (1 : Int32)), .unset] [(.ref bs)])) rfl (by rw [hml]; rfl) (argsL := []) (rest := []) (lenOf pd___Z rfl) rfl rfl (by show 2 * 0 + _ ≤ _; exact Nat.le_of_eq rfl) (hb hby d_prog_120_method_4_code_24)
  obtain ⟨rfl, e154, rfl⟩ := q154
  have N154 := Fr.app N0 (Fr.nil _)
  refine Go.of (T' := T154) (f' := (mkF m 27 #[.val (.ref ob), .val (.ref s_OWN), .val (.int (1 : Int32)), .unset] [(.int (0 : Int32))])) (fun _ k => st154 _ k) ?_
  refine Go.of (T' := T154) (f' := (mkF m 30 #[.val (.ref ob), .val (.ref s_OWN), .val (.int (1 : Int32)), .unset] [])) (fun _ k => XS.ifNo X154.here hx rfl (hb hby d_prog_120_method_4_code_27) rfl ((if0 _ _).trans (teq (by decide : (0 : Int32) = (0 : Int32))).2) k) ?_
  refine Go.of (T' := T154) (f' := (mkF m 31 #[.val (.ref ob), .val (.ref s_OWN), .val (.int (1 : Int32)), .unset] [(.ref s_OWN)])) (fun _ k => XS.aloadN X154.here hx rfl (hb hby d_prog_120_method_4_code_30) rfl rfl k) ?_
  obtain ⟨T156, X156, e156, st156⟩ := getF X154 hx hZ hown (host := "") (Or.inl (hw _ (List.mem_of_getElem? (i := 18) rfl))) Via.refl e154 (Fld.ext O0 F_s_OWN_runners) (g := (mkF m 31 #[.val (.ref ob), .val (.ref s_OWN), .val (.int (1 : Int32)), .unset] [(.ref s_OWN)])) rfl rfl (hb hby d_prog_120_method_4_code_31)
  refine Go.of (T' := T156) (f' := (mkF m 34 #[.val (.ref ob), .val (.ref s_OWN), .val (.int (1 : Int32)), .unset] [(.ref s_OWN_runners)])) (fun _ k => st156 _ k) ?_
  obtain ⟨T157, v157, L157, X157, q157, st157⟩ := callVi X156 hx hZ (y := (⟨"java/util/BitSet", "isEmpty", "()Z"⟩ : MethodName)) (z := (⟨"java/util/BitSet", "isEmpty", "()Z"⟩ : MethodName)) hown (hw _ (List.mem_of_getElem? (i := 87) rfl)) (hw _ (List.mem_of_getElem? (i := 21) rfl)) (notFace_of_selects (args := #[]) (mvT hZ (hw _ (List.mem_of_getElem? (i := 23) rfl)))) (hw _ (List.mem_of_getElem? (i := 23) rfl)) (hw _ (List.mem_of_getElem? (i := 22) rfl)) (hw _ (List.mem_of_getElem? (i := 25) rfl)) (hw _ (List.mem_of_getElem? (i := 24) rfl)) (by decide) (rm_empty1 hw s_OWN s_OWN_runners s_OWN_CONTENDED S_OWN E_s_OWN F_s_OWN_contends F_s_OWN_runners E_s_OWN_runners F_s_OWN_runners_wordsInUse S_OWN_CONTENDED E_s_OWN_CONTENDED F_s_OWN_CONTENDED_contends F_s_OWN_CONTENDED_runners S__assertionsDisabled s_OWN_runners  h0 O0 (Fld.ext O0 F_s_OWN_runners_wordsInUse)) e156 (W := 0) (by decide) (by decide) (by decide) (by decide) (Exa.ext O0 E_s_OWN_runners) (g := (mkF m 34 #[.val (.ref ob), .val (.ref s_OWN), .val (.int (1 : Int32)), .unset] [(.ref s_OWN_runners)])) rfl (by rw [hml]; rfl) (argsL := []) (rest := []) (lenOf pd___Z rfl) rfl rfl (by show 2 * 0 + _ ≤ _; exact Nat.le_of_eq rfl) (hb hby d_prog_120_method_4_code_34)
  obtain ⟨rfl, e157, rfl⟩ := q157
  have N157 := Fr.app N154 (Fr.nil _)
  refine Go.of (T' := T157) (f' := (mkF m 37 #[.val (.ref ob), .val (.ref s_OWN), .val (.int (1 : Int32)), .unset] [(.int (1 : Int32))])) (fun _ k => st157 _ k) ?_
  refine Go.of (T' := T157) (f' := (mkF m 40 #[.val (.ref ob), .val (.ref s_OWN), .val (.int (1 : Int32)), .unset] [])) (fun _ k => XS.ifNo X157.here hx rfl (hb hby d_prog_120_method_4_code_37) rfl ((if0 _ _).trans (feq (by decide : ¬ ((1 : Int32) = (0 : Int32)))).1) k) ?_
  refine Go.of (T' := T157) (f' := (mkF m 41 #[.val (.ref ob), .val (.ref s_OWN), .val (.int (1 : Int32)), .unset] [(.int (1 : Int32))])) (fun _ k => XS.iloadN X157.here hx rfl (hb hby d_prog_120_method_4_code_40) rfl k) ?_
  obtain ⟨T159, v159, L159, X159, q159, st159⟩ := callSt X157 hx hZ (y := (⟨"com/example/mailroom/mailroom/engine/Timeline$Race", "own", "(Z)Lcom/example/mailroom/mailroom/engine/Timeline$Race;"⟩ : MethodName)) hown (hw _ (List.mem_of_getElem? (i := 88) rfl)) (hw _ (List.mem_of_getElem? (i := 1) rfl)) (hw _ (List.mem_of_getElem? (i := 2) rfl)) (hw _ (List.mem_of_getElem? (i := 3) rfl)) (by decide) (rm_own1 hw s_OWN s_OWN_runners s_OWN_CONTENDED S_OWN E_s_OWN F_s_OWN_contends F_s_OWN_runners E_s_OWN_runners F_s_OWN_runners_wordsInUse S_OWN_CONTENDED E_s_OWN_CONTENDED F_s_OWN_CONTENDED_contends F_s_OWN_CONTENDED_runners S__assertionsDisabled   h0 O0 ) e157 (W := 0) (by decide) (by decide) (by decide) (by decide) (g := (mkF m 41 #[.val (.ref ob), .val (.ref s_OWN), .val (.int (1 : Int32)), .unset] [(.int (1 : Int32))])) rfl (by rw [hml]; rfl) (argsL := [(.int (1 : Int32))]) (rest := []) (lenOf pd__Z_Lcom_example_mailroom_mailroom_engine_Timeline_Race_ rfl) rfl rfl (by show 2 * 0 + _ ≤ _; exact Nat.le_of_eq rfl) (hb hby d_prog_120_method_4_code_41)
  obtain ⟨rfl, e159, rfl⟩ := q159
  have N159 := Fr.app N157 (Fr.nil _)
  refine Go.of (T' := T159) (f' := (mkF m 44 #[.val (.ref ob), .val (.ref s_OWN), .val (.int (1 : Int32)), .unset] [(.ref s_OWN_CONTENDED)])) (fun _ k => st159 _ k) ?_
  exact Go.retA X159 hx hlk hret rfl rfl (hb hby d_prog_120_method_4_code_44) (by decide) (by decide) (by rw [e159]; exact ⟨rfl, rfl, by simp⟩)
theorem ef_rm_join11 (m : MethodId) (ob : Addr) (s_OWN_CONTENDED : Addr) : entryFrame m #[(.ref ob), (.ref s_OWN_CONTENDED)] 4 = mkF m 0 #[.val (.ref ob), .val (.ref s_OWN_CONTENDED), .unset, .unset] [] := by first | (simp [entryFrame, mkF, argsToLocals, Value.category]; done) | rfl
set_option maxRecDepth 65536 in
set_option maxHeartbeats 40000000 in
theorem rm_join11 {l : Launch} {Z : State} {a0 : Array Value} (hw : ∀ d ∈ tables_1, d.before a0 Z = true) (s_OWN : Addr) (s_OWN_runners : Addr) (s_OWN_CONTENDED : Addr) (S_OWN : Sta Z Z.heap "com/example/mailroom/mailroom/engine/Timeline$Race" "OWN" "Lcom/example/mailroom/mailroom/engine/Timeline$Race;" (.ref s_OWN)) (E_s_OWN : Exa Z Z.heap s_OWN "com/example/mailroom/mailroom/engine/Timeline$Race") (F_s_OWN_contends : Fld Z Z.heap s_OWN "com/example/mailroom/mailroom/engine/Timeline$Race" "contends" "Z" (.int (0 : Int32))) (F_s_OWN_runners : Fld Z Z.heap s_OWN "com/example/mailroom/mailroom/engine/Timeline$Race" "runners" "Ljava/util/BitSet;" (.ref s_OWN_runners)) (E_s_OWN_runners : Exa Z Z.heap s_OWN_runners "java/util/BitSet") (F_s_OWN_runners_wordsInUse : Fld Z Z.heap s_OWN_runners "java/util/BitSet" "wordsInUse" "I" (.int (0 : Int32))) (S_OWN_CONTENDED : Sta Z Z.heap "com/example/mailroom/mailroom/engine/Timeline$Race" "OWN_CONTENDED" "Lcom/example/mailroom/mailroom/engine/Timeline$Race;" (.ref s_OWN_CONTENDED)) (E_s_OWN_CONTENDED : Exa Z Z.heap s_OWN_CONTENDED "com/example/mailroom/mailroom/engine/Timeline$Race") (F_s_OWN_CONTENDED_contends : Fld Z Z.heap s_OWN_CONTENDED "com/example/mailroom/mailroom/engine/Timeline$Race" "contends" "Z" (.int (1 : Int32))) (F_s_OWN_CONTENDED_runners : Fld Z Z.heap s_OWN_CONTENDED "com/example/mailroom/mailroom/engine/Timeline$Race" "runners" "Ljava/util/BitSet;" (.ref s_OWN_runners)) (S__assertionsDisabled : Sta Z Z.heap "java/util/BitSet" "$assertionsDisabled" "Z" (.int (1 : Int32))) (ob : Addr) (bs : Addr) (h0 : Heap) (O0 : Ext Z.heap h0) (prem0 : Fld Z h0 ob "com/example/mailroom/mailroom/engine/Timeline$Race" "contends" "Z" (.int (1 : Int32))) (prem1 : Fld Z h0 ob "com/example/mailroom/mailroom/engine/Timeline$Race" "runners" "Ljava/util/BitSet;" (.ref bs)) (prem2 : Exa Z h0 bs "java/util/BitSet") (prem3 : Fld Z h0 bs "java/util/BitSet" "wordsInUse" "I" (.int (1 : Int32))) :
    Ok l Z (⟨"com/example/mailroom/mailroom/engine/Timeline$Race", "join", "(Lcom/example/mailroom/mailroom/engine/Timeline$Race;Lcom/example/mailroom/mailroom/engine/Timeline$Race;)Lcom/example/mailroom/mailroom/engine/Timeline$Race;"⟩ : MethodName) prog_120_method_4_code 4 (some (.object "com/example/mailroom/mailroom/engine/Timeline$Race")) ({ frames := 1, cells := 0, slots := 0, locals := 12 } : Room) #[(.ref ob), (.ref s_OWN_CONTENDED)] h0
      (fun v h L => v = some (.ref s_OWN_CONTENDED) ∧ (h = h0) ∧ (L = [])) := by
  refine Ok.mk pn_com_example_mailroom_mailroom_engine_Timeline_Race_join__Lcom_example_mailroom_mailroom_engine_Timeline_Race_Lcom_example_mailroom_mailroom_engine_Timeline_Race__Lcom_example_mailroom_mailroom_engine_Timeline_Race_ ?_
  intro p e s m below meth c T0 hx hby hml hown hnm hret hlk hZ e0 X0
  refine Go.cast (ef_rm_join11 m ob s_OWN_CONTENDED) ?_
  have N0 := Fr.nil Z.heap.size
  have K0 : Keep h0 h0 [] := Keep.refl _ _
  refine Go.of (T' := T0) (f' := (mkF m 1 #[.val (.ref ob), .val (.ref s_OWN_CONTENDED), .unset, .unset] [(.ref ob)])) (fun _ k => XS.aloadN X0.here hx rfl (hb hby d_prog_120_method_4_code_0) rfl rfl k) ?_
  obtain ⟨T160, X160, e160, st160⟩ := getF X0 hx hZ hown (host := "") (Or.inl (hw _ (List.mem_of_getElem? (i := 11) rfl))) Via.refl e0 prem0 (g := (mkF m 1 #[.val (.ref ob), .val (.ref s_OWN_CONTENDED), .unset, .unset] [(.ref ob)])) rfl rfl (hb hby d_prog_120_method_4_code_1)
  refine Go.of (T' := T160) (f' := (mkF m 4 #[.val (.ref ob), .val (.ref s_OWN_CONTENDED), .unset, .unset] [(.int (1 : Int32))])) (fun _ k => st160 _ k) ?_
  refine Go.of (T' := T160) (f' := (mkF m 14 #[.val (.ref ob), .val (.ref s_OWN_CONTENDED), .unset, .unset] [])) (fun _ k => XS.ifYes X160.here hx rfl (pc0 := 4) (pc' := 14) rfl (hb hby d_prog_120_method_4_code_4) rfl ((if0 _ _).trans (feq (by decide : ¬ ((1 : Int32) = (0 : Int32)))).2) (by decide) (by decide) k) ?_
  refine Go.of (T' := T160) (f' := (mkF m 15 #[.val (.ref ob), .val (.ref s_OWN_CONTENDED), .unset, .unset] [(.int (1 : Int32))])) (fun _ k => XS.iconst X160.here hx rfl (hb hby d_prog_120_method_4_code_14) k) ?_
  refine Go.of (T' := T160) (f' := (mkF m 19 #[.val (.ref ob), .val (.ref s_OWN_CONTENDED), .unset, .unset] [(.int (1 : Int32))])) (fun _ k => XS.goto X160.here hx rfl (pc0 := 15) (pc' := 19) rfl (hb hby d_prog_120_method_4_code_15) (by decide) (by decide) k) ?_
  refine Go.of (T' := T160) (f' := (mkF m 20 #[.val (.ref ob), .val (.ref s_OWN_CONTENDED), .val (.int (1 : Int32)), .unset] [])) (fun _ k => XS.istoreN X160.here hx rfl (hb hby d_prog_120_method_4_code_19) rfl (l' := #[.val (.ref ob), .val (.ref s_OWN_CONTENDED), .val (.int (1 : Int32)), .unset]) rfl k) ?_
  refine Go.of (T' := T160) (f' := (mkF m 21 #[.val (.ref ob), .val (.ref s_OWN_CONTENDED), .val (.int (1 : Int32)), .unset] [(.ref ob)])) (fun _ k => XS.aloadN X160.here hx rfl (hb hby d_prog_120_method_4_code_20) rfl rfl k) ?_
  obtain ⟨T162, X162, e162, st162⟩ := getF X160 hx hZ hown (host := "") (Or.inl (hw _ (List.mem_of_getElem? (i := 18) rfl))) Via.refl e160 prem1 (g := (mkF m 21 #[.val (.ref ob), .val (.ref s_OWN_CONTENDED), .val (.int (1 : Int32)), .unset] [(.ref ob)])) rfl rfl (hb hby d_prog_120_method_4_code_21)
  refine Go.of (T' := T162) (f' := (mkF m 24 #[.val (.ref ob), .val (.ref s_OWN_CONTENDED), .val (.int (1 : Int32)), .unset] [(.ref bs)])) (fun _ k => st162 _ k) ?_
  obtain ⟨T163, v163, L163, X163, q163, st163⟩ := callVi X162 hx hZ (y := (⟨"java/util/BitSet", "isEmpty", "()Z"⟩ : MethodName)) (z := (⟨"java/util/BitSet", "isEmpty", "()Z"⟩ : MethodName)) hown (hw _ (List.mem_of_getElem? (i := 87) rfl)) (hw _ (List.mem_of_getElem? (i := 21) rfl)) (notFace_of_selects (args := #[]) (mvT hZ (hw _ (List.mem_of_getElem? (i := 23) rfl)))) (hw _ (List.mem_of_getElem? (i := 23) rfl)) (hw _ (List.mem_of_getElem? (i := 22) rfl)) (hw _ (List.mem_of_getElem? (i := 25) rfl)) (hw _ (List.mem_of_getElem? (i := 24) rfl)) (by decide) (rm_empty0 hw s_OWN s_OWN_runners s_OWN_CONTENDED S_OWN E_s_OWN F_s_OWN_contends F_s_OWN_runners E_s_OWN_runners F_s_OWN_runners_wordsInUse S_OWN_CONTENDED E_s_OWN_CONTENDED F_s_OWN_CONTENDED_contends F_s_OWN_CONTENDED_runners S__assertionsDisabled bs  h0 O0 prem3) e162 (W := 0) (by decide) (by decide) (by decide) (by decide) prem2 (g := (mkF m 24 #[.val (.ref ob), .val (.ref s_OWN_CONTENDED), .val (.int (1 : Int32)), .unset] [(.ref bs)])) rfl (by rw [hml]; rfl) (argsL := []) (rest := []) (lenOf pd___Z rfl) rfl rfl (by show 2 * 0 + _ ≤ _; exact Nat.le_of_eq rfl) (hb hby d_prog_120_method_4_code_24)
  obtain ⟨rfl, e163, rfl⟩ := q163
  have N163 := Fr.app N0 (Fr.nil _)
  refine Go.of (T' := T163) (f' := (mkF m 27 #[.val (.ref ob), .val (.ref s_OWN_CONTENDED), .val (.int (1 : Int32)), .unset] [(.int (0 : Int32))])) (fun _ k => st163 _ k) ?_
  refine Go.of (T' := T163) (f' := (mkF m 30 #[.val (.ref ob), .val (.ref s_OWN_CONTENDED), .val (.int (1 : Int32)), .unset] [])) (fun _ k => XS.ifNo X163.here hx rfl (hb hby d_prog_120_method_4_code_27) rfl ((if0 _ _).trans (teq (by decide : (0 : Int32) = (0 : Int32))).2) k) ?_
  refine Go.of (T' := T163) (f' := (mkF m 31 #[.val (.ref ob), .val (.ref s_OWN_CONTENDED), .val (.int (1 : Int32)), .unset] [(.ref s_OWN_CONTENDED)])) (fun _ k => XS.aloadN X163.here hx rfl (hb hby d_prog_120_method_4_code_30) rfl rfl k) ?_
  obtain ⟨T165, X165, e165, st165⟩ := getF X163 hx hZ hown (host := "") (Or.inl (hw _ (List.mem_of_getElem? (i := 18) rfl))) Via.refl e163 (Fld.ext O0 F_s_OWN_CONTENDED_runners) (g := (mkF m 31 #[.val (.ref ob), .val (.ref s_OWN_CONTENDED), .val (.int (1 : Int32)), .unset] [(.ref s_OWN_CONTENDED)])) rfl rfl (hb hby d_prog_120_method_4_code_31)
  refine Go.of (T' := T165) (f' := (mkF m 34 #[.val (.ref ob), .val (.ref s_OWN_CONTENDED), .val (.int (1 : Int32)), .unset] [(.ref s_OWN_runners)])) (fun _ k => st165 _ k) ?_
  obtain ⟨T166, v166, L166, X166, q166, st166⟩ := callVi X165 hx hZ (y := (⟨"java/util/BitSet", "isEmpty", "()Z"⟩ : MethodName)) (z := (⟨"java/util/BitSet", "isEmpty", "()Z"⟩ : MethodName)) hown (hw _ (List.mem_of_getElem? (i := 87) rfl)) (hw _ (List.mem_of_getElem? (i := 21) rfl)) (notFace_of_selects (args := #[]) (mvT hZ (hw _ (List.mem_of_getElem? (i := 23) rfl)))) (hw _ (List.mem_of_getElem? (i := 23) rfl)) (hw _ (List.mem_of_getElem? (i := 22) rfl)) (hw _ (List.mem_of_getElem? (i := 25) rfl)) (hw _ (List.mem_of_getElem? (i := 24) rfl)) (by decide) (rm_empty1 hw s_OWN s_OWN_runners s_OWN_CONTENDED S_OWN E_s_OWN F_s_OWN_contends F_s_OWN_runners E_s_OWN_runners F_s_OWN_runners_wordsInUse S_OWN_CONTENDED E_s_OWN_CONTENDED F_s_OWN_CONTENDED_contends F_s_OWN_CONTENDED_runners S__assertionsDisabled s_OWN_runners  h0 O0 (Fld.ext O0 F_s_OWN_runners_wordsInUse)) e165 (W := 0) (by decide) (by decide) (by decide) (by decide) (Exa.ext O0 E_s_OWN_runners) (g := (mkF m 34 #[.val (.ref ob), .val (.ref s_OWN_CONTENDED), .val (.int (1 : Int32)), .unset] [(.ref s_OWN_runners)])) rfl (by rw [hml]; rfl) (argsL := []) (rest := []) (lenOf pd___Z rfl) rfl rfl (by show 2 * 0 + _ ≤ _; exact Nat.le_of_eq rfl) (hb hby d_prog_120_method_4_code_34)
  obtain ⟨rfl, e166, rfl⟩ := q166
  have N166 := Fr.app N163 (Fr.nil _)
  refine Go.of (T' := T166) (f' := (mkF m 37 #[.val (.ref ob), .val (.ref s_OWN_CONTENDED), .val (.int (1 : Int32)), .unset] [(.int (1 : Int32))])) (fun _ k => st166 _ k) ?_
  refine Go.of (T' := T166) (f' := (mkF m 40 #[.val (.ref ob), .val (.ref s_OWN_CONTENDED), .val (.int (1 : Int32)), .unset] [])) (fun _ k => XS.ifNo X166.here hx rfl (hb hby d_prog_120_method_4_code_37) rfl ((if0 _ _).trans (feq (by decide : ¬ ((1 : Int32) = (0 : Int32)))).1) k) ?_
  refine Go.of (T' := T166) (f' := (mkF m 41 #[.val (.ref ob), .val (.ref s_OWN_CONTENDED), .val (.int (1 : Int32)), .unset] [(.int (1 : Int32))])) (fun _ k => XS.iloadN X166.here hx rfl (hb hby d_prog_120_method_4_code_40) rfl k) ?_
  obtain ⟨T168, v168, L168, X168, q168, st168⟩ := callSt X166 hx hZ (y := (⟨"com/example/mailroom/mailroom/engine/Timeline$Race", "own", "(Z)Lcom/example/mailroom/mailroom/engine/Timeline$Race;"⟩ : MethodName)) hown (hw _ (List.mem_of_getElem? (i := 88) rfl)) (hw _ (List.mem_of_getElem? (i := 1) rfl)) (hw _ (List.mem_of_getElem? (i := 2) rfl)) (hw _ (List.mem_of_getElem? (i := 3) rfl)) (by decide) (rm_own1 hw s_OWN s_OWN_runners s_OWN_CONTENDED S_OWN E_s_OWN F_s_OWN_contends F_s_OWN_runners E_s_OWN_runners F_s_OWN_runners_wordsInUse S_OWN_CONTENDED E_s_OWN_CONTENDED F_s_OWN_CONTENDED_contends F_s_OWN_CONTENDED_runners S__assertionsDisabled   h0 O0 ) e166 (W := 0) (by decide) (by decide) (by decide) (by decide) (g := (mkF m 41 #[.val (.ref ob), .val (.ref s_OWN_CONTENDED), .val (.int (1 : Int32)), .unset] [(.int (1 : Int32))])) rfl (by rw [hml]; rfl) (argsL := [(.int (1 : Int32))]) (rest := []) (lenOf pd__Z_Lcom_example_mailroom_mailroom_engine_Timeline_Race_ rfl) rfl rfl (by show 2 * 0 + _ ≤ _; exact Nat.le_of_eq rfl) (hb hby d_prog_120_method_4_code_41)
  obtain ⟨rfl, e168, rfl⟩ := q168
  have N168 := Fr.app N166 (Fr.nil _)
  refine Go.of (T' := T168) (f' := (mkF m 44 #[.val (.ref ob), .val (.ref s_OWN_CONTENDED), .val (.int (1 : Int32)), .unset] [(.ref s_OWN_CONTENDED)])) (fun _ k => st168 _ k) ?_
  exact Go.retA X168 hx hlk hret rfl rfl (hb hby d_prog_120_method_4_code_44) (by decide) (by decide) (by rw [e168]; exact ⟨rfl, rfl, by simp⟩)
theorem own_k (c : Int32) : (c &&& 63) >>> ((6 : Int32) &&& 31) = 0 ∧ ¬ (c &&& 63) < 0 := by
  have h1 := c_mask c 63 6 (by decide) (by decide)
  generalize c &&& 63 = y at *
  have h2 := c_ishr y 6 6 (by decide)
  have h0 : 0 ≤ y.toInt ∧ y.toInt < 64 := by omega
  refine ⟨?_, ?_⟩
  · rw [← Int32.toInt_inj, h2]
    show y.toInt / 64 = 0
    omega
  · rw [Int32.lt_iff_toInt_lt]
    show ¬ y.toInt < 0
    omega
theorem pd___Ljava_util_BitSet_ : parseMethodDescriptor "()Ljava/util/BitSet;" = some ⟨[], some (.object "java/util/BitSet")⟩ := by decide +kernel
theorem pd__IZ_Lcom_example_mailroom_mailroom_engine_Timeline_Race_ : parseMethodDescriptor "(IZ)Lcom/example/mailroom/mailroom/engine/Timeline$Race;" = some ⟨[.int, .boolean], some (.object "com/example/mailroom/mailroom/engine/Timeline$Race")⟩ := by decide +kernel
theorem pd__Lcom_example_mailroom_mailroom_engine_Timeline_Race_Lcom_example_mailroom_mailroom_engine_Timeline_Race__Lcom_example_mailroom_mailroom_engine_Timeline_Race_ : parseMethodDescriptor "(Lcom/example/mailroom/mailroom/engine/Timeline$Race;Lcom/example/mailroom/mailroom/engine/Timeline$Race;)Lcom/example/mailroom/mailroom/engine/Timeline$Race;" = some ⟨[(.object "com/example/mailroom/mailroom/engine/Timeline$Race"), (.object "com/example/mailroom/mailroom/engine/Timeline$Race")], some (.object "com/example/mailroom/mailroom/engine/Timeline$Race")⟩ := by decide +kernel
theorem ef_rm_law (m : MethodId) (p0 : Int32) (p1 : Int32) (p2 : Int32) : entryFrame m #[(.int p0), (.int p1), (.int p2)] maxLocals = mkF m 0 #[.val (.int p0), .val (.int p1), .val (.int p2), .unset, .unset, .unset, .unset, .unset] [] := by first | (simp [entryFrame, mkF, argsToLocals, Value.category, maxLocals]; done) | rfl
theorem pn_com_example_mailroom_mailroom_engine_TimelineOwnPinLaw_law__III_Z : plainFor (⟨"com/example/mailroom/mailroom/engine/TimelineOwnPinLaw", "law", "(III)Z"⟩ : MethodName) = true := by first | exact plainFor_of_name (by first | (simp [plainName, overriddenIn]; done) | decide +kernel) | decide +kernel
set_option maxRecDepth 65536 in
set_option maxHeartbeats 40000000 in
theorem rm_law {l : Launch} {Z : State} {a0 : Array Value} (hw : ∀ d ∈ tables_1, d.before a0 Z = true) (s_OWN : Addr) (s_OWN_runners : Addr) (s_OWN_CONTENDED : Addr) (S_OWN : Sta Z Z.heap "com/example/mailroom/mailroom/engine/Timeline$Race" "OWN" "Lcom/example/mailroom/mailroom/engine/Timeline$Race;" (.ref s_OWN)) (E_s_OWN : Exa Z Z.heap s_OWN "com/example/mailroom/mailroom/engine/Timeline$Race") (F_s_OWN_contends : Fld Z Z.heap s_OWN "com/example/mailroom/mailroom/engine/Timeline$Race" "contends" "Z" (.int (0 : Int32))) (F_s_OWN_runners : Fld Z Z.heap s_OWN "com/example/mailroom/mailroom/engine/Timeline$Race" "runners" "Ljava/util/BitSet;" (.ref s_OWN_runners)) (E_s_OWN_runners : Exa Z Z.heap s_OWN_runners "java/util/BitSet") (F_s_OWN_runners_wordsInUse : Fld Z Z.heap s_OWN_runners "java/util/BitSet" "wordsInUse" "I" (.int (0 : Int32))) (S_OWN_CONTENDED : Sta Z Z.heap "com/example/mailroom/mailroom/engine/Timeline$Race" "OWN_CONTENDED" "Lcom/example/mailroom/mailroom/engine/Timeline$Race;" (.ref s_OWN_CONTENDED)) (E_s_OWN_CONTENDED : Exa Z Z.heap s_OWN_CONTENDED "com/example/mailroom/mailroom/engine/Timeline$Race") (F_s_OWN_CONTENDED_contends : Fld Z Z.heap s_OWN_CONTENDED "com/example/mailroom/mailroom/engine/Timeline$Race" "contends" "Z" (.int (1 : Int32))) (F_s_OWN_CONTENDED_runners : Fld Z Z.heap s_OWN_CONTENDED "com/example/mailroom/mailroom/engine/Timeline$Race" "runners" "Ljava/util/BitSet;" (.ref s_OWN_runners)) (S__assertionsDisabled : Sta Z Z.heap "java/util/BitSet" "$assertionsDisabled" "Z" (.int (1 : Int32))) (p0 : Int32) (p1 : Int32) (p2 : Int32)  (h0 : Heap) (O0 : Ext Z.heap h0)  :
    Ok l Z x code maxLocals ret room_1 #[(.int p0), (.int p1), (.int p2)] h0
      (fun v h L => v = some (.int (1 : Int32)) ∧ (Fr Z.heap.size L) ∧ (Keep h0 h [])) := by
  refine Ok.mk pn_com_example_mailroom_mailroom_engine_TimelineOwnPinLaw_law__III_Z ?_
  intro p e s m below meth c T0 hx hby hml hown hnm hret hlk hZ e0 X0
  have hml : c.maxLocals = 8 := hml
  have hown : s.vm.findClass "com/example/mailroom/mailroom/engine/TimelineOwnPinLaw" = some m.cls := hown
  refine Go.cast (ef_rm_law m p0 p1 p2) ?_
  have N0 := Fr.nil Z.heap.size
  have K0 : Keep h0 h0 [] := Keep.refl _ _
  refine Go.of (T' := T0) (f' := (mkF m 1 #[.val (.int p0), .val (.int p1), .val (.int p2), .unset, .unset, .unset, .unset, .unset] [(.int p0)])) (fun _ k => XS.iloadN X0.here hx rfl (hb hby at_0) rfl k) ?_
  refine Go.of (T' := T0) (f' := (mkF m 2 #[.val (.int p0), .val (.int p1), .val (.int p2), .unset, .unset, .unset, .unset, .unset] [(.int (1 : Int32)), (.int p0)])) (fun _ k => XS.iconst X0.here hx rfl (hb hby at_1) k) ?_
  refine Go.of (T' := T0) (f' := (mkF m 3 #[.val (.int p0), .val (.int p1), .val (.int p2), .unset, .unset, .unset, .unset, .unset] [(.int (p0 &&& (1 : Int32)))])) (fun _ k => XS.iand X0.here hx rfl (hb hby at_2) rfl k) ?_
  by_cases hc169 : (p0 &&& (1 : Int32)) = (0 : Int32)
  · skip
    refine Go.of (T' := T0) (f' := (mkF m 10 #[.val (.int p0), .val (.int p1), .val (.int p2), .unset, .unset, .unset, .unset, .unset] [])) (fun _ k => XS.ifYes X0.here hx rfl (pc0 := 3) (pc' := 10) rfl (hb hby at_3) rfl ((if0 _ _).trans (teq hc169).1) (by decide) (by decide) k) ?_
    refine Go.of (T' := T0) (f' := (mkF m 11 #[.val (.int p0), .val (.int p1), .val (.int p2), .unset, .unset, .unset, .unset, .unset] [(.int (0 : Int32))])) (fun _ k => XS.iconst X0.here hx rfl (hb hby at_10) k) ?_
    refine Go.of (T' := T0) (f' := (mkF m 12 #[.val (.int p0), .val (.int p1), .val (.int p2), .val (.int (0 : Int32)), .unset, .unset, .unset, .unset] [])) (fun _ k => XS.istoreN X0.here hx rfl (hb hby at_11) rfl (l' := #[.val (.int p0), .val (.int p1), .val (.int p2), .val (.int (0 : Int32)), .unset, .unset, .unset, .unset]) rfl k) ?_
    refine Go.of (T' := T0) (f' := (mkF m 13 #[.val (.int p0), .val (.int p1), .val (.int p2), .val (.int (0 : Int32)), .unset, .unset, .unset, .unset] [(.int p1)])) (fun _ k => XS.iloadN X0.here hx rfl (hb hby at_12) rfl k) ?_
    refine Go.of (T' := T0) (f' := (mkF m 14 #[.val (.int p0), .val (.int p1), .val (.int p2), .val (.int (0 : Int32)), .unset, .unset, .unset, .unset] [(.int (1 : Int32)), (.int p1)])) (fun _ k => XS.iconst X0.here hx rfl (hb hby at_13) k) ?_
    refine Go.of (T' := T0) (f' := (mkF m 15 #[.val (.int p0), .val (.int p1), .val (.int p2), .val (.int (0 : Int32)), .unset, .unset, .unset, .unset] [(.int (p1 &&& (1 : Int32)))])) (fun _ k => XS.iand X0.here hx rfl (hb hby at_14) rfl k) ?_
    by_cases hc170 : (p1 &&& (1 : Int32)) = (0 : Int32)
    · skip
      refine Go.of (T' := T0) (f' := (mkF m 22 #[.val (.int p0), .val (.int p1), .val (.int p2), .val (.int (0 : Int32)), .unset, .unset, .unset, .unset] [])) (fun _ k => XS.ifYes X0.here hx rfl (pc0 := 15) (pc' := 22) rfl (hb hby at_15) rfl ((if0 _ _).trans (teq hc170).1) (by decide) (by decide) k) ?_
      refine Go.of (T' := T0) (f' := (mkF m 23 #[.val (.int p0), .val (.int p1), .val (.int p2), .val (.int (0 : Int32)), .unset, .unset, .unset, .unset] [(.int (0 : Int32))])) (fun _ k => XS.iconst X0.here hx rfl (hb hby at_22) k) ?_
      refine Go.of (T' := T0) (f' := (mkF m 25 #[.val (.int p0), .val (.int p1), .val (.int p2), .val (.int (0 : Int32)), .val (.int (0 : Int32)), .unset, .unset, .unset] [])) (fun _ k => XS.istore X0.here hx rfl (hb hby at_23) rfl (l' := #[.val (.int p0), .val (.int p1), .val (.int p2), .val (.int (0 : Int32)), .val (.int (0 : Int32)), .unset, .unset, .unset]) rfl k) ?_
      refine Go.of (T' := T0) (f' := (mkF m 26 #[.val (.int p0), .val (.int p1), .val (.int p2), .val (.int (0 : Int32)), .val (.int (0 : Int32)), .unset, .unset, .unset] [(.int p2)])) (fun _ k => XS.iloadN X0.here hx rfl (hb hby at_25) rfl k) ?_
      refine Go.of (T' := T0) (f' := (mkF m 28 #[.val (.int p0), .val (.int p1), .val (.int p2), .val (.int (0 : Int32)), .val (.int (0 : Int32)), .unset, .unset, .unset] [(.int (63 : Int32)), (.int p2)])) (fun _ k => XS.bipush X0.here hx rfl (hb hby at_26) k) ?_
      refine Go.of (T' := T0) (f' := (mkF m 29 #[.val (.int p0), .val (.int p1), .val (.int p2), .val (.int (0 : Int32)), .val (.int (0 : Int32)), .unset, .unset, .unset] [(.int (p2 &&& (63 : Int32)))])) (fun _ k => XS.iand X0.here hx rfl (hb hby at_28) rfl k) ?_
      generalize hk : ((p2 &&& (63 : Int32)) : Int32) = kv
      refine Go.of (T' := T0) (f' := (mkF m 31 #[.val (.int p0), .val (.int p1), .val (.int p2), .val (.int (0 : Int32)), .val (.int (0 : Int32)), .val (.int kv), .unset, .unset] [])) (fun _ k => XS.istore X0.here hx rfl (hb hby at_29) rfl (l' := #[.val (.int p0), .val (.int p1), .val (.int p2), .val (.int (0 : Int32)), .val (.int (0 : Int32)), .val (.int kv), .unset, .unset]) rfl k) ?_
      obtain ⟨hk1, hk0⟩ := own_k p2
      rw [hk] at hk1 hk0
      refine Go.of (T' := T0) (f' := (mkF m 32 #[.val (.int p0), .val (.int p1), .val (.int p2), .val (.int (0 : Int32)), .val (.int (0 : Int32)), .val (.int kv), .unset, .unset] [(.int (0 : Int32))])) (fun _ k => XS.iloadN X0.here hx rfl (hb hby at_31) rfl k) ?_
      obtain ⟨T171, v171, L171, X171, q171, st171⟩ := callSt X0 hx hZ (y := (⟨"com/example/mailroom/mailroom/engine/Timeline$Race", "own", "(Z)Lcom/example/mailroom/mailroom/engine/Timeline$Race;"⟩ : MethodName)) hown (hw _ (List.mem_of_getElem? (i := 0) rfl)) (hw _ (List.mem_of_getElem? (i := 1) rfl)) (hw _ (List.mem_of_getElem? (i := 2) rfl)) (hw _ (List.mem_of_getElem? (i := 3) rfl)) (by decide) (rm_own0 hw s_OWN s_OWN_runners s_OWN_CONTENDED S_OWN E_s_OWN F_s_OWN_contends F_s_OWN_runners E_s_OWN_runners F_s_OWN_runners_wordsInUse S_OWN_CONTENDED E_s_OWN_CONTENDED F_s_OWN_CONTENDED_contends F_s_OWN_CONTENDED_runners S__assertionsDisabled   h0 O0 ) e0 (W := 0) (by decide) (by decide) (by decide) (by decide) (g := (mkF m 32 #[.val (.int p0), .val (.int p1), .val (.int p2), .val (.int (0 : Int32)), .val (.int (0 : Int32)), .val (.int kv), .unset, .unset] [(.int (0 : Int32))])) rfl (by rw [hml]; rfl) (argsL := [(.int (0 : Int32))]) (rest := []) (lenOf pd__Z_Lcom_example_mailroom_mailroom_engine_Timeline_Race_ rfl) rfl rfl (by show 2 * 0 + _ ≤ _; exact Nat.le_of_eq rfl) (hb hby at_32)
      obtain ⟨rfl, e171, rfl⟩ := q171
      have N171 := Fr.app N0 (Fr.nil _)
      refine Go.of (T' := T171) (f' := (mkF m 35 #[.val (.int p0), .val (.int p1), .val (.int p2), .val (.int (0 : Int32)), .val (.int (0 : Int32)), .val (.int kv), .unset, .unset] [(.ref s_OWN)])) (fun _ k => st171 _ k) ?_
      refine Go.of (T' := T171) (f' := (mkF m 37 #[.val (.int p0), .val (.int p1), .val (.int p2), .val (.int (0 : Int32)), .val (.int (0 : Int32)), .val (.int kv), .val (.ref s_OWN), .unset] [])) (fun _ k => XS.astore X171.here hx rfl (hb hby at_35) rfl rfl (l' := #[.val (.int p0), .val (.int p1), .val (.int p2), .val (.int (0 : Int32)), .val (.int (0 : Int32)), .val (.int kv), .val (.ref s_OWN), .unset]) rfl k) ?_
      refine Go.of (T' := T171) (f' := (mkF m 39 #[.val (.int p0), .val (.int p1), .val (.int p2), .val (.int (0 : Int32)), .val (.int (0 : Int32)), .val (.int kv), .val (.ref s_OWN), .unset] [(.ref s_OWN)])) (fun _ k => XS.aload X171.here hx rfl (hb hby at_37) rfl rfl k) ?_
      obtain ⟨T172, v172, L172, X172, q172, st172⟩ := callVi X171 hx hZ (y := (⟨"com/example/mailroom/mailroom/engine/Timeline$Race", "contends", "()Z"⟩ : MethodName)) (z := (⟨"com/example/mailroom/mailroom/engine/Timeline$Race", "contends", "()Z"⟩ : MethodName)) hown (hw _ (List.mem_of_getElem? (i := 6) rfl)) (hw _ (List.mem_of_getElem? (i := 7) rfl)) (notFace_of_selects (args := #[]) (mvT hZ (hw _ (List.mem_of_getElem? (i := 9) rfl)))) (hw _ (List.mem_of_getElem? (i := 9) rfl)) (hw _ (List.mem_of_getElem? (i := 8) rfl)) (hw _ (List.mem_of_getElem? (i := 10) rfl)) (hw _ (List.mem_of_getElem? (i := 2) rfl)) (by decide) (rm_cont0 hw s_OWN s_OWN_runners s_OWN_CONTENDED S_OWN E_s_OWN F_s_OWN_contends F_s_OWN_runners E_s_OWN_runners F_s_OWN_runners_wordsInUse S_OWN_CONTENDED E_s_OWN_CONTENDED F_s_OWN_CONTENDED_contends F_s_OWN_CONTENDED_runners S__assertionsDisabled s_OWN  h0 O0 (Fld.ext O0 F_s_OWN_contends)) e171 (W := 0) (by decide) (by decide) (by decide) (by decide) (Exa.ext O0 E_s_OWN) (g := (mkF m 39 #[.val (.int p0), .val (.int p1), .val (.int p2), .val (.int (0 : Int32)), .val (.int (0 : Int32)), .val (.int kv), .val (.ref s_OWN), .unset] [(.ref s_OWN)])) rfl (by rw [hml]; rfl) (argsL := []) (rest := []) (lenOf pd___Z rfl) rfl rfl (by show 2 * 0 + _ ≤ _; exact Nat.le_of_eq rfl) (hb hby at_39)
      obtain ⟨rfl, e172, rfl⟩ := q172
      have N172 := Fr.app N171 (Fr.nil _)
      refine Go.of (T' := T172) (f' := (mkF m 42 #[.val (.int p0), .val (.int p1), .val (.int p2), .val (.int (0 : Int32)), .val (.int (0 : Int32)), .val (.int kv), .val (.ref s_OWN), .unset] [(.int (0 : Int32))])) (fun _ k => st172 _ k) ?_
      refine Go.of (T' := T172) (f' := (mkF m 43 #[.val (.int p0), .val (.int p1), .val (.int p2), .val (.int (0 : Int32)), .val (.int (0 : Int32)), .val (.int kv), .val (.ref s_OWN), .unset] [(.int (0 : Int32)), (.int (0 : Int32))])) (fun _ k => XS.iloadN X172.here hx rfl (hb hby at_42) rfl k) ?_
      refine Go.of (T' := T172) (f' := (mkF m 48 #[.val (.int p0), .val (.int p1), .val (.int p2), .val (.int (0 : Int32)), .val (.int (0 : Int32)), .val (.int kv), .val (.ref s_OWN), .unset] [])) (fun _ k => XS.icmpYes X172.here hx rfl (pc0 := 43) (pc' := 48) rfl (hb hby at_43) rfl (teq (by decide : (0 : Int32) = (0 : Int32))).1 (by decide) (by decide) k) ?_
      refine Go.of (T' := T172) (f' := (mkF m 50 #[.val (.int p0), .val (.int p1), .val (.int p2), .val (.int (0 : Int32)), .val (.int (0 : Int32)), .val (.int kv), .val (.ref s_OWN), .unset] [(.ref s_OWN)])) (fun _ k => XS.aload X172.here hx rfl (hb hby at_48) rfl rfl k) ?_
      obtain ⟨T174, v174, L174, X174, q174, st174⟩ := callVi X172 hx hZ (y := (⟨"com/example/mailroom/mailroom/engine/Timeline$Race", "runners", "()Ljava/util/BitSet;"⟩ : MethodName)) (z := (⟨"com/example/mailroom/mailroom/engine/Timeline$Race", "runners", "()Ljava/util/BitSet;"⟩ : MethodName)) hown (hw _ (List.mem_of_getElem? (i := 13) rfl)) (hw _ (List.mem_of_getElem? (i := 14) rfl)) (notFace_of_selects (args := #[]) (mvT hZ (hw _ (List.mem_of_getElem? (i := 16) rfl)))) (hw _ (List.mem_of_getElem? (i := 16) rfl)) (hw _ (List.mem_of_getElem? (i := 15) rfl)) (hw _ (List.mem_of_getElem? (i := 17) rfl)) (hw _ (List.mem_of_getElem? (i := 2) rfl)) (by decide) (rm_runners hw s_OWN s_OWN_runners s_OWN_CONTENDED S_OWN E_s_OWN F_s_OWN_contends F_s_OWN_runners E_s_OWN_runners F_s_OWN_runners_wordsInUse S_OWN_CONTENDED E_s_OWN_CONTENDED F_s_OWN_CONTENDED_contends F_s_OWN_CONTENDED_runners S__assertionsDisabled s_OWN s_OWN_runners h0 O0 (Fld.ext O0 F_s_OWN_runners)) e172 (W := 0) (by decide) (by decide) (by decide) (by decide) (Exa.ext O0 E_s_OWN) (g := (mkF m 50 #[.val (.int p0), .val (.int p1), .val (.int p2), .val (.int (0 : Int32)), .val (.int (0 : Int32)), .val (.int kv), .val (.ref s_OWN), .unset] [(.ref s_OWN)])) rfl (by rw [hml]; rfl) (argsL := []) (rest := []) (lenOf pd___Ljava_util_BitSet_ rfl) rfl rfl (by show 2 * 0 + _ ≤ _; exact Nat.le_of_eq rfl) (hb hby at_50)
      obtain ⟨rfl, e174, rfl⟩ := q174
      have N174 := Fr.app N172 (Fr.nil _)
      refine Go.of (T' := T174) (f' := (mkF m 53 #[.val (.int p0), .val (.int p1), .val (.int p2), .val (.int (0 : Int32)), .val (.int (0 : Int32)), .val (.int kv), .val (.ref s_OWN), .unset] [(.ref s_OWN_runners)])) (fun _ k => st174 _ k) ?_
      obtain ⟨T175, v175, L175, X175, q175, st175⟩ := callVi X174 hx hZ (y := (⟨"java/util/BitSet", "isEmpty", "()Z"⟩ : MethodName)) (z := (⟨"java/util/BitSet", "isEmpty", "()Z"⟩ : MethodName)) hown (hw _ (List.mem_of_getElem? (i := 20) rfl)) (hw _ (List.mem_of_getElem? (i := 21) rfl)) (notFace_of_selects (args := #[]) (mvT hZ (hw _ (List.mem_of_getElem? (i := 23) rfl)))) (hw _ (List.mem_of_getElem? (i := 23) rfl)) (hw _ (List.mem_of_getElem? (i := 22) rfl)) (hw _ (List.mem_of_getElem? (i := 25) rfl)) (hw _ (List.mem_of_getElem? (i := 24) rfl)) (by decide) (rm_empty1 hw s_OWN s_OWN_runners s_OWN_CONTENDED S_OWN E_s_OWN F_s_OWN_contends F_s_OWN_runners E_s_OWN_runners F_s_OWN_runners_wordsInUse S_OWN_CONTENDED E_s_OWN_CONTENDED F_s_OWN_CONTENDED_contends F_s_OWN_CONTENDED_runners S__assertionsDisabled s_OWN_runners  h0 O0 (Fld.ext O0 F_s_OWN_runners_wordsInUse)) e174 (W := 0) (by decide) (by decide) (by decide) (by decide) (Exa.ext O0 E_s_OWN_runners) (g := (mkF m 53 #[.val (.int p0), .val (.int p1), .val (.int p2), .val (.int (0 : Int32)), .val (.int (0 : Int32)), .val (.int kv), .val (.ref s_OWN), .unset] [(.ref s_OWN_runners)])) rfl (by rw [hml]; rfl) (argsL := []) (rest := []) (lenOf pd___Z rfl) rfl rfl (by show 2 * 0 + _ ≤ _; exact Nat.le_of_eq rfl) (hb hby at_53)
      obtain ⟨rfl, e175, rfl⟩ := q175
      have N175 := Fr.app N174 (Fr.nil _)
      refine Go.of (T' := T175) (f' := (mkF m 56 #[.val (.int p0), .val (.int p1), .val (.int p2), .val (.int (0 : Int32)), .val (.int (0 : Int32)), .val (.int kv), .val (.ref s_OWN), .unset] [(.int (1 : Int32))])) (fun _ k => st175 _ k) ?_
      refine Go.of (T' := T175) (f' := (mkF m 61 #[.val (.int p0), .val (.int p1), .val (.int p2), .val (.int (0 : Int32)), .val (.int (0 : Int32)), .val (.int kv), .val (.ref s_OWN), .unset] [])) (fun _ k => XS.ifYes X175.here hx rfl (pc0 := 56) (pc' := 61) rfl (hb hby at_56) rfl ((if0 _ _).trans (feq (by decide : ¬ ((1 : Int32) = (0 : Int32)))).2) (by decide) (by decide) k) ?_
      refine Go.of (T' := T175) (f' := (mkF m 63 #[.val (.int p0), .val (.int p1), .val (.int p2), .val (.int (0 : Int32)), .val (.int (0 : Int32)), .val (.int kv), .val (.ref s_OWN), .unset] [(.int kv)])) (fun _ k => XS.iload X175.here hx rfl (hb hby at_61) rfl k) ?_
      refine Go.of (T' := T175) (f' := (mkF m 65 #[.val (.int p0), .val (.int p1), .val (.int p2), .val (.int (0 : Int32)), .val (.int (0 : Int32)), .val (.int kv), .val (.ref s_OWN), .unset] [(.int (0 : Int32)), (.int kv)])) (fun _ k => XS.iload X175.here hx rfl (hb hby at_63) rfl k) ?_
      obtain ⟨T177, v177, L177, X177, q177, st177⟩ := callSt X175 hx hZ (y := (⟨"com/example/mailroom/mailroom/engine/Timeline$Race", "through", "(IZ)Lcom/example/mailroom/mailroom/engine/Timeline$Race;"⟩ : MethodName)) hown (hw _ (List.mem_of_getElem? (i := 28) rfl)) (hw _ (List.mem_of_getElem? (i := 29) rfl)) (hw _ (List.mem_of_getElem? (i := 2) rfl)) (hw _ (List.mem_of_getElem? (i := 30) rfl)) (by decide) (rm_through0 hw s_OWN s_OWN_runners s_OWN_CONTENDED S_OWN E_s_OWN F_s_OWN_contends F_s_OWN_runners E_s_OWN_runners F_s_OWN_runners_wordsInUse S_OWN_CONTENDED E_s_OWN_CONTENDED F_s_OWN_CONTENDED_contends F_s_OWN_CONTENDED_runners S__assertionsDisabled kv  h0 O0 (hk1) (hk0)) e175 (W := 0) (by decide) (by decide) (by decide) (by decide) (g := (mkF m 65 #[.val (.int p0), .val (.int p1), .val (.int p2), .val (.int (0 : Int32)), .val (.int (0 : Int32)), .val (.int kv), .val (.ref s_OWN), .unset] [(.int (0 : Int32)), (.int kv)])) rfl (by rw [hml]; rfl) (argsL := [(.int kv), (.int (0 : Int32))]) (rest := []) (lenOf pd__IZ_Lcom_example_mailroom_mailroom_engine_Timeline_Race_ rfl) rfl rfl (by show 2 * 0 + _ ≤ _; exact Nat.le_of_eq rfl) (hb hby at_65)
      obtain ⟨ob_177, bs_177, rfl, N177q, K177q, p177_0, p177_1, p177_2, p177_3, p177_4, p177_5, p177_6⟩ := q177
      have N177 := Fr.app N175 N177q
      have O178 := Old0.keep O0 K177q all0
      have K178 := Keep.trans K0 K177q all0
      have z_ob_177 : h0.size ≤ ob_177 := Nat.le_trans K0.1 p177_0
      have g_ob_177 : Z.heap.size ≤ ob_177 := Nat.le_trans O0.1 p177_0
      have z_bs_177 : h0.size ≤ bs_177 := Nat.le_trans K0.1 p177_1
      have g_bs_177 : Z.heap.size ≤ bs_177 := Nat.le_trans O0.1 p177_1
      refine Go.of (T' := T177) (f' := (mkF m 68 #[.val (.int p0), .val (.int p1), .val (.int p2), .val (.int (0 : Int32)), .val (.int (0 : Int32)), .val (.int kv), .val (.ref s_OWN), .unset] [(.ref ob_177)])) (fun _ k => st177 _ k) ?_
      refine Go.of (T' := T177) (f' := (mkF m 70 #[.val (.int p0), .val (.int p1), .val (.int p2), .val (.int (0 : Int32)), .val (.int (0 : Int32)), .val (.int kv), .val (.ref s_OWN), .unset] [(.ref s_OWN), (.ref ob_177)])) (fun _ k => XS.aload X177.here hx rfl (hb hby at_68) rfl rfl k) ?_
      obtain ⟨T179, v179, L179, X179, q179, st179⟩ := callSt X177 hx hZ (y := (⟨"com/example/mailroom/mailroom/engine/Timeline$Race", "join", "(Lcom/example/mailroom/mailroom/engine/Timeline$Race;Lcom/example/mailroom/mailroom/engine/Timeline$Race;)Lcom/example/mailroom/mailroom/engine/Timeline$Race;"⟩ : MethodName)) hown (hw _ (List.mem_of_getElem? (i := 84) rfl)) (hw _ (List.mem_of_getElem? (i := 85) rfl)) (hw _ (List.mem_of_getElem? (i := 2) rfl)) (hw _ (List.mem_of_getElem? (i := 86) rfl)) (by decide) (rm_join00 hw s_OWN s_OWN_runners s_OWN_CONTENDED S_OWN E_s_OWN F_s_OWN_contends F_s_OWN_runners E_s_OWN_runners F_s_OWN_runners_wordsInUse S_OWN_CONTENDED E_s_OWN_CONTENDED F_s_OWN_CONTENDED_contends F_s_OWN_CONTENDED_runners S__assertionsDisabled ob_177 bs_177 T177.heap O178 p177_3 p177_4 p177_5 p177_6) rfl (W := 0) (by decide) (by decide) (by decide) (by decide) (g := (mkF m 70 #[.val (.int p0), .val (.int p1), .val (.int p2), .val (.int (0 : Int32)), .val (.int (0 : Int32)), .val (.int kv), .val (.ref s_OWN), .unset] [(.ref s_OWN), (.ref ob_177)])) rfl (by rw [hml]; rfl) (argsL := [(.ref ob_177), (.ref s_OWN)]) (rest := []) (lenOf pd__Lcom_example_mailroom_mailroom_engine_Timeline_Race_Lcom_example_mailroom_mailroom_engine_Timeline_Race__Lcom_example_mailroom_mailroom_engine_Timeline_Race_ rfl) rfl rfl (by show 2 * 0 + _ ≤ _; exact Nat.le_of_eq rfl) (hb hby at_70)
      obtain ⟨rfl, e179, rfl⟩ := q179
      have N179 := Fr.app N177 (Fr.nil _)
      refine Go.of (T' := T179) (f' := (mkF m 73 #[.val (.int p0), .val (.int p1), .val (.int p2), .val (.int (0 : Int32)), .val (.int (0 : Int32)), .val (.int kv), .val (.ref s_OWN), .unset] [(.ref s_OWN)])) (fun _ k => st179 _ k) ?_
      refine Go.of (T' := T179) (f' := (mkF m 75 #[.val (.int p0), .val (.int p1), .val (.int p2), .val (.int (0 : Int32)), .val (.int (0 : Int32)), .val (.int kv), .val (.ref s_OWN), .val (.ref s_OWN)] [])) (fun _ k => XS.astore X179.here hx rfl (hb hby at_73) rfl rfl (l' := #[.val (.int p0), .val (.int p1), .val (.int p2), .val (.int (0 : Int32)), .val (.int (0 : Int32)), .val (.int kv), .val (.ref s_OWN), .val (.ref s_OWN)]) rfl k) ?_
      refine Go.of (T' := T179) (f' := (mkF m 77 #[.val (.int p0), .val (.int p1), .val (.int p2), .val (.int (0 : Int32)), .val (.int (0 : Int32)), .val (.int kv), .val (.ref s_OWN), .val (.ref s_OWN)] [(.ref s_OWN)])) (fun _ k => XS.aload X179.here hx rfl (hb hby at_75) rfl rfl k) ?_
      obtain ⟨T180, v180, L180, X180, q180, st180⟩ := callVi X179 hx hZ (y := (⟨"com/example/mailroom/mailroom/engine/Timeline$Race", "contends", "()Z"⟩ : MethodName)) (z := (⟨"com/example/mailroom/mailroom/engine/Timeline$Race", "contends", "()Z"⟩ : MethodName)) hown (hw _ (List.mem_of_getElem? (i := 6) rfl)) (hw _ (List.mem_of_getElem? (i := 7) rfl)) (notFace_of_selects (args := #[]) (mvT hZ (hw _ (List.mem_of_getElem? (i := 9) rfl)))) (hw _ (List.mem_of_getElem? (i := 9) rfl)) (hw _ (List.mem_of_getElem? (i := 8) rfl)) (hw _ (List.mem_of_getElem? (i := 10) rfl)) (hw _ (List.mem_of_getElem? (i := 2) rfl)) (by decide) (rm_cont0 hw s_OWN s_OWN_runners s_OWN_CONTENDED S_OWN E_s_OWN F_s_OWN_contends F_s_OWN_runners E_s_OWN_runners F_s_OWN_runners_wordsInUse S_OWN_CONTENDED E_s_OWN_CONTENDED F_s_OWN_CONTENDED_contends F_s_OWN_CONTENDED_runners S__assertionsDisabled s_OWN  T177.heap O178 (Fld.ext O178 F_s_OWN_contends)) e179 (W := 0) (by decide) (by decide) (by decide) (by decide) (Exa.ext O178 E_s_OWN) (g := (mkF m 77 #[.val (.int p0), .val (.int p1), .val (.int p2), .val (.int (0 : Int32)), .val (.int (0 : Int32)), .val (.int kv), .val (.ref s_OWN), .val (.ref s_OWN)] [(.ref s_OWN)])) rfl (by rw [hml]; rfl) (argsL := []) (rest := []) (lenOf pd___Z rfl) rfl rfl (by show 2 * 0 + _ ≤ _; exact Nat.le_of_eq rfl) (hb hby at_77)
      obtain ⟨rfl, e180, rfl⟩ := q180
      have N180 := Fr.app N179 (Fr.nil _)
      refine Go.of (T' := T180) (f' := (mkF m 80 #[.val (.int p0), .val (.int p1), .val (.int p2), .val (.int (0 : Int32)), .val (.int (0 : Int32)), .val (.int kv), .val (.ref s_OWN), .val (.ref s_OWN)] [(.int (0 : Int32))])) (fun _ k => st180 _ k) ?_
      refine Go.of (T' := T180) (f' := (mkF m 81 #[.val (.int p0), .val (.int p1), .val (.int p2), .val (.int (0 : Int32)), .val (.int (0 : Int32)), .val (.int kv), .val (.ref s_OWN), .val (.ref s_OWN)] [(.int (0 : Int32)), (.int (0 : Int32))])) (fun _ k => XS.iloadN X180.here hx rfl (hb hby at_80) rfl k) ?_
      refine Go.of (T' := T180) (f' := (mkF m 84 #[.val (.int p0), .val (.int p1), .val (.int p2), .val (.int (0 : Int32)), .val (.int (0 : Int32)), .val (.int kv), .val (.ref s_OWN), .val (.ref s_OWN)] [(.int (0 : Int32))])) (fun _ k => XS.ifNo X180.here hx rfl (hb hby at_81) rfl ((if0 _ _).trans (teq (by decide : (0 : Int32) = (0 : Int32))).2) k) ?_
      refine Go.of (T' := T180) (f' := (mkF m 86 #[.val (.int p0), .val (.int p1), .val (.int p2), .val (.int (0 : Int32)), .val (.int (0 : Int32)), .val (.int kv), .val (.ref s_OWN), .val (.ref s_OWN)] [(.int (0 : Int32)), (.int (0 : Int32))])) (fun _ k => XS.iload X180.here hx rfl (hb hby at_84) rfl k) ?_
      refine Go.of (T' := T180) (f' := (mkF m 93 #[.val (.int p0), .val (.int p1), .val (.int p2), .val (.int (0 : Int32)), .val (.int (0 : Int32)), .val (.int kv), .val (.ref s_OWN), .val (.ref s_OWN)] [(.int (0 : Int32))])) (fun _ k => XS.ifYes X180.here hx rfl (pc0 := 86) (pc' := 93) rfl (hb hby at_86) rfl ((if0 _ _).trans (teq (by decide : (0 : Int32) = (0 : Int32))).1) (by decide) (by decide) k) ?_
      refine Go.of (T' := T180) (f' := (mkF m 94 #[.val (.int p0), .val (.int p1), .val (.int p2), .val (.int (0 : Int32)), .val (.int (0 : Int32)), .val (.int kv), .val (.ref s_OWN), .val (.ref s_OWN)] [(.int (0 : Int32)), (.int (0 : Int32))])) (fun _ k => XS.iconst X180.here hx rfl (hb hby at_93) k) ?_
      refine Go.of (T' := T180) (f' := (mkF m 97 #[.val (.int p0), .val (.int p1), .val (.int p2), .val (.int (0 : Int32)), .val (.int (0 : Int32)), .val (.int kv), .val (.ref s_OWN), .val (.ref s_OWN)] [])) (fun _ k => XS.icmpNo X180.here hx rfl (hb hby at_94) rfl (teq (by decide : (0 : Int32) = (0 : Int32))).2 k) ?_
      refine Go.of (T' := T180) (f' := (mkF m 99 #[.val (.int p0), .val (.int p1), .val (.int p2), .val (.int (0 : Int32)), .val (.int (0 : Int32)), .val (.int kv), .val (.ref s_OWN), .val (.ref s_OWN)] [(.ref s_OWN)])) (fun _ k => XS.aload X180.here hx rfl (hb hby at_97) rfl rfl k) ?_
      obtain ⟨T184, v184, L184, X184, q184, st184⟩ := callVi X180 hx hZ (y := (⟨"com/example/mailroom/mailroom/engine/Timeline$Race", "runners", "()Ljava/util/BitSet;"⟩ : MethodName)) (z := (⟨"com/example/mailroom/mailroom/engine/Timeline$Race", "runners", "()Ljava/util/BitSet;"⟩ : MethodName)) hown (hw _ (List.mem_of_getElem? (i := 13) rfl)) (hw _ (List.mem_of_getElem? (i := 14) rfl)) (notFace_of_selects (args := #[]) (mvT hZ (hw _ (List.mem_of_getElem? (i := 16) rfl)))) (hw _ (List.mem_of_getElem? (i := 16) rfl)) (hw _ (List.mem_of_getElem? (i := 15) rfl)) (hw _ (List.mem_of_getElem? (i := 17) rfl)) (hw _ (List.mem_of_getElem? (i := 2) rfl)) (by decide) (rm_runners hw s_OWN s_OWN_runners s_OWN_CONTENDED S_OWN E_s_OWN F_s_OWN_contends F_s_OWN_runners E_s_OWN_runners F_s_OWN_runners_wordsInUse S_OWN_CONTENDED E_s_OWN_CONTENDED F_s_OWN_CONTENDED_contends F_s_OWN_CONTENDED_runners S__assertionsDisabled s_OWN s_OWN_runners T177.heap O178 (Fld.ext O178 F_s_OWN_runners)) e180 (W := 0) (by decide) (by decide) (by decide) (by decide) (Exa.ext O178 E_s_OWN) (g := (mkF m 99 #[.val (.int p0), .val (.int p1), .val (.int p2), .val (.int (0 : Int32)), .val (.int (0 : Int32)), .val (.int kv), .val (.ref s_OWN), .val (.ref s_OWN)] [(.ref s_OWN)])) rfl (by rw [hml]; rfl) (argsL := []) (rest := []) (lenOf pd___Ljava_util_BitSet_ rfl) rfl rfl (by show 2 * 0 + _ ≤ _; exact Nat.le_of_eq rfl) (hb hby at_99)
      obtain ⟨rfl, e184, rfl⟩ := q184
      have N184 := Fr.app N180 (Fr.nil _)
      refine Go.of (T' := T184) (f' := (mkF m 102 #[.val (.int p0), .val (.int p1), .val (.int p2), .val (.int (0 : Int32)), .val (.int (0 : Int32)), .val (.int kv), .val (.ref s_OWN), .val (.ref s_OWN)] [(.ref s_OWN_runners)])) (fun _ k => st184 _ k) ?_
      obtain ⟨T185, v185, L185, X185, q185, st185⟩ := callVi X184 hx hZ (y := (⟨"java/util/BitSet", "isEmpty", "()Z"⟩ : MethodName)) (z := (⟨"java/util/BitSet", "isEmpty", "()Z"⟩ : MethodName)) hown (hw _ (List.mem_of_getElem? (i := 20) rfl)) (hw _ (List.mem_of_getElem? (i := 21) rfl)) (notFace_of_selects (args := #[]) (mvT hZ (hw _ (List.mem_of_getElem? (i := 23) rfl)))) (hw _ (List.mem_of_getElem? (i := 23) rfl)) (hw _ (List.mem_of_getElem? (i := 22) rfl)) (hw _ (List.mem_of_getElem? (i := 25) rfl)) (hw _ (List.mem_of_getElem? (i := 24) rfl)) (by decide) (rm_empty1 hw s_OWN s_OWN_runners s_OWN_CONTENDED S_OWN E_s_OWN F_s_OWN_contends F_s_OWN_runners E_s_OWN_runners F_s_OWN_runners_wordsInUse S_OWN_CONTENDED E_s_OWN_CONTENDED F_s_OWN_CONTENDED_contends F_s_OWN_CONTENDED_runners S__assertionsDisabled s_OWN_runners  T177.heap O178 (Fld.ext O178 F_s_OWN_runners_wordsInUse)) e184 (W := 0) (by decide) (by decide) (by decide) (by decide) (Exa.ext O178 E_s_OWN_runners) (g := (mkF m 102 #[.val (.int p0), .val (.int p1), .val (.int p2), .val (.int (0 : Int32)), .val (.int (0 : Int32)), .val (.int kv), .val (.ref s_OWN), .val (.ref s_OWN)] [(.ref s_OWN_runners)])) rfl (by rw [hml]; rfl) (argsL := []) (rest := []) (lenOf pd___Z rfl) rfl rfl (by show 2 * 0 + _ ≤ _; exact Nat.le_of_eq rfl) (hb hby at_102)
      obtain ⟨rfl, e185, rfl⟩ := q185
      have N185 := Fr.app N184 (Fr.nil _)
      refine Go.of (T' := T185) (f' := (mkF m 105 #[.val (.int p0), .val (.int p1), .val (.int p2), .val (.int (0 : Int32)), .val (.int (0 : Int32)), .val (.int kv), .val (.ref s_OWN), .val (.ref s_OWN)] [(.int (1 : Int32))])) (fun _ k => st185 _ k) ?_
      refine Go.of (T' := T185) (f' := (mkF m 108 #[.val (.int p0), .val (.int p1), .val (.int p2), .val (.int (0 : Int32)), .val (.int (0 : Int32)), .val (.int kv), .val (.ref s_OWN), .val (.ref s_OWN)] [])) (fun _ k => XS.ifNo X185.here hx rfl (hb hby at_105) rfl ((if0 _ _).trans (feq (by decide : ¬ ((1 : Int32) = (0 : Int32)))).1) k) ?_
      refine Go.of (T' := T185) (f' := (mkF m 109 #[.val (.int p0), .val (.int p1), .val (.int p2), .val (.int (0 : Int32)), .val (.int (0 : Int32)), .val (.int kv), .val (.ref s_OWN), .val (.ref s_OWN)] [(.int (1 : Int32))])) (fun _ k => XS.iconst X185.here hx rfl (hb hby at_108) k) ?_
      refine Go.of (T' := T185) (f' := (mkF m 113 #[.val (.int p0), .val (.int p1), .val (.int p2), .val (.int (0 : Int32)), .val (.int (0 : Int32)), .val (.int kv), .val (.ref s_OWN), .val (.ref s_OWN)] [(.int (1 : Int32))])) (fun _ k => XS.goto X185.here hx rfl (pc0 := 109) (pc' := 113) rfl (hb hby at_109) (by decide) (by decide) k) ?_
      exact Go.retB X185 hx hlk hret (by simp) (hb hby at_113) (by decide) (by decide) (z' := (1 : Int32)) rfl (by rw [e185]; exact ⟨rfl, N185, K178⟩)
    · skip
      refine Go.of (T' := T0) (f' := (mkF m 18 #[.val (.int p0), .val (.int p1), .val (.int p2), .val (.int (0 : Int32)), .unset, .unset, .unset, .unset] [])) (fun _ k => XS.ifNo X0.here hx rfl (hb hby at_15) rfl ((if0 _ _).trans (feq hc170).1) k) ?_
      refine Go.of (T' := T0) (f' := (mkF m 19 #[.val (.int p0), .val (.int p1), .val (.int p2), .val (.int (0 : Int32)), .unset, .unset, .unset, .unset] [(.int (1 : Int32))])) (fun _ k => XS.iconst X0.here hx rfl (hb hby at_18) k) ?_
      refine Go.of (T' := T0) (f' := (mkF m 23 #[.val (.int p0), .val (.int p1), .val (.int p2), .val (.int (0 : Int32)), .unset, .unset, .unset, .unset] [(.int (1 : Int32))])) (fun _ k => XS.goto X0.here hx rfl (pc0 := 19) (pc' := 23) rfl (hb hby at_19) (by decide) (by decide) k) ?_
      refine Go.of (T' := T0) (f' := (mkF m 25 #[.val (.int p0), .val (.int p1), .val (.int p2), .val (.int (0 : Int32)), .val (.int (1 : Int32)), .unset, .unset, .unset] [])) (fun _ k => XS.istore X0.here hx rfl (hb hby at_23) rfl (l' := #[.val (.int p0), .val (.int p1), .val (.int p2), .val (.int (0 : Int32)), .val (.int (1 : Int32)), .unset, .unset, .unset]) rfl k) ?_
      refine Go.of (T' := T0) (f' := (mkF m 26 #[.val (.int p0), .val (.int p1), .val (.int p2), .val (.int (0 : Int32)), .val (.int (1 : Int32)), .unset, .unset, .unset] [(.int p2)])) (fun _ k => XS.iloadN X0.here hx rfl (hb hby at_25) rfl k) ?_
      refine Go.of (T' := T0) (f' := (mkF m 28 #[.val (.int p0), .val (.int p1), .val (.int p2), .val (.int (0 : Int32)), .val (.int (1 : Int32)), .unset, .unset, .unset] [(.int (63 : Int32)), (.int p2)])) (fun _ k => XS.bipush X0.here hx rfl (hb hby at_26) k) ?_
      refine Go.of (T' := T0) (f' := (mkF m 29 #[.val (.int p0), .val (.int p1), .val (.int p2), .val (.int (0 : Int32)), .val (.int (1 : Int32)), .unset, .unset, .unset] [(.int (p2 &&& (63 : Int32)))])) (fun _ k => XS.iand X0.here hx rfl (hb hby at_28) rfl k) ?_
      generalize hk : ((p2 &&& (63 : Int32)) : Int32) = kv
      refine Go.of (T' := T0) (f' := (mkF m 31 #[.val (.int p0), .val (.int p1), .val (.int p2), .val (.int (0 : Int32)), .val (.int (1 : Int32)), .val (.int kv), .unset, .unset] [])) (fun _ k => XS.istore X0.here hx rfl (hb hby at_29) rfl (l' := #[.val (.int p0), .val (.int p1), .val (.int p2), .val (.int (0 : Int32)), .val (.int (1 : Int32)), .val (.int kv), .unset, .unset]) rfl k) ?_
      obtain ⟨hk1, hk0⟩ := own_k p2
      rw [hk] at hk1 hk0
      refine Go.of (T' := T0) (f' := (mkF m 32 #[.val (.int p0), .val (.int p1), .val (.int p2), .val (.int (0 : Int32)), .val (.int (1 : Int32)), .val (.int kv), .unset, .unset] [(.int (0 : Int32))])) (fun _ k => XS.iloadN X0.here hx rfl (hb hby at_31) rfl k) ?_
      obtain ⟨T187, v187, L187, X187, q187, st187⟩ := callSt X0 hx hZ (y := (⟨"com/example/mailroom/mailroom/engine/Timeline$Race", "own", "(Z)Lcom/example/mailroom/mailroom/engine/Timeline$Race;"⟩ : MethodName)) hown (hw _ (List.mem_of_getElem? (i := 0) rfl)) (hw _ (List.mem_of_getElem? (i := 1) rfl)) (hw _ (List.mem_of_getElem? (i := 2) rfl)) (hw _ (List.mem_of_getElem? (i := 3) rfl)) (by decide) (rm_own0 hw s_OWN s_OWN_runners s_OWN_CONTENDED S_OWN E_s_OWN F_s_OWN_contends F_s_OWN_runners E_s_OWN_runners F_s_OWN_runners_wordsInUse S_OWN_CONTENDED E_s_OWN_CONTENDED F_s_OWN_CONTENDED_contends F_s_OWN_CONTENDED_runners S__assertionsDisabled   h0 O0 ) e0 (W := 0) (by decide) (by decide) (by decide) (by decide) (g := (mkF m 32 #[.val (.int p0), .val (.int p1), .val (.int p2), .val (.int (0 : Int32)), .val (.int (1 : Int32)), .val (.int kv), .unset, .unset] [(.int (0 : Int32))])) rfl (by rw [hml]; rfl) (argsL := [(.int (0 : Int32))]) (rest := []) (lenOf pd__Z_Lcom_example_mailroom_mailroom_engine_Timeline_Race_ rfl) rfl rfl (by show 2 * 0 + _ ≤ _; exact Nat.le_of_eq rfl) (hb hby at_32)
      obtain ⟨rfl, e187, rfl⟩ := q187
      have N187 := Fr.app N0 (Fr.nil _)
      refine Go.of (T' := T187) (f' := (mkF m 35 #[.val (.int p0), .val (.int p1), .val (.int p2), .val (.int (0 : Int32)), .val (.int (1 : Int32)), .val (.int kv), .unset, .unset] [(.ref s_OWN)])) (fun _ k => st187 _ k) ?_
      refine Go.of (T' := T187) (f' := (mkF m 37 #[.val (.int p0), .val (.int p1), .val (.int p2), .val (.int (0 : Int32)), .val (.int (1 : Int32)), .val (.int kv), .val (.ref s_OWN), .unset] [])) (fun _ k => XS.astore X187.here hx rfl (hb hby at_35) rfl rfl (l' := #[.val (.int p0), .val (.int p1), .val (.int p2), .val (.int (0 : Int32)), .val (.int (1 : Int32)), .val (.int kv), .val (.ref s_OWN), .unset]) rfl k) ?_
      refine Go.of (T' := T187) (f' := (mkF m 39 #[.val (.int p0), .val (.int p1), .val (.int p2), .val (.int (0 : Int32)), .val (.int (1 : Int32)), .val (.int kv), .val (.ref s_OWN), .unset] [(.ref s_OWN)])) (fun _ k => XS.aload X187.here hx rfl (hb hby at_37) rfl rfl k) ?_
      obtain ⟨T188, v188, L188, X188, q188, st188⟩ := callVi X187 hx hZ (y := (⟨"com/example/mailroom/mailroom/engine/Timeline$Race", "contends", "()Z"⟩ : MethodName)) (z := (⟨"com/example/mailroom/mailroom/engine/Timeline$Race", "contends", "()Z"⟩ : MethodName)) hown (hw _ (List.mem_of_getElem? (i := 6) rfl)) (hw _ (List.mem_of_getElem? (i := 7) rfl)) (notFace_of_selects (args := #[]) (mvT hZ (hw _ (List.mem_of_getElem? (i := 9) rfl)))) (hw _ (List.mem_of_getElem? (i := 9) rfl)) (hw _ (List.mem_of_getElem? (i := 8) rfl)) (hw _ (List.mem_of_getElem? (i := 10) rfl)) (hw _ (List.mem_of_getElem? (i := 2) rfl)) (by decide) (rm_cont0 hw s_OWN s_OWN_runners s_OWN_CONTENDED S_OWN E_s_OWN F_s_OWN_contends F_s_OWN_runners E_s_OWN_runners F_s_OWN_runners_wordsInUse S_OWN_CONTENDED E_s_OWN_CONTENDED F_s_OWN_CONTENDED_contends F_s_OWN_CONTENDED_runners S__assertionsDisabled s_OWN  h0 O0 (Fld.ext O0 F_s_OWN_contends)) e187 (W := 0) (by decide) (by decide) (by decide) (by decide) (Exa.ext O0 E_s_OWN) (g := (mkF m 39 #[.val (.int p0), .val (.int p1), .val (.int p2), .val (.int (0 : Int32)), .val (.int (1 : Int32)), .val (.int kv), .val (.ref s_OWN), .unset] [(.ref s_OWN)])) rfl (by rw [hml]; rfl) (argsL := []) (rest := []) (lenOf pd___Z rfl) rfl rfl (by show 2 * 0 + _ ≤ _; exact Nat.le_of_eq rfl) (hb hby at_39)
      obtain ⟨rfl, e188, rfl⟩ := q188
      have N188 := Fr.app N187 (Fr.nil _)
      refine Go.of (T' := T188) (f' := (mkF m 42 #[.val (.int p0), .val (.int p1), .val (.int p2), .val (.int (0 : Int32)), .val (.int (1 : Int32)), .val (.int kv), .val (.ref s_OWN), .unset] [(.int (0 : Int32))])) (fun _ k => st188 _ k) ?_
      refine Go.of (T' := T188) (f' := (mkF m 43 #[.val (.int p0), .val (.int p1), .val (.int p2), .val (.int (0 : Int32)), .val (.int (1 : Int32)), .val (.int kv), .val (.ref s_OWN), .unset] [(.int (0 : Int32)), (.int (0 : Int32))])) (fun _ k => XS.iloadN X188.here hx rfl (hb hby at_42) rfl k) ?_
      refine Go.of (T' := T188) (f' := (mkF m 48 #[.val (.int p0), .val (.int p1), .val (.int p2), .val (.int (0 : Int32)), .val (.int (1 : Int32)), .val (.int kv), .val (.ref s_OWN), .unset] [])) (fun _ k => XS.icmpYes X188.here hx rfl (pc0 := 43) (pc' := 48) rfl (hb hby at_43) rfl (teq (by decide : (0 : Int32) = (0 : Int32))).1 (by decide) (by decide) k) ?_
      refine Go.of (T' := T188) (f' := (mkF m 50 #[.val (.int p0), .val (.int p1), .val (.int p2), .val (.int (0 : Int32)), .val (.int (1 : Int32)), .val (.int kv), .val (.ref s_OWN), .unset] [(.ref s_OWN)])) (fun _ k => XS.aload X188.here hx rfl (hb hby at_48) rfl rfl k) ?_
      obtain ⟨T190, v190, L190, X190, q190, st190⟩ := callVi X188 hx hZ (y := (⟨"com/example/mailroom/mailroom/engine/Timeline$Race", "runners", "()Ljava/util/BitSet;"⟩ : MethodName)) (z := (⟨"com/example/mailroom/mailroom/engine/Timeline$Race", "runners", "()Ljava/util/BitSet;"⟩ : MethodName)) hown (hw _ (List.mem_of_getElem? (i := 13) rfl)) (hw _ (List.mem_of_getElem? (i := 14) rfl)) (notFace_of_selects (args := #[]) (mvT hZ (hw _ (List.mem_of_getElem? (i := 16) rfl)))) (hw _ (List.mem_of_getElem? (i := 16) rfl)) (hw _ (List.mem_of_getElem? (i := 15) rfl)) (hw _ (List.mem_of_getElem? (i := 17) rfl)) (hw _ (List.mem_of_getElem? (i := 2) rfl)) (by decide) (rm_runners hw s_OWN s_OWN_runners s_OWN_CONTENDED S_OWN E_s_OWN F_s_OWN_contends F_s_OWN_runners E_s_OWN_runners F_s_OWN_runners_wordsInUse S_OWN_CONTENDED E_s_OWN_CONTENDED F_s_OWN_CONTENDED_contends F_s_OWN_CONTENDED_runners S__assertionsDisabled s_OWN s_OWN_runners h0 O0 (Fld.ext O0 F_s_OWN_runners)) e188 (W := 0) (by decide) (by decide) (by decide) (by decide) (Exa.ext O0 E_s_OWN) (g := (mkF m 50 #[.val (.int p0), .val (.int p1), .val (.int p2), .val (.int (0 : Int32)), .val (.int (1 : Int32)), .val (.int kv), .val (.ref s_OWN), .unset] [(.ref s_OWN)])) rfl (by rw [hml]; rfl) (argsL := []) (rest := []) (lenOf pd___Ljava_util_BitSet_ rfl) rfl rfl (by show 2 * 0 + _ ≤ _; exact Nat.le_of_eq rfl) (hb hby at_50)
      obtain ⟨rfl, e190, rfl⟩ := q190
      have N190 := Fr.app N188 (Fr.nil _)
      refine Go.of (T' := T190) (f' := (mkF m 53 #[.val (.int p0), .val (.int p1), .val (.int p2), .val (.int (0 : Int32)), .val (.int (1 : Int32)), .val (.int kv), .val (.ref s_OWN), .unset] [(.ref s_OWN_runners)])) (fun _ k => st190 _ k) ?_
      obtain ⟨T191, v191, L191, X191, q191, st191⟩ := callVi X190 hx hZ (y := (⟨"java/util/BitSet", "isEmpty", "()Z"⟩ : MethodName)) (z := (⟨"java/util/BitSet", "isEmpty", "()Z"⟩ : MethodName)) hown (hw _ (List.mem_of_getElem? (i := 20) rfl)) (hw _ (List.mem_of_getElem? (i := 21) rfl)) (notFace_of_selects (args := #[]) (mvT hZ (hw _ (List.mem_of_getElem? (i := 23) rfl)))) (hw _ (List.mem_of_getElem? (i := 23) rfl)) (hw _ (List.mem_of_getElem? (i := 22) rfl)) (hw _ (List.mem_of_getElem? (i := 25) rfl)) (hw _ (List.mem_of_getElem? (i := 24) rfl)) (by decide) (rm_empty1 hw s_OWN s_OWN_runners s_OWN_CONTENDED S_OWN E_s_OWN F_s_OWN_contends F_s_OWN_runners E_s_OWN_runners F_s_OWN_runners_wordsInUse S_OWN_CONTENDED E_s_OWN_CONTENDED F_s_OWN_CONTENDED_contends F_s_OWN_CONTENDED_runners S__assertionsDisabled s_OWN_runners  h0 O0 (Fld.ext O0 F_s_OWN_runners_wordsInUse)) e190 (W := 0) (by decide) (by decide) (by decide) (by decide) (Exa.ext O0 E_s_OWN_runners) (g := (mkF m 53 #[.val (.int p0), .val (.int p1), .val (.int p2), .val (.int (0 : Int32)), .val (.int (1 : Int32)), .val (.int kv), .val (.ref s_OWN), .unset] [(.ref s_OWN_runners)])) rfl (by rw [hml]; rfl) (argsL := []) (rest := []) (lenOf pd___Z rfl) rfl rfl (by show 2 * 0 + _ ≤ _; exact Nat.le_of_eq rfl) (hb hby at_53)
      obtain ⟨rfl, e191, rfl⟩ := q191
      have N191 := Fr.app N190 (Fr.nil _)
      refine Go.of (T' := T191) (f' := (mkF m 56 #[.val (.int p0), .val (.int p1), .val (.int p2), .val (.int (0 : Int32)), .val (.int (1 : Int32)), .val (.int kv), .val (.ref s_OWN), .unset] [(.int (1 : Int32))])) (fun _ k => st191 _ k) ?_
      refine Go.of (T' := T191) (f' := (mkF m 61 #[.val (.int p0), .val (.int p1), .val (.int p2), .val (.int (0 : Int32)), .val (.int (1 : Int32)), .val (.int kv), .val (.ref s_OWN), .unset] [])) (fun _ k => XS.ifYes X191.here hx rfl (pc0 := 56) (pc' := 61) rfl (hb hby at_56) rfl ((if0 _ _).trans (feq (by decide : ¬ ((1 : Int32) = (0 : Int32)))).2) (by decide) (by decide) k) ?_
      refine Go.of (T' := T191) (f' := (mkF m 63 #[.val (.int p0), .val (.int p1), .val (.int p2), .val (.int (0 : Int32)), .val (.int (1 : Int32)), .val (.int kv), .val (.ref s_OWN), .unset] [(.int kv)])) (fun _ k => XS.iload X191.here hx rfl (hb hby at_61) rfl k) ?_
      refine Go.of (T' := T191) (f' := (mkF m 65 #[.val (.int p0), .val (.int p1), .val (.int p2), .val (.int (0 : Int32)), .val (.int (1 : Int32)), .val (.int kv), .val (.ref s_OWN), .unset] [(.int (1 : Int32)), (.int kv)])) (fun _ k => XS.iload X191.here hx rfl (hb hby at_63) rfl k) ?_
      obtain ⟨T193, v193, L193, X193, q193, st193⟩ := callSt X191 hx hZ (y := (⟨"com/example/mailroom/mailroom/engine/Timeline$Race", "through", "(IZ)Lcom/example/mailroom/mailroom/engine/Timeline$Race;"⟩ : MethodName)) hown (hw _ (List.mem_of_getElem? (i := 28) rfl)) (hw _ (List.mem_of_getElem? (i := 29) rfl)) (hw _ (List.mem_of_getElem? (i := 2) rfl)) (hw _ (List.mem_of_getElem? (i := 30) rfl)) (by decide) (rm_through1 hw s_OWN s_OWN_runners s_OWN_CONTENDED S_OWN E_s_OWN F_s_OWN_contends F_s_OWN_runners E_s_OWN_runners F_s_OWN_runners_wordsInUse S_OWN_CONTENDED E_s_OWN_CONTENDED F_s_OWN_CONTENDED_contends F_s_OWN_CONTENDED_runners S__assertionsDisabled kv  h0 O0 (hk1) (hk0)) e191 (W := 0) (by decide) (by decide) (by decide) (by decide) (g := (mkF m 65 #[.val (.int p0), .val (.int p1), .val (.int p2), .val (.int (0 : Int32)), .val (.int (1 : Int32)), .val (.int kv), .val (.ref s_OWN), .unset] [(.int (1 : Int32)), (.int kv)])) rfl (by rw [hml]; rfl) (argsL := [(.int kv), (.int (1 : Int32))]) (rest := []) (lenOf pd__IZ_Lcom_example_mailroom_mailroom_engine_Timeline_Race_ rfl) rfl rfl (by show 2 * 0 + _ ≤ _; exact Nat.le_of_eq rfl) (hb hby at_65)
      obtain ⟨ob_193, bs_193, rfl, N193q, K193q, p193_0, p193_1, p193_2, p193_3, p193_4, p193_5, p193_6⟩ := q193
      have N193 := Fr.app N191 N193q
      have O194 := Old0.keep O0 K193q all0
      have K194 := Keep.trans K0 K193q all0
      have z_ob_193 : h0.size ≤ ob_193 := Nat.le_trans K0.1 p193_0
      have g_ob_193 : Z.heap.size ≤ ob_193 := Nat.le_trans O0.1 p193_0
      have z_bs_193 : h0.size ≤ bs_193 := Nat.le_trans K0.1 p193_1
      have g_bs_193 : Z.heap.size ≤ bs_193 := Nat.le_trans O0.1 p193_1
      refine Go.of (T' := T193) (f' := (mkF m 68 #[.val (.int p0), .val (.int p1), .val (.int p2), .val (.int (0 : Int32)), .val (.int (1 : Int32)), .val (.int kv), .val (.ref s_OWN), .unset] [(.ref ob_193)])) (fun _ k => st193 _ k) ?_
      refine Go.of (T' := T193) (f' := (mkF m 70 #[.val (.int p0), .val (.int p1), .val (.int p2), .val (.int (0 : Int32)), .val (.int (1 : Int32)), .val (.int kv), .val (.ref s_OWN), .unset] [(.ref s_OWN), (.ref ob_193)])) (fun _ k => XS.aload X193.here hx rfl (hb hby at_68) rfl rfl k) ?_
      obtain ⟨T195, v195, L195, X195, q195, st195⟩ := callSt X193 hx hZ (y := (⟨"com/example/mailroom/mailroom/engine/Timeline$Race", "join", "(Lcom/example/mailroom/mailroom/engine/Timeline$Race;Lcom/example/mailroom/mailroom/engine/Timeline$Race;)Lcom/example/mailroom/mailroom/engine/Timeline$Race;"⟩ : MethodName)) hown (hw _ (List.mem_of_getElem? (i := 84) rfl)) (hw _ (List.mem_of_getElem? (i := 85) rfl)) (hw _ (List.mem_of_getElem? (i := 2) rfl)) (hw _ (List.mem_of_getElem? (i := 86) rfl)) (by decide) (rm_join10 hw s_OWN s_OWN_runners s_OWN_CONTENDED S_OWN E_s_OWN F_s_OWN_contends F_s_OWN_runners E_s_OWN_runners F_s_OWN_runners_wordsInUse S_OWN_CONTENDED E_s_OWN_CONTENDED F_s_OWN_CONTENDED_contends F_s_OWN_CONTENDED_runners S__assertionsDisabled ob_193 bs_193 T193.heap O194 p193_3 p193_4 p193_5 p193_6) rfl (W := 0) (by decide) (by decide) (by decide) (by decide) (g := (mkF m 70 #[.val (.int p0), .val (.int p1), .val (.int p2), .val (.int (0 : Int32)), .val (.int (1 : Int32)), .val (.int kv), .val (.ref s_OWN), .unset] [(.ref s_OWN), (.ref ob_193)])) rfl (by rw [hml]; rfl) (argsL := [(.ref ob_193), (.ref s_OWN)]) (rest := []) (lenOf pd__Lcom_example_mailroom_mailroom_engine_Timeline_Race_Lcom_example_mailroom_mailroom_engine_Timeline_Race__Lcom_example_mailroom_mailroom_engine_Timeline_Race_ rfl) rfl rfl (by show 2 * 0 + _ ≤ _; exact Nat.le_of_eq rfl) (hb hby at_70)
      obtain ⟨rfl, e195, rfl⟩ := q195
      have N195 := Fr.app N193 (Fr.nil _)
      refine Go.of (T' := T195) (f' := (mkF m 73 #[.val (.int p0), .val (.int p1), .val (.int p2), .val (.int (0 : Int32)), .val (.int (1 : Int32)), .val (.int kv), .val (.ref s_OWN), .unset] [(.ref s_OWN_CONTENDED)])) (fun _ k => st195 _ k) ?_
      refine Go.of (T' := T195) (f' := (mkF m 75 #[.val (.int p0), .val (.int p1), .val (.int p2), .val (.int (0 : Int32)), .val (.int (1 : Int32)), .val (.int kv), .val (.ref s_OWN), .val (.ref s_OWN_CONTENDED)] [])) (fun _ k => XS.astore X195.here hx rfl (hb hby at_73) rfl rfl (l' := #[.val (.int p0), .val (.int p1), .val (.int p2), .val (.int (0 : Int32)), .val (.int (1 : Int32)), .val (.int kv), .val (.ref s_OWN), .val (.ref s_OWN_CONTENDED)]) rfl k) ?_
      refine Go.of (T' := T195) (f' := (mkF m 77 #[.val (.int p0), .val (.int p1), .val (.int p2), .val (.int (0 : Int32)), .val (.int (1 : Int32)), .val (.int kv), .val (.ref s_OWN), .val (.ref s_OWN_CONTENDED)] [(.ref s_OWN_CONTENDED)])) (fun _ k => XS.aload X195.here hx rfl (hb hby at_75) rfl rfl k) ?_
      obtain ⟨T196, v196, L196, X196, q196, st196⟩ := callVi X195 hx hZ (y := (⟨"com/example/mailroom/mailroom/engine/Timeline$Race", "contends", "()Z"⟩ : MethodName)) (z := (⟨"com/example/mailroom/mailroom/engine/Timeline$Race", "contends", "()Z"⟩ : MethodName)) hown (hw _ (List.mem_of_getElem? (i := 6) rfl)) (hw _ (List.mem_of_getElem? (i := 7) rfl)) (notFace_of_selects (args := #[]) (mvT hZ (hw _ (List.mem_of_getElem? (i := 9) rfl)))) (hw _ (List.mem_of_getElem? (i := 9) rfl)) (hw _ (List.mem_of_getElem? (i := 8) rfl)) (hw _ (List.mem_of_getElem? (i := 10) rfl)) (hw _ (List.mem_of_getElem? (i := 2) rfl)) (by decide) (rm_cont1 hw s_OWN s_OWN_runners s_OWN_CONTENDED S_OWN E_s_OWN F_s_OWN_contends F_s_OWN_runners E_s_OWN_runners F_s_OWN_runners_wordsInUse S_OWN_CONTENDED E_s_OWN_CONTENDED F_s_OWN_CONTENDED_contends F_s_OWN_CONTENDED_runners S__assertionsDisabled s_OWN_CONTENDED  T193.heap O194 (Fld.ext O194 F_s_OWN_CONTENDED_contends)) e195 (W := 0) (by decide) (by decide) (by decide) (by decide) (Exa.ext O194 E_s_OWN_CONTENDED) (g := (mkF m 77 #[.val (.int p0), .val (.int p1), .val (.int p2), .val (.int (0 : Int32)), .val (.int (1 : Int32)), .val (.int kv), .val (.ref s_OWN), .val (.ref s_OWN_CONTENDED)] [(.ref s_OWN_CONTENDED)])) rfl (by rw [hml]; rfl) (argsL := []) (rest := []) (lenOf pd___Z rfl) rfl rfl (by show 2 * 0 + _ ≤ _; exact Nat.le_of_eq rfl) (hb hby at_77)
      obtain ⟨rfl, e196, rfl⟩ := q196
      have N196 := Fr.app N195 (Fr.nil _)
      refine Go.of (T' := T196) (f' := (mkF m 80 #[.val (.int p0), .val (.int p1), .val (.int p2), .val (.int (0 : Int32)), .val (.int (1 : Int32)), .val (.int kv), .val (.ref s_OWN), .val (.ref s_OWN_CONTENDED)] [(.int (1 : Int32))])) (fun _ k => st196 _ k) ?_
      refine Go.of (T' := T196) (f' := (mkF m 81 #[.val (.int p0), .val (.int p1), .val (.int p2), .val (.int (0 : Int32)), .val (.int (1 : Int32)), .val (.int kv), .val (.ref s_OWN), .val (.ref s_OWN_CONTENDED)] [(.int (0 : Int32)), (.int (1 : Int32))])) (fun _ k => XS.iloadN X196.here hx rfl (hb hby at_80) rfl k) ?_
      refine Go.of (T' := T196) (f' := (mkF m 84 #[.val (.int p0), .val (.int p1), .val (.int p2), .val (.int (0 : Int32)), .val (.int (1 : Int32)), .val (.int kv), .val (.ref s_OWN), .val (.ref s_OWN_CONTENDED)] [(.int (1 : Int32))])) (fun _ k => XS.ifNo X196.here hx rfl (hb hby at_81) rfl ((if0 _ _).trans (teq (by decide : (0 : Int32) = (0 : Int32))).2) k) ?_
      refine Go.of (T' := T196) (f' := (mkF m 86 #[.val (.int p0), .val (.int p1), .val (.int p2), .val (.int (0 : Int32)), .val (.int (1 : Int32)), .val (.int kv), .val (.ref s_OWN), .val (.ref s_OWN_CONTENDED)] [(.int (1 : Int32)), (.int (1 : Int32))])) (fun _ k => XS.iload X196.here hx rfl (hb hby at_84) rfl k) ?_
      refine Go.of (T' := T196) (f' := (mkF m 89 #[.val (.int p0), .val (.int p1), .val (.int p2), .val (.int (0 : Int32)), .val (.int (1 : Int32)), .val (.int kv), .val (.ref s_OWN), .val (.ref s_OWN_CONTENDED)] [(.int (1 : Int32))])) (fun _ k => XS.ifNo X196.here hx rfl (hb hby at_86) rfl ((if0 _ _).trans (feq (by decide : ¬ ((1 : Int32) = (0 : Int32)))).1) k) ?_
      refine Go.of (T' := T196) (f' := (mkF m 90 #[.val (.int p0), .val (.int p1), .val (.int p2), .val (.int (0 : Int32)), .val (.int (1 : Int32)), .val (.int kv), .val (.ref s_OWN), .val (.ref s_OWN_CONTENDED)] [(.int (1 : Int32)), (.int (1 : Int32))])) (fun _ k => XS.iconst X196.here hx rfl (hb hby at_89) k) ?_
      refine Go.of (T' := T196) (f' := (mkF m 94 #[.val (.int p0), .val (.int p1), .val (.int p2), .val (.int (0 : Int32)), .val (.int (1 : Int32)), .val (.int kv), .val (.ref s_OWN), .val (.ref s_OWN_CONTENDED)] [(.int (1 : Int32)), (.int (1 : Int32))])) (fun _ k => XS.goto X196.here hx rfl (pc0 := 90) (pc' := 94) rfl (hb hby at_90) (by decide) (by decide) k) ?_
      refine Go.of (T' := T196) (f' := (mkF m 97 #[.val (.int p0), .val (.int p1), .val (.int p2), .val (.int (0 : Int32)), .val (.int (1 : Int32)), .val (.int kv), .val (.ref s_OWN), .val (.ref s_OWN_CONTENDED)] [])) (fun _ k => XS.icmpNo X196.here hx rfl (hb hby at_94) rfl (teq (by decide : (1 : Int32) = (1 : Int32))).2 k) ?_
      refine Go.of (T' := T196) (f' := (mkF m 99 #[.val (.int p0), .val (.int p1), .val (.int p2), .val (.int (0 : Int32)), .val (.int (1 : Int32)), .val (.int kv), .val (.ref s_OWN), .val (.ref s_OWN_CONTENDED)] [(.ref s_OWN_CONTENDED)])) (fun _ k => XS.aload X196.here hx rfl (hb hby at_97) rfl rfl k) ?_
      obtain ⟨T200, v200, L200, X200, q200, st200⟩ := callVi X196 hx hZ (y := (⟨"com/example/mailroom/mailroom/engine/Timeline$Race", "runners", "()Ljava/util/BitSet;"⟩ : MethodName)) (z := (⟨"com/example/mailroom/mailroom/engine/Timeline$Race", "runners", "()Ljava/util/BitSet;"⟩ : MethodName)) hown (hw _ (List.mem_of_getElem? (i := 13) rfl)) (hw _ (List.mem_of_getElem? (i := 14) rfl)) (notFace_of_selects (args := #[]) (mvT hZ (hw _ (List.mem_of_getElem? (i := 16) rfl)))) (hw _ (List.mem_of_getElem? (i := 16) rfl)) (hw _ (List.mem_of_getElem? (i := 15) rfl)) (hw _ (List.mem_of_getElem? (i := 17) rfl)) (hw _ (List.mem_of_getElem? (i := 2) rfl)) (by decide) (rm_runners hw s_OWN s_OWN_runners s_OWN_CONTENDED S_OWN E_s_OWN F_s_OWN_contends F_s_OWN_runners E_s_OWN_runners F_s_OWN_runners_wordsInUse S_OWN_CONTENDED E_s_OWN_CONTENDED F_s_OWN_CONTENDED_contends F_s_OWN_CONTENDED_runners S__assertionsDisabled s_OWN_CONTENDED s_OWN_runners T193.heap O194 (Fld.ext O194 F_s_OWN_CONTENDED_runners)) e196 (W := 0) (by decide) (by decide) (by decide) (by decide) (Exa.ext O194 E_s_OWN_CONTENDED) (g := (mkF m 99 #[.val (.int p0), .val (.int p1), .val (.int p2), .val (.int (0 : Int32)), .val (.int (1 : Int32)), .val (.int kv), .val (.ref s_OWN), .val (.ref s_OWN_CONTENDED)] [(.ref s_OWN_CONTENDED)])) rfl (by rw [hml]; rfl) (argsL := []) (rest := []) (lenOf pd___Ljava_util_BitSet_ rfl) rfl rfl (by show 2 * 0 + _ ≤ _; exact Nat.le_of_eq rfl) (hb hby at_99)
      obtain ⟨rfl, e200, rfl⟩ := q200
      have N200 := Fr.app N196 (Fr.nil _)
      refine Go.of (T' := T200) (f' := (mkF m 102 #[.val (.int p0), .val (.int p1), .val (.int p2), .val (.int (0 : Int32)), .val (.int (1 : Int32)), .val (.int kv), .val (.ref s_OWN), .val (.ref s_OWN_CONTENDED)] [(.ref s_OWN_runners)])) (fun _ k => st200 _ k) ?_
      obtain ⟨T201, v201, L201, X201, q201, st201⟩ := callVi X200 hx hZ (y := (⟨"java/util/BitSet", "isEmpty", "()Z"⟩ : MethodName)) (z := (⟨"java/util/BitSet", "isEmpty", "()Z"⟩ : MethodName)) hown (hw _ (List.mem_of_getElem? (i := 20) rfl)) (hw _ (List.mem_of_getElem? (i := 21) rfl)) (notFace_of_selects (args := #[]) (mvT hZ (hw _ (List.mem_of_getElem? (i := 23) rfl)))) (hw _ (List.mem_of_getElem? (i := 23) rfl)) (hw _ (List.mem_of_getElem? (i := 22) rfl)) (hw _ (List.mem_of_getElem? (i := 25) rfl)) (hw _ (List.mem_of_getElem? (i := 24) rfl)) (by decide) (rm_empty1 hw s_OWN s_OWN_runners s_OWN_CONTENDED S_OWN E_s_OWN F_s_OWN_contends F_s_OWN_runners E_s_OWN_runners F_s_OWN_runners_wordsInUse S_OWN_CONTENDED E_s_OWN_CONTENDED F_s_OWN_CONTENDED_contends F_s_OWN_CONTENDED_runners S__assertionsDisabled s_OWN_runners  T193.heap O194 (Fld.ext O194 F_s_OWN_runners_wordsInUse)) e200 (W := 0) (by decide) (by decide) (by decide) (by decide) (Exa.ext O194 E_s_OWN_runners) (g := (mkF m 102 #[.val (.int p0), .val (.int p1), .val (.int p2), .val (.int (0 : Int32)), .val (.int (1 : Int32)), .val (.int kv), .val (.ref s_OWN), .val (.ref s_OWN_CONTENDED)] [(.ref s_OWN_runners)])) rfl (by rw [hml]; rfl) (argsL := []) (rest := []) (lenOf pd___Z rfl) rfl rfl (by show 2 * 0 + _ ≤ _; exact Nat.le_of_eq rfl) (hb hby at_102)
      obtain ⟨rfl, e201, rfl⟩ := q201
      have N201 := Fr.app N200 (Fr.nil _)
      refine Go.of (T' := T201) (f' := (mkF m 105 #[.val (.int p0), .val (.int p1), .val (.int p2), .val (.int (0 : Int32)), .val (.int (1 : Int32)), .val (.int kv), .val (.ref s_OWN), .val (.ref s_OWN_CONTENDED)] [(.int (1 : Int32))])) (fun _ k => st201 _ k) ?_
      refine Go.of (T' := T201) (f' := (mkF m 108 #[.val (.int p0), .val (.int p1), .val (.int p2), .val (.int (0 : Int32)), .val (.int (1 : Int32)), .val (.int kv), .val (.ref s_OWN), .val (.ref s_OWN_CONTENDED)] [])) (fun _ k => XS.ifNo X201.here hx rfl (hb hby at_105) rfl ((if0 _ _).trans (feq (by decide : ¬ ((1 : Int32) = (0 : Int32)))).1) k) ?_
      refine Go.of (T' := T201) (f' := (mkF m 109 #[.val (.int p0), .val (.int p1), .val (.int p2), .val (.int (0 : Int32)), .val (.int (1 : Int32)), .val (.int kv), .val (.ref s_OWN), .val (.ref s_OWN_CONTENDED)] [(.int (1 : Int32))])) (fun _ k => XS.iconst X201.here hx rfl (hb hby at_108) k) ?_
      refine Go.of (T' := T201) (f' := (mkF m 113 #[.val (.int p0), .val (.int p1), .val (.int p2), .val (.int (0 : Int32)), .val (.int (1 : Int32)), .val (.int kv), .val (.ref s_OWN), .val (.ref s_OWN_CONTENDED)] [(.int (1 : Int32))])) (fun _ k => XS.goto X201.here hx rfl (pc0 := 109) (pc' := 113) rfl (hb hby at_109) (by decide) (by decide) k) ?_
      exact Go.retB X201 hx hlk hret (by simp) (hb hby at_113) (by decide) (by decide) (z' := (1 : Int32)) rfl (by rw [e201]; exact ⟨rfl, N201, K194⟩)
  · skip
    refine Go.of (T' := T0) (f' := (mkF m 6 #[.val (.int p0), .val (.int p1), .val (.int p2), .unset, .unset, .unset, .unset, .unset] [])) (fun _ k => XS.ifNo X0.here hx rfl (hb hby at_3) rfl ((if0 _ _).trans (feq hc169).1) k) ?_
    refine Go.of (T' := T0) (f' := (mkF m 7 #[.val (.int p0), .val (.int p1), .val (.int p2), .unset, .unset, .unset, .unset, .unset] [(.int (1 : Int32))])) (fun _ k => XS.iconst X0.here hx rfl (hb hby at_6) k) ?_
    refine Go.of (T' := T0) (f' := (mkF m 11 #[.val (.int p0), .val (.int p1), .val (.int p2), .unset, .unset, .unset, .unset, .unset] [(.int (1 : Int32))])) (fun _ k => XS.goto X0.here hx rfl (pc0 := 7) (pc' := 11) rfl (hb hby at_7) (by decide) (by decide) k) ?_
    refine Go.of (T' := T0) (f' := (mkF m 12 #[.val (.int p0), .val (.int p1), .val (.int p2), .val (.int (1 : Int32)), .unset, .unset, .unset, .unset] [])) (fun _ k => XS.istoreN X0.here hx rfl (hb hby at_11) rfl (l' := #[.val (.int p0), .val (.int p1), .val (.int p2), .val (.int (1 : Int32)), .unset, .unset, .unset, .unset]) rfl k) ?_
    refine Go.of (T' := T0) (f' := (mkF m 13 #[.val (.int p0), .val (.int p1), .val (.int p2), .val (.int (1 : Int32)), .unset, .unset, .unset, .unset] [(.int p1)])) (fun _ k => XS.iloadN X0.here hx rfl (hb hby at_12) rfl k) ?_
    refine Go.of (T' := T0) (f' := (mkF m 14 #[.val (.int p0), .val (.int p1), .val (.int p2), .val (.int (1 : Int32)), .unset, .unset, .unset, .unset] [(.int (1 : Int32)), (.int p1)])) (fun _ k => XS.iconst X0.here hx rfl (hb hby at_13) k) ?_
    refine Go.of (T' := T0) (f' := (mkF m 15 #[.val (.int p0), .val (.int p1), .val (.int p2), .val (.int (1 : Int32)), .unset, .unset, .unset, .unset] [(.int (p1 &&& (1 : Int32)))])) (fun _ k => XS.iand X0.here hx rfl (hb hby at_14) rfl k) ?_
    by_cases hc203 : (p1 &&& (1 : Int32)) = (0 : Int32)
    · skip
      refine Go.of (T' := T0) (f' := (mkF m 22 #[.val (.int p0), .val (.int p1), .val (.int p2), .val (.int (1 : Int32)), .unset, .unset, .unset, .unset] [])) (fun _ k => XS.ifYes X0.here hx rfl (pc0 := 15) (pc' := 22) rfl (hb hby at_15) rfl ((if0 _ _).trans (teq hc203).1) (by decide) (by decide) k) ?_
      refine Go.of (T' := T0) (f' := (mkF m 23 #[.val (.int p0), .val (.int p1), .val (.int p2), .val (.int (1 : Int32)), .unset, .unset, .unset, .unset] [(.int (0 : Int32))])) (fun _ k => XS.iconst X0.here hx rfl (hb hby at_22) k) ?_
      refine Go.of (T' := T0) (f' := (mkF m 25 #[.val (.int p0), .val (.int p1), .val (.int p2), .val (.int (1 : Int32)), .val (.int (0 : Int32)), .unset, .unset, .unset] [])) (fun _ k => XS.istore X0.here hx rfl (hb hby at_23) rfl (l' := #[.val (.int p0), .val (.int p1), .val (.int p2), .val (.int (1 : Int32)), .val (.int (0 : Int32)), .unset, .unset, .unset]) rfl k) ?_
      refine Go.of (T' := T0) (f' := (mkF m 26 #[.val (.int p0), .val (.int p1), .val (.int p2), .val (.int (1 : Int32)), .val (.int (0 : Int32)), .unset, .unset, .unset] [(.int p2)])) (fun _ k => XS.iloadN X0.here hx rfl (hb hby at_25) rfl k) ?_
      refine Go.of (T' := T0) (f' := (mkF m 28 #[.val (.int p0), .val (.int p1), .val (.int p2), .val (.int (1 : Int32)), .val (.int (0 : Int32)), .unset, .unset, .unset] [(.int (63 : Int32)), (.int p2)])) (fun _ k => XS.bipush X0.here hx rfl (hb hby at_26) k) ?_
      refine Go.of (T' := T0) (f' := (mkF m 29 #[.val (.int p0), .val (.int p1), .val (.int p2), .val (.int (1 : Int32)), .val (.int (0 : Int32)), .unset, .unset, .unset] [(.int (p2 &&& (63 : Int32)))])) (fun _ k => XS.iand X0.here hx rfl (hb hby at_28) rfl k) ?_
      generalize hk : ((p2 &&& (63 : Int32)) : Int32) = kv
      refine Go.of (T' := T0) (f' := (mkF m 31 #[.val (.int p0), .val (.int p1), .val (.int p2), .val (.int (1 : Int32)), .val (.int (0 : Int32)), .val (.int kv), .unset, .unset] [])) (fun _ k => XS.istore X0.here hx rfl (hb hby at_29) rfl (l' := #[.val (.int p0), .val (.int p1), .val (.int p2), .val (.int (1 : Int32)), .val (.int (0 : Int32)), .val (.int kv), .unset, .unset]) rfl k) ?_
      obtain ⟨hk1, hk0⟩ := own_k p2
      rw [hk] at hk1 hk0
      refine Go.of (T' := T0) (f' := (mkF m 32 #[.val (.int p0), .val (.int p1), .val (.int p2), .val (.int (1 : Int32)), .val (.int (0 : Int32)), .val (.int kv), .unset, .unset] [(.int (1 : Int32))])) (fun _ k => XS.iloadN X0.here hx rfl (hb hby at_31) rfl k) ?_
      obtain ⟨T204, v204, L204, X204, q204, st204⟩ := callSt X0 hx hZ (y := (⟨"com/example/mailroom/mailroom/engine/Timeline$Race", "own", "(Z)Lcom/example/mailroom/mailroom/engine/Timeline$Race;"⟩ : MethodName)) hown (hw _ (List.mem_of_getElem? (i := 0) rfl)) (hw _ (List.mem_of_getElem? (i := 1) rfl)) (hw _ (List.mem_of_getElem? (i := 2) rfl)) (hw _ (List.mem_of_getElem? (i := 3) rfl)) (by decide) (rm_own1 hw s_OWN s_OWN_runners s_OWN_CONTENDED S_OWN E_s_OWN F_s_OWN_contends F_s_OWN_runners E_s_OWN_runners F_s_OWN_runners_wordsInUse S_OWN_CONTENDED E_s_OWN_CONTENDED F_s_OWN_CONTENDED_contends F_s_OWN_CONTENDED_runners S__assertionsDisabled   h0 O0 ) e0 (W := 0) (by decide) (by decide) (by decide) (by decide) (g := (mkF m 32 #[.val (.int p0), .val (.int p1), .val (.int p2), .val (.int (1 : Int32)), .val (.int (0 : Int32)), .val (.int kv), .unset, .unset] [(.int (1 : Int32))])) rfl (by rw [hml]; rfl) (argsL := [(.int (1 : Int32))]) (rest := []) (lenOf pd__Z_Lcom_example_mailroom_mailroom_engine_Timeline_Race_ rfl) rfl rfl (by show 2 * 0 + _ ≤ _; exact Nat.le_of_eq rfl) (hb hby at_32)
      obtain ⟨rfl, e204, rfl⟩ := q204
      have N204 := Fr.app N0 (Fr.nil _)
      refine Go.of (T' := T204) (f' := (mkF m 35 #[.val (.int p0), .val (.int p1), .val (.int p2), .val (.int (1 : Int32)), .val (.int (0 : Int32)), .val (.int kv), .unset, .unset] [(.ref s_OWN_CONTENDED)])) (fun _ k => st204 _ k) ?_
      refine Go.of (T' := T204) (f' := (mkF m 37 #[.val (.int p0), .val (.int p1), .val (.int p2), .val (.int (1 : Int32)), .val (.int (0 : Int32)), .val (.int kv), .val (.ref s_OWN_CONTENDED), .unset] [])) (fun _ k => XS.astore X204.here hx rfl (hb hby at_35) rfl rfl (l' := #[.val (.int p0), .val (.int p1), .val (.int p2), .val (.int (1 : Int32)), .val (.int (0 : Int32)), .val (.int kv), .val (.ref s_OWN_CONTENDED), .unset]) rfl k) ?_
      refine Go.of (T' := T204) (f' := (mkF m 39 #[.val (.int p0), .val (.int p1), .val (.int p2), .val (.int (1 : Int32)), .val (.int (0 : Int32)), .val (.int kv), .val (.ref s_OWN_CONTENDED), .unset] [(.ref s_OWN_CONTENDED)])) (fun _ k => XS.aload X204.here hx rfl (hb hby at_37) rfl rfl k) ?_
      obtain ⟨T205, v205, L205, X205, q205, st205⟩ := callVi X204 hx hZ (y := (⟨"com/example/mailroom/mailroom/engine/Timeline$Race", "contends", "()Z"⟩ : MethodName)) (z := (⟨"com/example/mailroom/mailroom/engine/Timeline$Race", "contends", "()Z"⟩ : MethodName)) hown (hw _ (List.mem_of_getElem? (i := 6) rfl)) (hw _ (List.mem_of_getElem? (i := 7) rfl)) (notFace_of_selects (args := #[]) (mvT hZ (hw _ (List.mem_of_getElem? (i := 9) rfl)))) (hw _ (List.mem_of_getElem? (i := 9) rfl)) (hw _ (List.mem_of_getElem? (i := 8) rfl)) (hw _ (List.mem_of_getElem? (i := 10) rfl)) (hw _ (List.mem_of_getElem? (i := 2) rfl)) (by decide) (rm_cont1 hw s_OWN s_OWN_runners s_OWN_CONTENDED S_OWN E_s_OWN F_s_OWN_contends F_s_OWN_runners E_s_OWN_runners F_s_OWN_runners_wordsInUse S_OWN_CONTENDED E_s_OWN_CONTENDED F_s_OWN_CONTENDED_contends F_s_OWN_CONTENDED_runners S__assertionsDisabled s_OWN_CONTENDED  h0 O0 (Fld.ext O0 F_s_OWN_CONTENDED_contends)) e204 (W := 0) (by decide) (by decide) (by decide) (by decide) (Exa.ext O0 E_s_OWN_CONTENDED) (g := (mkF m 39 #[.val (.int p0), .val (.int p1), .val (.int p2), .val (.int (1 : Int32)), .val (.int (0 : Int32)), .val (.int kv), .val (.ref s_OWN_CONTENDED), .unset] [(.ref s_OWN_CONTENDED)])) rfl (by rw [hml]; rfl) (argsL := []) (rest := []) (lenOf pd___Z rfl) rfl rfl (by show 2 * 0 + _ ≤ _; exact Nat.le_of_eq rfl) (hb hby at_39)
      obtain ⟨rfl, e205, rfl⟩ := q205
      have N205 := Fr.app N204 (Fr.nil _)
      refine Go.of (T' := T205) (f' := (mkF m 42 #[.val (.int p0), .val (.int p1), .val (.int p2), .val (.int (1 : Int32)), .val (.int (0 : Int32)), .val (.int kv), .val (.ref s_OWN_CONTENDED), .unset] [(.int (1 : Int32))])) (fun _ k => st205 _ k) ?_
      refine Go.of (T' := T205) (f' := (mkF m 43 #[.val (.int p0), .val (.int p1), .val (.int p2), .val (.int (1 : Int32)), .val (.int (0 : Int32)), .val (.int kv), .val (.ref s_OWN_CONTENDED), .unset] [(.int (1 : Int32)), (.int (1 : Int32))])) (fun _ k => XS.iloadN X205.here hx rfl (hb hby at_42) rfl k) ?_
      refine Go.of (T' := T205) (f' := (mkF m 48 #[.val (.int p0), .val (.int p1), .val (.int p2), .val (.int (1 : Int32)), .val (.int (0 : Int32)), .val (.int kv), .val (.ref s_OWN_CONTENDED), .unset] [])) (fun _ k => XS.icmpYes X205.here hx rfl (pc0 := 43) (pc' := 48) rfl (hb hby at_43) rfl (teq (by decide : (1 : Int32) = (1 : Int32))).1 (by decide) (by decide) k) ?_
      refine Go.of (T' := T205) (f' := (mkF m 50 #[.val (.int p0), .val (.int p1), .val (.int p2), .val (.int (1 : Int32)), .val (.int (0 : Int32)), .val (.int kv), .val (.ref s_OWN_CONTENDED), .unset] [(.ref s_OWN_CONTENDED)])) (fun _ k => XS.aload X205.here hx rfl (hb hby at_48) rfl rfl k) ?_
      obtain ⟨T207, v207, L207, X207, q207, st207⟩ := callVi X205 hx hZ (y := (⟨"com/example/mailroom/mailroom/engine/Timeline$Race", "runners", "()Ljava/util/BitSet;"⟩ : MethodName)) (z := (⟨"com/example/mailroom/mailroom/engine/Timeline$Race", "runners", "()Ljava/util/BitSet;"⟩ : MethodName)) hown (hw _ (List.mem_of_getElem? (i := 13) rfl)) (hw _ (List.mem_of_getElem? (i := 14) rfl)) (notFace_of_selects (args := #[]) (mvT hZ (hw _ (List.mem_of_getElem? (i := 16) rfl)))) (hw _ (List.mem_of_getElem? (i := 16) rfl)) (hw _ (List.mem_of_getElem? (i := 15) rfl)) (hw _ (List.mem_of_getElem? (i := 17) rfl)) (hw _ (List.mem_of_getElem? (i := 2) rfl)) (by decide) (rm_runners hw s_OWN s_OWN_runners s_OWN_CONTENDED S_OWN E_s_OWN F_s_OWN_contends F_s_OWN_runners E_s_OWN_runners F_s_OWN_runners_wordsInUse S_OWN_CONTENDED E_s_OWN_CONTENDED F_s_OWN_CONTENDED_contends F_s_OWN_CONTENDED_runners S__assertionsDisabled s_OWN_CONTENDED s_OWN_runners h0 O0 (Fld.ext O0 F_s_OWN_CONTENDED_runners)) e205 (W := 0) (by decide) (by decide) (by decide) (by decide) (Exa.ext O0 E_s_OWN_CONTENDED) (g := (mkF m 50 #[.val (.int p0), .val (.int p1), .val (.int p2), .val (.int (1 : Int32)), .val (.int (0 : Int32)), .val (.int kv), .val (.ref s_OWN_CONTENDED), .unset] [(.ref s_OWN_CONTENDED)])) rfl (by rw [hml]; rfl) (argsL := []) (rest := []) (lenOf pd___Ljava_util_BitSet_ rfl) rfl rfl (by show 2 * 0 + _ ≤ _; exact Nat.le_of_eq rfl) (hb hby at_50)
      obtain ⟨rfl, e207, rfl⟩ := q207
      have N207 := Fr.app N205 (Fr.nil _)
      refine Go.of (T' := T207) (f' := (mkF m 53 #[.val (.int p0), .val (.int p1), .val (.int p2), .val (.int (1 : Int32)), .val (.int (0 : Int32)), .val (.int kv), .val (.ref s_OWN_CONTENDED), .unset] [(.ref s_OWN_runners)])) (fun _ k => st207 _ k) ?_
      obtain ⟨T208, v208, L208, X208, q208, st208⟩ := callVi X207 hx hZ (y := (⟨"java/util/BitSet", "isEmpty", "()Z"⟩ : MethodName)) (z := (⟨"java/util/BitSet", "isEmpty", "()Z"⟩ : MethodName)) hown (hw _ (List.mem_of_getElem? (i := 20) rfl)) (hw _ (List.mem_of_getElem? (i := 21) rfl)) (notFace_of_selects (args := #[]) (mvT hZ (hw _ (List.mem_of_getElem? (i := 23) rfl)))) (hw _ (List.mem_of_getElem? (i := 23) rfl)) (hw _ (List.mem_of_getElem? (i := 22) rfl)) (hw _ (List.mem_of_getElem? (i := 25) rfl)) (hw _ (List.mem_of_getElem? (i := 24) rfl)) (by decide) (rm_empty1 hw s_OWN s_OWN_runners s_OWN_CONTENDED S_OWN E_s_OWN F_s_OWN_contends F_s_OWN_runners E_s_OWN_runners F_s_OWN_runners_wordsInUse S_OWN_CONTENDED E_s_OWN_CONTENDED F_s_OWN_CONTENDED_contends F_s_OWN_CONTENDED_runners S__assertionsDisabled s_OWN_runners  h0 O0 (Fld.ext O0 F_s_OWN_runners_wordsInUse)) e207 (W := 0) (by decide) (by decide) (by decide) (by decide) (Exa.ext O0 E_s_OWN_runners) (g := (mkF m 53 #[.val (.int p0), .val (.int p1), .val (.int p2), .val (.int (1 : Int32)), .val (.int (0 : Int32)), .val (.int kv), .val (.ref s_OWN_CONTENDED), .unset] [(.ref s_OWN_runners)])) rfl (by rw [hml]; rfl) (argsL := []) (rest := []) (lenOf pd___Z rfl) rfl rfl (by show 2 * 0 + _ ≤ _; exact Nat.le_of_eq rfl) (hb hby at_53)
      obtain ⟨rfl, e208, rfl⟩ := q208
      have N208 := Fr.app N207 (Fr.nil _)
      refine Go.of (T' := T208) (f' := (mkF m 56 #[.val (.int p0), .val (.int p1), .val (.int p2), .val (.int (1 : Int32)), .val (.int (0 : Int32)), .val (.int kv), .val (.ref s_OWN_CONTENDED), .unset] [(.int (1 : Int32))])) (fun _ k => st208 _ k) ?_
      refine Go.of (T' := T208) (f' := (mkF m 61 #[.val (.int p0), .val (.int p1), .val (.int p2), .val (.int (1 : Int32)), .val (.int (0 : Int32)), .val (.int kv), .val (.ref s_OWN_CONTENDED), .unset] [])) (fun _ k => XS.ifYes X208.here hx rfl (pc0 := 56) (pc' := 61) rfl (hb hby at_56) rfl ((if0 _ _).trans (feq (by decide : ¬ ((1 : Int32) = (0 : Int32)))).2) (by decide) (by decide) k) ?_
      refine Go.of (T' := T208) (f' := (mkF m 63 #[.val (.int p0), .val (.int p1), .val (.int p2), .val (.int (1 : Int32)), .val (.int (0 : Int32)), .val (.int kv), .val (.ref s_OWN_CONTENDED), .unset] [(.int kv)])) (fun _ k => XS.iload X208.here hx rfl (hb hby at_61) rfl k) ?_
      refine Go.of (T' := T208) (f' := (mkF m 65 #[.val (.int p0), .val (.int p1), .val (.int p2), .val (.int (1 : Int32)), .val (.int (0 : Int32)), .val (.int kv), .val (.ref s_OWN_CONTENDED), .unset] [(.int (0 : Int32)), (.int kv)])) (fun _ k => XS.iload X208.here hx rfl (hb hby at_63) rfl k) ?_
      obtain ⟨T210, v210, L210, X210, q210, st210⟩ := callSt X208 hx hZ (y := (⟨"com/example/mailroom/mailroom/engine/Timeline$Race", "through", "(IZ)Lcom/example/mailroom/mailroom/engine/Timeline$Race;"⟩ : MethodName)) hown (hw _ (List.mem_of_getElem? (i := 28) rfl)) (hw _ (List.mem_of_getElem? (i := 29) rfl)) (hw _ (List.mem_of_getElem? (i := 2) rfl)) (hw _ (List.mem_of_getElem? (i := 30) rfl)) (by decide) (rm_through0 hw s_OWN s_OWN_runners s_OWN_CONTENDED S_OWN E_s_OWN F_s_OWN_contends F_s_OWN_runners E_s_OWN_runners F_s_OWN_runners_wordsInUse S_OWN_CONTENDED E_s_OWN_CONTENDED F_s_OWN_CONTENDED_contends F_s_OWN_CONTENDED_runners S__assertionsDisabled kv  h0 O0 (hk1) (hk0)) e208 (W := 0) (by decide) (by decide) (by decide) (by decide) (g := (mkF m 65 #[.val (.int p0), .val (.int p1), .val (.int p2), .val (.int (1 : Int32)), .val (.int (0 : Int32)), .val (.int kv), .val (.ref s_OWN_CONTENDED), .unset] [(.int (0 : Int32)), (.int kv)])) rfl (by rw [hml]; rfl) (argsL := [(.int kv), (.int (0 : Int32))]) (rest := []) (lenOf pd__IZ_Lcom_example_mailroom_mailroom_engine_Timeline_Race_ rfl) rfl rfl (by show 2 * 0 + _ ≤ _; exact Nat.le_of_eq rfl) (hb hby at_65)
      obtain ⟨ob_210, bs_210, rfl, N210q, K210q, p210_0, p210_1, p210_2, p210_3, p210_4, p210_5, p210_6⟩ := q210
      have N210 := Fr.app N208 N210q
      have O211 := Old0.keep O0 K210q all0
      have K211 := Keep.trans K0 K210q all0
      have z_ob_210 : h0.size ≤ ob_210 := Nat.le_trans K0.1 p210_0
      have g_ob_210 : Z.heap.size ≤ ob_210 := Nat.le_trans O0.1 p210_0
      have z_bs_210 : h0.size ≤ bs_210 := Nat.le_trans K0.1 p210_1
      have g_bs_210 : Z.heap.size ≤ bs_210 := Nat.le_trans O0.1 p210_1
      refine Go.of (T' := T210) (f' := (mkF m 68 #[.val (.int p0), .val (.int p1), .val (.int p2), .val (.int (1 : Int32)), .val (.int (0 : Int32)), .val (.int kv), .val (.ref s_OWN_CONTENDED), .unset] [(.ref ob_210)])) (fun _ k => st210 _ k) ?_
      refine Go.of (T' := T210) (f' := (mkF m 70 #[.val (.int p0), .val (.int p1), .val (.int p2), .val (.int (1 : Int32)), .val (.int (0 : Int32)), .val (.int kv), .val (.ref s_OWN_CONTENDED), .unset] [(.ref s_OWN_CONTENDED), (.ref ob_210)])) (fun _ k => XS.aload X210.here hx rfl (hb hby at_68) rfl rfl k) ?_
      obtain ⟨T212, v212, L212, X212, q212, st212⟩ := callSt X210 hx hZ (y := (⟨"com/example/mailroom/mailroom/engine/Timeline$Race", "join", "(Lcom/example/mailroom/mailroom/engine/Timeline$Race;Lcom/example/mailroom/mailroom/engine/Timeline$Race;)Lcom/example/mailroom/mailroom/engine/Timeline$Race;"⟩ : MethodName)) hown (hw _ (List.mem_of_getElem? (i := 84) rfl)) (hw _ (List.mem_of_getElem? (i := 85) rfl)) (hw _ (List.mem_of_getElem? (i := 2) rfl)) (hw _ (List.mem_of_getElem? (i := 86) rfl)) (by decide) (rm_join01 hw s_OWN s_OWN_runners s_OWN_CONTENDED S_OWN E_s_OWN F_s_OWN_contends F_s_OWN_runners E_s_OWN_runners F_s_OWN_runners_wordsInUse S_OWN_CONTENDED E_s_OWN_CONTENDED F_s_OWN_CONTENDED_contends F_s_OWN_CONTENDED_runners S__assertionsDisabled ob_210 bs_210 T210.heap O211 p210_3 p210_4 p210_5 p210_6) rfl (W := 0) (by decide) (by decide) (by decide) (by decide) (g := (mkF m 70 #[.val (.int p0), .val (.int p1), .val (.int p2), .val (.int (1 : Int32)), .val (.int (0 : Int32)), .val (.int kv), .val (.ref s_OWN_CONTENDED), .unset] [(.ref s_OWN_CONTENDED), (.ref ob_210)])) rfl (by rw [hml]; rfl) (argsL := [(.ref ob_210), (.ref s_OWN_CONTENDED)]) (rest := []) (lenOf pd__Lcom_example_mailroom_mailroom_engine_Timeline_Race_Lcom_example_mailroom_mailroom_engine_Timeline_Race__Lcom_example_mailroom_mailroom_engine_Timeline_Race_ rfl) rfl rfl (by show 2 * 0 + _ ≤ _; exact Nat.le_of_eq rfl) (hb hby at_70)
      obtain ⟨rfl, e212, rfl⟩ := q212
      have N212 := Fr.app N210 (Fr.nil _)
      refine Go.of (T' := T212) (f' := (mkF m 73 #[.val (.int p0), .val (.int p1), .val (.int p2), .val (.int (1 : Int32)), .val (.int (0 : Int32)), .val (.int kv), .val (.ref s_OWN_CONTENDED), .unset] [(.ref s_OWN_CONTENDED)])) (fun _ k => st212 _ k) ?_
      refine Go.of (T' := T212) (f' := (mkF m 75 #[.val (.int p0), .val (.int p1), .val (.int p2), .val (.int (1 : Int32)), .val (.int (0 : Int32)), .val (.int kv), .val (.ref s_OWN_CONTENDED), .val (.ref s_OWN_CONTENDED)] [])) (fun _ k => XS.astore X212.here hx rfl (hb hby at_73) rfl rfl (l' := #[.val (.int p0), .val (.int p1), .val (.int p2), .val (.int (1 : Int32)), .val (.int (0 : Int32)), .val (.int kv), .val (.ref s_OWN_CONTENDED), .val (.ref s_OWN_CONTENDED)]) rfl k) ?_
      refine Go.of (T' := T212) (f' := (mkF m 77 #[.val (.int p0), .val (.int p1), .val (.int p2), .val (.int (1 : Int32)), .val (.int (0 : Int32)), .val (.int kv), .val (.ref s_OWN_CONTENDED), .val (.ref s_OWN_CONTENDED)] [(.ref s_OWN_CONTENDED)])) (fun _ k => XS.aload X212.here hx rfl (hb hby at_75) rfl rfl k) ?_
      obtain ⟨T213, v213, L213, X213, q213, st213⟩ := callVi X212 hx hZ (y := (⟨"com/example/mailroom/mailroom/engine/Timeline$Race", "contends", "()Z"⟩ : MethodName)) (z := (⟨"com/example/mailroom/mailroom/engine/Timeline$Race", "contends", "()Z"⟩ : MethodName)) hown (hw _ (List.mem_of_getElem? (i := 6) rfl)) (hw _ (List.mem_of_getElem? (i := 7) rfl)) (notFace_of_selects (args := #[]) (mvT hZ (hw _ (List.mem_of_getElem? (i := 9) rfl)))) (hw _ (List.mem_of_getElem? (i := 9) rfl)) (hw _ (List.mem_of_getElem? (i := 8) rfl)) (hw _ (List.mem_of_getElem? (i := 10) rfl)) (hw _ (List.mem_of_getElem? (i := 2) rfl)) (by decide) (rm_cont1 hw s_OWN s_OWN_runners s_OWN_CONTENDED S_OWN E_s_OWN F_s_OWN_contends F_s_OWN_runners E_s_OWN_runners F_s_OWN_runners_wordsInUse S_OWN_CONTENDED E_s_OWN_CONTENDED F_s_OWN_CONTENDED_contends F_s_OWN_CONTENDED_runners S__assertionsDisabled s_OWN_CONTENDED  T210.heap O211 (Fld.ext O211 F_s_OWN_CONTENDED_contends)) e212 (W := 0) (by decide) (by decide) (by decide) (by decide) (Exa.ext O211 E_s_OWN_CONTENDED) (g := (mkF m 77 #[.val (.int p0), .val (.int p1), .val (.int p2), .val (.int (1 : Int32)), .val (.int (0 : Int32)), .val (.int kv), .val (.ref s_OWN_CONTENDED), .val (.ref s_OWN_CONTENDED)] [(.ref s_OWN_CONTENDED)])) rfl (by rw [hml]; rfl) (argsL := []) (rest := []) (lenOf pd___Z rfl) rfl rfl (by show 2 * 0 + _ ≤ _; exact Nat.le_of_eq rfl) (hb hby at_77)
      obtain ⟨rfl, e213, rfl⟩ := q213
      have N213 := Fr.app N212 (Fr.nil _)
      refine Go.of (T' := T213) (f' := (mkF m 80 #[.val (.int p0), .val (.int p1), .val (.int p2), .val (.int (1 : Int32)), .val (.int (0 : Int32)), .val (.int kv), .val (.ref s_OWN_CONTENDED), .val (.ref s_OWN_CONTENDED)] [(.int (1 : Int32))])) (fun _ k => st213 _ k) ?_
      refine Go.of (T' := T213) (f' := (mkF m 81 #[.val (.int p0), .val (.int p1), .val (.int p2), .val (.int (1 : Int32)), .val (.int (0 : Int32)), .val (.int kv), .val (.ref s_OWN_CONTENDED), .val (.ref s_OWN_CONTENDED)] [(.int (1 : Int32)), (.int (1 : Int32))])) (fun _ k => XS.iloadN X213.here hx rfl (hb hby at_80) rfl k) ?_
      refine Go.of (T' := T213) (f' := (mkF m 89 #[.val (.int p0), .val (.int p1), .val (.int p2), .val (.int (1 : Int32)), .val (.int (0 : Int32)), .val (.int kv), .val (.ref s_OWN_CONTENDED), .val (.ref s_OWN_CONTENDED)] [(.int (1 : Int32))])) (fun _ k => XS.ifYes X213.here hx rfl (pc0 := 81) (pc' := 89) rfl (hb hby at_81) rfl ((if0 _ _).trans (feq (by decide : ¬ ((1 : Int32) = (0 : Int32)))).2) (by decide) (by decide) k) ?_
      refine Go.of (T' := T213) (f' := (mkF m 90 #[.val (.int p0), .val (.int p1), .val (.int p2), .val (.int (1 : Int32)), .val (.int (0 : Int32)), .val (.int kv), .val (.ref s_OWN_CONTENDED), .val (.ref s_OWN_CONTENDED)] [(.int (1 : Int32)), (.int (1 : Int32))])) (fun _ k => XS.iconst X213.here hx rfl (hb hby at_89) k) ?_
      refine Go.of (T' := T213) (f' := (mkF m 94 #[.val (.int p0), .val (.int p1), .val (.int p2), .val (.int (1 : Int32)), .val (.int (0 : Int32)), .val (.int kv), .val (.ref s_OWN_CONTENDED), .val (.ref s_OWN_CONTENDED)] [(.int (1 : Int32)), (.int (1 : Int32))])) (fun _ k => XS.goto X213.here hx rfl (pc0 := 90) (pc' := 94) rfl (hb hby at_90) (by decide) (by decide) k) ?_
      refine Go.of (T' := T213) (f' := (mkF m 97 #[.val (.int p0), .val (.int p1), .val (.int p2), .val (.int (1 : Int32)), .val (.int (0 : Int32)), .val (.int kv), .val (.ref s_OWN_CONTENDED), .val (.ref s_OWN_CONTENDED)] [])) (fun _ k => XS.icmpNo X213.here hx rfl (hb hby at_94) rfl (teq (by decide : (1 : Int32) = (1 : Int32))).2 k) ?_
      refine Go.of (T' := T213) (f' := (mkF m 99 #[.val (.int p0), .val (.int p1), .val (.int p2), .val (.int (1 : Int32)), .val (.int (0 : Int32)), .val (.int kv), .val (.ref s_OWN_CONTENDED), .val (.ref s_OWN_CONTENDED)] [(.ref s_OWN_CONTENDED)])) (fun _ k => XS.aload X213.here hx rfl (hb hby at_97) rfl rfl k) ?_
      obtain ⟨T216, v216, L216, X216, q216, st216⟩ := callVi X213 hx hZ (y := (⟨"com/example/mailroom/mailroom/engine/Timeline$Race", "runners", "()Ljava/util/BitSet;"⟩ : MethodName)) (z := (⟨"com/example/mailroom/mailroom/engine/Timeline$Race", "runners", "()Ljava/util/BitSet;"⟩ : MethodName)) hown (hw _ (List.mem_of_getElem? (i := 13) rfl)) (hw _ (List.mem_of_getElem? (i := 14) rfl)) (notFace_of_selects (args := #[]) (mvT hZ (hw _ (List.mem_of_getElem? (i := 16) rfl)))) (hw _ (List.mem_of_getElem? (i := 16) rfl)) (hw _ (List.mem_of_getElem? (i := 15) rfl)) (hw _ (List.mem_of_getElem? (i := 17) rfl)) (hw _ (List.mem_of_getElem? (i := 2) rfl)) (by decide) (rm_runners hw s_OWN s_OWN_runners s_OWN_CONTENDED S_OWN E_s_OWN F_s_OWN_contends F_s_OWN_runners E_s_OWN_runners F_s_OWN_runners_wordsInUse S_OWN_CONTENDED E_s_OWN_CONTENDED F_s_OWN_CONTENDED_contends F_s_OWN_CONTENDED_runners S__assertionsDisabled s_OWN_CONTENDED s_OWN_runners T210.heap O211 (Fld.ext O211 F_s_OWN_CONTENDED_runners)) e213 (W := 0) (by decide) (by decide) (by decide) (by decide) (Exa.ext O211 E_s_OWN_CONTENDED) (g := (mkF m 99 #[.val (.int p0), .val (.int p1), .val (.int p2), .val (.int (1 : Int32)), .val (.int (0 : Int32)), .val (.int kv), .val (.ref s_OWN_CONTENDED), .val (.ref s_OWN_CONTENDED)] [(.ref s_OWN_CONTENDED)])) rfl (by rw [hml]; rfl) (argsL := []) (rest := []) (lenOf pd___Ljava_util_BitSet_ rfl) rfl rfl (by show 2 * 0 + _ ≤ _; exact Nat.le_of_eq rfl) (hb hby at_99)
      obtain ⟨rfl, e216, rfl⟩ := q216
      have N216 := Fr.app N213 (Fr.nil _)
      refine Go.of (T' := T216) (f' := (mkF m 102 #[.val (.int p0), .val (.int p1), .val (.int p2), .val (.int (1 : Int32)), .val (.int (0 : Int32)), .val (.int kv), .val (.ref s_OWN_CONTENDED), .val (.ref s_OWN_CONTENDED)] [(.ref s_OWN_runners)])) (fun _ k => st216 _ k) ?_
      obtain ⟨T217, v217, L217, X217, q217, st217⟩ := callVi X216 hx hZ (y := (⟨"java/util/BitSet", "isEmpty", "()Z"⟩ : MethodName)) (z := (⟨"java/util/BitSet", "isEmpty", "()Z"⟩ : MethodName)) hown (hw _ (List.mem_of_getElem? (i := 20) rfl)) (hw _ (List.mem_of_getElem? (i := 21) rfl)) (notFace_of_selects (args := #[]) (mvT hZ (hw _ (List.mem_of_getElem? (i := 23) rfl)))) (hw _ (List.mem_of_getElem? (i := 23) rfl)) (hw _ (List.mem_of_getElem? (i := 22) rfl)) (hw _ (List.mem_of_getElem? (i := 25) rfl)) (hw _ (List.mem_of_getElem? (i := 24) rfl)) (by decide) (rm_empty1 hw s_OWN s_OWN_runners s_OWN_CONTENDED S_OWN E_s_OWN F_s_OWN_contends F_s_OWN_runners E_s_OWN_runners F_s_OWN_runners_wordsInUse S_OWN_CONTENDED E_s_OWN_CONTENDED F_s_OWN_CONTENDED_contends F_s_OWN_CONTENDED_runners S__assertionsDisabled s_OWN_runners  T210.heap O211 (Fld.ext O211 F_s_OWN_runners_wordsInUse)) e216 (W := 0) (by decide) (by decide) (by decide) (by decide) (Exa.ext O211 E_s_OWN_runners) (g := (mkF m 102 #[.val (.int p0), .val (.int p1), .val (.int p2), .val (.int (1 : Int32)), .val (.int (0 : Int32)), .val (.int kv), .val (.ref s_OWN_CONTENDED), .val (.ref s_OWN_CONTENDED)] [(.ref s_OWN_runners)])) rfl (by rw [hml]; rfl) (argsL := []) (rest := []) (lenOf pd___Z rfl) rfl rfl (by show 2 * 0 + _ ≤ _; exact Nat.le_of_eq rfl) (hb hby at_102)
      obtain ⟨rfl, e217, rfl⟩ := q217
      have N217 := Fr.app N216 (Fr.nil _)
      refine Go.of (T' := T217) (f' := (mkF m 105 #[.val (.int p0), .val (.int p1), .val (.int p2), .val (.int (1 : Int32)), .val (.int (0 : Int32)), .val (.int kv), .val (.ref s_OWN_CONTENDED), .val (.ref s_OWN_CONTENDED)] [(.int (1 : Int32))])) (fun _ k => st217 _ k) ?_
      refine Go.of (T' := T217) (f' := (mkF m 108 #[.val (.int p0), .val (.int p1), .val (.int p2), .val (.int (1 : Int32)), .val (.int (0 : Int32)), .val (.int kv), .val (.ref s_OWN_CONTENDED), .val (.ref s_OWN_CONTENDED)] [])) (fun _ k => XS.ifNo X217.here hx rfl (hb hby at_105) rfl ((if0 _ _).trans (feq (by decide : ¬ ((1 : Int32) = (0 : Int32)))).1) k) ?_
      refine Go.of (T' := T217) (f' := (mkF m 109 #[.val (.int p0), .val (.int p1), .val (.int p2), .val (.int (1 : Int32)), .val (.int (0 : Int32)), .val (.int kv), .val (.ref s_OWN_CONTENDED), .val (.ref s_OWN_CONTENDED)] [(.int (1 : Int32))])) (fun _ k => XS.iconst X217.here hx rfl (hb hby at_108) k) ?_
      refine Go.of (T' := T217) (f' := (mkF m 113 #[.val (.int p0), .val (.int p1), .val (.int p2), .val (.int (1 : Int32)), .val (.int (0 : Int32)), .val (.int kv), .val (.ref s_OWN_CONTENDED), .val (.ref s_OWN_CONTENDED)] [(.int (1 : Int32))])) (fun _ k => XS.goto X217.here hx rfl (pc0 := 109) (pc' := 113) rfl (hb hby at_109) (by decide) (by decide) k) ?_
      exact Go.retB X217 hx hlk hret (by simp) (hb hby at_113) (by decide) (by decide) (z' := (1 : Int32)) rfl (by rw [e217]; exact ⟨rfl, N217, K211⟩)
    · skip
      refine Go.of (T' := T0) (f' := (mkF m 18 #[.val (.int p0), .val (.int p1), .val (.int p2), .val (.int (1 : Int32)), .unset, .unset, .unset, .unset] [])) (fun _ k => XS.ifNo X0.here hx rfl (hb hby at_15) rfl ((if0 _ _).trans (feq hc203).1) k) ?_
      refine Go.of (T' := T0) (f' := (mkF m 19 #[.val (.int p0), .val (.int p1), .val (.int p2), .val (.int (1 : Int32)), .unset, .unset, .unset, .unset] [(.int (1 : Int32))])) (fun _ k => XS.iconst X0.here hx rfl (hb hby at_18) k) ?_
      refine Go.of (T' := T0) (f' := (mkF m 23 #[.val (.int p0), .val (.int p1), .val (.int p2), .val (.int (1 : Int32)), .unset, .unset, .unset, .unset] [(.int (1 : Int32))])) (fun _ k => XS.goto X0.here hx rfl (pc0 := 19) (pc' := 23) rfl (hb hby at_19) (by decide) (by decide) k) ?_
      refine Go.of (T' := T0) (f' := (mkF m 25 #[.val (.int p0), .val (.int p1), .val (.int p2), .val (.int (1 : Int32)), .val (.int (1 : Int32)), .unset, .unset, .unset] [])) (fun _ k => XS.istore X0.here hx rfl (hb hby at_23) rfl (l' := #[.val (.int p0), .val (.int p1), .val (.int p2), .val (.int (1 : Int32)), .val (.int (1 : Int32)), .unset, .unset, .unset]) rfl k) ?_
      refine Go.of (T' := T0) (f' := (mkF m 26 #[.val (.int p0), .val (.int p1), .val (.int p2), .val (.int (1 : Int32)), .val (.int (1 : Int32)), .unset, .unset, .unset] [(.int p2)])) (fun _ k => XS.iloadN X0.here hx rfl (hb hby at_25) rfl k) ?_
      refine Go.of (T' := T0) (f' := (mkF m 28 #[.val (.int p0), .val (.int p1), .val (.int p2), .val (.int (1 : Int32)), .val (.int (1 : Int32)), .unset, .unset, .unset] [(.int (63 : Int32)), (.int p2)])) (fun _ k => XS.bipush X0.here hx rfl (hb hby at_26) k) ?_
      refine Go.of (T' := T0) (f' := (mkF m 29 #[.val (.int p0), .val (.int p1), .val (.int p2), .val (.int (1 : Int32)), .val (.int (1 : Int32)), .unset, .unset, .unset] [(.int (p2 &&& (63 : Int32)))])) (fun _ k => XS.iand X0.here hx rfl (hb hby at_28) rfl k) ?_
      generalize hk : ((p2 &&& (63 : Int32)) : Int32) = kv
      refine Go.of (T' := T0) (f' := (mkF m 31 #[.val (.int p0), .val (.int p1), .val (.int p2), .val (.int (1 : Int32)), .val (.int (1 : Int32)), .val (.int kv), .unset, .unset] [])) (fun _ k => XS.istore X0.here hx rfl (hb hby at_29) rfl (l' := #[.val (.int p0), .val (.int p1), .val (.int p2), .val (.int (1 : Int32)), .val (.int (1 : Int32)), .val (.int kv), .unset, .unset]) rfl k) ?_
      obtain ⟨hk1, hk0⟩ := own_k p2
      rw [hk] at hk1 hk0
      refine Go.of (T' := T0) (f' := (mkF m 32 #[.val (.int p0), .val (.int p1), .val (.int p2), .val (.int (1 : Int32)), .val (.int (1 : Int32)), .val (.int kv), .unset, .unset] [(.int (1 : Int32))])) (fun _ k => XS.iloadN X0.here hx rfl (hb hby at_31) rfl k) ?_
      obtain ⟨T219, v219, L219, X219, q219, st219⟩ := callSt X0 hx hZ (y := (⟨"com/example/mailroom/mailroom/engine/Timeline$Race", "own", "(Z)Lcom/example/mailroom/mailroom/engine/Timeline$Race;"⟩ : MethodName)) hown (hw _ (List.mem_of_getElem? (i := 0) rfl)) (hw _ (List.mem_of_getElem? (i := 1) rfl)) (hw _ (List.mem_of_getElem? (i := 2) rfl)) (hw _ (List.mem_of_getElem? (i := 3) rfl)) (by decide) (rm_own1 hw s_OWN s_OWN_runners s_OWN_CONTENDED S_OWN E_s_OWN F_s_OWN_contends F_s_OWN_runners E_s_OWN_runners F_s_OWN_runners_wordsInUse S_OWN_CONTENDED E_s_OWN_CONTENDED F_s_OWN_CONTENDED_contends F_s_OWN_CONTENDED_runners S__assertionsDisabled   h0 O0 ) e0 (W := 0) (by decide) (by decide) (by decide) (by decide) (g := (mkF m 32 #[.val (.int p0), .val (.int p1), .val (.int p2), .val (.int (1 : Int32)), .val (.int (1 : Int32)), .val (.int kv), .unset, .unset] [(.int (1 : Int32))])) rfl (by rw [hml]; rfl) (argsL := [(.int (1 : Int32))]) (rest := []) (lenOf pd__Z_Lcom_example_mailroom_mailroom_engine_Timeline_Race_ rfl) rfl rfl (by show 2 * 0 + _ ≤ _; exact Nat.le_of_eq rfl) (hb hby at_32)
      obtain ⟨rfl, e219, rfl⟩ := q219
      have N219 := Fr.app N0 (Fr.nil _)
      refine Go.of (T' := T219) (f' := (mkF m 35 #[.val (.int p0), .val (.int p1), .val (.int p2), .val (.int (1 : Int32)), .val (.int (1 : Int32)), .val (.int kv), .unset, .unset] [(.ref s_OWN_CONTENDED)])) (fun _ k => st219 _ k) ?_
      refine Go.of (T' := T219) (f' := (mkF m 37 #[.val (.int p0), .val (.int p1), .val (.int p2), .val (.int (1 : Int32)), .val (.int (1 : Int32)), .val (.int kv), .val (.ref s_OWN_CONTENDED), .unset] [])) (fun _ k => XS.astore X219.here hx rfl (hb hby at_35) rfl rfl (l' := #[.val (.int p0), .val (.int p1), .val (.int p2), .val (.int (1 : Int32)), .val (.int (1 : Int32)), .val (.int kv), .val (.ref s_OWN_CONTENDED), .unset]) rfl k) ?_
      refine Go.of (T' := T219) (f' := (mkF m 39 #[.val (.int p0), .val (.int p1), .val (.int p2), .val (.int (1 : Int32)), .val (.int (1 : Int32)), .val (.int kv), .val (.ref s_OWN_CONTENDED), .unset] [(.ref s_OWN_CONTENDED)])) (fun _ k => XS.aload X219.here hx rfl (hb hby at_37) rfl rfl k) ?_
      obtain ⟨T220, v220, L220, X220, q220, st220⟩ := callVi X219 hx hZ (y := (⟨"com/example/mailroom/mailroom/engine/Timeline$Race", "contends", "()Z"⟩ : MethodName)) (z := (⟨"com/example/mailroom/mailroom/engine/Timeline$Race", "contends", "()Z"⟩ : MethodName)) hown (hw _ (List.mem_of_getElem? (i := 6) rfl)) (hw _ (List.mem_of_getElem? (i := 7) rfl)) (notFace_of_selects (args := #[]) (mvT hZ (hw _ (List.mem_of_getElem? (i := 9) rfl)))) (hw _ (List.mem_of_getElem? (i := 9) rfl)) (hw _ (List.mem_of_getElem? (i := 8) rfl)) (hw _ (List.mem_of_getElem? (i := 10) rfl)) (hw _ (List.mem_of_getElem? (i := 2) rfl)) (by decide) (rm_cont1 hw s_OWN s_OWN_runners s_OWN_CONTENDED S_OWN E_s_OWN F_s_OWN_contends F_s_OWN_runners E_s_OWN_runners F_s_OWN_runners_wordsInUse S_OWN_CONTENDED E_s_OWN_CONTENDED F_s_OWN_CONTENDED_contends F_s_OWN_CONTENDED_runners S__assertionsDisabled s_OWN_CONTENDED  h0 O0 (Fld.ext O0 F_s_OWN_CONTENDED_contends)) e219 (W := 0) (by decide) (by decide) (by decide) (by decide) (Exa.ext O0 E_s_OWN_CONTENDED) (g := (mkF m 39 #[.val (.int p0), .val (.int p1), .val (.int p2), .val (.int (1 : Int32)), .val (.int (1 : Int32)), .val (.int kv), .val (.ref s_OWN_CONTENDED), .unset] [(.ref s_OWN_CONTENDED)])) rfl (by rw [hml]; rfl) (argsL := []) (rest := []) (lenOf pd___Z rfl) rfl rfl (by show 2 * 0 + _ ≤ _; exact Nat.le_of_eq rfl) (hb hby at_39)
      obtain ⟨rfl, e220, rfl⟩ := q220
      have N220 := Fr.app N219 (Fr.nil _)
      refine Go.of (T' := T220) (f' := (mkF m 42 #[.val (.int p0), .val (.int p1), .val (.int p2), .val (.int (1 : Int32)), .val (.int (1 : Int32)), .val (.int kv), .val (.ref s_OWN_CONTENDED), .unset] [(.int (1 : Int32))])) (fun _ k => st220 _ k) ?_
      refine Go.of (T' := T220) (f' := (mkF m 43 #[.val (.int p0), .val (.int p1), .val (.int p2), .val (.int (1 : Int32)), .val (.int (1 : Int32)), .val (.int kv), .val (.ref s_OWN_CONTENDED), .unset] [(.int (1 : Int32)), (.int (1 : Int32))])) (fun _ k => XS.iloadN X220.here hx rfl (hb hby at_42) rfl k) ?_
      refine Go.of (T' := T220) (f' := (mkF m 48 #[.val (.int p0), .val (.int p1), .val (.int p2), .val (.int (1 : Int32)), .val (.int (1 : Int32)), .val (.int kv), .val (.ref s_OWN_CONTENDED), .unset] [])) (fun _ k => XS.icmpYes X220.here hx rfl (pc0 := 43) (pc' := 48) rfl (hb hby at_43) rfl (teq (by decide : (1 : Int32) = (1 : Int32))).1 (by decide) (by decide) k) ?_
      refine Go.of (T' := T220) (f' := (mkF m 50 #[.val (.int p0), .val (.int p1), .val (.int p2), .val (.int (1 : Int32)), .val (.int (1 : Int32)), .val (.int kv), .val (.ref s_OWN_CONTENDED), .unset] [(.ref s_OWN_CONTENDED)])) (fun _ k => XS.aload X220.here hx rfl (hb hby at_48) rfl rfl k) ?_
      obtain ⟨T222, v222, L222, X222, q222, st222⟩ := callVi X220 hx hZ (y := (⟨"com/example/mailroom/mailroom/engine/Timeline$Race", "runners", "()Ljava/util/BitSet;"⟩ : MethodName)) (z := (⟨"com/example/mailroom/mailroom/engine/Timeline$Race", "runners", "()Ljava/util/BitSet;"⟩ : MethodName)) hown (hw _ (List.mem_of_getElem? (i := 13) rfl)) (hw _ (List.mem_of_getElem? (i := 14) rfl)) (notFace_of_selects (args := #[]) (mvT hZ (hw _ (List.mem_of_getElem? (i := 16) rfl)))) (hw _ (List.mem_of_getElem? (i := 16) rfl)) (hw _ (List.mem_of_getElem? (i := 15) rfl)) (hw _ (List.mem_of_getElem? (i := 17) rfl)) (hw _ (List.mem_of_getElem? (i := 2) rfl)) (by decide) (rm_runners hw s_OWN s_OWN_runners s_OWN_CONTENDED S_OWN E_s_OWN F_s_OWN_contends F_s_OWN_runners E_s_OWN_runners F_s_OWN_runners_wordsInUse S_OWN_CONTENDED E_s_OWN_CONTENDED F_s_OWN_CONTENDED_contends F_s_OWN_CONTENDED_runners S__assertionsDisabled s_OWN_CONTENDED s_OWN_runners h0 O0 (Fld.ext O0 F_s_OWN_CONTENDED_runners)) e220 (W := 0) (by decide) (by decide) (by decide) (by decide) (Exa.ext O0 E_s_OWN_CONTENDED) (g := (mkF m 50 #[.val (.int p0), .val (.int p1), .val (.int p2), .val (.int (1 : Int32)), .val (.int (1 : Int32)), .val (.int kv), .val (.ref s_OWN_CONTENDED), .unset] [(.ref s_OWN_CONTENDED)])) rfl (by rw [hml]; rfl) (argsL := []) (rest := []) (lenOf pd___Ljava_util_BitSet_ rfl) rfl rfl (by show 2 * 0 + _ ≤ _; exact Nat.le_of_eq rfl) (hb hby at_50)
      obtain ⟨rfl, e222, rfl⟩ := q222
      have N222 := Fr.app N220 (Fr.nil _)
      refine Go.of (T' := T222) (f' := (mkF m 53 #[.val (.int p0), .val (.int p1), .val (.int p2), .val (.int (1 : Int32)), .val (.int (1 : Int32)), .val (.int kv), .val (.ref s_OWN_CONTENDED), .unset] [(.ref s_OWN_runners)])) (fun _ k => st222 _ k) ?_
      obtain ⟨T223, v223, L223, X223, q223, st223⟩ := callVi X222 hx hZ (y := (⟨"java/util/BitSet", "isEmpty", "()Z"⟩ : MethodName)) (z := (⟨"java/util/BitSet", "isEmpty", "()Z"⟩ : MethodName)) hown (hw _ (List.mem_of_getElem? (i := 20) rfl)) (hw _ (List.mem_of_getElem? (i := 21) rfl)) (notFace_of_selects (args := #[]) (mvT hZ (hw _ (List.mem_of_getElem? (i := 23) rfl)))) (hw _ (List.mem_of_getElem? (i := 23) rfl)) (hw _ (List.mem_of_getElem? (i := 22) rfl)) (hw _ (List.mem_of_getElem? (i := 25) rfl)) (hw _ (List.mem_of_getElem? (i := 24) rfl)) (by decide) (rm_empty1 hw s_OWN s_OWN_runners s_OWN_CONTENDED S_OWN E_s_OWN F_s_OWN_contends F_s_OWN_runners E_s_OWN_runners F_s_OWN_runners_wordsInUse S_OWN_CONTENDED E_s_OWN_CONTENDED F_s_OWN_CONTENDED_contends F_s_OWN_CONTENDED_runners S__assertionsDisabled s_OWN_runners  h0 O0 (Fld.ext O0 F_s_OWN_runners_wordsInUse)) e222 (W := 0) (by decide) (by decide) (by decide) (by decide) (Exa.ext O0 E_s_OWN_runners) (g := (mkF m 53 #[.val (.int p0), .val (.int p1), .val (.int p2), .val (.int (1 : Int32)), .val (.int (1 : Int32)), .val (.int kv), .val (.ref s_OWN_CONTENDED), .unset] [(.ref s_OWN_runners)])) rfl (by rw [hml]; rfl) (argsL := []) (rest := []) (lenOf pd___Z rfl) rfl rfl (by show 2 * 0 + _ ≤ _; exact Nat.le_of_eq rfl) (hb hby at_53)
      obtain ⟨rfl, e223, rfl⟩ := q223
      have N223 := Fr.app N222 (Fr.nil _)
      refine Go.of (T' := T223) (f' := (mkF m 56 #[.val (.int p0), .val (.int p1), .val (.int p2), .val (.int (1 : Int32)), .val (.int (1 : Int32)), .val (.int kv), .val (.ref s_OWN_CONTENDED), .unset] [(.int (1 : Int32))])) (fun _ k => st223 _ k) ?_
      refine Go.of (T' := T223) (f' := (mkF m 61 #[.val (.int p0), .val (.int p1), .val (.int p2), .val (.int (1 : Int32)), .val (.int (1 : Int32)), .val (.int kv), .val (.ref s_OWN_CONTENDED), .unset] [])) (fun _ k => XS.ifYes X223.here hx rfl (pc0 := 56) (pc' := 61) rfl (hb hby at_56) rfl ((if0 _ _).trans (feq (by decide : ¬ ((1 : Int32) = (0 : Int32)))).2) (by decide) (by decide) k) ?_
      refine Go.of (T' := T223) (f' := (mkF m 63 #[.val (.int p0), .val (.int p1), .val (.int p2), .val (.int (1 : Int32)), .val (.int (1 : Int32)), .val (.int kv), .val (.ref s_OWN_CONTENDED), .unset] [(.int kv)])) (fun _ k => XS.iload X223.here hx rfl (hb hby at_61) rfl k) ?_
      refine Go.of (T' := T223) (f' := (mkF m 65 #[.val (.int p0), .val (.int p1), .val (.int p2), .val (.int (1 : Int32)), .val (.int (1 : Int32)), .val (.int kv), .val (.ref s_OWN_CONTENDED), .unset] [(.int (1 : Int32)), (.int kv)])) (fun _ k => XS.iload X223.here hx rfl (hb hby at_63) rfl k) ?_
      obtain ⟨T225, v225, L225, X225, q225, st225⟩ := callSt X223 hx hZ (y := (⟨"com/example/mailroom/mailroom/engine/Timeline$Race", "through", "(IZ)Lcom/example/mailroom/mailroom/engine/Timeline$Race;"⟩ : MethodName)) hown (hw _ (List.mem_of_getElem? (i := 28) rfl)) (hw _ (List.mem_of_getElem? (i := 29) rfl)) (hw _ (List.mem_of_getElem? (i := 2) rfl)) (hw _ (List.mem_of_getElem? (i := 30) rfl)) (by decide) (rm_through1 hw s_OWN s_OWN_runners s_OWN_CONTENDED S_OWN E_s_OWN F_s_OWN_contends F_s_OWN_runners E_s_OWN_runners F_s_OWN_runners_wordsInUse S_OWN_CONTENDED E_s_OWN_CONTENDED F_s_OWN_CONTENDED_contends F_s_OWN_CONTENDED_runners S__assertionsDisabled kv  h0 O0 (hk1) (hk0)) e223 (W := 0) (by decide) (by decide) (by decide) (by decide) (g := (mkF m 65 #[.val (.int p0), .val (.int p1), .val (.int p2), .val (.int (1 : Int32)), .val (.int (1 : Int32)), .val (.int kv), .val (.ref s_OWN_CONTENDED), .unset] [(.int (1 : Int32)), (.int kv)])) rfl (by rw [hml]; rfl) (argsL := [(.int kv), (.int (1 : Int32))]) (rest := []) (lenOf pd__IZ_Lcom_example_mailroom_mailroom_engine_Timeline_Race_ rfl) rfl rfl (by show 2 * 0 + _ ≤ _; exact Nat.le_of_eq rfl) (hb hby at_65)
      obtain ⟨ob_225, bs_225, rfl, N225q, K225q, p225_0, p225_1, p225_2, p225_3, p225_4, p225_5, p225_6⟩ := q225
      have N225 := Fr.app N223 N225q
      have O226 := Old0.keep O0 K225q all0
      have K226 := Keep.trans K0 K225q all0
      have z_ob_225 : h0.size ≤ ob_225 := Nat.le_trans K0.1 p225_0
      have g_ob_225 : Z.heap.size ≤ ob_225 := Nat.le_trans O0.1 p225_0
      have z_bs_225 : h0.size ≤ bs_225 := Nat.le_trans K0.1 p225_1
      have g_bs_225 : Z.heap.size ≤ bs_225 := Nat.le_trans O0.1 p225_1
      refine Go.of (T' := T225) (f' := (mkF m 68 #[.val (.int p0), .val (.int p1), .val (.int p2), .val (.int (1 : Int32)), .val (.int (1 : Int32)), .val (.int kv), .val (.ref s_OWN_CONTENDED), .unset] [(.ref ob_225)])) (fun _ k => st225 _ k) ?_
      refine Go.of (T' := T225) (f' := (mkF m 70 #[.val (.int p0), .val (.int p1), .val (.int p2), .val (.int (1 : Int32)), .val (.int (1 : Int32)), .val (.int kv), .val (.ref s_OWN_CONTENDED), .unset] [(.ref s_OWN_CONTENDED), (.ref ob_225)])) (fun _ k => XS.aload X225.here hx rfl (hb hby at_68) rfl rfl k) ?_
      obtain ⟨T227, v227, L227, X227, q227, st227⟩ := callSt X225 hx hZ (y := (⟨"com/example/mailroom/mailroom/engine/Timeline$Race", "join", "(Lcom/example/mailroom/mailroom/engine/Timeline$Race;Lcom/example/mailroom/mailroom/engine/Timeline$Race;)Lcom/example/mailroom/mailroom/engine/Timeline$Race;"⟩ : MethodName)) hown (hw _ (List.mem_of_getElem? (i := 84) rfl)) (hw _ (List.mem_of_getElem? (i := 85) rfl)) (hw _ (List.mem_of_getElem? (i := 2) rfl)) (hw _ (List.mem_of_getElem? (i := 86) rfl)) (by decide) (rm_join11 hw s_OWN s_OWN_runners s_OWN_CONTENDED S_OWN E_s_OWN F_s_OWN_contends F_s_OWN_runners E_s_OWN_runners F_s_OWN_runners_wordsInUse S_OWN_CONTENDED E_s_OWN_CONTENDED F_s_OWN_CONTENDED_contends F_s_OWN_CONTENDED_runners S__assertionsDisabled ob_225 bs_225 T225.heap O226 p225_3 p225_4 p225_5 p225_6) rfl (W := 0) (by decide) (by decide) (by decide) (by decide) (g := (mkF m 70 #[.val (.int p0), .val (.int p1), .val (.int p2), .val (.int (1 : Int32)), .val (.int (1 : Int32)), .val (.int kv), .val (.ref s_OWN_CONTENDED), .unset] [(.ref s_OWN_CONTENDED), (.ref ob_225)])) rfl (by rw [hml]; rfl) (argsL := [(.ref ob_225), (.ref s_OWN_CONTENDED)]) (rest := []) (lenOf pd__Lcom_example_mailroom_mailroom_engine_Timeline_Race_Lcom_example_mailroom_mailroom_engine_Timeline_Race__Lcom_example_mailroom_mailroom_engine_Timeline_Race_ rfl) rfl rfl (by show 2 * 0 + _ ≤ _; exact Nat.le_of_eq rfl) (hb hby at_70)
      obtain ⟨rfl, e227, rfl⟩ := q227
      have N227 := Fr.app N225 (Fr.nil _)
      refine Go.of (T' := T227) (f' := (mkF m 73 #[.val (.int p0), .val (.int p1), .val (.int p2), .val (.int (1 : Int32)), .val (.int (1 : Int32)), .val (.int kv), .val (.ref s_OWN_CONTENDED), .unset] [(.ref s_OWN_CONTENDED)])) (fun _ k => st227 _ k) ?_
      refine Go.of (T' := T227) (f' := (mkF m 75 #[.val (.int p0), .val (.int p1), .val (.int p2), .val (.int (1 : Int32)), .val (.int (1 : Int32)), .val (.int kv), .val (.ref s_OWN_CONTENDED), .val (.ref s_OWN_CONTENDED)] [])) (fun _ k => XS.astore X227.here hx rfl (hb hby at_73) rfl rfl (l' := #[.val (.int p0), .val (.int p1), .val (.int p2), .val (.int (1 : Int32)), .val (.int (1 : Int32)), .val (.int kv), .val (.ref s_OWN_CONTENDED), .val (.ref s_OWN_CONTENDED)]) rfl k) ?_
      refine Go.of (T' := T227) (f' := (mkF m 77 #[.val (.int p0), .val (.int p1), .val (.int p2), .val (.int (1 : Int32)), .val (.int (1 : Int32)), .val (.int kv), .val (.ref s_OWN_CONTENDED), .val (.ref s_OWN_CONTENDED)] [(.ref s_OWN_CONTENDED)])) (fun _ k => XS.aload X227.here hx rfl (hb hby at_75) rfl rfl k) ?_
      obtain ⟨T228, v228, L228, X228, q228, st228⟩ := callVi X227 hx hZ (y := (⟨"com/example/mailroom/mailroom/engine/Timeline$Race", "contends", "()Z"⟩ : MethodName)) (z := (⟨"com/example/mailroom/mailroom/engine/Timeline$Race", "contends", "()Z"⟩ : MethodName)) hown (hw _ (List.mem_of_getElem? (i := 6) rfl)) (hw _ (List.mem_of_getElem? (i := 7) rfl)) (notFace_of_selects (args := #[]) (mvT hZ (hw _ (List.mem_of_getElem? (i := 9) rfl)))) (hw _ (List.mem_of_getElem? (i := 9) rfl)) (hw _ (List.mem_of_getElem? (i := 8) rfl)) (hw _ (List.mem_of_getElem? (i := 10) rfl)) (hw _ (List.mem_of_getElem? (i := 2) rfl)) (by decide) (rm_cont1 hw s_OWN s_OWN_runners s_OWN_CONTENDED S_OWN E_s_OWN F_s_OWN_contends F_s_OWN_runners E_s_OWN_runners F_s_OWN_runners_wordsInUse S_OWN_CONTENDED E_s_OWN_CONTENDED F_s_OWN_CONTENDED_contends F_s_OWN_CONTENDED_runners S__assertionsDisabled s_OWN_CONTENDED  T225.heap O226 (Fld.ext O226 F_s_OWN_CONTENDED_contends)) e227 (W := 0) (by decide) (by decide) (by decide) (by decide) (Exa.ext O226 E_s_OWN_CONTENDED) (g := (mkF m 77 #[.val (.int p0), .val (.int p1), .val (.int p2), .val (.int (1 : Int32)), .val (.int (1 : Int32)), .val (.int kv), .val (.ref s_OWN_CONTENDED), .val (.ref s_OWN_CONTENDED)] [(.ref s_OWN_CONTENDED)])) rfl (by rw [hml]; rfl) (argsL := []) (rest := []) (lenOf pd___Z rfl) rfl rfl (by show 2 * 0 + _ ≤ _; exact Nat.le_of_eq rfl) (hb hby at_77)
      obtain ⟨rfl, e228, rfl⟩ := q228
      have N228 := Fr.app N227 (Fr.nil _)
      refine Go.of (T' := T228) (f' := (mkF m 80 #[.val (.int p0), .val (.int p1), .val (.int p2), .val (.int (1 : Int32)), .val (.int (1 : Int32)), .val (.int kv), .val (.ref s_OWN_CONTENDED), .val (.ref s_OWN_CONTENDED)] [(.int (1 : Int32))])) (fun _ k => st228 _ k) ?_
      refine Go.of (T' := T228) (f' := (mkF m 81 #[.val (.int p0), .val (.int p1), .val (.int p2), .val (.int (1 : Int32)), .val (.int (1 : Int32)), .val (.int kv), .val (.ref s_OWN_CONTENDED), .val (.ref s_OWN_CONTENDED)] [(.int (1 : Int32)), (.int (1 : Int32))])) (fun _ k => XS.iloadN X228.here hx rfl (hb hby at_80) rfl k) ?_
      refine Go.of (T' := T228) (f' := (mkF m 89 #[.val (.int p0), .val (.int p1), .val (.int p2), .val (.int (1 : Int32)), .val (.int (1 : Int32)), .val (.int kv), .val (.ref s_OWN_CONTENDED), .val (.ref s_OWN_CONTENDED)] [(.int (1 : Int32))])) (fun _ k => XS.ifYes X228.here hx rfl (pc0 := 81) (pc' := 89) rfl (hb hby at_81) rfl ((if0 _ _).trans (feq (by decide : ¬ ((1 : Int32) = (0 : Int32)))).2) (by decide) (by decide) k) ?_
      refine Go.of (T' := T228) (f' := (mkF m 90 #[.val (.int p0), .val (.int p1), .val (.int p2), .val (.int (1 : Int32)), .val (.int (1 : Int32)), .val (.int kv), .val (.ref s_OWN_CONTENDED), .val (.ref s_OWN_CONTENDED)] [(.int (1 : Int32)), (.int (1 : Int32))])) (fun _ k => XS.iconst X228.here hx rfl (hb hby at_89) k) ?_
      refine Go.of (T' := T228) (f' := (mkF m 94 #[.val (.int p0), .val (.int p1), .val (.int p2), .val (.int (1 : Int32)), .val (.int (1 : Int32)), .val (.int kv), .val (.ref s_OWN_CONTENDED), .val (.ref s_OWN_CONTENDED)] [(.int (1 : Int32)), (.int (1 : Int32))])) (fun _ k => XS.goto X228.here hx rfl (pc0 := 90) (pc' := 94) rfl (hb hby at_90) (by decide) (by decide) k) ?_
      refine Go.of (T' := T228) (f' := (mkF m 97 #[.val (.int p0), .val (.int p1), .val (.int p2), .val (.int (1 : Int32)), .val (.int (1 : Int32)), .val (.int kv), .val (.ref s_OWN_CONTENDED), .val (.ref s_OWN_CONTENDED)] [])) (fun _ k => XS.icmpNo X228.here hx rfl (hb hby at_94) rfl (teq (by decide : (1 : Int32) = (1 : Int32))).2 k) ?_
      refine Go.of (T' := T228) (f' := (mkF m 99 #[.val (.int p0), .val (.int p1), .val (.int p2), .val (.int (1 : Int32)), .val (.int (1 : Int32)), .val (.int kv), .val (.ref s_OWN_CONTENDED), .val (.ref s_OWN_CONTENDED)] [(.ref s_OWN_CONTENDED)])) (fun _ k => XS.aload X228.here hx rfl (hb hby at_97) rfl rfl k) ?_
      obtain ⟨T231, v231, L231, X231, q231, st231⟩ := callVi X228 hx hZ (y := (⟨"com/example/mailroom/mailroom/engine/Timeline$Race", "runners", "()Ljava/util/BitSet;"⟩ : MethodName)) (z := (⟨"com/example/mailroom/mailroom/engine/Timeline$Race", "runners", "()Ljava/util/BitSet;"⟩ : MethodName)) hown (hw _ (List.mem_of_getElem? (i := 13) rfl)) (hw _ (List.mem_of_getElem? (i := 14) rfl)) (notFace_of_selects (args := #[]) (mvT hZ (hw _ (List.mem_of_getElem? (i := 16) rfl)))) (hw _ (List.mem_of_getElem? (i := 16) rfl)) (hw _ (List.mem_of_getElem? (i := 15) rfl)) (hw _ (List.mem_of_getElem? (i := 17) rfl)) (hw _ (List.mem_of_getElem? (i := 2) rfl)) (by decide) (rm_runners hw s_OWN s_OWN_runners s_OWN_CONTENDED S_OWN E_s_OWN F_s_OWN_contends F_s_OWN_runners E_s_OWN_runners F_s_OWN_runners_wordsInUse S_OWN_CONTENDED E_s_OWN_CONTENDED F_s_OWN_CONTENDED_contends F_s_OWN_CONTENDED_runners S__assertionsDisabled s_OWN_CONTENDED s_OWN_runners T225.heap O226 (Fld.ext O226 F_s_OWN_CONTENDED_runners)) e228 (W := 0) (by decide) (by decide) (by decide) (by decide) (Exa.ext O226 E_s_OWN_CONTENDED) (g := (mkF m 99 #[.val (.int p0), .val (.int p1), .val (.int p2), .val (.int (1 : Int32)), .val (.int (1 : Int32)), .val (.int kv), .val (.ref s_OWN_CONTENDED), .val (.ref s_OWN_CONTENDED)] [(.ref s_OWN_CONTENDED)])) rfl (by rw [hml]; rfl) (argsL := []) (rest := []) (lenOf pd___Ljava_util_BitSet_ rfl) rfl rfl (by show 2 * 0 + _ ≤ _; exact Nat.le_of_eq rfl) (hb hby at_99)
      obtain ⟨rfl, e231, rfl⟩ := q231
      have N231 := Fr.app N228 (Fr.nil _)
      refine Go.of (T' := T231) (f' := (mkF m 102 #[.val (.int p0), .val (.int p1), .val (.int p2), .val (.int (1 : Int32)), .val (.int (1 : Int32)), .val (.int kv), .val (.ref s_OWN_CONTENDED), .val (.ref s_OWN_CONTENDED)] [(.ref s_OWN_runners)])) (fun _ k => st231 _ k) ?_
      obtain ⟨T232, v232, L232, X232, q232, st232⟩ := callVi X231 hx hZ (y := (⟨"java/util/BitSet", "isEmpty", "()Z"⟩ : MethodName)) (z := (⟨"java/util/BitSet", "isEmpty", "()Z"⟩ : MethodName)) hown (hw _ (List.mem_of_getElem? (i := 20) rfl)) (hw _ (List.mem_of_getElem? (i := 21) rfl)) (notFace_of_selects (args := #[]) (mvT hZ (hw _ (List.mem_of_getElem? (i := 23) rfl)))) (hw _ (List.mem_of_getElem? (i := 23) rfl)) (hw _ (List.mem_of_getElem? (i := 22) rfl)) (hw _ (List.mem_of_getElem? (i := 25) rfl)) (hw _ (List.mem_of_getElem? (i := 24) rfl)) (by decide) (rm_empty1 hw s_OWN s_OWN_runners s_OWN_CONTENDED S_OWN E_s_OWN F_s_OWN_contends F_s_OWN_runners E_s_OWN_runners F_s_OWN_runners_wordsInUse S_OWN_CONTENDED E_s_OWN_CONTENDED F_s_OWN_CONTENDED_contends F_s_OWN_CONTENDED_runners S__assertionsDisabled s_OWN_runners  T225.heap O226 (Fld.ext O226 F_s_OWN_runners_wordsInUse)) e231 (W := 0) (by decide) (by decide) (by decide) (by decide) (Exa.ext O226 E_s_OWN_runners) (g := (mkF m 102 #[.val (.int p0), .val (.int p1), .val (.int p2), .val (.int (1 : Int32)), .val (.int (1 : Int32)), .val (.int kv), .val (.ref s_OWN_CONTENDED), .val (.ref s_OWN_CONTENDED)] [(.ref s_OWN_runners)])) rfl (by rw [hml]; rfl) (argsL := []) (rest := []) (lenOf pd___Z rfl) rfl rfl (by show 2 * 0 + _ ≤ _; exact Nat.le_of_eq rfl) (hb hby at_102)
      obtain ⟨rfl, e232, rfl⟩ := q232
      have N232 := Fr.app N231 (Fr.nil _)
      refine Go.of (T' := T232) (f' := (mkF m 105 #[.val (.int p0), .val (.int p1), .val (.int p2), .val (.int (1 : Int32)), .val (.int (1 : Int32)), .val (.int kv), .val (.ref s_OWN_CONTENDED), .val (.ref s_OWN_CONTENDED)] [(.int (1 : Int32))])) (fun _ k => st232 _ k) ?_
      refine Go.of (T' := T232) (f' := (mkF m 108 #[.val (.int p0), .val (.int p1), .val (.int p2), .val (.int (1 : Int32)), .val (.int (1 : Int32)), .val (.int kv), .val (.ref s_OWN_CONTENDED), .val (.ref s_OWN_CONTENDED)] [])) (fun _ k => XS.ifNo X232.here hx rfl (hb hby at_105) rfl ((if0 _ _).trans (feq (by decide : ¬ ((1 : Int32) = (0 : Int32)))).1) k) ?_
      refine Go.of (T' := T232) (f' := (mkF m 109 #[.val (.int p0), .val (.int p1), .val (.int p2), .val (.int (1 : Int32)), .val (.int (1 : Int32)), .val (.int kv), .val (.ref s_OWN_CONTENDED), .val (.ref s_OWN_CONTENDED)] [(.int (1 : Int32))])) (fun _ k => XS.iconst X232.here hx rfl (hb hby at_108) k) ?_
      refine Go.of (T' := T232) (f' := (mkF m 113 #[.val (.int p0), .val (.int p1), .val (.int p2), .val (.int (1 : Int32)), .val (.int (1 : Int32)), .val (.int kv), .val (.ref s_OWN_CONTENDED), .val (.ref s_OWN_CONTENDED)] [(.int (1 : Int32))])) (fun _ k => XS.goto X232.here hx rfl (pc0 := 109) (pc' := 113) rfl (hb hby at_109) (by decide) (by decide) k) ?_
      exact Go.retB X232 hx hlk hret (by simp) (hb hby at_113) (by decide) (by decide) (z' := (1 : Int32)) rfl (by rw [e232]; exact ⟨rfl, N232, K226⟩)
set_option maxRecDepth 65536 in
set_option maxHeartbeats 40000000 in
theorem comes_1 {Post : Tables → Env → Array Value → State → Outcome → State → Prop} (hpost : ∀ tb e args s v u, (limb_1_1.after args s (.returned v) u = true ∧ limb_1_2.after args s (.returned v) u = true ∧ True) → FrameEnd s (.returned v) u (Jvm.fieldLocs frame_1_writes args s ++ Jvm.arrayLocs frame_1_arrays args s ++ Jvm.staticLocs frame_1_statics s) 16 128 → Post tb e args s (.returned v) u) :
    ArmFor flags0 classFile x code maxLocals ret World_1 tables_1 room_1 Calls_1 rest_1 Pre_1 Post := by
  intro l hfl _ _ p e ha hc hk s m args below hf hA hF happ hP
  obtain ⟨hcalls, hrest, hpre⟩ := hP
  obtain ⟨-, -, -, hnamed, -, -, -, hat⟩ := (Spec.applies_iff hf).mp happ
  obtain ⟨hg, hn⟩ := and_e (Cond.before_iff.mp (show (Jvm.Cond.and given_1 narrow_1).before args s = true from hpre))
  obtain ⟨ga0, gb0⟩ := and_e hg
  obtain ⟨ga1, gb1⟩ := and_e gb0
  obtain ⟨ga2, gb2⟩ := and_e gb1
  obtain ⟨w0, w1, w2, rfl⟩ : ∃ w0 w1 w2 : Value, args = #[w0, w1, w2] := by
    have hs : args.size = 3 := by simpa [Cond.value, given_1] using ga0
    obtain ⟨L⟩ := args
    match L, hs with
    | [w0, w1, w2], _ => exact ⟨w0, w1, w2, rfl⟩
  have hw := fun d (hd : d ∈ tables_1) => atoms_spec (ws := Jvm.Cond.code x code maxLocals ret :: tables_1) hat d (List.mem_cons_of_mem _ hd)
  have hfit : Fit s := fun {y c} hc i hi => by
    obtain ⟨ha, rfl⟩ := Array.getElem?_eq_some_iff.mp hc
    have q := List.all_eq_true.mp ((Array.all_eq_true_iff_forall_mem.mp hF) _ (Array.getElem_mem ha)) i (List.mem_range.mpr hi)
    simpa [Array.getElem?_eq_getElem hi] using q
  obtain ⟨hsets, hown0⟩ := atoms_of _ (rest_1_c_eq ▸ (show rest_1_c.before _ s = true from hrest))
  obtain ⟨i0, ei0⟩ := is_v ga1
  obtain rfl : w0 = (.int i0) := Option.some.inj ei0
  obtain ⟨i1, ei1⟩ := is_v ga2
  obtain rfl : w1 = (.int i1) := Option.some.inj ei1
  obtain ⟨i2, ei2⟩ := is_v gb2
  obtain rfl : w2 = (.int i2) := Option.some.inj ei2
  obtain ⟨na1, nb1⟩ := and_e hn
  obtain ⟨s_OWN, ev_s_OWN⟩ := exa_v na1
  have S_OWN : Sta s s.heap "com/example/mailroom/mailroom/engine/Timeline$Race" "OWN" "Lcom/example/mailroom/mailroom/engine/Timeline$Race;" (.ref s_OWN) := Sta.start ev_s_OWN (Or.inr ⟨(hw _ (List.mem_of_getElem? (i := 2) rfl)), (hw _ (List.mem_of_getElem? (i := 5) rfl))⟩)
  have E_s_OWN : Exa s s.heap s_OWN "com/example/mailroom/mailroom/engine/Timeline$Race" := Exa.start ev_s_OWN na1
  obtain ⟨na2, nb2⟩ := and_e nb1
  have ev2 := eqI_v na2
  have F_s_OWN_contends : Fld s s.heap s_OWN "com/example/mailroom/mailroom/engine/Timeline$Race" "contends" "Z" (.int (0 : Int32)) := Fld.start ((fld_at ev_s_OWN).symm.trans ev2)
  obtain ⟨na4, nb4⟩ := and_e nb2
  obtain ⟨s_OWN_runners, ev_s_OWN_runners⟩ := exa_v na4
  have F_s_OWN_runners : Fld s s.heap s_OWN "com/example/mailroom/mailroom/engine/Timeline$Race" "runners" "Ljava/util/BitSet;" (.ref s_OWN_runners) := Fld.start ((fld_at ev_s_OWN).symm.trans ev_s_OWN_runners)
  have E_s_OWN_runners : Exa s s.heap s_OWN_runners "java/util/BitSet" := Exa.start ev_s_OWN_runners na4
  obtain ⟨na5, nb5⟩ := and_e nb4
  have ev5 := eqI_v na5
  have F_s_OWN_runners_wordsInUse : Fld s s.heap s_OWN_runners "java/util/BitSet" "wordsInUse" "I" (.int (0 : Int32)) := Fld.start ((fld_at ev_s_OWN_runners).symm.trans ev5)
  obtain ⟨na7, nb7⟩ := and_e nb5
  obtain ⟨s_OWN_CONTENDED, ev_s_OWN_CONTENDED⟩ := exa_v na7
  have S_OWN_CONTENDED : Sta s s.heap "com/example/mailroom/mailroom/engine/Timeline$Race" "OWN_CONTENDED" "Lcom/example/mailroom/mailroom/engine/Timeline$Race;" (.ref s_OWN_CONTENDED) := Sta.start ev_s_OWN_CONTENDED (Or.inr ⟨(hw _ (List.mem_of_getElem? (i := 2) rfl)), (hw _ (List.mem_of_getElem? (i := 90) rfl))⟩)
  have E_s_OWN_CONTENDED : Exa s s.heap s_OWN_CONTENDED "com/example/mailroom/mailroom/engine/Timeline$Race" := Exa.start ev_s_OWN_CONTENDED na7
  obtain ⟨na8, nb8⟩ := and_e nb7
  have ev8 := eqI_v na8
  have F_s_OWN_CONTENDED_contends : Fld s s.heap s_OWN_CONTENDED "com/example/mailroom/mailroom/engine/Timeline$Race" "contends" "Z" (.int (1 : Int32)) := Fld.start ((fld_at ev_s_OWN_CONTENDED).symm.trans ev8)
  have ev9 := eqR_v ev_s_OWN_runners nb8
  have F_s_OWN_CONTENDED_runners : Fld s s.heap s_OWN_CONTENDED "com/example/mailroom/mailroom/engine/Timeline$Race" "runners" "Ljava/util/BitSet;" (.ref s_OWN_runners) := Fld.start ((fld_at ev_s_OWN_CONTENDED).symm.trans ev9)
  have js2 := Cond.before_iff.mp (hsets _ (List.mem_of_getElem? (i := 2) rfl))
  have ev10 := eqI_v js2
  have S__assertionsDisabled : Sta s s.heap "java/util/BitSet" "$assertionsDisabled" "Z" (.int (1 : Int32)) := Sta.start ev10 (Or.inl (hsets _ (List.mem_of_getElem? (i := 1) rfl)))
  obtain ⟨n, o, h1, h2, h3, _, L, rfl, ⟨rfl, N, _⟩, hq⟩ := rm_law hw s_OWN s_OWN_runners s_OWN_CONTENDED S_OWN E_s_OWN F_s_OWN_contends F_s_OWN_runners E_s_OWN_runners F_s_OWN_runners_wordsInUse S_OWN_CONTENDED E_s_OWN_CONTENDED F_s_OWN_CONTENDED_contends F_s_OWN_CONTENDED_runners S__assertionsDisabled i0 i1 i2 s.heap ext_rfl tables_1 p e ha hc hk s m _ below hf ((Spec.applies_iff_loose hf).mp happ).1 ⟨rfl, State.Warmed39.refl s, rfl⟩ trivial
  refine ⟨n, _, h1, h2, h3, hpost _ _ _ _ _ _ ⟨Cond.after_iff.mpr rfl, Cond.after_iff.mpr (eq_i res_at (Term.int_eval (1)) rfl), trivial⟩ ⟨hq.1, hq.2.1, (hq.2.2.sift fun y hy => Or.inr (N y hy)).mono (by decide) (by decide)⟩⟩
theorem main_1_1 : Claimed_1_1 := comes_1 fun _ _ _ _ _ _ h hF => ⟨h.1, hF⟩
theorem main_1_2 : Claimed_1_2 := comes_1 fun _ _ _ _ _ _ h hF => ⟨h.2.1, hF⟩
end Jvm.Pilot.@@N@@
namespace Jvm.Pilot.@@N@@
open Jvm Jvm.ClassFile Sem Op Lib Jvm.Free Jvm.Stand Jvm.Pilot.@@N@@.Jvm.D
/-! MADE BY PROGRAM (witnessworld.py) out of the Statement's table words and the real class files: 13 classes; the members and pool entries that the words name. The judged class is class 1, her method 1. -/
namespace start1
open Jvm.ClassFile
def u (s : String) : CpInfo := .utf8 (stringToUtf16 s)
/-- a pool by its gaps: so many unusable entries, then the entry; so many at the end -/
def gap : Nat → List CpInfo → List CpInfo
  | 0, r => r
  | n + 1, r => .unusable :: gap n r
def poolList (es : List (Nat × CpInfo)) (last : Nat) : List CpInfo := es.foldr (fun e r => gap e.1 (e.2 :: r)) (gap last [])
def pool (es : List (Nat × CpInfo)) (last : Nat) : Array CpInfo := ⟨poolList es last⟩
def fileOf (pool : Array CpInfo) (this : Nat) (attrs : Array Attribute := #[]) (ms : Array MethodInfo := #[]) (fl : Nat := 33) (sup : Nat := 0) (ifs : Array Nat := #[]) (fds : Array FieldInfo := #[]) : ClassFile where
  minorVersion := 0
  majorVersion := 65
  constantPool := pool
  accessFlags := fl
  thisClass := this
  superClass := sup
  interfaces := ifs
  fields := fds
  methods := ms
  attributes := attrs
def plain (name : String) (sup : Option ClassId) : Class where
  name := name
  kind := .ordinary
  loader := none
  accessFlags := 33
  super := sup
  interfaces := #[]
  cf := none
  fields := #[]
  methods := #[]
  instanceTypes := #[]
  staticTypes := #[]
  resolved := #[]
  callSites := []
  init := .initialized
  statics := none
  mirror := none

def pool0 : Array CpInfo := pool [(5, u "<init>"), (0, u "()V"), (1, .class_ 10), (1, u "java/lang/Object")] 113

def k0c0 : Code := { maxStack := 0, maxLocals := 1, code := object_method_1_code, exceptionTable := #[], attributes := #[] }
def k0m0 : Method := { name := "<init>", desc := "()V", sig := { parameters := [], returnType := none }, accessFlags := 1, code := some k0c0 }
/-- java/lang/Object -/
def k0 : Class := { plain "java/lang/Object" none with
  accessFlags := 33
  interfaces := #[]
  cf := some (fileOf pool0 8 #[] #[{ accessFlags := 1, nameIndex := 5, descriptorIndex := 6, attributes := #[] }] 33 0 #[] #[])
  fields := #[]
  methods := #[k0m0]
  instanceTypes := #[]
  staticTypes := #[]
  resolved := Array.replicate 124 none
  statics := none }

def pool1 : Array CpInfo := pool [(2, .class_ 4), (1, u "java/lang/Object"), (0, u "<init>"), (0, u "()V"), (0, .methodref 8 9), (0, .class_ 10), (0, .nameAndType 11 12), (0, u "com/example/mailroom/mailroom/engine/Timeline$Race"), (0, u "own"), (0, u "(Z)Lcom/example/mailroom/mailroom/engine/Timeline$Race;"), (0, .methodref 8 14), (0, .nameAndType 15 16), (0, u "contends"), (0, u "()Z"), (0, .methodref 8 18), (0, .nameAndType 19 20), (0, u "runners"), (0, u "()Ljava/util/BitSet;"), (0, .methodref 22 23), (0, .class_ 24), (0, .nameAndType 25 16), (0, u "java/util/BitSet"), (0, u "isEmpty"), (0, .methodref 8 27), (0, .nameAndType 28 29), (0, u "through"), (0, u "(IZ)Lcom/example/mailroom/mailroom/engine/Timeline$Race;"), (0, .methodref 8 31), (0, .nameAndType 32 33), (0, u "join"), (0, u "(Lcom/example/mailroom/mailroom/engine/Timeline$Race;Lcom/example/mailroom/mailroom/engine/Timeline$Race;)Lcom/example/mailroom/mailroom/engine/Timeline$Race;"), (0, .class_ 35), (0, u "com/example/mailroom/mailroom/engine/TimelineOwnPinLaw"), (2, u "law"), (0, u "(III)Z")] 7

def k1m0 : Method := { name := "<init>", desc := "()V", sig := { parameters := [], returnType := none }, accessFlags := 1, code := none }
def k1c1 : Code := { maxStack := 2, maxLocals := 8, code := code, exceptionTable := #[], attributes := #[] }
def k1m1 : Method := { name := "law", desc := "(III)Z", sig := { parameters := [.int, .int, .int], returnType := some .boolean }, accessFlags := 9, code := some k1c1 }
/-- com/example/mailroom/mailroom/engine/TimelineOwnPinLaw -/
def k1 : Class := { plain "com/example/mailroom/mailroom/engine/TimelineOwnPinLaw" (some 0) with
  accessFlags := 49
  interfaces := #[]
  cf := some (fileOf pool1 34 #[] #[{ accessFlags := 1, nameIndex := 5, descriptorIndex := 6, attributes := #[] }, { accessFlags := 9, nameIndex := 38, descriptorIndex := 39, attributes := #[] }] 49 2 #[] #[])
  fields := #[]
  methods := #[k1m0, k1m1]
  instanceTypes := #[]
  staticTypes := #[]
  resolved := Array.replicate 47 none
  statics := none }

def pool2 : Array CpInfo := pool [(1, .methodref 2 3), (0, .class_ 4), (0, .nameAndType 5 6), (0, u "java/lang/Object"), (0, u "<init>"), (0, u "()V"), (0, .class_ 8), (0, u "java/lang/Record")] 13

def k2c0 : Code := { maxStack := 1, maxLocals := 1, code := jdk_30_method_1_code, exceptionTable := #[], attributes := #[] }
def k2m0 : Method := { name := "<init>", desc := "()V", sig := { parameters := [], returnType := none }, accessFlags := 4, code := some k2c0 }
/-- java/lang/Record -/
def k2 : Class := { plain "java/lang/Record" (some 0) with
  accessFlags := 1057
  interfaces := #[]
  cf := some (fileOf pool2 7 #[] #[{ accessFlags := 4, nameIndex := 5, descriptorIndex := 6, attributes := #[] }] 1057 2 #[] #[])
  fields := #[]
  methods := #[k2m0]
  instanceTypes := #[]
  staticTypes := #[]
  resolved := Array.replicate 22 none
  statics := none }

def pool3 : Array CpInfo := pool [(1, .methodref 2 3), (0, .class_ 4), (0, .nameAndType 5 6), (0, u "java/lang/Record"), (0, u "<init>"), (0, u "()V"), (0, .fieldref 8 9), (0, .class_ 10), (0, .nameAndType 11 12), (0, u "com/example/mailroom/mailroom/engine/Timeline$Race"), (0, u "contends"), (0, u "Z"), (0, .fieldref 8 14), (0, .nameAndType 15 16), (0, u "runners"), (0, u "Ljava/util/BitSet;"), (0, .fieldref 8 18), (0, .nameAndType 19 20), (0, u "OWN_CONTENDED"), (0, u "Lcom/example/mailroom/mailroom/engine/Timeline$Race;"), (0, .fieldref 8 22), (0, .nameAndType 23 20), (0, u "OWN"), (0, .class_ 25), (0, u "java/util/BitSet"), (0, .methodref 24 3), (0, .methodref 24 28), (0, .nameAndType 29 30), (0, u "set"), (0, u "(I)V"), (0, .methodref 8 32), (0, .nameAndType 5 33), (0, u "(ZLjava/util/BitSet;)V"), (0, .methodref 24 35), (0, .nameAndType 36 37), (0, u "isEmpty"), (0, u "()Z"), (0, .methodref 8 39), (0, .nameAndType 40 41), (0, u "own"), (0, u "(Z)Lcom/example/mailroom/mailroom/engine/Timeline$Race;"), (24, u "through"), (0, u "(IZ)Lcom/example/mailroom/mailroom/engine/Timeline$Race;"), (0, u "join"), (0, u "(Lcom/example/mailroom/mailroom/engine/Timeline$Race;Lcom/example/mailroom/mailroom/engine/Timeline$Race;)Lcom/example/mailroom/mailroom/engine/Timeline$Race;"), (3, u "()Ljava/util/BitSet;"), (4, .class_ 79), (0, u "com/example/mailroom/mailroom/engine/Timeline")] 20

def k3c0 : Code := { maxStack := 2, maxLocals := 3, code := prog_120_method_1_code, exceptionTable := #[], attributes := #[] }
def k3m0 : Method := { name := "<init>", desc := "(ZLjava/util/BitSet;)V", sig := { parameters := [.boolean, (.object "java/util/BitSet")], returnType := none }, accessFlags := 0, code := some k3c0 }
def k3c1 : Code := { maxStack := 1, maxLocals := 1, code := prog_120_method_2_code, exceptionTable := #[], attributes := #[] }
def k3m1 : Method := { name := "own", desc := "(Z)Lcom/example/mailroom/mailroom/engine/Timeline$Race;", sig := { parameters := [.boolean], returnType := some (.object "com/example/mailroom/mailroom/engine/Timeline$Race") }, accessFlags := 8, code := some k3c1 }
def k3c2 : Code := { maxStack := 4, maxLocals := 3, code := prog_120_method_3_code, exceptionTable := #[], attributes := #[] }
def k3m2 : Method := { name := "through", desc := "(IZ)Lcom/example/mailroom/mailroom/engine/Timeline$Race;", sig := { parameters := [.int, .boolean], returnType := some (.object "com/example/mailroom/mailroom/engine/Timeline$Race") }, accessFlags := 8, code := some k3c2 }
def k3c3 : Code := { maxStack := 4, maxLocals := 4, code := prog_120_method_4_code, exceptionTable := #[], attributes := #[] }
def k3m3 : Method := { name := "join", desc := "(Lcom/example/mailroom/mailroom/engine/Timeline$Race;Lcom/example/mailroom/mailroom/engine/Timeline$Race;)Lcom/example/mailroom/mailroom/engine/Timeline$Race;", sig := { parameters := [(.object "com/example/mailroom/mailroom/engine/Timeline$Race"), (.object "com/example/mailroom/mailroom/engine/Timeline$Race")], returnType := some (.object "com/example/mailroom/mailroom/engine/Timeline$Race") }, accessFlags := 8, code := some k3c3 }
def k3c4 : Code := { maxStack := 1, maxLocals := 1, code := prog_120_method_8_code, exceptionTable := #[], attributes := #[] }
def k3m4 : Method := { name := "contends", desc := "()Z", sig := { parameters := [], returnType := some .boolean }, accessFlags := 1, code := some k3c4 }
def k3c5 : Code := { maxStack := 1, maxLocals := 1, code := prog_120_method_9_code, exceptionTable := #[], attributes := #[] }
def k3m5 : Method := { name := "runners", desc := "()Ljava/util/BitSet;", sig := { parameters := [], returnType := some (.object "java/util/BitSet") }, accessFlags := 1, code := some k3c5 }
/-- com/example/mailroom/mailroom/engine/Timeline$Race -/
def k3 : Class := { plain "com/example/mailroom/mailroom/engine/Timeline$Race" (some 2) with
  accessFlags := 48
  interfaces := #[]
  cf := some (fileOf pool3 8 #[.nestHost 78] #[{ accessFlags := 0, nameIndex := 5, descriptorIndex := 33, attributes := #[] }, { accessFlags := 8, nameIndex := 40, descriptorIndex := 41, attributes := #[] }, { accessFlags := 8, nameIndex := 66, descriptorIndex := 67, attributes := #[] }, { accessFlags := 8, nameIndex := 68, descriptorIndex := 69, attributes := #[] }, { accessFlags := 1, nameIndex := 11, descriptorIndex := 37, attributes := #[] }, { accessFlags := 1, nameIndex := 15, descriptorIndex := 73, attributes := #[] }] 48 2 #[] #[{ accessFlags := 18, nameIndex := 11, descriptorIndex := 12, attributes := #[] }, { accessFlags := 18, nameIndex := 15, descriptorIndex := 16, attributes := #[] }, { accessFlags := 26, nameIndex := 23, descriptorIndex := 20, attributes := #[] }, { accessFlags := 26, nameIndex := 19, descriptorIndex := 20, attributes := #[] }])
  fields := #[{ name := "contends", type := .boolean, accessFlags := 18, slot := 0, constantValue := 0 }, { name := "runners", type := (.object "java/util/BitSet"), accessFlags := 18, slot := 1, constantValue := 0 }, { name := "OWN", type := (.object "com/example/mailroom/mailroom/engine/Timeline$Race"), accessFlags := 26, slot := 0, constantValue := 0 }, { name := "OWN_CONTENDED", type := (.object "com/example/mailroom/mailroom/engine/Timeline$Race"), accessFlags := 26, slot := 1, constantValue := 0 }]
  methods := #[k3m0, k3m1, k3m2, k3m3, k3m4, k3m5]
  instanceTypes := #[.boolean, (.object "java/util/BitSet")]
  staticTypes := #[(.object "com/example/mailroom/mailroom/engine/Timeline$Race"), (.object "com/example/mailroom/mailroom/engine/Timeline$Race")]
  resolved := Array.replicate 100 none
  statics := some 0 }

def pool4 : Array CpInfo := pool [(1, .class_ 2), (0, u "java/lang/Cloneable"), (0, .class_ 4), (0, u "java/lang/Object")] 2

/-- java/lang/Cloneable -/
def k4 : Class := { plain "java/lang/Cloneable" (some 0) with
  accessFlags := 1537
  interfaces := #[]
  cf := some (fileOf pool4 1 #[] #[] 1537 3 #[] #[])
  fields := #[]
  methods := #[]
  instanceTypes := #[]
  staticTypes := #[]
  resolved := Array.replicate 7 none
  statics := none }

def pool5 : Array CpInfo := pool [(1, .class_ 2), (0, u "java/io/Serializable"), (0, .class_ 4), (0, u "java/lang/Object")] 2

/-- java/io/Serializable -/
def k5 : Class := { plain "java/io/Serializable" (some 0) with
  accessFlags := 1537
  interfaces := #[]
  cf := some (fileOf pool5 1 #[] #[] 1537 3 #[] #[])
  fields := #[]
  methods := #[]
  instanceTypes := #[]
  staticTypes := #[]
  resolved := Array.replicate 7 none
  statics := none }

def pool6 : Array CpInfo := pool [(1, .class_ 2), (0, u "java/util/BitSet"), (0, .fieldref 1 4), (0, .nameAndType 5 6), (0, u "$assertionsDisabled"), (0, u "Z"), (0, .fieldref 1 8), (0, .nameAndType 9 10), (0, u "wordsInUse"), (0, u "I"), (0, .fieldref 1 12), (0, .nameAndType 13 14), (0, u "words"), (0, u "[J"), (3, .nameAndType 19 20), (0, u "<init>"), (0, u "()V"), (0, .methodref 22 18), (0, .class_ 23), (0, u "java/lang/Object"), (0, .fieldref 1 25), (0, .nameAndType 26 6), (0, u "sizeIsSticky"), (0, .methodref 1 28), (0, .nameAndType 29 30), (0, u "initWords"), (0, u "(I)V"), (21, .methodref 1 53), (0, .nameAndType 54 55), (0, u "wordIndex"), (0, u "(I)I"), (0, .methodref 1 57), (0, .nameAndType 58 20), (0, u "checkInvariants"), (80, .methodref 1 140), (0, .nameAndType 141 30), (0, u "ensureCapacity"), (13, .methodref 1 156), (0, .nameAndType 157 30), (0, u "expandTo"), (11, u "set"), (99, .class_ 270), (0, u "java/util/BitSet$1BitSetSpliterator"), (14, u "()Z"), (7, u "serialPersistentFields"), (0, u "[Ljava/io/ObjectStreamField;"), (0, .class_ 296), (0, u "java/lang/Cloneable"), (0, .class_ 298), (0, u "java/io/Serializable"), (0, u "ADDRESS_BITS_PER_WORD"), (2, u "BITS_PER_WORD"), (1, u "BIT_INDEX_MASK"), (1, u "WORD_MASK"), (0, u "J"), (0, u "serialVersionUID"), (52, u "isEmpty")] 55

def k6c0 : Code := { maxStack := 2, maxLocals := 1, code := jdk_92_method_1_code, exceptionTable := #[], attributes := #[] }
def k6m0 : Method := { name := "wordIndex", desc := "(I)I", sig := { parameters := [.int], returnType := some .int }, accessFlags := 10, code := some k6c0 }
def k6c1 : Code := { maxStack := 4, maxLocals := 1, code := jdk_92_method_2_code, exceptionTable := #[], attributes := #[] }
def k6m1 : Method := { name := "checkInvariants", desc := "()V", sig := { parameters := [], returnType := none }, accessFlags := 2, code := some k6c1 }
def k6c2 : Code := { maxStack := 2, maxLocals := 1, code := jdk_92_method_4_code, exceptionTable := #[], attributes := #[] }
def k6m2 : Method := { name := "<init>", desc := "()V", sig := { parameters := [], returnType := none }, accessFlags := 1, code := some k6c2 }
def k6c3 : Code := { maxStack := 3, maxLocals := 2, code := jdk_92_method_6_code, exceptionTable := #[], attributes := #[] }
def k6m3 : Method := { name := "initWords", desc := "(I)V", sig := { parameters := [.int], returnType := none }, accessFlags := 2, code := some k6c3 }
def k6c4 : Code := { maxStack := 3, maxLocals := 3, code := jdk_92_method_14_code, exceptionTable := #[], attributes := #[] }
def k6m4 : Method := { name := "ensureCapacity", desc := "(I)V", sig := { parameters := [.int], returnType := none }, accessFlags := 2, code := some k6c4 }
def k6c5 : Code := { maxStack := 2, maxLocals := 3, code := jdk_92_method_15_code, exceptionTable := #[], attributes := #[] }
def k6m5 : Method := { name := "expandTo", desc := "(I)V", sig := { parameters := [.int], returnType := none }, accessFlags := 2, code := some k6c5 }
def k6c6 : Code := { maxStack := 7, maxLocals := 3, code := jdk_92_method_19_code, exceptionTable := #[], attributes := #[] }
def k6m6 : Method := { name := "set", desc := "(I)V", sig := { parameters := [.int], returnType := none }, accessFlags := 1, code := some k6c6 }
def k6c7 : Code := { maxStack := 1, maxLocals := 1, code := jdk_92_method_33_code, exceptionTable := #[], attributes := #[] }
def k6m7 : Method := { name := "isEmpty", desc := "()Z", sig := { parameters := [], returnType := some .boolean }, accessFlags := 1, code := some k6c7 }
/-- java/util/BitSet -/
def k6 : Class := { plain "java/util/BitSet" (some 0) with
  accessFlags := 33
  interfaces := #[4, 5]
  cf := some (fileOf pool6 1 #[.nestMembers #[269]] #[{ accessFlags := 10, nameIndex := 54, descriptorIndex := 55, attributes := #[] }, { accessFlags := 2, nameIndex := 58, descriptorIndex := 20, attributes := #[] }, { accessFlags := 1, nameIndex := 19, descriptorIndex := 20, attributes := #[] }, { accessFlags := 2, nameIndex := 29, descriptorIndex := 30, attributes := #[] }, { accessFlags := 2, nameIndex := 141, descriptorIndex := 30, attributes := #[] }, { accessFlags := 2, nameIndex := 157, descriptorIndex := 30, attributes := #[] }, { accessFlags := 1, nameIndex := 169, descriptorIndex := 30, attributes := #[] }, { accessFlags := 1, nameIndex := 361, descriptorIndex := 285, attributes := #[] }] 33 22 #[295, 297] #[{ accessFlags := 26, nameIndex := 299, descriptorIndex := 10, attributes := #[] }, { accessFlags := 26, nameIndex := 302, descriptorIndex := 10, attributes := #[] }, { accessFlags := 26, nameIndex := 304, descriptorIndex := 10, attributes := #[] }, { accessFlags := 26, nameIndex := 306, descriptorIndex := 307, attributes := #[] }, { accessFlags := 26, nameIndex := 293, descriptorIndex := 294, attributes := #[] }, { accessFlags := 2, nameIndex := 13, descriptorIndex := 14, attributes := #[] }, { accessFlags := 130, nameIndex := 9, descriptorIndex := 10, attributes := #[] }, { accessFlags := 130, nameIndex := 26, descriptorIndex := 6, attributes := #[] }, { accessFlags := 26, nameIndex := 308, descriptorIndex := 307, attributes := #[] }, { accessFlags := 4120, nameIndex := 5, descriptorIndex := 6, attributes := #[] }])
  fields := #[{ name := "ADDRESS_BITS_PER_WORD", type := .int, accessFlags := 26, slot := 0, constantValue := 0 }, { name := "BITS_PER_WORD", type := .int, accessFlags := 26, slot := 1, constantValue := 0 }, { name := "BIT_INDEX_MASK", type := .int, accessFlags := 26, slot := 2, constantValue := 0 }, { name := "WORD_MASK", type := .long, accessFlags := 26, slot := 3, constantValue := 0 }, { name := "serialPersistentFields", type := (.array (.object "java/io/ObjectStreamField")), accessFlags := 26, slot := 4, constantValue := 0 }, { name := "words", type := (.array .long), accessFlags := 2, slot := 0, constantValue := 0 }, { name := "wordsInUse", type := .int, accessFlags := 130, slot := 1, constantValue := 0 }, { name := "sizeIsSticky", type := .boolean, accessFlags := 130, slot := 2, constantValue := 0 }, { name := "serialVersionUID", type := .long, accessFlags := 26, slot := 5, constantValue := 0 }, { name := "$assertionsDisabled", type := .boolean, accessFlags := 4120, slot := 6, constantValue := 0 }]
  methods := #[k6m0, k6m1, k6m2, k6m3, k6m4, k6m5, k6m6, k6m7]
  instanceTypes := #[(.array .long), .int, .boolean]
  staticTypes := #[.int, .int, .int, .long, (.array (.object "java/io/ObjectStreamField")), .long, .boolean]
  resolved := Array.replicate 417 none
  statics := some 1 }

/-- the primitive byte -/
def k7 : Class := { plain "byte" none with kind := .primitive 'B', accessFlags := 0x411 }
/-- [B -/
def k8 : Class := { plain "[B" (some 0) with kind := .array 7 .byte, interfaces := #[4, 5], accessFlags := 1041 }

/-- the primitive int -/
def k9 : Class := { plain "int" none with kind := .primitive 'I', accessFlags := 0x411 }
/-- [I -/
def k10 : Class := { plain "[I" (some 0) with kind := .array 9 .int, interfaces := #[4, 5], accessFlags := 1041 }

/-- the primitive long -/
def k11 : Class := { plain "long" none with kind := .primitive 'J', accessFlags := 0x411 }
/-- [J -/
def k12 : Class := { plain "[J" (some 0) with kind := .array 11 .long, interfaces := #[4, 5], accessFlags := 1041 }

def heap : Heap := #[{ cls := 3, slots := #[.ref 3, .ref 4], vm := .statics 3 },
  { cls := 6, slots := #[.int 0, .int 0, .int 0, .long 0, .null, .long 0, .int 1], vm := .statics 6 },
  { cls := 6, slots := #[.null, .int 0, .int 0], vm := .none },
  { cls := 3, slots := #[.int 0, .ref 2], vm := .none },
  { cls := 3, slots := #[.int 1, .ref 2], vm := .none }]
def classes : Array Class := #[k0, k1, k2, k3, k4, k5, k6, k7, k8, k9, k10, k11, k12]
def interned : List (Array UInt16 × Addr) := []
def slotsUsed : Nat := 16
def theMethod : MethodId := ⟨1, 1⟩
def args0 : Array Value := #[.int 5, .int 6, .int 7]
def aboutOver (below : List Frame) : State where
  vm := { classes := classes, interned := interned.toArray }
  heap := heap
  slotsUsed := slotsUsed
  threads := #[{ frames := .invoking theMethod args0 :: below }]
def below0 : List Frame := [.native { method := ⟨0, 0⟩, args := #[] }]
def about1 : State := aboutOver below0
def p0 : Program := .bare "" "" ""
def e0 : Env := launch0.env 0 0 0
theorem w_frames : about1.frames = Frame.invoking theMethod args0 :: below0 := rfl
set_option maxRecDepth 65536 in
theorem w_args : argsFit about1.vm theMethod args0 = true := by decide +kernel
set_option maxRecDepth 65536 in
theorem w_heap : heapFits about1 = true := by decide +kernel
set_option maxRecDepth 65536 in
theorem w_runnable : about1.curStatus? = some .runnable := by decide +kernel
set_option maxRecDepth 65536 in
theorem w_alone : about1.alone = true := by decide +kernel
set_option maxRecDepth 65536 in
theorem w_named : about1.methodNamed? x = some theMethod := by decide +kernel
set_option maxRecDepth 65536 in
theorem w_hears : about1.hears theMethod below0 = true := by decide +kernel
set_option maxRecDepth 65536 in
theorem w_ripe : about1.ripe theMethod args0 below0 = true := by decide +kernel
theorem w_running : about1.status = .running := rfl
set_option maxRecDepth 65536 in
theorem w_room : about1.hasRoom e0.platform room_1 = true :=
  launch0.hasRoom_least _ room_1 (by decide +kernel) (by decide +kernel) (by decide +kernel) (by decide +kernel) (by decide +kernel) (by decide +kernel)
theorem allAtoms_all (ts : List Jvm.Cond) (a : Array Jvm.Value) (st : Jvm.State) : (allAtoms ts).before a st = ts.all (fun c => c.before a st) := by
  induction ts with
  | nil => rfl
  | cons c t ih =>
    show (Jvm.Cond.and c (allAtoms t)).before a st = _
    rw [Jvm.Cond.before_and, ih, List.all_cons]
def words1 : List Jvm.Cond := Jvm.Cond.code x code maxLocals ret :: tables_1
/-- a 'code' word, met by the world's own term for the bytes: nothing is compared byte by byte -/
theorem code_word {y : MethodName} {bytes : ByteArray} {mx : Nat} {rt : Option FieldType} {a : Array Value} {s : State} {m : MethodId} {meth : Method} {c : Code} (h1 : s.methodNamed? y = some m) (h2 : s.vm.method? m = some meth) (h3 : meth.code = some c) (h4 : c.code = bytes)
    (h5 : (c.maxLocals == mx && c.exceptionTable.isEmpty && decide (c.maxStack ≤ mostOperands) && decide (meth.sig.returnType = rt) && !meth.locks && decide (parseMethodDescriptor y.desc = some meth.sig)) = true) : (Jvm.Cond.code y bytes mx rt).before a s = true := by
  simp only [Bool.and_eq_true, beq_iff_eq, Bool.not_eq_true', decide_eq_true_eq] at h5
  obtain ⟨⟨⟨⟨⟨g1, g2⟩, g3⟩, g4⟩, g5⟩, g6⟩ := h5
  simp [Cond.before, Cond.holds, Cond.value, h1, h2, h3, h4, g1, g2, g3, g4, g5, g6]
def isCode : Jvm.Cond → Bool
  | .code _ _ _ _ => true
  | _ => false
theorem all_split {L : List Jvm.Cond} {P : Jvm.Cond → Bool} (h1 : L.all (fun c => isCode c || P c) = true) (h2 : ∀ c ∈ L.filter isCode, P c = true) : L.all P = true := by
  refine List.all_eq_true.mpr fun c hc => ?_
  have h := List.all_eq_true.mp h1 c hc
  rcases Bool.eq_false_or_eq_true (isCode c) with hi | hi
  · exact h2 c (List.mem_filter.mpr ⟨hc, hi⟩)
  · simpa [hi] using h
set_option maxRecDepth 65536 in
theorem w_c0 : (Jvm.Cond.code x code maxLocals ret).before args0 about1 = true := code_word (m := ⟨1, 1⟩) (meth := k1m1) (c := k1c1) (by decide +kernel) rfl rfl rfl (by decide +kernel)
set_option maxRecDepth 65536 in
theorem w_c1 : (Jvm.Cond.code ({ cls := "com/example/mailroom/mailroom/engine/Timeline$Race", name := "own", desc := "(Z)Lcom/example/mailroom/mailroom/engine/Timeline$Race;" } : Jvm.MethodName) prog_120_method_2_code (1 : Nat) (Option.some (Jvm.ClassFile.FieldType.object "com/example/mailroom/mailroom/engine/Timeline$Race"))).before args0 about1 = true := code_word (m := ⟨3, 1⟩) (meth := k3m1) (c := k3c1) (by decide +kernel) rfl rfl rfl (by decide +kernel)
set_option maxRecDepth 65536 in
theorem w_c2 : (Jvm.Cond.code ({ cls := "com/example/mailroom/mailroom/engine/Timeline$Race", name := "contends", desc := "()Z" } : Jvm.MethodName) prog_120_method_8_code (1 : Nat) (Option.some Jvm.ClassFile.FieldType.boolean)).before args0 about1 = true := code_word (m := ⟨3, 4⟩) (meth := k3m4) (c := k3c4) (by decide +kernel) rfl rfl rfl (by decide +kernel)
set_option maxRecDepth 65536 in
theorem w_c3 : (Jvm.Cond.code ({ cls := "com/example/mailroom/mailroom/engine/Timeline$Race", name := "runners", desc := "()Ljava/util/BitSet;" } : Jvm.MethodName) prog_120_method_9_code (1 : Nat) (Option.some (Jvm.ClassFile.FieldType.object "java/util/BitSet"))).before args0 about1 = true := code_word (m := ⟨3, 5⟩) (meth := k3m5) (c := k3c5) (by decide +kernel) rfl rfl rfl (by decide +kernel)
set_option maxRecDepth 65536 in
theorem w_c4 : (Jvm.Cond.code ({ cls := "java/util/BitSet", name := "isEmpty", desc := "()Z" } : Jvm.MethodName) jdk_92_method_33_code (1 : Nat) (Option.some Jvm.ClassFile.FieldType.boolean)).before args0 about1 = true := code_word (m := ⟨6, 7⟩) (meth := k6m7) (c := k6c7) (by decide +kernel) rfl rfl rfl (by decide +kernel)
set_option maxRecDepth 65536 in
theorem w_c5 : (Jvm.Cond.code ({ cls := "com/example/mailroom/mailroom/engine/Timeline$Race", name := "through", desc := "(IZ)Lcom/example/mailroom/mailroom/engine/Timeline$Race;" } : Jvm.MethodName) prog_120_method_3_code (3 : Nat) (Option.some (Jvm.ClassFile.FieldType.object "com/example/mailroom/mailroom/engine/Timeline$Race"))).before args0 about1 = true := code_word (m := ⟨3, 2⟩) (meth := k3m2) (c := k3c2) (by decide +kernel) rfl rfl rfl (by decide +kernel)
set_option maxRecDepth 65536 in
theorem w_c6 : (Jvm.Cond.code ({ cls := "java/util/BitSet", name := "<init>", desc := "()V" } : Jvm.MethodName) jdk_92_method_4_code (1 : Nat) (Option.none : Option Jvm.ClassFile.FieldType)).before args0 about1 = true := code_word (m := ⟨6, 2⟩) (meth := k6m2) (c := k6c2) (by decide +kernel) rfl rfl rfl (by decide +kernel)
set_option maxRecDepth 65536 in
theorem w_c7 : (Jvm.Cond.code ({ cls := "java/lang/Object", name := "<init>", desc := "()V" } : Jvm.MethodName) object_method_1_code (1 : Nat) (Option.none : Option Jvm.ClassFile.FieldType)).before args0 about1 = true := code_word (m := ⟨0, 0⟩) (meth := k0m0) (c := k0c0) (by decide +kernel) rfl rfl rfl (by decide +kernel)
set_option maxRecDepth 65536 in
theorem w_c8 : (Jvm.Cond.code ({ cls := "java/util/BitSet", name := "initWords", desc := "(I)V" } : Jvm.MethodName) jdk_92_method_6_code (2 : Nat) (Option.none : Option Jvm.ClassFile.FieldType)).before args0 about1 = true := code_word (m := ⟨6, 3⟩) (meth := k6m3) (c := k6c3) (by decide +kernel) rfl rfl rfl (by decide +kernel)
set_option maxRecDepth 65536 in
theorem w_c9 : (Jvm.Cond.code ({ cls := "java/util/BitSet", name := "wordIndex", desc := "(I)I" } : Jvm.MethodName) jdk_92_method_1_code (1 : Nat) (Option.some Jvm.ClassFile.FieldType.int)).before args0 about1 = true := code_word (m := ⟨6, 0⟩) (meth := k6m0) (c := k6c0) (by decide +kernel) rfl rfl rfl (by decide +kernel)
set_option maxRecDepth 65536 in
theorem w_c10 : (Jvm.Cond.code ({ cls := "java/util/BitSet", name := "set", desc := "(I)V" } : Jvm.MethodName) jdk_92_method_19_code (3 : Nat) (Option.none : Option Jvm.ClassFile.FieldType)).before args0 about1 = true := code_word (m := ⟨6, 6⟩) (meth := k6m6) (c := k6c6) (by decide +kernel) rfl rfl rfl (by decide +kernel)
set_option maxRecDepth 65536 in
theorem w_c11 : (Jvm.Cond.code ({ cls := "java/util/BitSet", name := "expandTo", desc := "(I)V" } : Jvm.MethodName) jdk_92_method_15_code (3 : Nat) (Option.none : Option Jvm.ClassFile.FieldType)).before args0 about1 = true := code_word (m := ⟨6, 5⟩) (meth := k6m5) (c := k6c5) (by decide +kernel) rfl rfl rfl (by decide +kernel)
set_option maxRecDepth 65536 in
theorem w_c12 : (Jvm.Cond.code ({ cls := "java/util/BitSet", name := "ensureCapacity", desc := "(I)V" } : Jvm.MethodName) jdk_92_method_14_code (3 : Nat) (Option.none : Option Jvm.ClassFile.FieldType)).before args0 about1 = true := code_word (m := ⟨6, 4⟩) (meth := k6m4) (c := k6c4) (by decide +kernel) rfl rfl rfl (by decide +kernel)
set_option maxRecDepth 65536 in
theorem w_c13 : (Jvm.Cond.code ({ cls := "java/util/BitSet", name := "checkInvariants", desc := "()V" } : Jvm.MethodName) jdk_92_method_2_code (1 : Nat) (Option.none : Option Jvm.ClassFile.FieldType)).before args0 about1 = true := code_word (m := ⟨6, 1⟩) (meth := k6m1) (c := k6c1) (by decide +kernel) rfl rfl rfl (by decide +kernel)
set_option maxRecDepth 65536 in
theorem w_c14 : (Jvm.Cond.code ({ cls := "com/example/mailroom/mailroom/engine/Timeline$Race", name := "<init>", desc := "(ZLjava/util/BitSet;)V" } : Jvm.MethodName) prog_120_method_1_code (3 : Nat) (Option.none : Option Jvm.ClassFile.FieldType)).before args0 about1 = true := code_word (m := ⟨3, 0⟩) (meth := k3m0) (c := k3c0) (by decide +kernel) rfl rfl rfl (by decide +kernel)
set_option maxRecDepth 65536 in
theorem w_c15 : (Jvm.Cond.code ({ cls := "java/lang/Record", name := "<init>", desc := "()V" } : Jvm.MethodName) jdk_30_method_1_code (1 : Nat) (Option.none : Option Jvm.ClassFile.FieldType)).before args0 about1 = true := code_word (m := ⟨2, 0⟩) (meth := k2m0) (c := k2c0) (by decide +kernel) rfl rfl rfl (by decide +kernel)
set_option maxRecDepth 65536 in
theorem w_c16 : (Jvm.Cond.code ({ cls := "com/example/mailroom/mailroom/engine/Timeline$Race", name := "join", desc := "(Lcom/example/mailroom/mailroom/engine/Timeline$Race;Lcom/example/mailroom/mailroom/engine/Timeline$Race;)Lcom/example/mailroom/mailroom/engine/Timeline$Race;" } : Jvm.MethodName) prog_120_method_4_code (4 : Nat) (Option.some (Jvm.ClassFile.FieldType.object "com/example/mailroom/mailroom/engine/Timeline$Race"))).before args0 about1 = true := code_word (m := ⟨3, 3⟩) (meth := k3m3) (c := k3c3) (by decide +kernel) rfl rfl rfl (by decide +kernel)
def codes1 : List Jvm.Cond := [Jvm.Cond.code x code maxLocals ret, Jvm.Cond.code ({ cls := "com/example/mailroom/mailroom/engine/Timeline$Race", name := "own", desc := "(Z)Lcom/example/mailroom/mailroom/engine/Timeline$Race;" } : Jvm.MethodName) prog_120_method_2_code (1 : Nat) (Option.some (Jvm.ClassFile.FieldType.object "com/example/mailroom/mailroom/engine/Timeline$Race")), Jvm.Cond.code ({ cls := "com/example/mailroom/mailroom/engine/Timeline$Race", name := "contends", desc := "()Z" } : Jvm.MethodName) prog_120_method_8_code (1 : Nat) (Option.some Jvm.ClassFile.FieldType.boolean), Jvm.Cond.code ({ cls := "com/example/mailroom/mailroom/engine/Timeline$Race", name := "runners", desc := "()Ljava/util/BitSet;" } : Jvm.MethodName) prog_120_method_9_code (1 : Nat) (Option.some (Jvm.ClassFile.FieldType.object "java/util/BitSet")), Jvm.Cond.code ({ cls := "java/util/BitSet", name := "isEmpty", desc := "()Z" } : Jvm.MethodName) jdk_92_method_33_code (1 : Nat) (Option.some Jvm.ClassFile.FieldType.boolean), Jvm.Cond.code ({ cls := "com/example/mailroom/mailroom/engine/Timeline$Race", name := "through", desc := "(IZ)Lcom/example/mailroom/mailroom/engine/Timeline$Race;" } : Jvm.MethodName) prog_120_method_3_code (3 : Nat) (Option.some (Jvm.ClassFile.FieldType.object "com/example/mailroom/mailroom/engine/Timeline$Race")), Jvm.Cond.code ({ cls := "java/util/BitSet", name := "<init>", desc := "()V" } : Jvm.MethodName) jdk_92_method_4_code (1 : Nat) (Option.none : Option Jvm.ClassFile.FieldType), Jvm.Cond.code ({ cls := "java/lang/Object", name := "<init>", desc := "()V" } : Jvm.MethodName) object_method_1_code (1 : Nat) (Option.none : Option Jvm.ClassFile.FieldType), Jvm.Cond.code ({ cls := "java/util/BitSet", name := "initWords", desc := "(I)V" } : Jvm.MethodName) jdk_92_method_6_code (2 : Nat) (Option.none : Option Jvm.ClassFile.FieldType), Jvm.Cond.code ({ cls := "java/util/BitSet", name := "wordIndex", desc := "(I)I" } : Jvm.MethodName) jdk_92_method_1_code (1 : Nat) (Option.some Jvm.ClassFile.FieldType.int), Jvm.Cond.code ({ cls := "java/util/BitSet", name := "set", desc := "(I)V" } : Jvm.MethodName) jdk_92_method_19_code (3 : Nat) (Option.none : Option Jvm.ClassFile.FieldType), Jvm.Cond.code ({ cls := "java/util/BitSet", name := "expandTo", desc := "(I)V" } : Jvm.MethodName) jdk_92_method_15_code (3 : Nat) (Option.none : Option Jvm.ClassFile.FieldType), Jvm.Cond.code ({ cls := "java/util/BitSet", name := "ensureCapacity", desc := "(I)V" } : Jvm.MethodName) jdk_92_method_14_code (3 : Nat) (Option.none : Option Jvm.ClassFile.FieldType), Jvm.Cond.code ({ cls := "java/util/BitSet", name := "checkInvariants", desc := "()V" } : Jvm.MethodName) jdk_92_method_2_code (1 : Nat) (Option.none : Option Jvm.ClassFile.FieldType), Jvm.Cond.code ({ cls := "com/example/mailroom/mailroom/engine/Timeline$Race", name := "<init>", desc := "(ZLjava/util/BitSet;)V" } : Jvm.MethodName) prog_120_method_1_code (3 : Nat) (Option.none : Option Jvm.ClassFile.FieldType), Jvm.Cond.code ({ cls := "java/lang/Record", name := "<init>", desc := "()V" } : Jvm.MethodName) jdk_30_method_1_code (1 : Nat) (Option.none : Option Jvm.ClassFile.FieldType), Jvm.Cond.code ({ cls := "com/example/mailroom/mailroom/engine/Timeline$Race", name := "join", desc := "(Lcom/example/mailroom/mailroom/engine/Timeline$Race;Lcom/example/mailroom/mailroom/engine/Timeline$Race;)Lcom/example/mailroom/mailroom/engine/Timeline$Race;" } : Jvm.MethodName) prog_120_method_4_code (4 : Nat) (Option.some (Jvm.ClassFile.FieldType.object "com/example/mailroom/mailroom/engine/Timeline$Race"))]
set_option maxRecDepth 65536 in
theorem codes_eq : words1.filter isCode = codes1 := rfl
theorem w_codes : ∀ c ∈ words1.filter isCode, c.before args0 about1 = true := by
  rw [codes_eq]
  intro c hc
  simp only [codes1, List.mem_cons, List.not_mem_nil, or_false] at hc
  rcases hc with rfl | rfl | rfl | rfl | rfl | rfl | rfl | rfl | rfl | rfl | rfl | rfl | rfl | rfl | rfl | rfl | rfl
  · exact w_c0
  · exact w_c1
  · exact w_c2
  · exact w_c3
  · exact w_c4
  · exact w_c5
  · exact w_c6
  · exact w_c7
  · exact w_c8
  · exact w_c9
  · exact w_c10
  · exact w_c11
  · exact w_c12
  · exact w_c13
  · exact w_c14
  · exact w_c15
  · exact w_c16
set_option maxRecDepth 65536 in
theorem w_t1 : (words1.take 24).all (fun c => isCode c || c.before args0 about1) = true := by decide +kernel
set_option maxRecDepth 65536 in
theorem w_t2 : ((words1.drop 24).take 24).all (fun c => isCode c || c.before args0 about1) = true := by decide +kernel
set_option maxRecDepth 65536 in
theorem w_t3 : (((words1.drop 24).drop 24).take 24).all (fun c => isCode c || c.before args0 about1) = true := by decide +kernel
set_option maxRecDepth 65536 in
theorem w_t4 : (((words1.drop 24).drop 24).drop 24).all (fun c => isCode c || c.before args0 about1) = true := by decide +kernel
theorem w_tables : (allAtoms (Jvm.Cond.code x code maxLocals ret :: tables_1)).before args0 about1 = true := by
  rw [allAtoms_all]
  show words1.all (fun c => c.before args0 about1) = true
  refine all_split ?_ w_codes
  rw [← List.take_append_drop 24 words1, List.all_append, w_t1, ← List.take_append_drop 24 (words1.drop 24), List.all_append, w_t2, ← List.take_append_drop 24 ((words1.drop 24).drop 24), List.all_append, w_t3, w_t4]
  rfl
set_option maxRecDepth 65536 in
theorem w_rest : rest_1_c.before args0 about1 = true := by decide +kernel
set_option maxRecDepth 65536 in
theorem w_case : (Jvm.Cond.and given_1 narrow_1).before args0 about1 = true := by decide +kernel
theorem w_applies : (headSpec (Jvm.Cond.code x code maxLocals ret :: tables_1) room_1).applies x e0.platform about1 = true :=
  (Spec.applies_iff w_frames).mpr ⟨w_running, w_runnable, w_alone, w_named, w_hears, w_ripe, w_room, w_tables⟩
theorem atStart : AtStart classFile x code maxLocals ret World_1 tables_1 room_1 Calls_1 rest_1 Pre_1 launch0 p0 e0 about1 theMethod args0 below0 :=
  ⟨lists_1, trivial, launch0.admits_env _ _ _, launch0.least_env, fairChoices_fair.cas, fairChoices_fair.clock, w_frames, w_args, w_heap, w_applies, trivial, w_rest, w_case⟩
end start1
theorem witness_1 : WitnessClaimed_1 := ⟨start1.p0, start1.e0, start1.about1, start1.theMethod, start1.args0, start1.below0, start1.atStart⟩
end Jvm.Pilot.@@N@@
