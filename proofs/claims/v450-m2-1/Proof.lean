import JvmDerived
import JvmDerived.Pilot.@@N@@Statement
import JvmDerived.Pilot.@@N@@Code
set_option linter.unusedVariables false
set_option linter.unusedSimpArgs false
namespace Jvm.Pilot.@@N@@
open Jvm Jvm.ClassFile Sem Op Lib Jvm.Free Jvm.Stand Jvm.LawKit Jvm.RoadKit Bundle Jvm.Pilot.@@N@@.Jvm.D

/-! ## own kit: a walk as a tree -/
section OwnKit
variable {p : Program} {l : Launch} {e : Env} {R : Room} {s : State} {m : MethodId} {args : Array Value} {below : List Frame} {meth : Method} {c : Code} {T T' : State} {locs : List Loc} {cells slots : Nat} {Q : Option Value → Heap → List Loc → Prop} {f f' : JFrame} {Z : State} {a0 : Array Value} {h h' : Heap}
/-- from here the body comes to its return, and Q holds there -/
def Go (p : Program) (e : Env) (s : State) (below : List Frame) (R : Room) (Q : Option Value → Heap → List Loc → Prop) (T : State) (f : JFrame) : Prop :=
  ∃ s₂ o, Steps p.tables e below (T.setTop f) s₂ ∧ s₂.status = .running ∧ Ended s₂ below o ∧ ∃ v L, o = .returned v ∧ Q v s₂.heap L ∧ FrameEnd s o s₂ L R.cells R.slots
theorem Go.of (k : ∀ t, Steps p.tables e below (T'.setTop f') t → Steps p.tables e below (T.setTop f) t) (G : Go p e s below R Q T' f') : Go p e s below R Q T f := by
  obtain ⟨s2, o, h1, h2⟩ := G
  exact ⟨s2, o, k _ h1, h2⟩
theorem Go.cast (q : f = f') (G : Go p e s below R Q T f') : Go p e s below R Q T f := q ▸ G
theorem Go.retO (X : Stand p l e R s m args below meth c T locs cells slots) (hx : p.tables.exec = Jvm.exec) (hlk : meth.locks = false) {pc : Nat} {Ls : Array Slot} {w : Value} {t : FieldType} {i : Instr} {rest : List Value} (hret : meth.sig.returnType = some t) (hn : narrow t w = w)
    (hi : (i = .ireturn ∧ (t = .int ∨ t = .boolean ∨ t = .byte ∨ t = .char ∨ t = .short) ∧ ∃ z, w = .int z) ∨ (i = .lreturn ∧ t = .long ∧ ∃ z, w = .long z) ∨ (i = .dreturn ∧ t = .double ∧ ∃ z, w = .double z) ∨ (i = .freturn ∧ t = .float ∧ ∃ z, w = .float z) ∨ (i = .areturn ∧ t.isReference = true ∧ w.isRef = true))
    (hd : decode c.code pc = .ok (i, 1)) (hc : cells ≤ R.cells) (hs : slots ≤ R.slots) (hq : Q (some w) T.heap locs) : Go p e s below R Q T (mkF m pc Ls (w :: rest)) := by
  obtain ⟨fs, hr, hrun, hended, hW, hsame⟩ := X.leave (v := some w) (fun h => by rw [hret] at h; cases h) hlk
  exact ⟨_, _, retOut X hx hret hn hi hd hr, hrun, hended, _, _, rfl, hq, ⟨_, rfl⟩, hW, hsame.mono hc hs⟩
theorem Go.retI (X : Stand p l e R s m args below meth c T locs cells slots) (hx : p.tables.exec = Jvm.exec) (hlk : meth.locks = false) (hret : meth.sig.returnType = some .int) {pc : Nat} {Ls : Array Slot} {z : Int32} {rest : List Value}
    (hd : decode c.code pc = .ok (.ireturn, 1)) (hc : cells ≤ R.cells) (hs : slots ≤ R.slots) (hq : Q (some (.int z)) T.heap locs) : Go p e s below R Q T (mkF m pc Ls (.int z :: rest)) :=
  Go.retO X hx hlk hret rfl (Or.inl ⟨rfl, Or.inl rfl, _, rfl⟩) hd hc hs hq
theorem Go.retJ (X : Stand p l e R s m args below meth c T locs cells slots) (hx : p.tables.exec = Jvm.exec) (hlk : meth.locks = false) (hret : meth.sig.returnType = some .long) {pc : Nat} {Ls : Array Slot} {z : Int64} {rest : List Value}
    (hd : decode c.code pc = .ok (.lreturn, 1)) (hc : cells ≤ R.cells) (hs : slots ≤ R.slots) (hq : Q (some (.long z)) T.heap locs) : Go p e s below R Q T (mkF m pc Ls (.long z :: rest)) :=
  Go.retO X hx hlk hret rfl (Or.inr (Or.inl ⟨rfl, rfl, _, rfl⟩)) hd hc hs hq
theorem Go.retD (X : Stand p l e R s m args below meth c T locs cells slots) (hx : p.tables.exec = Jvm.exec) (hlk : meth.locks = false) (hret : meth.sig.returnType = some .double) {pc : Nat} {Ls : Array Slot} {z : UInt64} {rest : List Value}
    (hd : decode c.code pc = .ok (.dreturn, 1)) (hc : cells ≤ R.cells) (hs : slots ≤ R.slots) (hq : Q (some (.double z)) T.heap locs) : Go p e s below R Q T (mkF m pc Ls (.double z :: rest)) :=
  Go.retO X hx hlk hret rfl (Or.inr (Or.inr (Or.inl ⟨rfl, rfl, _, rfl⟩))) hd hc hs hq
theorem Go.retA (X : Stand p l e R s m args below meth c T locs cells slots) (hx : p.tables.exec = Jvm.exec) (hlk : meth.locks = false) {t : FieldType} (hret : meth.sig.returnType = some t) (ht : t.isReference = true) {pc : Nat} {Ls : Array Slot} {w : Value} {rest : List Value}
    (hw : w.isRef = true) (hd : decode c.code pc = .ok (.areturn, 1)) (hc : cells ≤ R.cells) (hs : slots ≤ R.slots) (hq : Q (some w) T.heap locs) : Go p e s below R Q T (mkF m pc Ls (w :: rest)) :=
  Go.retO X hx hlk hret (by cases t <;> first | (cases ht; done) | rfl) (Or.inr (Or.inr (Or.inr (Or.inr ⟨rfl, ht, hw⟩)))) hd hc hs hq
theorem Go.retB (X : Stand p l e R s m args below meth c T locs cells slots) (hx : p.tables.exec = Jvm.exec) (hlk : meth.locks = false) {t : FieldType} (hret : meth.sig.returnType = some t) (ht : t = .boolean ∨ t = .byte ∨ t = .char ∨ t = .short) {pc : Nat} {Ls : Array Slot} {z : Int32} {rest : List Value}
    (hd : decode c.code pc = .ok (.ireturn, 1)) (hc : cells ≤ R.cells) (hs : slots ≤ R.slots) {z' : Int32} (hz : nar t z = z') (hq : Q (some (.int z')) T.heap locs) : Go p e s below R Q T (mkF m pc Ls (.int z :: rest)) := by
  subst hz
  obtain ⟨fs, hr, hrun, hended, hW, hsame⟩ := X.leave (v := some (.int (nar t z))) (fun h => by rw [hret] at h; cases h) hlk
  exact ⟨_, _, retN X hx hret ht hd hr, hrun, hended, _, _, rfl, hq, ⟨_, rfl⟩, hW, hsame.mono hc hs⟩
theorem Go.retV (X : Stand p l e R s m args below meth c T locs cells slots) (hx : p.tables.exec = Jvm.exec) (hlk : meth.locks = false) (hret : meth.sig.returnType = none) {pc : Nat} {Ls : Array Slot}
    (hd : decode c.code pc = .ok (.return_, 1)) (hc : cells ≤ R.cells) (hs : slots ≤ R.slots) (hq : Q none T.heap locs) : Go p e s below R Q T (mkF m pc Ls []) := by
  obtain ⟨fs, hr, hrun, hended, hW, hsame⟩ := X.leave (v := none) (fun _ => rfl) hlk
  exact ⟨_, _, X.returnOut hx hret hd hr, hrun, hended, _, _, rfl, hq, ⟨_, rfl⟩, hW, hsame.mono hc hs⟩
/-- a body's contract: handed as', over the heap h, it returns and Q holds -/
def Ok (l : Launch) (Z : State) (y : MethodName) (bytes : ByteArray) (maxL : Nat) (ret : Option FieldType) (rm : Room) (as' : Array Value) (h : Heap) (Q : Option Value → Heap → List Loc → Prop) : Prop :=
  ∀ ws : List Jvm.Cond, MetFree l y (head1 (Jvm.Cond.code y bytes maxL ret :: ws) rm) (fun a U => a = as' ∧ Z.Warmed39 U.vm ∧ U.heap = h) (fun _ _ _ _ _ => True) (fun _ U o U' => ∃ v L, o = .returned v ∧ Q v U'.heap L ∧ FrameEnd U o U' L rm.cells rm.slots)
theorem Ok.mk {y : MethodName} {bytes : ByteArray} {maxL : Nat} {ret : Option FieldType} {rm : Room} {as' : Array Value} (hn : plainFor y = true)
    (k : ∀ p e s m below meth c s₁, p.tables.exec = Jvm.exec → c.code = bytes → c.maxLocals = maxL → s.vm.findClass y.cls = some m.cls → meth.name = y.name → meth.sig.returnType = ret → meth.locks = false → Z.Warmed39 s.vm → s₁.heap = h → Stand p l e rm s m as' below meth c s₁ [] 0 0 → Go p e s below rm Q s₁ (entryFrame m as' maxL)) :
    Ok l Z y bytes maxL ret rm as' h Q := by
  intro ws
  refine MetFree.of_bodySF hn hisR ?_
  intro p e s m args below meth c s₁ Bd hml0 hP hK
  obtain ⟨rfl, hZ, hh⟩ := hP
  exact k p e s m below meth c s₁ Bd.exec Bd.bytes hml0 (findClass_of_methodNamed Bd.named) (name_of_methodNamed Bd.named Bd.method).1 Bd.returns Bd.notSynchronized hZ (by rw [← hh, Bd.state]; rfl) (Stand.of_body Bd)
theorem callSt (X : Stand p l e R s m args below meth c T locs cells slots) (hx : p.tables.exec = Jvm.exec) (hZ : Z.Warmed39 s.vm) {own : String} {index : Nat} {y : MethodName} {bytes : ByteArray} {maxL : Nat} {ret : Option FieldType} {rm : Room} {as' : Array Value}
    (hown : s.vm.findClass own = some m.cls) (w1 : (Jvm.Cond.methodLink own index y).before a0 Z = true) (w2 : (Jvm.Cond.static y).before a0 Z = true) (w3 : (Jvm.Cond.initialized y.cls).before a0 Z = true) (w4 : (Jvm.Cond.code y bytes maxL ret).before a0 Z = true)
    (hy : y.cls ≠ "java/lang/invoke/MethodHandle" ∧ y.cls ≠ "java/lang/invoke/VarHandle") (hM : Ok l Z y bytes maxL ret rm as' h Q) (eT : T.heap = h) {W : Nat} (hf : rm.frames + 1 ≤ R.frames) (hl : W + (maxL + 11) + rm.locals ≤ R.locals) (hc : cells + rm.cells ≤ R.cells) (hs : slots + rm.slots ≤ R.slots)
    {g : JFrame} (hg : g.method = m) (hsize : g.locals.size = c.maxLocals) {argsL rest : List Value} (hlen : ∀ sig, parseMethodDescriptor y.desc = some sig → argsL.length = sig.parameters.length) (has : argsL.toArray = as')
    (hstack : g.stack = argsL.reverse ++ rest) (hW : 2 * g.monitorRoom + (rest.map fun v => v.category).sum ≤ W) (hd : decode c.code g.pc = .ok (.invokestatic index, 3)) :
    ∃ T' v L, Stand p l e R s m args below meth c T' (locs ++ L) (cells + rm.cells) (slots + rm.slots) ∧ Q v T'.heap L ∧ ∀ t, Steps p.tables e below (T'.setTop { g with pc := g.pc + 3, stack := v.toList ++ rest }) t → Steps p.tables e below (T.setTop g) t := by
  subst has
  obtain ⟨v, _, ⟨T1, L1, k1, n1⟩, -, X1, ⟨Lc, hQ, l1, y1, z1⟩, st⟩ := Jvm.LawKit.callS X hx (y := y) hown (mvT hZ w1) (mvT hZ w2) (mvT hZ w3) (mvT hZ w4) hy (backOf (W := W) (hM []) hZ w4 w3 hf hl) hg hsize hlen hstack hW hd (fun _ _ => ⟨rfl, eT, hc, hs⟩)
  dsimp only [Pt.U, Pt.locs, Pt.cells, Pt.slots] at X1 l1 y1 z1 st hQ
  subst l1 y1 z1
  exact ⟨T1, v, Lc, X1, hQ, st⟩
theorem callNew (X : Stand p l e R s m args below meth c T locs cells slots) (hx : p.tables.exec = Jvm.exec) (hZ : Z.Warmed39 s.vm) {own : String} {index : Nat} {y : MethodName} {bytes : ByteArray} {maxL : Nat} {rm : Room} {as' : Array Value} (hy1 : y.name = "<init>")
    (hown : s.vm.findClass own = some m.cls) (w1 : (Jvm.Cond.methodLink own index y).before a0 Z = true) (w2 : (Jvm.Cond.instanceMethod y).before a0 Z = true) (w3 : (Jvm.Cond.initialized y.cls).before a0 Z = true) (w4 : (Jvm.Cond.code y bytes maxL none).before a0 Z = true)
    (hy : y.cls ≠ "java/lang/invoke/MethodHandle" ∧ y.cls ≠ "java/lang/invoke/VarHandle") (hM : Ok l Z y bytes maxL none rm as' h Q) (eT : T.heap = h) {W : Nat} (hf : rm.frames + 1 ≤ R.frames) (hl : W + (maxL + 11) + rm.locals ≤ R.locals) (hc : cells + rm.cells ≤ R.cells) (hs : slots + rm.slots ≤ R.slots)
    {g : JFrame} (hg : g.method = m) (hsize : g.locals.size = c.maxLocals) {a : Addr} {argsL rest : List Value} (hlen : ∀ sig, parseMethodDescriptor y.desc = some sig → argsL.length = sig.parameters.length) (has : (.ref a :: argsL).toArray = as')
    (hstack : g.stack = argsL.reverse ++ .ref a :: rest) (hW : 2 * g.monitorRoom + (rest.map fun v => v.category).sum ≤ W) (hd : decode c.code g.pc = .ok (.invokespecial index, 3)) :
    ∃ T' v L, Stand p l e R s m args below meth c T' (locs ++ L) (cells + rm.cells) (slots + rm.slots) ∧ Q v T'.heap L ∧ ∀ t, Steps p.tables e below (T'.setTop { g with pc := g.pc + 3, stack := v.toList ++ rest }) t → Steps p.tables e below (T.setTop g) t := by
  subst has
  obtain ⟨v, _, ⟨T1, L1, k1, n1⟩, -, X1, ⟨Lc, hQ, l1, y1, z1⟩, st⟩ := X.specialBack hx (y := y) hy1 hown (mvT hZ w1) (mvT hZ w2) (mvT hZ w4) hy (backOf (W := W) (hM []) hZ w4 w3 hf hl) hg hsize (Steps.refl _) (a := a) hlen hstack hW hd (fun _ _ => ⟨rfl, eT, hc, hs⟩)
  dsimp only [Pt.U, Pt.locs, Pt.cells, Pt.slots] at X1 l1 y1 z1 st hQ
  subst l1 y1 z1
  exact ⟨T1, v, Lc, X1, hQ, fun t k => st.trans k⟩
theorem callVi (X : Stand p l e R s m args below meth c T locs cells slots) (hx : p.tables.exec = Jvm.exec) (hZ : Z.Warmed39 s.vm) {own C : String} {index : Nat} {y z : MethodName} {bytes : ByteArray} {maxL : Nat} {ret : Option FieldType} {rm : Room} {as' : Array Value}
    (hown : s.vm.findClass own = some m.cls) (w1 : (Jvm.Cond.methodLink own index y).before a0 Z = true) (w2 : (Jvm.Cond.declares y).before a0 Z = true) (nf : NotFace s y) (w3 : (Jvm.Cond.selects C y z).before a0 Z = true) (w4 : (Jvm.Cond.instanceMethod z).before a0 Z = true) (w5 : (Jvm.Cond.code z bytes maxL ret).before a0 Z = true) (w6 : (Jvm.Cond.initialized z.cls).before a0 Z = true)
    (hy : y.cls ≠ "java/lang/invoke/MethodHandle" ∧ y.cls ≠ "java/lang/invoke/VarHandle") (hM : Ok l Z z bytes maxL ret rm as' h Q) (eT : T.heap = h) {W : Nat} (hf : rm.frames + 1 ≤ R.frames) (hl : W + (maxL + 11) + rm.locals ≤ R.locals) (hc : cells + rm.cells ≤ R.cells) (hs : slots + rm.slots ≤ R.slots)
    {a : Addr} (E : Exa Z h a C) {g : JFrame} (hg : g.method = m) (hsize : g.locals.size = c.maxLocals) {argsL rest : List Value} (hlen : ∀ sig, parseMethodDescriptor y.desc = some sig → argsL.length = sig.parameters.length) (has : (.ref a :: argsL).toArray = as')
    (hstack : g.stack = argsL.reverse ++ .ref a :: rest) (hW : 2 * g.monitorRoom + (rest.map fun v => v.category).sum ≤ W) (hd : decode c.code g.pc = .ok (.invokevirtual index, 3)) :
    ∃ T' v L, Stand p l e R s m args below meth c T' (locs ++ L) (cells + rm.cells) (slots + rm.slots) ∧ Q v T'.heap L ∧ ∀ t, Steps p.tables e below (T'.setTop { g with pc := g.pc + 3, stack := v.toList ++ rest }) t → Steps p.tables e below (T.setTop g) t := by
  subst has
  obtain ⟨cq, kq, qa, qb, qc⟩ := isOf hZ eT E
  obtain ⟨v, _, ⟨T1, L1, k1, n1⟩, -, X1, ⟨Lc, hQ, l1, y1, z1⟩, st⟩ := X.virtualBack hx (y := y) (z := z) hown (mvT hZ w1) (mvT hZ w2) nf (mvT hZ w3) (mvT hZ w4) hy (backOf (W := W) (hM []) hZ w5 w6 hf hl) qa qc hg hsize (Steps.refl _) hlen hstack hW hd (fun _ _ => ⟨rfl, eT, hc, hs⟩)
  dsimp only [Pt.U, Pt.locs, Pt.cells, Pt.slots] at X1 l1 y1 z1 st hQ
  subst l1 y1 z1
  exact ⟨T1, v, Lc, X1, hQ, fun t k => st.trans k⟩
/-- a new object at the address a: a fresh name for the heap's end -/
theorem newOb (X : Stand p l e R s m args below meth c T locs cells slots) (hx : p.tables.exec = Jvm.exec) (hZ : Z.Warmed39 s.vm) {own C : String} {index n : Nat} (hown : s.vm.findClass own = some m.cls) (w : (Jvm.Cond.classLink own index C).before a0 Z = true) (wi : (Jvm.Cond.instantiable C n).before a0 Z = true) (wz : (Jvm.Cond.initialized C).before a0 Z = true) (eT : T.heap = h)
    {g : JFrame} (hg : g.method = m) (hd : decode c.code g.pc = .ok (.new index, 3)) (hc : cells + 1 ≤ R.cells) (hl : slots + n ≤ R.slots) :
    ∃ T' h' a, a = h.size ∧ Stand p l e R s m args below meth c T' locs (cells + 1) (slots + n) ∧ T'.heap = h' ∧ Ext h h' ∧ Exa Z h' a C ∧ (∀ {O nm d : String} {ty : FieldType}, Laid Z a0 C O nm d → parseFieldDescriptor d = some ty → Fld Z h' a O nm d (defaultValue ty)) ∧
      ∀ t, Steps p.tables e below (T'.setTop { g with pc := g.pc + 3, stack := .ref a :: g.stack }) t → Steps p.tables e below (T.setTop g) t := by
  obtain ⟨T2, h2, X2, e2, E2, A2, D2, -, st2⟩ := newO X hx hZ hown w wi wz eT hg hd hc hl
  exact ⟨T2, h2, h.size, rfl, X2, e2, E2, A2, D2, st2⟩
theorem Old0.keep {ws : List Addr} (X : Ext Z.heap h) (K : Keep h h' ws) (q : ∀ x ∈ ws, Z.heap.size ≤ x) : Ext Z.heap h' := (Old.keep (n0 := Z.heap.size) ⟨rfl, X⟩ K q).2
theorem Old0.wr {a : Addr} {sl : Nat} {v : Value} (X : Ext Z.heap h) (W : Wr h h' a sl v) (q : Z.heap.size ≤ a) : Ext Z.heap h' := (Old.wr (n0 := Z.heap.size) ⟨rfl, X⟩ W q).2
theorem Old0.ext (X : Ext Z.heap h) (E : Ext h h') : Ext Z.heap h' := (Old.ext (n0 := Z.heap.size) ⟨rfl, X⟩ E).2
theorem ext_rfl : Ext h h := ⟨Nat.le_refl _, fun _ _ q => q⟩
theorem eqI_v {first : State} {o : Option Outcome} {idx : List Nat} {a : Term} {k : Int32} (q : (Jvm.Cond.eq a (.int k)).value args first o s idx = some true) : a.eval args first o idx s = some (.int k) := by
  cases ha : a.eval args first o idx s with
  | none => simp [Jvm.Cond.value, ha] at q
  | some x => cases x <;> simp [Jvm.Cond.value, ha, Term.eval] at q ⊢; exact q
theorem eqJ_v {first : State} {o : Option Outcome} {idx : List Nat} {a : Term} {k : Int64} (q : (Jvm.Cond.eq a (.long k)).value args first o s idx = some true) : a.eval args first o idx s = some (.long k) := by
  cases ha : a.eval args first o idx s with
  | none => simp [Jvm.Cond.value, ha] at q
  | some x => cases x <;> simp [Jvm.Cond.value, ha, Term.eval] at q ⊢; exact q
theorem eqR_v {first : State} {o : Option Outcome} {idx : List Nat} {a b : Term} {x : Addr} (hb : b.eval args first o idx s = some (.ref x)) (q : (Jvm.Cond.eq a b).value args first o s idx = some true) : a.eval args first o idx s = some (.ref x) := by
  cases ha : a.eval args first o idx s with
  | none => simp [Jvm.Cond.value, ha] at q
  | some x => cases x <;> simp [Jvm.Cond.value, ha, hb] at q ⊢; exact q
theorem callPr (X : Stand p l e R s m args below meth c T locs cells slots) (hx : p.tables.exec = Jvm.exec) (hZ : Z.Warmed39 s.vm) {own : String} {index : Nat} {y : MethodName} {bytes : ByteArray} {maxL : Nat} {ret : Option FieldType} {rm : Room} {as' : Array Value}
    (hown : s.vm.findClass own = some m.cls) (w1 : (Jvm.Cond.methodLink own index y).before a0 Z = true) (w2 : (Jvm.Cond.instanceMethod y).before a0 Z = true) (w3 : (Jvm.Cond.selects y.cls y y).before a0 Z = true) (w4 : (Jvm.Cond.privateMethod y).before a0 Z = true) (w5 : (Jvm.Cond.initialized y.cls).before a0 Z = true) (w6 : (Jvm.Cond.code y bytes maxL ret).before a0 Z = true)
    (hy : y.cls ≠ "java/lang/invoke/MethodHandle" ∧ y.cls ≠ "java/lang/invoke/VarHandle") (hM : Ok l Z y bytes maxL ret rm as' h Q) (eT : T.heap = h) {W : Nat} (hf : rm.frames + 1 ≤ R.frames) (hl : W + (maxL + 11) + rm.locals ≤ R.locals) (hc : cells + rm.cells ≤ R.cells) (hs : slots + rm.slots ≤ R.slots)
    {C : String} {a : Addr} (E : Exa Z h a C) {g : JFrame} (hg : g.method = m) (hsize : g.locals.size = c.maxLocals) {argsL rest : List Value} (hlen : ∀ sig, parseMethodDescriptor y.desc = some sig → argsL.length = sig.parameters.length) (has : (.ref a :: argsL).toArray = as')
    (hstack : g.stack = argsL.reverse ++ .ref a :: rest) (hW : 2 * g.monitorRoom + (rest.map fun v => v.category).sum ≤ W) (hd : decode c.code g.pc = .ok (.invokevirtual index, 3)) :
    ∃ T' v L, Stand p l e R s m args below meth c T' (locs ++ L) (cells + rm.cells) (slots + rm.slots) ∧ Q v T'.heap L ∧ ∀ t, Steps p.tables e below (T'.setTop { g with pc := g.pc + 3, stack := v.toList ++ rest }) t → Steps p.tables e below (T.setTop g) t := by
  subst has
  obtain ⟨cq, q1, q2⟩ := E.cell
  obtain ⟨v, _, ⟨T1, L1, k1, n1⟩, -, X1, ⟨Lc, hQ, l1, y1, z1⟩, st⟩ := X.privateBack hx (y := y) hown (mvT hZ w1) (mvT hZ w2) (mvT hZ w3) (Cond.privateMethod_at (mvP hZ w4 (args := #[]))) (mvT hZ w6) hy (backOf (W := W) (hM []) hZ w6 w5 hf hl) hg hsize (Steps.refl _) (a := a) (by rw [eT]; exact q1) q2 hlen hstack hW hd (fun _ _ => ⟨rfl, eT, hc, hs⟩)
  dsimp only [Pt.U, Pt.locs, Pt.cells, Pt.slots] at X1 l1 y1 z1 st hQ
  subst l1 y1 z1
  exact ⟨T1, v, Lc, X1, hQ, fun t k => st.trans k⟩
theorem callIf (X : Stand p l e R s m args below meth c T locs cells slots) (hx : p.tables.exec = Jvm.exec) (hZ : Z.Warmed39 s.vm) {own C : String} {index count : Nat} {xi y : MethodName} {bytes : ByteArray} {maxL : Nat} {ret : Option FieldType} {rm : Room} {as' : Array Value}
    (hown : s.vm.findClass own = some m.cls) (w1 : (Jvm.Cond.methodLink own index xi).before a0 Z = true) (w2 : (Jvm.Cond.declares xi).before a0 Z = true) (w3 : (Jvm.Cond.interfaceMethod xi.cls xi.cls xi.name xi.desc).before args s = true) (w4 : (Jvm.Cond.selects C xi y).before a0 Z = true) (w5 : (Jvm.Cond.instanceMethod y).before a0 Z = true) (w6 : (Jvm.Cond.publicMethod y).before a0 Z = true) (w7 : (Jvm.Cond.unhidden C xi.name xi.desc).before a0 Z = true) (w8 : (Jvm.Cond.castable C xi.cls).before a0 Z = true) (w9 : (Jvm.Cond.code y bytes maxL ret).before a0 Z = true) (w10 : (Jvm.Cond.initialized y.cls).before a0 Z = true)
    (hy : xi.cls ≠ "java/lang/invoke/MethodHandle" ∧ xi.cls ≠ "java/lang/invoke/VarHandle") (hM : Ok l Z y bytes maxL ret rm as' h Q) (eT : T.heap = h) {W : Nat} (hf : rm.frames + 1 ≤ R.frames) (hl : W + (maxL + 11) + rm.locals ≤ R.locals) (hc : cells + rm.cells ≤ R.cells) (hs : slots + rm.slots ≤ R.slots)
    {a : Addr} (E : Exa Z h a C) {g : JFrame} (hg : g.method = m) (hsize : g.locals.size = c.maxLocals) {argsL rest : List Value} (hlen : ∀ sig, parseMethodDescriptor xi.desc = some sig → argsL.length = sig.parameters.length) (has : (.ref a :: argsL).toArray = as')
    (hstack : g.stack = argsL.reverse ++ .ref a :: rest) (hW : 2 * g.monitorRoom + (rest.map fun v => v.category).sum ≤ W) (hd : decode c.code g.pc = .ok (.invokeinterface index count, 5)) :
    ∃ T' v L, Stand p l e R s m args below meth c T' (locs ++ L) (cells + rm.cells) (slots + rm.slots) ∧ Q v T'.heap L ∧ ∀ t, Steps p.tables e below (T'.setTop { g with pc := g.pc + 5, stack := v.toList ++ rest }) t → Steps p.tables e below (T.setTop g) t := by
  subst has
  obtain ⟨cq, kq, qa, qb, qc⟩ := isOf hZ eT E
  obtain ⟨v, _, ⟨T1, L1, k1, n1⟩, -, X1, ⟨Lc, hQ, l1, y1, z1⟩, st⟩ := X.interfaceBack hx (xi := xi) (y := y) hown (mvT hZ w1) (mvT hZ w2) w3 (mvT hZ w4) (mvT hZ w5) (mvT hZ w6) (mvT hZ w7) (mvT hZ w8) hy (backOf (W := W) (hM []) hZ w9 w10 hf hl) qa qb qc hg hsize (Steps.refl _) hlen hstack hW hd (fun _ _ => ⟨rfl, eT, hc, hs⟩)
  dsimp only [Pt.U, Pt.locs, Pt.cells, Pt.slots] at X1 l1 y1 z1 st hQ
  subst l1 y1 z1
  exact ⟨T1, v, Lc, X1, hQ, fun t k => st.trans k⟩
theorem newAr (X : Stand p l e R s m args below meth c T locs cells slots) (hx : p.tables.exec = Jvm.exec) (hZ : Z.Warmed39 s.vm) {aty : ArrayType} (w : (Jvm.Cond.arrayClass (newarray.typeOf aty)).before a0 Z = true) (eT : T.heap = h) {g : JFrame} (hg : g.method = m) (hd : decode c.code g.pc = .ok (.newarray aty, 2)) {n : Int32} {rest : List Value} (hs : g.stack = .int n :: rest)
    (hn : ¬ n < 0) {cap : Nat} (hcap : n.toNatClampNeg ≤ cap) (hb : cap * 8 ≤ 536870912) (hc : cells + 1 ≤ R.cells) (hl : slots + cap ≤ R.slots) {ad : String} (had : "[" ++ (newarray.typeOf aty).toString = ad) :
    ∃ T' h' k a, a = h.size ∧ Stand p l e R s m args below meth c T' locs (cells + 1) (slots + cap) ∧ T'.heap = h' ∧ Ext h h' ∧ Arv Z h' a k (newarray.typeOf aty) n [] (defaultValue (newarray.typeOf aty)) ∧ Exa Z h' a ad ∧
      ∀ t, Steps p.tables e below (T'.setTop { g with pc := g.pc + 2, stack := .ref a :: rest }) t → Steps p.tables e below (T.setTop g) t := by
  obtain ⟨T2, h2, k, X2, e2, E2, A2, B2, st2⟩ := newPE X hx hZ w eT hg hd hs hn hcap hb hc hl had
  exact ⟨T2, h2, k, h.size, rfl, X2, e2, E2, Arv.new A2 hn, B2, st2⟩
theorem newRr (X : Stand p l e R s m args below meth c T locs cells slots) (hx : p.tables.exec = Jvm.exec) (hZ : Z.Warmed39 s.vm) {own C : String} {index : Nat} (hown : s.vm.findClass own = some m.cls) (w1 : (Jvm.Cond.classLink own index C).before a0 Z = true) (w2 : (Jvm.Cond.arrayOver (.object C)).before a0 Z = true)
    (eT : T.heap = h) {g : JFrame} (hg : g.method = m) (hd : decode c.code g.pc = .ok (.anewarray index, 3)) {n : Int32} {rest : List Value} (hs : g.stack = .int n :: rest) (hn : ¬ n < 0) {cap : Nat} (hcap : n.toNatClampNeg ≤ cap) (hb : cap * 8 ≤ 536870912) (hc : cells + 1 ≤ R.cells) (hl : slots + cap ≤ R.slots) {ad : String} (had : "[" ++ (FieldType.object C).toString = ad) :
    ∃ T' h' k a, a = h.size ∧ Stand p l e R s m args below meth c T' locs (cells + 1) (slots + cap) ∧ T'.heap = h' ∧ Ext h h' ∧ Arv Z h' a k (.object C) n [] .null ∧ Exa Z h' a ad ∧ Ovr Z k C ∧
      ∀ t, Steps p.tables e below (T'.setTop { g with pc := g.pc + 3, stack := .ref a :: rest }) t → Steps p.tables e below (T.setTop g) t := by
  obtain ⟨T2, h2, k, X2, e2, E2, A2, B2, O2, st2⟩ := newRE X hx hZ hown w1 w2 eT hg hd hs hn hcap hb hc hl had
  exact ⟨T2, h2, k, h.size, rfl, X2, e2, E2, Arv.new A2 hn, B2, O2, st2⟩
theorem own_len {t : Term} {a : Addr} {cl : Cell} {ty : FieldType} {k : Int32} (ev : t.eval args s none [] s = some (.ref a)) (A : Arr s s.heap a cl ty) (q : (Term.length t).eval args s none [] s = some (.int k)) : cl.slots.size < 2 ^ 31 ∧ cl.slots.size.toInt32 = k := by
  have ha := Arr.fin (U := s) (Vm.Alike.refl _) A
  simp only [Term.eval, ev] at q
  simp at q
  rw [ha] at q
  simp only [Option.bind_some] at q
  split at q
  · rename_i hlt
    simp only [Option.some.injEq, Value.int.injEq] at q
    exact ⟨hlt, q⟩
  · cases q
theorem own_el {t : Term} {a : Addr} {cl : Cell} {ty : FieldType} {j : Int32} {v : Value} (ev : t.eval args s none [] s = some (.ref a)) (A : Arr s s.heap a cl ty) (q : (Term.elem t (.int j)).eval args s none [] s = some v) : cl.slots[j.toNatClampNeg]? = some v :=
  (elem_in q ev rfl A.1).2
theorem cloneV (X : Stand p l e R s m args below meth c T locs cells slots) (hx : p.tables.exec = Jvm.exec) (hZ : Z.Warmed39 s.vm) {own ad : String} {index : Nat} (hown : s.vm.findClass own = some m.cls)
    (w1 : (Jvm.Cond.methodLink own index ⟨ad, "clone", "()Ljava/lang/Object;"⟩).before a0 Z = true) (w2 : (Jvm.Cond.sameMethod ad "java/lang/Object" "clone" "()Ljava/lang/Object;").before a0 Z = true) (w3 : (Jvm.Cond.native ⟨"java/lang/Object", "clone", "()Ljava/lang/Object;"⟩).before a0 Z = true)
    (w4 : (Jvm.Cond.instanceMethod ⟨"java/lang/Object", "clone", "()Ljava/lang/Object;"⟩).before a0 Z = true) (w5 : (Jvm.Cond.selects ad ⟨ad, "clone", "()Ljava/lang/Object;"⟩ ⟨"java/lang/Object", "clone", "()Ljava/lang/Object;"⟩).before a0 Z = true) (w6 : (Jvm.Cond.castable ad "java/lang/Cloneable").before a0 Z = true)
    (eT : T.heap = h) {b : Addr} {k : ClassId} {ty : FieldType} {z : Int32} {vs : List Value} {dv : Value} (F : Arv Z h b k ty z vs dv) (E : Exa Z h b ad) {g : JFrame} (hg : g.method = m) (hsize : g.locals.size = c.maxLocals) {rest : List Value} (hst : g.stack = .ref b :: rest) (hd : decode c.code g.pc = .ok (.invokevirtual index, 3))
    (hf : 1 ≤ R.frames) {W cap : Nat} (hW : 2 * g.monitorRoom + (rest.map fun v => v.category).sum ≤ W) (hl : W + 14 ≤ R.locals) (hcap : z.toNatClampNeg ≤ cap) (hc : cells + 1 ≤ R.cells) (hsl : slots + cap ≤ R.slots) :
    ∃ T' h' a, a = h.size ∧ Stand p l e R s m args below meth c T' locs (cells + 1) (slots + cap) ∧ T'.heap = h' ∧ Ext h h' ∧ Arv Z h' a k ty z vs dv ∧ Exa Z h' a ad ∧
      ∀ t, Steps p.tables e below (T'.setTop { g with pc := g.pc + 3, stack := .ref a :: rest }) t → Steps p.tables e below (T.setTop g) t := by
  obtain ⟨T2, h2, X2, e2, E2, A2, B2, st2⟩ := cloneH X hx hZ hown w1 w2 w3 w4 w5 w6 eT F.arh E hg hsize hst hd hf hW hl hcap hc hsl
  exact ⟨T2, h2, h.size, rfl, X2, e2, E2, A2, B2, st2⟩
end OwnKit
def own_lt (q : Int64) : Int32 := if lcmpW q 200000 < 0 then 1 else 0
def own_fl (s : Int64) : Int64 := if lcmpW (s % 8) 0 = 0 then s / 8 else if lcmpW s 0 < 0 then s / 8 - 1 else s / 8
def own_ce (s : Int64) : Int64 := if lcmpW (s % 8) 0 = 0 then s / 8 else if 0 < lcmpW s 0 then s / 8 + 1 else s / 8
def own_next (e n : Int64) : Int64 := if lcmpW n e < 0 then own_ce (7 * e + n) else own_fl (7 * e + n)
def own_small (x : Int64) : Prop := -576460752303423488 ≤ x.toInt ∧ x.toInt < 576460752303423488
theorem own_shr (x : Int64) : own_small (x >>> ((4 : Int32) &&& 0x3f).toInt64) := by
  have h := c_lshr x 4 4 (by decide)
  have r := rng64 x
  unfold own_small
  rw [h]
  constructor <;> omega
set_option maxHeartbeats 8000000 in
theorem own_step (e a : Int64) (he : own_small e) (ha : own_small a) : e + (a - e) / 8 = own_next e a ∧ own_small (own_next e a) := by
  unfold own_small at he ha
  have k1 := c_lsub a e
  have r1 := rng64 (a - e)
  have k2 := c_ldiv (a - e) 8 8 (by decide) (by decide)
  have k3 := c_ladd e ((a - e) / 8)
  have r3 := rng64 (e + (a - e) / 8)
  have k4 := c_lmul 7 e
  have k4' : ((7 : Int64)).toInt = 7 := by decide
  rw [k4'] at k4
  have r4 := rng64 (7 * e)
  have k5 := c_ladd (7 * e) a
  have r5 := rng64 (7 * e + a)
  generalize hs : 7 * e + a = s at *
  have k6 := c_ldiv s 8 8 (by decide) (by decide)
  have k7 := tr s.toInt 8
  have k7' : (s % 8).toInt = s.toInt.tmod 8 := by rw [Int64.toInt_mod]; rfl
  have k8 := c_ladd (s / 8) 1
  have k9 := c_lsub (s / 8) 1
  have one : ((1 : Int64)).toInt = 1 := by decide
  have zer : ((0 : Int64)).toInt = 0 := by decide
  rw [one] at k8 k9
  have r8 := rng64 (s / 8 + 1)
  have r9 := rng64 (s / 8 - 1)
  have r6 := rng64 (s / 8)
  have e1 : (a - e).toInt = a.toInt - e.toInt := by omega
  have e4 : (7 * e).toInt = 7 * e.toInt := by omega
  have e5 : s.toInt = 7 * e.toInt + a.toInt := by omega
  have g : (e + (a - e) / 8).toInt = (own_next e a).toInt ∧ own_small (own_next e a) := by
    unfold own_next own_ce own_fl own_small
    simp only [hs, lw_lt, lw_gt, lw_eq, Int64.lt_iff_toInt_lt, ← Int64.toInt_inj, zer, k7']
    split <;> split <;> (try split) <;> omega
  exact ⟨Int64.toInt_inj.mp g.1, g.2⟩
theorem d_prog_54_method_1_code_0 : decode prog_54_method_1_code 0 = .ok (.aload_n 0, 1) := by decide +kernel
theorem d_prog_54_method_1_code_1 : decode prog_54_method_1_code 1 = .ok (.invokespecial 1, 3) := by decide +kernel
theorem d_prog_54_method_1_code_4 : decode prog_54_method_1_code 4 = .ok (.aload_n 0, 1) := by decide +kernel
theorem d_prog_54_method_1_code_5 : decode prog_54_method_1_code 5 = .ok (.getstatic 7, 3) := by decide +kernel
theorem d_prog_54_method_1_code_8 : decode prog_54_method_1_code 8 = .ok (.putfield 13, 3) := by decide +kernel
theorem d_prog_54_method_1_code_11 : decode prog_54_method_1_code 11 = .ok (.return_, 1) := by decide +kernel
theorem ef_rm_init (m : MethodId) (ob : Addr) : entryFrame m #[(.ref ob)] 1 = mkF m 0 #[.val (.ref ob)] [] := by first | (simp [entryFrame, mkF, argsToLocals, Value.category]; done) | rfl
theorem pn_com_example_portcall_portcall_service_CallPace__init____V : plainFor (⟨"com/example/portcall/portcall/service/CallPace", "<init>", "()V"⟩ : MethodName) = true := by first | exact plainFor_of_name (by first | (simp [plainName, overriddenIn]; done) | decide +kernel) | decide +kernel
set_option maxRecDepth 65536 in
set_option maxHeartbeats 40000000 in
theorem rm_init {l : Launch} {Z : State} {a0 : Array Value} (hw : ∀ d ∈ tables_1, d.before a0 Z = true) (S_FIRST_AVERAGE : Sta Z Z.heap "com/example/portcall/portcall/service/CallPace" "FIRST_AVERAGE" "J" (.long (800000 : Int64))) (S_QUICK_NANOS : Sta Z Z.heap "com/example/portcall/portcall/service/CallPace" "QUICK_NANOS" "J" (.long (200000 : Int64))) (ob : Addr)  (h0 : Heap) (O0 : Ext Z.heap h0) (prem0 : Exa Z h0 ob "com/example/portcall/portcall/service/CallPace") (prem1 : Fld Z h0 ob "com/example/portcall/portcall/service/CallPace" "average" "J" (.long (0 : Int64))) (prem2 : Z.heap.size ≤ ob) :
    Ok l Z (⟨"com/example/portcall/portcall/service/CallPace", "<init>", "()V"⟩ : MethodName) prog_54_method_1_code 1 none ({ frames := 1, cells := 0, slots := 0, locals := 12 } : Room) #[(.ref ob)] h0
      (fun v h L => v = none ∧ (Fr Z.heap.size L) ∧ (Keep h0 h [ob]) ∧ (Fld Z h ob "com/example/portcall/portcall/service/CallPace" "average" "J" (.long (800000 : Int64)))) := by
  refine Ok.mk pn_com_example_portcall_portcall_service_CallPace__init____V ?_
  intro p e s m below meth c T0 hx hby hml hown hnm hret hlk hZ e0 X0
  refine Go.cast (ef_rm_init m ob) ?_
  have N0 := Fr.nil Z.heap.size
  have K0 : Keep h0 h0 [ob] := Keep.refl _ _
  refine Go.of (T' := T0) (f' := (mkF m 1 #[.val (.ref ob)] [(.ref ob)])) (fun _ k => XS.aloadN X0.here hx rfl (hb hby d_prog_54_method_1_code_0) rfl rfl k) ?_
  obtain ⟨T1, X1, e1, st1⟩ := initO X0 hx hZ hown (hw _ (List.mem_of_getElem? (i := 6) rfl)) (hw _ (List.mem_of_getElem? (i := 7) rfl)) (hw _ (List.mem_of_getElem? (i := 8) rfl)) e0 (g := (mkF m 1 #[.val (.ref ob)] [(.ref ob)])) rfl (by rw [hml]; rfl) rfl (hb hby d_prog_54_method_1_code_1) (by decide) (W := 0) (by show 2 * 0 + _ ≤ _; exact Nat.le_of_eq rfl) (by decide)
  refine Go.of (T' := T1) (f' := (mkF m 4 #[.val (.ref ob)] [])) (fun _ k => st1 _ k) ?_
  refine Go.of (T' := T1) (f' := (mkF m 5 #[.val (.ref ob)] [(.ref ob)])) (fun _ k => XS.aloadN X1.here hx rfl (hb hby d_prog_54_method_1_code_4) rfl rfl k) ?_
  obtain ⟨T2, X2, e2, st2⟩ := getS2 X1 hx hZ hown (host := "") (Or.inl (hw _ (List.mem_of_getElem? (i := 9) rfl))) Via.refl e1 (Sta.ext O0 S_FIRST_AVERAGE) (g := (mkF m 5 #[.val (.ref ob)] [(.ref ob)])) rfl (hb hby d_prog_54_method_1_code_5)
  refine Go.of (T' := T2) (f' := (mkF m 8 #[.val (.ref ob)] [(.long (800000 : Int64)), (.ref ob)])) (fun _ k => st2 _ k) ?_
  obtain ⟨T3, h3, X3, e3, W3, st3⟩ := putF X2 hx hZ hown (host := "") (Or.inl (hw _ (List.mem_of_getElem? (i := 11) rfl))) Via.refl e2 prem1 prem0 (Or.inl (hw _ (List.mem_of_getElem? (i := 12) rfl))) (hw _ (List.mem_of_getElem? (i := 1) rfl)) (ty := .long) (by decide) rfl rfl (g := (mkF m 8 #[.val (.ref ob)] [(.long (800000 : Int64)), (.ref ob)])) rfl rfl (hb hby d_prog_54_method_1_code_8)
  have O4 := Old0.wr O0 W3 prem2
  have K4 := Keep.wr K0 W3 (Or.inl (List.mem_of_getElem? (i := 0) rfl))
  have N3 := Fr.snoc X3 N0 prem2
  have f3 : Fld Z h3 ob "com/example/portcall/portcall/service/CallPace" "average" "J" (.long (800000 : Int64)) := Fld.same W3 prem1
  refine Go.of (T' := T3) (f' := (mkF m 11 #[.val (.ref ob)] [])) (fun _ k => st3 _ k) ?_
  exact Go.retV X3 hx hlk hret (hb hby d_prog_54_method_1_code_11) (by decide) (by decide) (by rw [e3]; exact ⟨rfl, N3, K4, f3⟩)
theorem d_prog_54_method_2_code_0 : decode prog_54_method_2_code 0 = .ok (.aload_n 0, 1) := by decide +kernel
theorem d_prog_54_method_2_code_1 : decode prog_54_method_2_code 1 = .ok (.getfield 13, 3) := by decide +kernel
theorem d_prog_54_method_2_code_4 : decode prog_54_method_2_code 4 = .ok (.getstatic 16, 3) := by decide +kernel
theorem d_prog_54_method_2_code_7 : decode prog_54_method_2_code 7 = .ok (.lcmp, 1) := by decide +kernel
theorem d_prog_54_method_2_code_8 : decode prog_54_method_2_code 8 = .ok (.ifCond .ge 7, 3) := by decide +kernel
theorem d_prog_54_method_2_code_11 : decode prog_54_method_2_code 11 = .ok (.iconst 1, 1) := by decide +kernel
theorem d_prog_54_method_2_code_12 : decode prog_54_method_2_code 12 = .ok (.goto 4, 3) := by decide +kernel
theorem d_prog_54_method_2_code_16 : decode prog_54_method_2_code 16 = .ok (.ireturn, 1) := by decide +kernel
theorem d_prog_54_method_2_code_15 : decode prog_54_method_2_code 15 = .ok (.iconst 0, 1) := by decide +kernel
theorem ef_rm_quick (m : MethodId) (ob : Addr) : entryFrame m #[(.ref ob)] 1 = mkF m 0 #[.val (.ref ob)] [] := by first | (simp [entryFrame, mkF, argsToLocals, Value.category]; done) | rfl
theorem pn_com_example_portcall_portcall_service_CallPace_quick___Z : plainFor (⟨"com/example/portcall/portcall/service/CallPace", "quick", "()Z"⟩ : MethodName) = true := by first | exact plainFor_of_name (by first | (simp [plainName, overriddenIn]; done) | decide +kernel) | decide +kernel
set_option maxRecDepth 65536 in
set_option maxHeartbeats 40000000 in
theorem rm_quick {l : Launch} {Z : State} {a0 : Array Value} (hw : ∀ d ∈ tables_1, d.before a0 Z = true) (S_FIRST_AVERAGE : Sta Z Z.heap "com/example/portcall/portcall/service/CallPace" "FIRST_AVERAGE" "J" (.long (800000 : Int64))) (S_QUICK_NANOS : Sta Z Z.heap "com/example/portcall/portcall/service/CallPace" "QUICK_NANOS" "J" (.long (200000 : Int64))) (ob : Addr) (q : Int64) (h0 : Heap) (O0 : Ext Z.heap h0) (prem0 : Fld Z h0 ob "com/example/portcall/portcall/service/CallPace" "average" "J" (.long q)) :
    Ok l Z (⟨"com/example/portcall/portcall/service/CallPace", "quick", "()Z"⟩ : MethodName) prog_54_method_2_code 1 (some .boolean) ({ frames := 0, cells := 0, slots := 0, locals := 0 } : Room) #[(.ref ob)] h0
      (fun v h L => v = some (.int (own_lt q)) ∧ (h = h0) ∧ (L = [])) := by
  refine Ok.mk pn_com_example_portcall_portcall_service_CallPace_quick___Z ?_
  intro p e s m below meth c T0 hx hby hml hown hnm hret hlk hZ e0 X0
  refine Go.cast (ef_rm_quick m ob) ?_
  have N0 := Fr.nil Z.heap.size
  have K0 : Keep h0 h0 [] := Keep.refl _ _
  refine Go.of (T' := T0) (f' := (mkF m 1 #[.val (.ref ob)] [(.ref ob)])) (fun _ k => XS.aloadN X0.here hx rfl (hb hby d_prog_54_method_2_code_0) rfl rfl k) ?_
  obtain ⟨T5, X5, e5, st5⟩ := getF X0 hx hZ hown (host := "") (Or.inl (hw _ (List.mem_of_getElem? (i := 11) rfl))) Via.refl e0 prem0 (g := (mkF m 1 #[.val (.ref ob)] [(.ref ob)])) rfl rfl (hb hby d_prog_54_method_2_code_1)
  refine Go.of (T' := T5) (f' := (mkF m 4 #[.val (.ref ob)] [(.long q)])) (fun _ k => st5 _ k) ?_
  obtain ⟨T6, X6, e6, st6⟩ := getS2 X5 hx hZ hown (host := "") (Or.inl (hw _ (List.mem_of_getElem? (i := 19) rfl))) Via.refl e5 (Sta.ext O0 S_QUICK_NANOS) (g := (mkF m 4 #[.val (.ref ob)] [(.long q)])) rfl (hb hby d_prog_54_method_2_code_4)
  refine Go.of (T' := T6) (f' := (mkF m 7 #[.val (.ref ob)] [(.long (200000 : Int64)), (.long q)])) (fun _ k => st6 _ k) ?_
  refine Go.of (T' := T6) (f' := (mkF m 8 #[.val (.ref ob)] [(.int (lcmpW q (200000 : Int64)))])) (fun _ k => XS.lcmp X6.here hx rfl (hb hby d_prog_54_method_2_code_7) rfl k) ?_
  by_cases hc7 : (lcmpW q (200000 : Int64)) < (0 : Int32)
  · skip
    refine Go.of (T' := T6) (f' := (mkF m 11 #[.val (.ref ob)] [])) (fun _ k => XS.ifNo X6.here hx rfl (hb hby d_prog_54_method_2_code_8) rfl ((if0 _ _).trans (tlt hc7).2.1) k) ?_
    refine Go.of (T' := T6) (f' := (mkF m 12 #[.val (.ref ob)] [(.int (1 : Int32))])) (fun _ k => XS.iconst X6.here hx rfl (hb hby d_prog_54_method_2_code_11) k) ?_
    refine Go.of (T' := T6) (f' := (mkF m 16 #[.val (.ref ob)] [(.int (1 : Int32))])) (fun _ k => XS.goto X6.here hx rfl (pc0 := 12) (pc' := 16) rfl (hb hby d_prog_54_method_2_code_12) (by decide) (by decide) k) ?_
    exact Go.retB X6 hx hlk hret (by simp) (hb hby d_prog_54_method_2_code_16) (by decide) (by decide) (z' := (1 : Int32)) rfl (by rw [e6]; exact ⟨by rw [own_lt, if_pos hc7], rfl, by simp⟩)
  · skip
    refine Go.of (T' := T6) (f' := (mkF m 15 #[.val (.ref ob)] [])) (fun _ k => XS.ifYes X6.here hx rfl (pc0 := 8) (pc' := 15) rfl (hb hby d_prog_54_method_2_code_8) rfl ((if0 _ _).trans (flt hc7).2.1) (by decide) (by decide) k) ?_
    refine Go.of (T' := T6) (f' := (mkF m 16 #[.val (.ref ob)] [(.int (0 : Int32))])) (fun _ k => XS.iconst X6.here hx rfl (hb hby d_prog_54_method_2_code_15) k) ?_
    exact Go.retB X6 hx hlk hret (by simp) (hb hby d_prog_54_method_2_code_16) (by decide) (by decide) (z' := (0 : Int32)) rfl (by rw [e6]; exact ⟨by rw [own_lt, if_neg hc7], rfl, by simp⟩)
theorem d_prog_54_method_3_code_0 : decode prog_54_method_3_code 0 = .ok (.aload_n 0, 1) := by decide +kernel
theorem d_prog_54_method_3_code_1 : decode prog_54_method_3_code 1 = .ok (.getfield 13, 3) := by decide +kernel
theorem d_prog_54_method_3_code_4 : decode prog_54_method_3_code 4 = .ok (.lstore_n 3, 1) := by decide +kernel
theorem d_prog_54_method_3_code_5 : decode prog_54_method_3_code 5 = .ok (.aload_n 0, 1) := by decide +kernel
theorem d_prog_54_method_3_code_6 : decode prog_54_method_3_code 6 = .ok (.lload_n 3, 1) := by decide +kernel
theorem d_prog_54_method_3_code_7 : decode prog_54_method_3_code 7 = .ok (.lload_n 1, 1) := by decide +kernel
theorem d_prog_54_method_3_code_8 : decode prog_54_method_3_code 8 = .ok (.lload_n 3, 1) := by decide +kernel
theorem d_prog_54_method_3_code_9 : decode prog_54_method_3_code 9 = .ok (.lsub, 1) := by decide +kernel
theorem d_prog_54_method_3_code_10 : decode prog_54_method_3_code 10 = .ok (.ldc2_w 19, 3) := by decide +kernel
theorem d_prog_54_method_3_code_13 : decode prog_54_method_3_code 13 = .ok (.ldiv, 1) := by decide +kernel
theorem d_prog_54_method_3_code_14 : decode prog_54_method_3_code 14 = .ok (.ladd, 1) := by decide +kernel
theorem d_prog_54_method_3_code_15 : decode prog_54_method_3_code 15 = .ok (.putfield 13, 3) := by decide +kernel
theorem d_prog_54_method_3_code_18 : decode prog_54_method_3_code 18 = .ok (.return_, 1) := by decide +kernel
theorem ef_rm_ran (m : MethodId) (ob : Addr) (n : Int64) : entryFrame m #[(.ref ob), (.long n)] 5 = mkF m 0 #[.val (.ref ob), .val (.long n), .second, .unset, .unset] [] := by first | (simp [entryFrame, mkF, argsToLocals, Value.category]; done) | rfl
theorem pn_com_example_portcall_portcall_service_CallPace_ran__J_V : plainFor (⟨"com/example/portcall/portcall/service/CallPace", "ran", "(J)V"⟩ : MethodName) = true := by first | exact plainFor_of_name (by first | (simp [plainName, overriddenIn]; done) | decide +kernel) | decide +kernel
set_option maxRecDepth 65536 in
set_option maxHeartbeats 40000000 in
theorem rm_ran {l : Launch} {Z : State} {a0 : Array Value} (hw : ∀ d ∈ tables_1, d.before a0 Z = true) (S_FIRST_AVERAGE : Sta Z Z.heap "com/example/portcall/portcall/service/CallPace" "FIRST_AVERAGE" "J" (.long (800000 : Int64))) (S_QUICK_NANOS : Sta Z Z.heap "com/example/portcall/portcall/service/CallPace" "QUICK_NANOS" "J" (.long (200000 : Int64))) (ob : Addr) (n : Int64) (q : Int64) (h0 : Heap) (O0 : Ext Z.heap h0) (prem0 : Exa Z h0 ob "com/example/portcall/portcall/service/CallPace") (prem1 : Fld Z h0 ob "com/example/portcall/portcall/service/CallPace" "average" "J" (.long q)) (prem2 : Z.heap.size ≤ ob) :
    Ok l Z (⟨"com/example/portcall/portcall/service/CallPace", "ran", "(J)V"⟩ : MethodName) prog_54_method_3_code 5 none ({ frames := 0, cells := 0, slots := 0, locals := 0 } : Room) #[(.ref ob), (.long n)] h0
      (fun v h L => v = none ∧ (Fr Z.heap.size L) ∧ (Keep h0 h [ob]) ∧ (Fld Z h ob "com/example/portcall/portcall/service/CallPace" "average" "J" (.long (q + ((n - q) / (8 : Int64)))))) := by
  refine Ok.mk pn_com_example_portcall_portcall_service_CallPace_ran__J_V ?_
  intro p e s m below meth c T0 hx hby hml hown hnm hret hlk hZ e0 X0
  refine Go.cast (ef_rm_ran m ob n) ?_
  have N0 := Fr.nil Z.heap.size
  have K0 : Keep h0 h0 [ob] := Keep.refl _ _
  refine Go.of (T' := T0) (f' := (mkF m 1 #[.val (.ref ob), .val (.long n), .second, .unset, .unset] [(.ref ob)])) (fun _ k => XS.aloadN X0.here hx rfl (hb hby d_prog_54_method_3_code_0) rfl rfl k) ?_
  obtain ⟨T8, X8, e8, st8⟩ := getF X0 hx hZ hown (host := "") (Or.inl (hw _ (List.mem_of_getElem? (i := 11) rfl))) Via.refl e0 prem1 (g := (mkF m 1 #[.val (.ref ob), .val (.long n), .second, .unset, .unset] [(.ref ob)])) rfl rfl (hb hby d_prog_54_method_3_code_1)
  refine Go.of (T' := T8) (f' := (mkF m 4 #[.val (.ref ob), .val (.long n), .second, .unset, .unset] [(.long q)])) (fun _ k => st8 _ k) ?_
  refine Go.of (T' := T8) (f' := (mkF m 5 #[.val (.ref ob), .val (.long n), .second, .val (.long q), .second] [])) (fun _ k => XS.lstoreN X8.here hx rfl (hb hby d_prog_54_method_3_code_4) rfl (l' := #[.val (.ref ob), .val (.long n), .second, .val (.long q), .second]) rfl k) ?_
  refine Go.of (T' := T8) (f' := (mkF m 6 #[.val (.ref ob), .val (.long n), .second, .val (.long q), .second] [(.ref ob)])) (fun _ k => XS.aloadN X8.here hx rfl (hb hby d_prog_54_method_3_code_5) rfl rfl k) ?_
  refine Go.of (T' := T8) (f' := (mkF m 7 #[.val (.ref ob), .val (.long n), .second, .val (.long q), .second] [(.long q), (.ref ob)])) (fun _ k => XS.lloadN X8.here hx rfl (hb hby d_prog_54_method_3_code_6) rfl k) ?_
  refine Go.of (T' := T8) (f' := (mkF m 8 #[.val (.ref ob), .val (.long n), .second, .val (.long q), .second] [(.long n), (.long q), (.ref ob)])) (fun _ k => XS.lloadN X8.here hx rfl (hb hby d_prog_54_method_3_code_7) rfl k) ?_
  refine Go.of (T' := T8) (f' := (mkF m 9 #[.val (.ref ob), .val (.long n), .second, .val (.long q), .second] [(.long q), (.long n), (.long q), (.ref ob)])) (fun _ k => XS.lloadN X8.here hx rfl (hb hby d_prog_54_method_3_code_8) rfl k) ?_
  refine Go.of (T' := T8) (f' := (mkF m 10 #[.val (.ref ob), .val (.long n), .second, .val (.long q), .second] [(.long (n - q)), (.long q), (.ref ob)])) (fun _ k => XS.lsub X8.here hx rfl (hb hby d_prog_54_method_3_code_9) rfl k) ?_
  refine Go.of (T' := T8) (f' := (mkF m 13 #[.val (.ref ob), .val (.long n), .second, .val (.long q), .second] [(.long (8 : Int64)), (.long (n - q)), (.long q), (.ref ob)])) (fun _ k => X8.ldc2Long hx hown (mvT hZ (hw _ (List.mem_of_getElem? (i := 27) rfl))) (g := (mkF m 10 #[.val (.ref ob), .val (.long n), .second, .val (.long q), .second] [(.long (n - q)), (.long q), (.ref ob)])) rfl (hb hby d_prog_54_method_3_code_10) _ k) ?_
  refine Go.of (T' := T8) (f' := (mkF m 14 #[.val (.ref ob), .val (.long n), .second, .val (.long q), .second] [(.long ((n - q) / (8 : Int64))), (.long q), (.ref ob)])) (fun _ k => XS.ldiv X8.here hx rfl (hb hby d_prog_54_method_3_code_13) rfl (by decide) k) ?_
  refine Go.of (T' := T8) (f' := (mkF m 15 #[.val (.ref ob), .val (.long n), .second, .val (.long q), .second] [(.long (q + ((n - q) / (8 : Int64)))), (.ref ob)])) (fun _ k => XS.ladd X8.here hx rfl (hb hby d_prog_54_method_3_code_14) rfl k) ?_
  obtain ⟨T9, h9, X9, e9, W9, st9⟩ := putF X8 hx hZ hown (host := "") (Or.inl (hw _ (List.mem_of_getElem? (i := 11) rfl))) Via.refl e8 prem1 prem0 (Or.inl (hw _ (List.mem_of_getElem? (i := 12) rfl))) (hw _ (List.mem_of_getElem? (i := 1) rfl)) (ty := .long) (by decide) rfl rfl (g := (mkF m 15 #[.val (.ref ob), .val (.long n), .second, .val (.long q), .second] [(.long (q + ((n - q) / (8 : Int64)))), (.ref ob)])) rfl rfl (hb hby d_prog_54_method_3_code_15)
  have O10 := Old0.wr O0 W9 prem2
  have K10 := Keep.wr K0 W9 (Or.inl (List.mem_of_getElem? (i := 0) rfl))
  have N9 := Fr.snoc X9 N0 prem2
  have f9 : Fld Z h9 ob "com/example/portcall/portcall/service/CallPace" "average" "J" (.long (q + ((n - q) / (8 : Int64)))) := Fld.same W9 prem1
  refine Go.of (T' := T9) (f' := (mkF m 18 #[.val (.ref ob), .val (.long n), .second, .val (.long q), .second] [])) (fun _ k => st9 _ k) ?_
  exact Go.retV X9 hx hlk hret (hb hby d_prog_54_method_3_code_18) (by decide) (by decide) (by rw [e9]; exact ⟨rfl, N9, K10, f9⟩)
theorem d_method_2_code_0 : decode method_2_code 0 = .ok (.lload_n 0, 1) := by decide +kernel
theorem d_method_2_code_1 : decode method_2_code 1 = .ok (.ldc2_w 7, 3) := by decide +kernel
theorem d_method_2_code_4 : decode method_2_code 4 = .ok (.ldiv, 1) := by decide +kernel
theorem d_method_2_code_5 : decode method_2_code 5 = .ok (.lstore_n 2, 1) := by decide +kernel
theorem d_method_2_code_6 : decode method_2_code 6 = .ok (.lload_n 0, 1) := by decide +kernel
theorem d_method_2_code_7 : decode method_2_code 7 = .ok (.ldc2_w 7, 3) := by decide +kernel
theorem d_method_2_code_10 : decode method_2_code 10 = .ok (.lrem, 1) := by decide +kernel
theorem d_method_2_code_11 : decode method_2_code 11 = .ok (.lconst 0, 1) := by decide +kernel
theorem d_method_2_code_12 : decode method_2_code 12 = .ok (.lcmp, 1) := by decide +kernel
theorem d_method_2_code_13 : decode method_2_code 13 = .ok (.ifCond .eq 13, 3) := by decide +kernel
theorem d_method_2_code_26 : decode method_2_code 26 = .ok (.lload_n 2, 1) := by decide +kernel
theorem d_method_2_code_27 : decode method_2_code 27 = .ok (.lreturn, 1) := by decide +kernel
theorem d_method_2_code_16 : decode method_2_code 16 = .ok (.lload_n 0, 1) := by decide +kernel
theorem d_method_2_code_17 : decode method_2_code 17 = .ok (.lconst 0, 1) := by decide +kernel
theorem d_method_2_code_18 : decode method_2_code 18 = .ok (.lcmp, 1) := by decide +kernel
theorem d_method_2_code_19 : decode method_2_code 19 = .ok (.ifCond .ge 7, 3) := by decide +kernel
theorem d_method_2_code_22 : decode method_2_code 22 = .ok (.lload_n 2, 1) := by decide +kernel
theorem d_method_2_code_23 : decode method_2_code 23 = .ok (.lconst 1, 1) := by decide +kernel
theorem d_method_2_code_24 : decode method_2_code 24 = .ok (.lsub, 1) := by decide +kernel
theorem d_method_2_code_25 : decode method_2_code 25 = .ok (.lstore_n 2, 1) := by decide +kernel
theorem ef_rm_floor (m : MethodId) (q : Int64) : entryFrame m #[(.long q)] 4 = mkF m 0 #[.val (.long q), .second, .unset, .unset] [] := by first | (simp [entryFrame, mkF, argsToLocals, Value.category]; done) | rfl
theorem pn_com_example_portcall_portcall_service_CallPaceRanPinLaw_floor8__J_J : plainFor (⟨"com/example/portcall/portcall/service/CallPaceRanPinLaw", "floor8", "(J)J"⟩ : MethodName) = true := by first | exact plainFor_of_name (by first | (simp [plainName, overriddenIn]; done) | decide +kernel) | decide +kernel
set_option maxRecDepth 65536 in
set_option maxHeartbeats 40000000 in
theorem rm_floor {l : Launch} {Z : State} {a0 : Array Value} (hw : ∀ d ∈ tables_1, d.before a0 Z = true) (S_FIRST_AVERAGE : Sta Z Z.heap "com/example/portcall/portcall/service/CallPace" "FIRST_AVERAGE" "J" (.long (800000 : Int64))) (S_QUICK_NANOS : Sta Z Z.heap "com/example/portcall/portcall/service/CallPace" "QUICK_NANOS" "J" (.long (200000 : Int64))) (q : Int64)  (h0 : Heap) (O0 : Ext Z.heap h0)  :
    Ok l Z (⟨"com/example/portcall/portcall/service/CallPaceRanPinLaw", "floor8", "(J)J"⟩ : MethodName) method_2_code 4 (some .long) ({ frames := 0, cells := 0, slots := 0, locals := 0 } : Room) #[(.long q)] h0
      (fun v h L => v = some (.long (own_fl q)) ∧ (h = h0) ∧ (L = [])) := by
  refine Ok.mk pn_com_example_portcall_portcall_service_CallPaceRanPinLaw_floor8__J_J ?_
  intro p e s m below meth c T0 hx hby hml hown hnm hret hlk hZ e0 X0
  refine Go.cast (ef_rm_floor m q) ?_
  have N0 := Fr.nil Z.heap.size
  have K0 : Keep h0 h0 [] := Keep.refl _ _
  refine Go.of (T' := T0) (f' := (mkF m 1 #[.val (.long q), .second, .unset, .unset] [(.long q)])) (fun _ k => XS.lloadN X0.here hx rfl (hb hby d_method_2_code_0) rfl k) ?_
  refine Go.of (T' := T0) (f' := (mkF m 4 #[.val (.long q), .second, .unset, .unset] [(.long (8 : Int64)), (.long q)])) (fun _ k => X0.ldc2Long hx hown (mvT hZ (hw _ (List.mem_of_getElem? (i := 36) rfl))) (g := (mkF m 1 #[.val (.long q), .second, .unset, .unset] [(.long q)])) rfl (hb hby d_method_2_code_1) _ k) ?_
  refine Go.of (T' := T0) (f' := (mkF m 5 #[.val (.long q), .second, .unset, .unset] [(.long (q / (8 : Int64)))])) (fun _ k => XS.ldiv X0.here hx rfl (hb hby d_method_2_code_4) rfl (by decide) k) ?_
  refine Go.of (T' := T0) (f' := (mkF m 6 #[.val (.long q), .second, .val (.long (q / (8 : Int64))), .second] [])) (fun _ k => XS.lstoreN X0.here hx rfl (hb hby d_method_2_code_5) rfl (l' := #[.val (.long q), .second, .val (.long (q / (8 : Int64))), .second]) rfl k) ?_
  refine Go.of (T' := T0) (f' := (mkF m 7 #[.val (.long q), .second, .val (.long (q / (8 : Int64))), .second] [(.long q)])) (fun _ k => XS.lloadN X0.here hx rfl (hb hby d_method_2_code_6) rfl k) ?_
  refine Go.of (T' := T0) (f' := (mkF m 10 #[.val (.long q), .second, .val (.long (q / (8 : Int64))), .second] [(.long (8 : Int64)), (.long q)])) (fun _ k => X0.ldc2Long hx hown (mvT hZ (hw _ (List.mem_of_getElem? (i := 36) rfl))) (g := (mkF m 7 #[.val (.long q), .second, .val (.long (q / (8 : Int64))), .second] [(.long q)])) rfl (hb hby d_method_2_code_7) _ k) ?_
  refine Go.of (T' := T0) (f' := (mkF m 11 #[.val (.long q), .second, .val (.long (q / (8 : Int64))), .second] [(.long (q % (8 : Int64)))])) (fun _ k => XS.lrem X0.here hx rfl (hb hby d_method_2_code_10) rfl (by decide) (by rw [lrem_mod]; exact k)) ?_
  refine Go.of (T' := T0) (f' := (mkF m 12 #[.val (.long q), .second, .val (.long (q / (8 : Int64))), .second] [(.long (0 : Int64)), (.long (q % (8 : Int64)))])) (fun _ k => XS.lconst X0.here hx rfl (hb hby d_method_2_code_11) k) ?_
  refine Go.of (T' := T0) (f' := (mkF m 13 #[.val (.long q), .second, .val (.long (q / (8 : Int64))), .second] [(.int (lcmpW (q % (8 : Int64)) (0 : Int64)))])) (fun _ k => XS.lcmp X0.here hx rfl (hb hby d_method_2_code_12) rfl k) ?_
  by_cases hc11 : (lcmpW (q % (8 : Int64)) (0 : Int64)) = (0 : Int32)
  · skip
    refine Go.of (T' := T0) (f' := (mkF m 26 #[.val (.long q), .second, .val (.long (q / (8 : Int64))), .second] [])) (fun _ k => XS.ifYes X0.here hx rfl (pc0 := 13) (pc' := 26) rfl (hb hby d_method_2_code_13) rfl ((if0 _ _).trans (teq hc11).1) (by decide) (by decide) k) ?_
    refine Go.of (T' := T0) (f' := (mkF m 27 #[.val (.long q), .second, .val (.long (q / (8 : Int64))), .second] [(.long (q / (8 : Int64)))])) (fun _ k => XS.lloadN X0.here hx rfl (hb hby d_method_2_code_26) rfl k) ?_
    exact Go.retJ X0 hx hlk hret (hb hby d_method_2_code_27) (by decide) (by decide) (by rw [e0]; exact ⟨by rw [own_fl, if_pos hc11], rfl, by simp⟩)
  · skip
    refine Go.of (T' := T0) (f' := (mkF m 16 #[.val (.long q), .second, .val (.long (q / (8 : Int64))), .second] [])) (fun _ k => XS.ifNo X0.here hx rfl (hb hby d_method_2_code_13) rfl ((if0 _ _).trans (feq hc11).1) k) ?_
    refine Go.of (T' := T0) (f' := (mkF m 17 #[.val (.long q), .second, .val (.long (q / (8 : Int64))), .second] [(.long q)])) (fun _ k => XS.lloadN X0.here hx rfl (hb hby d_method_2_code_16) rfl k) ?_
    refine Go.of (T' := T0) (f' := (mkF m 18 #[.val (.long q), .second, .val (.long (q / (8 : Int64))), .second] [(.long (0 : Int64)), (.long q)])) (fun _ k => XS.lconst X0.here hx rfl (hb hby d_method_2_code_17) k) ?_
    refine Go.of (T' := T0) (f' := (mkF m 19 #[.val (.long q), .second, .val (.long (q / (8 : Int64))), .second] [(.int (lcmpW q (0 : Int64)))])) (fun _ k => XS.lcmp X0.here hx rfl (hb hby d_method_2_code_18) rfl k) ?_
    by_cases hc12 : (lcmpW q (0 : Int64)) < (0 : Int32)
    · skip
      refine Go.of (T' := T0) (f' := (mkF m 22 #[.val (.long q), .second, .val (.long (q / (8 : Int64))), .second] [])) (fun _ k => XS.ifNo X0.here hx rfl (hb hby d_method_2_code_19) rfl ((if0 _ _).trans (tlt hc12).2.1) k) ?_
      refine Go.of (T' := T0) (f' := (mkF m 23 #[.val (.long q), .second, .val (.long (q / (8 : Int64))), .second] [(.long (q / (8 : Int64)))])) (fun _ k => XS.lloadN X0.here hx rfl (hb hby d_method_2_code_22) rfl k) ?_
      refine Go.of (T' := T0) (f' := (mkF m 24 #[.val (.long q), .second, .val (.long (q / (8 : Int64))), .second] [(.long (1 : Int64)), (.long (q / (8 : Int64)))])) (fun _ k => XS.lconst X0.here hx rfl (hb hby d_method_2_code_23) k) ?_
      refine Go.of (T' := T0) (f' := (mkF m 25 #[.val (.long q), .second, .val (.long (q / (8 : Int64))), .second] [(.long ((q / (8 : Int64)) - (1 : Int64)))])) (fun _ k => XS.lsub X0.here hx rfl (hb hby d_method_2_code_24) rfl k) ?_
      refine Go.of (T' := T0) (f' := (mkF m 26 #[.val (.long q), .second, .val (.long ((q / (8 : Int64)) - (1 : Int64))), .second] [])) (fun _ k => XS.lstoreN X0.here hx rfl (hb hby d_method_2_code_25) rfl (l' := #[.val (.long q), .second, .val (.long ((q / (8 : Int64)) - (1 : Int64))), .second]) rfl k) ?_
      refine Go.of (T' := T0) (f' := (mkF m 27 #[.val (.long q), .second, .val (.long ((q / (8 : Int64)) - (1 : Int64))), .second] [(.long ((q / (8 : Int64)) - (1 : Int64)))])) (fun _ k => XS.lloadN X0.here hx rfl (hb hby d_method_2_code_26) rfl k) ?_
      exact Go.retJ X0 hx hlk hret (hb hby d_method_2_code_27) (by decide) (by decide) (by rw [e0]; exact ⟨by rw [own_fl, if_neg hc11, if_pos hc12], rfl, by simp⟩)
    · skip
      refine Go.of (T' := T0) (f' := (mkF m 26 #[.val (.long q), .second, .val (.long (q / (8 : Int64))), .second] [])) (fun _ k => XS.ifYes X0.here hx rfl (pc0 := 19) (pc' := 26) rfl (hb hby d_method_2_code_19) rfl ((if0 _ _).trans (flt hc12).2.1) (by decide) (by decide) k) ?_
      refine Go.of (T' := T0) (f' := (mkF m 27 #[.val (.long q), .second, .val (.long (q / (8 : Int64))), .second] [(.long (q / (8 : Int64)))])) (fun _ k => XS.lloadN X0.here hx rfl (hb hby d_method_2_code_26) rfl k) ?_
      exact Go.retJ X0 hx hlk hret (hb hby d_method_2_code_27) (by decide) (by decide) (by rw [e0]; exact ⟨by rw [own_fl, if_neg hc11, if_neg hc12], rfl, by simp⟩)
theorem d_method_3_code_0 : decode method_3_code 0 = .ok (.lload_n 0, 1) := by decide +kernel
theorem d_method_3_code_1 : decode method_3_code 1 = .ok (.ldc2_w 7, 3) := by decide +kernel
theorem d_method_3_code_4 : decode method_3_code 4 = .ok (.ldiv, 1) := by decide +kernel
theorem d_method_3_code_5 : decode method_3_code 5 = .ok (.lstore_n 2, 1) := by decide +kernel
theorem d_method_3_code_6 : decode method_3_code 6 = .ok (.lload_n 0, 1) := by decide +kernel
theorem d_method_3_code_7 : decode method_3_code 7 = .ok (.ldc2_w 7, 3) := by decide +kernel
theorem d_method_3_code_10 : decode method_3_code 10 = .ok (.lrem, 1) := by decide +kernel
theorem d_method_3_code_11 : decode method_3_code 11 = .ok (.lconst 0, 1) := by decide +kernel
theorem d_method_3_code_12 : decode method_3_code 12 = .ok (.lcmp, 1) := by decide +kernel
theorem d_method_3_code_13 : decode method_3_code 13 = .ok (.ifCond .eq 13, 3) := by decide +kernel
theorem d_method_3_code_26 : decode method_3_code 26 = .ok (.lload_n 2, 1) := by decide +kernel
theorem d_method_3_code_27 : decode method_3_code 27 = .ok (.lreturn, 1) := by decide +kernel
theorem d_method_3_code_16 : decode method_3_code 16 = .ok (.lload_n 0, 1) := by decide +kernel
theorem d_method_3_code_17 : decode method_3_code 17 = .ok (.lconst 0, 1) := by decide +kernel
theorem d_method_3_code_18 : decode method_3_code 18 = .ok (.lcmp, 1) := by decide +kernel
theorem d_method_3_code_19 : decode method_3_code 19 = .ok (.ifCond .le 7, 3) := by decide +kernel
theorem d_method_3_code_22 : decode method_3_code 22 = .ok (.lload_n 2, 1) := by decide +kernel
theorem d_method_3_code_23 : decode method_3_code 23 = .ok (.lconst 1, 1) := by decide +kernel
theorem d_method_3_code_24 : decode method_3_code 24 = .ok (.ladd, 1) := by decide +kernel
theorem d_method_3_code_25 : decode method_3_code 25 = .ok (.lstore_n 2, 1) := by decide +kernel
theorem ef_rm_ceil (m : MethodId) (q : Int64) : entryFrame m #[(.long q)] 4 = mkF m 0 #[.val (.long q), .second, .unset, .unset] [] := by first | (simp [entryFrame, mkF, argsToLocals, Value.category]; done) | rfl
theorem pn_com_example_portcall_portcall_service_CallPaceRanPinLaw_ceil8__J_J : plainFor (⟨"com/example/portcall/portcall/service/CallPaceRanPinLaw", "ceil8", "(J)J"⟩ : MethodName) = true := by first | exact plainFor_of_name (by first | (simp [plainName, overriddenIn]; done) | decide +kernel) | decide +kernel
set_option maxRecDepth 65536 in
set_option maxHeartbeats 40000000 in
theorem rm_ceil {l : Launch} {Z : State} {a0 : Array Value} (hw : ∀ d ∈ tables_1, d.before a0 Z = true) (S_FIRST_AVERAGE : Sta Z Z.heap "com/example/portcall/portcall/service/CallPace" "FIRST_AVERAGE" "J" (.long (800000 : Int64))) (S_QUICK_NANOS : Sta Z Z.heap "com/example/portcall/portcall/service/CallPace" "QUICK_NANOS" "J" (.long (200000 : Int64))) (q : Int64)  (h0 : Heap) (O0 : Ext Z.heap h0)  :
    Ok l Z (⟨"com/example/portcall/portcall/service/CallPaceRanPinLaw", "ceil8", "(J)J"⟩ : MethodName) method_3_code 4 (some .long) ({ frames := 0, cells := 0, slots := 0, locals := 0 } : Room) #[(.long q)] h0
      (fun v h L => v = some (.long (own_ce q)) ∧ (h = h0) ∧ (L = [])) := by
  refine Ok.mk pn_com_example_portcall_portcall_service_CallPaceRanPinLaw_ceil8__J_J ?_
  intro p e s m below meth c T0 hx hby hml hown hnm hret hlk hZ e0 X0
  refine Go.cast (ef_rm_ceil m q) ?_
  have N0 := Fr.nil Z.heap.size
  have K0 : Keep h0 h0 [] := Keep.refl _ _
  refine Go.of (T' := T0) (f' := (mkF m 1 #[.val (.long q), .second, .unset, .unset] [(.long q)])) (fun _ k => XS.lloadN X0.here hx rfl (hb hby d_method_3_code_0) rfl k) ?_
  refine Go.of (T' := T0) (f' := (mkF m 4 #[.val (.long q), .second, .unset, .unset] [(.long (8 : Int64)), (.long q)])) (fun _ k => X0.ldc2Long hx hown (mvT hZ (hw _ (List.mem_of_getElem? (i := 36) rfl))) (g := (mkF m 1 #[.val (.long q), .second, .unset, .unset] [(.long q)])) rfl (hb hby d_method_3_code_1) _ k) ?_
  refine Go.of (T' := T0) (f' := (mkF m 5 #[.val (.long q), .second, .unset, .unset] [(.long (q / (8 : Int64)))])) (fun _ k => XS.ldiv X0.here hx rfl (hb hby d_method_3_code_4) rfl (by decide) k) ?_
  refine Go.of (T' := T0) (f' := (mkF m 6 #[.val (.long q), .second, .val (.long (q / (8 : Int64))), .second] [])) (fun _ k => XS.lstoreN X0.here hx rfl (hb hby d_method_3_code_5) rfl (l' := #[.val (.long q), .second, .val (.long (q / (8 : Int64))), .second]) rfl k) ?_
  refine Go.of (T' := T0) (f' := (mkF m 7 #[.val (.long q), .second, .val (.long (q / (8 : Int64))), .second] [(.long q)])) (fun _ k => XS.lloadN X0.here hx rfl (hb hby d_method_3_code_6) rfl k) ?_
  refine Go.of (T' := T0) (f' := (mkF m 10 #[.val (.long q), .second, .val (.long (q / (8 : Int64))), .second] [(.long (8 : Int64)), (.long q)])) (fun _ k => X0.ldc2Long hx hown (mvT hZ (hw _ (List.mem_of_getElem? (i := 36) rfl))) (g := (mkF m 7 #[.val (.long q), .second, .val (.long (q / (8 : Int64))), .second] [(.long q)])) rfl (hb hby d_method_3_code_7) _ k) ?_
  refine Go.of (T' := T0) (f' := (mkF m 11 #[.val (.long q), .second, .val (.long (q / (8 : Int64))), .second] [(.long (q % (8 : Int64)))])) (fun _ k => XS.lrem X0.here hx rfl (hb hby d_method_3_code_10) rfl (by decide) (by rw [lrem_mod]; exact k)) ?_
  refine Go.of (T' := T0) (f' := (mkF m 12 #[.val (.long q), .second, .val (.long (q / (8 : Int64))), .second] [(.long (0 : Int64)), (.long (q % (8 : Int64)))])) (fun _ k => XS.lconst X0.here hx rfl (hb hby d_method_3_code_11) k) ?_
  refine Go.of (T' := T0) (f' := (mkF m 13 #[.val (.long q), .second, .val (.long (q / (8 : Int64))), .second] [(.int (lcmpW (q % (8 : Int64)) (0 : Int64)))])) (fun _ k => XS.lcmp X0.here hx rfl (hb hby d_method_3_code_12) rfl k) ?_
  by_cases hc13 : (lcmpW (q % (8 : Int64)) (0 : Int64)) = (0 : Int32)
  · skip
    refine Go.of (T' := T0) (f' := (mkF m 26 #[.val (.long q), .second, .val (.long (q / (8 : Int64))), .second] [])) (fun _ k => XS.ifYes X0.here hx rfl (pc0 := 13) (pc' := 26) rfl (hb hby d_method_3_code_13) rfl ((if0 _ _).trans (teq hc13).1) (by decide) (by decide) k) ?_
    refine Go.of (T' := T0) (f' := (mkF m 27 #[.val (.long q), .second, .val (.long (q / (8 : Int64))), .second] [(.long (q / (8 : Int64)))])) (fun _ k => XS.lloadN X0.here hx rfl (hb hby d_method_3_code_26) rfl k) ?_
    exact Go.retJ X0 hx hlk hret (hb hby d_method_3_code_27) (by decide) (by decide) (by rw [e0]; exact ⟨by rw [own_ce, if_pos hc13], rfl, by simp⟩)
  · skip
    refine Go.of (T' := T0) (f' := (mkF m 16 #[.val (.long q), .second, .val (.long (q / (8 : Int64))), .second] [])) (fun _ k => XS.ifNo X0.here hx rfl (hb hby d_method_3_code_13) rfl ((if0 _ _).trans (feq hc13).1) k) ?_
    refine Go.of (T' := T0) (f' := (mkF m 17 #[.val (.long q), .second, .val (.long (q / (8 : Int64))), .second] [(.long q)])) (fun _ k => XS.lloadN X0.here hx rfl (hb hby d_method_3_code_16) rfl k) ?_
    refine Go.of (T' := T0) (f' := (mkF m 18 #[.val (.long q), .second, .val (.long (q / (8 : Int64))), .second] [(.long (0 : Int64)), (.long q)])) (fun _ k => XS.lconst X0.here hx rfl (hb hby d_method_3_code_17) k) ?_
    refine Go.of (T' := T0) (f' := (mkF m 19 #[.val (.long q), .second, .val (.long (q / (8 : Int64))), .second] [(.int (lcmpW q (0 : Int64)))])) (fun _ k => XS.lcmp X0.here hx rfl (hb hby d_method_3_code_18) rfl k) ?_
    by_cases hc14 : (0 : Int32) < (lcmpW q (0 : Int64))
    · skip
      refine Go.of (T' := T0) (f' := (mkF m 22 #[.val (.long q), .second, .val (.long (q / (8 : Int64))), .second] [])) (fun _ k => XS.ifNo X0.here hx rfl (hb hby d_method_3_code_19) rfl ((if0 _ _).trans (tlt hc14).2.2.2) k) ?_
      refine Go.of (T' := T0) (f' := (mkF m 23 #[.val (.long q), .second, .val (.long (q / (8 : Int64))), .second] [(.long (q / (8 : Int64)))])) (fun _ k => XS.lloadN X0.here hx rfl (hb hby d_method_3_code_22) rfl k) ?_
      refine Go.of (T' := T0) (f' := (mkF m 24 #[.val (.long q), .second, .val (.long (q / (8 : Int64))), .second] [(.long (1 : Int64)), (.long (q / (8 : Int64)))])) (fun _ k => XS.lconst X0.here hx rfl (hb hby d_method_3_code_23) k) ?_
      refine Go.of (T' := T0) (f' := (mkF m 25 #[.val (.long q), .second, .val (.long (q / (8 : Int64))), .second] [(.long ((q / (8 : Int64)) + (1 : Int64)))])) (fun _ k => XS.ladd X0.here hx rfl (hb hby d_method_3_code_24) rfl k) ?_
      refine Go.of (T' := T0) (f' := (mkF m 26 #[.val (.long q), .second, .val (.long ((q / (8 : Int64)) + (1 : Int64))), .second] [])) (fun _ k => XS.lstoreN X0.here hx rfl (hb hby d_method_3_code_25) rfl (l' := #[.val (.long q), .second, .val (.long ((q / (8 : Int64)) + (1 : Int64))), .second]) rfl k) ?_
      refine Go.of (T' := T0) (f' := (mkF m 27 #[.val (.long q), .second, .val (.long ((q / (8 : Int64)) + (1 : Int64))), .second] [(.long ((q / (8 : Int64)) + (1 : Int64)))])) (fun _ k => XS.lloadN X0.here hx rfl (hb hby d_method_3_code_26) rfl k) ?_
      exact Go.retJ X0 hx hlk hret (hb hby d_method_3_code_27) (by decide) (by decide) (by rw [e0]; exact ⟨by rw [own_ce, if_neg hc13, if_pos hc14], rfl, by simp⟩)
    · skip
      refine Go.of (T' := T0) (f' := (mkF m 26 #[.val (.long q), .second, .val (.long (q / (8 : Int64))), .second] [])) (fun _ k => XS.ifYes X0.here hx rfl (pc0 := 19) (pc' := 26) rfl (hb hby d_method_3_code_19) rfl ((if0 _ _).trans (flt hc14).2.2.2) (by decide) (by decide) k) ?_
      refine Go.of (T' := T0) (f' := (mkF m 27 #[.val (.long q), .second, .val (.long (q / (8 : Int64))), .second] [(.long (q / (8 : Int64)))])) (fun _ k => XS.lloadN X0.here hx rfl (hb hby d_method_3_code_26) rfl k) ?_
      exact Go.retJ X0 hx hlk hret (hb hby d_method_3_code_27) (by decide) (by decide) (by rw [e0]; exact ⟨by rw [own_ce, if_neg hc13, if_neg hc14], rfl, by simp⟩)
theorem d_method_4_code_0 : decode method_4_code 0 = .ok (.ldc2_w 9, 3) := by decide +kernel
theorem d_method_4_code_3 : decode method_4_code 3 = .ok (.lload_n 0, 1) := by decide +kernel
theorem d_method_4_code_4 : decode method_4_code 4 = .ok (.lmul, 1) := by decide +kernel
theorem d_method_4_code_5 : decode method_4_code 5 = .ok (.lload_n 2, 1) := by decide +kernel
theorem d_method_4_code_6 : decode method_4_code 6 = .ok (.ladd, 1) := by decide +kernel
theorem d_method_4_code_7 : decode method_4_code 7 = .ok (.lstore 4, 2) := by decide +kernel
theorem d_method_4_code_9 : decode method_4_code 9 = .ok (.lload_n 2, 1) := by decide +kernel
theorem d_method_4_code_10 : decode method_4_code 10 = .ok (.lload_n 0, 1) := by decide +kernel
theorem d_method_4_code_11 : decode method_4_code 11 = .ok (.lcmp, 1) := by decide +kernel
theorem d_method_4_code_12 : decode method_4_code 12 = .ok (.ifCond .lt 9, 3) := by decide +kernel
theorem d_method_4_code_21 : decode method_4_code 21 = .ok (.lload 4, 2) := by decide +kernel
theorem d_method_4_code_23 : decode method_4_code 23 = .ok (.invokestatic 17, 3) := by decide +kernel
theorem pd__J_J : parseMethodDescriptor "(J)J" = some ⟨[.long], some .long⟩ := by decide +kernel
theorem d_method_4_code_26 : decode method_4_code 26 = .ok (.lreturn, 1) := by decide +kernel
theorem d_method_4_code_15 : decode method_4_code 15 = .ok (.lload 4, 2) := by decide +kernel
theorem d_method_4_code_17 : decode method_4_code 17 = .ok (.invokestatic 11, 3) := by decide +kernel
theorem d_method_4_code_20 : decode method_4_code 20 = .ok (.lreturn, 1) := by decide +kernel
theorem ef_rm_next (m : MethodId) (o : Int64) (n : Int64) : entryFrame m #[(.long o), (.long n)] 6 = mkF m 0 #[.val (.long o), .second, .val (.long n), .second, .unset, .unset] [] := by first | (simp [entryFrame, mkF, argsToLocals, Value.category]; done) | rfl
theorem pn_com_example_portcall_portcall_service_CallPaceRanPinLaw_next__JJ_J : plainFor (⟨"com/example/portcall/portcall/service/CallPaceRanPinLaw", "next", "(JJ)J"⟩ : MethodName) = true := by first | exact plainFor_of_name (by first | (simp [plainName, overriddenIn]; done) | decide +kernel) | decide +kernel
set_option maxRecDepth 65536 in
set_option maxHeartbeats 40000000 in
theorem rm_next {l : Launch} {Z : State} {a0 : Array Value} (hw : ∀ d ∈ tables_1, d.before a0 Z = true) (S_FIRST_AVERAGE : Sta Z Z.heap "com/example/portcall/portcall/service/CallPace" "FIRST_AVERAGE" "J" (.long (800000 : Int64))) (S_QUICK_NANOS : Sta Z Z.heap "com/example/portcall/portcall/service/CallPace" "QUICK_NANOS" "J" (.long (200000 : Int64))) (o : Int64) (n : Int64)  (h0 : Heap) (O0 : Ext Z.heap h0)  :
    Ok l Z (⟨"com/example/portcall/portcall/service/CallPaceRanPinLaw", "next", "(JJ)J"⟩ : MethodName) method_4_code 6 (some .long) ({ frames := 1, cells := 0, slots := 0, locals := 15 } : Room) #[(.long o), (.long n)] h0
      (fun v h L => v = some (.long (own_next o n)) ∧ (h = h0) ∧ (L = [])) := by
  refine Ok.mk pn_com_example_portcall_portcall_service_CallPaceRanPinLaw_next__JJ_J ?_
  intro p e s m below meth c T0 hx hby hml hown hnm hret hlk hZ e0 X0
  refine Go.cast (ef_rm_next m o n) ?_
  have N0 := Fr.nil Z.heap.size
  have K0 : Keep h0 h0 [] := Keep.refl _ _
  refine Go.of (T' := T0) (f' := (mkF m 3 #[.val (.long o), .second, .val (.long n), .second, .unset, .unset] [(.long (7 : Int64))])) (fun _ k => X0.ldc2Long hx hown (mvT hZ (hw _ (List.mem_of_getElem? (i := 32) rfl))) (g := (mkF m 0 #[.val (.long o), .second, .val (.long n), .second, .unset, .unset] [])) rfl (hb hby d_method_4_code_0) _ k) ?_
  refine Go.of (T' := T0) (f' := (mkF m 4 #[.val (.long o), .second, .val (.long n), .second, .unset, .unset] [(.long o), (.long (7 : Int64))])) (fun _ k => XS.lloadN X0.here hx rfl (hb hby d_method_4_code_3) rfl k) ?_
  refine Go.of (T' := T0) (f' := (mkF m 5 #[.val (.long o), .second, .val (.long n), .second, .unset, .unset] [(.long ((7 : Int64) * o))])) (fun _ k => XS.lmul X0.here hx rfl (hb hby d_method_4_code_4) rfl k) ?_
  refine Go.of (T' := T0) (f' := (mkF m 6 #[.val (.long o), .second, .val (.long n), .second, .unset, .unset] [(.long n), (.long ((7 : Int64) * o))])) (fun _ k => XS.lloadN X0.here hx rfl (hb hby d_method_4_code_5) rfl k) ?_
  refine Go.of (T' := T0) (f' := (mkF m 7 #[.val (.long o), .second, .val (.long n), .second, .unset, .unset] [(.long (((7 : Int64) * o) + n))])) (fun _ k => XS.ladd X0.here hx rfl (hb hby d_method_4_code_6) rfl k) ?_
  refine Go.of (T' := T0) (f' := (mkF m 9 #[.val (.long o), .second, .val (.long n), .second, .val (.long (((7 : Int64) * o) + n)), .second] [])) (fun _ k => XS.lstore X0.here hx rfl (hb hby d_method_4_code_7) rfl (l' := #[.val (.long o), .second, .val (.long n), .second, .val (.long (((7 : Int64) * o) + n)), .second]) rfl k) ?_
  refine Go.of (T' := T0) (f' := (mkF m 10 #[.val (.long o), .second, .val (.long n), .second, .val (.long (((7 : Int64) * o) + n)), .second] [(.long n)])) (fun _ k => XS.lloadN X0.here hx rfl (hb hby d_method_4_code_9) rfl k) ?_
  refine Go.of (T' := T0) (f' := (mkF m 11 #[.val (.long o), .second, .val (.long n), .second, .val (.long (((7 : Int64) * o) + n)), .second] [(.long o), (.long n)])) (fun _ k => XS.lloadN X0.here hx rfl (hb hby d_method_4_code_10) rfl k) ?_
  refine Go.of (T' := T0) (f' := (mkF m 12 #[.val (.long o), .second, .val (.long n), .second, .val (.long (((7 : Int64) * o) + n)), .second] [(.int (lcmpW n o))])) (fun _ k => XS.lcmp X0.here hx rfl (hb hby d_method_4_code_11) rfl k) ?_
  by_cases hc15 : (lcmpW n o) < (0 : Int32)
  · skip
    refine Go.of (T' := T0) (f' := (mkF m 21 #[.val (.long o), .second, .val (.long n), .second, .val (.long (((7 : Int64) * o) + n)), .second] [])) (fun _ k => XS.ifYes X0.here hx rfl (pc0 := 12) (pc' := 21) rfl (hb hby d_method_4_code_12) rfl ((if0 _ _).trans (tlt hc15).1) (by decide) (by decide) k) ?_
    refine Go.of (T' := T0) (f' := (mkF m 23 #[.val (.long o), .second, .val (.long n), .second, .val (.long (((7 : Int64) * o) + n)), .second] [(.long (((7 : Int64) * o) + n))])) (fun _ k => XS.lload X0.here hx rfl (hb hby d_method_4_code_21) rfl k) ?_
    obtain ⟨T16, v16, L16, X16, q16, st16⟩ := callSt X0 hx hZ (y := (⟨"com/example/portcall/portcall/service/CallPaceRanPinLaw", "ceil8", "(J)J"⟩ : MethodName)) hown (hw _ (List.mem_of_getElem? (i := 33) rfl)) (hw _ (List.mem_of_getElem? (i := 34) rfl)) (hw _ (List.mem_of_getElem? (i := 30) rfl)) (hw _ (List.mem_of_getElem? (i := 35) rfl)) (by decide) (rm_ceil hw S_FIRST_AVERAGE S_QUICK_NANOS ((((7 : Int64) * o) + n))  h0 O0 ) e0 (W := 0) (by decide) (by decide) (by decide) (by decide) (g := (mkF m 23 #[.val (.long o), .second, .val (.long n), .second, .val (.long (((7 : Int64) * o) + n)), .second] [(.long (((7 : Int64) * o) + n))])) rfl (by rw [hml]; rfl) (argsL := [(.long (((7 : Int64) * o) + n))]) (rest := []) (lenOf pd__J_J rfl) rfl rfl (by show 2 * 0 + _ ≤ _; exact Nat.le_of_eq rfl) (hb hby d_method_4_code_23)
    obtain ⟨rfl, e16, rfl⟩ := q16
    have N16 := Fr.app N0 (Fr.nil _)
    refine Go.of (T' := T16) (f' := (mkF m 26 #[.val (.long o), .second, .val (.long n), .second, .val (.long (((7 : Int64) * o) + n)), .second] [(.long (own_ce (((7 : Int64) * o) + n)))])) (fun _ k => st16 _ k) ?_
    exact Go.retJ X16 hx hlk hret (hb hby d_method_4_code_26) (by decide) (by decide) (by rw [e16]; exact ⟨by rw [own_next, if_pos hc15], rfl, by simp⟩)
  · skip
    refine Go.of (T' := T0) (f' := (mkF m 15 #[.val (.long o), .second, .val (.long n), .second, .val (.long (((7 : Int64) * o) + n)), .second] [])) (fun _ k => XS.ifNo X0.here hx rfl (hb hby d_method_4_code_12) rfl ((if0 _ _).trans (flt hc15).1) k) ?_
    refine Go.of (T' := T0) (f' := (mkF m 17 #[.val (.long o), .second, .val (.long n), .second, .val (.long (((7 : Int64) * o) + n)), .second] [(.long (((7 : Int64) * o) + n))])) (fun _ k => XS.lload X0.here hx rfl (hb hby d_method_4_code_15) rfl k) ?_
    obtain ⟨T17, v17, L17, X17, q17, st17⟩ := callSt X0 hx hZ (y := (⟨"com/example/portcall/portcall/service/CallPaceRanPinLaw", "floor8", "(J)J"⟩ : MethodName)) hown (hw _ (List.mem_of_getElem? (i := 37) rfl)) (hw _ (List.mem_of_getElem? (i := 38) rfl)) (hw _ (List.mem_of_getElem? (i := 30) rfl)) (hw _ (List.mem_of_getElem? (i := 39) rfl)) (by decide) (rm_floor hw S_FIRST_AVERAGE S_QUICK_NANOS ((((7 : Int64) * o) + n))  h0 O0 ) e0 (W := 0) (by decide) (by decide) (by decide) (by decide) (g := (mkF m 17 #[.val (.long o), .second, .val (.long n), .second, .val (.long (((7 : Int64) * o) + n)), .second] [(.long (((7 : Int64) * o) + n))])) rfl (by rw [hml]; rfl) (argsL := [(.long (((7 : Int64) * o) + n))]) (rest := []) (lenOf pd__J_J rfl) rfl rfl (by show 2 * 0 + _ ≤ _; exact Nat.le_of_eq rfl) (hb hby d_method_4_code_17)
    obtain ⟨rfl, e17, rfl⟩ := q17
    have N17 := Fr.app N0 (Fr.nil _)
    refine Go.of (T' := T17) (f' := (mkF m 20 #[.val (.long o), .second, .val (.long n), .second, .val (.long (((7 : Int64) * o) + n)), .second] [(.long (own_fl (((7 : Int64) * o) + n)))])) (fun _ k => st17 _ k) ?_
    exact Go.retJ X17 hx hlk hret (hb hby d_method_4_code_20) (by decide) (by decide) (by rw [e17]; exact ⟨by rw [own_next, if_neg hc15], rfl, by simp⟩)
theorem pd___V : parseMethodDescriptor "()V" = some ⟨[], none⟩ := by decide +kernel
theorem pd___Z : parseMethodDescriptor "()Z" = some ⟨[], some .boolean⟩ := by decide +kernel
theorem pd__J_V : parseMethodDescriptor "(J)V" = some ⟨[.long], none⟩ := by decide +kernel
theorem pd__JJ_J : parseMethodDescriptor "(JJ)J" = some ⟨[.long, .long], some .long⟩ := by decide +kernel
theorem ef_rm_law (m : MethodId) (p0 : Int64) (p1 : Int64) (p2 : Int64) : entryFrame m #[(.long p0), (.long p1), (.long p2)] maxLocals = mkF m 0 #[.val (.long p0), .second, .val (.long p1), .second, .val (.long p2), .second, .unset, .unset, .unset, .unset, .unset, .unset, .unset, .unset, .unset, .unset] [] := by first | (simp [entryFrame, mkF, argsToLocals, Value.category, maxLocals]; done) | rfl
theorem pn_com_example_portcall_portcall_service_CallPaceRanPinLaw_law__JJJ_Z : plainFor (⟨"com/example/portcall/portcall/service/CallPaceRanPinLaw", "law", "(JJJ)Z"⟩ : MethodName) = true := by first | exact plainFor_of_name (by first | (simp [plainName, overriddenIn]; done) | decide +kernel) | decide +kernel
set_option maxRecDepth 65536 in
set_option maxHeartbeats 40000000 in
theorem rm_law {l : Launch} {Z : State} {a0 : Array Value} (hw : ∀ d ∈ tables_1, d.before a0 Z = true) (S_FIRST_AVERAGE : Sta Z Z.heap "com/example/portcall/portcall/service/CallPace" "FIRST_AVERAGE" "J" (.long (800000 : Int64))) (S_QUICK_NANOS : Sta Z Z.heap "com/example/portcall/portcall/service/CallPace" "QUICK_NANOS" "J" (.long (200000 : Int64))) (p0 : Int64) (p1 : Int64) (p2 : Int64)  (h0 : Heap) (O0 : Ext Z.heap h0)  :
    Ok l Z x code maxLocals ret room_1 #[(.long p0), (.long p1), (.long p2)] h0
      (fun v h L => v = some (.int (1 : Int32)) ∧ (Fr Z.heap.size L) ∧ (Keep h0 h [])) := by
  refine Ok.mk pn_com_example_portcall_portcall_service_CallPaceRanPinLaw_law__JJJ_Z ?_
  intro p e s m below meth c T0 hx hby hml hown hnm hret hlk hZ e0 X0
  have hml : c.maxLocals = 16 := hml
  have hown : s.vm.findClass "com/example/portcall/portcall/service/CallPaceRanPinLaw" = some m.cls := hown
  refine Go.cast (ef_rm_law m p0 p1 p2) ?_
  have N0 := Fr.nil Z.heap.size
  have K0 : Keep h0 h0 [] := Keep.refl _ _
  refine Go.of (T' := T0) (f' := (mkF m 1 #[.val (.long p0), .second, .val (.long p1), .second, .val (.long p2), .second, .unset, .unset, .unset, .unset, .unset, .unset, .unset, .unset, .unset, .unset] [(.long p0)])) (fun _ k => XS.lloadN X0.here hx rfl (hb hby at_0) rfl k) ?_
  refine Go.of (T' := T0) (f' := (mkF m 2 #[.val (.long p0), .second, .val (.long p1), .second, .val (.long p2), .second, .unset, .unset, .unset, .unset, .unset, .unset, .unset, .unset, .unset, .unset] [(.int (4 : Int32)), (.long p0)])) (fun _ k => XS.iconst X0.here hx rfl (hb hby at_1) k) ?_
  refine Go.of (T' := T0) (f' := (mkF m 3 #[.val (.long p0), .second, .val (.long p1), .second, .val (.long p2), .second, .unset, .unset, .unset, .unset, .unset, .unset, .unset, .unset, .unset, .unset] [(.long (p0 >>> ((4 : Int32) &&& 0x3f).toInt64))])) (fun _ k => XS.lshr X0.here hx rfl (hb hby at_2) rfl k) ?_
  generalize ya_e : ((p0 >>> ((4 : Int32) &&& 0x3f).toInt64) : Int64) = ya
  refine Go.of (T' := T0) (f' := (mkF m 5 #[.val (.long p0), .second, .val (.long p1), .second, .val (.long p2), .second, .val (.long ya), .second, .unset, .unset, .unset, .unset, .unset, .unset, .unset, .unset] [])) (fun _ k => XS.lstore X0.here hx rfl (hb hby at_3) rfl (l' := #[.val (.long p0), .second, .val (.long p1), .second, .val (.long p2), .second, .val (.long ya), .second, .unset, .unset, .unset, .unset, .unset, .unset, .unset, .unset]) rfl k) ?_
  refine Go.of (T' := T0) (f' := (mkF m 6 #[.val (.long p0), .second, .val (.long p1), .second, .val (.long p2), .second, .val (.long ya), .second, .unset, .unset, .unset, .unset, .unset, .unset, .unset, .unset] [(.long p1)])) (fun _ k => XS.lloadN X0.here hx rfl (hb hby at_5) rfl k) ?_
  refine Go.of (T' := T0) (f' := (mkF m 7 #[.val (.long p0), .second, .val (.long p1), .second, .val (.long p2), .second, .val (.long ya), .second, .unset, .unset, .unset, .unset, .unset, .unset, .unset, .unset] [(.int (4 : Int32)), (.long p1)])) (fun _ k => XS.iconst X0.here hx rfl (hb hby at_6) k) ?_
  refine Go.of (T' := T0) (f' := (mkF m 8 #[.val (.long p0), .second, .val (.long p1), .second, .val (.long p2), .second, .val (.long ya), .second, .unset, .unset, .unset, .unset, .unset, .unset, .unset, .unset] [(.long (p1 >>> ((4 : Int32) &&& 0x3f).toInt64))])) (fun _ k => XS.lshr X0.here hx rfl (hb hby at_7) rfl k) ?_
  generalize yb_e : ((p1 >>> ((4 : Int32) &&& 0x3f).toInt64) : Int64) = yb
  refine Go.of (T' := T0) (f' := (mkF m 10 #[.val (.long p0), .second, .val (.long p1), .second, .val (.long p2), .second, .val (.long ya), .second, .val (.long yb), .second, .unset, .unset, .unset, .unset, .unset, .unset] [])) (fun _ k => XS.lstore X0.here hx rfl (hb hby at_8) rfl (l' := #[.val (.long p0), .second, .val (.long p1), .second, .val (.long p2), .second, .val (.long ya), .second, .val (.long yb), .second, .unset, .unset, .unset, .unset, .unset, .unset]) rfl k) ?_
  refine Go.of (T' := T0) (f' := (mkF m 12 #[.val (.long p0), .second, .val (.long p1), .second, .val (.long p2), .second, .val (.long ya), .second, .val (.long yb), .second, .unset, .unset, .unset, .unset, .unset, .unset] [(.long p2)])) (fun _ k => XS.lload X0.here hx rfl (hb hby at_10) rfl k) ?_
  refine Go.of (T' := T0) (f' := (mkF m 13 #[.val (.long p0), .second, .val (.long p1), .second, .val (.long p2), .second, .val (.long ya), .second, .val (.long yb), .second, .unset, .unset, .unset, .unset, .unset, .unset] [(.int (4 : Int32)), (.long p2)])) (fun _ k => XS.iconst X0.here hx rfl (hb hby at_12) k) ?_
  refine Go.of (T' := T0) (f' := (mkF m 14 #[.val (.long p0), .second, .val (.long p1), .second, .val (.long p2), .second, .val (.long ya), .second, .val (.long yb), .second, .unset, .unset, .unset, .unset, .unset, .unset] [(.long (p2 >>> ((4 : Int32) &&& 0x3f).toInt64))])) (fun _ k => XS.lshr X0.here hx rfl (hb hby at_13) rfl k) ?_
  generalize yc_e : ((p2 >>> ((4 : Int32) &&& 0x3f).toInt64) : Int64) = yc
  refine Go.of (T' := T0) (f' := (mkF m 16 #[.val (.long p0), .second, .val (.long p1), .second, .val (.long p2), .second, .val (.long ya), .second, .val (.long yb), .second, .val (.long yc), .second, .unset, .unset, .unset, .unset] [])) (fun _ k => XS.lstore X0.here hx rfl (hb hby at_14) rfl (l' := #[.val (.long p0), .second, .val (.long p1), .second, .val (.long p2), .second, .val (.long ya), .second, .val (.long yb), .second, .val (.long yc), .second, .unset, .unset, .unset, .unset]) rfl k) ?_
  have hy1 : own_small ya := ya_e ▸ own_shr p0
  have hy2 : own_small yb := yb_e ▸ own_shr p1
  have hy3 : own_small yc := yc_e ▸ own_shr p2
  have hb0 : own_small (800000 : Int64) := by unfold own_small; decide
  obtain ⟨T18, h18, b18, q18, X18, e18, E18, A18, D18, st18⟩ := newOb X0 hx hZ hown (hw _ (List.mem_of_getElem? (i := 0) rfl)) (hw _ (List.mem_of_getElem? (i := 1) rfl)) (hw _ (List.mem_of_getElem? (i := 2) rfl)) e0 (g := (mkF m 16 #[.val (.long p0), .second, .val (.long p1), .second, .val (.long p2), .second, .val (.long ya), .second, .val (.long yb), .second, .val (.long yc), .second, .unset, .unset, .unset, .unset] [])) rfl (hb hby at_16) (by decide) (by decide)
  have O19 := Old0.ext O0 E18
  have K19 := Keep.ext K0 E18
  have g_b18 : Z.heap.size ≤ b18 := q18 ▸ O0.1
  have z_b18 : h0.size ≤ b18 := q18 ▸ K0.1
  have f20 : Fld Z h18 b18 "com/example/portcall/portcall/service/CallPace" "average" "J" (.long (0 : Int64)) := D18 (Or.inl (hw _ (List.mem_of_getElem? (i := 12) rfl))) (ty := .long) (by decide)
  refine Go.of (T' := T18) (f' := (mkF m 19 #[.val (.long p0), .second, .val (.long p1), .second, .val (.long p2), .second, .val (.long ya), .second, .val (.long yb), .second, .val (.long yc), .second, .unset, .unset, .unset, .unset] [(.ref b18)])) (fun _ k => st18 _ k) ?_
  refine Go.of (T' := T18) (f' := (mkF m 20 #[.val (.long p0), .second, .val (.long p1), .second, .val (.long p2), .second, .val (.long ya), .second, .val (.long yb), .second, .val (.long yc), .second, .unset, .unset, .unset, .unset] [(.ref b18), (.ref b18)])) (fun _ k => XS.dup X18.here hx rfl (hb hby at_19) rfl rfl k) ?_
  obtain ⟨T21, v21, L21, X21, q21, st21⟩ := callNew X18 hx hZ (y := (⟨"com/example/portcall/portcall/service/CallPace", "<init>", "()V"⟩ : MethodName)) rfl hown (hw _ (List.mem_of_getElem? (i := 3) rfl)) (hw _ (List.mem_of_getElem? (i := 4) rfl)) (hw _ (List.mem_of_getElem? (i := 2) rfl)) (hw _ (List.mem_of_getElem? (i := 5) rfl)) (by decide) (rm_init hw S_FIRST_AVERAGE S_QUICK_NANOS b18  h18 O19 A18 f20 g_b18) e18 (W := 1) (by decide) (by decide) (by decide) (by decide) (g := (mkF m 20 #[.val (.long p0), .second, .val (.long p1), .second, .val (.long p2), .second, .val (.long ya), .second, .val (.long yb), .second, .val (.long yc), .second, .unset, .unset, .unset, .unset] [(.ref b18), (.ref b18)])) rfl (by rw [hml]; rfl) (a := b18) (argsL := []) (rest := [(.ref b18)]) (lenOf pd___V rfl) rfl rfl (by show 2 * 0 + _ ≤ _; exact Nat.le_of_eq rfl) (hb hby at_20)
  obtain ⟨rfl, N21q, K21q, p21_0⟩ := q21
  have N21 := Fr.app N0 N21q
  have O22 := Old0.keep O19 K21q (allS g_b18 all0)
  have K22 := Keep.trans K19 K21q (allS (Or.inr z_b18) all0)
  refine Go.of (T' := T21) (f' := (mkF m 23 #[.val (.long p0), .second, .val (.long p1), .second, .val (.long p2), .second, .val (.long ya), .second, .val (.long yb), .second, .val (.long yc), .second, .unset, .unset, .unset, .unset] [(.ref b18)])) (fun _ k => st21 _ k) ?_
  refine Go.of (T' := T21) (f' := (mkF m 25 #[.val (.long p0), .second, .val (.long p1), .second, .val (.long p2), .second, .val (.long ya), .second, .val (.long yb), .second, .val (.long yc), .second, .val (.ref b18), .unset, .unset, .unset] [])) (fun _ k => XS.astore X21.here hx rfl (hb hby at_23) rfl rfl (l' := #[.val (.long p0), .second, .val (.long p1), .second, .val (.long p2), .second, .val (.long ya), .second, .val (.long yb), .second, .val (.long yc), .second, .val (.ref b18), .unset, .unset, .unset]) rfl k) ?_
  refine Go.of (T' := T21) (f' := (mkF m 28 #[.val (.long p0), .second, .val (.long p1), .second, .val (.long p2), .second, .val (.long ya), .second, .val (.long yb), .second, .val (.long yc), .second, .val (.ref b18), .unset, .unset, .unset] [(.long (800000 : Int64))])) (fun _ k => X21.ldc2Long hx hown (mvT hZ (hw _ (List.mem_of_getElem? (i := 13) rfl))) (g := (mkF m 25 #[.val (.long p0), .second, .val (.long p1), .second, .val (.long p2), .second, .val (.long ya), .second, .val (.long yb), .second, .val (.long yc), .second, .val (.ref b18), .unset, .unset, .unset] [])) rfl (hb hby at_25) _ k) ?_
  refine Go.of (T' := T21) (f' := (mkF m 30 #[.val (.long p0), .second, .val (.long p1), .second, .val (.long p2), .second, .val (.long ya), .second, .val (.long yb), .second, .val (.long yc), .second, .val (.ref b18), .val (.long (800000 : Int64)), .second, .unset] [])) (fun _ k => XS.lstore X21.here hx rfl (hb hby at_28) rfl (l' := #[.val (.long p0), .second, .val (.long p1), .second, .val (.long p2), .second, .val (.long ya), .second, .val (.long yb), .second, .val (.long yc), .second, .val (.ref b18), .val (.long (800000 : Int64)), .second, .unset]) rfl k) ?_
  refine Go.of (T' := T21) (f' := (mkF m 32 #[.val (.long p0), .second, .val (.long p1), .second, .val (.long p2), .second, .val (.long ya), .second, .val (.long yb), .second, .val (.long yc), .second, .val (.ref b18), .val (.long (800000 : Int64)), .second, .unset] [(.ref b18)])) (fun _ k => XS.aload X21.here hx rfl (hb hby at_30) rfl rfl k) ?_
  have f24 : Exa Z T21.heap b18 "com/example/portcall/portcall/service/CallPace" := (Exa.keep A18 K21q)
  obtain ⟨T23, v23, L23, X23, q23, st23⟩ := callVi X21 hx hZ (y := (⟨"com/example/portcall/portcall/service/CallPace", "quick", "()Z"⟩ : MethodName)) (z := (⟨"com/example/portcall/portcall/service/CallPace", "quick", "()Z"⟩ : MethodName)) hown (hw _ (List.mem_of_getElem? (i := 14) rfl)) (hw _ (List.mem_of_getElem? (i := 15) rfl)) (notFace_of_selects (args := #[]) (mvT hZ (hw _ (List.mem_of_getElem? (i := 17) rfl)))) (hw _ (List.mem_of_getElem? (i := 17) rfl)) (hw _ (List.mem_of_getElem? (i := 16) rfl)) (hw _ (List.mem_of_getElem? (i := 18) rfl)) (hw _ (List.mem_of_getElem? (i := 2) rfl)) (by decide) (rm_quick hw S_FIRST_AVERAGE S_QUICK_NANOS b18 ((800000 : Int64)) T21.heap O22 p21_0) rfl (W := 0) (by decide) (by decide) (by decide) (by decide) f24 (g := (mkF m 32 #[.val (.long p0), .second, .val (.long p1), .second, .val (.long p2), .second, .val (.long ya), .second, .val (.long yb), .second, .val (.long yc), .second, .val (.ref b18), .val (.long (800000 : Int64)), .second, .unset] [(.ref b18)])) rfl (by rw [hml]; rfl) (argsL := []) (rest := []) (lenOf pd___Z rfl) rfl rfl (by show 2 * 0 + _ ≤ _; exact Nat.le_of_eq rfl) (hb hby at_32)
  obtain ⟨rfl, e23, rfl⟩ := q23
  have N23 := Fr.app N21 (Fr.nil _)
  refine Go.of (T' := T23) (f' := (mkF m 35 #[.val (.long p0), .second, .val (.long p1), .second, .val (.long p2), .second, .val (.long ya), .second, .val (.long yb), .second, .val (.long yc), .second, .val (.ref b18), .val (.long (800000 : Int64)), .second, .unset] [(.int (own_lt (800000 : Int64)))])) (fun _ k => st23 _ k) ?_
  refine Go.of (T' := T23) (f' := (mkF m 37 #[.val (.long p0), .second, .val (.long p1), .second, .val (.long p2), .second, .val (.long ya), .second, .val (.long yb), .second, .val (.long yc), .second, .val (.ref b18), .val (.long (800000 : Int64)), .second, .unset] [(.long (800000 : Int64)), (.int (own_lt (800000 : Int64)))])) (fun _ k => XS.lload X23.here hx rfl (hb hby at_35) rfl k) ?_
  refine Go.of (T' := T23) (f' := (mkF m 40 #[.val (.long p0), .second, .val (.long p1), .second, .val (.long p2), .second, .val (.long ya), .second, .val (.long yb), .second, .val (.long yc), .second, .val (.ref b18), .val (.long (800000 : Int64)), .second, .unset] [(.long (200000 : Int64)), (.long (800000 : Int64)), (.int (own_lt (800000 : Int64)))])) (fun _ k => X23.ldc2Long hx hown (mvT hZ (hw _ (List.mem_of_getElem? (i := 21) rfl))) (g := (mkF m 37 #[.val (.long p0), .second, .val (.long p1), .second, .val (.long p2), .second, .val (.long ya), .second, .val (.long yb), .second, .val (.long yc), .second, .val (.ref b18), .val (.long (800000 : Int64)), .second, .unset] [(.long (800000 : Int64)), (.int (own_lt (800000 : Int64)))])) rfl (hb hby at_37) _ k) ?_
  refine Go.of (T' := T23) (f' := (mkF m 41 #[.val (.long p0), .second, .val (.long p1), .second, .val (.long p2), .second, .val (.long ya), .second, .val (.long yb), .second, .val (.long yc), .second, .val (.ref b18), .val (.long (800000 : Int64)), .second, .unset] [(.int (1 : Int32)), (.int (own_lt (800000 : Int64)))])) (fun _ k => XS.lcmp X23.here hx rfl (hb hby at_40) rfl k) ?_
  refine Go.of (T' := T23) (f' := (mkF m 48 #[.val (.long p0), .second, .val (.long p1), .second, .val (.long p2), .second, .val (.long ya), .second, .val (.long yb), .second, .val (.long yc), .second, .val (.ref b18), .val (.long (800000 : Int64)), .second, .unset] [(.int (own_lt (800000 : Int64)))])) (fun _ k => XS.ifYes X23.here hx rfl (pc0 := 41) (pc' := 48) rfl (hb hby at_41) rfl ((if0 _ _).trans (flt (by decide : ¬ ((1 : Int32) < (0 : Int32)))).2.1) (by decide) (by decide) k) ?_
  refine Go.of (T' := T23) (f' := (mkF m 49 #[.val (.long p0), .second, .val (.long p1), .second, .val (.long p2), .second, .val (.long ya), .second, .val (.long yb), .second, .val (.long yc), .second, .val (.ref b18), .val (.long (800000 : Int64)), .second, .unset] [(.int (0 : Int32)), (.int (own_lt (800000 : Int64)))])) (fun _ k => XS.iconst X23.here hx rfl (hb hby at_48) k) ?_
  have hc26 : (own_lt (800000 : Int64)) = (0 : Int32) := by decide
  refine Go.of (T' := T23) (f' := (mkF m 52 #[.val (.long p0), .second, .val (.long p1), .second, .val (.long p2), .second, .val (.long ya), .second, .val (.long yb), .second, .val (.long yc), .second, .val (.ref b18), .val (.long (800000 : Int64)), .second, .unset] [])) (fun _ k => XS.icmpNo X23.here hx rfl (hb hby at_49) rfl (teq hc26).2 k) ?_
  refine Go.of (T' := T23) (f' := (mkF m 53 #[.val (.long p0), .second, .val (.long p1), .second, .val (.long p2), .second, .val (.long ya), .second, .val (.long yb), .second, .val (.long yc), .second, .val (.ref b18), .val (.long (800000 : Int64)), .second, .unset] [(.int (1 : Int32))])) (fun _ k => XS.iconst X23.here hx rfl (hb hby at_52) k) ?_
  refine Go.of (T' := T23) (f' := (mkF m 57 #[.val (.long p0), .second, .val (.long p1), .second, .val (.long p2), .second, .val (.long ya), .second, .val (.long yb), .second, .val (.long yc), .second, .val (.ref b18), .val (.long (800000 : Int64)), .second, .unset] [(.int (1 : Int32))])) (fun _ k => XS.goto X23.here hx rfl (pc0 := 53) (pc' := 57) rfl (hb hby at_53) (by decide) (by decide) k) ?_
  refine Go.of (T' := T23) (f' := (mkF m 59 #[.val (.long p0), .second, .val (.long p1), .second, .val (.long p2), .second, .val (.long ya), .second, .val (.long yb), .second, .val (.long yc), .second, .val (.ref b18), .val (.long (800000 : Int64)), .second, .val (.int (1 : Int32))] [])) (fun _ k => XS.istore X23.here hx rfl (hb hby at_57) rfl (l' := #[.val (.long p0), .second, .val (.long p1), .second, .val (.long p2), .second, .val (.long ya), .second, .val (.long yb), .second, .val (.long yc), .second, .val (.ref b18), .val (.long (800000 : Int64)), .second, .val (.int (1 : Int32))]) rfl k) ?_
  refine Go.of (T' := T23) (f' := (mkF m 61 #[.val (.long p0), .second, .val (.long p1), .second, .val (.long p2), .second, .val (.long ya), .second, .val (.long yb), .second, .val (.long yc), .second, .val (.ref b18), .val (.long (800000 : Int64)), .second, .val (.int (1 : Int32))] [(.ref b18)])) (fun _ k => XS.aload X23.here hx rfl (hb hby at_59) rfl rfl k) ?_
  refine Go.of (T' := T23) (f' := (mkF m 63 #[.val (.long p0), .second, .val (.long p1), .second, .val (.long p2), .second, .val (.long ya), .second, .val (.long yb), .second, .val (.long yc), .second, .val (.ref b18), .val (.long (800000 : Int64)), .second, .val (.int (1 : Int32))] [(.long ya), (.ref b18)])) (fun _ k => XS.lload X23.here hx rfl (hb hby at_61) rfl k) ?_
  obtain ⟨T27, v27, L27, X27, q27, st27⟩ := callVi X23 hx hZ (y := (⟨"com/example/portcall/portcall/service/CallPace", "ran", "(J)V"⟩ : MethodName)) (z := (⟨"com/example/portcall/portcall/service/CallPace", "ran", "(J)V"⟩ : MethodName)) hown (hw _ (List.mem_of_getElem? (i := 22) rfl)) (hw _ (List.mem_of_getElem? (i := 23) rfl)) (notFace_of_selects (args := #[]) (mvT hZ (hw _ (List.mem_of_getElem? (i := 25) rfl)))) (hw _ (List.mem_of_getElem? (i := 25) rfl)) (hw _ (List.mem_of_getElem? (i := 24) rfl)) (hw _ (List.mem_of_getElem? (i := 26) rfl)) (hw _ (List.mem_of_getElem? (i := 2) rfl)) (by decide) (rm_ran hw S_FIRST_AVERAGE S_QUICK_NANOS b18 ya ((800000 : Int64)) T21.heap O22 f24 p21_0 g_b18) e23 (W := 0) (by decide) (by decide) (by decide) (by decide) f24 (g := (mkF m 63 #[.val (.long p0), .second, .val (.long p1), .second, .val (.long p2), .second, .val (.long ya), .second, .val (.long yb), .second, .val (.long yc), .second, .val (.ref b18), .val (.long (800000 : Int64)), .second, .val (.int (1 : Int32))] [(.long ya), (.ref b18)])) rfl (by rw [hml]; rfl) (argsL := [(.long ya)]) (rest := []) (lenOf pd__J_V rfl) rfl rfl (by show 2 * 0 + _ ≤ _; exact Nat.le_of_eq rfl) (hb hby at_63)
  obtain ⟨rfl, N27q, K27q, p27_0⟩ := q27
  have N27 := Fr.app N23 N27q
  have O28 := Old0.keep O22 K27q (allS g_b18 all0)
  have K28 := Keep.trans K22 K27q (allS (Or.inr z_b18) all0)
  refine Go.of (T' := T27) (f' := (mkF m 66 #[.val (.long p0), .second, .val (.long p1), .second, .val (.long p2), .second, .val (.long ya), .second, .val (.long yb), .second, .val (.long yc), .second, .val (.ref b18), .val (.long (800000 : Int64)), .second, .val (.int (1 : Int32))] [])) (fun _ k => st27 _ k) ?_
  refine Go.of (T' := T27) (f' := (mkF m 68 #[.val (.long p0), .second, .val (.long p1), .second, .val (.long p2), .second, .val (.long ya), .second, .val (.long yb), .second, .val (.long yc), .second, .val (.ref b18), .val (.long (800000 : Int64)), .second, .val (.int (1 : Int32))] [(.long (800000 : Int64))])) (fun _ k => XS.lload X27.here hx rfl (hb hby at_66) rfl k) ?_
  refine Go.of (T' := T27) (f' := (mkF m 70 #[.val (.long p0), .second, .val (.long p1), .second, .val (.long p2), .second, .val (.long ya), .second, .val (.long yb), .second, .val (.long yc), .second, .val (.ref b18), .val (.long (800000 : Int64)), .second, .val (.int (1 : Int32))] [(.long ya), (.long (800000 : Int64))])) (fun _ k => XS.lload X27.here hx rfl (hb hby at_68) rfl k) ?_
  obtain ⟨T29, v29, L29, X29, q29, st29⟩ := callSt X27 hx hZ (y := (⟨"com/example/portcall/portcall/service/CallPaceRanPinLaw", "next", "(JJ)J"⟩ : MethodName)) hown (hw _ (List.mem_of_getElem? (i := 28) rfl)) (hw _ (List.mem_of_getElem? (i := 29) rfl)) (hw _ (List.mem_of_getElem? (i := 30) rfl)) (hw _ (List.mem_of_getElem? (i := 31) rfl)) (by decide) (rm_next hw S_FIRST_AVERAGE S_QUICK_NANOS ((800000 : Int64)) ya  T27.heap O28 ) rfl (W := 0) (by decide) (by decide) (by decide) (by decide) (g := (mkF m 70 #[.val (.long p0), .second, .val (.long p1), .second, .val (.long p2), .second, .val (.long ya), .second, .val (.long yb), .second, .val (.long yc), .second, .val (.ref b18), .val (.long (800000 : Int64)), .second, .val (.int (1 : Int32))] [(.long ya), (.long (800000 : Int64))])) rfl (by rw [hml]; rfl) (argsL := [(.long (800000 : Int64)), (.long ya)]) (rest := []) (lenOf pd__JJ_J rfl) rfl rfl (by show 2 * 0 + _ ≤ _; exact Nat.le_of_eq rfl) (hb hby at_70)
  obtain ⟨rfl, e29, rfl⟩ := q29
  have N29 := Fr.app N27 (Fr.nil _)
  refine Go.of (T' := T29) (f' := (mkF m 73 #[.val (.long p0), .second, .val (.long p1), .second, .val (.long p2), .second, .val (.long ya), .second, .val (.long yb), .second, .val (.long yc), .second, .val (.ref b18), .val (.long (800000 : Int64)), .second, .val (.int (1 : Int32))] [(.long (own_next (800000 : Int64) ya))])) (fun _ k => st29 _ k) ?_
  generalize he1 : ((own_next (800000 : Int64) ya) : Int64) = e1
  have hs1 := own_step (800000 : Int64) ya hb0 hy1
  rw [he1] at hs1
  obtain ⟨hs1, hb1⟩ := hs1
  have f30 : Fld Z T27.heap b18 "com/example/portcall/portcall/service/CallPace" "average" "J" (.long e1) := hs1 ▸ p27_0
  refine Go.of (T' := T29) (f' := (mkF m 75 #[.val (.long p0), .second, .val (.long p1), .second, .val (.long p2), .second, .val (.long ya), .second, .val (.long yb), .second, .val (.long yc), .second, .val (.ref b18), .val (.long e1), .second, .val (.int (1 : Int32))] [])) (fun _ k => XS.lstore X29.here hx rfl (hb hby at_73) rfl (l' := #[.val (.long p0), .second, .val (.long p1), .second, .val (.long p2), .second, .val (.long ya), .second, .val (.long yb), .second, .val (.long yc), .second, .val (.ref b18), .val (.long e1), .second, .val (.int (1 : Int32))]) rfl k) ?_
  refine Go.of (T' := T29) (f' := (mkF m 77 #[.val (.long p0), .second, .val (.long p1), .second, .val (.long p2), .second, .val (.long ya), .second, .val (.long yb), .second, .val (.long yc), .second, .val (.ref b18), .val (.long e1), .second, .val (.int (1 : Int32))] [(.int (1 : Int32))])) (fun _ k => XS.iload X29.here hx rfl (hb hby at_75) rfl k) ?_
  refine Go.of (T' := T29) (f' := (mkF m 80 #[.val (.long p0), .second, .val (.long p1), .second, .val (.long p2), .second, .val (.long ya), .second, .val (.long yb), .second, .val (.long yc), .second, .val (.ref b18), .val (.long e1), .second, .val (.int (1 : Int32))] [])) (fun _ k => XS.ifNo X29.here hx rfl (hb hby at_77) rfl ((if0 _ _).trans (feq (by decide : ¬ ((1 : Int32) = (0 : Int32)))).1) k) ?_
  refine Go.of (T' := T29) (f' := (mkF m 82 #[.val (.long p0), .second, .val (.long p1), .second, .val (.long p2), .second, .val (.long ya), .second, .val (.long yb), .second, .val (.long yc), .second, .val (.ref b18), .val (.long e1), .second, .val (.int (1 : Int32))] [(.ref b18)])) (fun _ k => XS.aload X29.here hx rfl (hb hby at_80) rfl rfl k) ?_
  have f33 : Exa Z T27.heap b18 "com/example/portcall/portcall/service/CallPace" := (Exa.keep f24 K27q)
  obtain ⟨T32, v32, L32, X32, q32, st32⟩ := callVi X29 hx hZ (y := (⟨"com/example/portcall/portcall/service/CallPace", "quick", "()Z"⟩ : MethodName)) (z := (⟨"com/example/portcall/portcall/service/CallPace", "quick", "()Z"⟩ : MethodName)) hown (hw _ (List.mem_of_getElem? (i := 14) rfl)) (hw _ (List.mem_of_getElem? (i := 15) rfl)) (notFace_of_selects (args := #[]) (mvT hZ (hw _ (List.mem_of_getElem? (i := 17) rfl)))) (hw _ (List.mem_of_getElem? (i := 17) rfl)) (hw _ (List.mem_of_getElem? (i := 16) rfl)) (hw _ (List.mem_of_getElem? (i := 18) rfl)) (hw _ (List.mem_of_getElem? (i := 2) rfl)) (by decide) (rm_quick hw S_FIRST_AVERAGE S_QUICK_NANOS b18 e1 T27.heap O28 f30) e29 (W := 0) (by decide) (by decide) (by decide) (by decide) f33 (g := (mkF m 82 #[.val (.long p0), .second, .val (.long p1), .second, .val (.long p2), .second, .val (.long ya), .second, .val (.long yb), .second, .val (.long yc), .second, .val (.ref b18), .val (.long e1), .second, .val (.int (1 : Int32))] [(.ref b18)])) rfl (by rw [hml]; rfl) (argsL := []) (rest := []) (lenOf pd___Z rfl) rfl rfl (by show 2 * 0 + _ ≤ _; exact Nat.le_of_eq rfl) (hb hby at_82)
  obtain ⟨rfl, e32, rfl⟩ := q32
  have N32 := Fr.app N29 (Fr.nil _)
  refine Go.of (T' := T32) (f' := (mkF m 85 #[.val (.long p0), .second, .val (.long p1), .second, .val (.long p2), .second, .val (.long ya), .second, .val (.long yb), .second, .val (.long yc), .second, .val (.ref b18), .val (.long e1), .second, .val (.int (1 : Int32))] [(.int (own_lt e1))])) (fun _ k => st32 _ k) ?_
  refine Go.of (T' := T32) (f' := (mkF m 87 #[.val (.long p0), .second, .val (.long p1), .second, .val (.long p2), .second, .val (.long ya), .second, .val (.long yb), .second, .val (.long yc), .second, .val (.ref b18), .val (.long e1), .second, .val (.int (1 : Int32))] [(.long e1), (.int (own_lt e1))])) (fun _ k => XS.lload X32.here hx rfl (hb hby at_85) rfl k) ?_
  refine Go.of (T' := T32) (f' := (mkF m 90 #[.val (.long p0), .second, .val (.long p1), .second, .val (.long p2), .second, .val (.long ya), .second, .val (.long yb), .second, .val (.long yc), .second, .val (.ref b18), .val (.long e1), .second, .val (.int (1 : Int32))] [(.long (200000 : Int64)), (.long e1), (.int (own_lt e1))])) (fun _ k => X32.ldc2Long hx hown (mvT hZ (hw _ (List.mem_of_getElem? (i := 21) rfl))) (g := (mkF m 87 #[.val (.long p0), .second, .val (.long p1), .second, .val (.long p2), .second, .val (.long ya), .second, .val (.long yb), .second, .val (.long yc), .second, .val (.ref b18), .val (.long e1), .second, .val (.int (1 : Int32))] [(.long e1), (.int (own_lt e1))])) rfl (hb hby at_87) _ k) ?_
  refine Go.of (T' := T32) (f' := (mkF m 91 #[.val (.long p0), .second, .val (.long p1), .second, .val (.long p2), .second, .val (.long ya), .second, .val (.long yb), .second, .val (.long yc), .second, .val (.ref b18), .val (.long e1), .second, .val (.int (1 : Int32))] [(.int (lcmpW e1 (200000 : Int64))), (.int (own_lt e1))])) (fun _ k => XS.lcmp X32.here hx rfl (hb hby at_90) rfl k) ?_
  have tail36 : ∀ (_ : True), Go p e s below room_1 (fun v h L => v = some (.int (1 : Int32)) ∧ (Fr Z.heap.size L) ∧ (Keep h0 h [])) T32 (mkF m 107 #[.val (.long p0), .second, .val (.long p1), .second, .val (.long p2), .second, .val (.long ya), .second, .val (.long yb), .second, .val (.long yc), .second, .val (.ref b18), .val (.long e1), .second, .val (.int (1 : Int32))] [(.int (1 : Int32))]) := by
    intro _
    refine Go.of (T' := T32) (f' := (mkF m 109 #[.val (.long p0), .second, .val (.long p1), .second, .val (.long p2), .second, .val (.long ya), .second, .val (.long yb), .second, .val (.long yc), .second, .val (.ref b18), .val (.long e1), .second, .val (.int (1 : Int32))] [])) (fun _ k => XS.istore X32.here hx rfl (hb hby at_107) rfl (l' := #[.val (.long p0), .second, .val (.long p1), .second, .val (.long p2), .second, .val (.long ya), .second, .val (.long yb), .second, .val (.long yc), .second, .val (.ref b18), .val (.long e1), .second, .val (.int (1 : Int32))]) rfl k) ?_
    refine Go.of (T' := T32) (f' := (mkF m 111 #[.val (.long p0), .second, .val (.long p1), .second, .val (.long p2), .second, .val (.long ya), .second, .val (.long yb), .second, .val (.long yc), .second, .val (.ref b18), .val (.long e1), .second, .val (.int (1 : Int32))] [(.ref b18)])) (fun _ k => XS.aload X32.here hx rfl (hb hby at_109) rfl rfl k) ?_
    refine Go.of (T' := T32) (f' := (mkF m 113 #[.val (.long p0), .second, .val (.long p1), .second, .val (.long p2), .second, .val (.long ya), .second, .val (.long yb), .second, .val (.long yc), .second, .val (.ref b18), .val (.long e1), .second, .val (.int (1 : Int32))] [(.long yb), (.ref b18)])) (fun _ k => XS.lload X32.here hx rfl (hb hby at_111) rfl k) ?_
    obtain ⟨T37, v37, L37, X37, q37, st37⟩ := callVi X32 hx hZ (y := (⟨"com/example/portcall/portcall/service/CallPace", "ran", "(J)V"⟩ : MethodName)) (z := (⟨"com/example/portcall/portcall/service/CallPace", "ran", "(J)V"⟩ : MethodName)) hown (hw _ (List.mem_of_getElem? (i := 22) rfl)) (hw _ (List.mem_of_getElem? (i := 23) rfl)) (notFace_of_selects (args := #[]) (mvT hZ (hw _ (List.mem_of_getElem? (i := 25) rfl)))) (hw _ (List.mem_of_getElem? (i := 25) rfl)) (hw _ (List.mem_of_getElem? (i := 24) rfl)) (hw _ (List.mem_of_getElem? (i := 26) rfl)) (hw _ (List.mem_of_getElem? (i := 2) rfl)) (by decide) (rm_ran hw S_FIRST_AVERAGE S_QUICK_NANOS b18 yb e1 T27.heap O28 f33 f30 g_b18) e32 (W := 0) (by decide) (by decide) (by decide) (by decide) f33 (g := (mkF m 113 #[.val (.long p0), .second, .val (.long p1), .second, .val (.long p2), .second, .val (.long ya), .second, .val (.long yb), .second, .val (.long yc), .second, .val (.ref b18), .val (.long e1), .second, .val (.int (1 : Int32))] [(.long yb), (.ref b18)])) rfl (by rw [hml]; rfl) (argsL := [(.long yb)]) (rest := []) (lenOf pd__J_V rfl) rfl rfl (by show 2 * 0 + _ ≤ _; exact Nat.le_of_eq rfl) (hb hby at_113)
    obtain ⟨rfl, N37q, K37q, p37_0⟩ := q37
    have N37 := Fr.app N32 N37q
    have O38 := Old0.keep O28 K37q (allS g_b18 all0)
    have K38 := Keep.trans K28 K37q (allS (Or.inr z_b18) all0)
    refine Go.of (T' := T37) (f' := (mkF m 116 #[.val (.long p0), .second, .val (.long p1), .second, .val (.long p2), .second, .val (.long ya), .second, .val (.long yb), .second, .val (.long yc), .second, .val (.ref b18), .val (.long e1), .second, .val (.int (1 : Int32))] [])) (fun _ k => st37 _ k) ?_
    refine Go.of (T' := T37) (f' := (mkF m 118 #[.val (.long p0), .second, .val (.long p1), .second, .val (.long p2), .second, .val (.long ya), .second, .val (.long yb), .second, .val (.long yc), .second, .val (.ref b18), .val (.long e1), .second, .val (.int (1 : Int32))] [(.long e1)])) (fun _ k => XS.lload X37.here hx rfl (hb hby at_116) rfl k) ?_
    refine Go.of (T' := T37) (f' := (mkF m 120 #[.val (.long p0), .second, .val (.long p1), .second, .val (.long p2), .second, .val (.long ya), .second, .val (.long yb), .second, .val (.long yc), .second, .val (.ref b18), .val (.long e1), .second, .val (.int (1 : Int32))] [(.long yb), (.long e1)])) (fun _ k => XS.lload X37.here hx rfl (hb hby at_118) rfl k) ?_
    obtain ⟨T39, v39, L39, X39, q39, st39⟩ := callSt X37 hx hZ (y := (⟨"com/example/portcall/portcall/service/CallPaceRanPinLaw", "next", "(JJ)J"⟩ : MethodName)) hown (hw _ (List.mem_of_getElem? (i := 28) rfl)) (hw _ (List.mem_of_getElem? (i := 29) rfl)) (hw _ (List.mem_of_getElem? (i := 30) rfl)) (hw _ (List.mem_of_getElem? (i := 31) rfl)) (by decide) (rm_next hw S_FIRST_AVERAGE S_QUICK_NANOS e1 yb  T37.heap O38 ) rfl (W := 0) (by decide) (by decide) (by decide) (by decide) (g := (mkF m 120 #[.val (.long p0), .second, .val (.long p1), .second, .val (.long p2), .second, .val (.long ya), .second, .val (.long yb), .second, .val (.long yc), .second, .val (.ref b18), .val (.long e1), .second, .val (.int (1 : Int32))] [(.long yb), (.long e1)])) rfl (by rw [hml]; rfl) (argsL := [(.long e1), (.long yb)]) (rest := []) (lenOf pd__JJ_J rfl) rfl rfl (by show 2 * 0 + _ ≤ _; exact Nat.le_of_eq rfl) (hb hby at_120)
    obtain ⟨rfl, e39, rfl⟩ := q39
    have N39 := Fr.app N37 (Fr.nil _)
    refine Go.of (T' := T39) (f' := (mkF m 123 #[.val (.long p0), .second, .val (.long p1), .second, .val (.long p2), .second, .val (.long ya), .second, .val (.long yb), .second, .val (.long yc), .second, .val (.ref b18), .val (.long e1), .second, .val (.int (1 : Int32))] [(.long (own_next e1 yb))])) (fun _ k => st39 _ k) ?_
    generalize he2 : ((own_next e1 yb) : Int64) = e2
    have hs2 := own_step e1 yb hb1 hy2
    rw [he2] at hs2
    obtain ⟨hs2, hb2⟩ := hs2
    have f40 : Fld Z T37.heap b18 "com/example/portcall/portcall/service/CallPace" "average" "J" (.long e2) := hs2 ▸ p37_0
    refine Go.of (T' := T39) (f' := (mkF m 125 #[.val (.long p0), .second, .val (.long p1), .second, .val (.long p2), .second, .val (.long ya), .second, .val (.long yb), .second, .val (.long yc), .second, .val (.ref b18), .val (.long e2), .second, .val (.int (1 : Int32))] [])) (fun _ k => XS.lstore X39.here hx rfl (hb hby at_123) rfl (l' := #[.val (.long p0), .second, .val (.long p1), .second, .val (.long p2), .second, .val (.long ya), .second, .val (.long yb), .second, .val (.long yc), .second, .val (.ref b18), .val (.long e2), .second, .val (.int (1 : Int32))]) rfl k) ?_
    refine Go.of (T' := T39) (f' := (mkF m 127 #[.val (.long p0), .second, .val (.long p1), .second, .val (.long p2), .second, .val (.long ya), .second, .val (.long yb), .second, .val (.long yc), .second, .val (.ref b18), .val (.long e2), .second, .val (.int (1 : Int32))] [(.int (1 : Int32))])) (fun _ k => XS.iload X39.here hx rfl (hb hby at_125) rfl k) ?_
    refine Go.of (T' := T39) (f' := (mkF m 130 #[.val (.long p0), .second, .val (.long p1), .second, .val (.long p2), .second, .val (.long ya), .second, .val (.long yb), .second, .val (.long yc), .second, .val (.ref b18), .val (.long e2), .second, .val (.int (1 : Int32))] [])) (fun _ k => XS.ifNo X39.here hx rfl (hb hby at_127) rfl ((if0 _ _).trans (feq (by decide : ¬ ((1 : Int32) = (0 : Int32)))).1) k) ?_
    refine Go.of (T' := T39) (f' := (mkF m 132 #[.val (.long p0), .second, .val (.long p1), .second, .val (.long p2), .second, .val (.long ya), .second, .val (.long yb), .second, .val (.long yc), .second, .val (.ref b18), .val (.long e2), .second, .val (.int (1 : Int32))] [(.ref b18)])) (fun _ k => XS.aload X39.here hx rfl (hb hby at_130) rfl rfl k) ?_
    have f43 : Exa Z T37.heap b18 "com/example/portcall/portcall/service/CallPace" := (Exa.keep f33 K37q)
    obtain ⟨T42, v42, L42, X42, q42, st42⟩ := callVi X39 hx hZ (y := (⟨"com/example/portcall/portcall/service/CallPace", "quick", "()Z"⟩ : MethodName)) (z := (⟨"com/example/portcall/portcall/service/CallPace", "quick", "()Z"⟩ : MethodName)) hown (hw _ (List.mem_of_getElem? (i := 14) rfl)) (hw _ (List.mem_of_getElem? (i := 15) rfl)) (notFace_of_selects (args := #[]) (mvT hZ (hw _ (List.mem_of_getElem? (i := 17) rfl)))) (hw _ (List.mem_of_getElem? (i := 17) rfl)) (hw _ (List.mem_of_getElem? (i := 16) rfl)) (hw _ (List.mem_of_getElem? (i := 18) rfl)) (hw _ (List.mem_of_getElem? (i := 2) rfl)) (by decide) (rm_quick hw S_FIRST_AVERAGE S_QUICK_NANOS b18 e2 T37.heap O38 f40) e39 (W := 0) (by decide) (by decide) (by decide) (by decide) f43 (g := (mkF m 132 #[.val (.long p0), .second, .val (.long p1), .second, .val (.long p2), .second, .val (.long ya), .second, .val (.long yb), .second, .val (.long yc), .second, .val (.ref b18), .val (.long e2), .second, .val (.int (1 : Int32))] [(.ref b18)])) rfl (by rw [hml]; rfl) (argsL := []) (rest := []) (lenOf pd___Z rfl) rfl rfl (by show 2 * 0 + _ ≤ _; exact Nat.le_of_eq rfl) (hb hby at_132)
    obtain ⟨rfl, e42, rfl⟩ := q42
    have N42 := Fr.app N39 (Fr.nil _)
    refine Go.of (T' := T42) (f' := (mkF m 135 #[.val (.long p0), .second, .val (.long p1), .second, .val (.long p2), .second, .val (.long ya), .second, .val (.long yb), .second, .val (.long yc), .second, .val (.ref b18), .val (.long e2), .second, .val (.int (1 : Int32))] [(.int (own_lt e2))])) (fun _ k => st42 _ k) ?_
    refine Go.of (T' := T42) (f' := (mkF m 137 #[.val (.long p0), .second, .val (.long p1), .second, .val (.long p2), .second, .val (.long ya), .second, .val (.long yb), .second, .val (.long yc), .second, .val (.ref b18), .val (.long e2), .second, .val (.int (1 : Int32))] [(.long e2), (.int (own_lt e2))])) (fun _ k => XS.lload X42.here hx rfl (hb hby at_135) rfl k) ?_
    refine Go.of (T' := T42) (f' := (mkF m 140 #[.val (.long p0), .second, .val (.long p1), .second, .val (.long p2), .second, .val (.long ya), .second, .val (.long yb), .second, .val (.long yc), .second, .val (.ref b18), .val (.long e2), .second, .val (.int (1 : Int32))] [(.long (200000 : Int64)), (.long e2), (.int (own_lt e2))])) (fun _ k => X42.ldc2Long hx hown (mvT hZ (hw _ (List.mem_of_getElem? (i := 21) rfl))) (g := (mkF m 137 #[.val (.long p0), .second, .val (.long p1), .second, .val (.long p2), .second, .val (.long ya), .second, .val (.long yb), .second, .val (.long yc), .second, .val (.ref b18), .val (.long e2), .second, .val (.int (1 : Int32))] [(.long e2), (.int (own_lt e2))])) rfl (hb hby at_137) _ k) ?_
    refine Go.of (T' := T42) (f' := (mkF m 141 #[.val (.long p0), .second, .val (.long p1), .second, .val (.long p2), .second, .val (.long ya), .second, .val (.long yb), .second, .val (.long yc), .second, .val (.ref b18), .val (.long e2), .second, .val (.int (1 : Int32))] [(.int (lcmpW e2 (200000 : Int64))), (.int (own_lt e2))])) (fun _ k => XS.lcmp X42.here hx rfl (hb hby at_140) rfl k) ?_
    have tail46 : ∀ (_ : True), Go p e s below room_1 (fun v h L => v = some (.int (1 : Int32)) ∧ (Fr Z.heap.size L) ∧ (Keep h0 h [])) T42 (mkF m 157 #[.val (.long p0), .second, .val (.long p1), .second, .val (.long p2), .second, .val (.long ya), .second, .val (.long yb), .second, .val (.long yc), .second, .val (.ref b18), .val (.long e2), .second, .val (.int (1 : Int32))] [(.int (1 : Int32))]) := by
      intro _
      refine Go.of (T' := T42) (f' := (mkF m 159 #[.val (.long p0), .second, .val (.long p1), .second, .val (.long p2), .second, .val (.long ya), .second, .val (.long yb), .second, .val (.long yc), .second, .val (.ref b18), .val (.long e2), .second, .val (.int (1 : Int32))] [])) (fun _ k => XS.istore X42.here hx rfl (hb hby at_157) rfl (l' := #[.val (.long p0), .second, .val (.long p1), .second, .val (.long p2), .second, .val (.long ya), .second, .val (.long yb), .second, .val (.long yc), .second, .val (.ref b18), .val (.long e2), .second, .val (.int (1 : Int32))]) rfl k) ?_
      refine Go.of (T' := T42) (f' := (mkF m 161 #[.val (.long p0), .second, .val (.long p1), .second, .val (.long p2), .second, .val (.long ya), .second, .val (.long yb), .second, .val (.long yc), .second, .val (.ref b18), .val (.long e2), .second, .val (.int (1 : Int32))] [(.ref b18)])) (fun _ k => XS.aload X42.here hx rfl (hb hby at_159) rfl rfl k) ?_
      refine Go.of (T' := T42) (f' := (mkF m 163 #[.val (.long p0), .second, .val (.long p1), .second, .val (.long p2), .second, .val (.long ya), .second, .val (.long yb), .second, .val (.long yc), .second, .val (.ref b18), .val (.long e2), .second, .val (.int (1 : Int32))] [(.long yc), (.ref b18)])) (fun _ k => XS.lload X42.here hx rfl (hb hby at_161) rfl k) ?_
      obtain ⟨T47, v47, L47, X47, q47, st47⟩ := callVi X42 hx hZ (y := (⟨"com/example/portcall/portcall/service/CallPace", "ran", "(J)V"⟩ : MethodName)) (z := (⟨"com/example/portcall/portcall/service/CallPace", "ran", "(J)V"⟩ : MethodName)) hown (hw _ (List.mem_of_getElem? (i := 22) rfl)) (hw _ (List.mem_of_getElem? (i := 23) rfl)) (notFace_of_selects (args := #[]) (mvT hZ (hw _ (List.mem_of_getElem? (i := 25) rfl)))) (hw _ (List.mem_of_getElem? (i := 25) rfl)) (hw _ (List.mem_of_getElem? (i := 24) rfl)) (hw _ (List.mem_of_getElem? (i := 26) rfl)) (hw _ (List.mem_of_getElem? (i := 2) rfl)) (by decide) (rm_ran hw S_FIRST_AVERAGE S_QUICK_NANOS b18 yc e2 T37.heap O38 f43 f40 g_b18) e42 (W := 0) (by decide) (by decide) (by decide) (by decide) f43 (g := (mkF m 163 #[.val (.long p0), .second, .val (.long p1), .second, .val (.long p2), .second, .val (.long ya), .second, .val (.long yb), .second, .val (.long yc), .second, .val (.ref b18), .val (.long e2), .second, .val (.int (1 : Int32))] [(.long yc), (.ref b18)])) rfl (by rw [hml]; rfl) (argsL := [(.long yc)]) (rest := []) (lenOf pd__J_V rfl) rfl rfl (by show 2 * 0 + _ ≤ _; exact Nat.le_of_eq rfl) (hb hby at_163)
      obtain ⟨rfl, N47q, K47q, p47_0⟩ := q47
      have N47 := Fr.app N42 N47q
      have O48 := Old0.keep O38 K47q (allS g_b18 all0)
      have K48 := Keep.trans K38 K47q (allS (Or.inr z_b18) all0)
      refine Go.of (T' := T47) (f' := (mkF m 166 #[.val (.long p0), .second, .val (.long p1), .second, .val (.long p2), .second, .val (.long ya), .second, .val (.long yb), .second, .val (.long yc), .second, .val (.ref b18), .val (.long e2), .second, .val (.int (1 : Int32))] [])) (fun _ k => st47 _ k) ?_
      refine Go.of (T' := T47) (f' := (mkF m 168 #[.val (.long p0), .second, .val (.long p1), .second, .val (.long p2), .second, .val (.long ya), .second, .val (.long yb), .second, .val (.long yc), .second, .val (.ref b18), .val (.long e2), .second, .val (.int (1 : Int32))] [(.long e2)])) (fun _ k => XS.lload X47.here hx rfl (hb hby at_166) rfl k) ?_
      refine Go.of (T' := T47) (f' := (mkF m 170 #[.val (.long p0), .second, .val (.long p1), .second, .val (.long p2), .second, .val (.long ya), .second, .val (.long yb), .second, .val (.long yc), .second, .val (.ref b18), .val (.long e2), .second, .val (.int (1 : Int32))] [(.long yc), (.long e2)])) (fun _ k => XS.lload X47.here hx rfl (hb hby at_168) rfl k) ?_
      obtain ⟨T49, v49, L49, X49, q49, st49⟩ := callSt X47 hx hZ (y := (⟨"com/example/portcall/portcall/service/CallPaceRanPinLaw", "next", "(JJ)J"⟩ : MethodName)) hown (hw _ (List.mem_of_getElem? (i := 28) rfl)) (hw _ (List.mem_of_getElem? (i := 29) rfl)) (hw _ (List.mem_of_getElem? (i := 30) rfl)) (hw _ (List.mem_of_getElem? (i := 31) rfl)) (by decide) (rm_next hw S_FIRST_AVERAGE S_QUICK_NANOS e2 yc  T47.heap O48 ) rfl (W := 0) (by decide) (by decide) (by decide) (by decide) (g := (mkF m 170 #[.val (.long p0), .second, .val (.long p1), .second, .val (.long p2), .second, .val (.long ya), .second, .val (.long yb), .second, .val (.long yc), .second, .val (.ref b18), .val (.long e2), .second, .val (.int (1 : Int32))] [(.long yc), (.long e2)])) rfl (by rw [hml]; rfl) (argsL := [(.long e2), (.long yc)]) (rest := []) (lenOf pd__JJ_J rfl) rfl rfl (by show 2 * 0 + _ ≤ _; exact Nat.le_of_eq rfl) (hb hby at_170)
      obtain ⟨rfl, e49, rfl⟩ := q49
      have N49 := Fr.app N47 (Fr.nil _)
      refine Go.of (T' := T49) (f' := (mkF m 173 #[.val (.long p0), .second, .val (.long p1), .second, .val (.long p2), .second, .val (.long ya), .second, .val (.long yb), .second, .val (.long yc), .second, .val (.ref b18), .val (.long e2), .second, .val (.int (1 : Int32))] [(.long (own_next e2 yc))])) (fun _ k => st49 _ k) ?_
      generalize he3 : ((own_next e2 yc) : Int64) = e3
      have hs3 := own_step e2 yc hb2 hy3
      rw [he3] at hs3
      obtain ⟨hs3, hb3⟩ := hs3
      have f50 : Fld Z T47.heap b18 "com/example/portcall/portcall/service/CallPace" "average" "J" (.long e3) := hs3 ▸ p47_0
      refine Go.of (T' := T49) (f' := (mkF m 175 #[.val (.long p0), .second, .val (.long p1), .second, .val (.long p2), .second, .val (.long ya), .second, .val (.long yb), .second, .val (.long yc), .second, .val (.ref b18), .val (.long e3), .second, .val (.int (1 : Int32))] [])) (fun _ k => XS.lstore X49.here hx rfl (hb hby at_173) rfl (l' := #[.val (.long p0), .second, .val (.long p1), .second, .val (.long p2), .second, .val (.long ya), .second, .val (.long yb), .second, .val (.long yc), .second, .val (.ref b18), .val (.long e3), .second, .val (.int (1 : Int32))]) rfl k) ?_
      refine Go.of (T' := T49) (f' := (mkF m 177 #[.val (.long p0), .second, .val (.long p1), .second, .val (.long p2), .second, .val (.long ya), .second, .val (.long yb), .second, .val (.long yc), .second, .val (.ref b18), .val (.long e3), .second, .val (.int (1 : Int32))] [(.int (1 : Int32))])) (fun _ k => XS.iload X49.here hx rfl (hb hby at_175) rfl k) ?_
      refine Go.of (T' := T49) (f' := (mkF m 180 #[.val (.long p0), .second, .val (.long p1), .second, .val (.long p2), .second, .val (.long ya), .second, .val (.long yb), .second, .val (.long yc), .second, .val (.ref b18), .val (.long e3), .second, .val (.int (1 : Int32))] [])) (fun _ k => XS.ifNo X49.here hx rfl (hb hby at_177) rfl ((if0 _ _).trans (feq (by decide : ¬ ((1 : Int32) = (0 : Int32)))).1) k) ?_
      refine Go.of (T' := T49) (f' := (mkF m 182 #[.val (.long p0), .second, .val (.long p1), .second, .val (.long p2), .second, .val (.long ya), .second, .val (.long yb), .second, .val (.long yc), .second, .val (.ref b18), .val (.long e3), .second, .val (.int (1 : Int32))] [(.ref b18)])) (fun _ k => XS.aload X49.here hx rfl (hb hby at_180) rfl rfl k) ?_
      have f53 : Exa Z T47.heap b18 "com/example/portcall/portcall/service/CallPace" := (Exa.keep f43 K47q)
      obtain ⟨T52, v52, L52, X52, q52, st52⟩ := callVi X49 hx hZ (y := (⟨"com/example/portcall/portcall/service/CallPace", "quick", "()Z"⟩ : MethodName)) (z := (⟨"com/example/portcall/portcall/service/CallPace", "quick", "()Z"⟩ : MethodName)) hown (hw _ (List.mem_of_getElem? (i := 14) rfl)) (hw _ (List.mem_of_getElem? (i := 15) rfl)) (notFace_of_selects (args := #[]) (mvT hZ (hw _ (List.mem_of_getElem? (i := 17) rfl)))) (hw _ (List.mem_of_getElem? (i := 17) rfl)) (hw _ (List.mem_of_getElem? (i := 16) rfl)) (hw _ (List.mem_of_getElem? (i := 18) rfl)) (hw _ (List.mem_of_getElem? (i := 2) rfl)) (by decide) (rm_quick hw S_FIRST_AVERAGE S_QUICK_NANOS b18 e3 T47.heap O48 f50) e49 (W := 0) (by decide) (by decide) (by decide) (by decide) f53 (g := (mkF m 182 #[.val (.long p0), .second, .val (.long p1), .second, .val (.long p2), .second, .val (.long ya), .second, .val (.long yb), .second, .val (.long yc), .second, .val (.ref b18), .val (.long e3), .second, .val (.int (1 : Int32))] [(.ref b18)])) rfl (by rw [hml]; rfl) (argsL := []) (rest := []) (lenOf pd___Z rfl) rfl rfl (by show 2 * 0 + _ ≤ _; exact Nat.le_of_eq rfl) (hb hby at_182)
      obtain ⟨rfl, e52, rfl⟩ := q52
      have N52 := Fr.app N49 (Fr.nil _)
      refine Go.of (T' := T52) (f' := (mkF m 185 #[.val (.long p0), .second, .val (.long p1), .second, .val (.long p2), .second, .val (.long ya), .second, .val (.long yb), .second, .val (.long yc), .second, .val (.ref b18), .val (.long e3), .second, .val (.int (1 : Int32))] [(.int (own_lt e3))])) (fun _ k => st52 _ k) ?_
      refine Go.of (T' := T52) (f' := (mkF m 187 #[.val (.long p0), .second, .val (.long p1), .second, .val (.long p2), .second, .val (.long ya), .second, .val (.long yb), .second, .val (.long yc), .second, .val (.ref b18), .val (.long e3), .second, .val (.int (1 : Int32))] [(.long e3), (.int (own_lt e3))])) (fun _ k => XS.lload X52.here hx rfl (hb hby at_185) rfl k) ?_
      refine Go.of (T' := T52) (f' := (mkF m 190 #[.val (.long p0), .second, .val (.long p1), .second, .val (.long p2), .second, .val (.long ya), .second, .val (.long yb), .second, .val (.long yc), .second, .val (.ref b18), .val (.long e3), .second, .val (.int (1 : Int32))] [(.long (200000 : Int64)), (.long e3), (.int (own_lt e3))])) (fun _ k => X52.ldc2Long hx hown (mvT hZ (hw _ (List.mem_of_getElem? (i := 21) rfl))) (g := (mkF m 187 #[.val (.long p0), .second, .val (.long p1), .second, .val (.long p2), .second, .val (.long ya), .second, .val (.long yb), .second, .val (.long yc), .second, .val (.ref b18), .val (.long e3), .second, .val (.int (1 : Int32))] [(.long e3), (.int (own_lt e3))])) rfl (hb hby at_187) _ k) ?_
      refine Go.of (T' := T52) (f' := (mkF m 191 #[.val (.long p0), .second, .val (.long p1), .second, .val (.long p2), .second, .val (.long ya), .second, .val (.long yb), .second, .val (.long yc), .second, .val (.ref b18), .val (.long e3), .second, .val (.int (1 : Int32))] [(.int (lcmpW e3 (200000 : Int64))), (.int (own_lt e3))])) (fun _ k => XS.lcmp X52.here hx rfl (hb hby at_190) rfl k) ?_
      have tail56 : ∀ (_ : True), Go p e s below room_1 (fun v h L => v = some (.int (1 : Int32)) ∧ (Fr Z.heap.size L) ∧ (Keep h0 h [])) T52 (mkF m 207 #[.val (.long p0), .second, .val (.long p1), .second, .val (.long p2), .second, .val (.long ya), .second, .val (.long yb), .second, .val (.long yc), .second, .val (.ref b18), .val (.long e3), .second, .val (.int (1 : Int32))] [(.int (1 : Int32))]) := by
        intro _
        refine Go.of (T' := T52) (f' := (mkF m 209 #[.val (.long p0), .second, .val (.long p1), .second, .val (.long p2), .second, .val (.long ya), .second, .val (.long yb), .second, .val (.long yc), .second, .val (.ref b18), .val (.long e3), .second, .val (.int (1 : Int32))] [])) (fun _ k => XS.istore X52.here hx rfl (hb hby at_207) rfl (l' := #[.val (.long p0), .second, .val (.long p1), .second, .val (.long p2), .second, .val (.long ya), .second, .val (.long yb), .second, .val (.long yc), .second, .val (.ref b18), .val (.long e3), .second, .val (.int (1 : Int32))]) rfl k) ?_
        refine Go.of (T' := T52) (f' := (mkF m 211 #[.val (.long p0), .second, .val (.long p1), .second, .val (.long p2), .second, .val (.long ya), .second, .val (.long yb), .second, .val (.long yc), .second, .val (.ref b18), .val (.long e3), .second, .val (.int (1 : Int32))] [(.int (1 : Int32))])) (fun _ k => XS.iload X52.here hx rfl (hb hby at_209) rfl k) ?_
        exact Go.retB X52 hx hlk hret (by simp) (hb hby at_211) (by decide) (by decide) (z' := (1 : Int32)) rfl (by rw [e52]; exact ⟨rfl, N52, K48⟩)
      by_cases hc54 : (lcmpW e3 (200000 : Int64)) < (0 : Int32)
      · skip
        refine Go.of (T' := T52) (f' := (mkF m 194 #[.val (.long p0), .second, .val (.long p1), .second, .val (.long p2), .second, .val (.long ya), .second, .val (.long yb), .second, .val (.long yc), .second, .val (.ref b18), .val (.long e3), .second, .val (.int (1 : Int32))] [(.int (own_lt e3))])) (fun _ k => XS.ifNo X52.here hx rfl (hb hby at_191) rfl ((if0 _ _).trans (tlt hc54).2.1) k) ?_
        refine Go.of (T' := T52) (f' := (mkF m 195 #[.val (.long p0), .second, .val (.long p1), .second, .val (.long p2), .second, .val (.long ya), .second, .val (.long yb), .second, .val (.long yc), .second, .val (.ref b18), .val (.long e3), .second, .val (.int (1 : Int32))] [(.int (1 : Int32)), (.int (own_lt e3))])) (fun _ k => XS.iconst X52.here hx rfl (hb hby at_194) k) ?_
        refine Go.of (T' := T52) (f' := (mkF m 199 #[.val (.long p0), .second, .val (.long p1), .second, .val (.long p2), .second, .val (.long ya), .second, .val (.long yb), .second, .val (.long yc), .second, .val (.ref b18), .val (.long e3), .second, .val (.int (1 : Int32))] [(.int (1 : Int32)), (.int (own_lt e3))])) (fun _ k => XS.goto X52.here hx rfl (pc0 := 195) (pc' := 199) rfl (hb hby at_195) (by decide) (by decide) k) ?_
        have hc57 : (own_lt e3) = (1 : Int32) := by rw [own_lt, if_pos hc54]
        refine Go.of (T' := T52) (f' := (mkF m 202 #[.val (.long p0), .second, .val (.long p1), .second, .val (.long p2), .second, .val (.long ya), .second, .val (.long yb), .second, .val (.long yc), .second, .val (.ref b18), .val (.long e3), .second, .val (.int (1 : Int32))] [])) (fun _ k => XS.icmpNo X52.here hx rfl (hb hby at_199) rfl (teq hc57).2 k) ?_
        refine Go.of (T' := T52) (f' := (mkF m 203 #[.val (.long p0), .second, .val (.long p1), .second, .val (.long p2), .second, .val (.long ya), .second, .val (.long yb), .second, .val (.long yc), .second, .val (.ref b18), .val (.long e3), .second, .val (.int (1 : Int32))] [(.int (1 : Int32))])) (fun _ k => XS.iconst X52.here hx rfl (hb hby at_202) k) ?_
        refine Go.of (T' := T52) (f' := (mkF m 207 #[.val (.long p0), .second, .val (.long p1), .second, .val (.long p2), .second, .val (.long ya), .second, .val (.long yb), .second, .val (.long yc), .second, .val (.ref b18), .val (.long e3), .second, .val (.int (1 : Int32))] [(.int (1 : Int32))])) (fun _ k => XS.goto X52.here hx rfl (pc0 := 203) (pc' := 207) rfl (hb hby at_203) (by decide) (by decide) k) ?_
        exact tail56 trivial 
      · skip
        refine Go.of (T' := T52) (f' := (mkF m 198 #[.val (.long p0), .second, .val (.long p1), .second, .val (.long p2), .second, .val (.long ya), .second, .val (.long yb), .second, .val (.long yc), .second, .val (.ref b18), .val (.long e3), .second, .val (.int (1 : Int32))] [(.int (own_lt e3))])) (fun _ k => XS.ifYes X52.here hx rfl (pc0 := 191) (pc' := 198) rfl (hb hby at_191) rfl ((if0 _ _).trans (flt hc54).2.1) (by decide) (by decide) k) ?_
        refine Go.of (T' := T52) (f' := (mkF m 199 #[.val (.long p0), .second, .val (.long p1), .second, .val (.long p2), .second, .val (.long ya), .second, .val (.long yb), .second, .val (.long yc), .second, .val (.ref b18), .val (.long e3), .second, .val (.int (1 : Int32))] [(.int (0 : Int32)), (.int (own_lt e3))])) (fun _ k => XS.iconst X52.here hx rfl (hb hby at_198) k) ?_
        have hc58 : (own_lt e3) = (0 : Int32) := by rw [own_lt, if_neg hc54]
        refine Go.of (T' := T52) (f' := (mkF m 202 #[.val (.long p0), .second, .val (.long p1), .second, .val (.long p2), .second, .val (.long ya), .second, .val (.long yb), .second, .val (.long yc), .second, .val (.ref b18), .val (.long e3), .second, .val (.int (1 : Int32))] [])) (fun _ k => XS.icmpNo X52.here hx rfl (hb hby at_199) rfl (teq hc58).2 k) ?_
        refine Go.of (T' := T52) (f' := (mkF m 203 #[.val (.long p0), .second, .val (.long p1), .second, .val (.long p2), .second, .val (.long ya), .second, .val (.long yb), .second, .val (.long yc), .second, .val (.ref b18), .val (.long e3), .second, .val (.int (1 : Int32))] [(.int (1 : Int32))])) (fun _ k => XS.iconst X52.here hx rfl (hb hby at_202) k) ?_
        refine Go.of (T' := T52) (f' := (mkF m 207 #[.val (.long p0), .second, .val (.long p1), .second, .val (.long p2), .second, .val (.long ya), .second, .val (.long yb), .second, .val (.long yc), .second, .val (.ref b18), .val (.long e3), .second, .val (.int (1 : Int32))] [(.int (1 : Int32))])) (fun _ k => XS.goto X52.here hx rfl (pc0 := 203) (pc' := 207) rfl (hb hby at_203) (by decide) (by decide) k) ?_
        exact tail56 trivial 
    by_cases hc44 : (lcmpW e2 (200000 : Int64)) < (0 : Int32)
    · skip
      refine Go.of (T' := T42) (f' := (mkF m 144 #[.val (.long p0), .second, .val (.long p1), .second, .val (.long p2), .second, .val (.long ya), .second, .val (.long yb), .second, .val (.long yc), .second, .val (.ref b18), .val (.long e2), .second, .val (.int (1 : Int32))] [(.int (own_lt e2))])) (fun _ k => XS.ifNo X42.here hx rfl (hb hby at_141) rfl ((if0 _ _).trans (tlt hc44).2.1) k) ?_
      refine Go.of (T' := T42) (f' := (mkF m 145 #[.val (.long p0), .second, .val (.long p1), .second, .val (.long p2), .second, .val (.long ya), .second, .val (.long yb), .second, .val (.long yc), .second, .val (.ref b18), .val (.long e2), .second, .val (.int (1 : Int32))] [(.int (1 : Int32)), (.int (own_lt e2))])) (fun _ k => XS.iconst X42.here hx rfl (hb hby at_144) k) ?_
      refine Go.of (T' := T42) (f' := (mkF m 149 #[.val (.long p0), .second, .val (.long p1), .second, .val (.long p2), .second, .val (.long ya), .second, .val (.long yb), .second, .val (.long yc), .second, .val (.ref b18), .val (.long e2), .second, .val (.int (1 : Int32))] [(.int (1 : Int32)), (.int (own_lt e2))])) (fun _ k => XS.goto X42.here hx rfl (pc0 := 145) (pc' := 149) rfl (hb hby at_145) (by decide) (by decide) k) ?_
      have hc59 : (own_lt e2) = (1 : Int32) := by rw [own_lt, if_pos hc44]
      refine Go.of (T' := T42) (f' := (mkF m 152 #[.val (.long p0), .second, .val (.long p1), .second, .val (.long p2), .second, .val (.long ya), .second, .val (.long yb), .second, .val (.long yc), .second, .val (.ref b18), .val (.long e2), .second, .val (.int (1 : Int32))] [])) (fun _ k => XS.icmpNo X42.here hx rfl (hb hby at_149) rfl (teq hc59).2 k) ?_
      refine Go.of (T' := T42) (f' := (mkF m 153 #[.val (.long p0), .second, .val (.long p1), .second, .val (.long p2), .second, .val (.long ya), .second, .val (.long yb), .second, .val (.long yc), .second, .val (.ref b18), .val (.long e2), .second, .val (.int (1 : Int32))] [(.int (1 : Int32))])) (fun _ k => XS.iconst X42.here hx rfl (hb hby at_152) k) ?_
      refine Go.of (T' := T42) (f' := (mkF m 157 #[.val (.long p0), .second, .val (.long p1), .second, .val (.long p2), .second, .val (.long ya), .second, .val (.long yb), .second, .val (.long yc), .second, .val (.ref b18), .val (.long e2), .second, .val (.int (1 : Int32))] [(.int (1 : Int32))])) (fun _ k => XS.goto X42.here hx rfl (pc0 := 153) (pc' := 157) rfl (hb hby at_153) (by decide) (by decide) k) ?_
      exact tail46 trivial 
    · skip
      refine Go.of (T' := T42) (f' := (mkF m 148 #[.val (.long p0), .second, .val (.long p1), .second, .val (.long p2), .second, .val (.long ya), .second, .val (.long yb), .second, .val (.long yc), .second, .val (.ref b18), .val (.long e2), .second, .val (.int (1 : Int32))] [(.int (own_lt e2))])) (fun _ k => XS.ifYes X42.here hx rfl (pc0 := 141) (pc' := 148) rfl (hb hby at_141) rfl ((if0 _ _).trans (flt hc44).2.1) (by decide) (by decide) k) ?_
      refine Go.of (T' := T42) (f' := (mkF m 149 #[.val (.long p0), .second, .val (.long p1), .second, .val (.long p2), .second, .val (.long ya), .second, .val (.long yb), .second, .val (.long yc), .second, .val (.ref b18), .val (.long e2), .second, .val (.int (1 : Int32))] [(.int (0 : Int32)), (.int (own_lt e2))])) (fun _ k => XS.iconst X42.here hx rfl (hb hby at_148) k) ?_
      have hc60 : (own_lt e2) = (0 : Int32) := by rw [own_lt, if_neg hc44]
      refine Go.of (T' := T42) (f' := (mkF m 152 #[.val (.long p0), .second, .val (.long p1), .second, .val (.long p2), .second, .val (.long ya), .second, .val (.long yb), .second, .val (.long yc), .second, .val (.ref b18), .val (.long e2), .second, .val (.int (1 : Int32))] [])) (fun _ k => XS.icmpNo X42.here hx rfl (hb hby at_149) rfl (teq hc60).2 k) ?_
      refine Go.of (T' := T42) (f' := (mkF m 153 #[.val (.long p0), .second, .val (.long p1), .second, .val (.long p2), .second, .val (.long ya), .second, .val (.long yb), .second, .val (.long yc), .second, .val (.ref b18), .val (.long e2), .second, .val (.int (1 : Int32))] [(.int (1 : Int32))])) (fun _ k => XS.iconst X42.here hx rfl (hb hby at_152) k) ?_
      refine Go.of (T' := T42) (f' := (mkF m 157 #[.val (.long p0), .second, .val (.long p1), .second, .val (.long p2), .second, .val (.long ya), .second, .val (.long yb), .second, .val (.long yc), .second, .val (.ref b18), .val (.long e2), .second, .val (.int (1 : Int32))] [(.int (1 : Int32))])) (fun _ k => XS.goto X42.here hx rfl (pc0 := 153) (pc' := 157) rfl (hb hby at_153) (by decide) (by decide) k) ?_
      exact tail46 trivial 
  by_cases hc34 : (lcmpW e1 (200000 : Int64)) < (0 : Int32)
  · skip
    refine Go.of (T' := T32) (f' := (mkF m 94 #[.val (.long p0), .second, .val (.long p1), .second, .val (.long p2), .second, .val (.long ya), .second, .val (.long yb), .second, .val (.long yc), .second, .val (.ref b18), .val (.long e1), .second, .val (.int (1 : Int32))] [(.int (own_lt e1))])) (fun _ k => XS.ifNo X32.here hx rfl (hb hby at_91) rfl ((if0 _ _).trans (tlt hc34).2.1) k) ?_
    refine Go.of (T' := T32) (f' := (mkF m 95 #[.val (.long p0), .second, .val (.long p1), .second, .val (.long p2), .second, .val (.long ya), .second, .val (.long yb), .second, .val (.long yc), .second, .val (.ref b18), .val (.long e1), .second, .val (.int (1 : Int32))] [(.int (1 : Int32)), (.int (own_lt e1))])) (fun _ k => XS.iconst X32.here hx rfl (hb hby at_94) k) ?_
    refine Go.of (T' := T32) (f' := (mkF m 99 #[.val (.long p0), .second, .val (.long p1), .second, .val (.long p2), .second, .val (.long ya), .second, .val (.long yb), .second, .val (.long yc), .second, .val (.ref b18), .val (.long e1), .second, .val (.int (1 : Int32))] [(.int (1 : Int32)), (.int (own_lt e1))])) (fun _ k => XS.goto X32.here hx rfl (pc0 := 95) (pc' := 99) rfl (hb hby at_95) (by decide) (by decide) k) ?_
    have hc61 : (own_lt e1) = (1 : Int32) := by rw [own_lt, if_pos hc34]
    refine Go.of (T' := T32) (f' := (mkF m 102 #[.val (.long p0), .second, .val (.long p1), .second, .val (.long p2), .second, .val (.long ya), .second, .val (.long yb), .second, .val (.long yc), .second, .val (.ref b18), .val (.long e1), .second, .val (.int (1 : Int32))] [])) (fun _ k => XS.icmpNo X32.here hx rfl (hb hby at_99) rfl (teq hc61).2 k) ?_
    refine Go.of (T' := T32) (f' := (mkF m 103 #[.val (.long p0), .second, .val (.long p1), .second, .val (.long p2), .second, .val (.long ya), .second, .val (.long yb), .second, .val (.long yc), .second, .val (.ref b18), .val (.long e1), .second, .val (.int (1 : Int32))] [(.int (1 : Int32))])) (fun _ k => XS.iconst X32.here hx rfl (hb hby at_102) k) ?_
    refine Go.of (T' := T32) (f' := (mkF m 107 #[.val (.long p0), .second, .val (.long p1), .second, .val (.long p2), .second, .val (.long ya), .second, .val (.long yb), .second, .val (.long yc), .second, .val (.ref b18), .val (.long e1), .second, .val (.int (1 : Int32))] [(.int (1 : Int32))])) (fun _ k => XS.goto X32.here hx rfl (pc0 := 103) (pc' := 107) rfl (hb hby at_103) (by decide) (by decide) k) ?_
    exact tail36 trivial 
  · skip
    refine Go.of (T' := T32) (f' := (mkF m 98 #[.val (.long p0), .second, .val (.long p1), .second, .val (.long p2), .second, .val (.long ya), .second, .val (.long yb), .second, .val (.long yc), .second, .val (.ref b18), .val (.long e1), .second, .val (.int (1 : Int32))] [(.int (own_lt e1))])) (fun _ k => XS.ifYes X32.here hx rfl (pc0 := 91) (pc' := 98) rfl (hb hby at_91) rfl ((if0 _ _).trans (flt hc34).2.1) (by decide) (by decide) k) ?_
    refine Go.of (T' := T32) (f' := (mkF m 99 #[.val (.long p0), .second, .val (.long p1), .second, .val (.long p2), .second, .val (.long ya), .second, .val (.long yb), .second, .val (.long yc), .second, .val (.ref b18), .val (.long e1), .second, .val (.int (1 : Int32))] [(.int (0 : Int32)), (.int (own_lt e1))])) (fun _ k => XS.iconst X32.here hx rfl (hb hby at_98) k) ?_
    have hc62 : (own_lt e1) = (0 : Int32) := by rw [own_lt, if_neg hc34]
    refine Go.of (T' := T32) (f' := (mkF m 102 #[.val (.long p0), .second, .val (.long p1), .second, .val (.long p2), .second, .val (.long ya), .second, .val (.long yb), .second, .val (.long yc), .second, .val (.ref b18), .val (.long e1), .second, .val (.int (1 : Int32))] [])) (fun _ k => XS.icmpNo X32.here hx rfl (hb hby at_99) rfl (teq hc62).2 k) ?_
    refine Go.of (T' := T32) (f' := (mkF m 103 #[.val (.long p0), .second, .val (.long p1), .second, .val (.long p2), .second, .val (.long ya), .second, .val (.long yb), .second, .val (.long yc), .second, .val (.ref b18), .val (.long e1), .second, .val (.int (1 : Int32))] [(.int (1 : Int32))])) (fun _ k => XS.iconst X32.here hx rfl (hb hby at_102) k) ?_
    refine Go.of (T' := T32) (f' := (mkF m 107 #[.val (.long p0), .second, .val (.long p1), .second, .val (.long p2), .second, .val (.long ya), .second, .val (.long yb), .second, .val (.long yc), .second, .val (.ref b18), .val (.long e1), .second, .val (.int (1 : Int32))] [(.int (1 : Int32))])) (fun _ k => XS.goto X32.here hx rfl (pc0 := 103) (pc' := 107) rfl (hb hby at_103) (by decide) (by decide) k) ?_
    exact tail36 trivial 
set_option maxRecDepth 65536 in
set_option maxHeartbeats 40000000 in
theorem comes_1 {Post : Tables → Env → Array Value → State → Outcome → State → Prop} (hpost : ∀ tb e args s v u, (limb_1_1.after args s (.returned v) u = true ∧ limb_1_2.after args s (.returned v) u = true ∧ True) → FrameEnd s (.returned v) u (Jvm.fieldLocs frame_1_writes args s ++ Jvm.arrayLocs frame_1_arrays args s ++ Jvm.staticLocs frame_1_statics s) 16 128 → Post tb e args s (.returned v) u) :
    ArmFor flags0 classFile x code maxLocals ret World_1 tables_1 room_1 Calls_1 rest_1 Pre_1 Post := by
  intro l hfl _ _ p e ha hc hk s m args below hf hA hF happ hP
  obtain ⟨hcalls, hrest, hpre⟩ := hP
  obtain ⟨-, -, -, hnamed, -, -, -, hat⟩ := (Spec.applies_iff hf).mp happ
  obtain ⟨hg, hn⟩ := and_e (Cond.before_iff.mp (show (Jvm.Cond.and given_1 narrow_1).before args s = true from hpre))
  obtain ⟨ga0, gb0⟩ := and_e hg
  obtain ⟨ga1, gb1⟩ := and_e gb0
  obtain ⟨ga2, gb2⟩ := and_e gb1
  obtain ⟨w0, w1, w2, rfl⟩ : ∃ w0 w1 w2 : Value, args = #[w0, w1, w2] := by
    have hs : args.size = 3 := by simpa [Cond.value, given_1] using ga0
    obtain ⟨L⟩ := args
    match L, hs with
    | [w0, w1, w2], _ => exact ⟨w0, w1, w2, rfl⟩
  have hw := fun d (hd : d ∈ tables_1) => atoms_spec (ws := Jvm.Cond.code x code maxLocals ret :: tables_1) hat d (List.mem_cons_of_mem _ hd)
  have hfit : Fit s := fun {y c} hc i hi => by
    obtain ⟨ha, rfl⟩ := Array.getElem?_eq_some_iff.mp hc
    have q := List.all_eq_true.mp ((Array.all_eq_true_iff_forall_mem.mp hF) _ (Array.getElem_mem ha)) i (List.mem_range.mpr hi)
    simpa [Array.getElem?_eq_getElem hi] using q
  obtain ⟨i0, ei0⟩ := isL_v ga1
  obtain rfl : w0 = (.long i0) := Option.some.inj ei0
  obtain ⟨i1, ei1⟩ := isL_v ga2
  obtain rfl : w1 = (.long i1) := Option.some.inj ei1
  obtain ⟨i2, ei2⟩ := isL_v gb2
  obtain rfl : w2 = (.long i2) := Option.some.inj ei2
  obtain ⟨na1, nb1⟩ := and_e hn
  have ev1 := eqJ_v na1
  have S_FIRST_AVERAGE : Sta s s.heap "com/example/portcall/portcall/service/CallPace" "FIRST_AVERAGE" "J" (.long (800000 : Int64)) := Sta.start ev1 (Or.inr ⟨(hw _ (List.mem_of_getElem? (i := 2) rfl)), (hw _ (List.mem_of_getElem? (i := 10) rfl))⟩)
  have ev2 := eqJ_v nb1
  have S_QUICK_NANOS : Sta s s.heap "com/example/portcall/portcall/service/CallPace" "QUICK_NANOS" "J" (.long (200000 : Int64)) := Sta.start ev2 (Or.inr ⟨(hw _ (List.mem_of_getElem? (i := 2) rfl)), (hw _ (List.mem_of_getElem? (i := 20) rfl))⟩)
  obtain ⟨n, o, h1, h2, h3, _, L, rfl, ⟨rfl, N, _⟩, hq⟩ := rm_law hw S_FIRST_AVERAGE S_QUICK_NANOS i0 i1 i2 s.heap ext_rfl tables_1 p e ha hc hk s m _ below hf ((Spec.applies_iff_loose hf).mp happ).1 ⟨rfl, State.Warmed39.refl s, rfl⟩ trivial
  refine ⟨n, _, h1, h2, h3, hpost _ _ _ _ _ _ ⟨Cond.after_iff.mpr rfl, Cond.after_iff.mpr (eq_i res_at (Term.int_eval (1)) rfl), trivial⟩ ⟨hq.1, hq.2.1, (hq.2.2.sift fun y hy => Or.inr (N y hy)).mono (by decide) (by decide)⟩⟩
theorem main_1_1 : Claimed_1_1 := comes_1 fun _ _ _ _ _ _ h hF => ⟨h.1, hF⟩
theorem main_1_2 : Claimed_1_2 := comes_1 fun _ _ _ _ _ _ h hF => ⟨h.2.1, hF⟩
end Jvm.Pilot.@@N@@
namespace Jvm.Pilot.@@N@@
open Jvm Jvm.ClassFile Sem Op Lib Jvm.Free Jvm.Stand Jvm.Pilot.@@N@@.Jvm.D
/-! MADE BY PROGRAM (witnessworld.py) out of the Statement's table words and the real class files: 9 classes; the members and pool entries that the words name. The judged class is class 1, her method 4. -/
namespace start1
open Jvm.ClassFile
def u (s : String) : CpInfo := .utf8 (stringToUtf16 s)
/-- a pool by its gaps: so many unusable entries, then the entry; so many at the end -/
def gap : Nat → List CpInfo → List CpInfo
  | 0, r => r
  | n + 1, r => .unusable :: gap n r
def poolList (es : List (Nat × CpInfo)) (last : Nat) : List CpInfo := es.foldr (fun e r => gap e.1 (e.2 :: r)) (gap last [])
def pool (es : List (Nat × CpInfo)) (last : Nat) : Array CpInfo := ⟨poolList es last⟩
def fileOf (pool : Array CpInfo) (this : Nat) (attrs : Array Attribute := #[]) (ms : Array MethodInfo := #[]) (fl : Nat := 33) (sup : Nat := 0) (ifs : Array Nat := #[]) (fds : Array FieldInfo := #[]) : ClassFile where
  minorVersion := 0
  majorVersion := 65
  constantPool := pool
  accessFlags := fl
  thisClass := this
  superClass := sup
  interfaces := ifs
  fields := fds
  methods := ms
  attributes := attrs
def plain (name : String) (sup : Option ClassId) : Class where
  name := name
  kind := .ordinary
  loader := none
  accessFlags := 33
  super := sup
  interfaces := #[]
  cf := none
  fields := #[]
  methods := #[]
  instanceTypes := #[]
  staticTypes := #[]
  resolved := #[]
  callSites := []
  init := .initialized
  statics := none
  mirror := none

def pool0 : Array CpInfo := pool [(5, u "<init>"), (0, u "()V"), (1, .class_ 10), (1, u "java/lang/Object")] 113

def k0c0 : Code := { maxStack := 0, maxLocals := 1, code := object_method_1_code, exceptionTable := #[], attributes := #[] }
def k0m0 : Method := { name := "<init>", desc := "()V", sig := { parameters := [], returnType := none }, accessFlags := 1, code := some k0c0 }
/-- java/lang/Object -/
def k0 : Class := { plain "java/lang/Object" none with
  accessFlags := 33
  interfaces := #[]
  cf := some (fileOf pool0 8 #[] #[{ accessFlags := 1, nameIndex := 5, descriptorIndex := 6, attributes := #[] }] 33 0 #[] #[])
  fields := #[]
  methods := #[k0m0]
  instanceTypes := #[]
  staticTypes := #[]
  resolved := Array.replicate 124 none
  statics := none }

def pool1 : Array CpInfo := pool [(2, .class_ 4), (0, .nameAndType 5 6), (0, u "java/lang/Object"), (0, u "<init>"), (0, u "()V"), (0, .long 8), (1, .long 7), (1, .methodref 12 13), (0, .class_ 14), (0, .nameAndType 15 16), (0, u "com/example/portcall/portcall/service/CallPaceRanPinLaw"), (0, u "floor8"), (0, u "(J)J"), (0, .methodref 12 18), (0, .nameAndType 19 16), (0, u "ceil8"), (0, .class_ 21), (0, u "com/example/portcall/portcall/service/CallPace"), (0, .methodref 20 3), (0, .long 800000), (1, .methodref 20 26), (0, .nameAndType 27 28), (0, u "quick"), (0, u "()Z"), (0, .long 200000), (1, .methodref 20 32), (0, .nameAndType 33 34), (0, u "ran"), (0, u "(J)V"), (0, .methodref 12 36), (0, .nameAndType 37 38), (0, u "next"), (0, u "(JJ)J"), (3, u "law"), (0, u "(JJJ)Z")] 2

def k1m0 : Method := { name := "<init>", desc := "()V", sig := { parameters := [], returnType := none }, accessFlags := 2, code := none }
def k1c1 : Code := { maxStack := 4, maxLocals := 4, code := method_2_code, exceptionTable := #[], attributes := #[] }
def k1m1 : Method := { name := "floor8", desc := "(J)J", sig := { parameters := [.long], returnType := some .long }, accessFlags := 10, code := some k1c1 }
def k1c2 : Code := { maxStack := 4, maxLocals := 4, code := method_3_code, exceptionTable := #[], attributes := #[] }
def k1m2 : Method := { name := "ceil8", desc := "(J)J", sig := { parameters := [.long], returnType := some .long }, accessFlags := 10, code := some k1c2 }
def k1c3 : Code := { maxStack := 4, maxLocals := 6, code := method_4_code, exceptionTable := #[], attributes := #[] }
def k1m3 : Method := { name := "next", desc := "(JJ)J", sig := { parameters := [.long, .long], returnType := some .long }, accessFlags := 10, code := some k1c3 }
def k1c4 : Code := { maxStack := 5, maxLocals := 16, code := code, exceptionTable := #[], attributes := #[] }
def k1m4 : Method := { name := "law", desc := "(JJJ)Z", sig := { parameters := [.long, .long, .long], returnType := some .boolean }, accessFlags := 9, code := some k1c4 }
/-- com/example/portcall/portcall/service/CallPaceRanPinLaw -/
def k1 : Class := { plain "com/example/portcall/portcall/service/CallPaceRanPinLaw" (some 0) with
  accessFlags := 49
  interfaces := #[]
  cf := some (fileOf pool1 12 #[] #[{ accessFlags := 2, nameIndex := 5, descriptorIndex := 6, attributes := #[] }, { accessFlags := 10, nameIndex := 15, descriptorIndex := 16, attributes := #[] }, { accessFlags := 10, nameIndex := 19, descriptorIndex := 16, attributes := #[] }, { accessFlags := 10, nameIndex := 37, descriptorIndex := 38, attributes := #[] }, { accessFlags := 9, nameIndex := 42, descriptorIndex := 43, attributes := #[] }] 49 2 #[] #[])
  fields := #[]
  methods := #[k1m0, k1m1, k1m2, k1m3, k1m4]
  instanceTypes := #[]
  staticTypes := #[]
  resolved := Array.replicate 46 none
  statics := none }

def pool2 : Array CpInfo := pool [(1, .methodref 2 3), (0, .class_ 4), (0, .nameAndType 5 6), (0, u "java/lang/Object"), (0, u "<init>"), (0, u "()V"), (0, .fieldref 8 9), (0, .class_ 10), (0, .nameAndType 11 12), (0, u "com/example/portcall/portcall/service/CallPace"), (0, u "FIRST_AVERAGE"), (0, u "J"), (0, .fieldref 8 14), (0, .nameAndType 15 12), (0, u "average"), (0, .fieldref 8 17), (0, .nameAndType 18 12), (0, u "QUICK_NANOS"), (0, .long 8), (17, u "quick"), (0, u "()Z"), (1, u "ran"), (0, u "(J)V")] 3

def k2c0 : Code := { maxStack := 3, maxLocals := 1, code := prog_54_method_1_code, exceptionTable := #[], attributes := #[] }
def k2m0 : Method := { name := "<init>", desc := "()V", sig := { parameters := [], returnType := none }, accessFlags := 0, code := some k2c0 }
def k2c1 : Code := { maxStack := 4, maxLocals := 1, code := prog_54_method_2_code, exceptionTable := #[], attributes := #[] }
def k2m1 : Method := { name := "quick", desc := "()Z", sig := { parameters := [], returnType := some .boolean }, accessFlags := 0, code := some k2c1 }
def k2c2 : Code := { maxStack := 7, maxLocals := 5, code := prog_54_method_3_code, exceptionTable := #[], attributes := #[] }
def k2m2 : Method := { name := "ran", desc := "(J)V", sig := { parameters := [.long], returnType := none }, accessFlags := 0, code := some k2c2 }
/-- com/example/portcall/portcall/service/CallPace -/
def k2 : Class := { plain "com/example/portcall/portcall/service/CallPace" (some 0) with
  accessFlags := 48
  interfaces := #[]
  cf := some (fileOf pool2 8 #[] #[{ accessFlags := 0, nameIndex := 5, descriptorIndex := 6, attributes := #[] }, { accessFlags := 0, nameIndex := 37, descriptorIndex := 38, attributes := #[] }, { accessFlags := 0, nameIndex := 40, descriptorIndex := 41, attributes := #[] }] 48 2 #[] #[{ accessFlags := 24, nameIndex := 18, descriptorIndex := 12, attributes := #[] }, { accessFlags := 26, nameIndex := 11, descriptorIndex := 12, attributes := #[] }, { accessFlags := 66, nameIndex := 15, descriptorIndex := 12, attributes := #[] }])
  fields := #[{ name := "QUICK_NANOS", type := .long, accessFlags := 24, slot := 0, constantValue := 0 }, { name := "FIRST_AVERAGE", type := .long, accessFlags := 26, slot := 1, constantValue := 0 }, { name := "average", type := .long, accessFlags := 66, slot := 0, constantValue := 0 }]
  methods := #[k2m0, k2m1, k2m2]
  instanceTypes := #[.long]
  staticTypes := #[.long, .long]
  resolved := Array.replicate 45 none
  statics := some 0 }

def pool3 : Array CpInfo := pool [(1, u "java/lang/Cloneable"), (0, .class_ 1), (0, u "java/lang/Object"), (0, .class_ 3)] 3

/-- java/lang/Cloneable -/
def k3 : Class := { plain "java/lang/Cloneable" (some 0) with
  accessFlags := 1537
  interfaces := #[]
  cf := some (fileOf pool3 2 #[] #[] 1537 4 #[] #[])
  fields := #[]
  methods := #[]
  instanceTypes := #[]
  staticTypes := #[]
  resolved := Array.replicate 8 none
  statics := none }

def pool4 : Array CpInfo := pool [(1, u "java/io/Serializable"), (0, .class_ 1), (0, u "java/lang/Object"), (0, .class_ 3)] 3

/-- java/io/Serializable -/
def k4 : Class := { plain "java/io/Serializable" (some 0) with
  accessFlags := 1537
  interfaces := #[]
  cf := some (fileOf pool4 2 #[] #[] 1537 4 #[] #[])
  fields := #[]
  methods := #[]
  instanceTypes := #[]
  staticTypes := #[]
  resolved := Array.replicate 8 none
  statics := none }

/-- the primitive byte -/
def k5 : Class := { plain "byte" none with kind := .primitive 'B', accessFlags := 0x411 }
/-- [B -/
def k6 : Class := { plain "[B" (some 0) with kind := .array 5 .byte, interfaces := #[3, 4], accessFlags := 1041 }

/-- the primitive int -/
def k7 : Class := { plain "int" none with kind := .primitive 'I', accessFlags := 0x411 }
/-- [I -/
def k8 : Class := { plain "[I" (some 0) with kind := .array 7 .int, interfaces := #[3, 4], accessFlags := 1041 }

def heap : Heap := #[{ cls := 2, slots := #[.long 200000, .long 800000], vm := .statics 2 }]
def classes : Array Class := #[k0, k1, k2, k3, k4, k5, k6, k7, k8]
def interned : List (Array UInt16 × Addr) := []
def slotsUsed : Nat := 2
def theMethod : MethodId := ⟨1, 4⟩
def args0 : Array Value := #[.long 5, .long 7, .long (-9)]
def aboutOver (below : List Frame) : State where
  vm := { classes := classes, interned := interned.toArray }
  heap := heap
  slotsUsed := slotsUsed
  threads := #[{ frames := .invoking theMethod args0 :: below }]
def below0 : List Frame := [.native { method := ⟨0, 0⟩, args := #[] }]
def about1 : State := aboutOver below0
def p0 : Program := .bare "" "" ""
def e0 : Env := launch0.env 0 0 0
theorem w_frames : about1.frames = Frame.invoking theMethod args0 :: below0 := rfl
set_option maxRecDepth 65536 in
theorem w_args : argsFit about1.vm theMethod args0 = true := by decide +kernel
set_option maxRecDepth 65536 in
theorem w_heap : heapFits about1 = true := by decide +kernel
set_option maxRecDepth 65536 in
theorem w_runnable : about1.curStatus? = some .runnable := by decide +kernel
set_option maxRecDepth 65536 in
theorem w_alone : about1.alone = true := by decide +kernel
set_option maxRecDepth 65536 in
theorem w_named : about1.methodNamed? x = some theMethod := by decide +kernel
set_option maxRecDepth 65536 in
theorem w_hears : about1.hears theMethod below0 = true := by decide +kernel
set_option maxRecDepth 65536 in
theorem w_ripe : about1.ripe theMethod args0 below0 = true := by decide +kernel
theorem w_running : about1.status = .running := rfl
set_option maxRecDepth 65536 in
theorem w_room : about1.hasRoom e0.platform room_1 = true :=
  launch0.hasRoom_least _ room_1 (by decide +kernel) (by decide +kernel) (by decide +kernel) (by decide +kernel) (by decide +kernel) (by decide +kernel)
theorem allAtoms_all (ts : List Jvm.Cond) (a : Array Jvm.Value) (st : Jvm.State) : (allAtoms ts).before a st = ts.all (fun c => c.before a st) := by
  induction ts with
  | nil => rfl
  | cons c t ih =>
    show (Jvm.Cond.and c (allAtoms t)).before a st = _
    rw [Jvm.Cond.before_and, ih, List.all_cons]
def words1 : List Jvm.Cond := Jvm.Cond.code x code maxLocals ret :: tables_1
/-- a 'code' word, met by the world's own term for the bytes: nothing is compared byte by byte -/
theorem code_word {y : MethodName} {bytes : ByteArray} {mx : Nat} {rt : Option FieldType} {a : Array Value} {s : State} {m : MethodId} {meth : Method} {c : Code} (h1 : s.methodNamed? y = some m) (h2 : s.vm.method? m = some meth) (h3 : meth.code = some c) (h4 : c.code = bytes)
    (h5 : (c.maxLocals == mx && c.exceptionTable.isEmpty && decide (c.maxStack ≤ mostOperands) && decide (meth.sig.returnType = rt) && !meth.locks && decide (parseMethodDescriptor y.desc = some meth.sig)) = true) : (Jvm.Cond.code y bytes mx rt).before a s = true := by
  simp only [Bool.and_eq_true, beq_iff_eq, Bool.not_eq_true', decide_eq_true_eq] at h5
  obtain ⟨⟨⟨⟨⟨g1, g2⟩, g3⟩, g4⟩, g5⟩, g6⟩ := h5
  simp [Cond.before, Cond.holds, Cond.value, h1, h2, h3, h4, g1, g2, g3, g4, g5, g6]
def isCode : Jvm.Cond → Bool
  | .code _ _ _ _ => true
  | _ => false
theorem all_split {L : List Jvm.Cond} {P : Jvm.Cond → Bool} (h1 : L.all (fun c => isCode c || P c) = true) (h2 : ∀ c ∈ L.filter isCode, P c = true) : L.all P = true := by
  refine List.all_eq_true.mpr fun c hc => ?_
  have h := List.all_eq_true.mp h1 c hc
  rcases Bool.eq_false_or_eq_true (isCode c) with hi | hi
  · exact h2 c (List.mem_filter.mpr ⟨hc, hi⟩)
  · simpa [hi] using h
set_option maxRecDepth 65536 in
theorem w_c0 : (Jvm.Cond.code x code maxLocals ret).before args0 about1 = true := code_word (m := ⟨1, 4⟩) (meth := k1m4) (c := k1c4) (by decide +kernel) rfl rfl rfl (by decide +kernel)
set_option maxRecDepth 65536 in
theorem w_c1 : (Jvm.Cond.code ({ cls := "com/example/portcall/portcall/service/CallPace", name := "<init>", desc := "()V" } : Jvm.MethodName) prog_54_method_1_code (1 : Nat) (Option.none : Option Jvm.ClassFile.FieldType)).before args0 about1 = true := code_word (m := ⟨2, 0⟩) (meth := k2m0) (c := k2c0) (by decide +kernel) rfl rfl rfl (by decide +kernel)
set_option maxRecDepth 65536 in
theorem w_c2 : (Jvm.Cond.code ({ cls := "java/lang/Object", name := "<init>", desc := "()V" } : Jvm.MethodName) object_method_1_code (1 : Nat) (Option.none : Option Jvm.ClassFile.FieldType)).before args0 about1 = true := code_word (m := ⟨0, 0⟩) (meth := k0m0) (c := k0c0) (by decide +kernel) rfl rfl rfl (by decide +kernel)
set_option maxRecDepth 65536 in
theorem w_c3 : (Jvm.Cond.code ({ cls := "com/example/portcall/portcall/service/CallPace", name := "quick", desc := "()Z" } : Jvm.MethodName) prog_54_method_2_code (1 : Nat) (Option.some Jvm.ClassFile.FieldType.boolean)).before args0 about1 = true := code_word (m := ⟨2, 1⟩) (meth := k2m1) (c := k2c1) (by decide +kernel) rfl rfl rfl (by decide +kernel)
set_option maxRecDepth 65536 in
theorem w_c4 : (Jvm.Cond.code ({ cls := "com/example/portcall/portcall/service/CallPace", name := "ran", desc := "(J)V" } : Jvm.MethodName) prog_54_method_3_code (5 : Nat) (Option.none : Option Jvm.ClassFile.FieldType)).before args0 about1 = true := code_word (m := ⟨2, 2⟩) (meth := k2m2) (c := k2c2) (by decide +kernel) rfl rfl rfl (by decide +kernel)
set_option maxRecDepth 65536 in
theorem w_c5 : (Jvm.Cond.code ({ cls := "com/example/portcall/portcall/service/CallPaceRanPinLaw", name := "next", desc := "(JJ)J" } : Jvm.MethodName) method_4_code (6 : Nat) (Option.some Jvm.ClassFile.FieldType.long)).before args0 about1 = true := code_word (m := ⟨1, 3⟩) (meth := k1m3) (c := k1c3) (by decide +kernel) rfl rfl rfl (by decide +kernel)
set_option maxRecDepth 65536 in
theorem w_c6 : (Jvm.Cond.code ({ cls := "com/example/portcall/portcall/service/CallPaceRanPinLaw", name := "ceil8", desc := "(J)J" } : Jvm.MethodName) method_3_code (4 : Nat) (Option.some Jvm.ClassFile.FieldType.long)).before args0 about1 = true := code_word (m := ⟨1, 2⟩) (meth := k1m2) (c := k1c2) (by decide +kernel) rfl rfl rfl (by decide +kernel)
set_option maxRecDepth 65536 in
theorem w_c7 : (Jvm.Cond.code ({ cls := "com/example/portcall/portcall/service/CallPaceRanPinLaw", name := "floor8", desc := "(J)J" } : Jvm.MethodName) method_2_code (4 : Nat) (Option.some Jvm.ClassFile.FieldType.long)).before args0 about1 = true := code_word (m := ⟨1, 1⟩) (meth := k1m1) (c := k1c1) (by decide +kernel) rfl rfl rfl (by decide +kernel)
def codes1 : List Jvm.Cond := [Jvm.Cond.code x code maxLocals ret, Jvm.Cond.code ({ cls := "com/example/portcall/portcall/service/CallPace", name := "<init>", desc := "()V" } : Jvm.MethodName) prog_54_method_1_code (1 : Nat) (Option.none : Option Jvm.ClassFile.FieldType), Jvm.Cond.code ({ cls := "java/lang/Object", name := "<init>", desc := "()V" } : Jvm.MethodName) object_method_1_code (1 : Nat) (Option.none : Option Jvm.ClassFile.FieldType), Jvm.Cond.code ({ cls := "com/example/portcall/portcall/service/CallPace", name := "quick", desc := "()Z" } : Jvm.MethodName) prog_54_method_2_code (1 : Nat) (Option.some Jvm.ClassFile.FieldType.boolean), Jvm.Cond.code ({ cls := "com/example/portcall/portcall/service/CallPace", name := "ran", desc := "(J)V" } : Jvm.MethodName) prog_54_method_3_code (5 : Nat) (Option.none : Option Jvm.ClassFile.FieldType), Jvm.Cond.code ({ cls := "com/example/portcall/portcall/service/CallPaceRanPinLaw", name := "next", desc := "(JJ)J" } : Jvm.MethodName) method_4_code (6 : Nat) (Option.some Jvm.ClassFile.FieldType.long), Jvm.Cond.code ({ cls := "com/example/portcall/portcall/service/CallPaceRanPinLaw", name := "ceil8", desc := "(J)J" } : Jvm.MethodName) method_3_code (4 : Nat) (Option.some Jvm.ClassFile.FieldType.long), Jvm.Cond.code ({ cls := "com/example/portcall/portcall/service/CallPaceRanPinLaw", name := "floor8", desc := "(J)J" } : Jvm.MethodName) method_2_code (4 : Nat) (Option.some Jvm.ClassFile.FieldType.long)]
set_option maxRecDepth 65536 in
theorem codes_eq : words1.filter isCode = codes1 := rfl
theorem w_codes : ∀ c ∈ words1.filter isCode, c.before args0 about1 = true := by
  rw [codes_eq]
  intro c hc
  simp only [codes1, List.mem_cons, List.not_mem_nil, or_false] at hc
  rcases hc with rfl | rfl | rfl | rfl | rfl | rfl | rfl | rfl
  · exact w_c0
  · exact w_c1
  · exact w_c2
  · exact w_c3
  · exact w_c4
  · exact w_c5
  · exact w_c6
  · exact w_c7
set_option maxRecDepth 65536 in
theorem w_t1 : (words1.take 24).all (fun c => isCode c || c.before args0 about1) = true := by decide +kernel
set_option maxRecDepth 65536 in
theorem w_t2 : (words1.drop 24).all (fun c => isCode c || c.before args0 about1) = true := by decide +kernel
theorem w_tables : (allAtoms (Jvm.Cond.code x code maxLocals ret :: tables_1)).before args0 about1 = true := by
  rw [allAtoms_all]
  show words1.all (fun c => c.before args0 about1) = true
  refine all_split ?_ w_codes
  rw [← List.take_append_drop 24 words1, List.all_append, w_t1, w_t2]
  rfl
set_option maxRecDepth 65536 in
theorem w_case : (Jvm.Cond.and given_1 narrow_1).before args0 about1 = true := by decide +kernel
theorem w_applies : (headSpec (Jvm.Cond.code x code maxLocals ret :: tables_1) room_1).applies x e0.platform about1 = true :=
  (Spec.applies_iff w_frames).mpr ⟨w_running, w_runnable, w_alone, w_named, w_hears, w_ripe, w_room, w_tables⟩
theorem atStart : AtStart classFile x code maxLocals ret World_1 tables_1 room_1 Calls_1 rest_1 Pre_1 launch0 p0 e0 about1 theMethod args0 below0 :=
  ⟨lists_1, trivial, launch0.admits_env _ _ _, launch0.least_env, fairChoices_fair.cas, fairChoices_fair.clock, w_frames, w_args, w_heap, w_applies, trivial, trivial, w_case⟩
end start1
theorem witness_1 : WitnessClaimed_1 := ⟨start1.p0, start1.e0, start1.about1, start1.theMethod, start1.args0, start1.below0, start1.atStart⟩
end Jvm.Pilot.@@N@@
