import JvmDerived
import JvmDerived.Pilot.@@N@@Statement
import JvmDerived.Pilot.@@N@@Code
set_option linter.unusedVariables false
set_option linter.unusedSimpArgs false
namespace Jvm.RoadKit
open Sem ClassFile Op Lib Jvm.Stand Jvm.Free Jvm.LawKit
/-! own_: walks written forward: 'Goes P T g': from the frame g at T the run comes to a state that P takes. -/
def Goes (p : Program) (e : Env) (below : List Frame) (P : State → Prop) (T : State) (g : JFrame) : Prop := ∃ t, Steps p.tables e below (T.setTop g) t ∧ P t
/-- how a body ends: it returned v, and Q holds of v, the heap and the places written -/
def Fin1 (below : List Frame) (s : State) (rm : Room) (Q : Option Value → Heap → List Loc → Prop) (t : State) : Prop :=
  ∃ o, t.status = .running ∧ Ended t below o ∧ ∃ v L, o = .returned v ∧ Q v t.heap L ∧ FrameEnd s o t L rm.cells rm.slots
/-- a body's contract -/
def Does (l : Launch) (y : MethodName) (bytes : ByteArray) (maxL : Nat) (ret : Option FieldType) (ws : List Cond) (rm : Room) (Z : State) (as' : Array Value) (h : Heap) (Q : Option Value → Heap → List Loc → Prop) : Prop :=
  MetFree l y (head1 (Cond.code y bytes maxL ret :: ws) rm) (fun a U => a = as' ∧ Z.Warmed39 U.vm ∧ U.heap = h) (fun _ _ _ _ _ => True) (fun _ U o U' => ∃ v L, o = .returned v ∧ Q v U'.heap L ∧ FrameEnd U o U' L rm.cells rm.slots)
section Own
variable {p : Program} {l : Launch} {e : Env} {R : Room} {s : State} {m : MethodId} {args : Array Value} {below : List Frame} {meth : Method} {c : Code} {T T' : State} {locs : List Loc} {cells slots : Nat} {Z : State} {a0 : Array Value} {h h' : Heap} {g g' : JFrame} {P : State → Prop}
theorem Goes.by (st : ∀ target, Steps p.tables e below (T'.setTop g') target → Steps p.tables e below (T.setTop g) target) (k : Goes p e below P T' g') : Goes p e below P T g := by
  obtain ⟨t, h1, h2⟩ := k
  exact ⟨t, st _ h1, h2⟩
theorem Goes.cast (q : g = g') (k : Goes p e below P T g') : Goes p e below P T g := q ▸ k
theorem Does.of {y : MethodName} {bytes : ByteArray} {maxL : Nat} {ret : Option FieldType} {ws : List Cond} {rm : Room} {as' : Array Value} {Q : Option Value → Heap → List Loc → Prop} (hp : plainFor y = true)
    (body : ∀ (p : Program) (e : Env) (s : State) (m : MethodId) (below : List Frame) (meth : Method) (c : Code) (s₁ : State), p.tables.exec = Jvm.exec → c.code = bytes → c.maxLocals = maxL → meth.sig.returnType = ret → meth.locks = false → Z.Warmed39 s.vm → s.vm.findClass y.cls = some m.cls → meth.name = y.name → Stand p l e rm s m as' below meth c s₁ [] 0 0 → s₁.heap = h →
      Goes p e below (Fin1 below s rm Q) s₁ (entryFrame m as' maxL)) : Does l y bytes maxL ret ws rm Z as' h Q := by
  refine MetFree.of_bodySF hp hisR ?_
  intro p e s m args below meth c s₁ Bd hml0 hP hK
  obtain ⟨rfl, hZ, hh⟩ := hP
  have e0 : s₁.heap = h := by rw [← hh, Bd.state]; rfl
  obtain ⟨t, h1, o, h2⟩ := body p e s m below meth c s₁ Bd.exec Bd.bytes hml0 Bd.returns Bd.notSynchronized hZ (findClass_of_methodNamed Bd.named) ((name_of_methodNamed Bd.named Bd.method).1) (Stand.of_body Bd) e0
  exact ⟨t, o, h1, h2⟩
theorem fin_of {rm : Room} {Q : Option Value → Heap → List Loc → Prop} {v : Option Value} (X : Stand p l e R s m args below meth c T locs cells slots) (hlk : meth.locks = false) (hv : meth.sig.returnType = none → v = none) (hQ : Q v T.heap locs) (hc : cells ≤ rm.cells) (hs : slots ≤ rm.slots)
    (st : ∀ fs, (∀ (f : JFrame) (acts : List Action), f.method = m → f.locked = none → f.entered = [] → (doReturn e (T.setTop f) acts v).1 = T.setFrames fs) → Steps p.tables e below (T.setTop g) (T.setFrames fs)) : Goes p e below (Fin1 below s rm Q) T g := by
  obtain ⟨fs, hr, hrun, hended, hW, hsame⟩ := X.leave (v := v) hv hlk
  exact ⟨_, st fs hr, _, hrun, hended, _, _, rfl, hQ, ⟨_, rfl⟩, hW, hsame.mono hc hs⟩
theorem outV {rm : Room} {Q : Option Value → Heap → List Loc → Prop} {pc : Nat} {Ls : Array Slot} (X : Stand p l e R s m args below meth c T locs cells slots) (hx : p.tables.exec = Jvm.exec) (hlk : meth.locks = false) (hret : meth.sig.returnType = none) (hd : decode c.code pc = .ok (.return_, 1)) (hQ : Q none T.heap locs) (hc : cells ≤ rm.cells) (hs : slots ≤ rm.slots) : Goes p e below (Fin1 below s rm Q) T (mkF m pc Ls []) :=
  fin_of X hlk (fun _ => rfl) hQ hc hs fun fs hr => X.returnOut hx hret hd hr
theorem outZ {rm : Room} {Q : Option Value → Heap → List Loc → Prop} {pc : Nat} {Ls : Array Slot} {z : Int32} {rest : List Value} (X : Stand p l e R s m args below meth c T locs cells slots) (hx : p.tables.exec = Jvm.exec) (hlk : meth.locks = false) (hret : meth.sig.returnType = some .boolean) (hd : decode c.code pc = .ok (.ireturn, 1)) (hQ : Q (some (.int (nar .boolean z))) T.heap locs) (hc : cells ≤ rm.cells) (hs : slots ≤ rm.slots) : Goes p e below (Fin1 below s rm Q) T (mkF m pc Ls (.int z :: rest)) :=
  fin_of X hlk (fun h => by rw [hret] at h; cases h) hQ hc hs fun fs hr => retN X hx (t := .boolean) hret (by simp) hd hr
theorem outO {rm : Room} {Q : Option Value → Heap → List Loc → Prop} {pc : Nat} {Ls : Array Slot} {w : Value} {t : FieldType} {i : Instr} {rest : List Value} (X : Stand p l e R s m args below meth c T locs cells slots) (hx : p.tables.exec = Jvm.exec) (hlk : meth.locks = false) (hret : meth.sig.returnType = some t) (hn : narrow t w = w)
    (hi : (i = .ireturn ∧ (t = .int ∨ t = .boolean ∨ t = .byte ∨ t = .char ∨ t = .short) ∧ ∃ z, w = .int z) ∨ (i = .lreturn ∧ t = .long ∧ ∃ z, w = .long z) ∨ (i = .dreturn ∧ t = .double ∧ ∃ z, w = .double z) ∨ (i = .freturn ∧ t = .float ∧ ∃ z, w = .float z) ∨ (i = .areturn ∧ t.isReference = true ∧ w.isRef = true))
    (hd : decode c.code pc = .ok (i, 1)) (hQ : Q (some w) T.heap locs) (hc : cells ≤ rm.cells) (hs : slots ≤ rm.slots) : Goes p e below (Fin1 below s rm Q) T (mkF m pc Ls (w :: rest)) :=
  fin_of X hlk (fun h => by rw [hret] at h; cases h) hQ hc hs fun fs hr => retOut X hx hret hn hi hd hr
theorem outI {rm : Room} {Q : Option Value → Heap → List Loc → Prop} {pc : Nat} {Ls : Array Slot} {z : Int32} {rest : List Value} (X : Stand p l e R s m args below meth c T locs cells slots) (hx : p.tables.exec = Jvm.exec) (hlk : meth.locks = false) (hret : meth.sig.returnType = some .int) (hd : decode c.code pc = .ok (.ireturn, 1)) (hQ : Q (some (.int z)) T.heap locs) (hc : cells ≤ rm.cells) (hs : slots ≤ rm.slots) : Goes p e below (Fin1 below s rm Q) T (mkF m pc Ls (.int z :: rest)) :=
  outO X hx hlk hret rfl (Or.inl ⟨rfl, Or.inl rfl, _, rfl⟩) hd hQ hc hs
theorem outJ {rm : Room} {Q : Option Value → Heap → List Loc → Prop} {pc : Nat} {Ls : Array Slot} {z : Int64} {rest : List Value} (X : Stand p l e R s m args below meth c T locs cells slots) (hx : p.tables.exec = Jvm.exec) (hlk : meth.locks = false) (hret : meth.sig.returnType = some .long) (hd : decode c.code pc = .ok (.lreturn, 1)) (hQ : Q (some (.long z)) T.heap locs) (hc : cells ≤ rm.cells) (hs : slots ≤ rm.slots) : Goes p e below (Fin1 below s rm Q) T (mkF m pc Ls (.long z :: rest)) :=
  outO X hx hlk hret rfl (Or.inr (Or.inl ⟨rfl, rfl, _, rfl⟩)) hd hQ hc hs
theorem outD {rm : Room} {Q : Option Value → Heap → List Loc → Prop} {pc : Nat} {Ls : Array Slot} {z : UInt64} {rest : List Value} (X : Stand p l e R s m args below meth c T locs cells slots) (hx : p.tables.exec = Jvm.exec) (hlk : meth.locks = false) (hret : meth.sig.returnType = some .double) (hd : decode c.code pc = .ok (.dreturn, 1)) (hQ : Q (some (.double z)) T.heap locs) (hc : cells ≤ rm.cells) (hs : slots ≤ rm.slots) : Goes p e below (Fin1 below s rm Q) T (mkF m pc Ls (.double z :: rest)) :=
  outO X hx hlk hret rfl (Or.inr (Or.inr (Or.inl ⟨rfl, rfl, _, rfl⟩))) hd hQ hc hs
theorem outA {rm : Room} {Q : Option Value → Heap → List Loc → Prop} {pc : Nat} {Ls : Array Slot} {w : Value} {t : FieldType} {rest : List Value} (X : Stand p l e R s m args below meth c T locs cells slots) (hx : p.tables.exec = Jvm.exec) (hlk : meth.locks = false) (hret : meth.sig.returnType = some t) (ht : t.isReference = true) (hw : w.isRef = true) (hn : narrow t w = w) (hd : decode c.code pc = .ok (.areturn, 1)) (hQ : Q (some w) T.heap locs) (hc : cells ≤ rm.cells) (hs : slots ≤ rm.slots) : Goes p e below (Fin1 below s rm Q) T (mkF m pc Ls (w :: rest)) :=
  outO X hx hlk hret hn (Or.inr (Or.inr (Or.inr (Or.inr ⟨rfl, ht, hw⟩)))) hd hQ hc hs
/-! calls by a contract -/
theorem callI (X : Stand p l e R s m args below meth c T locs cells slots) (hx : p.tables.exec = Jvm.exec) (hZ : Z.Warmed39 s.vm) {own : String} {index : Nat} {y : MethodName} (hy1 : y.name = "<init>") (hown : s.vm.findClass own = some m.cls) {bytes : ByteArray} {maxL : Nat} {rm : Room}
    (w1 : (Cond.methodLink own index y).before a0 Z = true) (w2 : (Cond.instanceMethod y).before a0 Z = true) (w3 : (Cond.code y bytes maxL none).before a0 Z = true) (w4 : (Cond.initialized y.cls).before a0 Z = true) (hy : y.cls ≠ "java/lang/invoke/MethodHandle" ∧ y.cls ≠ "java/lang/invoke/VarHandle")
    (eT : T.heap = h) {a : Addr} {argsL rest : List Value} {as' : Array Value} {Q : Option Value → Heap → List Loc → Prop} {W : Nat} (hM : Does l y bytes maxL none [] rm Z as' h Q) (has : (.ref a :: argsL).toArray = as') (hf : rm.frames + 1 ≤ R.frames) (hl : W + (maxL + 11) + rm.locals ≤ R.locals)
    (hcc : cells + rm.cells ≤ R.cells) (hss : slots + rm.slots ≤ R.slots) {g : JFrame} (hg : g.method = m) (hsize : g.locals.size = c.maxLocals) (hlen : ∀ sig, parseMethodDescriptor y.desc = some sig → argsL.length = sig.parameters.length) (hst : g.stack = argsL.reverse ++ .ref a :: rest) (hW : 2 * g.monitorRoom + (rest.map fun v => v.category).sum ≤ W) (hd : decode c.code g.pc = .ok (.invokespecial index, 3)) :
    ∃ v T' L, Stand p l e R s m args below meth c T' (locs ++ L) (cells + rm.cells) (slots + rm.slots) ∧ Q v T'.heap L ∧ ∀ target, Steps p.tables e below (T'.setTop { g with pc := g.pc + 3, stack := v.toList ++ rest }) target → Steps p.tables e below (T.setTop g) target := by
  obtain ⟨v, vm1, ⟨T', L', k', n'⟩, -, X', ⟨L, hQ, e1, e2, e3⟩, st⟩ := X.specialBack hx (y := y) hy1 hown (mvT hZ w1) (mvT hZ w2) (mvT hZ w3) hy (backOf (W := W) hM hZ w3 w4 hf hl) hg hsize (Steps.refl _) hlen hst hW hd (fun _ _ => ⟨has, eT, hcc, hss⟩)
  dsimp only [Pt.U, Pt.locs, Pt.cells, Pt.slots] at X' e1 e2 e3 st hQ
  subst e1 e2 e3
  exact ⟨v, T', L, X', hQ, fun t k => st.trans k⟩
theorem callV (X : Stand p l e R s m args below meth c T locs cells slots) (hx : p.tables.exec = Jvm.exec) (hZ : Z.Warmed39 s.vm) {own C : String} {index : Nat} {y : MethodName} (hown : s.vm.findClass own = some m.cls) {bytes : ByteArray} {maxL : Nat} {ret : Option FieldType} {rm : Room}
    (w1 : (Cond.methodLink own index y).before a0 Z = true) (w2 : (Cond.declares y).before a0 Z = true) (w3 : (Cond.selects C y y).before a0 Z = true) (w4 : (Cond.instanceMethod y).before a0 Z = true) (w5 : (Cond.code y bytes maxL ret).before a0 Z = true) (w6 : (Cond.initialized y.cls).before a0 Z = true) (hy : y.cls ≠ "java/lang/invoke/MethodHandle" ∧ y.cls ≠ "java/lang/invoke/VarHandle")
    (eT : T.heap = h) {a : Addr} (E : Exa Z h a C) {argsL rest : List Value} {as' : Array Value} {Q : Option Value → Heap → List Loc → Prop} {W : Nat} (hM : Does l y bytes maxL ret [] rm Z as' h Q) (has : (.ref a :: argsL).toArray = as') (hf : rm.frames + 1 ≤ R.frames) (hl : W + (maxL + 11) + rm.locals ≤ R.locals)
    (hcc : cells + rm.cells ≤ R.cells) (hss : slots + rm.slots ≤ R.slots) {g : JFrame} (hg : g.method = m) (hsize : g.locals.size = c.maxLocals) (hlen : ∀ sig, parseMethodDescriptor y.desc = some sig → argsL.length = sig.parameters.length) (hst : g.stack = argsL.reverse ++ .ref a :: rest) (hW : 2 * g.monitorRoom + (rest.map fun v => v.category).sum ≤ W) (hd : decode c.code g.pc = .ok (.invokevirtual index, 3)) :
    ∃ v T' L, Stand p l e R s m args below meth c T' (locs ++ L) (cells + rm.cells) (slots + rm.slots) ∧ Q v T'.heap L ∧ ∀ target, Steps p.tables e below (T'.setTop { g with pc := g.pc + 3, stack := v.toList ++ rest }) target → Steps p.tables e below (T.setTop g) target := by
  obtain ⟨cB, kB, q1, q2, q3⟩ := isOf hZ eT E
  obtain ⟨v, vm1, ⟨T', L', k', n'⟩, -, X', ⟨L, hQ, e1, e2, e3⟩, st⟩ := X.virtualBack hx (y := y) (z := y) hown (mvT hZ w1) (mvT hZ w2) (notFace_of_selects (args := args) (mvT hZ w3)) (mvT hZ w3) (mvT hZ w4) hy (backOf (W := W) hM hZ w5 w6 hf hl) q1 q3 hg hsize (Steps.refl _) hlen hst hW hd (fun _ _ => ⟨has, eT, hcc, hss⟩)
  dsimp only [Pt.U, Pt.locs, Pt.cells, Pt.slots] at X' e1 e2 e3 st hQ
  subst e1 e2 e3
  exact ⟨v, T', L, X', hQ, fun t k => st.trans k⟩
theorem callC (X : Stand p l e R s m args below meth c T locs cells slots) (hx : p.tables.exec = Jvm.exec) (hZ : Z.Warmed39 s.vm) {own : String} {index : Nat} {y : MethodName} (hown : s.vm.findClass own = some m.cls) {bytes : ByteArray} {maxL : Nat} {ret : Option FieldType} {rm : Room}
    (w1 : (Cond.methodLink own index y).before a0 Z = true) (w2 : (Cond.static y).before a0 Z = true) (w3 : (Cond.code y bytes maxL ret).before a0 Z = true) (w4 : (Cond.initialized y.cls).before a0 Z = true) (hy : y.cls ≠ "java/lang/invoke/MethodHandle" ∧ y.cls ≠ "java/lang/invoke/VarHandle")
    (eT : T.heap = h) {argsL rest : List Value} {as' : Array Value} {Q : Option Value → Heap → List Loc → Prop} {W : Nat} (hM : Does l y bytes maxL ret [] rm Z as' h Q) (has : argsL.toArray = as') (hf : rm.frames + 1 ≤ R.frames) (hl : W + (maxL + 11) + rm.locals ≤ R.locals)
    (hcc : cells + rm.cells ≤ R.cells) (hss : slots + rm.slots ≤ R.slots) {g : JFrame} (hg : g.method = m) (hsize : g.locals.size = c.maxLocals) (hlen : ∀ sig, parseMethodDescriptor y.desc = some sig → argsL.length = sig.parameters.length) (hst : g.stack = argsL.reverse ++ rest) (hW : 2 * g.monitorRoom + (rest.map fun v => v.category).sum ≤ W) (hd : decode c.code g.pc = .ok (.invokestatic index, 3)) :
    ∃ v T' L, Stand p l e R s m args below meth c T' (locs ++ L) (cells + rm.cells) (slots + rm.slots) ∧ Q v T'.heap L ∧ ∀ target, Steps p.tables e below (T'.setTop { g with pc := g.pc + 3, stack := v.toList ++ rest }) target → Steps p.tables e below (T.setTop g) target := by
  obtain ⟨v, vm1, ⟨T', L', k', n'⟩, -, X', ⟨L, hQ, e1, e2, e3⟩, st⟩ := Jvm.LawKit.callS X hx (y := y) hown (mvT hZ w1) (mvT hZ w2) (mvT hZ w4) (mvT hZ w3) hy (backOf (W := W) hM hZ w3 w4 hf hl) hg hsize hlen hst hW hd (fun _ _ => ⟨has, eT, hcc, hss⟩)
  dsimp only [Pt.U, Pt.locs, Pt.cells, Pt.slots] at X' e1 e2 e3 st hQ
  subst e1 e2 e3
  exact ⟨v, T', L, X', hQ, st⟩
end Own
end Jvm.RoadKit
namespace Jvm.Free.XS
open Sem ClassFile Op Lib
theorem lcmpS {tb : Tables} [Ours tb] {e : Env} {below : List Frame} {T target : State} {m : MethodId} {c : Code} {g : JFrame} (h : At T m c below) (hx : tb.exec = Jvm.exec) (hg : g.method = m) {x y : Int64} {v : Int32} {rest : List Value} (hd : decode c.code g.pc = .ok (.lcmp, 1)) (hs : g.stack = .long y :: .long x :: rest) (hv : Jvm.RoadKit.lcmpW x y = v)
    (hr : Steps tb e below (T.setTop { g with pc := g.pc + 1, stack := .int v :: rest }) target) : Steps tb e below (T.setTop g) target := by
  subst hv
  exact lcmp h hx hg hd hs hr
end Jvm.Free.XS
namespace Jvm.RoadKit
open Sem ClassFile Op Lib Jvm.Stand Jvm.Free Jvm.LawKit Jvm.FP Jvm.Free.Fl
section OwnD
theorem own_cmp (i j : Int) : compare i j = if i < j then Ordering.lt else if i = j then Ordering.eq else Ordering.gt := rfl
theorem cmpL_lt {x y : Int64} (h : x < y) : lcmpW x y = -1 := by
  have h' := Int64.lt_iff_toInt_lt.mp h
  show (if y < x then (1 : Int32) else if x = y then 0 else -1) = -1
  rw [if_neg (fun q => by have := Int64.lt_iff_toInt_lt.mp q; omega), if_neg (fun q => by rw [q] at h'; omega)]
theorem cmpL_eq {x y : Int64} (h : x = y) : lcmpW x y = 0 := by
  subst h
  show (if x < x then (1 : Int32) else if x = x then 0 else -1) = 0
  rw [if_neg (fun q => by have := Int64.lt_iff_toInt_lt.mp q; omega), if_pos rfl]
theorem cmpL_gt {x y : Int64} (h : y < x) : lcmpW x y = 1 := by
  show (if y < x then (1 : Int32) else if x = y then 0 else -1) = 1
  rw [if_pos h]
theorem DInt_nn {i : Int} {x : UInt64} (h : Core.DInt i x) : NoNaN64 x := val64_no.mpr (Core.DInt_ne_nan h)
theorem DInt_fin {i : Int} {x : UInt64} (h : Core.DInt i x) : Fin64 x := fin64_core.mpr (by
  have h' : Core.Whole i (Core.val64 x) := h
  cases q : Core.val64 x with
  | nan => rw [q] at h'; exact h'.elim
  | inf s => rw [q] at h'; exact h'.elim
  | fin s c e => exact ⟨s, c, e, q⟩)
theorem cmpD_lt {i j : Int} {x y : UInt64} (hx : Core.DInt i x) (hy : Core.DInt j y) (h : i < j) (o : CmpOp) : cmpValue (FP.dcmp x y) o = -1 := by
  rw [show FP.dcmp x y = _ from Core.dcmp_int hx hy, own_cmp, if_pos h]; rfl
theorem cmpD_eq {i j : Int} {x y : UInt64} (hx : Core.DInt i x) (hy : Core.DInt j y) (h : i = j) (o : CmpOp) : cmpValue (FP.dcmp x y) o = 0 := by
  rw [show FP.dcmp x y = _ from Core.dcmp_int hx hy, own_cmp, if_neg (by omega), if_pos h]; rfl
theorem cmpD_gt {i j : Int} {x y : UInt64} (hx : Core.DInt i x) (hy : Core.DInt j y) (h : j < i) (o : CmpOp) : cmpValue (FP.dcmp x y) o = 1 := by
  rw [show FP.dcmp x y = _ from Core.dcmp_int hx hy, own_cmp, if_neg (by omega), if_neg (by omega)]; rfl
theorem DInt_zero : Core.DInt 0 0 := by
  have h := Core.l2d_int (a := 0) (by decide)
  rw [show Core.l2d 0 = 0 from l2d_zero] at h
  exact h
theorem DInt_i2d {x : Int32} {d : UInt64} (q : FP.i2d x = d) : Core.DInt x.toInt d := q ▸ Core.i2d_int x
theorem DInt_l2d {x : Int64} {d : UInt64} (q : FP.l2d x = d) (h : x.toInt.natAbs ≤ 2 ^ 53) : Core.DInt x.toInt d := q ▸ Core.l2d_int h
theorem DInt_add {i j : Int} {a b d : UInt64} (q : FP.dadd a b = d) (ha : Core.DInt i a) (hb : Core.DInt j b) (h : (i + j).natAbs ≤ 2 ^ 53) : Core.DInt (i + j) d := q ▸ Core.dadd_int ha hb h
theorem DInt_sub {i j : Int} {a b d : UInt64} (q : FP.dsub a b = d) (ha : Core.DInt i a) (hb : Core.DInt j b) (h : (i - j).natAbs ≤ 2 ^ 53) : Core.DInt (i - j) d := q ▸ Core.dsub_int ha hb h
theorem DInt_mul {i j : Int} {a b d : UInt64} (q : FP.dmul a b = d) (ha : Core.DInt i a) (hb : Core.DInt j b) (h : (i * j).natAbs ≤ 2 ^ 53) : Core.DInt (i * j) d := q ▸ Core.dmul_int ha hb h
end OwnD
/-! an array by the list of its values -/
def Sar (Z : State) (h : Heap) (a : Addr) (ty : FieldType) (vs : List Value) : Prop := ∃ c : Cell, Arr Z h a c ty ∧ c.slots = vs.toArray
section OwnA
variable {p : Program} {l : Launch} {e : Env} {R : Room} {s : State} {m : MethodId} {args : Array Value} {below : List Frame} {meth : Method} {c : Code} {T : State} {locs : List Loc} {cells slots : Nat} {Z : State} {a0 : Array Value} {h h' : Heap} {a b : Addr} {ty : FieldType} {vs : List Value} {sl : Nat} {v : Value} {ws : List Addr}
theorem Sar.lt (F : Sar Z h a ty vs) : a < h.size := by obtain ⟨c, A, -⟩ := F; exact A.lt
theorem Sar.ext (F : Sar Z h a ty vs) (E : Ext h h') : Sar Z h' a ty vs := by obtain ⟨c, A, r⟩ := F; exact ⟨c, A.ext E, r⟩
theorem Sar.other (F : Sar Z h b ty vs) (W : Wr h h' a sl v) (q : b ≠ a) : Sar Z h' b ty vs := by obtain ⟨c, A, r⟩ := F; exact ⟨c, A.other W q, r⟩
theorem Sar.keep (F : Sar Z h a ty vs) (K : Keep h h' ws) (q : a ∉ ws) : Sar Z h' a ty vs := by obtain ⟨c, A, r⟩ := F; exact ⟨c, ⟨K.2.1 a c A.1 q, A.2⟩, r⟩
theorem Sar.new {k : ClassId} {z : Int32} {n : Nat} (A : Arr Z h a (newA k ty z) ty) (hn : z.toNatClampNeg = n) : Sar Z h a ty (List.replicate n (defaultValue ty)) := ⟨_, A, by subst hn; show Array.replicate _ _ = _; simp⟩
theorem Sar.in {cl : Cell} {j : Int32} {i : Nat} (S : cl.slots = vs.toArray) (hj : j.toInt = i) (hi : i < vs.length) : ¬ (j < 0 ∨ cl.slots.size ≤ j.toNatClampNeg) := by
  rw [S]
  have q : j.toNatClampNeg = i := by show j.toInt.toNat = i; omega
  have r : ¬ j < 0 := fun z => by have z' := Int32.lt_iff_toInt_lt.mp z; rw [hj] at z'; simp at z'; omega
  rw [q]
  simp only [List.size_toArray]
  intro z
  rcases z with z | z
  · exact r z
  · omega
theorem Sar.nat {j : Int32} {i : Nat} (hj : j.toInt = i) : j.toNatClampNeg = i := by show j.toInt.toNat = i; omega
theorem stDS (X : Stand p l e R s m args below meth c T locs cells slots) (hx : p.tables.exec = Jvm.exec) (hZ : Z.Warmed39 s.vm) (eT : T.heap = h) (V : Sar Z h a .double vs) {j : Int32} {x : UInt64} (i : Nat) (hj : j.toInt = i) (hi : i < vs.length) {g : JFrame} (hg : g.method = m) {rest : List Value} (hs : g.stack = .double x :: .int j :: .ref a :: rest) (hd : decode c.code g.pc = .ok (.dastore, 1)) :
    ∃ T' h', Stand p l e R s m args below meth c T' (locs ++ [⟨a, i⟩]) cells slots ∧ T'.heap = h' ∧ Wr h h' a i (.double x) ∧ Sar Z h' a .double (vs.set i (.double x)) ∧ ∀ target, Steps p.tables e below (T'.setTop { g with pc := g.pc + 1, stack := rest }) target → Steps p.tables e below (T.setTop g) target := by
  obtain ⟨cl, A, S⟩ := V
  obtain ⟨T', h', X', e', W, st⟩ := stD X hx hZ eT A (Sar.in S hj hi) hg hs hd
  rw [Sar.nat hj] at X' W
  exact ⟨T', h', X', e', W, ⟨_, A.same W, by show cl.slots.setIfInBounds _ _ = _; rw [S]; simp⟩, st⟩
theorem stIS (X : Stand p l e R s m args below meth c T locs cells slots) (hx : p.tables.exec = Jvm.exec) (hZ : Z.Warmed39 s.vm) (eT : T.heap = h) (V : Sar Z h a .int vs) {j : Int32} {x : Int32} (i : Nat) (hj : j.toInt = i) (hi : i < vs.length) {g : JFrame} (hg : g.method = m) {rest : List Value} (hs : g.stack = .int x :: .int j :: .ref a :: rest) (hd : decode c.code g.pc = .ok (.iastore, 1)) :
    ∃ T' h', Stand p l e R s m args below meth c T' (locs ++ [⟨a, i⟩]) cells slots ∧ T'.heap = h' ∧ Wr h h' a i (.int x) ∧ Sar Z h' a .int (vs.set i (.int x)) ∧ ∀ target, Steps p.tables e below (T'.setTop { g with pc := g.pc + 1, stack := rest }) target → Steps p.tables e below (T.setTop g) target := by
  obtain ⟨cl, A, S⟩ := V
  obtain ⟨T', h', X', e', W, st⟩ := stI X hx hZ eT A (Sar.in S hj hi) hg hs hd
  rw [Sar.nat hj] at X' W
  exact ⟨T', h', X', e', W, ⟨_, A.same W, by show cl.slots.setIfInBounds _ _ = _; rw [S]; simp⟩, st⟩
theorem ldDS (X : Stand p l e R s m args below meth c T locs cells slots) (hx : p.tables.exec = Jvm.exec) (hZ : Z.Warmed39 s.vm) (eT : T.heap = h) (V : Sar Z h a .double vs) {j : Int32} (i : Nat) (hj : j.toInt = i) (hv : vs[i]? = some v) {g : JFrame} (hg : g.method = m) {rest : List Value} (hs : g.stack = .int j :: .ref a :: rest) (hd : decode c.code g.pc = .ok (.daload, 1)) :
    ∀ target, Steps p.tables e below (T.setTop { g with pc := g.pc + 1, stack := v :: rest }) target → Steps p.tables e below (T.setTop g) target := by
  obtain ⟨cl, A, S⟩ := V
  have hi : i < vs.length := (List.getElem?_eq_some_iff.mp hv).1
  exact X.daload hx (by rw [eT]; exact A.1) (State.isArrayOf_alike hZ.alike A.2.1) A.2.2 (Sar.in S hj hi) (by rw [S, Sar.nat hj]; simpa using hv) hg hs hd
theorem ldIS (X : Stand p l e R s m args below meth c T locs cells slots) (hx : p.tables.exec = Jvm.exec) (hZ : Z.Warmed39 s.vm) (eT : T.heap = h) (V : Sar Z h a .int vs) {j : Int32} (i : Nat) (hj : j.toInt = i) (hv : vs[i]? = some v) {g : JFrame} (hg : g.method = m) {rest : List Value} (hs : g.stack = .int j :: .ref a :: rest) (hd : decode c.code g.pc = .ok (.iaload, 1)) :
    ∀ target, Steps p.tables e below (T.setTop { g with pc := g.pc + 1, stack := v :: rest }) target → Steps p.tables e below (T.setTop g) target := by
  obtain ⟨cl, A, S⟩ := V
  have hi : i < vs.length := (List.getElem?_eq_some_iff.mp hv).1
  exact X.iaload hx (by rw [eT]; exact A.1) (State.isArrayOf_alike hZ.alike A.2.1) A.2.2 (Sar.in S hj hi) (by rw [S, Sar.nat hj]; simpa using hv) hg hs hd
theorem lenS (X : Stand p l e R s m args below meth c T locs cells slots) (hx : p.tables.exec = Jvm.exec) (hZ : Z.Warmed39 s.vm) (eT : T.heap = h) (V : Sar Z h a ty vs) {n : Int32} (hn : vs.length.toInt32 = n) {g : JFrame} (hg : g.method = m) {rest : List Value} (hs : g.stack = .ref a :: rest) (hd : decode c.code g.pc = .ok (.arraylength, 1)) :
    ∀ target, Steps p.tables e below (T.setTop { g with pc := g.pc + 1, stack := .int n :: rest }) target → Steps p.tables e below (T.setTop g) target := by
  obtain ⟨cl, A, S⟩ := V
  intro target k
  refine X.arraylength hx (by rw [eT]; exact A.1) (State.isArrayOf_alike hZ.alike A.2.1) hg hs hd target ?_
  rw [S]
  simp only [List.size_toArray, hn]
  exact k
end OwnA
end Jvm.RoadKit
namespace Jvm.RoadKit
open Jvm.FP Jvm.Free.Fl
theorem DInt_nz {i : Int} {x : UInt64} (h : Core.DInt i x) (hi : i ≠ 0) : Nz64 x := nz64_core.mpr fun z => by
  obtain ⟨s, q, e⟩ := z
  have h' : Core.Whole i (Core.val64 x) := h
  rw [e] at h'
  exact hi ((Core.whole_zero h').mp rfl)
theorem DInt_one : Core.DInt 1 4607182418800017408 := Core.dint_one
end Jvm.RoadKit
namespace Jvm.RoadKit
open Jvm.FP Jvm.Free.Fl Op
theorem cmpD_le {i j : Int} {x y : UInt64} (hx : Core.DInt i x) (hy : Core.DInt j y) (h : i ≤ j) (o : ClassFile.CmpOp) : ∃ v : Int32, cmpValue (FP.dcmp x y) o = v ∧ ¬ (0 : Int32) < v := by
  by_cases q : i < j
  · exact ⟨-1, cmpD_lt hx hy q o, by decide⟩
  · exact ⟨0, cmpD_eq hx hy (by omega) o, by decide⟩
theorem cmpD_ge {i j : Int} {x y : UInt64} (hx : Core.DInt i x) (hy : Core.DInt j y) (h : j ≤ i) (o : ClassFile.CmpOp) : ∃ v : Int32, cmpValue (FP.dcmp x y) o = v ∧ ¬ v < (0 : Int32) := by
  by_cases q : j < i
  · exact ⟨1, cmpD_gt hx hy q o, by decide⟩
  · exact ⟨0, cmpD_eq hx hy (by omega) o, by decide⟩
end Jvm.RoadKit
namespace Jvm.RoadKit
open Jvm.Free
theorem cmpL_le {x y : Int64} (h : ¬ y.toInt < x.toInt) : ∃ v : Int32, lcmpW x y = v ∧ ¬ (0 : Int32) < v := by
  by_cases q : x.toInt < y.toInt
  · exact ⟨-1, cmpL_lt (Int64.lt_iff_toInt_lt.mpr q), by decide⟩
  · exact ⟨0, cmpL_eq (Int64.toInt_inj.mp (by omega)), by decide⟩
theorem cmpL_gtI {x y : Int64} (h : y.toInt < x.toInt) : lcmpW x y = 1 := cmpL_gt (Int64.lt_iff_toInt_lt.mpr h)
end Jvm.RoadKit
namespace Jvm.RoadKit
open Jvm.Free
theorem cmpL_ge {x y : Int64} (h : ¬ x.toInt < y.toInt) : ∃ v : Int32, lcmpW x y = v ∧ ¬ v < (0 : Int32) := by
  by_cases q : y.toInt < x.toInt
  · exact ⟨1, cmpL_gtI q, by decide⟩
  · exact ⟨0, cmpL_eq (Int64.toInt_inj.mp (by omega)), by decide⟩
end Jvm.RoadKit
namespace Jvm.RoadKit
section OwnN
theorem own_mb {i j : Int} {A B : Nat} (hi : i.natAbs ≤ A) (hj : j.natAbs ≤ B) : (i * j).natAbs ≤ A * B := by rw [Int.natAbs_mul]; exact Nat.mul_le_mul hi hj
theorem own_mb2 {i j : Int} {A B : Nat} (hi : -(A : Int) ≤ i ∧ i ≤ A) (hj : -(B : Int) ≤ j ∧ j ≤ B) : -((A * B : Nat) : Int) ≤ i * j ∧ i * j ≤ ((A * B : Nat) : Int) := by
  have h := own_mb (i := i) (j := j) (A := A) (B := B) (by omega) (by omega)
  omega
theorem own_ladd {a b : Int64} (h1 : -9223372036854775808 ≤ a.toInt + b.toInt) (h2 : a.toInt + b.toInt < 9223372036854775808) : (a + b).toInt = a.toInt + b.toInt := by
  have := c_ladd a b; have := rng64 (a + b); omega
theorem own_lsub {a b : Int64} (h1 : -9223372036854775808 ≤ a.toInt - b.toInt) (h2 : a.toInt - b.toInt < 9223372036854775808) : (a - b).toInt = a.toInt - b.toInt := by
  have := c_lsub a b; have := rng64 (a - b); omega
theorem own_lmul {a b : Int64} (h : (a.toInt * b.toInt).natAbs < 9223372036854775808) : (a * b).toInt = a.toInt * b.toInt := by
  have := c_lmul a b; have := rng64 (a * b); omega
theorem own_short (x : Int32) : (x.toInt16.toInt32).toInt.natAbs ≤ 32768 := by
  have := c_i2s x; omega
theorem own_and3 (x : Int32) : (x &&& 3) = 0 ∨ (x &&& 3) = 1 ∨ (x &&& 3) = 2 ∨ (x &&& 3) = 3 := by
  have h := c_and x 3 (by decide)
  have e : (3 : Int32).toInt = 3 := by decide
  simp only [← Int32.toInt_inj]
  rw [show (0 : Int32).toInt = 0 from by decide, show (1 : Int32).toInt = 1 from by decide, show (2 : Int32).toInt = 2 from by decide, e]
  omega
end OwnN
end Jvm.RoadKit
namespace Jvm.Pilot.@@N@@
open Jvm Jvm.ClassFile Sem Op Lib Jvm.Free Jvm.Stand Jvm.LawKit Jvm.RoadKit Jvm.FP Jvm.Free.Fl Bundle Jvm.Pilot.@@N@@.Jvm.D
def own_pt (s k : Int32) (f : Int) : Int := if s = k then f else 0
theorem own_pt_y {s k : Int32} {f : Int} (h : s = k) : own_pt s k f = f := if_pos h
theorem own_pt_n {s k : Int32} {f : Int} (h : ¬ s = k) : own_pt s k f = 0 := if_neg h
theorem own_pt_b {s k : Int32} {f : Int} (h : -2147483648 ≤ f ∧ f ≤ 2147483648) : -2147483648 ≤ own_pt s k f ∧ own_pt s k f ≤ 2147483648 := by
  by_cases q : s = k
  · rw [own_pt_y q]; exact h
  · rw [own_pt_n q]; decide
theorem own_rem3 (x : Int32) (hx : 0 ≤ x.toInt) : x % 3 = 0 ∨ x % 3 = 1 ∨ x % 3 = 2 := by
  have h := (c_iremV x 3).1 hx (by decide)
  have e : (3 : Int32).toInt = 3 := by decide
  simp only [← Int32.toInt_inj]
  rw [show (0 : Int32).toInt = 0 from by decide, show (1 : Int32).toInt = 1 from by decide, show (2 : Int32).toInt = 2 from by decide]
  omega
theorem d1_0 : decode prog_6_method_2_code 0 = .ok (.aload_n 0, 1) := by decide +kernel
theorem d1_1 : decode prog_6_method_2_code 1 = .ok (.invokespecial 1, 3) := by decide +kernel
theorem d1_4 : decode prog_6_method_2_code 4 = .ok (.aload_n 0, 1) := by decide +kernel
theorem d1_5 : decode prog_6_method_2_code 5 = .ok (.aload_n 1, 1) := by decide +kernel
theorem d1_6 : decode prog_6_method_2_code 6 = .ok (.putfield 16, 3) := by decide +kernel
theorem d1_9 : decode prog_6_method_2_code 9 = .ok (.aload_n 0, 1) := by decide +kernel
theorem d1_10 : decode prog_6_method_2_code 10 = .ok (.aload_n 2, 1) := by decide +kernel
theorem d1_11 : decode prog_6_method_2_code 11 = .ok (.putfield 22, 3) := by decide +kernel
theorem d1_14 : decode prog_6_method_2_code 14 = .ok (.aload_n 0, 1) := by decide +kernel
theorem d1_15 : decode prog_6_method_2_code 15 = .ok (.aload_n 2, 1) := by decide +kernel
theorem d1_16 : decode prog_6_method_2_code 16 = .ok (.arraylength, 1) := by decide +kernel
theorem d1_17 : decode prog_6_method_2_code 17 = .ok (.newarray .double, 2) := by decide +kernel
theorem d1_19 : decode prog_6_method_2_code 19 = .ok (.putfield 25, 3) := by decide +kernel
theorem d1_22 : decode prog_6_method_2_code 22 = .ok (.aload_n 0, 1) := by decide +kernel
theorem d1_23 : decode prog_6_method_2_code 23 = .ok (.aload_n 1, 1) := by decide +kernel
theorem d1_24 : decode prog_6_method_2_code 24 = .ok (.arraylength, 1) := by decide +kernel
theorem d1_25 : decode prog_6_method_2_code 25 = .ok (.iconst 1, 1) := by decide +kernel
theorem d1_26 : decode prog_6_method_2_code 26 = .ok (.isub, 1) := by decide +kernel
theorem d1_27 : decode prog_6_method_2_code 27 = .ok (.newarray .double, 2) := by decide +kernel
theorem d1_29 : decode prog_6_method_2_code 29 = .ok (.putfield 29, 3) := by decide +kernel
theorem d1_32 : decode prog_6_method_2_code 32 = .ok (.return_, 1) := by decide +kernel
theorem pn0 : plainName "com/example/gibbon/gibbon/analysis/BalanceEquations" = true := by first | (simp [plainName, overriddenIn]; done) | decide +kernel
theorem pd0 : parseMethodDescriptor "([I[I)V" = some ⟨[(.array .int), (.array .int)], none⟩ := by decide +kernel
theorem ef_rm_init3 (m : MethodId) (x0 : Addr) (x1 : Addr) (x2 : Addr) : entryFrame m #[(.ref x0), (.ref x1), (.ref x2)] 3 = mkF m 0 #[.val (.ref x0), .val (.ref x1), .val (.ref x2)] [] := by first | (simp [entryFrame, mkF, argsToLocals, Value.category, maxLocals]; done) | rfl
set_option maxRecDepth 65536 in
set_option maxHeartbeats 40000000 in
theorem rm_init3 (l : Launch) (Z : State) (a0 : Array Value) (hw : ∀ d ∈ tables_1, d.before a0 Z = true) (a t so : Addr) (s0 s1 s2 t0 t1 t2 t3 : Int32) (h0 : Heap) (n0 : Nat) (Z0 : n0 ≤ h0.size) (EA : Exa Z h0 a "com/example/gibbon/gibbon/analysis/BalanceEquations") (F_start_a : Fld Z h0 a "com/example/gibbon/gibbon/analysis/BalanceEquations" "start" "[I" .null) (F_source_a : Fld Z h0 a "com/example/gibbon/gibbon/analysis/BalanceEquations" "source" "[I" .null) (F_rate_a : Fld Z h0 a "com/example/gibbon/gibbon/analysis/BalanceEquations" "rate" "[D" .null) (F_exitRate_a : Fld Z h0 a "com/example/gibbon/gibbon/analysis/BalanceEquations" "exitRate" "[D" .null) (VT : Sar Z h0 t .int [(.int t0), (.int t1), (.int t2), (.int t3)]) (VS : Sar Z h0 so .int [(.int s0), (.int s1), (.int s2)]) (nta : t ≠ a) (nsa : so ≠ a) (ga : n0 ≤ a) :
    Does l (⟨"com/example/gibbon/gibbon/analysis/BalanceEquations", "<init>", "([I[I)V"⟩ : MethodName) prog_6_method_2_code 3 none [] ({ frames := 1, cells := 2, slots := 6, locals := 12 } : Room) Z #[(.ref a), (.ref t), (.ref so)] h0 (fun v h L => v = none ∧ (∃ br be, h0.size ≤ br ∧ h0.size ≤ be ∧ br ≠ be ∧ Fld Z h a "com/example/gibbon/gibbon/analysis/BalanceEquations" "start" "[I" (.ref t) ∧ Fld Z h a "com/example/gibbon/gibbon/analysis/BalanceEquations" "source" "[I" (.ref so) ∧ Fld Z h a "com/example/gibbon/gibbon/analysis/BalanceEquations" "rate" "[D" (.ref br) ∧ Fld Z h a "com/example/gibbon/gibbon/analysis/BalanceEquations" "exitRate" "[D" (.ref be) ∧ Sar Z h br .double [(.double (0 : UInt64)), (.double (0 : UInt64)), (.double (0 : UInt64))] ∧ Sar Z h be .double [(.double (0 : UInt64)), (.double (0 : UInt64)), (.double (0 : UInt64))]) ∧ Keep h0 h [a] ∧ Fr n0 L) := by
  refine Does.of (plainFor_of_name pn0) ?_
  intro p e s m below meth c s₁ hx hby hml hret hlk hZ hown hnm X0 e0
  have N0 := Fr.nil n0
  refine Goes.cast (g' := mkF m 0 #[.val (.ref a), .val (.ref t), .val (.ref so)] []) (ef_rm_init3 m a t so) ?_
  have K0 := Keep.refl h0 [a]
  refine Goes.by (T' := s₁) (g' := (mkF m 1 #[.val (.ref a), .val (.ref t), .val (.ref so)] [(.ref a)])) (fun _ k => XS.aloadN X0.here hx rfl (hb hby d1_0) rfl rfl k) ?_
  obtain ⟨T1, X1, e1, st1⟩ := initO X0 hx hZ hown (hw _ (List.mem_of_getElem? (i := 7) rfl)) (hw _ (List.mem_of_getElem? (i := 8) rfl)) (hw _ (List.mem_of_getElem? (i := 9) rfl)) e0 (g := (mkF m 1 #[.val (.ref a), .val (.ref t), .val (.ref so)] [(.ref a)])) rfl (by rw [hml]; rfl) rfl (hb hby d1_1) (by decide) (W := 0) (by show 2 * 0 + _ ≤ _; exact Nat.le_of_eq rfl) (by decide)
  refine Goes.by (T' := T1) (g' := (mkF m 4 #[.val (.ref a), .val (.ref t), .val (.ref so)] [])) st1 ?_
  refine Goes.by (T' := T1) (g' := (mkF m 5 #[.val (.ref a), .val (.ref t), .val (.ref so)] [(.ref a)])) (fun _ k => XS.aloadN X1.here hx rfl (hb hby d1_4) rfl rfl k) ?_
  refine Goes.by (T' := T1) (g' := (mkF m 6 #[.val (.ref a), .val (.ref t), .val (.ref so)] [(.ref t), (.ref a)])) (fun _ k => XS.aloadN X1.here hx rfl (hb hby d1_5) rfl rfl k) ?_
  obtain ⟨T2, h2, X2, e2, W2, st2⟩ := putF X1 hx hZ hown (host := "") (Or.inl (hw _ (List.mem_of_getElem? (i := 10) rfl))) Via.refl e1 F_start_a EA (Or.inr ⟨(hw _ (List.mem_of_getElem? (i := 11) rfl)), rfl, hnm⟩) (hw _ (List.mem_of_getElem? (i := 1) rfl)) (ty := (.array .int)) (by decide) rfl rfl (g := (mkF m 6 #[.val (.ref a), .val (.ref t), .val (.ref so)] [(.ref t), (.ref a)])) rfl rfl (hb hby d1_6)
  have N0 := Fr.snoc X2 N0 ga
  have EA := EA.wr W2
  have F_start_a := F_start_a.same W2
  have F_source_a := F_source_a.other W2 (Or.inr (slot_ne (t := (.array .int)) (t' := (.array .int)) (Or.inr (hw _ (List.mem_of_getElem? (i := 13) rfl))) (Or.inr (hw _ (List.mem_of_getElem? (i := 11) rfl))) (by decide) (by decide) (by decide)))
  have F_rate_a := F_rate_a.other W2 (Or.inr (slot_ne (t := (.array .double)) (t' := (.array .int)) (Or.inr (hw _ (List.mem_of_getElem? (i := 16) rfl))) (Or.inr (hw _ (List.mem_of_getElem? (i := 11) rfl))) (by decide) (by decide) (by decide)))
  have F_exitRate_a := F_exitRate_a.other W2 (Or.inr (slot_ne (t := (.array .double)) (t' := (.array .int)) (Or.inr (hw _ (List.mem_of_getElem? (i := 18) rfl))) (Or.inr (hw _ (List.mem_of_getElem? (i := 11) rfl))) (by decide) (by decide) (by decide)))
  have VT := VT.other W2 nta
  have VS := VS.other W2 nsa
  have Z0 := Nat.le_trans Z0 (Nat.le_of_eq W2.size.symm)
  have K0 := K0.wr W2 (Or.inl (List.mem_singleton.mpr rfl))
  refine Goes.by (T' := T2) (g' := (mkF m 9 #[.val (.ref a), .val (.ref t), .val (.ref so)] [])) st2 ?_
  refine Goes.by (T' := T2) (g' := (mkF m 10 #[.val (.ref a), .val (.ref t), .val (.ref so)] [(.ref a)])) (fun _ k => XS.aloadN X2.here hx rfl (hb hby d1_9) rfl rfl k) ?_
  refine Goes.by (T' := T2) (g' := (mkF m 11 #[.val (.ref a), .val (.ref t), .val (.ref so)] [(.ref so), (.ref a)])) (fun _ k => XS.aloadN X2.here hx rfl (hb hby d1_10) rfl rfl k) ?_
  obtain ⟨T3, h3, X3, e3, W3, st3⟩ := putF X2 hx hZ hown (host := "") (Or.inl (hw _ (List.mem_of_getElem? (i := 12) rfl))) Via.refl e2 F_source_a EA (Or.inr ⟨(hw _ (List.mem_of_getElem? (i := 13) rfl)), rfl, hnm⟩) (hw _ (List.mem_of_getElem? (i := 1) rfl)) (ty := (.array .int)) (by decide) rfl rfl (g := (mkF m 11 #[.val (.ref a), .val (.ref t), .val (.ref so)] [(.ref so), (.ref a)])) rfl rfl (hb hby d1_11)
  have N0 := Fr.snoc X3 N0 ga
  have EA := EA.wr W3
  have F_start_a := F_start_a.other W3 (Or.inr (slot_ne (t := (.array .int)) (t' := (.array .int)) (Or.inr (hw _ (List.mem_of_getElem? (i := 11) rfl))) (Or.inr (hw _ (List.mem_of_getElem? (i := 13) rfl))) (by decide) (by decide) (by decide)))
  have F_source_a := F_source_a.same W3
  have F_rate_a := F_rate_a.other W3 (Or.inr (slot_ne (t := (.array .double)) (t' := (.array .int)) (Or.inr (hw _ (List.mem_of_getElem? (i := 16) rfl))) (Or.inr (hw _ (List.mem_of_getElem? (i := 13) rfl))) (by decide) (by decide) (by decide)))
  have F_exitRate_a := F_exitRate_a.other W3 (Or.inr (slot_ne (t := (.array .double)) (t' := (.array .int)) (Or.inr (hw _ (List.mem_of_getElem? (i := 18) rfl))) (Or.inr (hw _ (List.mem_of_getElem? (i := 13) rfl))) (by decide) (by decide) (by decide)))
  have VT := VT.other W3 nta
  have VS := VS.other W3 nsa
  have Z0 := Nat.le_trans Z0 (Nat.le_of_eq W3.size.symm)
  have K0 := K0.wr W3 (Or.inl (List.mem_singleton.mpr rfl))
  refine Goes.by (T' := T3) (g' := (mkF m 14 #[.val (.ref a), .val (.ref t), .val (.ref so)] [])) st3 ?_
  refine Goes.by (T' := T3) (g' := (mkF m 15 #[.val (.ref a), .val (.ref t), .val (.ref so)] [(.ref a)])) (fun _ k => XS.aloadN X3.here hx rfl (hb hby d1_14) rfl rfl k) ?_
  refine Goes.by (T' := T3) (g' := (mkF m 16 #[.val (.ref a), .val (.ref t), .val (.ref so)] [(.ref so), (.ref a)])) (fun _ k => XS.aloadN X3.here hx rfl (hb hby d1_15) rfl rfl k) ?_
  refine Goes.by (T' := T3) (g' := (mkF m 17 #[.val (.ref a), .val (.ref t), .val (.ref so)] [(.int (3 : Int32)), (.ref a)])) (lenS X3 hx hZ e3 VS (n := (3 : Int32)) rfl (g := (mkF m 16 #[.val (.ref a), .val (.ref t), .val (.ref so)] [(.ref so), (.ref a)])) rfl rfl (hb hby d1_16)) ?_
  obtain ⟨T4, h4, k4, X4, e4, E4, A4, st4⟩ := newP X3 hx hZ (hw _ (List.mem_of_getElem? (i := 14) rfl)) e3 (g := (mkF m 17 #[.val (.ref a), .val (.ref t), .val (.ref so)] [(.int (3 : Int32)), (.ref a)])) rfl (hb hby d1_17) rfl (by decide) (cap := 3) (by decide) (by decide) (by decide) (by decide)
  obtain ⟨br, g4⟩ : ∃ z, z = h3.size := ⟨_, rfl⟩
  rw [← g4] at A4 st4
  have ne_a_br : a ≠ br := fun q => Nat.lt_irrefl _ (Nat.lt_of_lt_of_eq EA.lt (g4.symm.trans q.symm))
  have ne_t_br : t ≠ br := fun q => Nat.lt_irrefl _ (Nat.lt_of_lt_of_eq VT.lt (g4.symm.trans q.symm))
  have ne_so_br : so ≠ br := fun q => Nat.lt_irrefl _ (Nat.lt_of_lt_of_eq VS.lt (g4.symm.trans q.symm))
  have ge_br : n0 ≤ br := Nat.le_trans Z0 (Nat.le_of_eq g4.symm)
  have sz_br : h0.size ≤ br := Nat.le_trans K0.1 (Nat.le_of_eq g4.symm)
  have EA := EA.ext E4
  have F_start_a := F_start_a.ext E4
  have F_source_a := F_source_a.ext E4
  have F_rate_a := F_rate_a.ext E4
  have F_exitRate_a := F_exitRate_a.ext E4
  have VT := VT.ext E4
  have VS := VS.ext E4
  have Z0 := Nat.le_trans Z0 E4.1
  have K0 := K0.ext E4
  have V_br : Sar Z h4 br .double [(.double (0 : UInt64)), (.double (0 : UInt64)), (.double (0 : UInt64))] := Sar.new (n := 3) A4 (by decide)
  refine Goes.by (T' := T4) (g' := (mkF m 19 #[.val (.ref a), .val (.ref t), .val (.ref so)] [(.ref br), (.ref a)])) st4 ?_
  obtain ⟨T5, h5, X5, e5, W5, st5⟩ := putF X4 hx hZ hown (host := "") (Or.inl (hw _ (List.mem_of_getElem? (i := 15) rfl))) Via.refl e4 F_rate_a EA (Or.inr ⟨(hw _ (List.mem_of_getElem? (i := 16) rfl)), rfl, hnm⟩) (hw _ (List.mem_of_getElem? (i := 1) rfl)) (ty := (.array .double)) (by decide) rfl rfl (g := (mkF m 19 #[.val (.ref a), .val (.ref t), .val (.ref so)] [(.ref br), (.ref a)])) rfl rfl (hb hby d1_19)
  have N0 := Fr.snoc X5 N0 ga
  have EA := EA.wr W5
  have F_start_a := F_start_a.other W5 (Or.inr (slot_ne (t := (.array .int)) (t' := (.array .double)) (Or.inr (hw _ (List.mem_of_getElem? (i := 11) rfl))) (Or.inr (hw _ (List.mem_of_getElem? (i := 16) rfl))) (by decide) (by decide) (by decide)))
  have F_source_a := F_source_a.other W5 (Or.inr (slot_ne (t := (.array .int)) (t' := (.array .double)) (Or.inr (hw _ (List.mem_of_getElem? (i := 13) rfl))) (Or.inr (hw _ (List.mem_of_getElem? (i := 16) rfl))) (by decide) (by decide) (by decide)))
  have F_rate_a := F_rate_a.same W5
  have F_exitRate_a := F_exitRate_a.other W5 (Or.inr (slot_ne (t := (.array .double)) (t' := (.array .double)) (Or.inr (hw _ (List.mem_of_getElem? (i := 18) rfl))) (Or.inr (hw _ (List.mem_of_getElem? (i := 16) rfl))) (by decide) (by decide) (by decide)))
  have VT := VT.other W5 nta
  have VS := VS.other W5 nsa
  have V_br := V_br.other W5 (Ne.symm ne_a_br)
  have Z0 := Nat.le_trans Z0 (Nat.le_of_eq W5.size.symm)
  have K0 := K0.wr W5 (Or.inl (List.mem_singleton.mpr rfl))
  refine Goes.by (T' := T5) (g' := (mkF m 22 #[.val (.ref a), .val (.ref t), .val (.ref so)] [])) st5 ?_
  refine Goes.by (T' := T5) (g' := (mkF m 23 #[.val (.ref a), .val (.ref t), .val (.ref so)] [(.ref a)])) (fun _ k => XS.aloadN X5.here hx rfl (hb hby d1_22) rfl rfl k) ?_
  refine Goes.by (T' := T5) (g' := (mkF m 24 #[.val (.ref a), .val (.ref t), .val (.ref so)] [(.ref t), (.ref a)])) (fun _ k => XS.aloadN X5.here hx rfl (hb hby d1_23) rfl rfl k) ?_
  refine Goes.by (T' := T5) (g' := (mkF m 25 #[.val (.ref a), .val (.ref t), .val (.ref so)] [(.int (4 : Int32)), (.ref a)])) (lenS X5 hx hZ e5 VT (n := (4 : Int32)) rfl (g := (mkF m 24 #[.val (.ref a), .val (.ref t), .val (.ref so)] [(.ref t), (.ref a)])) rfl rfl (hb hby d1_24)) ?_
  refine Goes.by (T' := T5) (g' := (mkF m 26 #[.val (.ref a), .val (.ref t), .val (.ref so)] [(.int (1 : Int32)), (.int (4 : Int32)), (.ref a)])) (fun _ k => XS.iconst X5.here hx rfl (hb hby d1_25)  k) ?_
  refine Goes.by (T' := T5) (g' := (mkF m 27 #[.val (.ref a), .val (.ref t), .val (.ref so)] [(.int (3 : Int32)), (.ref a)])) (fun _ k => XS.isub X5.here hx rfl (hb hby d1_26) rfl k) ?_
  obtain ⟨T6, h6, k6, X6, e6, E6, A6, st6⟩ := newP X5 hx hZ (hw _ (List.mem_of_getElem? (i := 14) rfl)) e5 (g := (mkF m 27 #[.val (.ref a), .val (.ref t), .val (.ref so)] [(.int (3 : Int32)), (.ref a)])) rfl (hb hby d1_27) rfl (by decide) (cap := 3) (by decide) (by decide) (by decide) (by decide)
  obtain ⟨be, g6⟩ : ∃ z, z = h5.size := ⟨_, rfl⟩
  rw [← g6] at A6 st6
  have ne_a_be : a ≠ be := fun q => Nat.lt_irrefl _ (Nat.lt_of_lt_of_eq EA.lt (g6.symm.trans q.symm))
  have ne_t_be : t ≠ be := fun q => Nat.lt_irrefl _ (Nat.lt_of_lt_of_eq VT.lt (g6.symm.trans q.symm))
  have ne_so_be : so ≠ be := fun q => Nat.lt_irrefl _ (Nat.lt_of_lt_of_eq VS.lt (g6.symm.trans q.symm))
  have ne_br_be : br ≠ be := fun q => Nat.lt_irrefl _ (Nat.lt_of_lt_of_eq V_br.lt (g6.symm.trans q.symm))
  have ge_be : n0 ≤ be := Nat.le_trans Z0 (Nat.le_of_eq g6.symm)
  have sz_be : h0.size ≤ be := Nat.le_trans K0.1 (Nat.le_of_eq g6.symm)
  have EA := EA.ext E6
  have F_start_a := F_start_a.ext E6
  have F_source_a := F_source_a.ext E6
  have F_rate_a := F_rate_a.ext E6
  have F_exitRate_a := F_exitRate_a.ext E6
  have VT := VT.ext E6
  have VS := VS.ext E6
  have V_br := V_br.ext E6
  have Z0 := Nat.le_trans Z0 E6.1
  have K0 := K0.ext E6
  have V_be : Sar Z h6 be .double [(.double (0 : UInt64)), (.double (0 : UInt64)), (.double (0 : UInt64))] := Sar.new (n := 3) A6 (by decide)
  refine Goes.by (T' := T6) (g' := (mkF m 29 #[.val (.ref a), .val (.ref t), .val (.ref so)] [(.ref be), (.ref a)])) st6 ?_
  obtain ⟨T7, h7, X7, e7, W7, st7⟩ := putF X6 hx hZ hown (host := "") (Or.inl (hw _ (List.mem_of_getElem? (i := 17) rfl))) Via.refl e6 F_exitRate_a EA (Or.inr ⟨(hw _ (List.mem_of_getElem? (i := 18) rfl)), rfl, hnm⟩) (hw _ (List.mem_of_getElem? (i := 1) rfl)) (ty := (.array .double)) (by decide) rfl rfl (g := (mkF m 29 #[.val (.ref a), .val (.ref t), .val (.ref so)] [(.ref be), (.ref a)])) rfl rfl (hb hby d1_29)
  have N0 := Fr.snoc X7 N0 ga
  have EA := EA.wr W7
  have F_start_a := F_start_a.other W7 (Or.inr (slot_ne (t := (.array .int)) (t' := (.array .double)) (Or.inr (hw _ (List.mem_of_getElem? (i := 11) rfl))) (Or.inr (hw _ (List.mem_of_getElem? (i := 18) rfl))) (by decide) (by decide) (by decide)))
  have F_source_a := F_source_a.other W7 (Or.inr (slot_ne (t := (.array .int)) (t' := (.array .double)) (Or.inr (hw _ (List.mem_of_getElem? (i := 13) rfl))) (Or.inr (hw _ (List.mem_of_getElem? (i := 18) rfl))) (by decide) (by decide) (by decide)))
  have F_rate_a := F_rate_a.other W7 (Or.inr (slot_ne (t := (.array .double)) (t' := (.array .double)) (Or.inr (hw _ (List.mem_of_getElem? (i := 16) rfl))) (Or.inr (hw _ (List.mem_of_getElem? (i := 18) rfl))) (by decide) (by decide) (by decide)))
  have F_exitRate_a := F_exitRate_a.same W7
  have VT := VT.other W7 nta
  have VS := VS.other W7 nsa
  have V_br := V_br.other W7 (Ne.symm ne_a_br)
  have V_be := V_be.other W7 (Ne.symm ne_a_be)
  have Z0 := Nat.le_trans Z0 (Nat.le_of_eq W7.size.symm)
  have K0 := K0.wr W7 (Or.inl (List.mem_singleton.mpr rfl))
  refine Goes.by (T' := T7) (g' := (mkF m 32 #[.val (.ref a), .val (.ref t), .val (.ref so)] [])) st7 ?_
  exact outV X7 hx hlk hret (hb hby d1_32) (by rw [e7]; exact ⟨rfl, ⟨br, be, sz_br, sz_be, ne_br_be, F_start_a, F_source_a, F_rate_a, F_exitRate_a, V_br, V_be⟩, K0, N0⟩) (by decide) (by decide)
theorem ef_rm_init0 (m : MethodId) (x0 : Addr) (x1 : Addr) (x2 : Addr) : entryFrame m #[(.ref x0), (.ref x1), (.ref x2)] 3 = mkF m 0 #[.val (.ref x0), .val (.ref x1), .val (.ref x2)] [] := by first | (simp [entryFrame, mkF, argsToLocals, Value.category, maxLocals]; done) | rfl
set_option maxRecDepth 65536 in
set_option maxHeartbeats 40000000 in
theorem rm_init0 (l : Launch) (Z : State) (a0 : Array Value) (hw : ∀ d ∈ tables_1, d.before a0 Z = true) (a t so : Addr) (t0 : Int32) (h0 : Heap) (n0 : Nat) (Z0 : n0 ≤ h0.size) (EA : Exa Z h0 a "com/example/gibbon/gibbon/analysis/BalanceEquations") (F_start_a : Fld Z h0 a "com/example/gibbon/gibbon/analysis/BalanceEquations" "start" "[I" .null) (F_source_a : Fld Z h0 a "com/example/gibbon/gibbon/analysis/BalanceEquations" "source" "[I" .null) (F_rate_a : Fld Z h0 a "com/example/gibbon/gibbon/analysis/BalanceEquations" "rate" "[D" .null) (F_exitRate_a : Fld Z h0 a "com/example/gibbon/gibbon/analysis/BalanceEquations" "exitRate" "[D" .null) (VT : Sar Z h0 t .int [(.int t0)]) (VS : Sar Z h0 so .int []) (nta : t ≠ a) (nsa : so ≠ a) (ga : n0 ≤ a) :
    Does l (⟨"com/example/gibbon/gibbon/analysis/BalanceEquations", "<init>", "([I[I)V"⟩ : MethodName) prog_6_method_2_code 3 none [] ({ frames := 1, cells := 2, slots := 0, locals := 12 } : Room) Z #[(.ref a), (.ref t), (.ref so)] h0 (fun v h L => v = none ∧ (∃ br be, h0.size ≤ br ∧ h0.size ≤ be ∧ br ≠ be ∧ Fld Z h a "com/example/gibbon/gibbon/analysis/BalanceEquations" "start" "[I" (.ref t) ∧ Fld Z h a "com/example/gibbon/gibbon/analysis/BalanceEquations" "source" "[I" (.ref so) ∧ Fld Z h a "com/example/gibbon/gibbon/analysis/BalanceEquations" "rate" "[D" (.ref br) ∧ Fld Z h a "com/example/gibbon/gibbon/analysis/BalanceEquations" "exitRate" "[D" (.ref be) ∧ Sar Z h br .double [] ∧ Sar Z h be .double []) ∧ Keep h0 h [a] ∧ Fr n0 L) := by
  refine Does.of (plainFor_of_name pn0) ?_
  intro p e s m below meth c s₁ hx hby hml hret hlk hZ hown hnm X0 e0
  have N0 := Fr.nil n0
  refine Goes.cast (g' := mkF m 0 #[.val (.ref a), .val (.ref t), .val (.ref so)] []) (ef_rm_init0 m a t so) ?_
  have K0 := Keep.refl h0 [a]
  refine Goes.by (T' := s₁) (g' := (mkF m 1 #[.val (.ref a), .val (.ref t), .val (.ref so)] [(.ref a)])) (fun _ k => XS.aloadN X0.here hx rfl (hb hby d1_0) rfl rfl k) ?_
  obtain ⟨T8, X8, e8, st8⟩ := initO X0 hx hZ hown (hw _ (List.mem_of_getElem? (i := 7) rfl)) (hw _ (List.mem_of_getElem? (i := 8) rfl)) (hw _ (List.mem_of_getElem? (i := 9) rfl)) e0 (g := (mkF m 1 #[.val (.ref a), .val (.ref t), .val (.ref so)] [(.ref a)])) rfl (by rw [hml]; rfl) rfl (hb hby d1_1) (by decide) (W := 0) (by show 2 * 0 + _ ≤ _; exact Nat.le_of_eq rfl) (by decide)
  refine Goes.by (T' := T8) (g' := (mkF m 4 #[.val (.ref a), .val (.ref t), .val (.ref so)] [])) st8 ?_
  refine Goes.by (T' := T8) (g' := (mkF m 5 #[.val (.ref a), .val (.ref t), .val (.ref so)] [(.ref a)])) (fun _ k => XS.aloadN X8.here hx rfl (hb hby d1_4) rfl rfl k) ?_
  refine Goes.by (T' := T8) (g' := (mkF m 6 #[.val (.ref a), .val (.ref t), .val (.ref so)] [(.ref t), (.ref a)])) (fun _ k => XS.aloadN X8.here hx rfl (hb hby d1_5) rfl rfl k) ?_
  obtain ⟨T9, h9, X9, e9, W9, st9⟩ := putF X8 hx hZ hown (host := "") (Or.inl (hw _ (List.mem_of_getElem? (i := 10) rfl))) Via.refl e8 F_start_a EA (Or.inr ⟨(hw _ (List.mem_of_getElem? (i := 11) rfl)), rfl, hnm⟩) (hw _ (List.mem_of_getElem? (i := 1) rfl)) (ty := (.array .int)) (by decide) rfl rfl (g := (mkF m 6 #[.val (.ref a), .val (.ref t), .val (.ref so)] [(.ref t), (.ref a)])) rfl rfl (hb hby d1_6)
  have N0 := Fr.snoc X9 N0 ga
  have EA := EA.wr W9
  have F_start_a := F_start_a.same W9
  have F_source_a := F_source_a.other W9 (Or.inr (slot_ne (t := (.array .int)) (t' := (.array .int)) (Or.inr (hw _ (List.mem_of_getElem? (i := 13) rfl))) (Or.inr (hw _ (List.mem_of_getElem? (i := 11) rfl))) (by decide) (by decide) (by decide)))
  have F_rate_a := F_rate_a.other W9 (Or.inr (slot_ne (t := (.array .double)) (t' := (.array .int)) (Or.inr (hw _ (List.mem_of_getElem? (i := 16) rfl))) (Or.inr (hw _ (List.mem_of_getElem? (i := 11) rfl))) (by decide) (by decide) (by decide)))
  have F_exitRate_a := F_exitRate_a.other W9 (Or.inr (slot_ne (t := (.array .double)) (t' := (.array .int)) (Or.inr (hw _ (List.mem_of_getElem? (i := 18) rfl))) (Or.inr (hw _ (List.mem_of_getElem? (i := 11) rfl))) (by decide) (by decide) (by decide)))
  have VT := VT.other W9 nta
  have VS := VS.other W9 nsa
  have Z0 := Nat.le_trans Z0 (Nat.le_of_eq W9.size.symm)
  have K0 := K0.wr W9 (Or.inl (List.mem_singleton.mpr rfl))
  refine Goes.by (T' := T9) (g' := (mkF m 9 #[.val (.ref a), .val (.ref t), .val (.ref so)] [])) st9 ?_
  refine Goes.by (T' := T9) (g' := (mkF m 10 #[.val (.ref a), .val (.ref t), .val (.ref so)] [(.ref a)])) (fun _ k => XS.aloadN X9.here hx rfl (hb hby d1_9) rfl rfl k) ?_
  refine Goes.by (T' := T9) (g' := (mkF m 11 #[.val (.ref a), .val (.ref t), .val (.ref so)] [(.ref so), (.ref a)])) (fun _ k => XS.aloadN X9.here hx rfl (hb hby d1_10) rfl rfl k) ?_
  obtain ⟨T10, h10, X10, e10, W10, st10⟩ := putF X9 hx hZ hown (host := "") (Or.inl (hw _ (List.mem_of_getElem? (i := 12) rfl))) Via.refl e9 F_source_a EA (Or.inr ⟨(hw _ (List.mem_of_getElem? (i := 13) rfl)), rfl, hnm⟩) (hw _ (List.mem_of_getElem? (i := 1) rfl)) (ty := (.array .int)) (by decide) rfl rfl (g := (mkF m 11 #[.val (.ref a), .val (.ref t), .val (.ref so)] [(.ref so), (.ref a)])) rfl rfl (hb hby d1_11)
  have N0 := Fr.snoc X10 N0 ga
  have EA := EA.wr W10
  have F_start_a := F_start_a.other W10 (Or.inr (slot_ne (t := (.array .int)) (t' := (.array .int)) (Or.inr (hw _ (List.mem_of_getElem? (i := 11) rfl))) (Or.inr (hw _ (List.mem_of_getElem? (i := 13) rfl))) (by decide) (by decide) (by decide)))
  have F_source_a := F_source_a.same W10
  have F_rate_a := F_rate_a.other W10 (Or.inr (slot_ne (t := (.array .double)) (t' := (.array .int)) (Or.inr (hw _ (List.mem_of_getElem? (i := 16) rfl))) (Or.inr (hw _ (List.mem_of_getElem? (i := 13) rfl))) (by decide) (by decide) (by decide)))
  have F_exitRate_a := F_exitRate_a.other W10 (Or.inr (slot_ne (t := (.array .double)) (t' := (.array .int)) (Or.inr (hw _ (List.mem_of_getElem? (i := 18) rfl))) (Or.inr (hw _ (List.mem_of_getElem? (i := 13) rfl))) (by decide) (by decide) (by decide)))
  have VT := VT.other W10 nta
  have VS := VS.other W10 nsa
  have Z0 := Nat.le_trans Z0 (Nat.le_of_eq W10.size.symm)
  have K0 := K0.wr W10 (Or.inl (List.mem_singleton.mpr rfl))
  refine Goes.by (T' := T10) (g' := (mkF m 14 #[.val (.ref a), .val (.ref t), .val (.ref so)] [])) st10 ?_
  refine Goes.by (T' := T10) (g' := (mkF m 15 #[.val (.ref a), .val (.ref t), .val (.ref so)] [(.ref a)])) (fun _ k => XS.aloadN X10.here hx rfl (hb hby d1_14) rfl rfl k) ?_
  refine Goes.by (T' := T10) (g' := (mkF m 16 #[.val (.ref a), .val (.ref t), .val (.ref so)] [(.ref so), (.ref a)])) (fun _ k => XS.aloadN X10.here hx rfl (hb hby d1_15) rfl rfl k) ?_
  refine Goes.by (T' := T10) (g' := (mkF m 17 #[.val (.ref a), .val (.ref t), .val (.ref so)] [(.int (0 : Int32)), (.ref a)])) (lenS X10 hx hZ e10 VS (n := (0 : Int32)) rfl (g := (mkF m 16 #[.val (.ref a), .val (.ref t), .val (.ref so)] [(.ref so), (.ref a)])) rfl rfl (hb hby d1_16)) ?_
  obtain ⟨T11, h11, k11, X11, e11, E11, A11, st11⟩ := newP X10 hx hZ (hw _ (List.mem_of_getElem? (i := 14) rfl)) e10 (g := (mkF m 17 #[.val (.ref a), .val (.ref t), .val (.ref so)] [(.int (0 : Int32)), (.ref a)])) rfl (hb hby d1_17) rfl (by decide) (cap := 0) (by decide) (by decide) (by decide) (by decide)
  obtain ⟨br, g11⟩ : ∃ z, z = h10.size := ⟨_, rfl⟩
  rw [← g11] at A11 st11
  have ne_a_br : a ≠ br := fun q => Nat.lt_irrefl _ (Nat.lt_of_lt_of_eq EA.lt (g11.symm.trans q.symm))
  have ne_t_br : t ≠ br := fun q => Nat.lt_irrefl _ (Nat.lt_of_lt_of_eq VT.lt (g11.symm.trans q.symm))
  have ne_so_br : so ≠ br := fun q => Nat.lt_irrefl _ (Nat.lt_of_lt_of_eq VS.lt (g11.symm.trans q.symm))
  have ge_br : n0 ≤ br := Nat.le_trans Z0 (Nat.le_of_eq g11.symm)
  have sz_br : h0.size ≤ br := Nat.le_trans K0.1 (Nat.le_of_eq g11.symm)
  have EA := EA.ext E11
  have F_start_a := F_start_a.ext E11
  have F_source_a := F_source_a.ext E11
  have F_rate_a := F_rate_a.ext E11
  have F_exitRate_a := F_exitRate_a.ext E11
  have VT := VT.ext E11
  have VS := VS.ext E11
  have Z0 := Nat.le_trans Z0 E11.1
  have K0 := K0.ext E11
  have V_br : Sar Z h11 br .double [] := Sar.new (n := 0) A11 (by decide)
  refine Goes.by (T' := T11) (g' := (mkF m 19 #[.val (.ref a), .val (.ref t), .val (.ref so)] [(.ref br), (.ref a)])) st11 ?_
  obtain ⟨T12, h12, X12, e12, W12, st12⟩ := putF X11 hx hZ hown (host := "") (Or.inl (hw _ (List.mem_of_getElem? (i := 15) rfl))) Via.refl e11 F_rate_a EA (Or.inr ⟨(hw _ (List.mem_of_getElem? (i := 16) rfl)), rfl, hnm⟩) (hw _ (List.mem_of_getElem? (i := 1) rfl)) (ty := (.array .double)) (by decide) rfl rfl (g := (mkF m 19 #[.val (.ref a), .val (.ref t), .val (.ref so)] [(.ref br), (.ref a)])) rfl rfl (hb hby d1_19)
  have N0 := Fr.snoc X12 N0 ga
  have EA := EA.wr W12
  have F_start_a := F_start_a.other W12 (Or.inr (slot_ne (t := (.array .int)) (t' := (.array .double)) (Or.inr (hw _ (List.mem_of_getElem? (i := 11) rfl))) (Or.inr (hw _ (List.mem_of_getElem? (i := 16) rfl))) (by decide) (by decide) (by decide)))
  have F_source_a := F_source_a.other W12 (Or.inr (slot_ne (t := (.array .int)) (t' := (.array .double)) (Or.inr (hw _ (List.mem_of_getElem? (i := 13) rfl))) (Or.inr (hw _ (List.mem_of_getElem? (i := 16) rfl))) (by decide) (by decide) (by decide)))
  have F_rate_a := F_rate_a.same W12
  have F_exitRate_a := F_exitRate_a.other W12 (Or.inr (slot_ne (t := (.array .double)) (t' := (.array .double)) (Or.inr (hw _ (List.mem_of_getElem? (i := 18) rfl))) (Or.inr (hw _ (List.mem_of_getElem? (i := 16) rfl))) (by decide) (by decide) (by decide)))
  have VT := VT.other W12 nta
  have VS := VS.other W12 nsa
  have V_br := V_br.other W12 (Ne.symm ne_a_br)
  have Z0 := Nat.le_trans Z0 (Nat.le_of_eq W12.size.symm)
  have K0 := K0.wr W12 (Or.inl (List.mem_singleton.mpr rfl))
  refine Goes.by (T' := T12) (g' := (mkF m 22 #[.val (.ref a), .val (.ref t), .val (.ref so)] [])) st12 ?_
  refine Goes.by (T' := T12) (g' := (mkF m 23 #[.val (.ref a), .val (.ref t), .val (.ref so)] [(.ref a)])) (fun _ k => XS.aloadN X12.here hx rfl (hb hby d1_22) rfl rfl k) ?_
  refine Goes.by (T' := T12) (g' := (mkF m 24 #[.val (.ref a), .val (.ref t), .val (.ref so)] [(.ref t), (.ref a)])) (fun _ k => XS.aloadN X12.here hx rfl (hb hby d1_23) rfl rfl k) ?_
  refine Goes.by (T' := T12) (g' := (mkF m 25 #[.val (.ref a), .val (.ref t), .val (.ref so)] [(.int (1 : Int32)), (.ref a)])) (lenS X12 hx hZ e12 VT (n := (1 : Int32)) rfl (g := (mkF m 24 #[.val (.ref a), .val (.ref t), .val (.ref so)] [(.ref t), (.ref a)])) rfl rfl (hb hby d1_24)) ?_
  refine Goes.by (T' := T12) (g' := (mkF m 26 #[.val (.ref a), .val (.ref t), .val (.ref so)] [(.int (1 : Int32)), (.int (1 : Int32)), (.ref a)])) (fun _ k => XS.iconst X12.here hx rfl (hb hby d1_25)  k) ?_
  refine Goes.by (T' := T12) (g' := (mkF m 27 #[.val (.ref a), .val (.ref t), .val (.ref so)] [(.int (0 : Int32)), (.ref a)])) (fun _ k => XS.isub X12.here hx rfl (hb hby d1_26) rfl k) ?_
  obtain ⟨T13, h13, k13, X13, e13, E13, A13, st13⟩ := newP X12 hx hZ (hw _ (List.mem_of_getElem? (i := 14) rfl)) e12 (g := (mkF m 27 #[.val (.ref a), .val (.ref t), .val (.ref so)] [(.int (0 : Int32)), (.ref a)])) rfl (hb hby d1_27) rfl (by decide) (cap := 0) (by decide) (by decide) (by decide) (by decide)
  obtain ⟨be, g13⟩ : ∃ z, z = h12.size := ⟨_, rfl⟩
  rw [← g13] at A13 st13
  have ne_a_be : a ≠ be := fun q => Nat.lt_irrefl _ (Nat.lt_of_lt_of_eq EA.lt (g13.symm.trans q.symm))
  have ne_t_be : t ≠ be := fun q => Nat.lt_irrefl _ (Nat.lt_of_lt_of_eq VT.lt (g13.symm.trans q.symm))
  have ne_so_be : so ≠ be := fun q => Nat.lt_irrefl _ (Nat.lt_of_lt_of_eq VS.lt (g13.symm.trans q.symm))
  have ne_br_be : br ≠ be := fun q => Nat.lt_irrefl _ (Nat.lt_of_lt_of_eq V_br.lt (g13.symm.trans q.symm))
  have ge_be : n0 ≤ be := Nat.le_trans Z0 (Nat.le_of_eq g13.symm)
  have sz_be : h0.size ≤ be := Nat.le_trans K0.1 (Nat.le_of_eq g13.symm)
  have EA := EA.ext E13
  have F_start_a := F_start_a.ext E13
  have F_source_a := F_source_a.ext E13
  have F_rate_a := F_rate_a.ext E13
  have F_exitRate_a := F_exitRate_a.ext E13
  have VT := VT.ext E13
  have VS := VS.ext E13
  have V_br := V_br.ext E13
  have Z0 := Nat.le_trans Z0 E13.1
  have K0 := K0.ext E13
  have V_be : Sar Z h13 be .double [] := Sar.new (n := 0) A13 (by decide)
  refine Goes.by (T' := T13) (g' := (mkF m 29 #[.val (.ref a), .val (.ref t), .val (.ref so)] [(.ref be), (.ref a)])) st13 ?_
  obtain ⟨T14, h14, X14, e14, W14, st14⟩ := putF X13 hx hZ hown (host := "") (Or.inl (hw _ (List.mem_of_getElem? (i := 17) rfl))) Via.refl e13 F_exitRate_a EA (Or.inr ⟨(hw _ (List.mem_of_getElem? (i := 18) rfl)), rfl, hnm⟩) (hw _ (List.mem_of_getElem? (i := 1) rfl)) (ty := (.array .double)) (by decide) rfl rfl (g := (mkF m 29 #[.val (.ref a), .val (.ref t), .val (.ref so)] [(.ref be), (.ref a)])) rfl rfl (hb hby d1_29)
  have N0 := Fr.snoc X14 N0 ga
  have EA := EA.wr W14
  have F_start_a := F_start_a.other W14 (Or.inr (slot_ne (t := (.array .int)) (t' := (.array .double)) (Or.inr (hw _ (List.mem_of_getElem? (i := 11) rfl))) (Or.inr (hw _ (List.mem_of_getElem? (i := 18) rfl))) (by decide) (by decide) (by decide)))
  have F_source_a := F_source_a.other W14 (Or.inr (slot_ne (t := (.array .int)) (t' := (.array .double)) (Or.inr (hw _ (List.mem_of_getElem? (i := 13) rfl))) (Or.inr (hw _ (List.mem_of_getElem? (i := 18) rfl))) (by decide) (by decide) (by decide)))
  have F_rate_a := F_rate_a.other W14 (Or.inr (slot_ne (t := (.array .double)) (t' := (.array .double)) (Or.inr (hw _ (List.mem_of_getElem? (i := 16) rfl))) (Or.inr (hw _ (List.mem_of_getElem? (i := 18) rfl))) (by decide) (by decide) (by decide)))
  have F_exitRate_a := F_exitRate_a.same W14
  have VT := VT.other W14 nta
  have VS := VS.other W14 nsa
  have V_br := V_br.other W14 (Ne.symm ne_a_br)
  have V_be := V_be.other W14 (Ne.symm ne_a_be)
  have Z0 := Nat.le_trans Z0 (Nat.le_of_eq W14.size.symm)
  have K0 := K0.wr W14 (Or.inl (List.mem_singleton.mpr rfl))
  refine Goes.by (T' := T14) (g' := (mkF m 32 #[.val (.ref a), .val (.ref t), .val (.ref so)] [])) st14 ?_
  exact outV X14 hx hlk hret (hb hby d1_32) (by rw [e14]; exact ⟨rfl, ⟨br, be, sz_br, sz_be, ne_br_be, F_start_a, F_source_a, F_rate_a, F_exitRate_a, V_br, V_be⟩, K0, N0⟩) (by decide) (by decide)
theorem d3_0 : decode prog_6_method_10_code 0 = .ok (.aload_n 0, 1) := by decide +kernel
theorem d3_1 : decode prog_6_method_10_code 1 = .ok (.getfield 29, 3) := by decide +kernel
theorem d3_4 : decode prog_6_method_10_code 4 = .ok (.astore_n 1, 1) := by decide +kernel
theorem d3_5 : decode prog_6_method_10_code 5 = .ok (.aload_n 1, 1) := by decide +kernel
theorem d3_6 : decode prog_6_method_10_code 6 = .ok (.arraylength, 1) := by decide +kernel
theorem d3_7 : decode prog_6_method_10_code 7 = .ok (.istore_n 2, 1) := by decide +kernel
theorem d3_8 : decode prog_6_method_10_code 8 = .ok (.iconst 0, 1) := by decide +kernel
theorem d3_9 : decode prog_6_method_10_code 9 = .ok (.istore_n 3, 1) := by decide +kernel
theorem d3_10 : decode prog_6_method_10_code 10 = .ok (.iload_n 3, 1) := by decide +kernel
theorem d3_11 : decode prog_6_method_10_code 11 = .ok (.iload_n 2, 1) := by decide +kernel
theorem d3_12 : decode prog_6_method_10_code 12 = .ok (.if_icmp .ge 23, 3) := by decide +kernel
theorem d3_15 : decode prog_6_method_10_code 15 = .ok (.aload_n 1, 1) := by decide +kernel
theorem d3_16 : decode prog_6_method_10_code 16 = .ok (.iload_n 3, 1) := by decide +kernel
theorem d3_17 : decode prog_6_method_10_code 17 = .ok (.daload, 1) := by decide +kernel
theorem d3_18 : decode prog_6_method_10_code 18 = .ok (.dstore 4, 2) := by decide +kernel
theorem d3_20 : decode prog_6_method_10_code 20 = .ok (.dload 4, 2) := by decide +kernel
theorem d3_22 : decode prog_6_method_10_code 22 = .ok (.dconst 0, 1) := by decide +kernel
theorem d3_23 : decode prog_6_method_10_code 23 = .ok (.dcmp .l, 1) := by decide +kernel
theorem d3_24 : decode prog_6_method_10_code 24 = .ok (.ifCond .gt 5, 3) := by decide +kernel
theorem d3_27 : decode prog_6_method_10_code 27 = .ok (.iconst 0, 1) := by decide +kernel
theorem d3_28 : decode prog_6_method_10_code 28 = .ok (.ireturn, 1) := by decide +kernel
theorem d3_29 : decode prog_6_method_10_code 29 = .ok (.iinc 3 1, 3) := by decide +kernel
theorem d3_32 : decode prog_6_method_10_code 32 = .ok (.goto (-22), 3) := by decide +kernel
theorem d3_35 : decode prog_6_method_10_code 35 = .ok (.iconst 1, 1) := by decide +kernel
theorem d3_36 : decode prog_6_method_10_code 36 = .ok (.ireturn, 1) := by decide +kernel
theorem pd1 : parseMethodDescriptor "()Z" = some ⟨[], some .boolean⟩ := by decide +kernel
theorem ef_rm_ev0_0 (m : MethodId) (x0 : Addr) : entryFrame m #[(.ref x0)] 6 = mkF m 0 #[.val (.ref x0), .unset, .unset, .unset, .unset, .unset] [] := by first | (simp [entryFrame, mkF, argsToLocals, Value.category, maxLocals]; done) | rfl
set_option maxRecDepth 65536 in
set_option maxHeartbeats 40000000 in
theorem rm_ev0_0 (l : Launch) (Z : State) (a0 : Array Value) (hw : ∀ d ∈ tables_1, d.before a0 Z = true) (a be : Addr)  (h0 : Heap) (n0 : Nat) (Z0 : n0 ≤ h0.size) (F1 : Fld Z h0 a "com/example/gibbon/gibbon/analysis/BalanceEquations" "exitRate" "[D" (.ref be)) (VE : Sar Z h0 be .double [])  :
    Does l (⟨"com/example/gibbon/gibbon/analysis/BalanceEquations", "everyStateIsLeft", "()Z"⟩ : MethodName) prog_6_method_10_code 6 (some .boolean) [] ({ frames := 0, cells := 0, slots := 0, locals := 0 } : Room) Z #[(.ref a)] h0 (fun v h L => v = some (.int 1) ∧ Fr n0 L ∧ h = h0) := by
  refine Does.of (plainFor_of_name pn0) ?_
  intro p e s m below meth c s₁ hx hby hml hret hlk hZ hown hnm X0 e0
  have N0 := Fr.nil n0
  refine Goes.cast (g' := mkF m 0 #[.val (.ref a), .unset, .unset, .unset, .unset, .unset] []) (ef_rm_ev0_0 m a) ?_
  refine Goes.by (T' := s₁) (g' := (mkF m 1 #[.val (.ref a), .unset, .unset, .unset, .unset, .unset] [(.ref a)])) (fun _ k => XS.aloadN X0.here hx rfl (hb hby d3_0) rfl rfl k) ?_
  obtain ⟨T15, X15, e15, st15⟩ := getF X0 hx hZ hown (host := "") (Or.inl (hw _ (List.mem_of_getElem? (i := 17) rfl))) Via.refl e0 F1 (g := (mkF m 1 #[.val (.ref a), .unset, .unset, .unset, .unset, .unset] [(.ref a)])) rfl rfl (hb hby d3_1)
  refine Goes.by (T' := T15) (g' := (mkF m 4 #[.val (.ref a), .unset, .unset, .unset, .unset, .unset] [(.ref be)])) st15 ?_
  refine Goes.by (T' := T15) (g' := (mkF m 5 #[.val (.ref a), .val (.ref be), .unset, .unset, .unset, .unset] [])) (fun _ k => XS.astoreN X15.here hx rfl (hb hby d3_4) rfl rfl (l' := #[.val (.ref a), .val (.ref be), .unset, .unset, .unset, .unset]) rfl k) ?_
  refine Goes.by (T' := T15) (g' := (mkF m 6 #[.val (.ref a), .val (.ref be), .unset, .unset, .unset, .unset] [(.ref be)])) (fun _ k => XS.aloadN X15.here hx rfl (hb hby d3_5) rfl rfl k) ?_
  refine Goes.by (T' := T15) (g' := (mkF m 7 #[.val (.ref a), .val (.ref be), .unset, .unset, .unset, .unset] [(.int (0 : Int32))])) (lenS X15 hx hZ e15 VE (n := (0 : Int32)) rfl (g := (mkF m 6 #[.val (.ref a), .val (.ref be), .unset, .unset, .unset, .unset] [(.ref be)])) rfl rfl (hb hby d3_6)) ?_
  refine Goes.by (T' := T15) (g' := (mkF m 8 #[.val (.ref a), .val (.ref be), .val (.int (0 : Int32)), .unset, .unset, .unset] [])) (fun _ k => XS.istoreN X15.here hx rfl (hb hby d3_7) rfl (l' := #[.val (.ref a), .val (.ref be), .val (.int (0 : Int32)), .unset, .unset, .unset]) rfl k) ?_
  refine Goes.by (T' := T15) (g' := (mkF m 9 #[.val (.ref a), .val (.ref be), .val (.int (0 : Int32)), .unset, .unset, .unset] [(.int (0 : Int32))])) (fun _ k => XS.iconst X15.here hx rfl (hb hby d3_8)  k) ?_
  refine Goes.by (T' := T15) (g' := (mkF m 10 #[.val (.ref a), .val (.ref be), .val (.int (0 : Int32)), .val (.int (0 : Int32)), .unset, .unset] [])) (fun _ k => XS.istoreN X15.here hx rfl (hb hby d3_9) rfl (l' := #[.val (.ref a), .val (.ref be), .val (.int (0 : Int32)), .val (.int (0 : Int32)), .unset, .unset]) rfl k) ?_
  refine Goes.by (T' := T15) (g' := (mkF m 11 #[.val (.ref a), .val (.ref be), .val (.int (0 : Int32)), .val (.int (0 : Int32)), .unset, .unset] [(.int (0 : Int32))])) (fun _ k => XS.iloadN X15.here hx rfl (hb hby d3_10) rfl k) ?_
  refine Goes.by (T' := T15) (g' := (mkF m 12 #[.val (.ref a), .val (.ref be), .val (.int (0 : Int32)), .val (.int (0 : Int32)), .unset, .unset] [(.int (0 : Int32)), (.int (0 : Int32))])) (fun _ k => XS.iloadN X15.here hx rfl (hb hby d3_11) rfl k) ?_
  refine Goes.by (T' := T15) (g' := (mkF m 35 #[.val (.ref a), .val (.ref be), .val (.int (0 : Int32)), .val (.int (0 : Int32)), .unset, .unset] [])) (fun _ k => XS.icmpYes X15.here hx rfl (pc0 := 12) (pc' := 35) rfl (hb hby d3_12) rfl (by decide) (by decide) (by decide) k) ?_
  refine Goes.by (T' := T15) (g' := (mkF m 36 #[.val (.ref a), .val (.ref be), .val (.int (0 : Int32)), .val (.int (0 : Int32)), .unset, .unset] [(.int (1 : Int32))])) (fun _ k => XS.iconst X15.here hx rfl (hb hby d3_35)  k) ?_
  exact outZ X15 hx hlk hret (hb hby d3_36) (by rw [e15]; exact ⟨rfl, N0, rfl⟩) (by decide) (by decide)
theorem ef_rm_ev3_3 (m : MethodId) (x0 : Addr) : entryFrame m #[(.ref x0)] 6 = mkF m 0 #[.val (.ref x0), .unset, .unset, .unset, .unset, .unset] [] := by first | (simp [entryFrame, mkF, argsToLocals, Value.category, maxLocals]; done) | rfl
set_option maxRecDepth 65536 in
set_option maxHeartbeats 40000000 in
theorem rm_ev3_3 (l : Launch) (Z : State) (a0 : Array Value) (hw : ∀ d ∈ tables_1, d.before a0 Z = true) (a be : Addr) (ez0 : UInt64) (j0 : Int) (ez1 : UInt64) (j1 : Int) (ez2 : UInt64) (j2 : Int)  (h0 : Heap) (n0 : Nat) (Z0 : n0 ≤ h0.size) (F1 : Fld Z h0 a "com/example/gibbon/gibbon/analysis/BalanceEquations" "exitRate" "[D" (.ref be)) (VE : Sar Z h0 be .double [(.double ez0), (.double ez1), (.double ez2)]) (I0 : Core.DInt j0 ez0) (I1 : Core.DInt j1 ez1) (I2 : Core.DInt j2 ez2) (hp0 : 0 < j0) (hp1 : 0 < j1) (hp2 : 0 < j2)  :
    Does l (⟨"com/example/gibbon/gibbon/analysis/BalanceEquations", "everyStateIsLeft", "()Z"⟩ : MethodName) prog_6_method_10_code 6 (some .boolean) [] ({ frames := 0, cells := 0, slots := 0, locals := 0 } : Room) Z #[(.ref a)] h0 (fun v h L => v = some (.int 1) ∧ Fr n0 L ∧ h = h0) := by
  refine Does.of (plainFor_of_name pn0) ?_
  intro p e s m below meth c s₁ hx hby hml hret hlk hZ hown hnm X0 e0
  have N0 := Fr.nil n0
  refine Goes.cast (g' := mkF m 0 #[.val (.ref a), .unset, .unset, .unset, .unset, .unset] []) (ef_rm_ev3_3 m a) ?_
  refine Goes.by (T' := s₁) (g' := (mkF m 1 #[.val (.ref a), .unset, .unset, .unset, .unset, .unset] [(.ref a)])) (fun _ k => XS.aloadN X0.here hx rfl (hb hby d3_0) rfl rfl k) ?_
  obtain ⟨T16, X16, e16, st16⟩ := getF X0 hx hZ hown (host := "") (Or.inl (hw _ (List.mem_of_getElem? (i := 17) rfl))) Via.refl e0 F1 (g := (mkF m 1 #[.val (.ref a), .unset, .unset, .unset, .unset, .unset] [(.ref a)])) rfl rfl (hb hby d3_1)
  refine Goes.by (T' := T16) (g' := (mkF m 4 #[.val (.ref a), .unset, .unset, .unset, .unset, .unset] [(.ref be)])) st16 ?_
  refine Goes.by (T' := T16) (g' := (mkF m 5 #[.val (.ref a), .val (.ref be), .unset, .unset, .unset, .unset] [])) (fun _ k => XS.astoreN X16.here hx rfl (hb hby d3_4) rfl rfl (l' := #[.val (.ref a), .val (.ref be), .unset, .unset, .unset, .unset]) rfl k) ?_
  refine Goes.by (T' := T16) (g' := (mkF m 6 #[.val (.ref a), .val (.ref be), .unset, .unset, .unset, .unset] [(.ref be)])) (fun _ k => XS.aloadN X16.here hx rfl (hb hby d3_5) rfl rfl k) ?_
  refine Goes.by (T' := T16) (g' := (mkF m 7 #[.val (.ref a), .val (.ref be), .unset, .unset, .unset, .unset] [(.int (3 : Int32))])) (lenS X16 hx hZ e16 VE (n := (3 : Int32)) rfl (g := (mkF m 6 #[.val (.ref a), .val (.ref be), .unset, .unset, .unset, .unset] [(.ref be)])) rfl rfl (hb hby d3_6)) ?_
  refine Goes.by (T' := T16) (g' := (mkF m 8 #[.val (.ref a), .val (.ref be), .val (.int (3 : Int32)), .unset, .unset, .unset] [])) (fun _ k => XS.istoreN X16.here hx rfl (hb hby d3_7) rfl (l' := #[.val (.ref a), .val (.ref be), .val (.int (3 : Int32)), .unset, .unset, .unset]) rfl k) ?_
  refine Goes.by (T' := T16) (g' := (mkF m 9 #[.val (.ref a), .val (.ref be), .val (.int (3 : Int32)), .unset, .unset, .unset] [(.int (0 : Int32))])) (fun _ k => XS.iconst X16.here hx rfl (hb hby d3_8)  k) ?_
  refine Goes.by (T' := T16) (g' := (mkF m 10 #[.val (.ref a), .val (.ref be), .val (.int (3 : Int32)), .val (.int (0 : Int32)), .unset, .unset] [])) (fun _ k => XS.istoreN X16.here hx rfl (hb hby d3_9) rfl (l' := #[.val (.ref a), .val (.ref be), .val (.int (3 : Int32)), .val (.int (0 : Int32)), .unset, .unset]) rfl k) ?_
  refine Goes.by (T' := T16) (g' := (mkF m 11 #[.val (.ref a), .val (.ref be), .val (.int (3 : Int32)), .val (.int (0 : Int32)), .unset, .unset] [(.int (0 : Int32))])) (fun _ k => XS.iloadN X16.here hx rfl (hb hby d3_10) rfl k) ?_
  refine Goes.by (T' := T16) (g' := (mkF m 12 #[.val (.ref a), .val (.ref be), .val (.int (3 : Int32)), .val (.int (0 : Int32)), .unset, .unset] [(.int (3 : Int32)), (.int (0 : Int32))])) (fun _ k => XS.iloadN X16.here hx rfl (hb hby d3_11) rfl k) ?_
  refine Goes.by (T' := T16) (g' := (mkF m 15 #[.val (.ref a), .val (.ref be), .val (.int (3 : Int32)), .val (.int (0 : Int32)), .unset, .unset] [])) (fun _ k => XS.icmpNo X16.here hx rfl (hb hby d3_12) rfl (by decide) k) ?_
  refine Goes.by (T' := T16) (g' := (mkF m 16 #[.val (.ref a), .val (.ref be), .val (.int (3 : Int32)), .val (.int (0 : Int32)), .unset, .unset] [(.ref be)])) (fun _ k => XS.aloadN X16.here hx rfl (hb hby d3_15) rfl rfl k) ?_
  refine Goes.by (T' := T16) (g' := (mkF m 17 #[.val (.ref a), .val (.ref be), .val (.int (3 : Int32)), .val (.int (0 : Int32)), .unset, .unset] [(.int (0 : Int32)), (.ref be)])) (fun _ k => XS.iloadN X16.here hx rfl (hb hby d3_16) rfl k) ?_
  refine Goes.by (T' := T16) (g' := (mkF m 18 #[.val (.ref a), .val (.ref be), .val (.int (3 : Int32)), .val (.int (0 : Int32)), .unset, .unset] [(.double ez0)])) (ldDS X16 hx hZ e16 VE (v := (.double ez0)) (j := (0 : Int32)) 0 (by decide) rfl (g := (mkF m 17 #[.val (.ref a), .val (.ref be), .val (.int (3 : Int32)), .val (.int (0 : Int32)), .unset, .unset] [(.int (0 : Int32)), (.ref be)])) rfl rfl (hb hby d3_17)) ?_
  refine Goes.by (T' := T16) (g' := (mkF m 20 #[.val (.ref a), .val (.ref be), .val (.int (3 : Int32)), .val (.int (0 : Int32)), .val (.double ez0), .second] [])) (fun _ k => XS.dstore X16.here hx rfl (hb hby d3_18) rfl (l' := #[.val (.ref a), .val (.ref be), .val (.int (3 : Int32)), .val (.int (0 : Int32)), .val (.double ez0), .second]) rfl k) ?_
  refine Goes.by (T' := T16) (g' := (mkF m 22 #[.val (.ref a), .val (.ref be), .val (.int (3 : Int32)), .val (.int (0 : Int32)), .val (.double ez0), .second] [(.double ez0)])) (fun _ k => XS.dload X16.here hx rfl (hb hby d3_20) rfl k) ?_
  refine Goes.by (T' := T16) (g' := (mkF m 23 #[.val (.ref a), .val (.ref be), .val (.int (3 : Int32)), .val (.int (0 : Int32)), .val (.double ez0), .second] [(.double (0 : UInt64)), (.double ez0)])) (fun _ k => XS.dconst0 X16.here hx rfl (hb hby d3_22) rfl k) ?_
  refine Goes.by (T' := T16) (g' := (mkF m 24 #[.val (.ref a), .val (.ref be), .val (.int (3 : Int32)), .val (.int (0 : Int32)), .val (.double ez0), .second] [(.int (1 : Int32))])) (fun _ k => XS.dcmpS X16.here hx rfl (hb hby d3_23) rfl (cmpD_gt I0 DInt_zero hp0 _) k) ?_
  refine Goes.by (T' := T16) (g' := (mkF m 29 #[.val (.ref a), .val (.ref be), .val (.int (3 : Int32)), .val (.int (0 : Int32)), .val (.double ez0), .second] [])) (fun _ k => XS.ifYes X16.here hx rfl (pc0 := 24) (pc' := 29) rfl (hb hby d3_24) rfl (by decide) (by decide) (by decide) k) ?_
  refine Goes.by (T' := T16) (g' := (mkF m 32 #[.val (.ref a), .val (.ref be), .val (.int (3 : Int32)), .val (.int (1 : Int32)), .val (.double ez0), .second] [])) (fun _ k => XS.iinc X16.here hx rfl (hb hby d3_29) rfl (l' := #[.val (.ref a), .val (.ref be), .val (.int (3 : Int32)), .val (.int (1 : Int32)), .val (.double ez0), .second]) rfl k) ?_
  refine Goes.by (T' := T16) (g' := (mkF m 10 #[.val (.ref a), .val (.ref be), .val (.int (3 : Int32)), .val (.int (1 : Int32)), .val (.double ez0), .second] [])) (fun _ k => XS.goto X16.here hx rfl (pc0 := 32) (pc' := 10) rfl (hb hby d3_32) (by decide) (by decide) k) ?_
  refine Goes.by (T' := T16) (g' := (mkF m 11 #[.val (.ref a), .val (.ref be), .val (.int (3 : Int32)), .val (.int (1 : Int32)), .val (.double ez0), .second] [(.int (1 : Int32))])) (fun _ k => XS.iloadN X16.here hx rfl (hb hby d3_10) rfl k) ?_
  refine Goes.by (T' := T16) (g' := (mkF m 12 #[.val (.ref a), .val (.ref be), .val (.int (3 : Int32)), .val (.int (1 : Int32)), .val (.double ez0), .second] [(.int (3 : Int32)), (.int (1 : Int32))])) (fun _ k => XS.iloadN X16.here hx rfl (hb hby d3_11) rfl k) ?_
  refine Goes.by (T' := T16) (g' := (mkF m 15 #[.val (.ref a), .val (.ref be), .val (.int (3 : Int32)), .val (.int (1 : Int32)), .val (.double ez0), .second] [])) (fun _ k => XS.icmpNo X16.here hx rfl (hb hby d3_12) rfl (by decide) k) ?_
  refine Goes.by (T' := T16) (g' := (mkF m 16 #[.val (.ref a), .val (.ref be), .val (.int (3 : Int32)), .val (.int (1 : Int32)), .val (.double ez0), .second] [(.ref be)])) (fun _ k => XS.aloadN X16.here hx rfl (hb hby d3_15) rfl rfl k) ?_
  refine Goes.by (T' := T16) (g' := (mkF m 17 #[.val (.ref a), .val (.ref be), .val (.int (3 : Int32)), .val (.int (1 : Int32)), .val (.double ez0), .second] [(.int (1 : Int32)), (.ref be)])) (fun _ k => XS.iloadN X16.here hx rfl (hb hby d3_16) rfl k) ?_
  refine Goes.by (T' := T16) (g' := (mkF m 18 #[.val (.ref a), .val (.ref be), .val (.int (3 : Int32)), .val (.int (1 : Int32)), .val (.double ez0), .second] [(.double ez1)])) (ldDS X16 hx hZ e16 VE (v := (.double ez1)) (j := (1 : Int32)) 1 (by decide) rfl (g := (mkF m 17 #[.val (.ref a), .val (.ref be), .val (.int (3 : Int32)), .val (.int (1 : Int32)), .val (.double ez0), .second] [(.int (1 : Int32)), (.ref be)])) rfl rfl (hb hby d3_17)) ?_
  refine Goes.by (T' := T16) (g' := (mkF m 20 #[.val (.ref a), .val (.ref be), .val (.int (3 : Int32)), .val (.int (1 : Int32)), .val (.double ez1), .second] [])) (fun _ k => XS.dstore X16.here hx rfl (hb hby d3_18) rfl (l' := #[.val (.ref a), .val (.ref be), .val (.int (3 : Int32)), .val (.int (1 : Int32)), .val (.double ez1), .second]) rfl k) ?_
  refine Goes.by (T' := T16) (g' := (mkF m 22 #[.val (.ref a), .val (.ref be), .val (.int (3 : Int32)), .val (.int (1 : Int32)), .val (.double ez1), .second] [(.double ez1)])) (fun _ k => XS.dload X16.here hx rfl (hb hby d3_20) rfl k) ?_
  refine Goes.by (T' := T16) (g' := (mkF m 23 #[.val (.ref a), .val (.ref be), .val (.int (3 : Int32)), .val (.int (1 : Int32)), .val (.double ez1), .second] [(.double (0 : UInt64)), (.double ez1)])) (fun _ k => XS.dconst0 X16.here hx rfl (hb hby d3_22) rfl k) ?_
  refine Goes.by (T' := T16) (g' := (mkF m 24 #[.val (.ref a), .val (.ref be), .val (.int (3 : Int32)), .val (.int (1 : Int32)), .val (.double ez1), .second] [(.int (1 : Int32))])) (fun _ k => XS.dcmpS X16.here hx rfl (hb hby d3_23) rfl (cmpD_gt I1 DInt_zero hp1 _) k) ?_
  refine Goes.by (T' := T16) (g' := (mkF m 29 #[.val (.ref a), .val (.ref be), .val (.int (3 : Int32)), .val (.int (1 : Int32)), .val (.double ez1), .second] [])) (fun _ k => XS.ifYes X16.here hx rfl (pc0 := 24) (pc' := 29) rfl (hb hby d3_24) rfl (by decide) (by decide) (by decide) k) ?_
  refine Goes.by (T' := T16) (g' := (mkF m 32 #[.val (.ref a), .val (.ref be), .val (.int (3 : Int32)), .val (.int (2 : Int32)), .val (.double ez1), .second] [])) (fun _ k => XS.iinc X16.here hx rfl (hb hby d3_29) rfl (l' := #[.val (.ref a), .val (.ref be), .val (.int (3 : Int32)), .val (.int (2 : Int32)), .val (.double ez1), .second]) rfl k) ?_
  refine Goes.by (T' := T16) (g' := (mkF m 10 #[.val (.ref a), .val (.ref be), .val (.int (3 : Int32)), .val (.int (2 : Int32)), .val (.double ez1), .second] [])) (fun _ k => XS.goto X16.here hx rfl (pc0 := 32) (pc' := 10) rfl (hb hby d3_32) (by decide) (by decide) k) ?_
  refine Goes.by (T' := T16) (g' := (mkF m 11 #[.val (.ref a), .val (.ref be), .val (.int (3 : Int32)), .val (.int (2 : Int32)), .val (.double ez1), .second] [(.int (2 : Int32))])) (fun _ k => XS.iloadN X16.here hx rfl (hb hby d3_10) rfl k) ?_
  refine Goes.by (T' := T16) (g' := (mkF m 12 #[.val (.ref a), .val (.ref be), .val (.int (3 : Int32)), .val (.int (2 : Int32)), .val (.double ez1), .second] [(.int (3 : Int32)), (.int (2 : Int32))])) (fun _ k => XS.iloadN X16.here hx rfl (hb hby d3_11) rfl k) ?_
  refine Goes.by (T' := T16) (g' := (mkF m 15 #[.val (.ref a), .val (.ref be), .val (.int (3 : Int32)), .val (.int (2 : Int32)), .val (.double ez1), .second] [])) (fun _ k => XS.icmpNo X16.here hx rfl (hb hby d3_12) rfl (by decide) k) ?_
  refine Goes.by (T' := T16) (g' := (mkF m 16 #[.val (.ref a), .val (.ref be), .val (.int (3 : Int32)), .val (.int (2 : Int32)), .val (.double ez1), .second] [(.ref be)])) (fun _ k => XS.aloadN X16.here hx rfl (hb hby d3_15) rfl rfl k) ?_
  refine Goes.by (T' := T16) (g' := (mkF m 17 #[.val (.ref a), .val (.ref be), .val (.int (3 : Int32)), .val (.int (2 : Int32)), .val (.double ez1), .second] [(.int (2 : Int32)), (.ref be)])) (fun _ k => XS.iloadN X16.here hx rfl (hb hby d3_16) rfl k) ?_
  refine Goes.by (T' := T16) (g' := (mkF m 18 #[.val (.ref a), .val (.ref be), .val (.int (3 : Int32)), .val (.int (2 : Int32)), .val (.double ez1), .second] [(.double ez2)])) (ldDS X16 hx hZ e16 VE (v := (.double ez2)) (j := (2 : Int32)) 2 (by decide) rfl (g := (mkF m 17 #[.val (.ref a), .val (.ref be), .val (.int (3 : Int32)), .val (.int (2 : Int32)), .val (.double ez1), .second] [(.int (2 : Int32)), (.ref be)])) rfl rfl (hb hby d3_17)) ?_
  refine Goes.by (T' := T16) (g' := (mkF m 20 #[.val (.ref a), .val (.ref be), .val (.int (3 : Int32)), .val (.int (2 : Int32)), .val (.double ez2), .second] [])) (fun _ k => XS.dstore X16.here hx rfl (hb hby d3_18) rfl (l' := #[.val (.ref a), .val (.ref be), .val (.int (3 : Int32)), .val (.int (2 : Int32)), .val (.double ez2), .second]) rfl k) ?_
  refine Goes.by (T' := T16) (g' := (mkF m 22 #[.val (.ref a), .val (.ref be), .val (.int (3 : Int32)), .val (.int (2 : Int32)), .val (.double ez2), .second] [(.double ez2)])) (fun _ k => XS.dload X16.here hx rfl (hb hby d3_20) rfl k) ?_
  refine Goes.by (T' := T16) (g' := (mkF m 23 #[.val (.ref a), .val (.ref be), .val (.int (3 : Int32)), .val (.int (2 : Int32)), .val (.double ez2), .second] [(.double (0 : UInt64)), (.double ez2)])) (fun _ k => XS.dconst0 X16.here hx rfl (hb hby d3_22) rfl k) ?_
  refine Goes.by (T' := T16) (g' := (mkF m 24 #[.val (.ref a), .val (.ref be), .val (.int (3 : Int32)), .val (.int (2 : Int32)), .val (.double ez2), .second] [(.int (1 : Int32))])) (fun _ k => XS.dcmpS X16.here hx rfl (hb hby d3_23) rfl (cmpD_gt I2 DInt_zero hp2 _) k) ?_
  refine Goes.by (T' := T16) (g' := (mkF m 29 #[.val (.ref a), .val (.ref be), .val (.int (3 : Int32)), .val (.int (2 : Int32)), .val (.double ez2), .second] [])) (fun _ k => XS.ifYes X16.here hx rfl (pc0 := 24) (pc' := 29) rfl (hb hby d3_24) rfl (by decide) (by decide) (by decide) k) ?_
  refine Goes.by (T' := T16) (g' := (mkF m 32 #[.val (.ref a), .val (.ref be), .val (.int (3 : Int32)), .val (.int (3 : Int32)), .val (.double ez2), .second] [])) (fun _ k => XS.iinc X16.here hx rfl (hb hby d3_29) rfl (l' := #[.val (.ref a), .val (.ref be), .val (.int (3 : Int32)), .val (.int (3 : Int32)), .val (.double ez2), .second]) rfl k) ?_
  refine Goes.by (T' := T16) (g' := (mkF m 10 #[.val (.ref a), .val (.ref be), .val (.int (3 : Int32)), .val (.int (3 : Int32)), .val (.double ez2), .second] [])) (fun _ k => XS.goto X16.here hx rfl (pc0 := 32) (pc' := 10) rfl (hb hby d3_32) (by decide) (by decide) k) ?_
  refine Goes.by (T' := T16) (g' := (mkF m 11 #[.val (.ref a), .val (.ref be), .val (.int (3 : Int32)), .val (.int (3 : Int32)), .val (.double ez2), .second] [(.int (3 : Int32))])) (fun _ k => XS.iloadN X16.here hx rfl (hb hby d3_10) rfl k) ?_
  refine Goes.by (T' := T16) (g' := (mkF m 12 #[.val (.ref a), .val (.ref be), .val (.int (3 : Int32)), .val (.int (3 : Int32)), .val (.double ez2), .second] [(.int (3 : Int32)), (.int (3 : Int32))])) (fun _ k => XS.iloadN X16.here hx rfl (hb hby d3_11) rfl k) ?_
  refine Goes.by (T' := T16) (g' := (mkF m 35 #[.val (.ref a), .val (.ref be), .val (.int (3 : Int32)), .val (.int (3 : Int32)), .val (.double ez2), .second] [])) (fun _ k => XS.icmpYes X16.here hx rfl (pc0 := 12) (pc' := 35) rfl (hb hby d3_12) rfl (by decide) (by decide) (by decide) k) ?_
  refine Goes.by (T' := T16) (g' := (mkF m 36 #[.val (.ref a), .val (.ref be), .val (.int (3 : Int32)), .val (.int (3 : Int32)), .val (.double ez2), .second] [(.int (1 : Int32))])) (fun _ k => XS.iconst X16.here hx rfl (hb hby d3_35)  k) ?_
  exact outZ X16 hx hlk hret (hb hby d3_36) (by rw [e16]; exact ⟨rfl, N0, rfl⟩) (by decide) (by decide)
theorem ef_rm_ev3_0 (m : MethodId) (x0 : Addr) : entryFrame m #[(.ref x0)] 6 = mkF m 0 #[.val (.ref x0), .unset, .unset, .unset, .unset, .unset] [] := by first | (simp [entryFrame, mkF, argsToLocals, Value.category, maxLocals]; done) | rfl
set_option maxRecDepth 65536 in
set_option maxHeartbeats 40000000 in
theorem rm_ev3_0 (l : Launch) (Z : State) (a0 : Array Value) (hw : ∀ d ∈ tables_1, d.before a0 Z = true) (a be : Addr) (ez0 : UInt64) (j0 : Int) (ez1 : UInt64) (j1 : Int) (ez2 : UInt64) (j2 : Int)  (h0 : Heap) (n0 : Nat) (Z0 : n0 ≤ h0.size) (F1 : Fld Z h0 a "com/example/gibbon/gibbon/analysis/BalanceEquations" "exitRate" "[D" (.ref be)) (VE : Sar Z h0 be .double [(.double ez0), (.double ez1), (.double ez2)]) (I0 : Core.DInt j0 ez0) (I1 : Core.DInt j1 ez1) (I2 : Core.DInt j2 ez2) (hq : ¬ 0 < j0) :
    Does l (⟨"com/example/gibbon/gibbon/analysis/BalanceEquations", "everyStateIsLeft", "()Z"⟩ : MethodName) prog_6_method_10_code 6 (some .boolean) [] ({ frames := 0, cells := 0, slots := 0, locals := 0 } : Room) Z #[(.ref a)] h0 (fun v h L => v = some (.int 0) ∧ Fr n0 L ∧ h = h0) := by
  refine Does.of (plainFor_of_name pn0) ?_
  intro p e s m below meth c s₁ hx hby hml hret hlk hZ hown hnm X0 e0
  have N0 := Fr.nil n0
  refine Goes.cast (g' := mkF m 0 #[.val (.ref a), .unset, .unset, .unset, .unset, .unset] []) (ef_rm_ev3_0 m a) ?_
  refine Goes.by (T' := s₁) (g' := (mkF m 1 #[.val (.ref a), .unset, .unset, .unset, .unset, .unset] [(.ref a)])) (fun _ k => XS.aloadN X0.here hx rfl (hb hby d3_0) rfl rfl k) ?_
  obtain ⟨T17, X17, e17, st17⟩ := getF X0 hx hZ hown (host := "") (Or.inl (hw _ (List.mem_of_getElem? (i := 17) rfl))) Via.refl e0 F1 (g := (mkF m 1 #[.val (.ref a), .unset, .unset, .unset, .unset, .unset] [(.ref a)])) rfl rfl (hb hby d3_1)
  refine Goes.by (T' := T17) (g' := (mkF m 4 #[.val (.ref a), .unset, .unset, .unset, .unset, .unset] [(.ref be)])) st17 ?_
  refine Goes.by (T' := T17) (g' := (mkF m 5 #[.val (.ref a), .val (.ref be), .unset, .unset, .unset, .unset] [])) (fun _ k => XS.astoreN X17.here hx rfl (hb hby d3_4) rfl rfl (l' := #[.val (.ref a), .val (.ref be), .unset, .unset, .unset, .unset]) rfl k) ?_
  refine Goes.by (T' := T17) (g' := (mkF m 6 #[.val (.ref a), .val (.ref be), .unset, .unset, .unset, .unset] [(.ref be)])) (fun _ k => XS.aloadN X17.here hx rfl (hb hby d3_5) rfl rfl k) ?_
  refine Goes.by (T' := T17) (g' := (mkF m 7 #[.val (.ref a), .val (.ref be), .unset, .unset, .unset, .unset] [(.int (3 : Int32))])) (lenS X17 hx hZ e17 VE (n := (3 : Int32)) rfl (g := (mkF m 6 #[.val (.ref a), .val (.ref be), .unset, .unset, .unset, .unset] [(.ref be)])) rfl rfl (hb hby d3_6)) ?_
  refine Goes.by (T' := T17) (g' := (mkF m 8 #[.val (.ref a), .val (.ref be), .val (.int (3 : Int32)), .unset, .unset, .unset] [])) (fun _ k => XS.istoreN X17.here hx rfl (hb hby d3_7) rfl (l' := #[.val (.ref a), .val (.ref be), .val (.int (3 : Int32)), .unset, .unset, .unset]) rfl k) ?_
  refine Goes.by (T' := T17) (g' := (mkF m 9 #[.val (.ref a), .val (.ref be), .val (.int (3 : Int32)), .unset, .unset, .unset] [(.int (0 : Int32))])) (fun _ k => XS.iconst X17.here hx rfl (hb hby d3_8)  k) ?_
  refine Goes.by (T' := T17) (g' := (mkF m 10 #[.val (.ref a), .val (.ref be), .val (.int (3 : Int32)), .val (.int (0 : Int32)), .unset, .unset] [])) (fun _ k => XS.istoreN X17.here hx rfl (hb hby d3_9) rfl (l' := #[.val (.ref a), .val (.ref be), .val (.int (3 : Int32)), .val (.int (0 : Int32)), .unset, .unset]) rfl k) ?_
  refine Goes.by (T' := T17) (g' := (mkF m 11 #[.val (.ref a), .val (.ref be), .val (.int (3 : Int32)), .val (.int (0 : Int32)), .unset, .unset] [(.int (0 : Int32))])) (fun _ k => XS.iloadN X17.here hx rfl (hb hby d3_10) rfl k) ?_
  refine Goes.by (T' := T17) (g' := (mkF m 12 #[.val (.ref a), .val (.ref be), .val (.int (3 : Int32)), .val (.int (0 : Int32)), .unset, .unset] [(.int (3 : Int32)), (.int (0 : Int32))])) (fun _ k => XS.iloadN X17.here hx rfl (hb hby d3_11) rfl k) ?_
  refine Goes.by (T' := T17) (g' := (mkF m 15 #[.val (.ref a), .val (.ref be), .val (.int (3 : Int32)), .val (.int (0 : Int32)), .unset, .unset] [])) (fun _ k => XS.icmpNo X17.here hx rfl (hb hby d3_12) rfl (by decide) k) ?_
  refine Goes.by (T' := T17) (g' := (mkF m 16 #[.val (.ref a), .val (.ref be), .val (.int (3 : Int32)), .val (.int (0 : Int32)), .unset, .unset] [(.ref be)])) (fun _ k => XS.aloadN X17.here hx rfl (hb hby d3_15) rfl rfl k) ?_
  refine Goes.by (T' := T17) (g' := (mkF m 17 #[.val (.ref a), .val (.ref be), .val (.int (3 : Int32)), .val (.int (0 : Int32)), .unset, .unset] [(.int (0 : Int32)), (.ref be)])) (fun _ k => XS.iloadN X17.here hx rfl (hb hby d3_16) rfl k) ?_
  refine Goes.by (T' := T17) (g' := (mkF m 18 #[.val (.ref a), .val (.ref be), .val (.int (3 : Int32)), .val (.int (0 : Int32)), .unset, .unset] [(.double ez0)])) (ldDS X17 hx hZ e17 VE (v := (.double ez0)) (j := (0 : Int32)) 0 (by decide) rfl (g := (mkF m 17 #[.val (.ref a), .val (.ref be), .val (.int (3 : Int32)), .val (.int (0 : Int32)), .unset, .unset] [(.int (0 : Int32)), (.ref be)])) rfl rfl (hb hby d3_17)) ?_
  refine Goes.by (T' := T17) (g' := (mkF m 20 #[.val (.ref a), .val (.ref be), .val (.int (3 : Int32)), .val (.int (0 : Int32)), .val (.double ez0), .second] [])) (fun _ k => XS.dstore X17.here hx rfl (hb hby d3_18) rfl (l' := #[.val (.ref a), .val (.ref be), .val (.int (3 : Int32)), .val (.int (0 : Int32)), .val (.double ez0), .second]) rfl k) ?_
  refine Goes.by (T' := T17) (g' := (mkF m 22 #[.val (.ref a), .val (.ref be), .val (.int (3 : Int32)), .val (.int (0 : Int32)), .val (.double ez0), .second] [(.double ez0)])) (fun _ k => XS.dload X17.here hx rfl (hb hby d3_20) rfl k) ?_
  refine Goes.by (T' := T17) (g' := (mkF m 23 #[.val (.ref a), .val (.ref be), .val (.int (3 : Int32)), .val (.int (0 : Int32)), .val (.double ez0), .second] [(.double (0 : UInt64)), (.double ez0)])) (fun _ k => XS.dconst0 X17.here hx rfl (hb hby d3_22) rfl k) ?_
  obtain ⟨cv, hv, hn⟩ := cmpD_le I0 DInt_zero (by omega) .l
  refine Goes.by (T' := T17) (g' := (mkF m 24 #[.val (.ref a), .val (.ref be), .val (.int (3 : Int32)), .val (.int (0 : Int32)), .val (.double ez0), .second] [(.int cv)])) (fun _ k => XS.dcmpS X17.here hx rfl (hb hby d3_23) rfl hv k) ?_
  refine Goes.by (T' := T17) (g' := (mkF m 27 #[.val (.ref a), .val (.ref be), .val (.int (3 : Int32)), .val (.int (0 : Int32)), .val (.double ez0), .second] [])) (fun _ k => XS.ifNo X17.here hx rfl (hb hby d3_24) rfl ((if0 _ _).trans (flt hn).2.2.1) k) ?_
  refine Goes.by (T' := T17) (g' := (mkF m 28 #[.val (.ref a), .val (.ref be), .val (.int (3 : Int32)), .val (.int (0 : Int32)), .val (.double ez0), .second] [(.int (0 : Int32))])) (fun _ k => XS.iconst X17.here hx rfl (hb hby d3_27)  k) ?_
  exact outZ X17 hx hlk hret (hb hby d3_28) (by rw [e17]; exact ⟨rfl, N0, rfl⟩) (by decide) (by decide)
theorem ef_rm_ev3_1 (m : MethodId) (x0 : Addr) : entryFrame m #[(.ref x0)] 6 = mkF m 0 #[.val (.ref x0), .unset, .unset, .unset, .unset, .unset] [] := by first | (simp [entryFrame, mkF, argsToLocals, Value.category, maxLocals]; done) | rfl
set_option maxRecDepth 65536 in
set_option maxHeartbeats 40000000 in
theorem rm_ev3_1 (l : Launch) (Z : State) (a0 : Array Value) (hw : ∀ d ∈ tables_1, d.before a0 Z = true) (a be : Addr) (ez0 : UInt64) (j0 : Int) (ez1 : UInt64) (j1 : Int) (ez2 : UInt64) (j2 : Int)  (h0 : Heap) (n0 : Nat) (Z0 : n0 ≤ h0.size) (F1 : Fld Z h0 a "com/example/gibbon/gibbon/analysis/BalanceEquations" "exitRate" "[D" (.ref be)) (VE : Sar Z h0 be .double [(.double ez0), (.double ez1), (.double ez2)]) (I0 : Core.DInt j0 ez0) (I1 : Core.DInt j1 ez1) (I2 : Core.DInt j2 ez2) (hp0 : 0 < j0) (hq : ¬ 0 < j1) :
    Does l (⟨"com/example/gibbon/gibbon/analysis/BalanceEquations", "everyStateIsLeft", "()Z"⟩ : MethodName) prog_6_method_10_code 6 (some .boolean) [] ({ frames := 0, cells := 0, slots := 0, locals := 0 } : Room) Z #[(.ref a)] h0 (fun v h L => v = some (.int 0) ∧ Fr n0 L ∧ h = h0) := by
  refine Does.of (plainFor_of_name pn0) ?_
  intro p e s m below meth c s₁ hx hby hml hret hlk hZ hown hnm X0 e0
  have N0 := Fr.nil n0
  refine Goes.cast (g' := mkF m 0 #[.val (.ref a), .unset, .unset, .unset, .unset, .unset] []) (ef_rm_ev3_1 m a) ?_
  refine Goes.by (T' := s₁) (g' := (mkF m 1 #[.val (.ref a), .unset, .unset, .unset, .unset, .unset] [(.ref a)])) (fun _ k => XS.aloadN X0.here hx rfl (hb hby d3_0) rfl rfl k) ?_
  obtain ⟨T18, X18, e18, st18⟩ := getF X0 hx hZ hown (host := "") (Or.inl (hw _ (List.mem_of_getElem? (i := 17) rfl))) Via.refl e0 F1 (g := (mkF m 1 #[.val (.ref a), .unset, .unset, .unset, .unset, .unset] [(.ref a)])) rfl rfl (hb hby d3_1)
  refine Goes.by (T' := T18) (g' := (mkF m 4 #[.val (.ref a), .unset, .unset, .unset, .unset, .unset] [(.ref be)])) st18 ?_
  refine Goes.by (T' := T18) (g' := (mkF m 5 #[.val (.ref a), .val (.ref be), .unset, .unset, .unset, .unset] [])) (fun _ k => XS.astoreN X18.here hx rfl (hb hby d3_4) rfl rfl (l' := #[.val (.ref a), .val (.ref be), .unset, .unset, .unset, .unset]) rfl k) ?_
  refine Goes.by (T' := T18) (g' := (mkF m 6 #[.val (.ref a), .val (.ref be), .unset, .unset, .unset, .unset] [(.ref be)])) (fun _ k => XS.aloadN X18.here hx rfl (hb hby d3_5) rfl rfl k) ?_
  refine Goes.by (T' := T18) (g' := (mkF m 7 #[.val (.ref a), .val (.ref be), .unset, .unset, .unset, .unset] [(.int (3 : Int32))])) (lenS X18 hx hZ e18 VE (n := (3 : Int32)) rfl (g := (mkF m 6 #[.val (.ref a), .val (.ref be), .unset, .unset, .unset, .unset] [(.ref be)])) rfl rfl (hb hby d3_6)) ?_
  refine Goes.by (T' := T18) (g' := (mkF m 8 #[.val (.ref a), .val (.ref be), .val (.int (3 : Int32)), .unset, .unset, .unset] [])) (fun _ k => XS.istoreN X18.here hx rfl (hb hby d3_7) rfl (l' := #[.val (.ref a), .val (.ref be), .val (.int (3 : Int32)), .unset, .unset, .unset]) rfl k) ?_
  refine Goes.by (T' := T18) (g' := (mkF m 9 #[.val (.ref a), .val (.ref be), .val (.int (3 : Int32)), .unset, .unset, .unset] [(.int (0 : Int32))])) (fun _ k => XS.iconst X18.here hx rfl (hb hby d3_8)  k) ?_
  refine Goes.by (T' := T18) (g' := (mkF m 10 #[.val (.ref a), .val (.ref be), .val (.int (3 : Int32)), .val (.int (0 : Int32)), .unset, .unset] [])) (fun _ k => XS.istoreN X18.here hx rfl (hb hby d3_9) rfl (l' := #[.val (.ref a), .val (.ref be), .val (.int (3 : Int32)), .val (.int (0 : Int32)), .unset, .unset]) rfl k) ?_
  refine Goes.by (T' := T18) (g' := (mkF m 11 #[.val (.ref a), .val (.ref be), .val (.int (3 : Int32)), .val (.int (0 : Int32)), .unset, .unset] [(.int (0 : Int32))])) (fun _ k => XS.iloadN X18.here hx rfl (hb hby d3_10) rfl k) ?_
  refine Goes.by (T' := T18) (g' := (mkF m 12 #[.val (.ref a), .val (.ref be), .val (.int (3 : Int32)), .val (.int (0 : Int32)), .unset, .unset] [(.int (3 : Int32)), (.int (0 : Int32))])) (fun _ k => XS.iloadN X18.here hx rfl (hb hby d3_11) rfl k) ?_
  refine Goes.by (T' := T18) (g' := (mkF m 15 #[.val (.ref a), .val (.ref be), .val (.int (3 : Int32)), .val (.int (0 : Int32)), .unset, .unset] [])) (fun _ k => XS.icmpNo X18.here hx rfl (hb hby d3_12) rfl (by decide) k) ?_
  refine Goes.by (T' := T18) (g' := (mkF m 16 #[.val (.ref a), .val (.ref be), .val (.int (3 : Int32)), .val (.int (0 : Int32)), .unset, .unset] [(.ref be)])) (fun _ k => XS.aloadN X18.here hx rfl (hb hby d3_15) rfl rfl k) ?_
  refine Goes.by (T' := T18) (g' := (mkF m 17 #[.val (.ref a), .val (.ref be), .val (.int (3 : Int32)), .val (.int (0 : Int32)), .unset, .unset] [(.int (0 : Int32)), (.ref be)])) (fun _ k => XS.iloadN X18.here hx rfl (hb hby d3_16) rfl k) ?_
  refine Goes.by (T' := T18) (g' := (mkF m 18 #[.val (.ref a), .val (.ref be), .val (.int (3 : Int32)), .val (.int (0 : Int32)), .unset, .unset] [(.double ez0)])) (ldDS X18 hx hZ e18 VE (v := (.double ez0)) (j := (0 : Int32)) 0 (by decide) rfl (g := (mkF m 17 #[.val (.ref a), .val (.ref be), .val (.int (3 : Int32)), .val (.int (0 : Int32)), .unset, .unset] [(.int (0 : Int32)), (.ref be)])) rfl rfl (hb hby d3_17)) ?_
  refine Goes.by (T' := T18) (g' := (mkF m 20 #[.val (.ref a), .val (.ref be), .val (.int (3 : Int32)), .val (.int (0 : Int32)), .val (.double ez0), .second] [])) (fun _ k => XS.dstore X18.here hx rfl (hb hby d3_18) rfl (l' := #[.val (.ref a), .val (.ref be), .val (.int (3 : Int32)), .val (.int (0 : Int32)), .val (.double ez0), .second]) rfl k) ?_
  refine Goes.by (T' := T18) (g' := (mkF m 22 #[.val (.ref a), .val (.ref be), .val (.int (3 : Int32)), .val (.int (0 : Int32)), .val (.double ez0), .second] [(.double ez0)])) (fun _ k => XS.dload X18.here hx rfl (hb hby d3_20) rfl k) ?_
  refine Goes.by (T' := T18) (g' := (mkF m 23 #[.val (.ref a), .val (.ref be), .val (.int (3 : Int32)), .val (.int (0 : Int32)), .val (.double ez0), .second] [(.double (0 : UInt64)), (.double ez0)])) (fun _ k => XS.dconst0 X18.here hx rfl (hb hby d3_22) rfl k) ?_
  refine Goes.by (T' := T18) (g' := (mkF m 24 #[.val (.ref a), .val (.ref be), .val (.int (3 : Int32)), .val (.int (0 : Int32)), .val (.double ez0), .second] [(.int (1 : Int32))])) (fun _ k => XS.dcmpS X18.here hx rfl (hb hby d3_23) rfl (cmpD_gt I0 DInt_zero hp0 _) k) ?_
  refine Goes.by (T' := T18) (g' := (mkF m 29 #[.val (.ref a), .val (.ref be), .val (.int (3 : Int32)), .val (.int (0 : Int32)), .val (.double ez0), .second] [])) (fun _ k => XS.ifYes X18.here hx rfl (pc0 := 24) (pc' := 29) rfl (hb hby d3_24) rfl (by decide) (by decide) (by decide) k) ?_
  refine Goes.by (T' := T18) (g' := (mkF m 32 #[.val (.ref a), .val (.ref be), .val (.int (3 : Int32)), .val (.int (1 : Int32)), .val (.double ez0), .second] [])) (fun _ k => XS.iinc X18.here hx rfl (hb hby d3_29) rfl (l' := #[.val (.ref a), .val (.ref be), .val (.int (3 : Int32)), .val (.int (1 : Int32)), .val (.double ez0), .second]) rfl k) ?_
  refine Goes.by (T' := T18) (g' := (mkF m 10 #[.val (.ref a), .val (.ref be), .val (.int (3 : Int32)), .val (.int (1 : Int32)), .val (.double ez0), .second] [])) (fun _ k => XS.goto X18.here hx rfl (pc0 := 32) (pc' := 10) rfl (hb hby d3_32) (by decide) (by decide) k) ?_
  refine Goes.by (T' := T18) (g' := (mkF m 11 #[.val (.ref a), .val (.ref be), .val (.int (3 : Int32)), .val (.int (1 : Int32)), .val (.double ez0), .second] [(.int (1 : Int32))])) (fun _ k => XS.iloadN X18.here hx rfl (hb hby d3_10) rfl k) ?_
  refine Goes.by (T' := T18) (g' := (mkF m 12 #[.val (.ref a), .val (.ref be), .val (.int (3 : Int32)), .val (.int (1 : Int32)), .val (.double ez0), .second] [(.int (3 : Int32)), (.int (1 : Int32))])) (fun _ k => XS.iloadN X18.here hx rfl (hb hby d3_11) rfl k) ?_
  refine Goes.by (T' := T18) (g' := (mkF m 15 #[.val (.ref a), .val (.ref be), .val (.int (3 : Int32)), .val (.int (1 : Int32)), .val (.double ez0), .second] [])) (fun _ k => XS.icmpNo X18.here hx rfl (hb hby d3_12) rfl (by decide) k) ?_
  refine Goes.by (T' := T18) (g' := (mkF m 16 #[.val (.ref a), .val (.ref be), .val (.int (3 : Int32)), .val (.int (1 : Int32)), .val (.double ez0), .second] [(.ref be)])) (fun _ k => XS.aloadN X18.here hx rfl (hb hby d3_15) rfl rfl k) ?_
  refine Goes.by (T' := T18) (g' := (mkF m 17 #[.val (.ref a), .val (.ref be), .val (.int (3 : Int32)), .val (.int (1 : Int32)), .val (.double ez0), .second] [(.int (1 : Int32)), (.ref be)])) (fun _ k => XS.iloadN X18.here hx rfl (hb hby d3_16) rfl k) ?_
  refine Goes.by (T' := T18) (g' := (mkF m 18 #[.val (.ref a), .val (.ref be), .val (.int (3 : Int32)), .val (.int (1 : Int32)), .val (.double ez0), .second] [(.double ez1)])) (ldDS X18 hx hZ e18 VE (v := (.double ez1)) (j := (1 : Int32)) 1 (by decide) rfl (g := (mkF m 17 #[.val (.ref a), .val (.ref be), .val (.int (3 : Int32)), .val (.int (1 : Int32)), .val (.double ez0), .second] [(.int (1 : Int32)), (.ref be)])) rfl rfl (hb hby d3_17)) ?_
  refine Goes.by (T' := T18) (g' := (mkF m 20 #[.val (.ref a), .val (.ref be), .val (.int (3 : Int32)), .val (.int (1 : Int32)), .val (.double ez1), .second] [])) (fun _ k => XS.dstore X18.here hx rfl (hb hby d3_18) rfl (l' := #[.val (.ref a), .val (.ref be), .val (.int (3 : Int32)), .val (.int (1 : Int32)), .val (.double ez1), .second]) rfl k) ?_
  refine Goes.by (T' := T18) (g' := (mkF m 22 #[.val (.ref a), .val (.ref be), .val (.int (3 : Int32)), .val (.int (1 : Int32)), .val (.double ez1), .second] [(.double ez1)])) (fun _ k => XS.dload X18.here hx rfl (hb hby d3_20) rfl k) ?_
  refine Goes.by (T' := T18) (g' := (mkF m 23 #[.val (.ref a), .val (.ref be), .val (.int (3 : Int32)), .val (.int (1 : Int32)), .val (.double ez1), .second] [(.double (0 : UInt64)), (.double ez1)])) (fun _ k => XS.dconst0 X18.here hx rfl (hb hby d3_22) rfl k) ?_
  obtain ⟨cv, hv, hn⟩ := cmpD_le I1 DInt_zero (by omega) .l
  refine Goes.by (T' := T18) (g' := (mkF m 24 #[.val (.ref a), .val (.ref be), .val (.int (3 : Int32)), .val (.int (1 : Int32)), .val (.double ez1), .second] [(.int cv)])) (fun _ k => XS.dcmpS X18.here hx rfl (hb hby d3_23) rfl hv k) ?_
  refine Goes.by (T' := T18) (g' := (mkF m 27 #[.val (.ref a), .val (.ref be), .val (.int (3 : Int32)), .val (.int (1 : Int32)), .val (.double ez1), .second] [])) (fun _ k => XS.ifNo X18.here hx rfl (hb hby d3_24) rfl ((if0 _ _).trans (flt hn).2.2.1) k) ?_
  refine Goes.by (T' := T18) (g' := (mkF m 28 #[.val (.ref a), .val (.ref be), .val (.int (3 : Int32)), .val (.int (1 : Int32)), .val (.double ez1), .second] [(.int (0 : Int32))])) (fun _ k => XS.iconst X18.here hx rfl (hb hby d3_27)  k) ?_
  exact outZ X18 hx hlk hret (hb hby d3_28) (by rw [e18]; exact ⟨rfl, N0, rfl⟩) (by decide) (by decide)
theorem ef_rm_ev3_2 (m : MethodId) (x0 : Addr) : entryFrame m #[(.ref x0)] 6 = mkF m 0 #[.val (.ref x0), .unset, .unset, .unset, .unset, .unset] [] := by first | (simp [entryFrame, mkF, argsToLocals, Value.category, maxLocals]; done) | rfl
set_option maxRecDepth 65536 in
set_option maxHeartbeats 40000000 in
theorem rm_ev3_2 (l : Launch) (Z : State) (a0 : Array Value) (hw : ∀ d ∈ tables_1, d.before a0 Z = true) (a be : Addr) (ez0 : UInt64) (j0 : Int) (ez1 : UInt64) (j1 : Int) (ez2 : UInt64) (j2 : Int)  (h0 : Heap) (n0 : Nat) (Z0 : n0 ≤ h0.size) (F1 : Fld Z h0 a "com/example/gibbon/gibbon/analysis/BalanceEquations" "exitRate" "[D" (.ref be)) (VE : Sar Z h0 be .double [(.double ez0), (.double ez1), (.double ez2)]) (I0 : Core.DInt j0 ez0) (I1 : Core.DInt j1 ez1) (I2 : Core.DInt j2 ez2) (hp0 : 0 < j0) (hp1 : 0 < j1) (hq : ¬ 0 < j2) :
    Does l (⟨"com/example/gibbon/gibbon/analysis/BalanceEquations", "everyStateIsLeft", "()Z"⟩ : MethodName) prog_6_method_10_code 6 (some .boolean) [] ({ frames := 0, cells := 0, slots := 0, locals := 0 } : Room) Z #[(.ref a)] h0 (fun v h L => v = some (.int 0) ∧ Fr n0 L ∧ h = h0) := by
  refine Does.of (plainFor_of_name pn0) ?_
  intro p e s m below meth c s₁ hx hby hml hret hlk hZ hown hnm X0 e0
  have N0 := Fr.nil n0
  refine Goes.cast (g' := mkF m 0 #[.val (.ref a), .unset, .unset, .unset, .unset, .unset] []) (ef_rm_ev3_2 m a) ?_
  refine Goes.by (T' := s₁) (g' := (mkF m 1 #[.val (.ref a), .unset, .unset, .unset, .unset, .unset] [(.ref a)])) (fun _ k => XS.aloadN X0.here hx rfl (hb hby d3_0) rfl rfl k) ?_
  obtain ⟨T19, X19, e19, st19⟩ := getF X0 hx hZ hown (host := "") (Or.inl (hw _ (List.mem_of_getElem? (i := 17) rfl))) Via.refl e0 F1 (g := (mkF m 1 #[.val (.ref a), .unset, .unset, .unset, .unset, .unset] [(.ref a)])) rfl rfl (hb hby d3_1)
  refine Goes.by (T' := T19) (g' := (mkF m 4 #[.val (.ref a), .unset, .unset, .unset, .unset, .unset] [(.ref be)])) st19 ?_
  refine Goes.by (T' := T19) (g' := (mkF m 5 #[.val (.ref a), .val (.ref be), .unset, .unset, .unset, .unset] [])) (fun _ k => XS.astoreN X19.here hx rfl (hb hby d3_4) rfl rfl (l' := #[.val (.ref a), .val (.ref be), .unset, .unset, .unset, .unset]) rfl k) ?_
  refine Goes.by (T' := T19) (g' := (mkF m 6 #[.val (.ref a), .val (.ref be), .unset, .unset, .unset, .unset] [(.ref be)])) (fun _ k => XS.aloadN X19.here hx rfl (hb hby d3_5) rfl rfl k) ?_
  refine Goes.by (T' := T19) (g' := (mkF m 7 #[.val (.ref a), .val (.ref be), .unset, .unset, .unset, .unset] [(.int (3 : Int32))])) (lenS X19 hx hZ e19 VE (n := (3 : Int32)) rfl (g := (mkF m 6 #[.val (.ref a), .val (.ref be), .unset, .unset, .unset, .unset] [(.ref be)])) rfl rfl (hb hby d3_6)) ?_
  refine Goes.by (T' := T19) (g' := (mkF m 8 #[.val (.ref a), .val (.ref be), .val (.int (3 : Int32)), .unset, .unset, .unset] [])) (fun _ k => XS.istoreN X19.here hx rfl (hb hby d3_7) rfl (l' := #[.val (.ref a), .val (.ref be), .val (.int (3 : Int32)), .unset, .unset, .unset]) rfl k) ?_
  refine Goes.by (T' := T19) (g' := (mkF m 9 #[.val (.ref a), .val (.ref be), .val (.int (3 : Int32)), .unset, .unset, .unset] [(.int (0 : Int32))])) (fun _ k => XS.iconst X19.here hx rfl (hb hby d3_8)  k) ?_
  refine Goes.by (T' := T19) (g' := (mkF m 10 #[.val (.ref a), .val (.ref be), .val (.int (3 : Int32)), .val (.int (0 : Int32)), .unset, .unset] [])) (fun _ k => XS.istoreN X19.here hx rfl (hb hby d3_9) rfl (l' := #[.val (.ref a), .val (.ref be), .val (.int (3 : Int32)), .val (.int (0 : Int32)), .unset, .unset]) rfl k) ?_
  refine Goes.by (T' := T19) (g' := (mkF m 11 #[.val (.ref a), .val (.ref be), .val (.int (3 : Int32)), .val (.int (0 : Int32)), .unset, .unset] [(.int (0 : Int32))])) (fun _ k => XS.iloadN X19.here hx rfl (hb hby d3_10) rfl k) ?_
  refine Goes.by (T' := T19) (g' := (mkF m 12 #[.val (.ref a), .val (.ref be), .val (.int (3 : Int32)), .val (.int (0 : Int32)), .unset, .unset] [(.int (3 : Int32)), (.int (0 : Int32))])) (fun _ k => XS.iloadN X19.here hx rfl (hb hby d3_11) rfl k) ?_
  refine Goes.by (T' := T19) (g' := (mkF m 15 #[.val (.ref a), .val (.ref be), .val (.int (3 : Int32)), .val (.int (0 : Int32)), .unset, .unset] [])) (fun _ k => XS.icmpNo X19.here hx rfl (hb hby d3_12) rfl (by decide) k) ?_
  refine Goes.by (T' := T19) (g' := (mkF m 16 #[.val (.ref a), .val (.ref be), .val (.int (3 : Int32)), .val (.int (0 : Int32)), .unset, .unset] [(.ref be)])) (fun _ k => XS.aloadN X19.here hx rfl (hb hby d3_15) rfl rfl k) ?_
  refine Goes.by (T' := T19) (g' := (mkF m 17 #[.val (.ref a), .val (.ref be), .val (.int (3 : Int32)), .val (.int (0 : Int32)), .unset, .unset] [(.int (0 : Int32)), (.ref be)])) (fun _ k => XS.iloadN X19.here hx rfl (hb hby d3_16) rfl k) ?_
  refine Goes.by (T' := T19) (g' := (mkF m 18 #[.val (.ref a), .val (.ref be), .val (.int (3 : Int32)), .val (.int (0 : Int32)), .unset, .unset] [(.double ez0)])) (ldDS X19 hx hZ e19 VE (v := (.double ez0)) (j := (0 : Int32)) 0 (by decide) rfl (g := (mkF m 17 #[.val (.ref a), .val (.ref be), .val (.int (3 : Int32)), .val (.int (0 : Int32)), .unset, .unset] [(.int (0 : Int32)), (.ref be)])) rfl rfl (hb hby d3_17)) ?_
  refine Goes.by (T' := T19) (g' := (mkF m 20 #[.val (.ref a), .val (.ref be), .val (.int (3 : Int32)), .val (.int (0 : Int32)), .val (.double ez0), .second] [])) (fun _ k => XS.dstore X19.here hx rfl (hb hby d3_18) rfl (l' := #[.val (.ref a), .val (.ref be), .val (.int (3 : Int32)), .val (.int (0 : Int32)), .val (.double ez0), .second]) rfl k) ?_
  refine Goes.by (T' := T19) (g' := (mkF m 22 #[.val (.ref a), .val (.ref be), .val (.int (3 : Int32)), .val (.int (0 : Int32)), .val (.double ez0), .second] [(.double ez0)])) (fun _ k => XS.dload X19.here hx rfl (hb hby d3_20) rfl k) ?_
  refine Goes.by (T' := T19) (g' := (mkF m 23 #[.val (.ref a), .val (.ref be), .val (.int (3 : Int32)), .val (.int (0 : Int32)), .val (.double ez0), .second] [(.double (0 : UInt64)), (.double ez0)])) (fun _ k => XS.dconst0 X19.here hx rfl (hb hby d3_22) rfl k) ?_
  refine Goes.by (T' := T19) (g' := (mkF m 24 #[.val (.ref a), .val (.ref be), .val (.int (3 : Int32)), .val (.int (0 : Int32)), .val (.double ez0), .second] [(.int (1 : Int32))])) (fun _ k => XS.dcmpS X19.here hx rfl (hb hby d3_23) rfl (cmpD_gt I0 DInt_zero hp0 _) k) ?_
  refine Goes.by (T' := T19) (g' := (mkF m 29 #[.val (.ref a), .val (.ref be), .val (.int (3 : Int32)), .val (.int (0 : Int32)), .val (.double ez0), .second] [])) (fun _ k => XS.ifYes X19.here hx rfl (pc0 := 24) (pc' := 29) rfl (hb hby d3_24) rfl (by decide) (by decide) (by decide) k) ?_
  refine Goes.by (T' := T19) (g' := (mkF m 32 #[.val (.ref a), .val (.ref be), .val (.int (3 : Int32)), .val (.int (1 : Int32)), .val (.double ez0), .second] [])) (fun _ k => XS.iinc X19.here hx rfl (hb hby d3_29) rfl (l' := #[.val (.ref a), .val (.ref be), .val (.int (3 : Int32)), .val (.int (1 : Int32)), .val (.double ez0), .second]) rfl k) ?_
  refine Goes.by (T' := T19) (g' := (mkF m 10 #[.val (.ref a), .val (.ref be), .val (.int (3 : Int32)), .val (.int (1 : Int32)), .val (.double ez0), .second] [])) (fun _ k => XS.goto X19.here hx rfl (pc0 := 32) (pc' := 10) rfl (hb hby d3_32) (by decide) (by decide) k) ?_
  refine Goes.by (T' := T19) (g' := (mkF m 11 #[.val (.ref a), .val (.ref be), .val (.int (3 : Int32)), .val (.int (1 : Int32)), .val (.double ez0), .second] [(.int (1 : Int32))])) (fun _ k => XS.iloadN X19.here hx rfl (hb hby d3_10) rfl k) ?_
  refine Goes.by (T' := T19) (g' := (mkF m 12 #[.val (.ref a), .val (.ref be), .val (.int (3 : Int32)), .val (.int (1 : Int32)), .val (.double ez0), .second] [(.int (3 : Int32)), (.int (1 : Int32))])) (fun _ k => XS.iloadN X19.here hx rfl (hb hby d3_11) rfl k) ?_
  refine Goes.by (T' := T19) (g' := (mkF m 15 #[.val (.ref a), .val (.ref be), .val (.int (3 : Int32)), .val (.int (1 : Int32)), .val (.double ez0), .second] [])) (fun _ k => XS.icmpNo X19.here hx rfl (hb hby d3_12) rfl (by decide) k) ?_
  refine Goes.by (T' := T19) (g' := (mkF m 16 #[.val (.ref a), .val (.ref be), .val (.int (3 : Int32)), .val (.int (1 : Int32)), .val (.double ez0), .second] [(.ref be)])) (fun _ k => XS.aloadN X19.here hx rfl (hb hby d3_15) rfl rfl k) ?_
  refine Goes.by (T' := T19) (g' := (mkF m 17 #[.val (.ref a), .val (.ref be), .val (.int (3 : Int32)), .val (.int (1 : Int32)), .val (.double ez0), .second] [(.int (1 : Int32)), (.ref be)])) (fun _ k => XS.iloadN X19.here hx rfl (hb hby d3_16) rfl k) ?_
  refine Goes.by (T' := T19) (g' := (mkF m 18 #[.val (.ref a), .val (.ref be), .val (.int (3 : Int32)), .val (.int (1 : Int32)), .val (.double ez0), .second] [(.double ez1)])) (ldDS X19 hx hZ e19 VE (v := (.double ez1)) (j := (1 : Int32)) 1 (by decide) rfl (g := (mkF m 17 #[.val (.ref a), .val (.ref be), .val (.int (3 : Int32)), .val (.int (1 : Int32)), .val (.double ez0), .second] [(.int (1 : Int32)), (.ref be)])) rfl rfl (hb hby d3_17)) ?_
  refine Goes.by (T' := T19) (g' := (mkF m 20 #[.val (.ref a), .val (.ref be), .val (.int (3 : Int32)), .val (.int (1 : Int32)), .val (.double ez1), .second] [])) (fun _ k => XS.dstore X19.here hx rfl (hb hby d3_18) rfl (l' := #[.val (.ref a), .val (.ref be), .val (.int (3 : Int32)), .val (.int (1 : Int32)), .val (.double ez1), .second]) rfl k) ?_
  refine Goes.by (T' := T19) (g' := (mkF m 22 #[.val (.ref a), .val (.ref be), .val (.int (3 : Int32)), .val (.int (1 : Int32)), .val (.double ez1), .second] [(.double ez1)])) (fun _ k => XS.dload X19.here hx rfl (hb hby d3_20) rfl k) ?_
  refine Goes.by (T' := T19) (g' := (mkF m 23 #[.val (.ref a), .val (.ref be), .val (.int (3 : Int32)), .val (.int (1 : Int32)), .val (.double ez1), .second] [(.double (0 : UInt64)), (.double ez1)])) (fun _ k => XS.dconst0 X19.here hx rfl (hb hby d3_22) rfl k) ?_
  refine Goes.by (T' := T19) (g' := (mkF m 24 #[.val (.ref a), .val (.ref be), .val (.int (3 : Int32)), .val (.int (1 : Int32)), .val (.double ez1), .second] [(.int (1 : Int32))])) (fun _ k => XS.dcmpS X19.here hx rfl (hb hby d3_23) rfl (cmpD_gt I1 DInt_zero hp1 _) k) ?_
  refine Goes.by (T' := T19) (g' := (mkF m 29 #[.val (.ref a), .val (.ref be), .val (.int (3 : Int32)), .val (.int (1 : Int32)), .val (.double ez1), .second] [])) (fun _ k => XS.ifYes X19.here hx rfl (pc0 := 24) (pc' := 29) rfl (hb hby d3_24) rfl (by decide) (by decide) (by decide) k) ?_
  refine Goes.by (T' := T19) (g' := (mkF m 32 #[.val (.ref a), .val (.ref be), .val (.int (3 : Int32)), .val (.int (2 : Int32)), .val (.double ez1), .second] [])) (fun _ k => XS.iinc X19.here hx rfl (hb hby d3_29) rfl (l' := #[.val (.ref a), .val (.ref be), .val (.int (3 : Int32)), .val (.int (2 : Int32)), .val (.double ez1), .second]) rfl k) ?_
  refine Goes.by (T' := T19) (g' := (mkF m 10 #[.val (.ref a), .val (.ref be), .val (.int (3 : Int32)), .val (.int (2 : Int32)), .val (.double ez1), .second] [])) (fun _ k => XS.goto X19.here hx rfl (pc0 := 32) (pc' := 10) rfl (hb hby d3_32) (by decide) (by decide) k) ?_
  refine Goes.by (T' := T19) (g' := (mkF m 11 #[.val (.ref a), .val (.ref be), .val (.int (3 : Int32)), .val (.int (2 : Int32)), .val (.double ez1), .second] [(.int (2 : Int32))])) (fun _ k => XS.iloadN X19.here hx rfl (hb hby d3_10) rfl k) ?_
  refine Goes.by (T' := T19) (g' := (mkF m 12 #[.val (.ref a), .val (.ref be), .val (.int (3 : Int32)), .val (.int (2 : Int32)), .val (.double ez1), .second] [(.int (3 : Int32)), (.int (2 : Int32))])) (fun _ k => XS.iloadN X19.here hx rfl (hb hby d3_11) rfl k) ?_
  refine Goes.by (T' := T19) (g' := (mkF m 15 #[.val (.ref a), .val (.ref be), .val (.int (3 : Int32)), .val (.int (2 : Int32)), .val (.double ez1), .second] [])) (fun _ k => XS.icmpNo X19.here hx rfl (hb hby d3_12) rfl (by decide) k) ?_
  refine Goes.by (T' := T19) (g' := (mkF m 16 #[.val (.ref a), .val (.ref be), .val (.int (3 : Int32)), .val (.int (2 : Int32)), .val (.double ez1), .second] [(.ref be)])) (fun _ k => XS.aloadN X19.here hx rfl (hb hby d3_15) rfl rfl k) ?_
  refine Goes.by (T' := T19) (g' := (mkF m 17 #[.val (.ref a), .val (.ref be), .val (.int (3 : Int32)), .val (.int (2 : Int32)), .val (.double ez1), .second] [(.int (2 : Int32)), (.ref be)])) (fun _ k => XS.iloadN X19.here hx rfl (hb hby d3_16) rfl k) ?_
  refine Goes.by (T' := T19) (g' := (mkF m 18 #[.val (.ref a), .val (.ref be), .val (.int (3 : Int32)), .val (.int (2 : Int32)), .val (.double ez1), .second] [(.double ez2)])) (ldDS X19 hx hZ e19 VE (v := (.double ez2)) (j := (2 : Int32)) 2 (by decide) rfl (g := (mkF m 17 #[.val (.ref a), .val (.ref be), .val (.int (3 : Int32)), .val (.int (2 : Int32)), .val (.double ez1), .second] [(.int (2 : Int32)), (.ref be)])) rfl rfl (hb hby d3_17)) ?_
  refine Goes.by (T' := T19) (g' := (mkF m 20 #[.val (.ref a), .val (.ref be), .val (.int (3 : Int32)), .val (.int (2 : Int32)), .val (.double ez2), .second] [])) (fun _ k => XS.dstore X19.here hx rfl (hb hby d3_18) rfl (l' := #[.val (.ref a), .val (.ref be), .val (.int (3 : Int32)), .val (.int (2 : Int32)), .val (.double ez2), .second]) rfl k) ?_
  refine Goes.by (T' := T19) (g' := (mkF m 22 #[.val (.ref a), .val (.ref be), .val (.int (3 : Int32)), .val (.int (2 : Int32)), .val (.double ez2), .second] [(.double ez2)])) (fun _ k => XS.dload X19.here hx rfl (hb hby d3_20) rfl k) ?_
  refine Goes.by (T' := T19) (g' := (mkF m 23 #[.val (.ref a), .val (.ref be), .val (.int (3 : Int32)), .val (.int (2 : Int32)), .val (.double ez2), .second] [(.double (0 : UInt64)), (.double ez2)])) (fun _ k => XS.dconst0 X19.here hx rfl (hb hby d3_22) rfl k) ?_
  obtain ⟨cv, hv, hn⟩ := cmpD_le I2 DInt_zero (by omega) .l
  refine Goes.by (T' := T19) (g' := (mkF m 24 #[.val (.ref a), .val (.ref be), .val (.int (3 : Int32)), .val (.int (2 : Int32)), .val (.double ez2), .second] [(.int cv)])) (fun _ k => XS.dcmpS X19.here hx rfl (hb hby d3_23) rfl hv k) ?_
  refine Goes.by (T' := T19) (g' := (mkF m 27 #[.val (.ref a), .val (.ref be), .val (.int (3 : Int32)), .val (.int (2 : Int32)), .val (.double ez2), .second] [])) (fun _ k => XS.ifNo X19.here hx rfl (hb hby d3_24) rfl ((if0 _ _).trans (flt hn).2.2.1) k) ?_
  refine Goes.by (T' := T19) (g' := (mkF m 28 #[.val (.ref a), .val (.ref be), .val (.int (3 : Int32)), .val (.int (2 : Int32)), .val (.double ez2), .second] [(.int (0 : Int32))])) (fun _ k => XS.iconst X19.here hx rfl (hb hby d3_27)  k) ?_
  exact outZ X19 hx hlk hret (hb hby d3_28) (by rw [e19]; exact ⟨rfl, N0, rfl⟩) (by decide) (by decide)
theorem d4_0 : decode prog_6_method_9_code 0 = .ok (.aload_n 0, 1) := by decide +kernel
theorem d4_1 : decode prog_6_method_9_code 1 = .ok (.getfield 25, 3) := by decide +kernel
theorem d4_4 : decode prog_6_method_9_code 4 = .ok (.iload_n 1, 1) := by decide +kernel
theorem d4_5 : decode prog_6_method_9_code 5 = .ok (.dup2, 1) := by decide +kernel
theorem d4_6 : decode prog_6_method_9_code 6 = .ok (.daload, 1) := by decide +kernel
theorem d4_7 : decode prog_6_method_9_code 7 = .ok (.dload_n 2, 1) := by decide +kernel
theorem d4_8 : decode prog_6_method_9_code 8 = .ok (.dadd, 1) := by decide +kernel
theorem d4_9 : decode prog_6_method_9_code 9 = .ok (.dastore, 1) := by decide +kernel
theorem d4_10 : decode prog_6_method_9_code 10 = .ok (.aload_n 0, 1) := by decide +kernel
theorem d4_11 : decode prog_6_method_9_code 11 = .ok (.getfield 29, 3) := by decide +kernel
theorem d4_14 : decode prog_6_method_9_code 14 = .ok (.aload_n 0, 1) := by decide +kernel
theorem d4_15 : decode prog_6_method_9_code 15 = .ok (.getfield 22, 3) := by decide +kernel
theorem d4_18 : decode prog_6_method_9_code 18 = .ok (.iload_n 1, 1) := by decide +kernel
theorem d4_19 : decode prog_6_method_9_code 19 = .ok (.iaload, 1) := by decide +kernel
theorem d4_20 : decode prog_6_method_9_code 20 = .ok (.dup2, 1) := by decide +kernel
theorem d4_21 : decode prog_6_method_9_code 21 = .ok (.daload, 1) := by decide +kernel
theorem d4_22 : decode prog_6_method_9_code 22 = .ok (.dload_n 2, 1) := by decide +kernel
theorem d4_23 : decode prog_6_method_9_code 23 = .ok (.dadd, 1) := by decide +kernel
theorem d4_24 : decode prog_6_method_9_code 24 = .ok (.dastore, 1) := by decide +kernel
theorem d4_25 : decode prog_6_method_9_code 25 = .ok (.return_, 1) := by decide +kernel
theorem pd2 : parseMethodDescriptor "(ID)V" = some ⟨[.int, .double], none⟩ := by decide +kernel
theorem ef_rm_flow0 (m : MethodId) (x0 : Addr) (x1 : Int32) (x2 : UInt64) : entryFrame m #[(.ref x0), (.int x1), (.double x2)] 4 = mkF m 0 #[.val (.ref x0), .val (.int x1), .val (.double x2), .second] [] := by first | (simp [entryFrame, mkF, argsToLocals, Value.category, maxLocals]; done) | rfl
set_option maxRecDepth 65536 in
set_option maxHeartbeats 40000000 in
theorem rm_flow0 (l : Launch) (Z : State) (a0 : Array Value) (hw : ∀ d ∈ tables_1, d.before a0 Z = true) (a br be so : Addr) (f r0 r1 r2 ez0 ez1 ez2 : UInt64) (s0 s1 s2 : Int32) (fi k0 j0 j1 j2 : Int) (h0 : Heap) (n0 : Nat) (Z0 : n0 ≤ h0.size) (F_rate : Fld Z h0 a "com/example/gibbon/gibbon/analysis/BalanceEquations" "rate" "[D" (.ref br)) (F_exitRate : Fld Z h0 a "com/example/gibbon/gibbon/analysis/BalanceEquations" "exitRate" "[D" (.ref be)) (F_source : Fld Z h0 a "com/example/gibbon/gibbon/analysis/BalanceEquations" "source" "[I" (.ref so)) (VR : Sar Z h0 br .double [(.double r0), (.double r1), (.double r2)]) (VE : Sar Z h0 be .double [(.double ez0), (.double ez1), (.double ez2)]) (VS : Sar Z h0 so .int [(.int s0), (.int s1), (.int s2)]) (nre : br ≠ be) (nsr : so ≠ br) (nse : so ≠ be) (nar : a ≠ br) (nae : a ≠ be) (gr : n0 ≤ br) (ge : n0 ≤ be) (R0 : Core.DInt k0 r0) (bk0 : -2147483648 ≤ k0 ∧ k0 ≤ 2147483648) (E0 : Core.DInt j0 ez0) (bj0 : -8589934592 ≤ j0 ∧ j0 ≤ 8589934592) (E1 : Core.DInt j1 ez1) (bj1 : -8589934592 ≤ j1 ∧ j1 ≤ 8589934592) (E2 : Core.DInt j2 ez2) (bj2 : -8589934592 ≤ j2 ∧ j2 ≤ 8589934592) (FI : Core.DInt fi f) (bf : -2147483648 ≤ fi ∧ fi ≤ 2147483648) (hs : s0 = 0 ∨ s0 = 1 ∨ s0 = 2) :
    Does l (⟨"com/example/gibbon/gibbon/analysis/BalanceEquations", "addFlow", "(ID)V"⟩ : MethodName) prog_6_method_9_code 4 none [] ({ frames := 0, cells := 0, slots := 0, locals := 0 } : Room) Z #[(.ref a), (.int (0 : Int32)), (.double f)] h0 (fun v h L => v = none ∧ (∃ y x0 x1 x2, Core.DInt (k0 + fi) y ∧ Core.DInt (j0 + own_pt s0 0 fi) x0 ∧ Core.DInt (j1 + own_pt s0 1 fi) x1 ∧ Core.DInt (j2 + own_pt s0 2 fi) x2 ∧ Sar Z h br .double [(.double y), (.double r1), (.double r2)] ∧ Sar Z h be .double [(.double x0), (.double x1), (.double x2)]) ∧ Keep h0 h [br, be] ∧ Fr n0 L) := by
  refine Does.of (plainFor_of_name pn0) ?_
  intro p e s m below meth c s₁ hx hby hml hret hlk hZ hown hnm X0 e0
  have N0 := Fr.nil n0
  refine Goes.cast (g' := mkF m 0 #[.val (.ref a), .val (.int (0 : Int32)), .val (.double f), .second] []) (ef_rm_flow0 m a (0 : Int32) f) ?_
  have K0 := Keep.refl h0 [br, be]
  refine Goes.by (T' := s₁) (g' := (mkF m 1 #[.val (.ref a), .val (.int (0 : Int32)), .val (.double f), .second] [(.ref a)])) (fun _ k => XS.aloadN X0.here hx rfl (hb hby d4_0) rfl rfl k) ?_
  obtain ⟨T20, X20, e20, st20⟩ := getF X0 hx hZ hown (host := "") (Or.inl (hw _ (List.mem_of_getElem? (i := 15) rfl))) Via.refl e0 F_rate (g := (mkF m 1 #[.val (.ref a), .val (.int (0 : Int32)), .val (.double f), .second] [(.ref a)])) rfl rfl (hb hby d4_1)
  refine Goes.by (T' := T20) (g' := (mkF m 4 #[.val (.ref a), .val (.int (0 : Int32)), .val (.double f), .second] [(.ref br)])) st20 ?_
  refine Goes.by (T' := T20) (g' := (mkF m 5 #[.val (.ref a), .val (.int (0 : Int32)), .val (.double f), .second] [(.int (0 : Int32)), (.ref br)])) (fun _ k => XS.iloadN X20.here hx rfl (hb hby d4_4) rfl k) ?_
  refine Goes.by (T' := T20) (g' := (mkF m 6 #[.val (.ref a), .val (.int (0 : Int32)), .val (.double f), .second] [(.int (0 : Int32)), (.ref br), (.int (0 : Int32)), (.ref br)])) (fun _ k => XT.dup2 X20.here hx rfl (hb hby d4_5) rfl rfl rfl k) ?_
  refine Goes.by (T' := T20) (g' := (mkF m 7 #[.val (.ref a), .val (.int (0 : Int32)), .val (.double f), .second] [(.double r0), (.int (0 : Int32)), (.ref br)])) (ldDS X20 hx hZ e20 VR (v := (.double r0)) (j := (0 : Int32)) 0 (by decide) rfl (g := (mkF m 6 #[.val (.ref a), .val (.int (0 : Int32)), .val (.double f), .second] [(.int (0 : Int32)), (.ref br), (.int (0 : Int32)), (.ref br)])) rfl rfl (hb hby d4_6)) ?_
  refine Goes.by (T' := T20) (g' := (mkF m 8 #[.val (.ref a), .val (.int (0 : Int32)), .val (.double f), .second] [(.double f), (.double r0), (.int (0 : Int32)), (.ref br)])) (fun _ k => XS.dloadN X20.here hx rfl (hb hby d4_7) rfl k) ?_
  obtain ⟨rs, q_rs⟩ : ∃ zz, FP.dadd r0 f = zz := ⟨_, rfl⟩
  have DR := DInt_add q_rs R0 FI (by omega)
  refine Goes.by (T' := T20) (g' := (mkF m 9 #[.val (.ref a), .val (.int (0 : Int32)), .val (.double f), .second] [(.double rs), (.int (0 : Int32)), (.ref br)])) (fun _ k => XS.daddS X20.here hx rfl (hb hby d4_8) rfl (by rw [q_rs]; exact DInt_nn DR) q_rs k) ?_
  obtain ⟨T21, h21, X21, e21, W21, V21, st21⟩ := stDS X20 hx hZ e20 VR (j := (0 : Int32)) 0 (by decide) (by show 0 < 3; decide) (g := (mkF m 9 #[.val (.ref a), .val (.int (0 : Int32)), .val (.double f), .second] [(.double rs), (.int (0 : Int32)), (.ref br)])) rfl rfl (hb hby d4_9)
  have N0 := Fr.snoc X21 N0 gr
  have F_rate := F_rate.other W21 (Or.inl nar)
  have F_exitRate := F_exitRate.other W21 (Or.inl nar)
  have F_source := F_source.other W21 (Or.inl nar)
  have VE := VE.other W21 (Ne.symm nre)
  have VS := VS.other W21 nsr
  have Z0 := Nat.le_trans Z0 (Nat.le_of_eq W21.size.symm)
  have K0 := K0.wr W21 (Or.inl (List.mem_cons_self ..))
  have VR : Sar Z h21 br .double [(.double rs), (.double r1), (.double r2)] := V21
  refine Goes.by (T' := T21) (g' := (mkF m 10 #[.val (.ref a), .val (.int (0 : Int32)), .val (.double f), .second] [])) st21 ?_
  refine Goes.by (T' := T21) (g' := (mkF m 11 #[.val (.ref a), .val (.int (0 : Int32)), .val (.double f), .second] [(.ref a)])) (fun _ k => XS.aloadN X21.here hx rfl (hb hby d4_10) rfl rfl k) ?_
  obtain ⟨T22, X22, e22, st22⟩ := getF X21 hx hZ hown (host := "") (Or.inl (hw _ (List.mem_of_getElem? (i := 17) rfl))) Via.refl e21 F_exitRate (g := (mkF m 11 #[.val (.ref a), .val (.int (0 : Int32)), .val (.double f), .second] [(.ref a)])) rfl rfl (hb hby d4_11)
  refine Goes.by (T' := T22) (g' := (mkF m 14 #[.val (.ref a), .val (.int (0 : Int32)), .val (.double f), .second] [(.ref be)])) st22 ?_
  refine Goes.by (T' := T22) (g' := (mkF m 15 #[.val (.ref a), .val (.int (0 : Int32)), .val (.double f), .second] [(.ref a), (.ref be)])) (fun _ k => XS.aloadN X22.here hx rfl (hb hby d4_14) rfl rfl k) ?_
  obtain ⟨T23, X23, e23, st23⟩ := getF X22 hx hZ hown (host := "") (Or.inl (hw _ (List.mem_of_getElem? (i := 12) rfl))) Via.refl e22 F_source (g := (mkF m 15 #[.val (.ref a), .val (.int (0 : Int32)), .val (.double f), .second] [(.ref a), (.ref be)])) rfl rfl (hb hby d4_15)
  refine Goes.by (T' := T23) (g' := (mkF m 18 #[.val (.ref a), .val (.int (0 : Int32)), .val (.double f), .second] [(.ref so), (.ref be)])) st23 ?_
  refine Goes.by (T' := T23) (g' := (mkF m 19 #[.val (.ref a), .val (.int (0 : Int32)), .val (.double f), .second] [(.int (0 : Int32)), (.ref so), (.ref be)])) (fun _ k => XS.iloadN X23.here hx rfl (hb hby d4_18) rfl k) ?_
  refine Goes.by (T' := T23) (g' := (mkF m 20 #[.val (.ref a), .val (.int (0 : Int32)), .val (.double f), .second] [(.int s0), (.ref be)])) (ldIS X23 hx hZ e23 VS (v := (.int s0)) (j := (0 : Int32)) 0 (by decide) rfl (g := (mkF m 19 #[.val (.ref a), .val (.int (0 : Int32)), .val (.double f), .second] [(.int (0 : Int32)), (.ref so), (.ref be)])) rfl rfl (hb hby d4_19)) ?_
  rcases hs with hs | hs | hs
  · subst hs
    refine Goes.by (T' := T23) (g' := (mkF m 21 #[.val (.ref a), .val (.int (0 : Int32)), .val (.double f), .second] [(.int (0 : Int32)), (.ref be), (.int (0 : Int32)), (.ref be)])) (fun _ k => XT.dup2 X23.here hx rfl (hb hby d4_20) rfl rfl rfl k) ?_
    refine Goes.by (T' := T23) (g' := (mkF m 22 #[.val (.ref a), .val (.int (0 : Int32)), .val (.double f), .second] [(.double ez0), (.int (0 : Int32)), (.ref be)])) (ldDS X23 hx hZ e23 VE (v := (.double ez0)) (j := (0 : Int32)) 0 (by decide) rfl (g := (mkF m 21 #[.val (.ref a), .val (.int (0 : Int32)), .val (.double f), .second] [(.int (0 : Int32)), (.ref be), (.int (0 : Int32)), (.ref be)])) rfl rfl (hb hby d4_21)) ?_
    refine Goes.by (T' := T23) (g' := (mkF m 23 #[.val (.ref a), .val (.int (0 : Int32)), .val (.double f), .second] [(.double f), (.double ez0), (.int (0 : Int32)), (.ref be)])) (fun _ k => XS.dloadN X23.here hx rfl (hb hby d4_22) rfl k) ?_
    obtain ⟨es, q_es⟩ : ∃ zz, FP.dadd ez0 f = zz := ⟨_, rfl⟩
    have DE := DInt_add q_es E0 FI (by omega)
    refine Goes.by (T' := T23) (g' := (mkF m 24 #[.val (.ref a), .val (.int (0 : Int32)), .val (.double f), .second] [(.double es), (.int (0 : Int32)), (.ref be)])) (fun _ k => XS.daddS X23.here hx rfl (hb hby d4_23) rfl (by rw [q_es]; exact DInt_nn DE) q_es k) ?_
    obtain ⟨T24, h24, X24, e24, W24, V24, st24⟩ := stDS X23 hx hZ e23 VE (j := (0 : Int32)) 0 (by decide) (by show 0 < 3; decide) (g := (mkF m 24 #[.val (.ref a), .val (.int (0 : Int32)), .val (.double f), .second] [(.double es), (.int (0 : Int32)), (.ref be)])) rfl rfl (hb hby d4_24)
    have N0 := Fr.snoc X24 N0 ge
    have F_rate := F_rate.other W24 (Or.inl nae)
    have F_exitRate := F_exitRate.other W24 (Or.inl nae)
    have F_source := F_source.other W24 (Or.inl nae)
    have VR := VR.other W24 nre
    have VS := VS.other W24 nse
    have Z0 := Nat.le_trans Z0 (Nat.le_of_eq W24.size.symm)
    have K0 := K0.wr W24 (Or.inl (List.mem_cons_of_mem _ (List.mem_singleton.mpr rfl)))
    have VE : Sar Z h24 be .double [(.double es), (.double ez1), (.double ez2)] := V24
    refine Goes.by (T' := T24) (g' := (mkF m 25 #[.val (.ref a), .val (.int (0 : Int32)), .val (.double f), .second] [])) st24 ?_
    exact outV X24 hx hlk hret (hb hby d4_25) (by rw [e24]; exact ⟨rfl, ⟨rs, es, ez1, ez2, DR, (by rw [own_pt_y (by decide)]; exact DE), (by rw [own_pt_n (by decide), Int.add_zero]; exact E1), (by rw [own_pt_n (by decide), Int.add_zero]; exact E2), VR, VE⟩, K0, N0⟩) (by decide) (by decide)
  · subst hs
    refine Goes.by (T' := T23) (g' := (mkF m 21 #[.val (.ref a), .val (.int (0 : Int32)), .val (.double f), .second] [(.int (1 : Int32)), (.ref be), (.int (1 : Int32)), (.ref be)])) (fun _ k => XT.dup2 X23.here hx rfl (hb hby d4_20) rfl rfl rfl k) ?_
    refine Goes.by (T' := T23) (g' := (mkF m 22 #[.val (.ref a), .val (.int (0 : Int32)), .val (.double f), .second] [(.double ez1), (.int (1 : Int32)), (.ref be)])) (ldDS X23 hx hZ e23 VE (v := (.double ez1)) (j := (1 : Int32)) 1 (by decide) rfl (g := (mkF m 21 #[.val (.ref a), .val (.int (0 : Int32)), .val (.double f), .second] [(.int (1 : Int32)), (.ref be), (.int (1 : Int32)), (.ref be)])) rfl rfl (hb hby d4_21)) ?_
    refine Goes.by (T' := T23) (g' := (mkF m 23 #[.val (.ref a), .val (.int (0 : Int32)), .val (.double f), .second] [(.double f), (.double ez1), (.int (1 : Int32)), (.ref be)])) (fun _ k => XS.dloadN X23.here hx rfl (hb hby d4_22) rfl k) ?_
    obtain ⟨es, q_es⟩ : ∃ zz, FP.dadd ez1 f = zz := ⟨_, rfl⟩
    have DE := DInt_add q_es E1 FI (by omega)
    refine Goes.by (T' := T23) (g' := (mkF m 24 #[.val (.ref a), .val (.int (0 : Int32)), .val (.double f), .second] [(.double es), (.int (1 : Int32)), (.ref be)])) (fun _ k => XS.daddS X23.here hx rfl (hb hby d4_23) rfl (by rw [q_es]; exact DInt_nn DE) q_es k) ?_
    obtain ⟨T25, h25, X25, e25, W25, V25, st25⟩ := stDS X23 hx hZ e23 VE (j := (1 : Int32)) 1 (by decide) (by show 1 < 3; decide) (g := (mkF m 24 #[.val (.ref a), .val (.int (0 : Int32)), .val (.double f), .second] [(.double es), (.int (1 : Int32)), (.ref be)])) rfl rfl (hb hby d4_24)
    have N0 := Fr.snoc X25 N0 ge
    have F_rate := F_rate.other W25 (Or.inl nae)
    have F_exitRate := F_exitRate.other W25 (Or.inl nae)
    have F_source := F_source.other W25 (Or.inl nae)
    have VR := VR.other W25 nre
    have VS := VS.other W25 nse
    have Z0 := Nat.le_trans Z0 (Nat.le_of_eq W25.size.symm)
    have K0 := K0.wr W25 (Or.inl (List.mem_cons_of_mem _ (List.mem_singleton.mpr rfl)))
    have VE : Sar Z h25 be .double [(.double ez0), (.double es), (.double ez2)] := V25
    refine Goes.by (T' := T25) (g' := (mkF m 25 #[.val (.ref a), .val (.int (0 : Int32)), .val (.double f), .second] [])) st25 ?_
    exact outV X25 hx hlk hret (hb hby d4_25) (by rw [e25]; exact ⟨rfl, ⟨rs, ez0, es, ez2, DR, (by rw [own_pt_n (by decide), Int.add_zero]; exact E0), (by rw [own_pt_y (by decide)]; exact DE), (by rw [own_pt_n (by decide), Int.add_zero]; exact E2), VR, VE⟩, K0, N0⟩) (by decide) (by decide)
  · subst hs
    refine Goes.by (T' := T23) (g' := (mkF m 21 #[.val (.ref a), .val (.int (0 : Int32)), .val (.double f), .second] [(.int (2 : Int32)), (.ref be), (.int (2 : Int32)), (.ref be)])) (fun _ k => XT.dup2 X23.here hx rfl (hb hby d4_20) rfl rfl rfl k) ?_
    refine Goes.by (T' := T23) (g' := (mkF m 22 #[.val (.ref a), .val (.int (0 : Int32)), .val (.double f), .second] [(.double ez2), (.int (2 : Int32)), (.ref be)])) (ldDS X23 hx hZ e23 VE (v := (.double ez2)) (j := (2 : Int32)) 2 (by decide) rfl (g := (mkF m 21 #[.val (.ref a), .val (.int (0 : Int32)), .val (.double f), .second] [(.int (2 : Int32)), (.ref be), (.int (2 : Int32)), (.ref be)])) rfl rfl (hb hby d4_21)) ?_
    refine Goes.by (T' := T23) (g' := (mkF m 23 #[.val (.ref a), .val (.int (0 : Int32)), .val (.double f), .second] [(.double f), (.double ez2), (.int (2 : Int32)), (.ref be)])) (fun _ k => XS.dloadN X23.here hx rfl (hb hby d4_22) rfl k) ?_
    obtain ⟨es, q_es⟩ : ∃ zz, FP.dadd ez2 f = zz := ⟨_, rfl⟩
    have DE := DInt_add q_es E2 FI (by omega)
    refine Goes.by (T' := T23) (g' := (mkF m 24 #[.val (.ref a), .val (.int (0 : Int32)), .val (.double f), .second] [(.double es), (.int (2 : Int32)), (.ref be)])) (fun _ k => XS.daddS X23.here hx rfl (hb hby d4_23) rfl (by rw [q_es]; exact DInt_nn DE) q_es k) ?_
    obtain ⟨T26, h26, X26, e26, W26, V26, st26⟩ := stDS X23 hx hZ e23 VE (j := (2 : Int32)) 2 (by decide) (by show 2 < 3; decide) (g := (mkF m 24 #[.val (.ref a), .val (.int (0 : Int32)), .val (.double f), .second] [(.double es), (.int (2 : Int32)), (.ref be)])) rfl rfl (hb hby d4_24)
    have N0 := Fr.snoc X26 N0 ge
    have F_rate := F_rate.other W26 (Or.inl nae)
    have F_exitRate := F_exitRate.other W26 (Or.inl nae)
    have F_source := F_source.other W26 (Or.inl nae)
    have VR := VR.other W26 nre
    have VS := VS.other W26 nse
    have Z0 := Nat.le_trans Z0 (Nat.le_of_eq W26.size.symm)
    have K0 := K0.wr W26 (Or.inl (List.mem_cons_of_mem _ (List.mem_singleton.mpr rfl)))
    have VE : Sar Z h26 be .double [(.double ez0), (.double ez1), (.double es)] := V26
    refine Goes.by (T' := T26) (g' := (mkF m 25 #[.val (.ref a), .val (.int (0 : Int32)), .val (.double f), .second] [])) st26 ?_
    exact outV X26 hx hlk hret (hb hby d4_25) (by rw [e26]; exact ⟨rfl, ⟨rs, ez0, ez1, es, DR, (by rw [own_pt_n (by decide), Int.add_zero]; exact E0), (by rw [own_pt_n (by decide), Int.add_zero]; exact E1), (by rw [own_pt_y (by decide)]; exact DE), VR, VE⟩, K0, N0⟩) (by decide) (by decide)
theorem ef_rm_flow1 (m : MethodId) (x0 : Addr) (x1 : Int32) (x2 : UInt64) : entryFrame m #[(.ref x0), (.int x1), (.double x2)] 4 = mkF m 0 #[.val (.ref x0), .val (.int x1), .val (.double x2), .second] [] := by first | (simp [entryFrame, mkF, argsToLocals, Value.category, maxLocals]; done) | rfl
set_option maxRecDepth 65536 in
set_option maxHeartbeats 40000000 in
theorem rm_flow1 (l : Launch) (Z : State) (a0 : Array Value) (hw : ∀ d ∈ tables_1, d.before a0 Z = true) (a br be so : Addr) (f r0 r1 r2 ez0 ez1 ez2 : UInt64) (s0 s1 s2 : Int32) (fi k1 j0 j1 j2 : Int) (h0 : Heap) (n0 : Nat) (Z0 : n0 ≤ h0.size) (F_rate : Fld Z h0 a "com/example/gibbon/gibbon/analysis/BalanceEquations" "rate" "[D" (.ref br)) (F_exitRate : Fld Z h0 a "com/example/gibbon/gibbon/analysis/BalanceEquations" "exitRate" "[D" (.ref be)) (F_source : Fld Z h0 a "com/example/gibbon/gibbon/analysis/BalanceEquations" "source" "[I" (.ref so)) (VR : Sar Z h0 br .double [(.double r0), (.double r1), (.double r2)]) (VE : Sar Z h0 be .double [(.double ez0), (.double ez1), (.double ez2)]) (VS : Sar Z h0 so .int [(.int s0), (.int s1), (.int s2)]) (nre : br ≠ be) (nsr : so ≠ br) (nse : so ≠ be) (nar : a ≠ br) (nae : a ≠ be) (gr : n0 ≤ br) (ge : n0 ≤ be) (R1 : Core.DInt k1 r1) (bk1 : -2147483648 ≤ k1 ∧ k1 ≤ 2147483648) (E0 : Core.DInt j0 ez0) (bj0 : -8589934592 ≤ j0 ∧ j0 ≤ 8589934592) (E1 : Core.DInt j1 ez1) (bj1 : -8589934592 ≤ j1 ∧ j1 ≤ 8589934592) (E2 : Core.DInt j2 ez2) (bj2 : -8589934592 ≤ j2 ∧ j2 ≤ 8589934592) (FI : Core.DInt fi f) (bf : -2147483648 ≤ fi ∧ fi ≤ 2147483648) (hs : s1 = 0 ∨ s1 = 1 ∨ s1 = 2) :
    Does l (⟨"com/example/gibbon/gibbon/analysis/BalanceEquations", "addFlow", "(ID)V"⟩ : MethodName) prog_6_method_9_code 4 none [] ({ frames := 0, cells := 0, slots := 0, locals := 0 } : Room) Z #[(.ref a), (.int (1 : Int32)), (.double f)] h0 (fun v h L => v = none ∧ (∃ y x0 x1 x2, Core.DInt (k1 + fi) y ∧ Core.DInt (j0 + own_pt s1 0 fi) x0 ∧ Core.DInt (j1 + own_pt s1 1 fi) x1 ∧ Core.DInt (j2 + own_pt s1 2 fi) x2 ∧ Sar Z h br .double [(.double r0), (.double y), (.double r2)] ∧ Sar Z h be .double [(.double x0), (.double x1), (.double x2)]) ∧ Keep h0 h [br, be] ∧ Fr n0 L) := by
  refine Does.of (plainFor_of_name pn0) ?_
  intro p e s m below meth c s₁ hx hby hml hret hlk hZ hown hnm X0 e0
  have N0 := Fr.nil n0
  refine Goes.cast (g' := mkF m 0 #[.val (.ref a), .val (.int (1 : Int32)), .val (.double f), .second] []) (ef_rm_flow1 m a (1 : Int32) f) ?_
  have K0 := Keep.refl h0 [br, be]
  refine Goes.by (T' := s₁) (g' := (mkF m 1 #[.val (.ref a), .val (.int (1 : Int32)), .val (.double f), .second] [(.ref a)])) (fun _ k => XS.aloadN X0.here hx rfl (hb hby d4_0) rfl rfl k) ?_
  obtain ⟨T27, X27, e27, st27⟩ := getF X0 hx hZ hown (host := "") (Or.inl (hw _ (List.mem_of_getElem? (i := 15) rfl))) Via.refl e0 F_rate (g := (mkF m 1 #[.val (.ref a), .val (.int (1 : Int32)), .val (.double f), .second] [(.ref a)])) rfl rfl (hb hby d4_1)
  refine Goes.by (T' := T27) (g' := (mkF m 4 #[.val (.ref a), .val (.int (1 : Int32)), .val (.double f), .second] [(.ref br)])) st27 ?_
  refine Goes.by (T' := T27) (g' := (mkF m 5 #[.val (.ref a), .val (.int (1 : Int32)), .val (.double f), .second] [(.int (1 : Int32)), (.ref br)])) (fun _ k => XS.iloadN X27.here hx rfl (hb hby d4_4) rfl k) ?_
  refine Goes.by (T' := T27) (g' := (mkF m 6 #[.val (.ref a), .val (.int (1 : Int32)), .val (.double f), .second] [(.int (1 : Int32)), (.ref br), (.int (1 : Int32)), (.ref br)])) (fun _ k => XT.dup2 X27.here hx rfl (hb hby d4_5) rfl rfl rfl k) ?_
  refine Goes.by (T' := T27) (g' := (mkF m 7 #[.val (.ref a), .val (.int (1 : Int32)), .val (.double f), .second] [(.double r1), (.int (1 : Int32)), (.ref br)])) (ldDS X27 hx hZ e27 VR (v := (.double r1)) (j := (1 : Int32)) 1 (by decide) rfl (g := (mkF m 6 #[.val (.ref a), .val (.int (1 : Int32)), .val (.double f), .second] [(.int (1 : Int32)), (.ref br), (.int (1 : Int32)), (.ref br)])) rfl rfl (hb hby d4_6)) ?_
  refine Goes.by (T' := T27) (g' := (mkF m 8 #[.val (.ref a), .val (.int (1 : Int32)), .val (.double f), .second] [(.double f), (.double r1), (.int (1 : Int32)), (.ref br)])) (fun _ k => XS.dloadN X27.here hx rfl (hb hby d4_7) rfl k) ?_
  obtain ⟨rs, q_rs⟩ : ∃ zz, FP.dadd r1 f = zz := ⟨_, rfl⟩
  have DR := DInt_add q_rs R1 FI (by omega)
  refine Goes.by (T' := T27) (g' := (mkF m 9 #[.val (.ref a), .val (.int (1 : Int32)), .val (.double f), .second] [(.double rs), (.int (1 : Int32)), (.ref br)])) (fun _ k => XS.daddS X27.here hx rfl (hb hby d4_8) rfl (by rw [q_rs]; exact DInt_nn DR) q_rs k) ?_
  obtain ⟨T28, h28, X28, e28, W28, V28, st28⟩ := stDS X27 hx hZ e27 VR (j := (1 : Int32)) 1 (by decide) (by show 1 < 3; decide) (g := (mkF m 9 #[.val (.ref a), .val (.int (1 : Int32)), .val (.double f), .second] [(.double rs), (.int (1 : Int32)), (.ref br)])) rfl rfl (hb hby d4_9)
  have N0 := Fr.snoc X28 N0 gr
  have F_rate := F_rate.other W28 (Or.inl nar)
  have F_exitRate := F_exitRate.other W28 (Or.inl nar)
  have F_source := F_source.other W28 (Or.inl nar)
  have VE := VE.other W28 (Ne.symm nre)
  have VS := VS.other W28 nsr
  have Z0 := Nat.le_trans Z0 (Nat.le_of_eq W28.size.symm)
  have K0 := K0.wr W28 (Or.inl (List.mem_cons_self ..))
  have VR : Sar Z h28 br .double [(.double r0), (.double rs), (.double r2)] := V28
  refine Goes.by (T' := T28) (g' := (mkF m 10 #[.val (.ref a), .val (.int (1 : Int32)), .val (.double f), .second] [])) st28 ?_
  refine Goes.by (T' := T28) (g' := (mkF m 11 #[.val (.ref a), .val (.int (1 : Int32)), .val (.double f), .second] [(.ref a)])) (fun _ k => XS.aloadN X28.here hx rfl (hb hby d4_10) rfl rfl k) ?_
  obtain ⟨T29, X29, e29, st29⟩ := getF X28 hx hZ hown (host := "") (Or.inl (hw _ (List.mem_of_getElem? (i := 17) rfl))) Via.refl e28 F_exitRate (g := (mkF m 11 #[.val (.ref a), .val (.int (1 : Int32)), .val (.double f), .second] [(.ref a)])) rfl rfl (hb hby d4_11)
  refine Goes.by (T' := T29) (g' := (mkF m 14 #[.val (.ref a), .val (.int (1 : Int32)), .val (.double f), .second] [(.ref be)])) st29 ?_
  refine Goes.by (T' := T29) (g' := (mkF m 15 #[.val (.ref a), .val (.int (1 : Int32)), .val (.double f), .second] [(.ref a), (.ref be)])) (fun _ k => XS.aloadN X29.here hx rfl (hb hby d4_14) rfl rfl k) ?_
  obtain ⟨T30, X30, e30, st30⟩ := getF X29 hx hZ hown (host := "") (Or.inl (hw _ (List.mem_of_getElem? (i := 12) rfl))) Via.refl e29 F_source (g := (mkF m 15 #[.val (.ref a), .val (.int (1 : Int32)), .val (.double f), .second] [(.ref a), (.ref be)])) rfl rfl (hb hby d4_15)
  refine Goes.by (T' := T30) (g' := (mkF m 18 #[.val (.ref a), .val (.int (1 : Int32)), .val (.double f), .second] [(.ref so), (.ref be)])) st30 ?_
  refine Goes.by (T' := T30) (g' := (mkF m 19 #[.val (.ref a), .val (.int (1 : Int32)), .val (.double f), .second] [(.int (1 : Int32)), (.ref so), (.ref be)])) (fun _ k => XS.iloadN X30.here hx rfl (hb hby d4_18) rfl k) ?_
  refine Goes.by (T' := T30) (g' := (mkF m 20 #[.val (.ref a), .val (.int (1 : Int32)), .val (.double f), .second] [(.int s1), (.ref be)])) (ldIS X30 hx hZ e30 VS (v := (.int s1)) (j := (1 : Int32)) 1 (by decide) rfl (g := (mkF m 19 #[.val (.ref a), .val (.int (1 : Int32)), .val (.double f), .second] [(.int (1 : Int32)), (.ref so), (.ref be)])) rfl rfl (hb hby d4_19)) ?_
  rcases hs with hs | hs | hs
  · subst hs
    refine Goes.by (T' := T30) (g' := (mkF m 21 #[.val (.ref a), .val (.int (1 : Int32)), .val (.double f), .second] [(.int (0 : Int32)), (.ref be), (.int (0 : Int32)), (.ref be)])) (fun _ k => XT.dup2 X30.here hx rfl (hb hby d4_20) rfl rfl rfl k) ?_
    refine Goes.by (T' := T30) (g' := (mkF m 22 #[.val (.ref a), .val (.int (1 : Int32)), .val (.double f), .second] [(.double ez0), (.int (0 : Int32)), (.ref be)])) (ldDS X30 hx hZ e30 VE (v := (.double ez0)) (j := (0 : Int32)) 0 (by decide) rfl (g := (mkF m 21 #[.val (.ref a), .val (.int (1 : Int32)), .val (.double f), .second] [(.int (0 : Int32)), (.ref be), (.int (0 : Int32)), (.ref be)])) rfl rfl (hb hby d4_21)) ?_
    refine Goes.by (T' := T30) (g' := (mkF m 23 #[.val (.ref a), .val (.int (1 : Int32)), .val (.double f), .second] [(.double f), (.double ez0), (.int (0 : Int32)), (.ref be)])) (fun _ k => XS.dloadN X30.here hx rfl (hb hby d4_22) rfl k) ?_
    obtain ⟨es, q_es⟩ : ∃ zz, FP.dadd ez0 f = zz := ⟨_, rfl⟩
    have DE := DInt_add q_es E0 FI (by omega)
    refine Goes.by (T' := T30) (g' := (mkF m 24 #[.val (.ref a), .val (.int (1 : Int32)), .val (.double f), .second] [(.double es), (.int (0 : Int32)), (.ref be)])) (fun _ k => XS.daddS X30.here hx rfl (hb hby d4_23) rfl (by rw [q_es]; exact DInt_nn DE) q_es k) ?_
    obtain ⟨T31, h31, X31, e31, W31, V31, st31⟩ := stDS X30 hx hZ e30 VE (j := (0 : Int32)) 0 (by decide) (by show 0 < 3; decide) (g := (mkF m 24 #[.val (.ref a), .val (.int (1 : Int32)), .val (.double f), .second] [(.double es), (.int (0 : Int32)), (.ref be)])) rfl rfl (hb hby d4_24)
    have N0 := Fr.snoc X31 N0 ge
    have F_rate := F_rate.other W31 (Or.inl nae)
    have F_exitRate := F_exitRate.other W31 (Or.inl nae)
    have F_source := F_source.other W31 (Or.inl nae)
    have VR := VR.other W31 nre
    have VS := VS.other W31 nse
    have Z0 := Nat.le_trans Z0 (Nat.le_of_eq W31.size.symm)
    have K0 := K0.wr W31 (Or.inl (List.mem_cons_of_mem _ (List.mem_singleton.mpr rfl)))
    have VE : Sar Z h31 be .double [(.double es), (.double ez1), (.double ez2)] := V31
    refine Goes.by (T' := T31) (g' := (mkF m 25 #[.val (.ref a), .val (.int (1 : Int32)), .val (.double f), .second] [])) st31 ?_
    exact outV X31 hx hlk hret (hb hby d4_25) (by rw [e31]; exact ⟨rfl, ⟨rs, es, ez1, ez2, DR, (by rw [own_pt_y (by decide)]; exact DE), (by rw [own_pt_n (by decide), Int.add_zero]; exact E1), (by rw [own_pt_n (by decide), Int.add_zero]; exact E2), VR, VE⟩, K0, N0⟩) (by decide) (by decide)
  · subst hs
    refine Goes.by (T' := T30) (g' := (mkF m 21 #[.val (.ref a), .val (.int (1 : Int32)), .val (.double f), .second] [(.int (1 : Int32)), (.ref be), (.int (1 : Int32)), (.ref be)])) (fun _ k => XT.dup2 X30.here hx rfl (hb hby d4_20) rfl rfl rfl k) ?_
    refine Goes.by (T' := T30) (g' := (mkF m 22 #[.val (.ref a), .val (.int (1 : Int32)), .val (.double f), .second] [(.double ez1), (.int (1 : Int32)), (.ref be)])) (ldDS X30 hx hZ e30 VE (v := (.double ez1)) (j := (1 : Int32)) 1 (by decide) rfl (g := (mkF m 21 #[.val (.ref a), .val (.int (1 : Int32)), .val (.double f), .second] [(.int (1 : Int32)), (.ref be), (.int (1 : Int32)), (.ref be)])) rfl rfl (hb hby d4_21)) ?_
    refine Goes.by (T' := T30) (g' := (mkF m 23 #[.val (.ref a), .val (.int (1 : Int32)), .val (.double f), .second] [(.double f), (.double ez1), (.int (1 : Int32)), (.ref be)])) (fun _ k => XS.dloadN X30.here hx rfl (hb hby d4_22) rfl k) ?_
    obtain ⟨es, q_es⟩ : ∃ zz, FP.dadd ez1 f = zz := ⟨_, rfl⟩
    have DE := DInt_add q_es E1 FI (by omega)
    refine Goes.by (T' := T30) (g' := (mkF m 24 #[.val (.ref a), .val (.int (1 : Int32)), .val (.double f), .second] [(.double es), (.int (1 : Int32)), (.ref be)])) (fun _ k => XS.daddS X30.here hx rfl (hb hby d4_23) rfl (by rw [q_es]; exact DInt_nn DE) q_es k) ?_
    obtain ⟨T32, h32, X32, e32, W32, V32, st32⟩ := stDS X30 hx hZ e30 VE (j := (1 : Int32)) 1 (by decide) (by show 1 < 3; decide) (g := (mkF m 24 #[.val (.ref a), .val (.int (1 : Int32)), .val (.double f), .second] [(.double es), (.int (1 : Int32)), (.ref be)])) rfl rfl (hb hby d4_24)
    have N0 := Fr.snoc X32 N0 ge
    have F_rate := F_rate.other W32 (Or.inl nae)
    have F_exitRate := F_exitRate.other W32 (Or.inl nae)
    have F_source := F_source.other W32 (Or.inl nae)
    have VR := VR.other W32 nre
    have VS := VS.other W32 nse
    have Z0 := Nat.le_trans Z0 (Nat.le_of_eq W32.size.symm)
    have K0 := K0.wr W32 (Or.inl (List.mem_cons_of_mem _ (List.mem_singleton.mpr rfl)))
    have VE : Sar Z h32 be .double [(.double ez0), (.double es), (.double ez2)] := V32
    refine Goes.by (T' := T32) (g' := (mkF m 25 #[.val (.ref a), .val (.int (1 : Int32)), .val (.double f), .second] [])) st32 ?_
    exact outV X32 hx hlk hret (hb hby d4_25) (by rw [e32]; exact ⟨rfl, ⟨rs, ez0, es, ez2, DR, (by rw [own_pt_n (by decide), Int.add_zero]; exact E0), (by rw [own_pt_y (by decide)]; exact DE), (by rw [own_pt_n (by decide), Int.add_zero]; exact E2), VR, VE⟩, K0, N0⟩) (by decide) (by decide)
  · subst hs
    refine Goes.by (T' := T30) (g' := (mkF m 21 #[.val (.ref a), .val (.int (1 : Int32)), .val (.double f), .second] [(.int (2 : Int32)), (.ref be), (.int (2 : Int32)), (.ref be)])) (fun _ k => XT.dup2 X30.here hx rfl (hb hby d4_20) rfl rfl rfl k) ?_
    refine Goes.by (T' := T30) (g' := (mkF m 22 #[.val (.ref a), .val (.int (1 : Int32)), .val (.double f), .second] [(.double ez2), (.int (2 : Int32)), (.ref be)])) (ldDS X30 hx hZ e30 VE (v := (.double ez2)) (j := (2 : Int32)) 2 (by decide) rfl (g := (mkF m 21 #[.val (.ref a), .val (.int (1 : Int32)), .val (.double f), .second] [(.int (2 : Int32)), (.ref be), (.int (2 : Int32)), (.ref be)])) rfl rfl (hb hby d4_21)) ?_
    refine Goes.by (T' := T30) (g' := (mkF m 23 #[.val (.ref a), .val (.int (1 : Int32)), .val (.double f), .second] [(.double f), (.double ez2), (.int (2 : Int32)), (.ref be)])) (fun _ k => XS.dloadN X30.here hx rfl (hb hby d4_22) rfl k) ?_
    obtain ⟨es, q_es⟩ : ∃ zz, FP.dadd ez2 f = zz := ⟨_, rfl⟩
    have DE := DInt_add q_es E2 FI (by omega)
    refine Goes.by (T' := T30) (g' := (mkF m 24 #[.val (.ref a), .val (.int (1 : Int32)), .val (.double f), .second] [(.double es), (.int (2 : Int32)), (.ref be)])) (fun _ k => XS.daddS X30.here hx rfl (hb hby d4_23) rfl (by rw [q_es]; exact DInt_nn DE) q_es k) ?_
    obtain ⟨T33, h33, X33, e33, W33, V33, st33⟩ := stDS X30 hx hZ e30 VE (j := (2 : Int32)) 2 (by decide) (by show 2 < 3; decide) (g := (mkF m 24 #[.val (.ref a), .val (.int (1 : Int32)), .val (.double f), .second] [(.double es), (.int (2 : Int32)), (.ref be)])) rfl rfl (hb hby d4_24)
    have N0 := Fr.snoc X33 N0 ge
    have F_rate := F_rate.other W33 (Or.inl nae)
    have F_exitRate := F_exitRate.other W33 (Or.inl nae)
    have F_source := F_source.other W33 (Or.inl nae)
    have VR := VR.other W33 nre
    have VS := VS.other W33 nse
    have Z0 := Nat.le_trans Z0 (Nat.le_of_eq W33.size.symm)
    have K0 := K0.wr W33 (Or.inl (List.mem_cons_of_mem _ (List.mem_singleton.mpr rfl)))
    have VE : Sar Z h33 be .double [(.double ez0), (.double ez1), (.double es)] := V33
    refine Goes.by (T' := T33) (g' := (mkF m 25 #[.val (.ref a), .val (.int (1 : Int32)), .val (.double f), .second] [])) st33 ?_
    exact outV X33 hx hlk hret (hb hby d4_25) (by rw [e33]; exact ⟨rfl, ⟨rs, ez0, ez1, es, DR, (by rw [own_pt_n (by decide), Int.add_zero]; exact E0), (by rw [own_pt_n (by decide), Int.add_zero]; exact E1), (by rw [own_pt_y (by decide)]; exact DE), VR, VE⟩, K0, N0⟩) (by decide) (by decide)
theorem ef_rm_flow2 (m : MethodId) (x0 : Addr) (x1 : Int32) (x2 : UInt64) : entryFrame m #[(.ref x0), (.int x1), (.double x2)] 4 = mkF m 0 #[.val (.ref x0), .val (.int x1), .val (.double x2), .second] [] := by first | (simp [entryFrame, mkF, argsToLocals, Value.category, maxLocals]; done) | rfl
set_option maxRecDepth 65536 in
set_option maxHeartbeats 40000000 in
theorem rm_flow2 (l : Launch) (Z : State) (a0 : Array Value) (hw : ∀ d ∈ tables_1, d.before a0 Z = true) (a br be so : Addr) (f r0 r1 r2 ez0 ez1 ez2 : UInt64) (s0 s1 s2 : Int32) (fi k2 j0 j1 j2 : Int) (h0 : Heap) (n0 : Nat) (Z0 : n0 ≤ h0.size) (F_rate : Fld Z h0 a "com/example/gibbon/gibbon/analysis/BalanceEquations" "rate" "[D" (.ref br)) (F_exitRate : Fld Z h0 a "com/example/gibbon/gibbon/analysis/BalanceEquations" "exitRate" "[D" (.ref be)) (F_source : Fld Z h0 a "com/example/gibbon/gibbon/analysis/BalanceEquations" "source" "[I" (.ref so)) (VR : Sar Z h0 br .double [(.double r0), (.double r1), (.double r2)]) (VE : Sar Z h0 be .double [(.double ez0), (.double ez1), (.double ez2)]) (VS : Sar Z h0 so .int [(.int s0), (.int s1), (.int s2)]) (nre : br ≠ be) (nsr : so ≠ br) (nse : so ≠ be) (nar : a ≠ br) (nae : a ≠ be) (gr : n0 ≤ br) (ge : n0 ≤ be) (R2 : Core.DInt k2 r2) (bk2 : -2147483648 ≤ k2 ∧ k2 ≤ 2147483648) (E0 : Core.DInt j0 ez0) (bj0 : -8589934592 ≤ j0 ∧ j0 ≤ 8589934592) (E1 : Core.DInt j1 ez1) (bj1 : -8589934592 ≤ j1 ∧ j1 ≤ 8589934592) (E2 : Core.DInt j2 ez2) (bj2 : -8589934592 ≤ j2 ∧ j2 ≤ 8589934592) (FI : Core.DInt fi f) (bf : -2147483648 ≤ fi ∧ fi ≤ 2147483648) (hs : s2 = 0 ∨ s2 = 1 ∨ s2 = 2) :
    Does l (⟨"com/example/gibbon/gibbon/analysis/BalanceEquations", "addFlow", "(ID)V"⟩ : MethodName) prog_6_method_9_code 4 none [] ({ frames := 0, cells := 0, slots := 0, locals := 0 } : Room) Z #[(.ref a), (.int (2 : Int32)), (.double f)] h0 (fun v h L => v = none ∧ (∃ y x0 x1 x2, Core.DInt (k2 + fi) y ∧ Core.DInt (j0 + own_pt s2 0 fi) x0 ∧ Core.DInt (j1 + own_pt s2 1 fi) x1 ∧ Core.DInt (j2 + own_pt s2 2 fi) x2 ∧ Sar Z h br .double [(.double r0), (.double r1), (.double y)] ∧ Sar Z h be .double [(.double x0), (.double x1), (.double x2)]) ∧ Keep h0 h [br, be] ∧ Fr n0 L) := by
  refine Does.of (plainFor_of_name pn0) ?_
  intro p e s m below meth c s₁ hx hby hml hret hlk hZ hown hnm X0 e0
  have N0 := Fr.nil n0
  refine Goes.cast (g' := mkF m 0 #[.val (.ref a), .val (.int (2 : Int32)), .val (.double f), .second] []) (ef_rm_flow2 m a (2 : Int32) f) ?_
  have K0 := Keep.refl h0 [br, be]
  refine Goes.by (T' := s₁) (g' := (mkF m 1 #[.val (.ref a), .val (.int (2 : Int32)), .val (.double f), .second] [(.ref a)])) (fun _ k => XS.aloadN X0.here hx rfl (hb hby d4_0) rfl rfl k) ?_
  obtain ⟨T34, X34, e34, st34⟩ := getF X0 hx hZ hown (host := "") (Or.inl (hw _ (List.mem_of_getElem? (i := 15) rfl))) Via.refl e0 F_rate (g := (mkF m 1 #[.val (.ref a), .val (.int (2 : Int32)), .val (.double f), .second] [(.ref a)])) rfl rfl (hb hby d4_1)
  refine Goes.by (T' := T34) (g' := (mkF m 4 #[.val (.ref a), .val (.int (2 : Int32)), .val (.double f), .second] [(.ref br)])) st34 ?_
  refine Goes.by (T' := T34) (g' := (mkF m 5 #[.val (.ref a), .val (.int (2 : Int32)), .val (.double f), .second] [(.int (2 : Int32)), (.ref br)])) (fun _ k => XS.iloadN X34.here hx rfl (hb hby d4_4) rfl k) ?_
  refine Goes.by (T' := T34) (g' := (mkF m 6 #[.val (.ref a), .val (.int (2 : Int32)), .val (.double f), .second] [(.int (2 : Int32)), (.ref br), (.int (2 : Int32)), (.ref br)])) (fun _ k => XT.dup2 X34.here hx rfl (hb hby d4_5) rfl rfl rfl k) ?_
  refine Goes.by (T' := T34) (g' := (mkF m 7 #[.val (.ref a), .val (.int (2 : Int32)), .val (.double f), .second] [(.double r2), (.int (2 : Int32)), (.ref br)])) (ldDS X34 hx hZ e34 VR (v := (.double r2)) (j := (2 : Int32)) 2 (by decide) rfl (g := (mkF m 6 #[.val (.ref a), .val (.int (2 : Int32)), .val (.double f), .second] [(.int (2 : Int32)), (.ref br), (.int (2 : Int32)), (.ref br)])) rfl rfl (hb hby d4_6)) ?_
  refine Goes.by (T' := T34) (g' := (mkF m 8 #[.val (.ref a), .val (.int (2 : Int32)), .val (.double f), .second] [(.double f), (.double r2), (.int (2 : Int32)), (.ref br)])) (fun _ k => XS.dloadN X34.here hx rfl (hb hby d4_7) rfl k) ?_
  obtain ⟨rs, q_rs⟩ : ∃ zz, FP.dadd r2 f = zz := ⟨_, rfl⟩
  have DR := DInt_add q_rs R2 FI (by omega)
  refine Goes.by (T' := T34) (g' := (mkF m 9 #[.val (.ref a), .val (.int (2 : Int32)), .val (.double f), .second] [(.double rs), (.int (2 : Int32)), (.ref br)])) (fun _ k => XS.daddS X34.here hx rfl (hb hby d4_8) rfl (by rw [q_rs]; exact DInt_nn DR) q_rs k) ?_
  obtain ⟨T35, h35, X35, e35, W35, V35, st35⟩ := stDS X34 hx hZ e34 VR (j := (2 : Int32)) 2 (by decide) (by show 2 < 3; decide) (g := (mkF m 9 #[.val (.ref a), .val (.int (2 : Int32)), .val (.double f), .second] [(.double rs), (.int (2 : Int32)), (.ref br)])) rfl rfl (hb hby d4_9)
  have N0 := Fr.snoc X35 N0 gr
  have F_rate := F_rate.other W35 (Or.inl nar)
  have F_exitRate := F_exitRate.other W35 (Or.inl nar)
  have F_source := F_source.other W35 (Or.inl nar)
  have VE := VE.other W35 (Ne.symm nre)
  have VS := VS.other W35 nsr
  have Z0 := Nat.le_trans Z0 (Nat.le_of_eq W35.size.symm)
  have K0 := K0.wr W35 (Or.inl (List.mem_cons_self ..))
  have VR : Sar Z h35 br .double [(.double r0), (.double r1), (.double rs)] := V35
  refine Goes.by (T' := T35) (g' := (mkF m 10 #[.val (.ref a), .val (.int (2 : Int32)), .val (.double f), .second] [])) st35 ?_
  refine Goes.by (T' := T35) (g' := (mkF m 11 #[.val (.ref a), .val (.int (2 : Int32)), .val (.double f), .second] [(.ref a)])) (fun _ k => XS.aloadN X35.here hx rfl (hb hby d4_10) rfl rfl k) ?_
  obtain ⟨T36, X36, e36, st36⟩ := getF X35 hx hZ hown (host := "") (Or.inl (hw _ (List.mem_of_getElem? (i := 17) rfl))) Via.refl e35 F_exitRate (g := (mkF m 11 #[.val (.ref a), .val (.int (2 : Int32)), .val (.double f), .second] [(.ref a)])) rfl rfl (hb hby d4_11)
  refine Goes.by (T' := T36) (g' := (mkF m 14 #[.val (.ref a), .val (.int (2 : Int32)), .val (.double f), .second] [(.ref be)])) st36 ?_
  refine Goes.by (T' := T36) (g' := (mkF m 15 #[.val (.ref a), .val (.int (2 : Int32)), .val (.double f), .second] [(.ref a), (.ref be)])) (fun _ k => XS.aloadN X36.here hx rfl (hb hby d4_14) rfl rfl k) ?_
  obtain ⟨T37, X37, e37, st37⟩ := getF X36 hx hZ hown (host := "") (Or.inl (hw _ (List.mem_of_getElem? (i := 12) rfl))) Via.refl e36 F_source (g := (mkF m 15 #[.val (.ref a), .val (.int (2 : Int32)), .val (.double f), .second] [(.ref a), (.ref be)])) rfl rfl (hb hby d4_15)
  refine Goes.by (T' := T37) (g' := (mkF m 18 #[.val (.ref a), .val (.int (2 : Int32)), .val (.double f), .second] [(.ref so), (.ref be)])) st37 ?_
  refine Goes.by (T' := T37) (g' := (mkF m 19 #[.val (.ref a), .val (.int (2 : Int32)), .val (.double f), .second] [(.int (2 : Int32)), (.ref so), (.ref be)])) (fun _ k => XS.iloadN X37.here hx rfl (hb hby d4_18) rfl k) ?_
  refine Goes.by (T' := T37) (g' := (mkF m 20 #[.val (.ref a), .val (.int (2 : Int32)), .val (.double f), .second] [(.int s2), (.ref be)])) (ldIS X37 hx hZ e37 VS (v := (.int s2)) (j := (2 : Int32)) 2 (by decide) rfl (g := (mkF m 19 #[.val (.ref a), .val (.int (2 : Int32)), .val (.double f), .second] [(.int (2 : Int32)), (.ref so), (.ref be)])) rfl rfl (hb hby d4_19)) ?_
  rcases hs with hs | hs | hs
  · subst hs
    refine Goes.by (T' := T37) (g' := (mkF m 21 #[.val (.ref a), .val (.int (2 : Int32)), .val (.double f), .second] [(.int (0 : Int32)), (.ref be), (.int (0 : Int32)), (.ref be)])) (fun _ k => XT.dup2 X37.here hx rfl (hb hby d4_20) rfl rfl rfl k) ?_
    refine Goes.by (T' := T37) (g' := (mkF m 22 #[.val (.ref a), .val (.int (2 : Int32)), .val (.double f), .second] [(.double ez0), (.int (0 : Int32)), (.ref be)])) (ldDS X37 hx hZ e37 VE (v := (.double ez0)) (j := (0 : Int32)) 0 (by decide) rfl (g := (mkF m 21 #[.val (.ref a), .val (.int (2 : Int32)), .val (.double f), .second] [(.int (0 : Int32)), (.ref be), (.int (0 : Int32)), (.ref be)])) rfl rfl (hb hby d4_21)) ?_
    refine Goes.by (T' := T37) (g' := (mkF m 23 #[.val (.ref a), .val (.int (2 : Int32)), .val (.double f), .second] [(.double f), (.double ez0), (.int (0 : Int32)), (.ref be)])) (fun _ k => XS.dloadN X37.here hx rfl (hb hby d4_22) rfl k) ?_
    obtain ⟨es, q_es⟩ : ∃ zz, FP.dadd ez0 f = zz := ⟨_, rfl⟩
    have DE := DInt_add q_es E0 FI (by omega)
    refine Goes.by (T' := T37) (g' := (mkF m 24 #[.val (.ref a), .val (.int (2 : Int32)), .val (.double f), .second] [(.double es), (.int (0 : Int32)), (.ref be)])) (fun _ k => XS.daddS X37.here hx rfl (hb hby d4_23) rfl (by rw [q_es]; exact DInt_nn DE) q_es k) ?_
    obtain ⟨T38, h38, X38, e38, W38, V38, st38⟩ := stDS X37 hx hZ e37 VE (j := (0 : Int32)) 0 (by decide) (by show 0 < 3; decide) (g := (mkF m 24 #[.val (.ref a), .val (.int (2 : Int32)), .val (.double f), .second] [(.double es), (.int (0 : Int32)), (.ref be)])) rfl rfl (hb hby d4_24)
    have N0 := Fr.snoc X38 N0 ge
    have F_rate := F_rate.other W38 (Or.inl nae)
    have F_exitRate := F_exitRate.other W38 (Or.inl nae)
    have F_source := F_source.other W38 (Or.inl nae)
    have VR := VR.other W38 nre
    have VS := VS.other W38 nse
    have Z0 := Nat.le_trans Z0 (Nat.le_of_eq W38.size.symm)
    have K0 := K0.wr W38 (Or.inl (List.mem_cons_of_mem _ (List.mem_singleton.mpr rfl)))
    have VE : Sar Z h38 be .double [(.double es), (.double ez1), (.double ez2)] := V38
    refine Goes.by (T' := T38) (g' := (mkF m 25 #[.val (.ref a), .val (.int (2 : Int32)), .val (.double f), .second] [])) st38 ?_
    exact outV X38 hx hlk hret (hb hby d4_25) (by rw [e38]; exact ⟨rfl, ⟨rs, es, ez1, ez2, DR, (by rw [own_pt_y (by decide)]; exact DE), (by rw [own_pt_n (by decide), Int.add_zero]; exact E1), (by rw [own_pt_n (by decide), Int.add_zero]; exact E2), VR, VE⟩, K0, N0⟩) (by decide) (by decide)
  · subst hs
    refine Goes.by (T' := T37) (g' := (mkF m 21 #[.val (.ref a), .val (.int (2 : Int32)), .val (.double f), .second] [(.int (1 : Int32)), (.ref be), (.int (1 : Int32)), (.ref be)])) (fun _ k => XT.dup2 X37.here hx rfl (hb hby d4_20) rfl rfl rfl k) ?_
    refine Goes.by (T' := T37) (g' := (mkF m 22 #[.val (.ref a), .val (.int (2 : Int32)), .val (.double f), .second] [(.double ez1), (.int (1 : Int32)), (.ref be)])) (ldDS X37 hx hZ e37 VE (v := (.double ez1)) (j := (1 : Int32)) 1 (by decide) rfl (g := (mkF m 21 #[.val (.ref a), .val (.int (2 : Int32)), .val (.double f), .second] [(.int (1 : Int32)), (.ref be), (.int (1 : Int32)), (.ref be)])) rfl rfl (hb hby d4_21)) ?_
    refine Goes.by (T' := T37) (g' := (mkF m 23 #[.val (.ref a), .val (.int (2 : Int32)), .val (.double f), .second] [(.double f), (.double ez1), (.int (1 : Int32)), (.ref be)])) (fun _ k => XS.dloadN X37.here hx rfl (hb hby d4_22) rfl k) ?_
    obtain ⟨es, q_es⟩ : ∃ zz, FP.dadd ez1 f = zz := ⟨_, rfl⟩
    have DE := DInt_add q_es E1 FI (by omega)
    refine Goes.by (T' := T37) (g' := (mkF m 24 #[.val (.ref a), .val (.int (2 : Int32)), .val (.double f), .second] [(.double es), (.int (1 : Int32)), (.ref be)])) (fun _ k => XS.daddS X37.here hx rfl (hb hby d4_23) rfl (by rw [q_es]; exact DInt_nn DE) q_es k) ?_
    obtain ⟨T39, h39, X39, e39, W39, V39, st39⟩ := stDS X37 hx hZ e37 VE (j := (1 : Int32)) 1 (by decide) (by show 1 < 3; decide) (g := (mkF m 24 #[.val (.ref a), .val (.int (2 : Int32)), .val (.double f), .second] [(.double es), (.int (1 : Int32)), (.ref be)])) rfl rfl (hb hby d4_24)
    have N0 := Fr.snoc X39 N0 ge
    have F_rate := F_rate.other W39 (Or.inl nae)
    have F_exitRate := F_exitRate.other W39 (Or.inl nae)
    have F_source := F_source.other W39 (Or.inl nae)
    have VR := VR.other W39 nre
    have VS := VS.other W39 nse
    have Z0 := Nat.le_trans Z0 (Nat.le_of_eq W39.size.symm)
    have K0 := K0.wr W39 (Or.inl (List.mem_cons_of_mem _ (List.mem_singleton.mpr rfl)))
    have VE : Sar Z h39 be .double [(.double ez0), (.double es), (.double ez2)] := V39
    refine Goes.by (T' := T39) (g' := (mkF m 25 #[.val (.ref a), .val (.int (2 : Int32)), .val (.double f), .second] [])) st39 ?_
    exact outV X39 hx hlk hret (hb hby d4_25) (by rw [e39]; exact ⟨rfl, ⟨rs, ez0, es, ez2, DR, (by rw [own_pt_n (by decide), Int.add_zero]; exact E0), (by rw [own_pt_y (by decide)]; exact DE), (by rw [own_pt_n (by decide), Int.add_zero]; exact E2), VR, VE⟩, K0, N0⟩) (by decide) (by decide)
  · subst hs
    refine Goes.by (T' := T37) (g' := (mkF m 21 #[.val (.ref a), .val (.int (2 : Int32)), .val (.double f), .second] [(.int (2 : Int32)), (.ref be), (.int (2 : Int32)), (.ref be)])) (fun _ k => XT.dup2 X37.here hx rfl (hb hby d4_20) rfl rfl rfl k) ?_
    refine Goes.by (T' := T37) (g' := (mkF m 22 #[.val (.ref a), .val (.int (2 : Int32)), .val (.double f), .second] [(.double ez2), (.int (2 : Int32)), (.ref be)])) (ldDS X37 hx hZ e37 VE (v := (.double ez2)) (j := (2 : Int32)) 2 (by decide) rfl (g := (mkF m 21 #[.val (.ref a), .val (.int (2 : Int32)), .val (.double f), .second] [(.int (2 : Int32)), (.ref be), (.int (2 : Int32)), (.ref be)])) rfl rfl (hb hby d4_21)) ?_
    refine Goes.by (T' := T37) (g' := (mkF m 23 #[.val (.ref a), .val (.int (2 : Int32)), .val (.double f), .second] [(.double f), (.double ez2), (.int (2 : Int32)), (.ref be)])) (fun _ k => XS.dloadN X37.here hx rfl (hb hby d4_22) rfl k) ?_
    obtain ⟨es, q_es⟩ : ∃ zz, FP.dadd ez2 f = zz := ⟨_, rfl⟩
    have DE := DInt_add q_es E2 FI (by omega)
    refine Goes.by (T' := T37) (g' := (mkF m 24 #[.val (.ref a), .val (.int (2 : Int32)), .val (.double f), .second] [(.double es), (.int (2 : Int32)), (.ref be)])) (fun _ k => XS.daddS X37.here hx rfl (hb hby d4_23) rfl (by rw [q_es]; exact DInt_nn DE) q_es k) ?_
    obtain ⟨T40, h40, X40, e40, W40, V40, st40⟩ := stDS X37 hx hZ e37 VE (j := (2 : Int32)) 2 (by decide) (by show 2 < 3; decide) (g := (mkF m 24 #[.val (.ref a), .val (.int (2 : Int32)), .val (.double f), .second] [(.double es), (.int (2 : Int32)), (.ref be)])) rfl rfl (hb hby d4_24)
    have N0 := Fr.snoc X40 N0 ge
    have F_rate := F_rate.other W40 (Or.inl nae)
    have F_exitRate := F_exitRate.other W40 (Or.inl nae)
    have F_source := F_source.other W40 (Or.inl nae)
    have VR := VR.other W40 nre
    have VS := VS.other W40 nse
    have Z0 := Nat.le_trans Z0 (Nat.le_of_eq W40.size.symm)
    have K0 := K0.wr W40 (Or.inl (List.mem_cons_of_mem _ (List.mem_singleton.mpr rfl)))
    have VE : Sar Z h40 be .double [(.double ez0), (.double ez1), (.double es)] := V40
    refine Goes.by (T' := T40) (g' := (mkF m 25 #[.val (.ref a), .val (.int (2 : Int32)), .val (.double f), .second] [])) st40 ?_
    exact outV X40 hx hlk hret (hb hby d4_25) (by rw [e40]; exact ⟨rfl, ⟨rs, ez0, ez1, es, DR, (by rw [own_pt_n (by decide), Int.add_zero]; exact E0), (by rw [own_pt_n (by decide), Int.add_zero]; exact E1), (by rw [own_pt_y (by decide)]; exact DE), VR, VE⟩, K0, N0⟩) (by decide) (by decide)
theorem d5_0 : decode method_3_code 0 = .ok (.iload_n 0, 1) := by decide +kernel
theorem d5_1 : decode method_3_code 1 = .ok (.iload_n 1, 1) := by decide +kernel
theorem d5_2 : decode method_3_code 2 = .ok (.if_icmp .ne 6, 3) := by decide +kernel
theorem d5_5 : decode method_3_code 5 = .ok (.iload_n 2, 1) := by decide +kernel
theorem d5_6 : decode method_3_code 6 = .ok (.i2l, 1) := by decide +kernel
theorem d5_7 : decode method_3_code 7 = .ok (.lreturn, 1) := by decide +kernel
theorem d5_8 : decode method_3_code 8 = .ok (.lconst 0, 1) := by decide +kernel
theorem d5_9 : decode method_3_code 9 = .ok (.lreturn, 1) := by decide +kernel
theorem pn1 : plainName "com/example/gibbon/gibbon/analysis/BalanceEquationsEveryStateIsLeftPinLaw" = true := by first | (simp [plainName, overriddenIn]; done) | decide +kernel
theorem pd3 : parseMethodDescriptor "(III)J" = some ⟨[.int, .int, .int], some .long⟩ := by decide +kernel
theorem ef_rm_part (m : MethodId) (x0 : Int32) (x1 : Int32) (x2 : Int32) : entryFrame m #[(.int x0), (.int x1), (.int x2)] 3 = mkF m 0 #[.val (.int x0), .val (.int x1), .val (.int x2)] [] := by first | (simp [entryFrame, mkF, argsToLocals, Value.category, maxLocals]; done) | rfl
set_option maxRecDepth 65536 in
set_option maxHeartbeats 40000000 in
theorem rm_part (l : Launch) (Z : State) (a0 : Array Value) (hw : ∀ d ∈ tables_1, d.before a0 Z = true) (sr kk ff : Int32) (h0 : Heap) (n0 : Nat) (Z0 : n0 ≤ h0.size)  :
    Does l (⟨"com/example/gibbon/gibbon/analysis/BalanceEquationsEveryStateIsLeftPinLaw", "part", "(III)J"⟩ : MethodName) method_3_code 3 (some .long) [] ({ frames := 0, cells := 0, slots := 0, locals := 0 } : Room) Z #[(.int sr), (.int kk), (.int ff)] h0 (fun v h L => (∃ z : Int64, v = some (.long z) ∧ z.toInt = own_pt sr kk ff.toInt) ∧ Fr n0 L ∧ h = h0) := by
  refine Does.of (plainFor_of_name pn1) ?_
  intro p e s m below meth c s₁ hx hby hml hret hlk hZ hown hnm X0 e0
  have N0 := Fr.nil n0
  refine Goes.cast (g' := mkF m 0 #[.val (.int sr), .val (.int kk), .val (.int ff)] []) (ef_rm_part m sr kk ff) ?_
  refine Goes.by (T' := s₁) (g' := (mkF m 1 #[.val (.int sr), .val (.int kk), .val (.int ff)] [(.int sr)])) (fun _ k => XS.iloadN X0.here hx rfl (hb hby d5_0) rfl k) ?_
  refine Goes.by (T' := s₁) (g' := (mkF m 2 #[.val (.int sr), .val (.int kk), .val (.int ff)] [(.int kk), (.int sr)])) (fun _ k => XS.iloadN X0.here hx rfl (hb hby d5_1) rfl k) ?_
  by_cases hc : sr = kk
  · refine Goes.by (T' := s₁) (g' := (mkF m 5 #[.val (.int sr), .val (.int kk), .val (.int ff)] [])) (fun _ k => XS.icmpNo X0.here hx rfl (hb hby d5_2) rfl (teq hc).2 k) ?_
    refine Goes.by (T' := s₁) (g' := (mkF m 6 #[.val (.int sr), .val (.int kk), .val (.int ff)] [(.int ff)])) (fun _ k => XS.iloadN X0.here hx rfl (hb hby d5_5) rfl k) ?_
    refine Goes.by (T' := s₁) (g' := (mkF m 7 #[.val (.int sr), .val (.int kk), .val (.int ff)] [(.long ((ff).toInt64))])) (fun _ k => XS.i2l X0.here hx rfl (hb hby d5_6) rfl k) ?_
    exact outJ X0 hx hlk hret (hb hby d5_7) (by rw [e0]; exact ⟨⟨_, rfl, by rw [own_pt_y hc, c_i2l]⟩, N0, rfl⟩) (by decide) (by decide)
  · refine Goes.by (T' := s₁) (g' := (mkF m 8 #[.val (.int sr), .val (.int kk), .val (.int ff)] [])) (fun _ k => XS.icmpYes X0.here hx rfl (pc0 := 2) (pc' := 8) rfl (hb hby d5_2) rfl (feq hc).2 (by decide) (by decide) k) ?_
    refine Goes.by (T' := s₁) (g' := (mkF m 9 #[.val (.int sr), .val (.int kk), .val (.int ff)] [(.long (0 : Int64))])) (fun _ k => XS.lconst X0.here hx rfl (hb hby d5_8)  k) ?_
    exact outJ X0 hx hlk hret (hb hby d5_9) (by rw [e0]; exact ⟨⟨_, rfl, by rw [own_pt_n hc]; decide⟩, N0, rfl⟩) (by decide) (by decide)
theorem ef_rm_law (m : MethodId) (x0 : Int32) (x1 : Int32) (x2 : Int32) (x3 : Int32) (x4 : Int32) : entryFrame m #[(.int x0), (.int x1), (.int x2), (.int x3), (.int x4)] maxLocals = mkF m 0 #[.val (.int x0), .val (.int x1), .val (.int x2), .val (.int x3), .val (.int x4), .unset, .unset, .unset, .unset, .unset, .unset, .unset, .unset, .unset, .unset, .unset] [] := by first | (simp [entryFrame, mkF, argsToLocals, Value.category, maxLocals]; done) | rfl
set_option maxRecDepth 65536 in
set_option maxHeartbeats 40000000 in
theorem rm_law (l : Launch) (Z : State) (a0 : Array Value) (hw : ∀ d ∈ tables_1, d.before a0 Z = true) (x0 x1 x2 x3 x4 : Int32) (h0 : Heap) (n0 : Nat) (Z0 : n0 ≤ h0.size)  :
    Does l x code maxLocals ret tables_1 room_1 Z #[(.int x0), (.int x1), (.int x2), (.int x3), (.int x4)] h0 (fun v h L => v = some (.int 1) ∧ Fr n0 L) := by
  refine Does.of (plainFor_of_name pn1) ?_
  intro p e s m below meth c s₁ hx hby hml hret hlk hZ hown hnm X0 e0
  have N0 := Fr.nil n0
  refine Goes.cast (g' := mkF m 0 #[.val (.int x0), .val (.int x1), .val (.int x2), .val (.int x3), .val (.int x4), .unset, .unset, .unset, .unset, .unset, .unset, .unset, .unset, .unset, .unset, .unset] []) (ef_rm_law m x0 x1 x2 x3 x4) ?_
  refine Goes.by (T' := s₁) (g' := (mkF m 2 #[.val (.int x0), .val (.int x1), .val (.int x2), .val (.int x3), .val (.int x4), .unset, .unset, .unset, .unset, .unset, .unset, .unset, .unset, .unset, .unset, .unset] [(.int x4)])) (fun _ k => XS.iload X0.here hx rfl (hb hby at_0) rfl k) ?_
  refine Goes.by (T' := s₁) (g' := (mkF m 3 #[.val (.int x0), .val (.int x1), .val (.int x2), .val (.int x3), .val (.int x4), .unset, .unset, .unset, .unset, .unset, .unset, .unset, .unset, .unset, .unset, .unset] [(.int (3 : Int32)), (.int x4)])) (fun _ k => XS.iconst X0.here hx rfl (hb hby at_2)  k) ?_
  refine Goes.by (T' := s₁) (g' := (mkF m 4 #[.val (.int x0), .val (.int x1), .val (.int x2), .val (.int x3), .val (.int x4), .unset, .unset, .unset, .unset, .unset, .unset, .unset, .unset, .unset, .unset, .unset] [(.int (x4 &&& (3 : Int32)))])) (fun _ k => XS.iand X0.here hx rfl (hb hby at_3) rfl k) ?_
  by_cases hm : (x4 &&& (3 : Int32)) = (0 : Int32)
  · refine Goes.by (T' := s₁) (g' := (mkF m 7 #[.val (.int x0), .val (.int x1), .val (.int x2), .val (.int x3), .val (.int x4), .unset, .unset, .unset, .unset, .unset, .unset, .unset, .unset, .unset, .unset, .unset] [])) (fun _ k => XS.ifNo X0.here hx rfl (hb hby at_4) rfl ((if0 _ _).trans (teq hm).2) k) ?_
    obtain ⟨T41, h41, X41, e41, E41, A41, D41, -, st41⟩ := newO X0 hx hZ hown (hw _ (List.mem_of_getElem? (i := 0) rfl)) (hw _ (List.mem_of_getElem? (i := 1) rfl)) (hw _ (List.mem_of_getElem? (i := 2) rfl)) e0 (g := (mkF m 7 #[.val (.int x0), .val (.int x1), .val (.int x2), .val (.int x3), .val (.int x4), .unset, .unset, .unset, .unset, .unset, .unset, .unset, .unset, .unset, .unset, .unset] [])) rfl (hb hby at_7) (by decide) (by decide)
    obtain ⟨a, g41⟩ : ∃ z, z = h0.size := ⟨_, rfl⟩
    rw [← g41] at A41 D41 st41
    have ge_a : n0 ≤ a := Nat.le_trans Z0 (Nat.le_of_eq g41.symm)
    have Z0 := Nat.le_trans Z0 E41.1
    have E_a := A41
    have F_start_a : Fld Z h41 a "com/example/gibbon/gibbon/analysis/BalanceEquations" "start" "[I" .null := D41 (Or.inr (hw _ (List.mem_of_getElem? (i := 11) rfl))) (ty := (.array .int)) (by decide)
    have F_source_a : Fld Z h41 a "com/example/gibbon/gibbon/analysis/BalanceEquations" "source" "[I" .null := D41 (Or.inr (hw _ (List.mem_of_getElem? (i := 13) rfl))) (ty := (.array .int)) (by decide)
    have F_rate_a : Fld Z h41 a "com/example/gibbon/gibbon/analysis/BalanceEquations" "rate" "[D" .null := D41 (Or.inr (hw _ (List.mem_of_getElem? (i := 16) rfl))) (ty := (.array .double)) (by decide)
    have F_exitRate_a : Fld Z h41 a "com/example/gibbon/gibbon/analysis/BalanceEquations" "exitRate" "[D" .null := D41 (Or.inr (hw _ (List.mem_of_getElem? (i := 18) rfl))) (ty := (.array .double)) (by decide)
    refine Goes.by (T' := T41) (g' := (mkF m 10 #[.val (.int x0), .val (.int x1), .val (.int x2), .val (.int x3), .val (.int x4), .unset, .unset, .unset, .unset, .unset, .unset, .unset, .unset, .unset, .unset, .unset] [(.ref a)])) st41 ?_
    refine Goes.by (T' := T41) (g' := (mkF m 11 #[.val (.int x0), .val (.int x1), .val (.int x2), .val (.int x3), .val (.int x4), .unset, .unset, .unset, .unset, .unset, .unset, .unset, .unset, .unset, .unset, .unset] [(.ref a), (.ref a)])) (fun _ k => XS.dup X41.here hx rfl (hb hby at_10) rfl rfl k) ?_
    refine Goes.by (T' := T41) (g' := (mkF m 12 #[.val (.int x0), .val (.int x1), .val (.int x2), .val (.int x3), .val (.int x4), .unset, .unset, .unset, .unset, .unset, .unset, .unset, .unset, .unset, .unset, .unset] [(.int (1 : Int32)), (.ref a), (.ref a)])) (fun _ k => XS.iconst X41.here hx rfl (hb hby at_11)  k) ?_
    obtain ⟨T42, h42, k42, X42, e42, E42, A42, st42⟩ := newP X41 hx hZ (hw _ (List.mem_of_getElem? (i := 3) rfl)) e41 (g := (mkF m 12 #[.val (.int x0), .val (.int x1), .val (.int x2), .val (.int x3), .val (.int x4), .unset, .unset, .unset, .unset, .unset, .unset, .unset, .unset, .unset, .unset, .unset] [(.int (1 : Int32)), (.ref a), (.ref a)])) rfl (hb hby at_12) rfl (by decide) (cap := 1) (by decide) (by decide) (by decide) (by decide)
    obtain ⟨t, g42⟩ : ∃ z, z = h41.size := ⟨_, rfl⟩
    rw [← g42] at A42 st42
    have ne_a_t : a ≠ t := fun q => Nat.lt_irrefl _ (Nat.lt_of_lt_of_eq E_a.lt (g42.symm.trans q.symm))
    have ge_t : n0 ≤ t := Nat.le_trans Z0 (Nat.le_of_eq g42.symm)
    have E_a := E_a.ext E42
    have F_start_a := F_start_a.ext E42
    have F_source_a := F_source_a.ext E42
    have F_rate_a := F_rate_a.ext E42
    have F_exitRate_a := F_exitRate_a.ext E42
    have Z0 := Nat.le_trans Z0 E42.1
    have V_t : Sar Z h42 t .int [(.int (0 : Int32))] := Sar.new (n := 1) A42 (by decide)
    refine Goes.by (T' := T42) (g' := (mkF m 14 #[.val (.int x0), .val (.int x1), .val (.int x2), .val (.int x3), .val (.int x4), .unset, .unset, .unset, .unset, .unset, .unset, .unset, .unset, .unset, .unset, .unset] [(.ref t), (.ref a), (.ref a)])) st42 ?_
    refine Goes.by (T' := T42) (g' := (mkF m 15 #[.val (.int x0), .val (.int x1), .val (.int x2), .val (.int x3), .val (.int x4), .unset, .unset, .unset, .unset, .unset, .unset, .unset, .unset, .unset, .unset, .unset] [(.ref t), (.ref t), (.ref a), (.ref a)])) (fun _ k => XS.dup X42.here hx rfl (hb hby at_14) rfl rfl k) ?_
    refine Goes.by (T' := T42) (g' := (mkF m 16 #[.val (.int x0), .val (.int x1), .val (.int x2), .val (.int x3), .val (.int x4), .unset, .unset, .unset, .unset, .unset, .unset, .unset, .unset, .unset, .unset, .unset] [(.int (0 : Int32)), (.ref t), (.ref t), (.ref a), (.ref a)])) (fun _ k => XS.iconst X42.here hx rfl (hb hby at_15)  k) ?_
    refine Goes.by (T' := T42) (g' := (mkF m 17 #[.val (.int x0), .val (.int x1), .val (.int x2), .val (.int x3), .val (.int x4), .unset, .unset, .unset, .unset, .unset, .unset, .unset, .unset, .unset, .unset, .unset] [(.int (0 : Int32)), (.int (0 : Int32)), (.ref t), (.ref t), (.ref a), (.ref a)])) (fun _ k => XS.iconst X42.here hx rfl (hb hby at_16)  k) ?_
    obtain ⟨T43, h43, X43, e43, W43, V43, st43⟩ := stIS X42 hx hZ e42 V_t (j := (0 : Int32)) 0 (by decide) (by show 0 < 1; decide) (g := (mkF m 17 #[.val (.int x0), .val (.int x1), .val (.int x2), .val (.int x3), .val (.int x4), .unset, .unset, .unset, .unset, .unset, .unset, .unset, .unset, .unset, .unset, .unset] [(.int (0 : Int32)), (.int (0 : Int32)), (.ref t), (.ref t), (.ref a), (.ref a)])) rfl rfl (hb hby at_17)
    have N0 := Fr.snoc X43 N0 ge_t
    have E_a := E_a.wr W43
    have F_start_a := F_start_a.other W43 (Or.inl ne_a_t)
    have F_source_a := F_source_a.other W43 (Or.inl ne_a_t)
    have F_rate_a := F_rate_a.other W43 (Or.inl ne_a_t)
    have F_exitRate_a := F_exitRate_a.other W43 (Or.inl ne_a_t)
    have Z0 := Nat.le_trans Z0 (Nat.le_of_eq W43.size.symm)
    have V_t : Sar Z h43 t .int [(.int (0 : Int32))] := V43
    refine Goes.by (T' := T43) (g' := (mkF m 18 #[.val (.int x0), .val (.int x1), .val (.int x2), .val (.int x3), .val (.int x4), .unset, .unset, .unset, .unset, .unset, .unset, .unset, .unset, .unset, .unset, .unset] [(.ref t), (.ref a), (.ref a)])) st43 ?_
    refine Goes.by (T' := T43) (g' := (mkF m 19 #[.val (.int x0), .val (.int x1), .val (.int x2), .val (.int x3), .val (.int x4), .unset, .unset, .unset, .unset, .unset, .unset, .unset, .unset, .unset, .unset, .unset] [(.int (0 : Int32)), (.ref t), (.ref a), (.ref a)])) (fun _ k => XS.iconst X43.here hx rfl (hb hby at_18)  k) ?_
    obtain ⟨T44, h44, k44, X44, e44, E44, A44, st44⟩ := newP X43 hx hZ (hw _ (List.mem_of_getElem? (i := 3) rfl)) e43 (g := (mkF m 19 #[.val (.int x0), .val (.int x1), .val (.int x2), .val (.int x3), .val (.int x4), .unset, .unset, .unset, .unset, .unset, .unset, .unset, .unset, .unset, .unset, .unset] [(.int (0 : Int32)), (.ref t), (.ref a), (.ref a)])) rfl (hb hby at_19) rfl (by decide) (cap := 0) (by decide) (by decide) (by decide) (by decide)
    obtain ⟨so, g44⟩ : ∃ z, z = h43.size := ⟨_, rfl⟩
    rw [← g44] at A44 st44
    have ne_a_so : a ≠ so := fun q => Nat.lt_irrefl _ (Nat.lt_of_lt_of_eq E_a.lt (g44.symm.trans q.symm))
    have ne_t_so : t ≠ so := fun q => Nat.lt_irrefl _ (Nat.lt_of_lt_of_eq V_t.lt (g44.symm.trans q.symm))
    have ge_so : n0 ≤ so := Nat.le_trans Z0 (Nat.le_of_eq g44.symm)
    have E_a := E_a.ext E44
    have F_start_a := F_start_a.ext E44
    have F_source_a := F_source_a.ext E44
    have F_rate_a := F_rate_a.ext E44
    have F_exitRate_a := F_exitRate_a.ext E44
    have V_t := V_t.ext E44
    have Z0 := Nat.le_trans Z0 E44.1
    have V_so : Sar Z h44 so .int [] := Sar.new (n := 0) A44 (by decide)
    refine Goes.by (T' := T44) (g' := (mkF m 21 #[.val (.int x0), .val (.int x1), .val (.int x2), .val (.int x3), .val (.int x4), .unset, .unset, .unset, .unset, .unset, .unset, .unset, .unset, .unset, .unset, .unset] [(.ref so), (.ref t), (.ref a), (.ref a)])) st44 ?_
    obtain ⟨v45, T45, L45, X45, hQ45, st45⟩ := callI X44 hx hZ (y := (⟨"com/example/gibbon/gibbon/analysis/BalanceEquations", "<init>", "([I[I)V"⟩ : MethodName)) rfl hown (hw _ (List.mem_of_getElem? (i := 4) rfl)) (hw _ (List.mem_of_getElem? (i := 5) rfl)) (hw _ (List.mem_of_getElem? (i := 6) rfl)) (hw _ (List.mem_of_getElem? (i := 2) rfl)) (by decide) e44 (a := a) (argsL := [(.ref t), (.ref so)]) (rest := [(.ref a)]) (W := 1) (rm_init0 l Z a0 hw a t so (0 : Int32) h44 n0 Z0 E_a F_start_a F_source_a F_rate_a F_exitRate_a V_t V_so (Ne.symm ne_a_t) (Ne.symm ne_a_so) ge_a) rfl (by decide) (by decide) (by decide) (by decide) (g := (mkF m 21 #[.val (.int x0), .val (.int x1), .val (.int x2), .val (.int x3), .val (.int x4), .unset, .unset, .unset, .unset, .unset, .unset, .unset, .unset, .unset, .unset, .unset] [(.ref so), (.ref t), (.ref a), (.ref a)])) rfl (by rw [hml]; rfl) (lenOf pd0 rfl) rfl (by show 2 * 0 + _ ≤ _; exact Nat.le_of_eq rfl) (hb hby at_21)
    obtain ⟨rfl, ⟨br, be, szr, sze, ne_br_be, F_start_a, F_source_a, F_rate_a, F_exitRate_a, V_br, V_be⟩, K45, NL45⟩ := hQ45
    have N0 := Fr.app N0 NL45
    have ne_a_br : a ≠ br := fun q => Nat.lt_irrefl _ (Nat.lt_of_lt_of_le E_a.lt (Nat.le_trans szr (Nat.le_of_eq q.symm)))
    have ne_t_br : t ≠ br := fun q => Nat.lt_irrefl _ (Nat.lt_of_lt_of_le V_t.lt (Nat.le_trans szr (Nat.le_of_eq q.symm)))
    have ne_so_br : so ≠ br := fun q => Nat.lt_irrefl _ (Nat.lt_of_lt_of_le V_so.lt (Nat.le_trans szr (Nat.le_of_eq q.symm)))
    have ge_br : n0 ≤ br := Nat.le_trans Z0 szr
    have ne_a_be : a ≠ be := fun q => Nat.lt_irrefl _ (Nat.lt_of_lt_of_le E_a.lt (Nat.le_trans sze (Nat.le_of_eq q.symm)))
    have ne_t_be : t ≠ be := fun q => Nat.lt_irrefl _ (Nat.lt_of_lt_of_le V_t.lt (Nat.le_trans sze (Nat.le_of_eq q.symm)))
    have ne_so_be : so ≠ be := fun q => Nat.lt_irrefl _ (Nat.lt_of_lt_of_le V_so.lt (Nat.le_trans sze (Nat.le_of_eq q.symm)))
    have ge_be : n0 ≤ be := Nat.le_trans Z0 sze
    have e45 : T45.heap = T45.heap := rfl
    have E_a := E_a.keep K45
    have V_t := V_t.keep K45 (ninS (Ne.symm ne_a_t) nin0)
    have V_so := V_so.keep K45 (ninS (Ne.symm ne_a_so) nin0)
    have Z0 := Nat.le_trans Z0 K45.1
    refine Goes.by (T' := T45) (g' := (mkF m 24 #[.val (.int x0), .val (.int x1), .val (.int x2), .val (.int x3), .val (.int x4), .unset, .unset, .unset, .unset, .unset, .unset, .unset, .unset, .unset, .unset, .unset] [(.ref a)])) st45 ?_
    refine Goes.by (T' := T45) (g' := (mkF m 26 #[.val (.int x0), .val (.int x1), .val (.int x2), .val (.int x3), .val (.int x4), .val (.ref a), .unset, .unset, .unset, .unset, .unset, .unset, .unset, .unset, .unset, .unset] [])) (fun _ k => XS.astore X45.here hx rfl (hb hby at_24) rfl rfl (l' := #[.val (.int x0), .val (.int x1), .val (.int x2), .val (.int x3), .val (.int x4), .val (.ref a), .unset, .unset, .unset, .unset, .unset, .unset, .unset, .unset, .unset, .unset]) rfl k) ?_
    refine Goes.by (T' := T45) (g' := (mkF m 28 #[.val (.int x0), .val (.int x1), .val (.int x2), .val (.int x3), .val (.int x4), .val (.ref a), .unset, .unset, .unset, .unset, .unset, .unset, .unset, .unset, .unset, .unset] [(.ref a)])) (fun _ k => XS.aload X45.here hx rfl (hb hby at_26) rfl rfl k) ?_
    obtain ⟨v46, T46, L46, X46, hQ46, st46⟩ := callV X45 hx hZ (y := (⟨"com/example/gibbon/gibbon/analysis/BalanceEquations", "everyStateIsLeft", "()Z"⟩ : MethodName)) hown (hw _ (List.mem_of_getElem? (i := 19) rfl)) (hw _ (List.mem_of_getElem? (i := 20) rfl)) (hw _ (List.mem_of_getElem? (i := 22) rfl)) (hw _ (List.mem_of_getElem? (i := 21) rfl)) (hw _ (List.mem_of_getElem? (i := 23) rfl)) (hw _ (List.mem_of_getElem? (i := 2) rfl)) (by decide) e45 E_a (argsL := []) (rest := []) (W := 0) (rm_ev0_0 l Z a0 hw a be T45.heap n0 Z0 F_exitRate_a V_be) rfl (by decide) (by decide) (by decide) (by decide) (g := (mkF m 28 #[.val (.int x0), .val (.int x1), .val (.int x2), .val (.int x3), .val (.int x4), .val (.ref a), .unset, .unset, .unset, .unset, .unset, .unset, .unset, .unset, .unset, .unset] [(.ref a)])) rfl (by rw [hml]; rfl) (lenOf pd1 rfl) rfl (by show 2 * 0 + _ ≤ _; exact Nat.le_of_eq rfl) (hb hby at_28)
    obtain ⟨rfl, NL46, hk46⟩ := hQ46
    have N0 := Fr.app N0 NL46
    refine Goes.by (T' := T46) (g' := (mkF m 31 #[.val (.int x0), .val (.int x1), .val (.int x2), .val (.int x3), .val (.int x4), .val (.ref a), .unset, .unset, .unset, .unset, .unset, .unset, .unset, .unset, .unset, .unset] [(.int (1 : Int32))])) st46 ?_
    exact outZ X46 hx hlk hret (hb hby at_31) (by exact ⟨rfl, N0⟩) (by decide) (by decide)
  · refine Goes.by (T' := s₁) (g' := (mkF m 32 #[.val (.int x0), .val (.int x1), .val (.int x2), .val (.int x3), .val (.int x4), .unset, .unset, .unset, .unset, .unset, .unset, .unset, .unset, .unset, .unset, .unset] [])) (fun _ k => XS.ifYes X0.here hx rfl (pc0 := 4) (pc' := 32) rfl (hb hby at_4) rfl ((if0 _ _).trans (feq hm).2) (by decide) (by decide) k) ?_
    refine Goes.by (T' := s₁) (g' := (mkF m 33 #[.val (.int x0), .val (.int x1), .val (.int x2), .val (.int x3), .val (.int x4), .unset, .unset, .unset, .unset, .unset, .unset, .unset, .unset, .unset, .unset, .unset] [(.int x3)])) (fun _ k => XS.iloadN X0.here hx rfl (hb hby at_32) rfl k) ?_
    refine Goes.by (T' := s₁) (g' := (mkF m 35 #[.val (.int x0), .val (.int x1), .val (.int x2), .val (.int x3), .val (.int x4), .unset, .unset, .unset, .unset, .unset, .unset, .unset, .unset, .unset, .unset, .unset] [(.int (15 : Int32)), (.int x3)])) (fun _ k => XS.bipush X0.here hx rfl (hb hby at_33)  k) ?_
    refine Goes.by (T' := s₁) (g' := (mkF m 36 #[.val (.int x0), .val (.int x1), .val (.int x2), .val (.int x3), .val (.int x4), .unset, .unset, .unset, .unset, .unset, .unset, .unset, .unset, .unset, .unset, .unset] [(.int (x3 &&& (15 : Int32)))])) (fun _ k => XS.iand X0.here hx rfl (hb hby at_35) rfl k) ?_
    refine Goes.by (T' := s₁) (g' := (mkF m 37 #[.val (.int x0), .val (.int x1), .val (.int x2), .val (.int x3), .val (.int x4), .unset, .unset, .unset, .unset, .unset, .unset, .unset, .unset, .unset, .unset, .unset] [(.int (3 : Int32)), (.int (x3 &&& (15 : Int32)))])) (fun _ k => XS.iconst X0.here hx rfl (hb hby at_36)  k) ?_
    obtain ⟨m0, q_m0⟩ : ∃ zz : Int32, zz = (x3 &&& (15 : Int32)) := ⟨_, rfl⟩
    rw [← q_m0]
    refine Goes.by (T' := s₁) (g' := (mkF m 38 #[.val (.int x0), .val (.int x1), .val (.int x2), .val (.int x3), .val (.int x4), .unset, .unset, .unset, .unset, .unset, .unset, .unset, .unset, .unset, .unset, .unset] [(.int (m0 % (3 : Int32)))])) (fun _ k => iremM (g := (mkF m 37 #[.val (.int x0), .val (.int x1), .val (.int x2), .val (.int x3), .val (.int x4), .unset, .unset, .unset, .unset, .unset, .unset, .unset, .unset, .unset, .unset, .unset] [(.int (3 : Int32)), (.int m0)])) X0 hx rfl (hb hby at_37) rfl (by decide) k) ?_
    obtain ⟨s0, q_s0⟩ : ∃ zz : Int32, zz = (m0 % (3 : Int32)) := ⟨_, rfl⟩
    rw [← q_s0]
    have hs0 : s0 = 0 ∨ s0 = 1 ∨ s0 = 2 := by rw [q_s0]; exact own_rem3 _ (by rw [q_m0]; exact (c_and _ (15 : Int32) (by decide)).1)
    refine Goes.by (T' := s₁) (g' := (mkF m 40 #[.val (.int x0), .val (.int x1), .val (.int x2), .val (.int x3), .val (.int x4), .val (.int s0), .unset, .unset, .unset, .unset, .unset, .unset, .unset, .unset, .unset, .unset] [])) (fun _ k => XS.istore X0.here hx rfl (hb hby at_38) rfl (l' := #[.val (.int x0), .val (.int x1), .val (.int x2), .val (.int x3), .val (.int x4), .val (.int s0), .unset, .unset, .unset, .unset, .unset, .unset, .unset, .unset, .unset, .unset]) rfl k) ?_
    refine Goes.by (T' := s₁) (g' := (mkF m 41 #[.val (.int x0), .val (.int x1), .val (.int x2), .val (.int x3), .val (.int x4), .val (.int s0), .unset, .unset, .unset, .unset, .unset, .unset, .unset, .unset, .unset, .unset] [(.int x3)])) (fun _ k => XS.iloadN X0.here hx rfl (hb hby at_40) rfl k) ?_
    refine Goes.by (T' := s₁) (g' := (mkF m 42 #[.val (.int x0), .val (.int x1), .val (.int x2), .val (.int x3), .val (.int x4), .val (.int s0), .unset, .unset, .unset, .unset, .unset, .unset, .unset, .unset, .unset, .unset] [(.int (4 : Int32)), (.int x3)])) (fun _ k => XS.iconst X0.here hx rfl (hb hby at_41)  k) ?_
    refine Goes.by (T' := s₁) (g' := (mkF m 43 #[.val (.int x0), .val (.int x1), .val (.int x2), .val (.int x3), .val (.int x4), .val (.int s0), .unset, .unset, .unset, .unset, .unset, .unset, .unset, .unset, .unset, .unset] [(.int (x3 >>> ((4 : Int32) &&& 31)))])) (fun _ k => XS.ishr X0.here hx rfl (hb hby at_42) rfl k) ?_
    refine Goes.by (T' := s₁) (g' := (mkF m 45 #[.val (.int x0), .val (.int x1), .val (.int x2), .val (.int x3), .val (.int x4), .val (.int s0), .unset, .unset, .unset, .unset, .unset, .unset, .unset, .unset, .unset, .unset] [(.int (15 : Int32)), (.int (x3 >>> ((4 : Int32) &&& 31)))])) (fun _ k => XS.bipush X0.here hx rfl (hb hby at_43)  k) ?_
    refine Goes.by (T' := s₁) (g' := (mkF m 46 #[.val (.int x0), .val (.int x1), .val (.int x2), .val (.int x3), .val (.int x4), .val (.int s0), .unset, .unset, .unset, .unset, .unset, .unset, .unset, .unset, .unset, .unset] [(.int ((x3 >>> ((4 : Int32) &&& 31)) &&& (15 : Int32)))])) (fun _ k => XS.iand X0.here hx rfl (hb hby at_45) rfl k) ?_
    refine Goes.by (T' := s₁) (g' := (mkF m 47 #[.val (.int x0), .val (.int x1), .val (.int x2), .val (.int x3), .val (.int x4), .val (.int s0), .unset, .unset, .unset, .unset, .unset, .unset, .unset, .unset, .unset, .unset] [(.int (3 : Int32)), (.int ((x3 >>> ((4 : Int32) &&& 31)) &&& (15 : Int32)))])) (fun _ k => XS.iconst X0.here hx rfl (hb hby at_46)  k) ?_
    obtain ⟨m1, q_m1⟩ : ∃ zz : Int32, zz = ((x3 >>> ((4 : Int32) &&& 31)) &&& (15 : Int32)) := ⟨_, rfl⟩
    rw [← q_m1]
    refine Goes.by (T' := s₁) (g' := (mkF m 48 #[.val (.int x0), .val (.int x1), .val (.int x2), .val (.int x3), .val (.int x4), .val (.int s0), .unset, .unset, .unset, .unset, .unset, .unset, .unset, .unset, .unset, .unset] [(.int (m1 % (3 : Int32)))])) (fun _ k => iremM (g := (mkF m 47 #[.val (.int x0), .val (.int x1), .val (.int x2), .val (.int x3), .val (.int x4), .val (.int s0), .unset, .unset, .unset, .unset, .unset, .unset, .unset, .unset, .unset, .unset] [(.int (3 : Int32)), (.int m1)])) X0 hx rfl (hb hby at_47) rfl (by decide) k) ?_
    obtain ⟨s1, q_s1⟩ : ∃ zz : Int32, zz = (m1 % (3 : Int32)) := ⟨_, rfl⟩
    rw [← q_s1]
    have hs1 : s1 = 0 ∨ s1 = 1 ∨ s1 = 2 := by rw [q_s1]; exact own_rem3 _ (by rw [q_m1]; exact (c_and _ (15 : Int32) (by decide)).1)
    refine Goes.by (T' := s₁) (g' := (mkF m 50 #[.val (.int x0), .val (.int x1), .val (.int x2), .val (.int x3), .val (.int x4), .val (.int s0), .val (.int s1), .unset, .unset, .unset, .unset, .unset, .unset, .unset, .unset, .unset] [])) (fun _ k => XS.istore X0.here hx rfl (hb hby at_48) rfl (l' := #[.val (.int x0), .val (.int x1), .val (.int x2), .val (.int x3), .val (.int x4), .val (.int s0), .val (.int s1), .unset, .unset, .unset, .unset, .unset, .unset, .unset, .unset, .unset]) rfl k) ?_
    refine Goes.by (T' := s₁) (g' := (mkF m 51 #[.val (.int x0), .val (.int x1), .val (.int x2), .val (.int x3), .val (.int x4), .val (.int s0), .val (.int s1), .unset, .unset, .unset, .unset, .unset, .unset, .unset, .unset, .unset] [(.int x3)])) (fun _ k => XS.iloadN X0.here hx rfl (hb hby at_50) rfl k) ?_
    refine Goes.by (T' := s₁) (g' := (mkF m 53 #[.val (.int x0), .val (.int x1), .val (.int x2), .val (.int x3), .val (.int x4), .val (.int s0), .val (.int s1), .unset, .unset, .unset, .unset, .unset, .unset, .unset, .unset, .unset] [(.int (8 : Int32)), (.int x3)])) (fun _ k => XS.bipush X0.here hx rfl (hb hby at_51)  k) ?_
    refine Goes.by (T' := s₁) (g' := (mkF m 54 #[.val (.int x0), .val (.int x1), .val (.int x2), .val (.int x3), .val (.int x4), .val (.int s0), .val (.int s1), .unset, .unset, .unset, .unset, .unset, .unset, .unset, .unset, .unset] [(.int (x3 >>> ((8 : Int32) &&& 31)))])) (fun _ k => XS.ishr X0.here hx rfl (hb hby at_53) rfl k) ?_
    refine Goes.by (T' := s₁) (g' := (mkF m 56 #[.val (.int x0), .val (.int x1), .val (.int x2), .val (.int x3), .val (.int x4), .val (.int s0), .val (.int s1), .unset, .unset, .unset, .unset, .unset, .unset, .unset, .unset, .unset] [(.int (15 : Int32)), (.int (x3 >>> ((8 : Int32) &&& 31)))])) (fun _ k => XS.bipush X0.here hx rfl (hb hby at_54)  k) ?_
    refine Goes.by (T' := s₁) (g' := (mkF m 57 #[.val (.int x0), .val (.int x1), .val (.int x2), .val (.int x3), .val (.int x4), .val (.int s0), .val (.int s1), .unset, .unset, .unset, .unset, .unset, .unset, .unset, .unset, .unset] [(.int ((x3 >>> ((8 : Int32) &&& 31)) &&& (15 : Int32)))])) (fun _ k => XS.iand X0.here hx rfl (hb hby at_56) rfl k) ?_
    refine Goes.by (T' := s₁) (g' := (mkF m 58 #[.val (.int x0), .val (.int x1), .val (.int x2), .val (.int x3), .val (.int x4), .val (.int s0), .val (.int s1), .unset, .unset, .unset, .unset, .unset, .unset, .unset, .unset, .unset] [(.int (3 : Int32)), (.int ((x3 >>> ((8 : Int32) &&& 31)) &&& (15 : Int32)))])) (fun _ k => XS.iconst X0.here hx rfl (hb hby at_57)  k) ?_
    obtain ⟨m2, q_m2⟩ : ∃ zz : Int32, zz = ((x3 >>> ((8 : Int32) &&& 31)) &&& (15 : Int32)) := ⟨_, rfl⟩
    rw [← q_m2]
    refine Goes.by (T' := s₁) (g' := (mkF m 59 #[.val (.int x0), .val (.int x1), .val (.int x2), .val (.int x3), .val (.int x4), .val (.int s0), .val (.int s1), .unset, .unset, .unset, .unset, .unset, .unset, .unset, .unset, .unset] [(.int (m2 % (3 : Int32)))])) (fun _ k => iremM (g := (mkF m 58 #[.val (.int x0), .val (.int x1), .val (.int x2), .val (.int x3), .val (.int x4), .val (.int s0), .val (.int s1), .unset, .unset, .unset, .unset, .unset, .unset, .unset, .unset, .unset] [(.int (3 : Int32)), (.int m2)])) X0 hx rfl (hb hby at_58) rfl (by decide) k) ?_
    obtain ⟨s2, q_s2⟩ : ∃ zz : Int32, zz = (m2 % (3 : Int32)) := ⟨_, rfl⟩
    rw [← q_s2]
    have hs2 : s2 = 0 ∨ s2 = 1 ∨ s2 = 2 := by rw [q_s2]; exact own_rem3 _ (by rw [q_m2]; exact (c_and _ (15 : Int32) (by decide)).1)
    refine Goes.by (T' := s₁) (g' := (mkF m 61 #[.val (.int x0), .val (.int x1), .val (.int x2), .val (.int x3), .val (.int x4), .val (.int s0), .val (.int s1), .val (.int s2), .unset, .unset, .unset, .unset, .unset, .unset, .unset, .unset] [])) (fun _ k => XS.istore X0.here hx rfl (hb hby at_59) rfl (l' := #[.val (.int x0), .val (.int x1), .val (.int x2), .val (.int x3), .val (.int x4), .val (.int s0), .val (.int s1), .val (.int s2), .unset, .unset, .unset, .unset, .unset, .unset, .unset, .unset]) rfl k) ?_
    obtain ⟨T47, h47, X47, e47, E47, A47, D47, -, st47⟩ := newO X0 hx hZ hown (hw _ (List.mem_of_getElem? (i := 0) rfl)) (hw _ (List.mem_of_getElem? (i := 1) rfl)) (hw _ (List.mem_of_getElem? (i := 2) rfl)) e0 (g := (mkF m 61 #[.val (.int x0), .val (.int x1), .val (.int x2), .val (.int x3), .val (.int x4), .val (.int s0), .val (.int s1), .val (.int s2), .unset, .unset, .unset, .unset, .unset, .unset, .unset, .unset] [])) rfl (hb hby at_61) (by decide) (by decide)
    obtain ⟨a, g47⟩ : ∃ z, z = h0.size := ⟨_, rfl⟩
    rw [← g47] at A47 D47 st47
    have ge_a : n0 ≤ a := Nat.le_trans Z0 (Nat.le_of_eq g47.symm)
    have Z0 := Nat.le_trans Z0 E47.1
    have E_a := A47
    have F_start_a : Fld Z h47 a "com/example/gibbon/gibbon/analysis/BalanceEquations" "start" "[I" .null := D47 (Or.inr (hw _ (List.mem_of_getElem? (i := 11) rfl))) (ty := (.array .int)) (by decide)
    have F_source_a : Fld Z h47 a "com/example/gibbon/gibbon/analysis/BalanceEquations" "source" "[I" .null := D47 (Or.inr (hw _ (List.mem_of_getElem? (i := 13) rfl))) (ty := (.array .int)) (by decide)
    have F_rate_a : Fld Z h47 a "com/example/gibbon/gibbon/analysis/BalanceEquations" "rate" "[D" .null := D47 (Or.inr (hw _ (List.mem_of_getElem? (i := 16) rfl))) (ty := (.array .double)) (by decide)
    have F_exitRate_a : Fld Z h47 a "com/example/gibbon/gibbon/analysis/BalanceEquations" "exitRate" "[D" .null := D47 (Or.inr (hw _ (List.mem_of_getElem? (i := 18) rfl))) (ty := (.array .double)) (by decide)
    refine Goes.by (T' := T47) (g' := (mkF m 64 #[.val (.int x0), .val (.int x1), .val (.int x2), .val (.int x3), .val (.int x4), .val (.int s0), .val (.int s1), .val (.int s2), .unset, .unset, .unset, .unset, .unset, .unset, .unset, .unset] [(.ref a)])) st47 ?_
    refine Goes.by (T' := T47) (g' := (mkF m 65 #[.val (.int x0), .val (.int x1), .val (.int x2), .val (.int x3), .val (.int x4), .val (.int s0), .val (.int s1), .val (.int s2), .unset, .unset, .unset, .unset, .unset, .unset, .unset, .unset] [(.ref a), (.ref a)])) (fun _ k => XS.dup X47.here hx rfl (hb hby at_64) rfl rfl k) ?_
    refine Goes.by (T' := T47) (g' := (mkF m 66 #[.val (.int x0), .val (.int x1), .val (.int x2), .val (.int x3), .val (.int x4), .val (.int s0), .val (.int s1), .val (.int s2), .unset, .unset, .unset, .unset, .unset, .unset, .unset, .unset] [(.int (4 : Int32)), (.ref a), (.ref a)])) (fun _ k => XS.iconst X47.here hx rfl (hb hby at_65)  k) ?_
    obtain ⟨T48, h48, k48, X48, e48, E48, A48, st48⟩ := newP X47 hx hZ (hw _ (List.mem_of_getElem? (i := 3) rfl)) e47 (g := (mkF m 66 #[.val (.int x0), .val (.int x1), .val (.int x2), .val (.int x3), .val (.int x4), .val (.int s0), .val (.int s1), .val (.int s2), .unset, .unset, .unset, .unset, .unset, .unset, .unset, .unset] [(.int (4 : Int32)), (.ref a), (.ref a)])) rfl (hb hby at_66) rfl (by decide) (cap := 4) (by decide) (by decide) (by decide) (by decide)
    obtain ⟨t, g48⟩ : ∃ z, z = h47.size := ⟨_, rfl⟩
    rw [← g48] at A48 st48
    have ne_a_t : a ≠ t := fun q => Nat.lt_irrefl _ (Nat.lt_of_lt_of_eq E_a.lt (g48.symm.trans q.symm))
    have ge_t : n0 ≤ t := Nat.le_trans Z0 (Nat.le_of_eq g48.symm)
    have E_a := E_a.ext E48
    have F_start_a := F_start_a.ext E48
    have F_source_a := F_source_a.ext E48
    have F_rate_a := F_rate_a.ext E48
    have F_exitRate_a := F_exitRate_a.ext E48
    have Z0 := Nat.le_trans Z0 E48.1
    have V_t : Sar Z h48 t .int [(.int (0 : Int32)), (.int (0 : Int32)), (.int (0 : Int32)), (.int (0 : Int32))] := Sar.new (n := 4) A48 (by decide)
    refine Goes.by (T' := T48) (g' := (mkF m 68 #[.val (.int x0), .val (.int x1), .val (.int x2), .val (.int x3), .val (.int x4), .val (.int s0), .val (.int s1), .val (.int s2), .unset, .unset, .unset, .unset, .unset, .unset, .unset, .unset] [(.ref t), (.ref a), (.ref a)])) st48 ?_
    refine Goes.by (T' := T48) (g' := (mkF m 69 #[.val (.int x0), .val (.int x1), .val (.int x2), .val (.int x3), .val (.int x4), .val (.int s0), .val (.int s1), .val (.int s2), .unset, .unset, .unset, .unset, .unset, .unset, .unset, .unset] [(.ref t), (.ref t), (.ref a), (.ref a)])) (fun _ k => XS.dup X48.here hx rfl (hb hby at_68) rfl rfl k) ?_
    refine Goes.by (T' := T48) (g' := (mkF m 70 #[.val (.int x0), .val (.int x1), .val (.int x2), .val (.int x3), .val (.int x4), .val (.int s0), .val (.int s1), .val (.int s2), .unset, .unset, .unset, .unset, .unset, .unset, .unset, .unset] [(.int (0 : Int32)), (.ref t), (.ref t), (.ref a), (.ref a)])) (fun _ k => XS.iconst X48.here hx rfl (hb hby at_69)  k) ?_
    refine Goes.by (T' := T48) (g' := (mkF m 71 #[.val (.int x0), .val (.int x1), .val (.int x2), .val (.int x3), .val (.int x4), .val (.int s0), .val (.int s1), .val (.int s2), .unset, .unset, .unset, .unset, .unset, .unset, .unset, .unset] [(.int (0 : Int32)), (.int (0 : Int32)), (.ref t), (.ref t), (.ref a), (.ref a)])) (fun _ k => XS.iconst X48.here hx rfl (hb hby at_70)  k) ?_
    obtain ⟨T49, h49, X49, e49, W49, V49, st49⟩ := stIS X48 hx hZ e48 V_t (j := (0 : Int32)) 0 (by decide) (by show 0 < 4; decide) (g := (mkF m 71 #[.val (.int x0), .val (.int x1), .val (.int x2), .val (.int x3), .val (.int x4), .val (.int s0), .val (.int s1), .val (.int s2), .unset, .unset, .unset, .unset, .unset, .unset, .unset, .unset] [(.int (0 : Int32)), (.int (0 : Int32)), (.ref t), (.ref t), (.ref a), (.ref a)])) rfl rfl (hb hby at_71)
    have N0 := Fr.snoc X49 N0 ge_t
    have E_a := E_a.wr W49
    have F_start_a := F_start_a.other W49 (Or.inl ne_a_t)
    have F_source_a := F_source_a.other W49 (Or.inl ne_a_t)
    have F_rate_a := F_rate_a.other W49 (Or.inl ne_a_t)
    have F_exitRate_a := F_exitRate_a.other W49 (Or.inl ne_a_t)
    have Z0 := Nat.le_trans Z0 (Nat.le_of_eq W49.size.symm)
    have V_t : Sar Z h49 t .int [(.int (0 : Int32)), (.int (0 : Int32)), (.int (0 : Int32)), (.int (0 : Int32))] := V49
    refine Goes.by (T' := T49) (g' := (mkF m 72 #[.val (.int x0), .val (.int x1), .val (.int x2), .val (.int x3), .val (.int x4), .val (.int s0), .val (.int s1), .val (.int s2), .unset, .unset, .unset, .unset, .unset, .unset, .unset, .unset] [(.ref t), (.ref a), (.ref a)])) st49 ?_
    refine Goes.by (T' := T49) (g' := (mkF m 73 #[.val (.int x0), .val (.int x1), .val (.int x2), .val (.int x3), .val (.int x4), .val (.int s0), .val (.int s1), .val (.int s2), .unset, .unset, .unset, .unset, .unset, .unset, .unset, .unset] [(.ref t), (.ref t), (.ref a), (.ref a)])) (fun _ k => XS.dup X49.here hx rfl (hb hby at_72) rfl rfl k) ?_
    refine Goes.by (T' := T49) (g' := (mkF m 74 #[.val (.int x0), .val (.int x1), .val (.int x2), .val (.int x3), .val (.int x4), .val (.int s0), .val (.int s1), .val (.int s2), .unset, .unset, .unset, .unset, .unset, .unset, .unset, .unset] [(.int (1 : Int32)), (.ref t), (.ref t), (.ref a), (.ref a)])) (fun _ k => XS.iconst X49.here hx rfl (hb hby at_73)  k) ?_
    refine Goes.by (T' := T49) (g' := (mkF m 75 #[.val (.int x0), .val (.int x1), .val (.int x2), .val (.int x3), .val (.int x4), .val (.int s0), .val (.int s1), .val (.int s2), .unset, .unset, .unset, .unset, .unset, .unset, .unset, .unset] [(.int (1 : Int32)), (.int (1 : Int32)), (.ref t), (.ref t), (.ref a), (.ref a)])) (fun _ k => XS.iconst X49.here hx rfl (hb hby at_74)  k) ?_
    obtain ⟨T50, h50, X50, e50, W50, V50, st50⟩ := stIS X49 hx hZ e49 V_t (j := (1 : Int32)) 1 (by decide) (by show 1 < 4; decide) (g := (mkF m 75 #[.val (.int x0), .val (.int x1), .val (.int x2), .val (.int x3), .val (.int x4), .val (.int s0), .val (.int s1), .val (.int s2), .unset, .unset, .unset, .unset, .unset, .unset, .unset, .unset] [(.int (1 : Int32)), (.int (1 : Int32)), (.ref t), (.ref t), (.ref a), (.ref a)])) rfl rfl (hb hby at_75)
    have N0 := Fr.snoc X50 N0 ge_t
    have E_a := E_a.wr W50
    have F_start_a := F_start_a.other W50 (Or.inl ne_a_t)
    have F_source_a := F_source_a.other W50 (Or.inl ne_a_t)
    have F_rate_a := F_rate_a.other W50 (Or.inl ne_a_t)
    have F_exitRate_a := F_exitRate_a.other W50 (Or.inl ne_a_t)
    have Z0 := Nat.le_trans Z0 (Nat.le_of_eq W50.size.symm)
    have V_t : Sar Z h50 t .int [(.int (0 : Int32)), (.int (1 : Int32)), (.int (0 : Int32)), (.int (0 : Int32))] := V50
    refine Goes.by (T' := T50) (g' := (mkF m 76 #[.val (.int x0), .val (.int x1), .val (.int x2), .val (.int x3), .val (.int x4), .val (.int s0), .val (.int s1), .val (.int s2), .unset, .unset, .unset, .unset, .unset, .unset, .unset, .unset] [(.ref t), (.ref a), (.ref a)])) st50 ?_
    refine Goes.by (T' := T50) (g' := (mkF m 77 #[.val (.int x0), .val (.int x1), .val (.int x2), .val (.int x3), .val (.int x4), .val (.int s0), .val (.int s1), .val (.int s2), .unset, .unset, .unset, .unset, .unset, .unset, .unset, .unset] [(.ref t), (.ref t), (.ref a), (.ref a)])) (fun _ k => XS.dup X50.here hx rfl (hb hby at_76) rfl rfl k) ?_
    refine Goes.by (T' := T50) (g' := (mkF m 78 #[.val (.int x0), .val (.int x1), .val (.int x2), .val (.int x3), .val (.int x4), .val (.int s0), .val (.int s1), .val (.int s2), .unset, .unset, .unset, .unset, .unset, .unset, .unset, .unset] [(.int (2 : Int32)), (.ref t), (.ref t), (.ref a), (.ref a)])) (fun _ k => XS.iconst X50.here hx rfl (hb hby at_77)  k) ?_
    refine Goes.by (T' := T50) (g' := (mkF m 79 #[.val (.int x0), .val (.int x1), .val (.int x2), .val (.int x3), .val (.int x4), .val (.int s0), .val (.int s1), .val (.int s2), .unset, .unset, .unset, .unset, .unset, .unset, .unset, .unset] [(.int (2 : Int32)), (.int (2 : Int32)), (.ref t), (.ref t), (.ref a), (.ref a)])) (fun _ k => XS.iconst X50.here hx rfl (hb hby at_78)  k) ?_
    obtain ⟨T51, h51, X51, e51, W51, V51, st51⟩ := stIS X50 hx hZ e50 V_t (j := (2 : Int32)) 2 (by decide) (by show 2 < 4; decide) (g := (mkF m 79 #[.val (.int x0), .val (.int x1), .val (.int x2), .val (.int x3), .val (.int x4), .val (.int s0), .val (.int s1), .val (.int s2), .unset, .unset, .unset, .unset, .unset, .unset, .unset, .unset] [(.int (2 : Int32)), (.int (2 : Int32)), (.ref t), (.ref t), (.ref a), (.ref a)])) rfl rfl (hb hby at_79)
    have N0 := Fr.snoc X51 N0 ge_t
    have E_a := E_a.wr W51
    have F_start_a := F_start_a.other W51 (Or.inl ne_a_t)
    have F_source_a := F_source_a.other W51 (Or.inl ne_a_t)
    have F_rate_a := F_rate_a.other W51 (Or.inl ne_a_t)
    have F_exitRate_a := F_exitRate_a.other W51 (Or.inl ne_a_t)
    have Z0 := Nat.le_trans Z0 (Nat.le_of_eq W51.size.symm)
    have V_t : Sar Z h51 t .int [(.int (0 : Int32)), (.int (1 : Int32)), (.int (2 : Int32)), (.int (0 : Int32))] := V51
    refine Goes.by (T' := T51) (g' := (mkF m 80 #[.val (.int x0), .val (.int x1), .val (.int x2), .val (.int x3), .val (.int x4), .val (.int s0), .val (.int s1), .val (.int s2), .unset, .unset, .unset, .unset, .unset, .unset, .unset, .unset] [(.ref t), (.ref a), (.ref a)])) st51 ?_
    refine Goes.by (T' := T51) (g' := (mkF m 81 #[.val (.int x0), .val (.int x1), .val (.int x2), .val (.int x3), .val (.int x4), .val (.int s0), .val (.int s1), .val (.int s2), .unset, .unset, .unset, .unset, .unset, .unset, .unset, .unset] [(.ref t), (.ref t), (.ref a), (.ref a)])) (fun _ k => XS.dup X51.here hx rfl (hb hby at_80) rfl rfl k) ?_
    refine Goes.by (T' := T51) (g' := (mkF m 82 #[.val (.int x0), .val (.int x1), .val (.int x2), .val (.int x3), .val (.int x4), .val (.int s0), .val (.int s1), .val (.int s2), .unset, .unset, .unset, .unset, .unset, .unset, .unset, .unset] [(.int (3 : Int32)), (.ref t), (.ref t), (.ref a), (.ref a)])) (fun _ k => XS.iconst X51.here hx rfl (hb hby at_81)  k) ?_
    refine Goes.by (T' := T51) (g' := (mkF m 83 #[.val (.int x0), .val (.int x1), .val (.int x2), .val (.int x3), .val (.int x4), .val (.int s0), .val (.int s1), .val (.int s2), .unset, .unset, .unset, .unset, .unset, .unset, .unset, .unset] [(.int (3 : Int32)), (.int (3 : Int32)), (.ref t), (.ref t), (.ref a), (.ref a)])) (fun _ k => XS.iconst X51.here hx rfl (hb hby at_82)  k) ?_
    obtain ⟨T52, h52, X52, e52, W52, V52, st52⟩ := stIS X51 hx hZ e51 V_t (j := (3 : Int32)) 3 (by decide) (by show 3 < 4; decide) (g := (mkF m 83 #[.val (.int x0), .val (.int x1), .val (.int x2), .val (.int x3), .val (.int x4), .val (.int s0), .val (.int s1), .val (.int s2), .unset, .unset, .unset, .unset, .unset, .unset, .unset, .unset] [(.int (3 : Int32)), (.int (3 : Int32)), (.ref t), (.ref t), (.ref a), (.ref a)])) rfl rfl (hb hby at_83)
    have N0 := Fr.snoc X52 N0 ge_t
    have E_a := E_a.wr W52
    have F_start_a := F_start_a.other W52 (Or.inl ne_a_t)
    have F_source_a := F_source_a.other W52 (Or.inl ne_a_t)
    have F_rate_a := F_rate_a.other W52 (Or.inl ne_a_t)
    have F_exitRate_a := F_exitRate_a.other W52 (Or.inl ne_a_t)
    have Z0 := Nat.le_trans Z0 (Nat.le_of_eq W52.size.symm)
    have V_t : Sar Z h52 t .int [(.int (0 : Int32)), (.int (1 : Int32)), (.int (2 : Int32)), (.int (3 : Int32))] := V52
    refine Goes.by (T' := T52) (g' := (mkF m 84 #[.val (.int x0), .val (.int x1), .val (.int x2), .val (.int x3), .val (.int x4), .val (.int s0), .val (.int s1), .val (.int s2), .unset, .unset, .unset, .unset, .unset, .unset, .unset, .unset] [(.ref t), (.ref a), (.ref a)])) st52 ?_
    refine Goes.by (T' := T52) (g' := (mkF m 85 #[.val (.int x0), .val (.int x1), .val (.int x2), .val (.int x3), .val (.int x4), .val (.int s0), .val (.int s1), .val (.int s2), .unset, .unset, .unset, .unset, .unset, .unset, .unset, .unset] [(.int (3 : Int32)), (.ref t), (.ref a), (.ref a)])) (fun _ k => XS.iconst X52.here hx rfl (hb hby at_84)  k) ?_
    obtain ⟨T53, h53, k53, X53, e53, E53, A53, st53⟩ := newP X52 hx hZ (hw _ (List.mem_of_getElem? (i := 3) rfl)) e52 (g := (mkF m 85 #[.val (.int x0), .val (.int x1), .val (.int x2), .val (.int x3), .val (.int x4), .val (.int s0), .val (.int s1), .val (.int s2), .unset, .unset, .unset, .unset, .unset, .unset, .unset, .unset] [(.int (3 : Int32)), (.ref t), (.ref a), (.ref a)])) rfl (hb hby at_85) rfl (by decide) (cap := 3) (by decide) (by decide) (by decide) (by decide)
    obtain ⟨so, g53⟩ : ∃ z, z = h52.size := ⟨_, rfl⟩
    rw [← g53] at A53 st53
    have ne_a_so : a ≠ so := fun q => Nat.lt_irrefl _ (Nat.lt_of_lt_of_eq E_a.lt (g53.symm.trans q.symm))
    have ne_t_so : t ≠ so := fun q => Nat.lt_irrefl _ (Nat.lt_of_lt_of_eq V_t.lt (g53.symm.trans q.symm))
    have ge_so : n0 ≤ so := Nat.le_trans Z0 (Nat.le_of_eq g53.symm)
    have E_a := E_a.ext E53
    have F_start_a := F_start_a.ext E53
    have F_source_a := F_source_a.ext E53
    have F_rate_a := F_rate_a.ext E53
    have F_exitRate_a := F_exitRate_a.ext E53
    have V_t := V_t.ext E53
    have Z0 := Nat.le_trans Z0 E53.1
    have V_so : Sar Z h53 so .int [(.int (0 : Int32)), (.int (0 : Int32)), (.int (0 : Int32))] := Sar.new (n := 3) A53 (by decide)
    refine Goes.by (T' := T53) (g' := (mkF m 87 #[.val (.int x0), .val (.int x1), .val (.int x2), .val (.int x3), .val (.int x4), .val (.int s0), .val (.int s1), .val (.int s2), .unset, .unset, .unset, .unset, .unset, .unset, .unset, .unset] [(.ref so), (.ref t), (.ref a), (.ref a)])) st53 ?_
    refine Goes.by (T' := T53) (g' := (mkF m 88 #[.val (.int x0), .val (.int x1), .val (.int x2), .val (.int x3), .val (.int x4), .val (.int s0), .val (.int s1), .val (.int s2), .unset, .unset, .unset, .unset, .unset, .unset, .unset, .unset] [(.ref so), (.ref so), (.ref t), (.ref a), (.ref a)])) (fun _ k => XS.dup X53.here hx rfl (hb hby at_87) rfl rfl k) ?_
    refine Goes.by (T' := T53) (g' := (mkF m 89 #[.val (.int x0), .val (.int x1), .val (.int x2), .val (.int x3), .val (.int x4), .val (.int s0), .val (.int s1), .val (.int s2), .unset, .unset, .unset, .unset, .unset, .unset, .unset, .unset] [(.int (0 : Int32)), (.ref so), (.ref so), (.ref t), (.ref a), (.ref a)])) (fun _ k => XS.iconst X53.here hx rfl (hb hby at_88)  k) ?_
    refine Goes.by (T' := T53) (g' := (mkF m 91 #[.val (.int x0), .val (.int x1), .val (.int x2), .val (.int x3), .val (.int x4), .val (.int s0), .val (.int s1), .val (.int s2), .unset, .unset, .unset, .unset, .unset, .unset, .unset, .unset] [(.int s0), (.int (0 : Int32)), (.ref so), (.ref so), (.ref t), (.ref a), (.ref a)])) (fun _ k => XS.iload X53.here hx rfl (hb hby at_89) rfl k) ?_
    obtain ⟨T54, h54, X54, e54, W54, V54, st54⟩ := stIS X53 hx hZ e53 V_so (j := (0 : Int32)) 0 (by decide) (by show 0 < 3; decide) (g := (mkF m 91 #[.val (.int x0), .val (.int x1), .val (.int x2), .val (.int x3), .val (.int x4), .val (.int s0), .val (.int s1), .val (.int s2), .unset, .unset, .unset, .unset, .unset, .unset, .unset, .unset] [(.int s0), (.int (0 : Int32)), (.ref so), (.ref so), (.ref t), (.ref a), (.ref a)])) rfl rfl (hb hby at_91)
    have N0 := Fr.snoc X54 N0 ge_so
    have E_a := E_a.wr W54
    have F_start_a := F_start_a.other W54 (Or.inl ne_a_so)
    have F_source_a := F_source_a.other W54 (Or.inl ne_a_so)
    have F_rate_a := F_rate_a.other W54 (Or.inl ne_a_so)
    have F_exitRate_a := F_exitRate_a.other W54 (Or.inl ne_a_so)
    have V_t := V_t.other W54 ne_t_so
    have Z0 := Nat.le_trans Z0 (Nat.le_of_eq W54.size.symm)
    have V_so : Sar Z h54 so .int [(.int s0), (.int (0 : Int32)), (.int (0 : Int32))] := V54
    refine Goes.by (T' := T54) (g' := (mkF m 92 #[.val (.int x0), .val (.int x1), .val (.int x2), .val (.int x3), .val (.int x4), .val (.int s0), .val (.int s1), .val (.int s2), .unset, .unset, .unset, .unset, .unset, .unset, .unset, .unset] [(.ref so), (.ref t), (.ref a), (.ref a)])) st54 ?_
    refine Goes.by (T' := T54) (g' := (mkF m 93 #[.val (.int x0), .val (.int x1), .val (.int x2), .val (.int x3), .val (.int x4), .val (.int s0), .val (.int s1), .val (.int s2), .unset, .unset, .unset, .unset, .unset, .unset, .unset, .unset] [(.ref so), (.ref so), (.ref t), (.ref a), (.ref a)])) (fun _ k => XS.dup X54.here hx rfl (hb hby at_92) rfl rfl k) ?_
    refine Goes.by (T' := T54) (g' := (mkF m 94 #[.val (.int x0), .val (.int x1), .val (.int x2), .val (.int x3), .val (.int x4), .val (.int s0), .val (.int s1), .val (.int s2), .unset, .unset, .unset, .unset, .unset, .unset, .unset, .unset] [(.int (1 : Int32)), (.ref so), (.ref so), (.ref t), (.ref a), (.ref a)])) (fun _ k => XS.iconst X54.here hx rfl (hb hby at_93)  k) ?_
    refine Goes.by (T' := T54) (g' := (mkF m 96 #[.val (.int x0), .val (.int x1), .val (.int x2), .val (.int x3), .val (.int x4), .val (.int s0), .val (.int s1), .val (.int s2), .unset, .unset, .unset, .unset, .unset, .unset, .unset, .unset] [(.int s1), (.int (1 : Int32)), (.ref so), (.ref so), (.ref t), (.ref a), (.ref a)])) (fun _ k => XS.iload X54.here hx rfl (hb hby at_94) rfl k) ?_
    obtain ⟨T55, h55, X55, e55, W55, V55, st55⟩ := stIS X54 hx hZ e54 V_so (j := (1 : Int32)) 1 (by decide) (by show 1 < 3; decide) (g := (mkF m 96 #[.val (.int x0), .val (.int x1), .val (.int x2), .val (.int x3), .val (.int x4), .val (.int s0), .val (.int s1), .val (.int s2), .unset, .unset, .unset, .unset, .unset, .unset, .unset, .unset] [(.int s1), (.int (1 : Int32)), (.ref so), (.ref so), (.ref t), (.ref a), (.ref a)])) rfl rfl (hb hby at_96)
    have N0 := Fr.snoc X55 N0 ge_so
    have E_a := E_a.wr W55
    have F_start_a := F_start_a.other W55 (Or.inl ne_a_so)
    have F_source_a := F_source_a.other W55 (Or.inl ne_a_so)
    have F_rate_a := F_rate_a.other W55 (Or.inl ne_a_so)
    have F_exitRate_a := F_exitRate_a.other W55 (Or.inl ne_a_so)
    have V_t := V_t.other W55 ne_t_so
    have Z0 := Nat.le_trans Z0 (Nat.le_of_eq W55.size.symm)
    have V_so : Sar Z h55 so .int [(.int s0), (.int s1), (.int (0 : Int32))] := V55
    refine Goes.by (T' := T55) (g' := (mkF m 97 #[.val (.int x0), .val (.int x1), .val (.int x2), .val (.int x3), .val (.int x4), .val (.int s0), .val (.int s1), .val (.int s2), .unset, .unset, .unset, .unset, .unset, .unset, .unset, .unset] [(.ref so), (.ref t), (.ref a), (.ref a)])) st55 ?_
    refine Goes.by (T' := T55) (g' := (mkF m 98 #[.val (.int x0), .val (.int x1), .val (.int x2), .val (.int x3), .val (.int x4), .val (.int s0), .val (.int s1), .val (.int s2), .unset, .unset, .unset, .unset, .unset, .unset, .unset, .unset] [(.ref so), (.ref so), (.ref t), (.ref a), (.ref a)])) (fun _ k => XS.dup X55.here hx rfl (hb hby at_97) rfl rfl k) ?_
    refine Goes.by (T' := T55) (g' := (mkF m 99 #[.val (.int x0), .val (.int x1), .val (.int x2), .val (.int x3), .val (.int x4), .val (.int s0), .val (.int s1), .val (.int s2), .unset, .unset, .unset, .unset, .unset, .unset, .unset, .unset] [(.int (2 : Int32)), (.ref so), (.ref so), (.ref t), (.ref a), (.ref a)])) (fun _ k => XS.iconst X55.here hx rfl (hb hby at_98)  k) ?_
    refine Goes.by (T' := T55) (g' := (mkF m 101 #[.val (.int x0), .val (.int x1), .val (.int x2), .val (.int x3), .val (.int x4), .val (.int s0), .val (.int s1), .val (.int s2), .unset, .unset, .unset, .unset, .unset, .unset, .unset, .unset] [(.int s2), (.int (2 : Int32)), (.ref so), (.ref so), (.ref t), (.ref a), (.ref a)])) (fun _ k => XS.iload X55.here hx rfl (hb hby at_99) rfl k) ?_
    obtain ⟨T56, h56, X56, e56, W56, V56, st56⟩ := stIS X55 hx hZ e55 V_so (j := (2 : Int32)) 2 (by decide) (by show 2 < 3; decide) (g := (mkF m 101 #[.val (.int x0), .val (.int x1), .val (.int x2), .val (.int x3), .val (.int x4), .val (.int s0), .val (.int s1), .val (.int s2), .unset, .unset, .unset, .unset, .unset, .unset, .unset, .unset] [(.int s2), (.int (2 : Int32)), (.ref so), (.ref so), (.ref t), (.ref a), (.ref a)])) rfl rfl (hb hby at_101)
    have N0 := Fr.snoc X56 N0 ge_so
    have E_a := E_a.wr W56
    have F_start_a := F_start_a.other W56 (Or.inl ne_a_so)
    have F_source_a := F_source_a.other W56 (Or.inl ne_a_so)
    have F_rate_a := F_rate_a.other W56 (Or.inl ne_a_so)
    have F_exitRate_a := F_exitRate_a.other W56 (Or.inl ne_a_so)
    have V_t := V_t.other W56 ne_t_so
    have Z0 := Nat.le_trans Z0 (Nat.le_of_eq W56.size.symm)
    have V_so : Sar Z h56 so .int [(.int s0), (.int s1), (.int s2)] := V56
    refine Goes.by (T' := T56) (g' := (mkF m 102 #[.val (.int x0), .val (.int x1), .val (.int x2), .val (.int x3), .val (.int x4), .val (.int s0), .val (.int s1), .val (.int s2), .unset, .unset, .unset, .unset, .unset, .unset, .unset, .unset] [(.ref so), (.ref t), (.ref a), (.ref a)])) st56 ?_
    obtain ⟨v57, T57, L57, X57, hQ57, st57⟩ := callI X56 hx hZ (y := (⟨"com/example/gibbon/gibbon/analysis/BalanceEquations", "<init>", "([I[I)V"⟩ : MethodName)) rfl hown (hw _ (List.mem_of_getElem? (i := 4) rfl)) (hw _ (List.mem_of_getElem? (i := 5) rfl)) (hw _ (List.mem_of_getElem? (i := 6) rfl)) (hw _ (List.mem_of_getElem? (i := 2) rfl)) (by decide) e56 (a := a) (argsL := [(.ref t), (.ref so)]) (rest := [(.ref a)]) (W := 1) (rm_init3 l Z a0 hw a t so s0 s1 s2 (0 : Int32) (1 : Int32) (2 : Int32) (3 : Int32) h56 n0 Z0 E_a F_start_a F_source_a F_rate_a F_exitRate_a V_t V_so (Ne.symm ne_a_t) (Ne.symm ne_a_so) ge_a) rfl (by decide) (by decide) (by decide) (by decide) (g := (mkF m 102 #[.val (.int x0), .val (.int x1), .val (.int x2), .val (.int x3), .val (.int x4), .val (.int s0), .val (.int s1), .val (.int s2), .unset, .unset, .unset, .unset, .unset, .unset, .unset, .unset] [(.ref so), (.ref t), (.ref a), (.ref a)])) rfl (by rw [hml]; rfl) (lenOf pd0 rfl) rfl (by show 2 * 0 + _ ≤ _; exact Nat.le_of_eq rfl) (hb hby at_102)
    obtain ⟨rfl, ⟨br, be, szr, sze, ne_br_be, F_start_a, F_source_a, F_rate_a, F_exitRate_a, V_br, V_be⟩, K57, NL57⟩ := hQ57
    have N0 := Fr.app N0 NL57
    have ne_a_br : a ≠ br := fun q => Nat.lt_irrefl _ (Nat.lt_of_lt_of_le E_a.lt (Nat.le_trans szr (Nat.le_of_eq q.symm)))
    have ne_t_br : t ≠ br := fun q => Nat.lt_irrefl _ (Nat.lt_of_lt_of_le V_t.lt (Nat.le_trans szr (Nat.le_of_eq q.symm)))
    have ne_so_br : so ≠ br := fun q => Nat.lt_irrefl _ (Nat.lt_of_lt_of_le V_so.lt (Nat.le_trans szr (Nat.le_of_eq q.symm)))
    have ge_br : n0 ≤ br := Nat.le_trans Z0 szr
    have ne_a_be : a ≠ be := fun q => Nat.lt_irrefl _ (Nat.lt_of_lt_of_le E_a.lt (Nat.le_trans sze (Nat.le_of_eq q.symm)))
    have ne_t_be : t ≠ be := fun q => Nat.lt_irrefl _ (Nat.lt_of_lt_of_le V_t.lt (Nat.le_trans sze (Nat.le_of_eq q.symm)))
    have ne_so_be : so ≠ be := fun q => Nat.lt_irrefl _ (Nat.lt_of_lt_of_le V_so.lt (Nat.le_trans sze (Nat.le_of_eq q.symm)))
    have ge_be : n0 ≤ be := Nat.le_trans Z0 sze
    have e57 : T57.heap = T57.heap := rfl
    have E_a := E_a.keep K57
    have V_t := V_t.keep K57 (ninS (Ne.symm ne_a_t) nin0)
    have V_so := V_so.keep K57 (ninS (Ne.symm ne_a_so) nin0)
    have Z0 := Nat.le_trans Z0 K57.1
    refine Goes.by (T' := T57) (g' := (mkF m 105 #[.val (.int x0), .val (.int x1), .val (.int x2), .val (.int x3), .val (.int x4), .val (.int s0), .val (.int s1), .val (.int s2), .unset, .unset, .unset, .unset, .unset, .unset, .unset, .unset] [(.ref a)])) st57 ?_
    have bx0 : -2147483648 ≤ x0.toInt ∧ x0.toInt ≤ 2147483648 := by have := rng32 x0; omega
    have bq00 := own_pt_b (s := s0) (k := 0) bx0
    have bq01 := own_pt_b (s := s0) (k := 1) bx0
    have bq02 := own_pt_b (s := s0) (k := 2) bx0
    have bx1 : -2147483648 ≤ x1.toInt ∧ x1.toInt ≤ 2147483648 := by have := rng32 x1; omega
    have bq10 := own_pt_b (s := s1) (k := 0) bx1
    have bq11 := own_pt_b (s := s1) (k := 1) bx1
    have bq12 := own_pt_b (s := s1) (k := 2) bx1
    have bx2 : -2147483648 ≤ x2.toInt ∧ x2.toInt ≤ 2147483648 := by have := rng32 x2; omega
    have bq20 := own_pt_b (s := s2) (k := 0) bx2
    have bq21 := own_pt_b (s := s2) (k := 1) bx2
    have bq22 := own_pt_b (s := s2) (k := 2) bx2
    refine Goes.by (T' := T57) (g' := (mkF m 107 #[.val (.int x0), .val (.int x1), .val (.int x2), .val (.int x3), .val (.int x4), .val (.int s0), .val (.int s1), .val (.int s2), .val (.ref a), .unset, .unset, .unset, .unset, .unset, .unset, .unset] [])) (fun _ k => XS.astore X57.here hx rfl (hb hby at_105) rfl rfl (l' := #[.val (.int x0), .val (.int x1), .val (.int x2), .val (.int x3), .val (.int x4), .val (.int s0), .val (.int s1), .val (.int s2), .val (.ref a), .unset, .unset, .unset, .unset, .unset, .unset, .unset]) rfl k) ?_
    refine Goes.by (T' := T57) (g' := (mkF m 109 #[.val (.int x0), .val (.int x1), .val (.int x2), .val (.int x3), .val (.int x4), .val (.int s0), .val (.int s1), .val (.int s2), .val (.ref a), .unset, .unset, .unset, .unset, .unset, .unset, .unset] [(.ref a)])) (fun _ k => XS.aload X57.here hx rfl (hb hby at_107) rfl rfl k) ?_
    refine Goes.by (T' := T57) (g' := (mkF m 110 #[.val (.int x0), .val (.int x1), .val (.int x2), .val (.int x3), .val (.int x4), .val (.int s0), .val (.int s1), .val (.int s2), .val (.ref a), .unset, .unset, .unset, .unset, .unset, .unset, .unset] [(.int (0 : Int32)), (.ref a)])) (fun _ k => XS.iconst X57.here hx rfl (hb hby at_109)  k) ?_
    refine Goes.by (T' := T57) (g' := (mkF m 111 #[.val (.int x0), .val (.int x1), .val (.int x2), .val (.int x3), .val (.int x4), .val (.int s0), .val (.int s1), .val (.int s2), .val (.ref a), .unset, .unset, .unset, .unset, .unset, .unset, .unset] [(.int x0), (.int (0 : Int32)), (.ref a)])) (fun _ k => XS.iloadN X57.here hx rfl (hb hby at_110) rfl k) ?_
    obtain ⟨f0, q_f0⟩ : ∃ zz, FP.i2d x0 = zz := ⟨_, rfl⟩
    refine Goes.by (T' := T57) (g' := (mkF m 112 #[.val (.int x0), .val (.int x1), .val (.int x2), .val (.int x3), .val (.int x4), .val (.int s0), .val (.int s1), .val (.int s2), .val (.ref a), .unset, .unset, .unset, .unset, .unset, .unset, .unset] [(.double f0), (.int (0 : Int32)), (.ref a)])) (fun _ k => XS.i2dS X57.here hx rfl (hb hby at_111) rfl q_f0 k) ?_
    obtain ⟨v58, T58, L58, X58, hQ58, st58⟩ := callV X57 hx hZ (y := (⟨"com/example/gibbon/gibbon/analysis/BalanceEquations", "addFlow", "(ID)V"⟩ : MethodName)) hown (hw _ (List.mem_of_getElem? (i := 24) rfl)) (hw _ (List.mem_of_getElem? (i := 25) rfl)) (hw _ (List.mem_of_getElem? (i := 27) rfl)) (hw _ (List.mem_of_getElem? (i := 26) rfl)) (hw _ (List.mem_of_getElem? (i := 28) rfl)) (hw _ (List.mem_of_getElem? (i := 2) rfl)) (by decide) e57 E_a (argsL := [(.int (0 : Int32)), (.double f0)]) (rest := []) (W := 0) (rm_flow0 l Z a0 hw a br be so f0 (0 : UInt64) (0 : UInt64) (0 : UInt64) (0 : UInt64) (0 : UInt64) (0 : UInt64) s0 s1 s2 x0.toInt 0 0 0 0 T57.heap n0 Z0 F_rate_a F_exitRate_a F_source_a V_br V_be V_so ne_br_be ne_so_br ne_so_be ne_a_br ne_a_be ge_br ge_be DInt_zero (by decide) DInt_zero (by omega) DInt_zero (by omega) DInt_zero (by omega) (DInt_i2d q_f0) bx0 hs0) rfl (by decide) (by decide) (by decide) (by decide) (g := (mkF m 112 #[.val (.int x0), .val (.int x1), .val (.int x2), .val (.int x3), .val (.int x4), .val (.int s0), .val (.int s1), .val (.int s2), .val (.ref a), .unset, .unset, .unset, .unset, .unset, .unset, .unset] [(.double f0), (.int (0 : Int32)), (.ref a)])) rfl (by rw [hml]; rfl) (lenOf pd2 rfl) rfl (by show 2 * 0 + _ ≤ _; exact Nat.le_of_eq rfl) (hb hby at_112)
    obtain ⟨rfl, ⟨y0, g00, g01, g02, DY0, DG00, DG01, DG02, V_br, V_be⟩, K58, NL58⟩ := hQ58
    have N0 := Fr.app N0 NL58
    have e58 : T58.heap = T58.heap := rfl
    have E_a := E_a.keep K58
    have V_t := V_t.keep K58 (ninS ne_t_br (ninS ne_t_be nin0))
    have V_so := V_so.keep K58 (ninS ne_so_br (ninS ne_so_be nin0))
    have F_start_a := F_start_a.keep K58 (ninS ne_a_br (ninS ne_a_be nin0))
    have F_source_a := F_source_a.keep K58 (ninS ne_a_br (ninS ne_a_be nin0))
    have F_rate_a := F_rate_a.keep K58 (ninS ne_a_br (ninS ne_a_be nin0))
    have F_exitRate_a := F_exitRate_a.keep K58 (ninS ne_a_br (ninS ne_a_be nin0))
    have Z0 := Nat.le_trans Z0 K58.1
    refine Goes.by (T' := T58) (g' := (mkF m 115 #[.val (.int x0), .val (.int x1), .val (.int x2), .val (.int x3), .val (.int x4), .val (.int s0), .val (.int s1), .val (.int s2), .val (.ref a), .unset, .unset, .unset, .unset, .unset, .unset, .unset] [])) st58 ?_
    refine Goes.by (T' := T58) (g' := (mkF m 117 #[.val (.int x0), .val (.int x1), .val (.int x2), .val (.int x3), .val (.int x4), .val (.int s0), .val (.int s1), .val (.int s2), .val (.ref a), .unset, .unset, .unset, .unset, .unset, .unset, .unset] [(.ref a)])) (fun _ k => XS.aload X58.here hx rfl (hb hby at_115) rfl rfl k) ?_
    refine Goes.by (T' := T58) (g' := (mkF m 118 #[.val (.int x0), .val (.int x1), .val (.int x2), .val (.int x3), .val (.int x4), .val (.int s0), .val (.int s1), .val (.int s2), .val (.ref a), .unset, .unset, .unset, .unset, .unset, .unset, .unset] [(.int (1 : Int32)), (.ref a)])) (fun _ k => XS.iconst X58.here hx rfl (hb hby at_117)  k) ?_
    refine Goes.by (T' := T58) (g' := (mkF m 119 #[.val (.int x0), .val (.int x1), .val (.int x2), .val (.int x3), .val (.int x4), .val (.int s0), .val (.int s1), .val (.int s2), .val (.ref a), .unset, .unset, .unset, .unset, .unset, .unset, .unset] [(.int x1), (.int (1 : Int32)), (.ref a)])) (fun _ k => XS.iloadN X58.here hx rfl (hb hby at_118) rfl k) ?_
    obtain ⟨f1, q_f1⟩ : ∃ zz, FP.i2d x1 = zz := ⟨_, rfl⟩
    refine Goes.by (T' := T58) (g' := (mkF m 120 #[.val (.int x0), .val (.int x1), .val (.int x2), .val (.int x3), .val (.int x4), .val (.int s0), .val (.int s1), .val (.int s2), .val (.ref a), .unset, .unset, .unset, .unset, .unset, .unset, .unset] [(.double f1), (.int (1 : Int32)), (.ref a)])) (fun _ k => XS.i2dS X58.here hx rfl (hb hby at_119) rfl q_f1 k) ?_
    obtain ⟨v59, T59, L59, X59, hQ59, st59⟩ := callV X58 hx hZ (y := (⟨"com/example/gibbon/gibbon/analysis/BalanceEquations", "addFlow", "(ID)V"⟩ : MethodName)) hown (hw _ (List.mem_of_getElem? (i := 24) rfl)) (hw _ (List.mem_of_getElem? (i := 25) rfl)) (hw _ (List.mem_of_getElem? (i := 27) rfl)) (hw _ (List.mem_of_getElem? (i := 26) rfl)) (hw _ (List.mem_of_getElem? (i := 28) rfl)) (hw _ (List.mem_of_getElem? (i := 2) rfl)) (by decide) e58 E_a (argsL := [(.int (1 : Int32)), (.double f1)]) (rest := []) (W := 0) (rm_flow1 l Z a0 hw a br be so f1 y0 (0 : UInt64) (0 : UInt64) g00 g01 g02 s0 s1 s2 x1.toInt 0 (0 + own_pt s0 0 x0.toInt) (0 + own_pt s0 1 x0.toInt) (0 + own_pt s0 2 x0.toInt) T58.heap n0 Z0 F_rate_a F_exitRate_a F_source_a V_br V_be V_so ne_br_be ne_so_br ne_so_be ne_a_br ne_a_be ge_br ge_be DInt_zero (by decide) DG00 (by omega) DG01 (by omega) DG02 (by omega) (DInt_i2d q_f1) bx1 hs1) rfl (by decide) (by decide) (by decide) (by decide) (g := (mkF m 120 #[.val (.int x0), .val (.int x1), .val (.int x2), .val (.int x3), .val (.int x4), .val (.int s0), .val (.int s1), .val (.int s2), .val (.ref a), .unset, .unset, .unset, .unset, .unset, .unset, .unset] [(.double f1), (.int (1 : Int32)), (.ref a)])) rfl (by rw [hml]; rfl) (lenOf pd2 rfl) rfl (by show 2 * 0 + _ ≤ _; exact Nat.le_of_eq rfl) (hb hby at_120)
    obtain ⟨rfl, ⟨y1, g10, g11, g12, DY1, DG10, DG11, DG12, V_br, V_be⟩, K59, NL59⟩ := hQ59
    have N0 := Fr.app N0 NL59
    have e59 : T59.heap = T59.heap := rfl
    have E_a := E_a.keep K59
    have V_t := V_t.keep K59 (ninS ne_t_br (ninS ne_t_be nin0))
    have V_so := V_so.keep K59 (ninS ne_so_br (ninS ne_so_be nin0))
    have F_start_a := F_start_a.keep K59 (ninS ne_a_br (ninS ne_a_be nin0))
    have F_source_a := F_source_a.keep K59 (ninS ne_a_br (ninS ne_a_be nin0))
    have F_rate_a := F_rate_a.keep K59 (ninS ne_a_br (ninS ne_a_be nin0))
    have F_exitRate_a := F_exitRate_a.keep K59 (ninS ne_a_br (ninS ne_a_be nin0))
    have Z0 := Nat.le_trans Z0 K59.1
    refine Goes.by (T' := T59) (g' := (mkF m 123 #[.val (.int x0), .val (.int x1), .val (.int x2), .val (.int x3), .val (.int x4), .val (.int s0), .val (.int s1), .val (.int s2), .val (.ref a), .unset, .unset, .unset, .unset, .unset, .unset, .unset] [])) st59 ?_
    refine Goes.by (T' := T59) (g' := (mkF m 125 #[.val (.int x0), .val (.int x1), .val (.int x2), .val (.int x3), .val (.int x4), .val (.int s0), .val (.int s1), .val (.int s2), .val (.ref a), .unset, .unset, .unset, .unset, .unset, .unset, .unset] [(.ref a)])) (fun _ k => XS.aload X59.here hx rfl (hb hby at_123) rfl rfl k) ?_
    refine Goes.by (T' := T59) (g' := (mkF m 126 #[.val (.int x0), .val (.int x1), .val (.int x2), .val (.int x3), .val (.int x4), .val (.int s0), .val (.int s1), .val (.int s2), .val (.ref a), .unset, .unset, .unset, .unset, .unset, .unset, .unset] [(.int (2 : Int32)), (.ref a)])) (fun _ k => XS.iconst X59.here hx rfl (hb hby at_125)  k) ?_
    refine Goes.by (T' := T59) (g' := (mkF m 127 #[.val (.int x0), .val (.int x1), .val (.int x2), .val (.int x3), .val (.int x4), .val (.int s0), .val (.int s1), .val (.int s2), .val (.ref a), .unset, .unset, .unset, .unset, .unset, .unset, .unset] [(.int x2), (.int (2 : Int32)), (.ref a)])) (fun _ k => XS.iloadN X59.here hx rfl (hb hby at_126) rfl k) ?_
    obtain ⟨f2, q_f2⟩ : ∃ zz, FP.i2d x2 = zz := ⟨_, rfl⟩
    refine Goes.by (T' := T59) (g' := (mkF m 128 #[.val (.int x0), .val (.int x1), .val (.int x2), .val (.int x3), .val (.int x4), .val (.int s0), .val (.int s1), .val (.int s2), .val (.ref a), .unset, .unset, .unset, .unset, .unset, .unset, .unset] [(.double f2), (.int (2 : Int32)), (.ref a)])) (fun _ k => XS.i2dS X59.here hx rfl (hb hby at_127) rfl q_f2 k) ?_
    obtain ⟨v60, T60, L60, X60, hQ60, st60⟩ := callV X59 hx hZ (y := (⟨"com/example/gibbon/gibbon/analysis/BalanceEquations", "addFlow", "(ID)V"⟩ : MethodName)) hown (hw _ (List.mem_of_getElem? (i := 24) rfl)) (hw _ (List.mem_of_getElem? (i := 25) rfl)) (hw _ (List.mem_of_getElem? (i := 27) rfl)) (hw _ (List.mem_of_getElem? (i := 26) rfl)) (hw _ (List.mem_of_getElem? (i := 28) rfl)) (hw _ (List.mem_of_getElem? (i := 2) rfl)) (by decide) e59 E_a (argsL := [(.int (2 : Int32)), (.double f2)]) (rest := []) (W := 0) (rm_flow2 l Z a0 hw a br be so f2 y0 y1 (0 : UInt64) g10 g11 g12 s0 s1 s2 x2.toInt 0 ((0 + own_pt s0 0 x0.toInt) + own_pt s1 0 x1.toInt) ((0 + own_pt s0 1 x0.toInt) + own_pt s1 1 x1.toInt) ((0 + own_pt s0 2 x0.toInt) + own_pt s1 2 x1.toInt) T59.heap n0 Z0 F_rate_a F_exitRate_a F_source_a V_br V_be V_so ne_br_be ne_so_br ne_so_be ne_a_br ne_a_be ge_br ge_be DInt_zero (by decide) DG10 (by omega) DG11 (by omega) DG12 (by omega) (DInt_i2d q_f2) bx2 hs2) rfl (by decide) (by decide) (by decide) (by decide) (g := (mkF m 128 #[.val (.int x0), .val (.int x1), .val (.int x2), .val (.int x3), .val (.int x4), .val (.int s0), .val (.int s1), .val (.int s2), .val (.ref a), .unset, .unset, .unset, .unset, .unset, .unset, .unset] [(.double f2), (.int (2 : Int32)), (.ref a)])) rfl (by rw [hml]; rfl) (lenOf pd2 rfl) rfl (by show 2 * 0 + _ ≤ _; exact Nat.le_of_eq rfl) (hb hby at_128)
    obtain ⟨rfl, ⟨y2, g20, g21, g22, DY2, DG20, DG21, DG22, V_br, V_be⟩, K60, NL60⟩ := hQ60
    have N0 := Fr.app N0 NL60
    have e60 : T60.heap = T60.heap := rfl
    have E_a := E_a.keep K60
    have V_t := V_t.keep K60 (ninS ne_t_br (ninS ne_t_be nin0))
    have V_so := V_so.keep K60 (ninS ne_so_br (ninS ne_so_be nin0))
    have F_start_a := F_start_a.keep K60 (ninS ne_a_br (ninS ne_a_be nin0))
    have F_source_a := F_source_a.keep K60 (ninS ne_a_br (ninS ne_a_be nin0))
    have F_rate_a := F_rate_a.keep K60 (ninS ne_a_br (ninS ne_a_be nin0))
    have F_exitRate_a := F_exitRate_a.keep K60 (ninS ne_a_br (ninS ne_a_be nin0))
    have Z0 := Nat.le_trans Z0 K60.1
    refine Goes.by (T' := T60) (g' := (mkF m 131 #[.val (.int x0), .val (.int x1), .val (.int x2), .val (.int x3), .val (.int x4), .val (.int s0), .val (.int s1), .val (.int s2), .val (.ref a), .unset, .unset, .unset, .unset, .unset, .unset, .unset] [])) st60 ?_
    refine Goes.by (T' := T60) (g' := (mkF m 133 #[.val (.int x0), .val (.int x1), .val (.int x2), .val (.int x3), .val (.int x4), .val (.int s0), .val (.int s1), .val (.int s2), .val (.ref a), .unset, .unset, .unset, .unset, .unset, .unset, .unset] [(.int s0)])) (fun _ k => XS.iload X60.here hx rfl (hb hby at_131) rfl k) ?_
    refine Goes.by (T' := T60) (g' := (mkF m 134 #[.val (.int x0), .val (.int x1), .val (.int x2), .val (.int x3), .val (.int x4), .val (.int s0), .val (.int s1), .val (.int s2), .val (.ref a), .unset, .unset, .unset, .unset, .unset, .unset, .unset] [(.int (0 : Int32)), (.int s0)])) (fun _ k => XS.iconst X60.here hx rfl (hb hby at_133)  k) ?_
    refine Goes.by (T' := T60) (g' := (mkF m 135 #[.val (.int x0), .val (.int x1), .val (.int x2), .val (.int x3), .val (.int x4), .val (.int s0), .val (.int s1), .val (.int s2), .val (.ref a), .unset, .unset, .unset, .unset, .unset, .unset, .unset] [(.int x0), (.int (0 : Int32)), (.int s0)])) (fun _ k => XS.iloadN X60.here hx rfl (hb hby at_134) rfl k) ?_
    obtain ⟨v61, T61, L61, X61, hQ61, st61⟩ := callC X60 hx hZ (y := (⟨"com/example/gibbon/gibbon/analysis/BalanceEquationsEveryStateIsLeftPinLaw", "part", "(III)J"⟩ : MethodName)) hown (hw _ (List.mem_of_getElem? (i := 29) rfl)) (hw _ (List.mem_of_getElem? (i := 30) rfl)) (hw _ (List.mem_of_getElem? (i := 32) rfl)) (hw _ (List.mem_of_getElem? (i := 31) rfl)) (by decide) e60 (argsL := [(.int s0), (.int (0 : Int32)), (.int x0)]) (rest := []) (W := 0) (rm_part l Z a0 hw s0 (0 : Int32) x0 T60.heap n0 Z0) rfl (by decide) (by decide) (by decide) (by decide) (g := (mkF m 135 #[.val (.int x0), .val (.int x1), .val (.int x2), .val (.int x3), .val (.int x4), .val (.int s0), .val (.int s1), .val (.int s2), .val (.ref a), .unset, .unset, .unset, .unset, .unset, .unset, .unset] [(.int x0), (.int (0 : Int32)), (.int s0)])) rfl (by rw [hml]; rfl) (lenOf pd3 rfl) rfl (by show 2 * 0 + _ ≤ _; exact Nat.le_of_eq rfl) (hb hby at_135)
    obtain ⟨⟨l00, rfl, el00⟩, NL61, hk61⟩ := hQ61
    have N0 := Fr.app N0 NL61
    refine Goes.by (T' := T61) (g' := (mkF m 138 #[.val (.int x0), .val (.int x1), .val (.int x2), .val (.int x3), .val (.int x4), .val (.int s0), .val (.int s1), .val (.int s2), .val (.ref a), .unset, .unset, .unset, .unset, .unset, .unset, .unset] [(.long l00)])) st61 ?_
    refine Goes.by (T' := T61) (g' := (mkF m 140 #[.val (.int x0), .val (.int x1), .val (.int x2), .val (.int x3), .val (.int x4), .val (.int s0), .val (.int s1), .val (.int s2), .val (.ref a), .unset, .unset, .unset, .unset, .unset, .unset, .unset] [(.int s1), (.long l00)])) (fun _ k => XS.iload X61.here hx rfl (hb hby at_138) rfl k) ?_
    refine Goes.by (T' := T61) (g' := (mkF m 141 #[.val (.int x0), .val (.int x1), .val (.int x2), .val (.int x3), .val (.int x4), .val (.int s0), .val (.int s1), .val (.int s2), .val (.ref a), .unset, .unset, .unset, .unset, .unset, .unset, .unset] [(.int (0 : Int32)), (.int s1), (.long l00)])) (fun _ k => XS.iconst X61.here hx rfl (hb hby at_140)  k) ?_
    refine Goes.by (T' := T61) (g' := (mkF m 142 #[.val (.int x0), .val (.int x1), .val (.int x2), .val (.int x3), .val (.int x4), .val (.int s0), .val (.int s1), .val (.int s2), .val (.ref a), .unset, .unset, .unset, .unset, .unset, .unset, .unset] [(.int x1), (.int (0 : Int32)), (.int s1), (.long l00)])) (fun _ k => XS.iloadN X61.here hx rfl (hb hby at_141) rfl k) ?_
    obtain ⟨v62, T62, L62, X62, hQ62, st62⟩ := callC X61 hx hZ (y := (⟨"com/example/gibbon/gibbon/analysis/BalanceEquationsEveryStateIsLeftPinLaw", "part", "(III)J"⟩ : MethodName)) hown (hw _ (List.mem_of_getElem? (i := 29) rfl)) (hw _ (List.mem_of_getElem? (i := 30) rfl)) (hw _ (List.mem_of_getElem? (i := 32) rfl)) (hw _ (List.mem_of_getElem? (i := 31) rfl)) (by decide) hk61 (argsL := [(.int s1), (.int (0 : Int32)), (.int x1)]) (rest := [(.long l00)]) (W := 2) (rm_part l Z a0 hw s1 (0 : Int32) x1 T60.heap n0 Z0) rfl (by decide) (by decide) (by decide) (by decide) (g := (mkF m 142 #[.val (.int x0), .val (.int x1), .val (.int x2), .val (.int x3), .val (.int x4), .val (.int s0), .val (.int s1), .val (.int s2), .val (.ref a), .unset, .unset, .unset, .unset, .unset, .unset, .unset] [(.int x1), (.int (0 : Int32)), (.int s1), (.long l00)])) rfl (by rw [hml]; rfl) (lenOf pd3 rfl) rfl (by show 2 * 0 + _ ≤ _; exact Nat.le_of_eq rfl) (hb hby at_142)
    obtain ⟨⟨l01, rfl, el01⟩, NL62, hk62⟩ := hQ62
    have N0 := Fr.app N0 NL62
    refine Goes.by (T' := T62) (g' := (mkF m 145 #[.val (.int x0), .val (.int x1), .val (.int x2), .val (.int x3), .val (.int x4), .val (.int s0), .val (.int s1), .val (.int s2), .val (.ref a), .unset, .unset, .unset, .unset, .unset, .unset, .unset] [(.long l01), (.long l00)])) st62 ?_
    refine Goes.by (T' := T62) (g' := (mkF m 146 #[.val (.int x0), .val (.int x1), .val (.int x2), .val (.int x3), .val (.int x4), .val (.int s0), .val (.int s1), .val (.int s2), .val (.ref a), .unset, .unset, .unset, .unset, .unset, .unset, .unset] [(.long (l00 + l01))])) (fun _ k => XS.ladd X62.here hx rfl (hb hby at_145) rfl k) ?_
    refine Goes.by (T' := T62) (g' := (mkF m 148 #[.val (.int x0), .val (.int x1), .val (.int x2), .val (.int x3), .val (.int x4), .val (.int s0), .val (.int s1), .val (.int s2), .val (.ref a), .unset, .unset, .unset, .unset, .unset, .unset, .unset] [(.int s2), (.long (l00 + l01))])) (fun _ k => XS.iload X62.here hx rfl (hb hby at_146) rfl k) ?_
    refine Goes.by (T' := T62) (g' := (mkF m 149 #[.val (.int x0), .val (.int x1), .val (.int x2), .val (.int x3), .val (.int x4), .val (.int s0), .val (.int s1), .val (.int s2), .val (.ref a), .unset, .unset, .unset, .unset, .unset, .unset, .unset] [(.int (0 : Int32)), (.int s2), (.long (l00 + l01))])) (fun _ k => XS.iconst X62.here hx rfl (hb hby at_148)  k) ?_
    refine Goes.by (T' := T62) (g' := (mkF m 150 #[.val (.int x0), .val (.int x1), .val (.int x2), .val (.int x3), .val (.int x4), .val (.int s0), .val (.int s1), .val (.int s2), .val (.ref a), .unset, .unset, .unset, .unset, .unset, .unset, .unset] [(.int x2), (.int (0 : Int32)), (.int s2), (.long (l00 + l01))])) (fun _ k => XS.iloadN X62.here hx rfl (hb hby at_149) rfl k) ?_
    obtain ⟨v63, T63, L63, X63, hQ63, st63⟩ := callC X62 hx hZ (y := (⟨"com/example/gibbon/gibbon/analysis/BalanceEquationsEveryStateIsLeftPinLaw", "part", "(III)J"⟩ : MethodName)) hown (hw _ (List.mem_of_getElem? (i := 29) rfl)) (hw _ (List.mem_of_getElem? (i := 30) rfl)) (hw _ (List.mem_of_getElem? (i := 32) rfl)) (hw _ (List.mem_of_getElem? (i := 31) rfl)) (by decide) hk62 (argsL := [(.int s2), (.int (0 : Int32)), (.int x2)]) (rest := [(.long (l00 + l01))]) (W := 2) (rm_part l Z a0 hw s2 (0 : Int32) x2 T60.heap n0 Z0) rfl (by decide) (by decide) (by decide) (by decide) (g := (mkF m 150 #[.val (.int x0), .val (.int x1), .val (.int x2), .val (.int x3), .val (.int x4), .val (.int s0), .val (.int s1), .val (.int s2), .val (.ref a), .unset, .unset, .unset, .unset, .unset, .unset, .unset] [(.int x2), (.int (0 : Int32)), (.int s2), (.long (l00 + l01))])) rfl (by rw [hml]; rfl) (lenOf pd3 rfl) rfl (by show 2 * 0 + _ ≤ _; exact Nat.le_of_eq rfl) (hb hby at_150)
    obtain ⟨⟨l02, rfl, el02⟩, NL63, hk63⟩ := hQ63
    have N0 := Fr.app N0 NL63
    refine Goes.by (T' := T63) (g' := (mkF m 153 #[.val (.int x0), .val (.int x1), .val (.int x2), .val (.int x3), .val (.int x4), .val (.int s0), .val (.int s1), .val (.int s2), .val (.ref a), .unset, .unset, .unset, .unset, .unset, .unset, .unset] [(.long l02), (.long (l00 + l01))])) st63 ?_
    refine Goes.by (T' := T63) (g' := (mkF m 154 #[.val (.int x0), .val (.int x1), .val (.int x2), .val (.int x3), .val (.int x4), .val (.int s0), .val (.int s1), .val (.int s2), .val (.ref a), .unset, .unset, .unset, .unset, .unset, .unset, .unset] [(.long ((l00 + l01) + l02))])) (fun _ k => XS.ladd X63.here hx rfl (hb hby at_153) rfl k) ?_
    obtain ⟨w0, q_w0⟩ : ∃ zz : Int64, zz = ((l00 + l01) + l02) := ⟨_, rfl⟩
    rw [← q_w0]
    have ew0 : w0.toInt = own_pt s0 0 x0.toInt + own_pt s1 0 x1.toInt + own_pt s2 0 x2.toInt := by
      have t : (l00 + l01).toInt = own_pt s0 0 x0.toInt + own_pt s1 0 x1.toInt := by rw [own_ladd (by rw [el00, el01]; omega) (by rw [el00, el01]; omega), el00, el01]
      rw [q_w0, own_ladd (by rw [t, el02]; omega) (by rw [t, el02]; omega), t, el02]
    refine Goes.by (T' := T63) (g' := (mkF m 156 #[.val (.int x0), .val (.int x1), .val (.int x2), .val (.int x3), .val (.int x4), .val (.int s0), .val (.int s1), .val (.int s2), .val (.ref a), .val (.long w0), .second, .unset, .unset, .unset, .unset, .unset] [])) (fun _ k => XS.lstore X63.here hx rfl (hb hby at_154) rfl (l' := #[.val (.int x0), .val (.int x1), .val (.int x2), .val (.int x3), .val (.int x4), .val (.int s0), .val (.int s1), .val (.int s2), .val (.ref a), .val (.long w0), .second, .unset, .unset, .unset, .unset, .unset]) rfl k) ?_
    refine Goes.by (T' := T63) (g' := (mkF m 158 #[.val (.int x0), .val (.int x1), .val (.int x2), .val (.int x3), .val (.int x4), .val (.int s0), .val (.int s1), .val (.int s2), .val (.ref a), .val (.long w0), .second, .unset, .unset, .unset, .unset, .unset] [(.int s0)])) (fun _ k => XS.iload X63.here hx rfl (hb hby at_156) rfl k) ?_
    refine Goes.by (T' := T63) (g' := (mkF m 159 #[.val (.int x0), .val (.int x1), .val (.int x2), .val (.int x3), .val (.int x4), .val (.int s0), .val (.int s1), .val (.int s2), .val (.ref a), .val (.long w0), .second, .unset, .unset, .unset, .unset, .unset] [(.int (1 : Int32)), (.int s0)])) (fun _ k => XS.iconst X63.here hx rfl (hb hby at_158)  k) ?_
    refine Goes.by (T' := T63) (g' := (mkF m 160 #[.val (.int x0), .val (.int x1), .val (.int x2), .val (.int x3), .val (.int x4), .val (.int s0), .val (.int s1), .val (.int s2), .val (.ref a), .val (.long w0), .second, .unset, .unset, .unset, .unset, .unset] [(.int x0), (.int (1 : Int32)), (.int s0)])) (fun _ k => XS.iloadN X63.here hx rfl (hb hby at_159) rfl k) ?_
    obtain ⟨v64, T64, L64, X64, hQ64, st64⟩ := callC X63 hx hZ (y := (⟨"com/example/gibbon/gibbon/analysis/BalanceEquationsEveryStateIsLeftPinLaw", "part", "(III)J"⟩ : MethodName)) hown (hw _ (List.mem_of_getElem? (i := 29) rfl)) (hw _ (List.mem_of_getElem? (i := 30) rfl)) (hw _ (List.mem_of_getElem? (i := 32) rfl)) (hw _ (List.mem_of_getElem? (i := 31) rfl)) (by decide) hk63 (argsL := [(.int s0), (.int (1 : Int32)), (.int x0)]) (rest := []) (W := 0) (rm_part l Z a0 hw s0 (1 : Int32) x0 T60.heap n0 Z0) rfl (by decide) (by decide) (by decide) (by decide) (g := (mkF m 160 #[.val (.int x0), .val (.int x1), .val (.int x2), .val (.int x3), .val (.int x4), .val (.int s0), .val (.int s1), .val (.int s2), .val (.ref a), .val (.long w0), .second, .unset, .unset, .unset, .unset, .unset] [(.int x0), (.int (1 : Int32)), (.int s0)])) rfl (by rw [hml]; rfl) (lenOf pd3 rfl) rfl (by show 2 * 0 + _ ≤ _; exact Nat.le_of_eq rfl) (hb hby at_160)
    obtain ⟨⟨l10, rfl, el10⟩, NL64, hk64⟩ := hQ64
    have N0 := Fr.app N0 NL64
    refine Goes.by (T' := T64) (g' := (mkF m 163 #[.val (.int x0), .val (.int x1), .val (.int x2), .val (.int x3), .val (.int x4), .val (.int s0), .val (.int s1), .val (.int s2), .val (.ref a), .val (.long w0), .second, .unset, .unset, .unset, .unset, .unset] [(.long l10)])) st64 ?_
    refine Goes.by (T' := T64) (g' := (mkF m 165 #[.val (.int x0), .val (.int x1), .val (.int x2), .val (.int x3), .val (.int x4), .val (.int s0), .val (.int s1), .val (.int s2), .val (.ref a), .val (.long w0), .second, .unset, .unset, .unset, .unset, .unset] [(.int s1), (.long l10)])) (fun _ k => XS.iload X64.here hx rfl (hb hby at_163) rfl k) ?_
    refine Goes.by (T' := T64) (g' := (mkF m 166 #[.val (.int x0), .val (.int x1), .val (.int x2), .val (.int x3), .val (.int x4), .val (.int s0), .val (.int s1), .val (.int s2), .val (.ref a), .val (.long w0), .second, .unset, .unset, .unset, .unset, .unset] [(.int (1 : Int32)), (.int s1), (.long l10)])) (fun _ k => XS.iconst X64.here hx rfl (hb hby at_165)  k) ?_
    refine Goes.by (T' := T64) (g' := (mkF m 167 #[.val (.int x0), .val (.int x1), .val (.int x2), .val (.int x3), .val (.int x4), .val (.int s0), .val (.int s1), .val (.int s2), .val (.ref a), .val (.long w0), .second, .unset, .unset, .unset, .unset, .unset] [(.int x1), (.int (1 : Int32)), (.int s1), (.long l10)])) (fun _ k => XS.iloadN X64.here hx rfl (hb hby at_166) rfl k) ?_
    obtain ⟨v65, T65, L65, X65, hQ65, st65⟩ := callC X64 hx hZ (y := (⟨"com/example/gibbon/gibbon/analysis/BalanceEquationsEveryStateIsLeftPinLaw", "part", "(III)J"⟩ : MethodName)) hown (hw _ (List.mem_of_getElem? (i := 29) rfl)) (hw _ (List.mem_of_getElem? (i := 30) rfl)) (hw _ (List.mem_of_getElem? (i := 32) rfl)) (hw _ (List.mem_of_getElem? (i := 31) rfl)) (by decide) hk64 (argsL := [(.int s1), (.int (1 : Int32)), (.int x1)]) (rest := [(.long l10)]) (W := 2) (rm_part l Z a0 hw s1 (1 : Int32) x1 T60.heap n0 Z0) rfl (by decide) (by decide) (by decide) (by decide) (g := (mkF m 167 #[.val (.int x0), .val (.int x1), .val (.int x2), .val (.int x3), .val (.int x4), .val (.int s0), .val (.int s1), .val (.int s2), .val (.ref a), .val (.long w0), .second, .unset, .unset, .unset, .unset, .unset] [(.int x1), (.int (1 : Int32)), (.int s1), (.long l10)])) rfl (by rw [hml]; rfl) (lenOf pd3 rfl) rfl (by show 2 * 0 + _ ≤ _; exact Nat.le_of_eq rfl) (hb hby at_167)
    obtain ⟨⟨l11, rfl, el11⟩, NL65, hk65⟩ := hQ65
    have N0 := Fr.app N0 NL65
    refine Goes.by (T' := T65) (g' := (mkF m 170 #[.val (.int x0), .val (.int x1), .val (.int x2), .val (.int x3), .val (.int x4), .val (.int s0), .val (.int s1), .val (.int s2), .val (.ref a), .val (.long w0), .second, .unset, .unset, .unset, .unset, .unset] [(.long l11), (.long l10)])) st65 ?_
    refine Goes.by (T' := T65) (g' := (mkF m 171 #[.val (.int x0), .val (.int x1), .val (.int x2), .val (.int x3), .val (.int x4), .val (.int s0), .val (.int s1), .val (.int s2), .val (.ref a), .val (.long w0), .second, .unset, .unset, .unset, .unset, .unset] [(.long (l10 + l11))])) (fun _ k => XS.ladd X65.here hx rfl (hb hby at_170) rfl k) ?_
    refine Goes.by (T' := T65) (g' := (mkF m 173 #[.val (.int x0), .val (.int x1), .val (.int x2), .val (.int x3), .val (.int x4), .val (.int s0), .val (.int s1), .val (.int s2), .val (.ref a), .val (.long w0), .second, .unset, .unset, .unset, .unset, .unset] [(.int s2), (.long (l10 + l11))])) (fun _ k => XS.iload X65.here hx rfl (hb hby at_171) rfl k) ?_
    refine Goes.by (T' := T65) (g' := (mkF m 174 #[.val (.int x0), .val (.int x1), .val (.int x2), .val (.int x3), .val (.int x4), .val (.int s0), .val (.int s1), .val (.int s2), .val (.ref a), .val (.long w0), .second, .unset, .unset, .unset, .unset, .unset] [(.int (1 : Int32)), (.int s2), (.long (l10 + l11))])) (fun _ k => XS.iconst X65.here hx rfl (hb hby at_173)  k) ?_
    refine Goes.by (T' := T65) (g' := (mkF m 175 #[.val (.int x0), .val (.int x1), .val (.int x2), .val (.int x3), .val (.int x4), .val (.int s0), .val (.int s1), .val (.int s2), .val (.ref a), .val (.long w0), .second, .unset, .unset, .unset, .unset, .unset] [(.int x2), (.int (1 : Int32)), (.int s2), (.long (l10 + l11))])) (fun _ k => XS.iloadN X65.here hx rfl (hb hby at_174) rfl k) ?_
    obtain ⟨v66, T66, L66, X66, hQ66, st66⟩ := callC X65 hx hZ (y := (⟨"com/example/gibbon/gibbon/analysis/BalanceEquationsEveryStateIsLeftPinLaw", "part", "(III)J"⟩ : MethodName)) hown (hw _ (List.mem_of_getElem? (i := 29) rfl)) (hw _ (List.mem_of_getElem? (i := 30) rfl)) (hw _ (List.mem_of_getElem? (i := 32) rfl)) (hw _ (List.mem_of_getElem? (i := 31) rfl)) (by decide) hk65 (argsL := [(.int s2), (.int (1 : Int32)), (.int x2)]) (rest := [(.long (l10 + l11))]) (W := 2) (rm_part l Z a0 hw s2 (1 : Int32) x2 T60.heap n0 Z0) rfl (by decide) (by decide) (by decide) (by decide) (g := (mkF m 175 #[.val (.int x0), .val (.int x1), .val (.int x2), .val (.int x3), .val (.int x4), .val (.int s0), .val (.int s1), .val (.int s2), .val (.ref a), .val (.long w0), .second, .unset, .unset, .unset, .unset, .unset] [(.int x2), (.int (1 : Int32)), (.int s2), (.long (l10 + l11))])) rfl (by rw [hml]; rfl) (lenOf pd3 rfl) rfl (by show 2 * 0 + _ ≤ _; exact Nat.le_of_eq rfl) (hb hby at_175)
    obtain ⟨⟨l12, rfl, el12⟩, NL66, hk66⟩ := hQ66
    have N0 := Fr.app N0 NL66
    refine Goes.by (T' := T66) (g' := (mkF m 178 #[.val (.int x0), .val (.int x1), .val (.int x2), .val (.int x3), .val (.int x4), .val (.int s0), .val (.int s1), .val (.int s2), .val (.ref a), .val (.long w0), .second, .unset, .unset, .unset, .unset, .unset] [(.long l12), (.long (l10 + l11))])) st66 ?_
    refine Goes.by (T' := T66) (g' := (mkF m 179 #[.val (.int x0), .val (.int x1), .val (.int x2), .val (.int x3), .val (.int x4), .val (.int s0), .val (.int s1), .val (.int s2), .val (.ref a), .val (.long w0), .second, .unset, .unset, .unset, .unset, .unset] [(.long ((l10 + l11) + l12))])) (fun _ k => XS.ladd X66.here hx rfl (hb hby at_178) rfl k) ?_
    obtain ⟨w1, q_w1⟩ : ∃ zz : Int64, zz = ((l10 + l11) + l12) := ⟨_, rfl⟩
    rw [← q_w1]
    have ew1 : w1.toInt = own_pt s0 1 x0.toInt + own_pt s1 1 x1.toInt + own_pt s2 1 x2.toInt := by
      have t : (l10 + l11).toInt = own_pt s0 1 x0.toInt + own_pt s1 1 x1.toInt := by rw [own_ladd (by rw [el10, el11]; omega) (by rw [el10, el11]; omega), el10, el11]
      rw [q_w1, own_ladd (by rw [t, el12]; omega) (by rw [t, el12]; omega), t, el12]
    refine Goes.by (T' := T66) (g' := (mkF m 181 #[.val (.int x0), .val (.int x1), .val (.int x2), .val (.int x3), .val (.int x4), .val (.int s0), .val (.int s1), .val (.int s2), .val (.ref a), .val (.long w0), .second, .val (.long w1), .second, .unset, .unset, .unset] [])) (fun _ k => XS.lstore X66.here hx rfl (hb hby at_179) rfl (l' := #[.val (.int x0), .val (.int x1), .val (.int x2), .val (.int x3), .val (.int x4), .val (.int s0), .val (.int s1), .val (.int s2), .val (.ref a), .val (.long w0), .second, .val (.long w1), .second, .unset, .unset, .unset]) rfl k) ?_
    refine Goes.by (T' := T66) (g' := (mkF m 183 #[.val (.int x0), .val (.int x1), .val (.int x2), .val (.int x3), .val (.int x4), .val (.int s0), .val (.int s1), .val (.int s2), .val (.ref a), .val (.long w0), .second, .val (.long w1), .second, .unset, .unset, .unset] [(.int s0)])) (fun _ k => XS.iload X66.here hx rfl (hb hby at_181) rfl k) ?_
    refine Goes.by (T' := T66) (g' := (mkF m 184 #[.val (.int x0), .val (.int x1), .val (.int x2), .val (.int x3), .val (.int x4), .val (.int s0), .val (.int s1), .val (.int s2), .val (.ref a), .val (.long w0), .second, .val (.long w1), .second, .unset, .unset, .unset] [(.int (2 : Int32)), (.int s0)])) (fun _ k => XS.iconst X66.here hx rfl (hb hby at_183)  k) ?_
    refine Goes.by (T' := T66) (g' := (mkF m 185 #[.val (.int x0), .val (.int x1), .val (.int x2), .val (.int x3), .val (.int x4), .val (.int s0), .val (.int s1), .val (.int s2), .val (.ref a), .val (.long w0), .second, .val (.long w1), .second, .unset, .unset, .unset] [(.int x0), (.int (2 : Int32)), (.int s0)])) (fun _ k => XS.iloadN X66.here hx rfl (hb hby at_184) rfl k) ?_
    obtain ⟨v67, T67, L67, X67, hQ67, st67⟩ := callC X66 hx hZ (y := (⟨"com/example/gibbon/gibbon/analysis/BalanceEquationsEveryStateIsLeftPinLaw", "part", "(III)J"⟩ : MethodName)) hown (hw _ (List.mem_of_getElem? (i := 29) rfl)) (hw _ (List.mem_of_getElem? (i := 30) rfl)) (hw _ (List.mem_of_getElem? (i := 32) rfl)) (hw _ (List.mem_of_getElem? (i := 31) rfl)) (by decide) hk66 (argsL := [(.int s0), (.int (2 : Int32)), (.int x0)]) (rest := []) (W := 0) (rm_part l Z a0 hw s0 (2 : Int32) x0 T60.heap n0 Z0) rfl (by decide) (by decide) (by decide) (by decide) (g := (mkF m 185 #[.val (.int x0), .val (.int x1), .val (.int x2), .val (.int x3), .val (.int x4), .val (.int s0), .val (.int s1), .val (.int s2), .val (.ref a), .val (.long w0), .second, .val (.long w1), .second, .unset, .unset, .unset] [(.int x0), (.int (2 : Int32)), (.int s0)])) rfl (by rw [hml]; rfl) (lenOf pd3 rfl) rfl (by show 2 * 0 + _ ≤ _; exact Nat.le_of_eq rfl) (hb hby at_185)
    obtain ⟨⟨l20, rfl, el20⟩, NL67, hk67⟩ := hQ67
    have N0 := Fr.app N0 NL67
    refine Goes.by (T' := T67) (g' := (mkF m 188 #[.val (.int x0), .val (.int x1), .val (.int x2), .val (.int x3), .val (.int x4), .val (.int s0), .val (.int s1), .val (.int s2), .val (.ref a), .val (.long w0), .second, .val (.long w1), .second, .unset, .unset, .unset] [(.long l20)])) st67 ?_
    refine Goes.by (T' := T67) (g' := (mkF m 190 #[.val (.int x0), .val (.int x1), .val (.int x2), .val (.int x3), .val (.int x4), .val (.int s0), .val (.int s1), .val (.int s2), .val (.ref a), .val (.long w0), .second, .val (.long w1), .second, .unset, .unset, .unset] [(.int s1), (.long l20)])) (fun _ k => XS.iload X67.here hx rfl (hb hby at_188) rfl k) ?_
    refine Goes.by (T' := T67) (g' := (mkF m 191 #[.val (.int x0), .val (.int x1), .val (.int x2), .val (.int x3), .val (.int x4), .val (.int s0), .val (.int s1), .val (.int s2), .val (.ref a), .val (.long w0), .second, .val (.long w1), .second, .unset, .unset, .unset] [(.int (2 : Int32)), (.int s1), (.long l20)])) (fun _ k => XS.iconst X67.here hx rfl (hb hby at_190)  k) ?_
    refine Goes.by (T' := T67) (g' := (mkF m 192 #[.val (.int x0), .val (.int x1), .val (.int x2), .val (.int x3), .val (.int x4), .val (.int s0), .val (.int s1), .val (.int s2), .val (.ref a), .val (.long w0), .second, .val (.long w1), .second, .unset, .unset, .unset] [(.int x1), (.int (2 : Int32)), (.int s1), (.long l20)])) (fun _ k => XS.iloadN X67.here hx rfl (hb hby at_191) rfl k) ?_
    obtain ⟨v68, T68, L68, X68, hQ68, st68⟩ := callC X67 hx hZ (y := (⟨"com/example/gibbon/gibbon/analysis/BalanceEquationsEveryStateIsLeftPinLaw", "part", "(III)J"⟩ : MethodName)) hown (hw _ (List.mem_of_getElem? (i := 29) rfl)) (hw _ (List.mem_of_getElem? (i := 30) rfl)) (hw _ (List.mem_of_getElem? (i := 32) rfl)) (hw _ (List.mem_of_getElem? (i := 31) rfl)) (by decide) hk67 (argsL := [(.int s1), (.int (2 : Int32)), (.int x1)]) (rest := [(.long l20)]) (W := 2) (rm_part l Z a0 hw s1 (2 : Int32) x1 T60.heap n0 Z0) rfl (by decide) (by decide) (by decide) (by decide) (g := (mkF m 192 #[.val (.int x0), .val (.int x1), .val (.int x2), .val (.int x3), .val (.int x4), .val (.int s0), .val (.int s1), .val (.int s2), .val (.ref a), .val (.long w0), .second, .val (.long w1), .second, .unset, .unset, .unset] [(.int x1), (.int (2 : Int32)), (.int s1), (.long l20)])) rfl (by rw [hml]; rfl) (lenOf pd3 rfl) rfl (by show 2 * 0 + _ ≤ _; exact Nat.le_of_eq rfl) (hb hby at_192)
    obtain ⟨⟨l21, rfl, el21⟩, NL68, hk68⟩ := hQ68
    have N0 := Fr.app N0 NL68
    refine Goes.by (T' := T68) (g' := (mkF m 195 #[.val (.int x0), .val (.int x1), .val (.int x2), .val (.int x3), .val (.int x4), .val (.int s0), .val (.int s1), .val (.int s2), .val (.ref a), .val (.long w0), .second, .val (.long w1), .second, .unset, .unset, .unset] [(.long l21), (.long l20)])) st68 ?_
    refine Goes.by (T' := T68) (g' := (mkF m 196 #[.val (.int x0), .val (.int x1), .val (.int x2), .val (.int x3), .val (.int x4), .val (.int s0), .val (.int s1), .val (.int s2), .val (.ref a), .val (.long w0), .second, .val (.long w1), .second, .unset, .unset, .unset] [(.long (l20 + l21))])) (fun _ k => XS.ladd X68.here hx rfl (hb hby at_195) rfl k) ?_
    refine Goes.by (T' := T68) (g' := (mkF m 198 #[.val (.int x0), .val (.int x1), .val (.int x2), .val (.int x3), .val (.int x4), .val (.int s0), .val (.int s1), .val (.int s2), .val (.ref a), .val (.long w0), .second, .val (.long w1), .second, .unset, .unset, .unset] [(.int s2), (.long (l20 + l21))])) (fun _ k => XS.iload X68.here hx rfl (hb hby at_196) rfl k) ?_
    refine Goes.by (T' := T68) (g' := (mkF m 199 #[.val (.int x0), .val (.int x1), .val (.int x2), .val (.int x3), .val (.int x4), .val (.int s0), .val (.int s1), .val (.int s2), .val (.ref a), .val (.long w0), .second, .val (.long w1), .second, .unset, .unset, .unset] [(.int (2 : Int32)), (.int s2), (.long (l20 + l21))])) (fun _ k => XS.iconst X68.here hx rfl (hb hby at_198)  k) ?_
    refine Goes.by (T' := T68) (g' := (mkF m 200 #[.val (.int x0), .val (.int x1), .val (.int x2), .val (.int x3), .val (.int x4), .val (.int s0), .val (.int s1), .val (.int s2), .val (.ref a), .val (.long w0), .second, .val (.long w1), .second, .unset, .unset, .unset] [(.int x2), (.int (2 : Int32)), (.int s2), (.long (l20 + l21))])) (fun _ k => XS.iloadN X68.here hx rfl (hb hby at_199) rfl k) ?_
    obtain ⟨v69, T69, L69, X69, hQ69, st69⟩ := callC X68 hx hZ (y := (⟨"com/example/gibbon/gibbon/analysis/BalanceEquationsEveryStateIsLeftPinLaw", "part", "(III)J"⟩ : MethodName)) hown (hw _ (List.mem_of_getElem? (i := 29) rfl)) (hw _ (List.mem_of_getElem? (i := 30) rfl)) (hw _ (List.mem_of_getElem? (i := 32) rfl)) (hw _ (List.mem_of_getElem? (i := 31) rfl)) (by decide) hk68 (argsL := [(.int s2), (.int (2 : Int32)), (.int x2)]) (rest := [(.long (l20 + l21))]) (W := 2) (rm_part l Z a0 hw s2 (2 : Int32) x2 T60.heap n0 Z0) rfl (by decide) (by decide) (by decide) (by decide) (g := (mkF m 200 #[.val (.int x0), .val (.int x1), .val (.int x2), .val (.int x3), .val (.int x4), .val (.int s0), .val (.int s1), .val (.int s2), .val (.ref a), .val (.long w0), .second, .val (.long w1), .second, .unset, .unset, .unset] [(.int x2), (.int (2 : Int32)), (.int s2), (.long (l20 + l21))])) rfl (by rw [hml]; rfl) (lenOf pd3 rfl) rfl (by show 2 * 0 + _ ≤ _; exact Nat.le_of_eq rfl) (hb hby at_200)
    obtain ⟨⟨l22, rfl, el22⟩, NL69, hk69⟩ := hQ69
    have N0 := Fr.app N0 NL69
    refine Goes.by (T' := T69) (g' := (mkF m 203 #[.val (.int x0), .val (.int x1), .val (.int x2), .val (.int x3), .val (.int x4), .val (.int s0), .val (.int s1), .val (.int s2), .val (.ref a), .val (.long w0), .second, .val (.long w1), .second, .unset, .unset, .unset] [(.long l22), (.long (l20 + l21))])) st69 ?_
    refine Goes.by (T' := T69) (g' := (mkF m 204 #[.val (.int x0), .val (.int x1), .val (.int x2), .val (.int x3), .val (.int x4), .val (.int s0), .val (.int s1), .val (.int s2), .val (.ref a), .val (.long w0), .second, .val (.long w1), .second, .unset, .unset, .unset] [(.long ((l20 + l21) + l22))])) (fun _ k => XS.ladd X69.here hx rfl (hb hby at_203) rfl k) ?_
    obtain ⟨w2, q_w2⟩ : ∃ zz : Int64, zz = ((l20 + l21) + l22) := ⟨_, rfl⟩
    rw [← q_w2]
    have ew2 : w2.toInt = own_pt s0 2 x0.toInt + own_pt s1 2 x1.toInt + own_pt s2 2 x2.toInt := by
      have t : (l20 + l21).toInt = own_pt s0 2 x0.toInt + own_pt s1 2 x1.toInt := by rw [own_ladd (by rw [el20, el21]; omega) (by rw [el20, el21]; omega), el20, el21]
      rw [q_w2, own_ladd (by rw [t, el22]; omega) (by rw [t, el22]; omega), t, el22]
    have z64 : (0 : Int64).toInt = 0 := by decide
    refine Goes.by (T' := T69) (g' := (mkF m 206 #[.val (.int x0), .val (.int x1), .val (.int x2), .val (.int x3), .val (.int x4), .val (.int s0), .val (.int s1), .val (.int s2), .val (.ref a), .val (.long w0), .second, .val (.long w1), .second, .val (.long w2), .second, .unset] [])) (fun _ k => XS.lstore X69.here hx rfl (hb hby at_204) rfl (l' := #[.val (.int x0), .val (.int x1), .val (.int x2), .val (.int x3), .val (.int x4), .val (.int s0), .val (.int s1), .val (.int s2), .val (.ref a), .val (.long w0), .second, .val (.long w1), .second, .val (.long w2), .second, .unset]) rfl k) ?_
    refine Goes.by (T' := T69) (g' := (mkF m 208 #[.val (.int x0), .val (.int x1), .val (.int x2), .val (.int x3), .val (.int x4), .val (.int s0), .val (.int s1), .val (.int s2), .val (.ref a), .val (.long w0), .second, .val (.long w1), .second, .val (.long w2), .second, .unset] [(.long w0)])) (fun _ k => XS.lload X69.here hx rfl (hb hby at_206) rfl k) ?_
    refine Goes.by (T' := T69) (g' := (mkF m 209 #[.val (.int x0), .val (.int x1), .val (.int x2), .val (.int x3), .val (.int x4), .val (.int s0), .val (.int s1), .val (.int s2), .val (.ref a), .val (.long w0), .second, .val (.long w1), .second, .val (.long w2), .second, .unset] [(.long (0 : Int64)), (.long w0)])) (fun _ k => XS.lconst X69.here hx rfl (hb hby at_208)  k) ?_
    by_cases hp0 : (0 : Int64).toInt < w0.toInt
    · refine Goes.by (T' := T69) (g' := (mkF m 210 #[.val (.int x0), .val (.int x1), .val (.int x2), .val (.int x3), .val (.int x4), .val (.int s0), .val (.int s1), .val (.int s2), .val (.ref a), .val (.long w0), .second, .val (.long w1), .second, .val (.long w2), .second, .unset] [(.int (1 : Int32))])) (fun _ k => XS.lcmpS X69.here hx rfl (hb hby at_209) rfl (cmpL_gtI hp0) k) ?_
      refine Goes.by (T' := T69) (g' := (mkF m 213 #[.val (.int x0), .val (.int x1), .val (.int x2), .val (.int x3), .val (.int x4), .val (.int s0), .val (.int s1), .val (.int s2), .val (.ref a), .val (.long w0), .second, .val (.long w1), .second, .val (.long w2), .second, .unset] [])) (fun _ k => XS.ifNo X69.here hx rfl (hb hby at_210) rfl (by decide) k) ?_
      refine Goes.by (T' := T69) (g' := (mkF m 215 #[.val (.int x0), .val (.int x1), .val (.int x2), .val (.int x3), .val (.int x4), .val (.int s0), .val (.int s1), .val (.int s2), .val (.ref a), .val (.long w0), .second, .val (.long w1), .second, .val (.long w2), .second, .unset] [(.long w1)])) (fun _ k => XS.lload X69.here hx rfl (hb hby at_213) rfl k) ?_
      refine Goes.by (T' := T69) (g' := (mkF m 216 #[.val (.int x0), .val (.int x1), .val (.int x2), .val (.int x3), .val (.int x4), .val (.int s0), .val (.int s1), .val (.int s2), .val (.ref a), .val (.long w0), .second, .val (.long w1), .second, .val (.long w2), .second, .unset] [(.long (0 : Int64)), (.long w1)])) (fun _ k => XS.lconst X69.here hx rfl (hb hby at_215)  k) ?_
      by_cases hp1 : (0 : Int64).toInt < w1.toInt
      · refine Goes.by (T' := T69) (g' := (mkF m 217 #[.val (.int x0), .val (.int x1), .val (.int x2), .val (.int x3), .val (.int x4), .val (.int s0), .val (.int s1), .val (.int s2), .val (.ref a), .val (.long w0), .second, .val (.long w1), .second, .val (.long w2), .second, .unset] [(.int (1 : Int32))])) (fun _ k => XS.lcmpS X69.here hx rfl (hb hby at_216) rfl (cmpL_gtI hp1) k) ?_
        refine Goes.by (T' := T69) (g' := (mkF m 220 #[.val (.int x0), .val (.int x1), .val (.int x2), .val (.int x3), .val (.int x4), .val (.int s0), .val (.int s1), .val (.int s2), .val (.ref a), .val (.long w0), .second, .val (.long w1), .second, .val (.long w2), .second, .unset] [])) (fun _ k => XS.ifNo X69.here hx rfl (hb hby at_217) rfl (by decide) k) ?_
        refine Goes.by (T' := T69) (g' := (mkF m 222 #[.val (.int x0), .val (.int x1), .val (.int x2), .val (.int x3), .val (.int x4), .val (.int s0), .val (.int s1), .val (.int s2), .val (.ref a), .val (.long w0), .second, .val (.long w1), .second, .val (.long w2), .second, .unset] [(.long w2)])) (fun _ k => XS.lload X69.here hx rfl (hb hby at_220) rfl k) ?_
        refine Goes.by (T' := T69) (g' := (mkF m 223 #[.val (.int x0), .val (.int x1), .val (.int x2), .val (.int x3), .val (.int x4), .val (.int s0), .val (.int s1), .val (.int s2), .val (.ref a), .val (.long w0), .second, .val (.long w1), .second, .val (.long w2), .second, .unset] [(.long (0 : Int64)), (.long w2)])) (fun _ k => XS.lconst X69.here hx rfl (hb hby at_222)  k) ?_
        by_cases hp2 : (0 : Int64).toInt < w2.toInt
        · refine Goes.by (T' := T69) (g' := (mkF m 224 #[.val (.int x0), .val (.int x1), .val (.int x2), .val (.int x3), .val (.int x4), .val (.int s0), .val (.int s1), .val (.int s2), .val (.ref a), .val (.long w0), .second, .val (.long w1), .second, .val (.long w2), .second, .unset] [(.int (1 : Int32))])) (fun _ k => XS.lcmpS X69.here hx rfl (hb hby at_223) rfl (cmpL_gtI hp2) k) ?_
          refine Goes.by (T' := T69) (g' := (mkF m 227 #[.val (.int x0), .val (.int x1), .val (.int x2), .val (.int x3), .val (.int x4), .val (.int s0), .val (.int s1), .val (.int s2), .val (.ref a), .val (.long w0), .second, .val (.long w1), .second, .val (.long w2), .second, .unset] [])) (fun _ k => XS.ifNo X69.here hx rfl (hb hby at_224) rfl (by decide) k) ?_
          refine Goes.by (T' := T69) (g' := (mkF m 228 #[.val (.int x0), .val (.int x1), .val (.int x2), .val (.int x3), .val (.int x4), .val (.int s0), .val (.int s1), .val (.int s2), .val (.ref a), .val (.long w0), .second, .val (.long w1), .second, .val (.long w2), .second, .unset] [(.int (1 : Int32))])) (fun _ k => XS.iconst X69.here hx rfl (hb hby at_227)  k) ?_
          refine Goes.by (T' := T69) (g' := (mkF m 232 #[.val (.int x0), .val (.int x1), .val (.int x2), .val (.int x3), .val (.int x4), .val (.int s0), .val (.int s1), .val (.int s2), .val (.ref a), .val (.long w0), .second, .val (.long w1), .second, .val (.long w2), .second, .unset] [(.int (1 : Int32))])) (fun _ k => XS.goto X69.here hx rfl (pc0 := 228) (pc' := 232) rfl (hb hby at_228) (by decide) (by decide) k) ?_
          refine Goes.by (T' := T69) (g' := (mkF m 234 #[.val (.int x0), .val (.int x1), .val (.int x2), .val (.int x3), .val (.int x4), .val (.int s0), .val (.int s1), .val (.int s2), .val (.ref a), .val (.long w0), .second, .val (.long w1), .second, .val (.long w2), .second, .val (.int (1 : Int32))] [])) (fun _ k => XS.istore X69.here hx rfl (hb hby at_232) rfl (l' := #[.val (.int x0), .val (.int x1), .val (.int x2), .val (.int x3), .val (.int x4), .val (.int s0), .val (.int s1), .val (.int s2), .val (.ref a), .val (.long w0), .second, .val (.long w1), .second, .val (.long w2), .second, .val (.int (1 : Int32))]) rfl k) ?_
          refine Goes.by (T' := T69) (g' := (mkF m 236 #[.val (.int x0), .val (.int x1), .val (.int x2), .val (.int x3), .val (.int x4), .val (.int s0), .val (.int s1), .val (.int s2), .val (.ref a), .val (.long w0), .second, .val (.long w1), .second, .val (.long w2), .second, .val (.int (1 : Int32))] [(.ref a)])) (fun _ k => XS.aload X69.here hx rfl (hb hby at_234) rfl rfl k) ?_
          obtain ⟨v70, T70, L70, X70, hQ70, st70⟩ := callV X69 hx hZ (y := (⟨"com/example/gibbon/gibbon/analysis/BalanceEquations", "everyStateIsLeft", "()Z"⟩ : MethodName)) hown (hw _ (List.mem_of_getElem? (i := 19) rfl)) (hw _ (List.mem_of_getElem? (i := 20) rfl)) (hw _ (List.mem_of_getElem? (i := 22) rfl)) (hw _ (List.mem_of_getElem? (i := 21) rfl)) (hw _ (List.mem_of_getElem? (i := 23) rfl)) (hw _ (List.mem_of_getElem? (i := 2) rfl)) (by decide) hk69 E_a (argsL := []) (rest := []) (W := 0) (rm_ev3_3 l Z a0 hw a be g20 (((0 + own_pt s0 0 x0.toInt) + own_pt s1 0 x1.toInt) + own_pt s2 0 x2.toInt) g21 (((0 + own_pt s0 1 x0.toInt) + own_pt s1 1 x1.toInt) + own_pt s2 1 x2.toInt) g22 (((0 + own_pt s0 2 x0.toInt) + own_pt s1 2 x1.toInt) + own_pt s2 2 x2.toInt) T60.heap n0 Z0 F_exitRate_a V_be DG20 DG21 DG22 (by rw [ew0, z64] at hp0; omega) (by rw [ew1, z64] at hp1; omega) (by rw [ew2, z64] at hp2; omega)) rfl (by decide) (by decide) (by decide) (by decide) (g := (mkF m 236 #[.val (.int x0), .val (.int x1), .val (.int x2), .val (.int x3), .val (.int x4), .val (.int s0), .val (.int s1), .val (.int s2), .val (.ref a), .val (.long w0), .second, .val (.long w1), .second, .val (.long w2), .second, .val (.int (1 : Int32))] [(.ref a)])) rfl (by rw [hml]; rfl) (lenOf pd1 rfl) rfl (by show 2 * 0 + _ ≤ _; exact Nat.le_of_eq rfl) (hb hby at_236)
          obtain ⟨rfl, NL70, hk70⟩ := hQ70
          have N0 := Fr.app N0 NL70
          refine Goes.by (T' := T70) (g' := (mkF m 239 #[.val (.int x0), .val (.int x1), .val (.int x2), .val (.int x3), .val (.int x4), .val (.int s0), .val (.int s1), .val (.int s2), .val (.ref a), .val (.long w0), .second, .val (.long w1), .second, .val (.long w2), .second, .val (.int (1 : Int32))] [(.int (1 : Int32))])) st70 ?_
          refine Goes.by (T' := T70) (g' := (mkF m 241 #[.val (.int x0), .val (.int x1), .val (.int x2), .val (.int x3), .val (.int x4), .val (.int s0), .val (.int s1), .val (.int s2), .val (.ref a), .val (.long w0), .second, .val (.long w1), .second, .val (.long w2), .second, .val (.int (1 : Int32))] [(.int (1 : Int32)), (.int (1 : Int32))])) (fun _ k => XS.iload X70.here hx rfl (hb hby at_239) rfl k) ?_
          refine Goes.by (T' := T70) (g' := (mkF m 244 #[.val (.int x0), .val (.int x1), .val (.int x2), .val (.int x3), .val (.int x4), .val (.int s0), .val (.int s1), .val (.int s2), .val (.ref a), .val (.long w0), .second, .val (.long w1), .second, .val (.long w2), .second, .val (.int (1 : Int32))] [])) (fun _ k => XS.icmpNo X70.here hx rfl (hb hby at_241) rfl (by decide) k) ?_
          refine Goes.by (T' := T70) (g' := (mkF m 245 #[.val (.int x0), .val (.int x1), .val (.int x2), .val (.int x3), .val (.int x4), .val (.int s0), .val (.int s1), .val (.int s2), .val (.ref a), .val (.long w0), .second, .val (.long w1), .second, .val (.long w2), .second, .val (.int (1 : Int32))] [(.int (1 : Int32))])) (fun _ k => XS.iconst X70.here hx rfl (hb hby at_244)  k) ?_
          refine Goes.by (T' := T70) (g' := (mkF m 249 #[.val (.int x0), .val (.int x1), .val (.int x2), .val (.int x3), .val (.int x4), .val (.int s0), .val (.int s1), .val (.int s2), .val (.ref a), .val (.long w0), .second, .val (.long w1), .second, .val (.long w2), .second, .val (.int (1 : Int32))] [(.int (1 : Int32))])) (fun _ k => XS.goto X70.here hx rfl (pc0 := 245) (pc' := 249) rfl (hb hby at_245) (by decide) (by decide) k) ?_
          exact outZ X70 hx hlk hret (hb hby at_249) (by exact ⟨rfl, N0⟩) (by decide) (by decide)
        · obtain ⟨cv, hv, hn⟩ := cmpL_le hp2
          refine Goes.by (T' := T69) (g' := (mkF m 224 #[.val (.int x0), .val (.int x1), .val (.int x2), .val (.int x3), .val (.int x4), .val (.int s0), .val (.int s1), .val (.int s2), .val (.ref a), .val (.long w0), .second, .val (.long w1), .second, .val (.long w2), .second, .unset] [(.int cv)])) (fun _ k => XS.lcmpS X69.here hx rfl (hb hby at_223) rfl hv k) ?_
          refine Goes.by (T' := T69) (g' := (mkF m 231 #[.val (.int x0), .val (.int x1), .val (.int x2), .val (.int x3), .val (.int x4), .val (.int s0), .val (.int s1), .val (.int s2), .val (.ref a), .val (.long w0), .second, .val (.long w1), .second, .val (.long w2), .second, .unset] [])) (fun _ k => XS.ifYes X69.here hx rfl (pc0 := 224) (pc' := 231) rfl (hb hby at_224) rfl ((if0 _ _).trans (flt hn).2.2.2) (by decide) (by decide) k) ?_
          refine Goes.by (T' := T69) (g' := (mkF m 232 #[.val (.int x0), .val (.int x1), .val (.int x2), .val (.int x3), .val (.int x4), .val (.int s0), .val (.int s1), .val (.int s2), .val (.ref a), .val (.long w0), .second, .val (.long w1), .second, .val (.long w2), .second, .unset] [(.int (0 : Int32))])) (fun _ k => XS.iconst X69.here hx rfl (hb hby at_231)  k) ?_
          refine Goes.by (T' := T69) (g' := (mkF m 234 #[.val (.int x0), .val (.int x1), .val (.int x2), .val (.int x3), .val (.int x4), .val (.int s0), .val (.int s1), .val (.int s2), .val (.ref a), .val (.long w0), .second, .val (.long w1), .second, .val (.long w2), .second, .val (.int (0 : Int32))] [])) (fun _ k => XS.istore X69.here hx rfl (hb hby at_232) rfl (l' := #[.val (.int x0), .val (.int x1), .val (.int x2), .val (.int x3), .val (.int x4), .val (.int s0), .val (.int s1), .val (.int s2), .val (.ref a), .val (.long w0), .second, .val (.long w1), .second, .val (.long w2), .second, .val (.int (0 : Int32))]) rfl k) ?_
          refine Goes.by (T' := T69) (g' := (mkF m 236 #[.val (.int x0), .val (.int x1), .val (.int x2), .val (.int x3), .val (.int x4), .val (.int s0), .val (.int s1), .val (.int s2), .val (.ref a), .val (.long w0), .second, .val (.long w1), .second, .val (.long w2), .second, .val (.int (0 : Int32))] [(.ref a)])) (fun _ k => XS.aload X69.here hx rfl (hb hby at_234) rfl rfl k) ?_
          obtain ⟨v71, T71, L71, X71, hQ71, st71⟩ := callV X69 hx hZ (y := (⟨"com/example/gibbon/gibbon/analysis/BalanceEquations", "everyStateIsLeft", "()Z"⟩ : MethodName)) hown (hw _ (List.mem_of_getElem? (i := 19) rfl)) (hw _ (List.mem_of_getElem? (i := 20) rfl)) (hw _ (List.mem_of_getElem? (i := 22) rfl)) (hw _ (List.mem_of_getElem? (i := 21) rfl)) (hw _ (List.mem_of_getElem? (i := 23) rfl)) (hw _ (List.mem_of_getElem? (i := 2) rfl)) (by decide) hk69 E_a (argsL := []) (rest := []) (W := 0) (rm_ev3_2 l Z a0 hw a be g20 (((0 + own_pt s0 0 x0.toInt) + own_pt s1 0 x1.toInt) + own_pt s2 0 x2.toInt) g21 (((0 + own_pt s0 1 x0.toInt) + own_pt s1 1 x1.toInt) + own_pt s2 1 x2.toInt) g22 (((0 + own_pt s0 2 x0.toInt) + own_pt s1 2 x1.toInt) + own_pt s2 2 x2.toInt) T60.heap n0 Z0 F_exitRate_a V_be DG20 DG21 DG22 (by rw [ew0, z64] at hp0; omega) (by rw [ew1, z64] at hp1; omega) (by rw [ew2, z64] at hp2; omega)) rfl (by decide) (by decide) (by decide) (by decide) (g := (mkF m 236 #[.val (.int x0), .val (.int x1), .val (.int x2), .val (.int x3), .val (.int x4), .val (.int s0), .val (.int s1), .val (.int s2), .val (.ref a), .val (.long w0), .second, .val (.long w1), .second, .val (.long w2), .second, .val (.int (0 : Int32))] [(.ref a)])) rfl (by rw [hml]; rfl) (lenOf pd1 rfl) rfl (by show 2 * 0 + _ ≤ _; exact Nat.le_of_eq rfl) (hb hby at_236)
          obtain ⟨rfl, NL71, hk71⟩ := hQ71
          have N0 := Fr.app N0 NL71
          refine Goes.by (T' := T71) (g' := (mkF m 239 #[.val (.int x0), .val (.int x1), .val (.int x2), .val (.int x3), .val (.int x4), .val (.int s0), .val (.int s1), .val (.int s2), .val (.ref a), .val (.long w0), .second, .val (.long w1), .second, .val (.long w2), .second, .val (.int (0 : Int32))] [(.int (0 : Int32))])) st71 ?_
          refine Goes.by (T' := T71) (g' := (mkF m 241 #[.val (.int x0), .val (.int x1), .val (.int x2), .val (.int x3), .val (.int x4), .val (.int s0), .val (.int s1), .val (.int s2), .val (.ref a), .val (.long w0), .second, .val (.long w1), .second, .val (.long w2), .second, .val (.int (0 : Int32))] [(.int (0 : Int32)), (.int (0 : Int32))])) (fun _ k => XS.iload X71.here hx rfl (hb hby at_239) rfl k) ?_
          refine Goes.by (T' := T71) (g' := (mkF m 244 #[.val (.int x0), .val (.int x1), .val (.int x2), .val (.int x3), .val (.int x4), .val (.int s0), .val (.int s1), .val (.int s2), .val (.ref a), .val (.long w0), .second, .val (.long w1), .second, .val (.long w2), .second, .val (.int (0 : Int32))] [])) (fun _ k => XS.icmpNo X71.here hx rfl (hb hby at_241) rfl (by decide) k) ?_
          refine Goes.by (T' := T71) (g' := (mkF m 245 #[.val (.int x0), .val (.int x1), .val (.int x2), .val (.int x3), .val (.int x4), .val (.int s0), .val (.int s1), .val (.int s2), .val (.ref a), .val (.long w0), .second, .val (.long w1), .second, .val (.long w2), .second, .val (.int (0 : Int32))] [(.int (1 : Int32))])) (fun _ k => XS.iconst X71.here hx rfl (hb hby at_244)  k) ?_
          refine Goes.by (T' := T71) (g' := (mkF m 249 #[.val (.int x0), .val (.int x1), .val (.int x2), .val (.int x3), .val (.int x4), .val (.int s0), .val (.int s1), .val (.int s2), .val (.ref a), .val (.long w0), .second, .val (.long w1), .second, .val (.long w2), .second, .val (.int (0 : Int32))] [(.int (1 : Int32))])) (fun _ k => XS.goto X71.here hx rfl (pc0 := 245) (pc' := 249) rfl (hb hby at_245) (by decide) (by decide) k) ?_
          exact outZ X71 hx hlk hret (hb hby at_249) (by exact ⟨rfl, N0⟩) (by decide) (by decide)
      · obtain ⟨cv, hv, hn⟩ := cmpL_le hp1
        refine Goes.by (T' := T69) (g' := (mkF m 217 #[.val (.int x0), .val (.int x1), .val (.int x2), .val (.int x3), .val (.int x4), .val (.int s0), .val (.int s1), .val (.int s2), .val (.ref a), .val (.long w0), .second, .val (.long w1), .second, .val (.long w2), .second, .unset] [(.int cv)])) (fun _ k => XS.lcmpS X69.here hx rfl (hb hby at_216) rfl hv k) ?_
        refine Goes.by (T' := T69) (g' := (mkF m 231 #[.val (.int x0), .val (.int x1), .val (.int x2), .val (.int x3), .val (.int x4), .val (.int s0), .val (.int s1), .val (.int s2), .val (.ref a), .val (.long w0), .second, .val (.long w1), .second, .val (.long w2), .second, .unset] [])) (fun _ k => XS.ifYes X69.here hx rfl (pc0 := 217) (pc' := 231) rfl (hb hby at_217) rfl ((if0 _ _).trans (flt hn).2.2.2) (by decide) (by decide) k) ?_
        refine Goes.by (T' := T69) (g' := (mkF m 232 #[.val (.int x0), .val (.int x1), .val (.int x2), .val (.int x3), .val (.int x4), .val (.int s0), .val (.int s1), .val (.int s2), .val (.ref a), .val (.long w0), .second, .val (.long w1), .second, .val (.long w2), .second, .unset] [(.int (0 : Int32))])) (fun _ k => XS.iconst X69.here hx rfl (hb hby at_231)  k) ?_
        refine Goes.by (T' := T69) (g' := (mkF m 234 #[.val (.int x0), .val (.int x1), .val (.int x2), .val (.int x3), .val (.int x4), .val (.int s0), .val (.int s1), .val (.int s2), .val (.ref a), .val (.long w0), .second, .val (.long w1), .second, .val (.long w2), .second, .val (.int (0 : Int32))] [])) (fun _ k => XS.istore X69.here hx rfl (hb hby at_232) rfl (l' := #[.val (.int x0), .val (.int x1), .val (.int x2), .val (.int x3), .val (.int x4), .val (.int s0), .val (.int s1), .val (.int s2), .val (.ref a), .val (.long w0), .second, .val (.long w1), .second, .val (.long w2), .second, .val (.int (0 : Int32))]) rfl k) ?_
        refine Goes.by (T' := T69) (g' := (mkF m 236 #[.val (.int x0), .val (.int x1), .val (.int x2), .val (.int x3), .val (.int x4), .val (.int s0), .val (.int s1), .val (.int s2), .val (.ref a), .val (.long w0), .second, .val (.long w1), .second, .val (.long w2), .second, .val (.int (0 : Int32))] [(.ref a)])) (fun _ k => XS.aload X69.here hx rfl (hb hby at_234) rfl rfl k) ?_
        obtain ⟨v72, T72, L72, X72, hQ72, st72⟩ := callV X69 hx hZ (y := (⟨"com/example/gibbon/gibbon/analysis/BalanceEquations", "everyStateIsLeft", "()Z"⟩ : MethodName)) hown (hw _ (List.mem_of_getElem? (i := 19) rfl)) (hw _ (List.mem_of_getElem? (i := 20) rfl)) (hw _ (List.mem_of_getElem? (i := 22) rfl)) (hw _ (List.mem_of_getElem? (i := 21) rfl)) (hw _ (List.mem_of_getElem? (i := 23) rfl)) (hw _ (List.mem_of_getElem? (i := 2) rfl)) (by decide) hk69 E_a (argsL := []) (rest := []) (W := 0) (rm_ev3_1 l Z a0 hw a be g20 (((0 + own_pt s0 0 x0.toInt) + own_pt s1 0 x1.toInt) + own_pt s2 0 x2.toInt) g21 (((0 + own_pt s0 1 x0.toInt) + own_pt s1 1 x1.toInt) + own_pt s2 1 x2.toInt) g22 (((0 + own_pt s0 2 x0.toInt) + own_pt s1 2 x1.toInt) + own_pt s2 2 x2.toInt) T60.heap n0 Z0 F_exitRate_a V_be DG20 DG21 DG22 (by rw [ew0, z64] at hp0; omega) (by rw [ew1, z64] at hp1; omega)) rfl (by decide) (by decide) (by decide) (by decide) (g := (mkF m 236 #[.val (.int x0), .val (.int x1), .val (.int x2), .val (.int x3), .val (.int x4), .val (.int s0), .val (.int s1), .val (.int s2), .val (.ref a), .val (.long w0), .second, .val (.long w1), .second, .val (.long w2), .second, .val (.int (0 : Int32))] [(.ref a)])) rfl (by rw [hml]; rfl) (lenOf pd1 rfl) rfl (by show 2 * 0 + _ ≤ _; exact Nat.le_of_eq rfl) (hb hby at_236)
        obtain ⟨rfl, NL72, hk72⟩ := hQ72
        have N0 := Fr.app N0 NL72
        refine Goes.by (T' := T72) (g' := (mkF m 239 #[.val (.int x0), .val (.int x1), .val (.int x2), .val (.int x3), .val (.int x4), .val (.int s0), .val (.int s1), .val (.int s2), .val (.ref a), .val (.long w0), .second, .val (.long w1), .second, .val (.long w2), .second, .val (.int (0 : Int32))] [(.int (0 : Int32))])) st72 ?_
        refine Goes.by (T' := T72) (g' := (mkF m 241 #[.val (.int x0), .val (.int x1), .val (.int x2), .val (.int x3), .val (.int x4), .val (.int s0), .val (.int s1), .val (.int s2), .val (.ref a), .val (.long w0), .second, .val (.long w1), .second, .val (.long w2), .second, .val (.int (0 : Int32))] [(.int (0 : Int32)), (.int (0 : Int32))])) (fun _ k => XS.iload X72.here hx rfl (hb hby at_239) rfl k) ?_
        refine Goes.by (T' := T72) (g' := (mkF m 244 #[.val (.int x0), .val (.int x1), .val (.int x2), .val (.int x3), .val (.int x4), .val (.int s0), .val (.int s1), .val (.int s2), .val (.ref a), .val (.long w0), .second, .val (.long w1), .second, .val (.long w2), .second, .val (.int (0 : Int32))] [])) (fun _ k => XS.icmpNo X72.here hx rfl (hb hby at_241) rfl (by decide) k) ?_
        refine Goes.by (T' := T72) (g' := (mkF m 245 #[.val (.int x0), .val (.int x1), .val (.int x2), .val (.int x3), .val (.int x4), .val (.int s0), .val (.int s1), .val (.int s2), .val (.ref a), .val (.long w0), .second, .val (.long w1), .second, .val (.long w2), .second, .val (.int (0 : Int32))] [(.int (1 : Int32))])) (fun _ k => XS.iconst X72.here hx rfl (hb hby at_244)  k) ?_
        refine Goes.by (T' := T72) (g' := (mkF m 249 #[.val (.int x0), .val (.int x1), .val (.int x2), .val (.int x3), .val (.int x4), .val (.int s0), .val (.int s1), .val (.int s2), .val (.ref a), .val (.long w0), .second, .val (.long w1), .second, .val (.long w2), .second, .val (.int (0 : Int32))] [(.int (1 : Int32))])) (fun _ k => XS.goto X72.here hx rfl (pc0 := 245) (pc' := 249) rfl (hb hby at_245) (by decide) (by decide) k) ?_
        exact outZ X72 hx hlk hret (hb hby at_249) (by exact ⟨rfl, N0⟩) (by decide) (by decide)
    · obtain ⟨cv, hv, hn⟩ := cmpL_le hp0
      refine Goes.by (T' := T69) (g' := (mkF m 210 #[.val (.int x0), .val (.int x1), .val (.int x2), .val (.int x3), .val (.int x4), .val (.int s0), .val (.int s1), .val (.int s2), .val (.ref a), .val (.long w0), .second, .val (.long w1), .second, .val (.long w2), .second, .unset] [(.int cv)])) (fun _ k => XS.lcmpS X69.here hx rfl (hb hby at_209) rfl hv k) ?_
      refine Goes.by (T' := T69) (g' := (mkF m 231 #[.val (.int x0), .val (.int x1), .val (.int x2), .val (.int x3), .val (.int x4), .val (.int s0), .val (.int s1), .val (.int s2), .val (.ref a), .val (.long w0), .second, .val (.long w1), .second, .val (.long w2), .second, .unset] [])) (fun _ k => XS.ifYes X69.here hx rfl (pc0 := 210) (pc' := 231) rfl (hb hby at_210) rfl ((if0 _ _).trans (flt hn).2.2.2) (by decide) (by decide) k) ?_
      refine Goes.by (T' := T69) (g' := (mkF m 232 #[.val (.int x0), .val (.int x1), .val (.int x2), .val (.int x3), .val (.int x4), .val (.int s0), .val (.int s1), .val (.int s2), .val (.ref a), .val (.long w0), .second, .val (.long w1), .second, .val (.long w2), .second, .unset] [(.int (0 : Int32))])) (fun _ k => XS.iconst X69.here hx rfl (hb hby at_231)  k) ?_
      refine Goes.by (T' := T69) (g' := (mkF m 234 #[.val (.int x0), .val (.int x1), .val (.int x2), .val (.int x3), .val (.int x4), .val (.int s0), .val (.int s1), .val (.int s2), .val (.ref a), .val (.long w0), .second, .val (.long w1), .second, .val (.long w2), .second, .val (.int (0 : Int32))] [])) (fun _ k => XS.istore X69.here hx rfl (hb hby at_232) rfl (l' := #[.val (.int x0), .val (.int x1), .val (.int x2), .val (.int x3), .val (.int x4), .val (.int s0), .val (.int s1), .val (.int s2), .val (.ref a), .val (.long w0), .second, .val (.long w1), .second, .val (.long w2), .second, .val (.int (0 : Int32))]) rfl k) ?_
      refine Goes.by (T' := T69) (g' := (mkF m 236 #[.val (.int x0), .val (.int x1), .val (.int x2), .val (.int x3), .val (.int x4), .val (.int s0), .val (.int s1), .val (.int s2), .val (.ref a), .val (.long w0), .second, .val (.long w1), .second, .val (.long w2), .second, .val (.int (0 : Int32))] [(.ref a)])) (fun _ k => XS.aload X69.here hx rfl (hb hby at_234) rfl rfl k) ?_
      obtain ⟨v73, T73, L73, X73, hQ73, st73⟩ := callV X69 hx hZ (y := (⟨"com/example/gibbon/gibbon/analysis/BalanceEquations", "everyStateIsLeft", "()Z"⟩ : MethodName)) hown (hw _ (List.mem_of_getElem? (i := 19) rfl)) (hw _ (List.mem_of_getElem? (i := 20) rfl)) (hw _ (List.mem_of_getElem? (i := 22) rfl)) (hw _ (List.mem_of_getElem? (i := 21) rfl)) (hw _ (List.mem_of_getElem? (i := 23) rfl)) (hw _ (List.mem_of_getElem? (i := 2) rfl)) (by decide) hk69 E_a (argsL := []) (rest := []) (W := 0) (rm_ev3_0 l Z a0 hw a be g20 (((0 + own_pt s0 0 x0.toInt) + own_pt s1 0 x1.toInt) + own_pt s2 0 x2.toInt) g21 (((0 + own_pt s0 1 x0.toInt) + own_pt s1 1 x1.toInt) + own_pt s2 1 x2.toInt) g22 (((0 + own_pt s0 2 x0.toInt) + own_pt s1 2 x1.toInt) + own_pt s2 2 x2.toInt) T60.heap n0 Z0 F_exitRate_a V_be DG20 DG21 DG22  (by rw [ew0, z64] at hp0; omega)) rfl (by decide) (by decide) (by decide) (by decide) (g := (mkF m 236 #[.val (.int x0), .val (.int x1), .val (.int x2), .val (.int x3), .val (.int x4), .val (.int s0), .val (.int s1), .val (.int s2), .val (.ref a), .val (.long w0), .second, .val (.long w1), .second, .val (.long w2), .second, .val (.int (0 : Int32))] [(.ref a)])) rfl (by rw [hml]; rfl) (lenOf pd1 rfl) rfl (by show 2 * 0 + _ ≤ _; exact Nat.le_of_eq rfl) (hb hby at_236)
      obtain ⟨rfl, NL73, hk73⟩ := hQ73
      have N0 := Fr.app N0 NL73
      refine Goes.by (T' := T73) (g' := (mkF m 239 #[.val (.int x0), .val (.int x1), .val (.int x2), .val (.int x3), .val (.int x4), .val (.int s0), .val (.int s1), .val (.int s2), .val (.ref a), .val (.long w0), .second, .val (.long w1), .second, .val (.long w2), .second, .val (.int (0 : Int32))] [(.int (0 : Int32))])) st73 ?_
      refine Goes.by (T' := T73) (g' := (mkF m 241 #[.val (.int x0), .val (.int x1), .val (.int x2), .val (.int x3), .val (.int x4), .val (.int s0), .val (.int s1), .val (.int s2), .val (.ref a), .val (.long w0), .second, .val (.long w1), .second, .val (.long w2), .second, .val (.int (0 : Int32))] [(.int (0 : Int32)), (.int (0 : Int32))])) (fun _ k => XS.iload X73.here hx rfl (hb hby at_239) rfl k) ?_
      refine Goes.by (T' := T73) (g' := (mkF m 244 #[.val (.int x0), .val (.int x1), .val (.int x2), .val (.int x3), .val (.int x4), .val (.int s0), .val (.int s1), .val (.int s2), .val (.ref a), .val (.long w0), .second, .val (.long w1), .second, .val (.long w2), .second, .val (.int (0 : Int32))] [])) (fun _ k => XS.icmpNo X73.here hx rfl (hb hby at_241) rfl (by decide) k) ?_
      refine Goes.by (T' := T73) (g' := (mkF m 245 #[.val (.int x0), .val (.int x1), .val (.int x2), .val (.int x3), .val (.int x4), .val (.int s0), .val (.int s1), .val (.int s2), .val (.ref a), .val (.long w0), .second, .val (.long w1), .second, .val (.long w2), .second, .val (.int (0 : Int32))] [(.int (1 : Int32))])) (fun _ k => XS.iconst X73.here hx rfl (hb hby at_244)  k) ?_
      refine Goes.by (T' := T73) (g' := (mkF m 249 #[.val (.int x0), .val (.int x1), .val (.int x2), .val (.int x3), .val (.int x4), .val (.int s0), .val (.int s1), .val (.int s2), .val (.ref a), .val (.long w0), .second, .val (.long w1), .second, .val (.long w2), .second, .val (.int (0 : Int32))] [(.int (1 : Int32))])) (fun _ k => XS.goto X73.here hx rfl (pc0 := 245) (pc' := 249) rfl (hb hby at_245) (by decide) (by decide) k) ?_
      exact outZ X73 hx hlk hret (hb hby at_249) (by exact ⟨rfl, N0⟩) (by decide) (by decide)
set_option maxRecDepth 65536 in
set_option maxHeartbeats 40000000 in
theorem comes_1 {Post : Tables → Env → Array Value → State → Outcome → State → Prop} (hpost : ∀ tb e args s v u, (limb_1_1.after args s (.returned v) u = true ∧ limb_1_2.after args s (.returned v) u = true ∧ True) → FrameEnd s (.returned v) u (Jvm.fieldLocs frame_1_writes args s ++ Jvm.arrayLocs frame_1_arrays args s ++ Jvm.staticLocs frame_1_statics s) 24 128 → Post tb e args s (.returned v) u) :
    ArmFor flags0 classFile x code maxLocals ret World_1 tables_1 room_1 Calls_1 rest_1 Pre_1 Post := by
  intro l hfl _ _ p e ha hc hk s m args below hf hA hF happ hP
  obtain ⟨hcalls, hrest, hpre⟩ := hP
  obtain ⟨-, -, -, hnamed, -, -, -, hat⟩ := (Spec.applies_iff hf).mp happ
  obtain ⟨hg, hn⟩ := and_e (Cond.before_iff.mp (show (Jvm.Cond.and given_1 narrow_1).before args s = true from hpre))
  obtain ⟨g0, t0⟩ := and_e hg
  obtain ⟨g1, t1⟩ := and_e t0
  obtain ⟨g2, t2⟩ := and_e t1
  obtain ⟨g3, t3⟩ := and_e t2
  obtain ⟨g4, t4⟩ := and_e t3
  obtain ⟨w0, w1, w2, w3, w4, rfl⟩ : ∃ w0 w1 w2 w3 w4 : Value, args = #[w0, w1, w2, w3, w4] := by
    have hs : args.size = 5 := by simpa [Cond.value, given_1] using g0
    obtain ⟨L⟩ := args
    match L, hs with
    | [w0, w1, w2, w3, w4], _ => exact ⟨w0, w1, w2, w3, w4, rfl⟩
  have hw := fun d (hd : d ∈ tables_1) => atoms_spec (ws := Jvm.Cond.code x code maxLocals ret :: tables_1) hat d (List.mem_cons_of_mem _ hd)
  obtain ⟨i0, e0⟩ := is_v g1
  obtain rfl : w0 = (.int i0) := Option.some.inj e0
  obtain ⟨i1, e1⟩ := is_v g2
  obtain rfl : w1 = (.int i1) := Option.some.inj e1
  obtain ⟨i2, e2⟩ := is_v g3
  obtain rfl : w2 = (.int i2) := Option.some.inj e2
  obtain ⟨i3, e3⟩ := is_v g4
  obtain rfl : w3 = (.int i3) := Option.some.inj e3
  obtain ⟨i4, e4⟩ := is_v t4
  obtain rfl : w4 = (.int i4) := Option.some.inj e4
  obtain ⟨n, o, h1, h2, h3, _, L, rfl, ⟨rfl, N⟩, hq⟩ := rm_law l s _ hw i0 i1 i2 i3 i4 s.heap s.heap.size (Nat.le_refl _)  p e ha hc hk s m _ below hf ((Spec.applies_iff_loose hf).mp happ).1 ⟨rfl, State.Warmed39.refl s, rfl⟩ trivial
  refine ⟨n, _, h1, h2, h3, hpost _ _ _ _ _ _ ⟨Cond.after_iff.mpr rfl, Cond.after_iff.mpr (eq_i res_at (Term.int_eval (1)) rfl), trivial⟩ ⟨hq.1, hq.2.1, (hq.2.2.sift fun y hy => Or.inr (N y hy)).mono (by decide) (by decide)⟩⟩
theorem main_1_1 : Claimed_1_1 := comes_1 fun _ _ _ _ _ _ h hF => ⟨h.1, hF⟩
theorem main_1_2 : Claimed_1_2 := comes_1 fun _ _ _ _ _ _ h hF => ⟨h.2.1, hF⟩
end Jvm.Pilot.@@N@@
namespace Jvm.Pilot.@@N@@
open Jvm Jvm.ClassFile Sem Op Lib Jvm.Free Jvm.Stand Jvm.Pilot.@@N@@.Jvm.D
/-! MADE BY PROGRAM (witnessworld.py) out of the Statement's table words and the real class files: 9 classes; the members and pool entries that the words name. The judged class is class 1, her method 1. -/
namespace start1
open Jvm.ClassFile
def u (s : String) : CpInfo := .utf8 (stringToUtf16 s)
/-- a pool by its gaps: so many unusable entries, then the entry; so many at the end -/
def gap : Nat → List CpInfo → List CpInfo
  | 0, r => r
  | n + 1, r => .unusable :: gap n r
def poolList (es : List (Nat × CpInfo)) (last : Nat) : List CpInfo := es.foldr (fun e r => gap e.1 (e.2 :: r)) (gap last [])
def pool (es : List (Nat × CpInfo)) (last : Nat) : Array CpInfo := ⟨poolList es last⟩
def fileOf (pool : Array CpInfo) (this : Nat) (attrs : Array Attribute := #[]) (ms : Array MethodInfo := #[]) (fl : Nat := 33) (sup : Nat := 0) (ifs : Array Nat := #[]) (fds : Array FieldInfo := #[]) : ClassFile where
  minorVersion := 0
  majorVersion := 65
  constantPool := pool
  accessFlags := fl
  thisClass := this
  superClass := sup
  interfaces := ifs
  fields := fds
  methods := ms
  attributes := attrs
def plain (name : String) (sup : Option ClassId) : Class where
  name := name
  kind := .ordinary
  loader := none
  accessFlags := 33
  super := sup
  interfaces := #[]
  cf := none
  fields := #[]
  methods := #[]
  instanceTypes := #[]
  staticTypes := #[]
  resolved := #[]
  callSites := []
  init := .initialized
  statics := none
  mirror := none

def pool0 : Array CpInfo := pool [(5, u "<init>"), (0, u "()V"), (1, .class_ 10), (1, u "java/lang/Object")] 113

def k0c0 : Code := { maxStack := 0, maxLocals := 1, code := object_method_1_code, exceptionTable := #[], attributes := #[] }
def k0m0 : Method := { name := "<init>", desc := "()V", sig := { parameters := [], returnType := none }, accessFlags := 1, code := some k0c0 }
/-- java/lang/Object -/
def k0 : Class := { plain "java/lang/Object" none with
  accessFlags := 33
  interfaces := #[]
  cf := some (fileOf pool0 8 #[] #[{ accessFlags := 1, nameIndex := 5, descriptorIndex := 6, attributes := #[] }] 33 0 #[] #[])
  fields := #[]
  methods := #[k0m0]
  instanceTypes := #[]
  staticTypes := #[]
  resolved := Array.replicate 124 none
  statics := none }

def pool1 : Array CpInfo := pool [(2, .class_ 4), (1, u "java/lang/Object"), (0, u "<init>"), (0, u "()V"), (0, .class_ 8), (0, u "com/example/gibbon/gibbon/analysis/BalanceEquations"), (0, .methodref 7 10), (0, .nameAndType 5 11), (0, u "([I[I)V"), (0, .methodref 7 13), (0, .nameAndType 14 15), (0, u "everyStateIsLeft"), (0, u "()Z"), (0, .methodref 7 17), (0, .nameAndType 18 19), (0, u "addFlow"), (0, u "(ID)V"), (0, .methodref 21 22), (0, .class_ 23), (0, .nameAndType 24 25), (0, u "com/example/gibbon/gibbon/analysis/BalanceEquationsEveryStateIsLeftPinLaw"), (0, u "part"), (0, u "(III)J"), (2, u "law"), (0, u "(IIIII)Z")] 3

def k1m0 : Method := { name := "<init>", desc := "()V", sig := { parameters := [], returnType := none }, accessFlags := 1, code := none }
def k1c1 : Code := { maxStack := 7, maxLocals := 16, code := code, exceptionTable := #[], attributes := #[] }
def k1m1 : Method := { name := "law", desc := "(IIIII)Z", sig := { parameters := [.int, .int, .int, .int, .int], returnType := some .boolean }, accessFlags := 9, code := some k1c1 }
def k1c2 : Code := { maxStack := 2, maxLocals := 3, code := method_3_code, exceptionTable := #[], attributes := #[] }
def k1m2 : Method := { name := "part", desc := "(III)J", sig := { parameters := [.int, .int, .int], returnType := some .long }, accessFlags := 10, code := some k1c2 }
/-- com/example/gibbon/gibbon/analysis/BalanceEquationsEveryStateIsLeftPinLaw -/
def k1 : Class := { plain "com/example/gibbon/gibbon/analysis/BalanceEquationsEveryStateIsLeftPinLaw" (some 0) with
  accessFlags := 49
  interfaces := #[]
  cf := some (fileOf pool1 21 #[] #[{ accessFlags := 1, nameIndex := 5, descriptorIndex := 6, attributes := #[] }, { accessFlags := 9, nameIndex := 28, descriptorIndex := 29, attributes := #[] }, { accessFlags := 10, nameIndex := 24, descriptorIndex := 25, attributes := #[] }] 49 2 #[] #[])
  fields := #[]
  methods := #[k1m0, k1m1, k1m2]
  instanceTypes := #[]
  staticTypes := #[]
  resolved := Array.replicate 33 none
  statics := none }

def pool2 : Array CpInfo := pool [(1, .methodref 2 3), (0, .class_ 4), (0, .nameAndType 5 6), (0, u "java/lang/Object"), (0, u "<init>"), (0, u "()V"), (9, .fieldref 17 18), (0, .class_ 19), (0, .nameAndType 20 21), (0, u "com/example/gibbon/gibbon/analysis/BalanceEquations"), (0, u "start"), (0, u "[I"), (0, .fieldref 17 23), (0, .nameAndType 24 21), (0, u "source"), (0, .fieldref 17 26), (0, .nameAndType 27 28), (0, u "rate"), (0, u "[D"), (0, .fieldref 17 30), (0, .nameAndType 31 28), (0, u "exitRate"), (48, u "([I[I)V"), (2, u "addFlow"), (0, u "(ID)V"), (0, u "everyStateIsLeft"), (0, u "()Z")] 20

def k2c0 : Code := { maxStack := 3, maxLocals := 3, code := prog_6_method_2_code, exceptionTable := #[], attributes := #[] }
def k2m0 : Method := { name := "<init>", desc := "([I[I)V", sig := { parameters := [(.array .int), (.array .int)], returnType := none }, accessFlags := 0, code := some k2c0 }
def k2c1 : Code := { maxStack := 6, maxLocals := 4, code := prog_6_method_9_code, exceptionTable := #[], attributes := #[] }
def k2m1 : Method := { name := "addFlow", desc := "(ID)V", sig := { parameters := [.int, .double], returnType := none }, accessFlags := 0, code := some k2c1 }
def k2c2 : Code := { maxStack := 4, maxLocals := 6, code := prog_6_method_10_code, exceptionTable := #[], attributes := #[] }
def k2m2 : Method := { name := "everyStateIsLeft", desc := "()Z", sig := { parameters := [], returnType := some .boolean }, accessFlags := 0, code := some k2c2 }
/-- com/example/gibbon/gibbon/analysis/BalanceEquations -/
def k2 : Class := { plain "com/example/gibbon/gibbon/analysis/BalanceEquations" (some 0) with
  accessFlags := 48
  interfaces := #[]
  cf := some (fileOf pool2 17 #[] #[{ accessFlags := 0, nameIndex := 5, descriptorIndex := 80, attributes := #[] }, { accessFlags := 0, nameIndex := 83, descriptorIndex := 84, attributes := #[] }, { accessFlags := 0, nameIndex := 85, descriptorIndex := 86, attributes := #[] }] 48 2 #[] #[{ accessFlags := 18, nameIndex := 20, descriptorIndex := 21, attributes := #[] }, { accessFlags := 18, nameIndex := 24, descriptorIndex := 21, attributes := #[] }, { accessFlags := 18, nameIndex := 27, descriptorIndex := 28, attributes := #[] }, { accessFlags := 18, nameIndex := 31, descriptorIndex := 28, attributes := #[] }])
  fields := #[{ name := "start", type := (.array .int), accessFlags := 18, slot := 0, constantValue := 0 }, { name := "source", type := (.array .int), accessFlags := 18, slot := 1, constantValue := 0 }, { name := "rate", type := (.array .double), accessFlags := 18, slot := 2, constantValue := 0 }, { name := "exitRate", type := (.array .double), accessFlags := 18, slot := 3, constantValue := 0 }]
  methods := #[k2m0, k2m1, k2m2]
  instanceTypes := #[(.array .int), (.array .int), (.array .double), (.array .double)]
  staticTypes := #[]
  resolved := Array.replicate 107 none
  statics := none }

def pool3 : Array CpInfo := pool [(1, u "java/lang/Cloneable"), (0, .class_ 1), (0, u "java/lang/Object"), (0, .class_ 3)] 3

/-- java/lang/Cloneable -/
def k3 : Class := { plain "java/lang/Cloneable" (some 0) with
  accessFlags := 1537
  interfaces := #[]
  cf := some (fileOf pool3 2 #[] #[] 1537 4 #[] #[])
  fields := #[]
  methods := #[]
  instanceTypes := #[]
  staticTypes := #[]
  resolved := Array.replicate 8 none
  statics := none }

def pool4 : Array CpInfo := pool [(1, u "java/io/Serializable"), (0, .class_ 1), (0, u "java/lang/Object"), (0, .class_ 3)] 3

/-- java/io/Serializable -/
def k4 : Class := { plain "java/io/Serializable" (some 0) with
  accessFlags := 1537
  interfaces := #[]
  cf := some (fileOf pool4 2 #[] #[] 1537 4 #[] #[])
  fields := #[]
  methods := #[]
  instanceTypes := #[]
  staticTypes := #[]
  resolved := Array.replicate 8 none
  statics := none }

/-- the primitive byte -/
def k5 : Class := { plain "byte" none with kind := .primitive 'B', accessFlags := 0x411 }
/-- [B -/
def k6 : Class := { plain "[B" (some 0) with kind := .array 5 .byte, interfaces := #[3, 4], accessFlags := 1041 }

/-- the primitive int -/
def k7 : Class := { plain "int" none with kind := .primitive 'I', accessFlags := 0x411 }
/-- [I -/
def k8 : Class := { plain "[I" (some 0) with kind := .array 7 .int, interfaces := #[3, 4], accessFlags := 1041 }

/-- the primitive double -/
def k9 : Class := { plain "double" none with kind := .primitive 'D', accessFlags := 0x411 }
/-- [D -/
def k10 : Class := { plain "[D" (some 0) with kind := .array 9 .double, interfaces := #[3, 4], accessFlags := 1041 }
def heap : Heap := #[]
def classes : Array Class := #[k0, k1, k2, k3, k4, k5, k6, k7, k8, k9, k10]
def interned : List (Array UInt16 × Addr) := []
def slotsUsed : Nat := 0
def theMethod : MethodId := ⟨1, 1⟩
def args0 : Array Value := #[.int 5, .int 5, .int 5, .int 5, .int 5]
def aboutOver (below : List Frame) : State where
  vm := { classes := classes, interned := interned.toArray }
  heap := heap
  slotsUsed := slotsUsed
  threads := #[{ frames := .invoking theMethod args0 :: below }]
def below0 : List Frame := [.native { method := ⟨0, 0⟩, args := #[] }]
def about1 : State := aboutOver below0
def p0 : Program := .bare "" "" ""
def e0 : Env := launch0.env 0 0 0
theorem w_frames : about1.frames = Frame.invoking theMethod args0 :: below0 := rfl
set_option maxRecDepth 65536 in
theorem w_args : argsFit about1.vm theMethod args0 = true := by decide +kernel
set_option maxRecDepth 65536 in
theorem w_heap : heapFits about1 = true := by decide +kernel
set_option maxRecDepth 65536 in
theorem w_runnable : about1.curStatus? = some .runnable := by decide +kernel
set_option maxRecDepth 65536 in
theorem w_alone : about1.alone = true := by decide +kernel
set_option maxRecDepth 65536 in
theorem w_named : about1.methodNamed? x = some theMethod := by decide +kernel
set_option maxRecDepth 65536 in
theorem w_hears : about1.hears theMethod below0 = true := by decide +kernel
set_option maxRecDepth 65536 in
theorem w_ripe : about1.ripe theMethod args0 below0 = true := by decide +kernel
theorem w_running : about1.status = .running := rfl
set_option maxRecDepth 65536 in
theorem w_room : about1.hasRoom e0.platform room_1 = true :=
  launch0.hasRoom_least _ room_1 (by decide +kernel) (by decide +kernel) (by decide +kernel) (by decide +kernel) (by decide +kernel) (by decide +kernel)
theorem allAtoms_all (ts : List Jvm.Cond) (a : Array Jvm.Value) (st : Jvm.State) : (allAtoms ts).before a st = ts.all (fun c => c.before a st) := by
  induction ts with
  | nil => rfl
  | cons c t ih =>
    show (Jvm.Cond.and c (allAtoms t)).before a st = _
    rw [Jvm.Cond.before_and, ih, List.all_cons]
def words1 : List Jvm.Cond := Jvm.Cond.code x code maxLocals ret :: tables_1
/-- a 'code' word, met by the world's own term for the bytes: nothing is compared byte by byte -/
theorem code_word {y : MethodName} {bytes : ByteArray} {mx : Nat} {rt : Option FieldType} {a : Array Value} {s : State} {m : MethodId} {meth : Method} {c : Code} (h1 : s.methodNamed? y = some m) (h2 : s.vm.method? m = some meth) (h3 : meth.code = some c) (h4 : c.code = bytes)
    (h5 : (c.maxLocals == mx && c.exceptionTable.isEmpty && decide (c.maxStack ≤ mostOperands) && decide (meth.sig.returnType = rt) && !meth.locks && decide (parseMethodDescriptor y.desc = some meth.sig)) = true) : (Jvm.Cond.code y bytes mx rt).before a s = true := by
  simp only [Bool.and_eq_true, beq_iff_eq, Bool.not_eq_true', decide_eq_true_eq] at h5
  obtain ⟨⟨⟨⟨⟨g1, g2⟩, g3⟩, g4⟩, g5⟩, g6⟩ := h5
  simp [Cond.before, Cond.holds, Cond.value, h1, h2, h3, h4, g1, g2, g3, g4, g5, g6]
def isCode : Jvm.Cond → Bool
  | .code _ _ _ _ => true
  | _ => false
theorem all_split {L : List Jvm.Cond} {P : Jvm.Cond → Bool} (h1 : L.all (fun c => isCode c || P c) = true) (h2 : ∀ c ∈ L.filter isCode, P c = true) : L.all P = true := by
  refine List.all_eq_true.mpr fun c hc => ?_
  have h := List.all_eq_true.mp h1 c hc
  rcases Bool.eq_false_or_eq_true (isCode c) with hi | hi
  · exact h2 c (List.mem_filter.mpr ⟨hc, hi⟩)
  · simpa [hi] using h
set_option maxRecDepth 65536 in
theorem w_c0 : (Jvm.Cond.code x code maxLocals ret).before args0 about1 = true := code_word (m := ⟨1, 1⟩) (meth := k1m1) (c := k1c1) (by decide +kernel) rfl rfl rfl (by decide +kernel)
set_option maxRecDepth 65536 in
theorem w_c1 : (Jvm.Cond.code ({ cls := "com/example/gibbon/gibbon/analysis/BalanceEquations", name := "<init>", desc := "([I[I)V" } : Jvm.MethodName) prog_6_method_2_code (3 : Nat) (Option.none : Option Jvm.ClassFile.FieldType)).before args0 about1 = true := code_word (m := ⟨2, 0⟩) (meth := k2m0) (c := k2c0) (by decide +kernel) rfl rfl rfl (by decide +kernel)
set_option maxRecDepth 65536 in
theorem w_c2 : (Jvm.Cond.code ({ cls := "java/lang/Object", name := "<init>", desc := "()V" } : Jvm.MethodName) object_method_1_code (1 : Nat) (Option.none : Option Jvm.ClassFile.FieldType)).before args0 about1 = true := code_word (m := ⟨0, 0⟩) (meth := k0m0) (c := k0c0) (by decide +kernel) rfl rfl rfl (by decide +kernel)
set_option maxRecDepth 65536 in
theorem w_c3 : (Jvm.Cond.code ({ cls := "com/example/gibbon/gibbon/analysis/BalanceEquations", name := "everyStateIsLeft", desc := "()Z" } : Jvm.MethodName) prog_6_method_10_code (6 : Nat) (Option.some Jvm.ClassFile.FieldType.boolean)).before args0 about1 = true := code_word (m := ⟨2, 2⟩) (meth := k2m2) (c := k2c2) (by decide +kernel) rfl rfl rfl (by decide +kernel)
set_option maxRecDepth 65536 in
theorem w_c4 : (Jvm.Cond.code ({ cls := "com/example/gibbon/gibbon/analysis/BalanceEquations", name := "addFlow", desc := "(ID)V" } : Jvm.MethodName) prog_6_method_9_code (4 : Nat) (Option.none : Option Jvm.ClassFile.FieldType)).before args0 about1 = true := code_word (m := ⟨2, 1⟩) (meth := k2m1) (c := k2c1) (by decide +kernel) rfl rfl rfl (by decide +kernel)
set_option maxRecDepth 65536 in
theorem w_c5 : (Jvm.Cond.code ({ cls := "com/example/gibbon/gibbon/analysis/BalanceEquationsEveryStateIsLeftPinLaw", name := "part", desc := "(III)J" } : Jvm.MethodName) method_3_code (3 : Nat) (Option.some Jvm.ClassFile.FieldType.long)).before args0 about1 = true := code_word (m := ⟨1, 2⟩) (meth := k1m2) (c := k1c2) (by decide +kernel) rfl rfl rfl (by decide +kernel)
def codes1 : List Jvm.Cond := [Jvm.Cond.code x code maxLocals ret, Jvm.Cond.code ({ cls := "com/example/gibbon/gibbon/analysis/BalanceEquations", name := "<init>", desc := "([I[I)V" } : Jvm.MethodName) prog_6_method_2_code (3 : Nat) (Option.none : Option Jvm.ClassFile.FieldType), Jvm.Cond.code ({ cls := "java/lang/Object", name := "<init>", desc := "()V" } : Jvm.MethodName) object_method_1_code (1 : Nat) (Option.none : Option Jvm.ClassFile.FieldType), Jvm.Cond.code ({ cls := "com/example/gibbon/gibbon/analysis/BalanceEquations", name := "everyStateIsLeft", desc := "()Z" } : Jvm.MethodName) prog_6_method_10_code (6 : Nat) (Option.some Jvm.ClassFile.FieldType.boolean), Jvm.Cond.code ({ cls := "com/example/gibbon/gibbon/analysis/BalanceEquations", name := "addFlow", desc := "(ID)V" } : Jvm.MethodName) prog_6_method_9_code (4 : Nat) (Option.none : Option Jvm.ClassFile.FieldType), Jvm.Cond.code ({ cls := "com/example/gibbon/gibbon/analysis/BalanceEquationsEveryStateIsLeftPinLaw", name := "part", desc := "(III)J" } : Jvm.MethodName) method_3_code (3 : Nat) (Option.some Jvm.ClassFile.FieldType.long)]
set_option maxRecDepth 65536 in
theorem codes_eq : words1.filter isCode = codes1 := rfl
theorem w_codes : ∀ c ∈ words1.filter isCode, c.before args0 about1 = true := by
  rw [codes_eq]
  intro c hc
  simp only [codes1, List.mem_cons, List.not_mem_nil, or_false] at hc
  rcases hc with rfl | rfl | rfl | rfl | rfl | rfl
  · exact w_c0
  · exact w_c1
  · exact w_c2
  · exact w_c3
  · exact w_c4
  · exact w_c5
set_option maxRecDepth 65536 in
theorem w_t1 : (words1.take 24).all (fun c => isCode c || c.before args0 about1) = true := by decide +kernel
set_option maxRecDepth 65536 in
theorem w_t2 : (words1.drop 24).all (fun c => isCode c || c.before args0 about1) = true := by decide +kernel
theorem w_tables : (allAtoms (Jvm.Cond.code x code maxLocals ret :: tables_1)).before args0 about1 = true := by
  rw [allAtoms_all]
  show words1.all (fun c => c.before args0 about1) = true
  refine all_split ?_ w_codes
  rw [← List.take_append_drop 24 words1, List.all_append, w_t1, w_t2]
  rfl
set_option maxRecDepth 65536 in
theorem w_case : (Jvm.Cond.and given_1 narrow_1).before args0 about1 = true := by decide +kernel
theorem w_applies : (headSpec (Jvm.Cond.code x code maxLocals ret :: tables_1) room_1).applies x e0.platform about1 = true :=
  (Spec.applies_iff w_frames).mpr ⟨w_running, w_runnable, w_alone, w_named, w_hears, w_ripe, w_room, w_tables⟩
theorem atStart : AtStart classFile x code maxLocals ret World_1 tables_1 room_1 Calls_1 rest_1 Pre_1 launch0 p0 e0 about1 theMethod args0 below0 :=
  ⟨lists_1, trivial, launch0.admits_env _ _ _, launch0.least_env, fairChoices_fair.cas, fairChoices_fair.clock, w_frames, w_args, w_heap, w_applies, trivial, trivial, w_case⟩
end start1
theorem witness_1 : WitnessClaimed_1 := ⟨start1.p0, start1.e0, start1.about1, start1.theMethod, start1.args0, start1.below0, start1.atStart⟩
end Jvm.Pilot.@@N@@
