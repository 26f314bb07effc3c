import JvmDerived
import JvmDerived.Pilot.@@N@@Statement
import JvmDerived.Pilot.@@N@@Code
set_option linter.unusedVariables false
set_option linter.unusedSimpArgs false
namespace Jvm.RoadKit
open Sem ClassFile Op Lib Jvm.Stand Jvm.Free Jvm.LawKit
/-! own_: walks written forward: 'Goes P T g': from the frame g at T the run comes to a state that P takes. -/
def Goes (p : Program) (e : Env) (below : List Frame) (P : State → Prop) (T : State) (g : JFrame) : Prop := ∃ t, Steps p.tables e below (T.setTop g) t ∧ P t
/-- how a body ends: it returned v, and Q holds of v, the heap and the places written -/
def Fin1 (below : List Frame) (s : State) (rm : Room) (Q : Option Value → Heap → List Loc → Prop) (t : State) : Prop :=
  ∃ o, t.status = .running ∧ Ended t below o ∧ ∃ v L, o = .returned v ∧ Q v t.heap L ∧ FrameEnd s o t L rm.cells rm.slots
/-- a body's contract -/
def Does (l : Launch) (y : MethodName) (bytes : ByteArray) (maxL : Nat) (ret : Option FieldType) (ws : List Cond) (rm : Room) (Z : State) (as' : Array Value) (h : Heap) (Q : Option Value → Heap → List Loc → Prop) : Prop :=
  MetFree l y (head1 (Cond.code y bytes maxL ret :: ws) rm) (fun a U => a = as' ∧ Z.Warmed39 U.vm ∧ U.heap = h) (fun _ _ _ _ _ => True) (fun _ U o U' => ∃ v L, o = .returned v ∧ Q v U'.heap L ∧ FrameEnd U o U' L rm.cells rm.slots)
section Own
variable {p : Program} {l : Launch} {e : Env} {R : Room} {s : State} {m : MethodId} {args : Array Value} {below : List Frame} {meth : Method} {c : Code} {T T' : State} {locs : List Loc} {cells slots : Nat} {Z : State} {a0 : Array Value} {h h' : Heap} {g g' : JFrame} {P : State → Prop}
theorem Goes.by (st : ∀ target, Steps p.tables e below (T'.setTop g') target → Steps p.tables e below (T.setTop g) target) (k : Goes p e below P T' g') : Goes p e below P T g := by
  obtain ⟨t, h1, h2⟩ := k
  exact ⟨t, st _ h1, h2⟩
theorem Goes.cast (q : g = g') (k : Goes p e below P T g') : Goes p e below P T g := q ▸ k
theorem Does.of {y : MethodName} {bytes : ByteArray} {maxL : Nat} {ret : Option FieldType} {ws : List Cond} {rm : Room} {as' : Array Value} {Q : Option Value → Heap → List Loc → Prop} (hp : plainFor y = true)
    (body : ∀ (p : Program) (e : Env) (s : State) (m : MethodId) (below : List Frame) (meth : Method) (c : Code) (s₁ : State), p.tables.exec = Jvm.exec → c.code = bytes → c.maxLocals = maxL → meth.sig.returnType = ret → meth.locks = false → Z.Warmed39 s.vm → s.vm.findClass y.cls = some m.cls → meth.name = y.name → Stand p l e rm s m as' below meth c s₁ [] 0 0 → s₁.heap = h →
      Goes p e below (Fin1 below s rm Q) s₁ (entryFrame m as' maxL)) : Does l y bytes maxL ret ws rm Z as' h Q := by
  refine MetFree.of_bodySF hp hisR ?_
  intro p e s m args below meth c s₁ Bd hml0 hP hK
  obtain ⟨rfl, hZ, hh⟩ := hP
  have e0 : s₁.heap = h := by rw [← hh, Bd.state]; rfl
  obtain ⟨t, h1, o, h2⟩ := body p e s m below meth c s₁ Bd.exec Bd.bytes hml0 Bd.returns Bd.notSynchronized hZ (findClass_of_methodNamed Bd.named) ((name_of_methodNamed Bd.named Bd.method).1) (Stand.of_body Bd) e0
  exact ⟨t, o, h1, h2⟩
theorem fin_of {rm : Room} {Q : Option Value → Heap → List Loc → Prop} {v : Option Value} (X : Stand p l e R s m args below meth c T locs cells slots) (hlk : meth.locks = false) (hv : meth.sig.returnType = none → v = none) (hQ : Q v T.heap locs) (hc : cells ≤ rm.cells) (hs : slots ≤ rm.slots)
    (st : ∀ fs, (∀ (f : JFrame) (acts : List Action), f.method = m → f.locked = none → f.entered = [] → (doReturn e (T.setTop f) acts v).1 = T.setFrames fs) → Steps p.tables e below (T.setTop g) (T.setFrames fs)) : Goes p e below (Fin1 below s rm Q) T g := by
  obtain ⟨fs, hr, hrun, hended, hW, hsame⟩ := X.leave (v := v) hv hlk
  exact ⟨_, st fs hr, _, hrun, hended, _, _, rfl, hQ, ⟨_, rfl⟩, hW, hsame.mono hc hs⟩
theorem outV {rm : Room} {Q : Option Value → Heap → List Loc → Prop} {pc : Nat} {Ls : Array Slot} (X : Stand p l e R s m args below meth c T locs cells slots) (hx : p.tables.exec = Jvm.exec) (hlk : meth.locks = false) (hret : meth.sig.returnType = none) (hd : decode c.code pc = .ok (.return_, 1)) (hQ : Q none T.heap locs) (hc : cells ≤ rm.cells) (hs : slots ≤ rm.slots) : Goes p e below (Fin1 below s rm Q) T (mkF m pc Ls []) :=
  fin_of X hlk (fun _ => rfl) hQ hc hs fun fs hr => X.returnOut hx hret hd hr
theorem outZ {rm : Room} {Q : Option Value → Heap → List Loc → Prop} {pc : Nat} {Ls : Array Slot} {z : Int32} {rest : List Value} (X : Stand p l e R s m args below meth c T locs cells slots) (hx : p.tables.exec = Jvm.exec) (hlk : meth.locks = false) (hret : meth.sig.returnType = some .boolean) (hd : decode c.code pc = .ok (.ireturn, 1)) (hQ : Q (some (.int (nar .boolean z))) T.heap locs) (hc : cells ≤ rm.cells) (hs : slots ≤ rm.slots) : Goes p e below (Fin1 below s rm Q) T (mkF m pc Ls (.int z :: rest)) :=
  fin_of X hlk (fun h => by rw [hret] at h; cases h) hQ hc hs fun fs hr => retN X hx (t := .boolean) hret (by simp) hd hr
theorem outO {rm : Room} {Q : Option Value → Heap → List Loc → Prop} {pc : Nat} {Ls : Array Slot} {w : Value} {t : FieldType} {i : Instr} {rest : List Value} (X : Stand p l e R s m args below meth c T locs cells slots) (hx : p.tables.exec = Jvm.exec) (hlk : meth.locks = false) (hret : meth.sig.returnType = some t) (hn : narrow t w = w)
    (hi : (i = .ireturn ∧ (t = .int ∨ t = .boolean ∨ t = .byte ∨ t = .char ∨ t = .short) ∧ ∃ z, w = .int z) ∨ (i = .lreturn ∧ t = .long ∧ ∃ z, w = .long z) ∨ (i = .dreturn ∧ t = .double ∧ ∃ z, w = .double z) ∨ (i = .freturn ∧ t = .float ∧ ∃ z, w = .float z) ∨ (i = .areturn ∧ t.isReference = true ∧ w.isRef = true))
    (hd : decode c.code pc = .ok (i, 1)) (hQ : Q (some w) T.heap locs) (hc : cells ≤ rm.cells) (hs : slots ≤ rm.slots) : Goes p e below (Fin1 below s rm Q) T (mkF m pc Ls (w :: rest)) :=
  fin_of X hlk (fun h => by rw [hret] at h; cases h) hQ hc hs fun fs hr => retOut X hx hret hn hi hd hr
theorem outI {rm : Room} {Q : Option Value → Heap → List Loc → Prop} {pc : Nat} {Ls : Array Slot} {z : Int32} {rest : List Value} (X : Stand p l e R s m args below meth c T locs cells slots) (hx : p.tables.exec = Jvm.exec) (hlk : meth.locks = false) (hret : meth.sig.returnType = some .int) (hd : decode c.code pc = .ok (.ireturn, 1)) (hQ : Q (some (.int z)) T.heap locs) (hc : cells ≤ rm.cells) (hs : slots ≤ rm.slots) : Goes p e below (Fin1 below s rm Q) T (mkF m pc Ls (.int z :: rest)) :=
  outO X hx hlk hret rfl (Or.inl ⟨rfl, Or.inl rfl, _, rfl⟩) hd hQ hc hs
theorem outJ {rm : Room} {Q : Option Value → Heap → List Loc → Prop} {pc : Nat} {Ls : Array Slot} {z : Int64} {rest : List Value} (X : Stand p l e R s m args below meth c T locs cells slots) (hx : p.tables.exec = Jvm.exec) (hlk : meth.locks = false) (hret : meth.sig.returnType = some .long) (hd : decode c.code pc = .ok (.lreturn, 1)) (hQ : Q (some (.long z)) T.heap locs) (hc : cells ≤ rm.cells) (hs : slots ≤ rm.slots) : Goes p e below (Fin1 below s rm Q) T (mkF m pc Ls (.long z :: rest)) :=
  outO X hx hlk hret rfl (Or.inr (Or.inl ⟨rfl, rfl, _, rfl⟩)) hd hQ hc hs
theorem outD {rm : Room} {Q : Option Value → Heap → List Loc → Prop} {pc : Nat} {Ls : Array Slot} {z : UInt64} {rest : List Value} (X : Stand p l e R s m args below meth c T locs cells slots) (hx : p.tables.exec = Jvm.exec) (hlk : meth.locks = false) (hret : meth.sig.returnType = some .double) (hd : decode c.code pc = .ok (.dreturn, 1)) (hQ : Q (some (.double z)) T.heap locs) (hc : cells ≤ rm.cells) (hs : slots ≤ rm.slots) : Goes p e below (Fin1 below s rm Q) T (mkF m pc Ls (.double z :: rest)) :=
  outO X hx hlk hret rfl (Or.inr (Or.inr (Or.inl ⟨rfl, rfl, _, rfl⟩))) hd hQ hc hs
theorem outA {rm : Room} {Q : Option Value → Heap → List Loc → Prop} {pc : Nat} {Ls : Array Slot} {w : Value} {t : FieldType} {rest : List Value} (X : Stand p l e R s m args below meth c T locs cells slots) (hx : p.tables.exec = Jvm.exec) (hlk : meth.locks = false) (hret : meth.sig.returnType = some t) (ht : t.isReference = true) (hw : w.isRef = true) (hn : narrow t w = w) (hd : decode c.code pc = .ok (.areturn, 1)) (hQ : Q (some w) T.heap locs) (hc : cells ≤ rm.cells) (hs : slots ≤ rm.slots) : Goes p e below (Fin1 below s rm Q) T (mkF m pc Ls (w :: rest)) :=
  outO X hx hlk hret hn (Or.inr (Or.inr (Or.inr (Or.inr ⟨rfl, ht, hw⟩)))) hd hQ hc hs
/-! calls by a contract -/
theorem callI (X : Stand p l e R s m args below meth c T locs cells slots) (hx : p.tables.exec = Jvm.exec) (hZ : Z.Warmed39 s.vm) {own : String} {index : Nat} {y : MethodName} (hy1 : y.name = "<init>") (hown : s.vm.findClass own = some m.cls) {bytes : ByteArray} {maxL : Nat} {rm : Room}
    (w1 : (Cond.methodLink own index y).before a0 Z = true) (w2 : (Cond.instanceMethod y).before a0 Z = true) (w3 : (Cond.code y bytes maxL none).before a0 Z = true) (w4 : (Cond.initialized y.cls).before a0 Z = true) (hy : y.cls ≠ "java/lang/invoke/MethodHandle" ∧ y.cls ≠ "java/lang/invoke/VarHandle")
    (eT : T.heap = h) {a : Addr} {argsL rest : List Value} {as' : Array Value} {Q : Option Value → Heap → List Loc → Prop} {W : Nat} (hM : Does l y bytes maxL none [] rm Z as' h Q) (has : (.ref a :: argsL).toArray = as') (hf : rm.frames + 1 ≤ R.frames) (hl : W + (maxL + 11) + rm.locals ≤ R.locals)
    (hcc : cells + rm.cells ≤ R.cells) (hss : slots + rm.slots ≤ R.slots) {g : JFrame} (hg : g.method = m) (hsize : g.locals.size = c.maxLocals) (hlen : ∀ sig, parseMethodDescriptor y.desc = some sig → argsL.length = sig.parameters.length) (hst : g.stack = argsL.reverse ++ .ref a :: rest) (hW : 2 * g.monitorRoom + (rest.map fun v => v.category).sum ≤ W) (hd : decode c.code g.pc = .ok (.invokespecial index, 3)) :
    ∃ v T' L, Stand p l e R s m args below meth c T' (locs ++ L) (cells + rm.cells) (slots + rm.slots) ∧ Q v T'.heap L ∧ ∀ target, Steps p.tables e below (T'.setTop { g with pc := g.pc + 3, stack := v.toList ++ rest }) target → Steps p.tables e below (T.setTop g) target := by
  obtain ⟨v, vm1, ⟨T', L', k', n'⟩, -, X', ⟨L, hQ, e1, e2, e3⟩, st⟩ := X.specialBack hx (y := y) hy1 hown (mvT hZ w1) (mvT hZ w2) (mvT hZ w3) hy (backOf (W := W) hM hZ w3 w4 hf hl) hg hsize (Steps.refl _) hlen hst hW hd (fun _ _ => ⟨has, eT, hcc, hss⟩)
  dsimp only [Pt.U, Pt.locs, Pt.cells, Pt.slots] at X' e1 e2 e3 st hQ
  subst e1 e2 e3
  exact ⟨v, T', L, X', hQ, fun t k => st.trans k⟩
theorem callV (X : Stand p l e R s m args below meth c T locs cells slots) (hx : p.tables.exec = Jvm.exec) (hZ : Z.Warmed39 s.vm) {own C : String} {index : Nat} {y : MethodName} (hown : s.vm.findClass own = some m.cls) {bytes : ByteArray} {maxL : Nat} {ret : Option FieldType} {rm : Room}
    (w1 : (Cond.methodLink own index y).before a0 Z = true) (w2 : (Cond.declares y).before a0 Z = true) (w3 : (Cond.selects C y y).before a0 Z = true) (w4 : (Cond.instanceMethod y).before a0 Z = true) (w5 : (Cond.code y bytes maxL ret).before a0 Z = true) (w6 : (Cond.initialized y.cls).before a0 Z = true) (hy : y.cls ≠ "java/lang/invoke/MethodHandle" ∧ y.cls ≠ "java/lang/invoke/VarHandle")
    (eT : T.heap = h) {a : Addr} (E : Exa Z h a C) {argsL rest : List Value} {as' : Array Value} {Q : Option Value → Heap → List Loc → Prop} {W : Nat} (hM : Does l y bytes maxL ret [] rm Z as' h Q) (has : (.ref a :: argsL).toArray = as') (hf : rm.frames + 1 ≤ R.frames) (hl : W + (maxL + 11) + rm.locals ≤ R.locals)
    (hcc : cells + rm.cells ≤ R.cells) (hss : slots + rm.slots ≤ R.slots) {g : JFrame} (hg : g.method = m) (hsize : g.locals.size = c.maxLocals) (hlen : ∀ sig, parseMethodDescriptor y.desc = some sig → argsL.length = sig.parameters.length) (hst : g.stack = argsL.reverse ++ .ref a :: rest) (hW : 2 * g.monitorRoom + (rest.map fun v => v.category).sum ≤ W) (hd : decode c.code g.pc = .ok (.invokevirtual index, 3)) :
    ∃ v T' L, Stand p l e R s m args below meth c T' (locs ++ L) (cells + rm.cells) (slots + rm.slots) ∧ Q v T'.heap L ∧ ∀ target, Steps p.tables e below (T'.setTop { g with pc := g.pc + 3, stack := v.toList ++ rest }) target → Steps p.tables e below (T.setTop g) target := by
  obtain ⟨cB, kB, q1, q2, q3⟩ := isOf hZ eT E
  obtain ⟨v, vm1, ⟨T', L', k', n'⟩, -, X', ⟨L, hQ, e1, e2, e3⟩, st⟩ := X.virtualBack hx (y := y) (z := y) hown (mvT hZ w1) (mvT hZ w2) (notFace_of_selects (args := args) (mvT hZ w3)) (mvT hZ w3) (mvT hZ w4) hy (backOf (W := W) hM hZ w5 w6 hf hl) q1 q3 hg hsize (Steps.refl _) hlen hst hW hd (fun _ _ => ⟨has, eT, hcc, hss⟩)
  dsimp only [Pt.U, Pt.locs, Pt.cells, Pt.slots] at X' e1 e2 e3 st hQ
  subst e1 e2 e3
  exact ⟨v, T', L, X', hQ, fun t k => st.trans k⟩
theorem callC (X : Stand p l e R s m args below meth c T locs cells slots) (hx : p.tables.exec = Jvm.exec) (hZ : Z.Warmed39 s.vm) {own : String} {index : Nat} {y : MethodName} (hown : s.vm.findClass own = some m.cls) {bytes : ByteArray} {maxL : Nat} {ret : Option FieldType} {rm : Room}
    (w1 : (Cond.methodLink own index y).before a0 Z = true) (w2 : (Cond.static y).before a0 Z = true) (w3 : (Cond.code y bytes maxL ret).before a0 Z = true) (w4 : (Cond.initialized y.cls).before a0 Z = true) (hy : y.cls ≠ "java/lang/invoke/MethodHandle" ∧ y.cls ≠ "java/lang/invoke/VarHandle")
    (eT : T.heap = h) {argsL rest : List Value} {as' : Array Value} {Q : Option Value → Heap → List Loc → Prop} {W : Nat} (hM : Does l y bytes maxL ret [] rm Z as' h Q) (has : argsL.toArray = as') (hf : rm.frames + 1 ≤ R.frames) (hl : W + (maxL + 11) + rm.locals ≤ R.locals)
    (hcc : cells + rm.cells ≤ R.cells) (hss : slots + rm.slots ≤ R.slots) {g : JFrame} (hg : g.method = m) (hsize : g.locals.size = c.maxLocals) (hlen : ∀ sig, parseMethodDescriptor y.desc = some sig → argsL.length = sig.parameters.length) (hst : g.stack = argsL.reverse ++ rest) (hW : 2 * g.monitorRoom + (rest.map fun v => v.category).sum ≤ W) (hd : decode c.code g.pc = .ok (.invokestatic index, 3)) :
    ∃ v T' L, Stand p l e R s m args below meth c T' (locs ++ L) (cells + rm.cells) (slots + rm.slots) ∧ Q v T'.heap L ∧ ∀ target, Steps p.tables e below (T'.setTop { g with pc := g.pc + 3, stack := v.toList ++ rest }) target → Steps p.tables e below (T.setTop g) target := by
  obtain ⟨v, vm1, ⟨T', L', k', n'⟩, -, X', ⟨L, hQ, e1, e2, e3⟩, st⟩ := Jvm.LawKit.callS X hx (y := y) hown (mvT hZ w1) (mvT hZ w2) (mvT hZ w4) (mvT hZ w3) hy (backOf (W := W) hM hZ w3 w4 hf hl) hg hsize hlen hst hW hd (fun _ _ => ⟨has, eT, hcc, hss⟩)
  dsimp only [Pt.U, Pt.locs, Pt.cells, Pt.slots] at X' e1 e2 e3 st hQ
  subst e1 e2 e3
  exact ⟨v, T', L, X', hQ, st⟩
end Own
end Jvm.RoadKit
namespace Jvm.Free.XS
open Sem ClassFile Op Lib
theorem lcmpS {tb : Tables} [Ours tb] {e : Env} {below : List Frame} {T target : State} {m : MethodId} {c : Code} {g : JFrame} (h : At T m c below) (hx : tb.exec = Jvm.exec) (hg : g.method = m) {x y : Int64} {v : Int32} {rest : List Value} (hd : decode c.code g.pc = .ok (.lcmp, 1)) (hs : g.stack = .long y :: .long x :: rest) (hv : Jvm.RoadKit.lcmpW x y = v)
    (hr : Steps tb e below (T.setTop { g with pc := g.pc + 1, stack := .int v :: rest }) target) : Steps tb e below (T.setTop g) target := by
  subst hv
  exact lcmp h hx hg hd hs hr
end Jvm.Free.XS
namespace Jvm.RoadKit
open Sem ClassFile Op Lib Jvm.Stand Jvm.Free Jvm.LawKit Jvm.FP Jvm.Free.Fl
section OwnD
theorem own_cmp (i j : Int) : compare i j = if i < j then Ordering.lt else if i = j then Ordering.eq else Ordering.gt := rfl
theorem cmpL_lt {x y : Int64} (h : x < y) : lcmpW x y = -1 := by
  have h' := Int64.lt_iff_toInt_lt.mp h
  show (if y < x then (1 : Int32) else if x = y then 0 else -1) = -1
  rw [if_neg (fun q => by have := Int64.lt_iff_toInt_lt.mp q; omega), if_neg (fun q => by rw [q] at h'; omega)]
theorem cmpL_eq {x y : Int64} (h : x = y) : lcmpW x y = 0 := by
  subst h
  show (if x < x then (1 : Int32) else if x = x then 0 else -1) = 0
  rw [if_neg (fun q => by have := Int64.lt_iff_toInt_lt.mp q; omega), if_pos rfl]
theorem cmpL_gt {x y : Int64} (h : y < x) : lcmpW x y = 1 := by
  show (if y < x then (1 : Int32) else if x = y then 0 else -1) = 1
  rw [if_pos h]
theorem DInt_nn {i : Int} {x : UInt64} (h : Core.DInt i x) : NoNaN64 x := val64_no.mpr (Core.DInt_ne_nan h)
theorem DInt_fin {i : Int} {x : UInt64} (h : Core.DInt i x) : Fin64 x := fin64_core.mpr (by
  have h' : Core.Whole i (Core.val64 x) := h
  cases q : Core.val64 x with
  | nan => rw [q] at h'; exact h'.elim
  | inf s => rw [q] at h'; exact h'.elim
  | fin s c e => exact ⟨s, c, e, q⟩)
theorem cmpD_lt {i j : Int} {x y : UInt64} (hx : Core.DInt i x) (hy : Core.DInt j y) (h : i < j) (o : CmpOp) : cmpValue (FP.dcmp x y) o = -1 := by
  rw [show FP.dcmp x y = _ from Core.dcmp_int hx hy, own_cmp, if_pos h]; rfl
theorem cmpD_eq {i j : Int} {x y : UInt64} (hx : Core.DInt i x) (hy : Core.DInt j y) (h : i = j) (o : CmpOp) : cmpValue (FP.dcmp x y) o = 0 := by
  rw [show FP.dcmp x y = _ from Core.dcmp_int hx hy, own_cmp, if_neg (by omega), if_pos h]; rfl
theorem cmpD_gt {i j : Int} {x y : UInt64} (hx : Core.DInt i x) (hy : Core.DInt j y) (h : j < i) (o : CmpOp) : cmpValue (FP.dcmp x y) o = 1 := by
  rw [show FP.dcmp x y = _ from Core.dcmp_int hx hy, own_cmp, if_neg (by omega), if_neg (by omega)]; rfl
theorem DInt_zero : Core.DInt 0 0 := by
  have h := Core.l2d_int (a := 0) (by decide)
  rw [show Core.l2d 0 = 0 from l2d_zero] at h
  exact h
theorem DInt_i2d {x : Int32} {d : UInt64} (q : FP.i2d x = d) : Core.DInt x.toInt d := q ▸ Core.i2d_int x
theorem DInt_l2d {x : Int64} {d : UInt64} (q : FP.l2d x = d) (h : x.toInt.natAbs ≤ 2 ^ 53) : Core.DInt x.toInt d := q ▸ Core.l2d_int h
theorem DInt_add {i j : Int} {a b d : UInt64} (q : FP.dadd a b = d) (ha : Core.DInt i a) (hb : Core.DInt j b) (h : (i + j).natAbs ≤ 2 ^ 53) : Core.DInt (i + j) d := q ▸ Core.dadd_int ha hb h
theorem DInt_sub {i j : Int} {a b d : UInt64} (q : FP.dsub a b = d) (ha : Core.DInt i a) (hb : Core.DInt j b) (h : (i - j).natAbs ≤ 2 ^ 53) : Core.DInt (i - j) d := q ▸ Core.dsub_int ha hb h
theorem DInt_mul {i j : Int} {a b d : UInt64} (q : FP.dmul a b = d) (ha : Core.DInt i a) (hb : Core.DInt j b) (h : (i * j).natAbs ≤ 2 ^ 53) : Core.DInt (i * j) d := q ▸ Core.dmul_int ha hb h
end OwnD
/-! an array by the list of its values -/
def Sar (Z : State) (h : Heap) (a : Addr) (ty : FieldType) (vs : List Value) : Prop := ∃ c : Cell, Arr Z h a c ty ∧ c.slots = vs.toArray
section OwnA
variable {p : Program} {l : Launch} {e : Env} {R : Room} {s : State} {m : MethodId} {args : Array Value} {below : List Frame} {meth : Method} {c : Code} {T : State} {locs : List Loc} {cells slots : Nat} {Z : State} {a0 : Array Value} {h h' : Heap} {a b : Addr} {ty : FieldType} {vs : List Value} {sl : Nat} {v : Value} {ws : List Addr}
theorem Sar.lt (F : Sar Z h a ty vs) : a < h.size := by obtain ⟨c, A, -⟩ := F; exact A.lt
theorem Sar.ext (F : Sar Z h a ty vs) (E : Ext h h') : Sar Z h' a ty vs := by obtain ⟨c, A, r⟩ := F; exact ⟨c, A.ext E, r⟩
theorem Sar.other (F : Sar Z h b ty vs) (W : Wr h h' a sl v) (q : b ≠ a) : Sar Z h' b ty vs := by obtain ⟨c, A, r⟩ := F; exact ⟨c, A.other W q, r⟩
theorem Sar.keep (F : Sar Z h a ty vs) (K : Keep h h' ws) (q : a ∉ ws) : Sar Z h' a ty vs := by obtain ⟨c, A, r⟩ := F; exact ⟨c, ⟨K.2.1 a c A.1 q, A.2⟩, r⟩
theorem Sar.new {k : ClassId} {z : Int32} {n : Nat} (A : Arr Z h a (newA k ty z) ty) (hn : z.toNatClampNeg = n) : Sar Z h a ty (List.replicate n (defaultValue ty)) := ⟨_, A, by subst hn; show Array.replicate _ _ = _; simp⟩
theorem Sar.in {cl : Cell} {j : Int32} {i : Nat} (S : cl.slots = vs.toArray) (hj : j.toInt = i) (hi : i < vs.length) : ¬ (j < 0 ∨ cl.slots.size ≤ j.toNatClampNeg) := by
  rw [S]
  have q : j.toNatClampNeg = i := by show j.toInt.toNat = i; omega
  have r : ¬ j < 0 := fun z => by have z' := Int32.lt_iff_toInt_lt.mp z; rw [hj] at z'; simp at z'; omega
  rw [q]
  simp only [List.size_toArray]
  intro z
  rcases z with z | z
  · exact r z
  · omega
theorem Sar.nat {j : Int32} {i : Nat} (hj : j.toInt = i) : j.toNatClampNeg = i := by show j.toInt.toNat = i; omega
theorem stDS (X : Stand p l e R s m args below meth c T locs cells slots) (hx : p.tables.exec = Jvm.exec) (hZ : Z.Warmed39 s.vm) (eT : T.heap = h) (V : Sar Z h a .double vs) {j : Int32} {x : UInt64} (i : Nat) (hj : j.toInt = i) (hi : i < vs.length) {g : JFrame} (hg : g.method = m) {rest : List Value} (hs : g.stack = .double x :: .int j :: .ref a :: rest) (hd : decode c.code g.pc = .ok (.dastore, 1)) :
    ∃ T' h', Stand p l e R s m args below meth c T' (locs ++ [⟨a, i⟩]) cells slots ∧ T'.heap = h' ∧ Wr h h' a i (.double x) ∧ Sar Z h' a .double (vs.set i (.double x)) ∧ ∀ target, Steps p.tables e below (T'.setTop { g with pc := g.pc + 1, stack := rest }) target → Steps p.tables e below (T.setTop g) target := by
  obtain ⟨cl, A, S⟩ := V
  obtain ⟨T', h', X', e', W, st⟩ := stD X hx hZ eT A (Sar.in S hj hi) hg hs hd
  rw [Sar.nat hj] at X' W
  exact ⟨T', h', X', e', W, ⟨_, A.same W, by show cl.slots.setIfInBounds _ _ = _; rw [S]; simp⟩, st⟩
theorem stIS (X : Stand p l e R s m args below meth c T locs cells slots) (hx : p.tables.exec = Jvm.exec) (hZ : Z.Warmed39 s.vm) (eT : T.heap = h) (V : Sar Z h a .int vs) {j : Int32} {x : Int32} (i : Nat) (hj : j.toInt = i) (hi : i < vs.length) {g : JFrame} (hg : g.method = m) {rest : List Value} (hs : g.stack = .int x :: .int j :: .ref a :: rest) (hd : decode c.code g.pc = .ok (.iastore, 1)) :
    ∃ T' h', Stand p l e R s m args below meth c T' (locs ++ [⟨a, i⟩]) cells slots ∧ T'.heap = h' ∧ Wr h h' a i (.int x) ∧ Sar Z h' a .int (vs.set i (.int x)) ∧ ∀ target, Steps p.tables e below (T'.setTop { g with pc := g.pc + 1, stack := rest }) target → Steps p.tables e below (T.setTop g) target := by
  obtain ⟨cl, A, S⟩ := V
  obtain ⟨T', h', X', e', W, st⟩ := stI X hx hZ eT A (Sar.in S hj hi) hg hs hd
  rw [Sar.nat hj] at X' W
  exact ⟨T', h', X', e', W, ⟨_, A.same W, by show cl.slots.setIfInBounds _ _ = _; rw [S]; simp⟩, st⟩
theorem ldDS (X : Stand p l e R s m args below meth c T locs cells slots) (hx : p.tables.exec = Jvm.exec) (hZ : Z.Warmed39 s.vm) (eT : T.heap = h) (V : Sar Z h a .double vs) {j : Int32} (i : Nat) (hj : j.toInt = i) (hv : vs[i]? = some v) {g : JFrame} (hg : g.method = m) {rest : List Value} (hs : g.stack = .int j :: .ref a :: rest) (hd : decode c.code g.pc = .ok (.daload, 1)) :
    ∀ target, Steps p.tables e below (T.setTop { g with pc := g.pc + 1, stack := v :: rest }) target → Steps p.tables e below (T.setTop g) target := by
  obtain ⟨cl, A, S⟩ := V
  have hi : i < vs.length := (List.getElem?_eq_some_iff.mp hv).1
  exact X.daload hx (by rw [eT]; exact A.1) (State.isArrayOf_alike hZ.alike A.2.1) A.2.2 (Sar.in S hj hi) (by rw [S, Sar.nat hj]; simpa using hv) hg hs hd
theorem ldIS (X : Stand p l e R s m args below meth c T locs cells slots) (hx : p.tables.exec = Jvm.exec) (hZ : Z.Warmed39 s.vm) (eT : T.heap = h) (V : Sar Z h a .int vs) {j : Int32} (i : Nat) (hj : j.toInt = i) (hv : vs[i]? = some v) {g : JFrame} (hg : g.method = m) {rest : List Value} (hs : g.stack = .int j :: .ref a :: rest) (hd : decode c.code g.pc = .ok (.iaload, 1)) :
    ∀ target, Steps p.tables e below (T.setTop { g with pc := g.pc + 1, stack := v :: rest }) target → Steps p.tables e below (T.setTop g) target := by
  obtain ⟨cl, A, S⟩ := V
  have hi : i < vs.length := (List.getElem?_eq_some_iff.mp hv).1
  exact X.iaload hx (by rw [eT]; exact A.1) (State.isArrayOf_alike hZ.alike A.2.1) A.2.2 (Sar.in S hj hi) (by rw [S, Sar.nat hj]; simpa using hv) hg hs hd
theorem lenS (X : Stand p l e R s m args below meth c T locs cells slots) (hx : p.tables.exec = Jvm.exec) (hZ : Z.Warmed39 s.vm) (eT : T.heap = h) (V : Sar Z h a ty vs) {n : Int32} (hn : vs.length.toInt32 = n) {g : JFrame} (hg : g.method = m) {rest : List Value} (hs : g.stack = .ref a :: rest) (hd : decode c.code g.pc = .ok (.arraylength, 1)) :
    ∀ target, Steps p.tables e below (T.setTop { g with pc := g.pc + 1, stack := .int n :: rest }) target → Steps p.tables e below (T.setTop g) target := by
  obtain ⟨cl, A, S⟩ := V
  intro target k
  refine X.arraylength hx (by rw [eT]; exact A.1) (State.isArrayOf_alike hZ.alike A.2.1) hg hs hd target ?_
  rw [S]
  simp only [List.size_toArray, hn]
  exact k
end OwnA
end Jvm.RoadKit
namespace Jvm.RoadKit
open Jvm.FP Jvm.Free.Fl
theorem DInt_nz {i : Int} {x : UInt64} (h : Core.DInt i x) (hi : i ≠ 0) : Nz64 x := nz64_core.mpr fun z => by
  obtain ⟨s, q, e⟩ := z
  have h' : Core.Whole i (Core.val64 x) := h
  rw [e] at h'
  exact hi ((Core.whole_zero h').mp rfl)
theorem DInt_one : Core.DInt 1 4607182418800017408 := Core.dint_one
end Jvm.RoadKit
namespace Jvm.RoadKit
open Jvm.FP Jvm.Free.Fl Op
theorem cmpD_le {i j : Int} {x y : UInt64} (hx : Core.DInt i x) (hy : Core.DInt j y) (h : i ≤ j) (o : ClassFile.CmpOp) : ∃ v : Int32, cmpValue (FP.dcmp x y) o = v ∧ ¬ (0 : Int32) < v := by
  by_cases q : i < j
  · exact ⟨-1, cmpD_lt hx hy q o, by decide⟩
  · exact ⟨0, cmpD_eq hx hy (by omega) o, by decide⟩
theorem cmpD_ge {i j : Int} {x y : UInt64} (hx : Core.DInt i x) (hy : Core.DInt j y) (h : j ≤ i) (o : ClassFile.CmpOp) : ∃ v : Int32, cmpValue (FP.dcmp x y) o = v ∧ ¬ v < (0 : Int32) := by
  by_cases q : j < i
  · exact ⟨1, cmpD_gt hx hy q o, by decide⟩
  · exact ⟨0, cmpD_eq hx hy (by omega) o, by decide⟩
end Jvm.RoadKit
namespace Jvm.RoadKit
open Jvm.Free
theorem cmpL_le {x y : Int64} (h : ¬ y.toInt < x.toInt) : ∃ v : Int32, lcmpW x y = v ∧ ¬ (0 : Int32) < v := by
  by_cases q : x.toInt < y.toInt
  · exact ⟨-1, cmpL_lt (Int64.lt_iff_toInt_lt.mpr q), by decide⟩
  · exact ⟨0, cmpL_eq (Int64.toInt_inj.mp (by omega)), by decide⟩
theorem cmpL_gtI {x y : Int64} (h : y.toInt < x.toInt) : lcmpW x y = 1 := cmpL_gt (Int64.lt_iff_toInt_lt.mpr h)
end Jvm.RoadKit
namespace Jvm.RoadKit
open Jvm.Free
theorem cmpL_ge {x y : Int64} (h : ¬ x.toInt < y.toInt) : ∃ v : Int32, lcmpW x y = v ∧ ¬ v < (0 : Int32) := by
  by_cases q : y.toInt < x.toInt
  · exact ⟨1, cmpL_gtI q, by decide⟩
  · exact ⟨0, cmpL_eq (Int64.toInt_inj.mp (by omega)), by decide⟩
end Jvm.RoadKit
namespace Jvm.RoadKit
theorem own_cancel {A B u v x y : Nat} (h : A * 2 ^ u = B * 2 ^ v) (e : u + y = v + x) : A * 2 ^ x = B * 2 ^ y := by
  refine Nat.eq_of_mul_eq_mul_right (Nat.two_pow_pos v) ?_
  rw [Nat.mul_assoc, ← Nat.pow_add, Nat.add_comm x v, ← e, Nat.pow_add, ← Nat.mul_assoc, h, Nat.mul_assoc, Nat.mul_assoc, Nat.mul_comm (2 ^ v)]
end Jvm.RoadKit
namespace Jvm.RoadKit
open Jvm.FP Jvm.Free.Fl
section OwnQ
/-- the quotient of two positive whole doubles: the rounded ratio of the two numbers -/
theorem own_quot {i j : Int} {a b : UInt64} (ha : Core.DInt i a) (hb : Core.DInt j b) (hi : 0 < i) (hj : 0 < j) : Core.val64 (Core.ddiv a b) = Core.roundRatio Core.b64 false i.natAbs j.natAbs 0 := by
  rw [Core.val64_ddiv]
  have ha' : Core.Whole i (Core.val64 a) := ha
  have hb' : Core.Whole j (Core.val64 b) := hb
  cases qa : Core.val64 a with
  | nan => rw [qa] at ha'; exact ha'.elim
  | inf s => rw [qa] at ha'; exact ha'.elim
  | fin s c q =>
    cases qb : Core.val64 b with
    | nan => rw [qb] at hb'; exact hb'.elim
    | inf s => rw [qb] at hb'; exact hb'.elim
    | fin t d r =>
      rw [qa] at ha'; rw [qb] at hb'
      have hs : s = false := by rw [Core.whole_sign ha' (by omega)]; exact decide_eq_false (by omega)
      have ht : t = false := by rw [Core.whole_sign hb' (by omega)]; exact decide_eq_false (by omega)
      have hd : d ≠ 0 := fun z => by have := (Core.whole_zero hb').mp z; omega
      have h1 := Core.whole_natAbs ha'
      have h2 := Core.whole_natAbs hb'
      subst hs ht
      show (if d = 0 then _ else Core.roundRatio Core.b64 (false != false) c d (q - r)) = _
      rw [if_neg hd]
      refine Core.roundRatio_congr (Nat.pos_of_ne_zero hd) (by omega) ?_
      have h3 : c * j.natAbs * 2 ^ (q.toNat + (-r).toNat) = i.natAbs * d * 2 ^ ((-q).toNat + r.toNat) := by
        rw [Nat.pow_add, Nat.pow_add]
        calc c * j.natAbs * (2 ^ q.toNat * 2 ^ (-r).toNat) = (c * 2 ^ q.toNat) * (j.natAbs * 2 ^ (-r).toNat) := Nat.mul_mul_mul_comm _ _ _ _
          _ = (i.natAbs * 2 ^ (-q).toNat) * (d * 2 ^ r.toNat) := by rw [h1, h2]
          _ = _ := Nat.mul_mul_mul_comm _ _ _ _
      exact own_cancel h3 (by omega)
theorem own_share {i j : Int} {a b : UInt64} (ha : Core.DInt i a) (hb : Core.DInt j b) (hi : 0 < i) (hij : i ≤ j) (hj : j ≤ 2147483648) :
    NoNaN64 (FP.ddiv a b) ∧ FP.dcmp (FP.ddiv a b) 0 = some .gt ∧ (FP.dcmp (FP.ddiv a b) 4607182418800017408 = some .lt ∨ FP.dcmp (FP.ddiv a b) 4607182418800017408 = some .eq) := by
  have hv : Core.val64 (FP.ddiv a b) = Core.roundRatio Core.b64 false i.natAbs j.natAbs 0 := own_quot ha hb hi (by omega)
  have hn : Core.val64 (FP.ddiv a b) ≠ .nan := by rw [hv]; exact Core.roundRatio_ne_nan _ _ _ _ _
  have hs : Core.zval Core.b64 (Core.val64 (FP.ddiv a b)) = (Core.zmag Core.b64 (Core.roundRatio Core.b64 false i.natAbs j.natAbs 0) : Int) := by
    show Core.signed (Core.sgn _) _ = _
    rw [hv, Core.sgn_roundRatio]; rfl
  have hone : Core.val64 4607182418800017408 = .fin false (2 ^ 52) (-52) := by decide +kernel
  have hq : Core.b64.qmin = -1074 := by decide
  have h1 : (1 : Nat) ≤ Core.zmag Core.b64 (Core.roundRatio Core.b64 false i.natAbs j.natAbs 0) := by
    have h := Core.zmag_roundRatio_ge Core.good_b64 (s := false) (A := i.natAbs) (B := j.natAbs) (e := 0) (e0 := Core.b64.qmin) (V := .fin false 1 Core.b64.qmin) (by omega) (by unfold Core.fits; decide) (Int.le_refl _) (by rw [hq]; decide) (by
      show 1 * 2 ^ (Core.b64.qmin - Core.b64.qmin).toNat * 2 ^ (Core.b64.qmin - Core.b64.qmin).toNat * j.natAbs ≤ i.natAbs * 2 ^ (0 - Core.b64.qmin).toNat
      rw [Int.sub_self, hq]
      show 1 * 2 ^ 0 * 2 ^ 0 * j.natAbs ≤ i.natAbs * 2 ^ 1074
      have p : 2147483648 ≤ 2 ^ 1074 := by decide +kernel
      have q : 1 * 2 ^ 1074 ≤ i.natAbs * 2 ^ 1074 := Nat.mul_le_mul_right _ (by omega)
      generalize 2 ^ 1074 = M at p q
      generalize i.natAbs * M = K at q
      omega)
    have e : Core.zmag Core.b64 (.fin false 1 Core.b64.qmin) = 1 := by decide +kernel
    rw [e] at h; exact h
  have h2 : Core.zmag Core.b64 (Core.roundRatio Core.b64 false i.natAbs j.natAbs 0) ≤ Core.zmag Core.b64 (.fin false (2 ^ 52) (-52)) := by
    refine Core.zmag_roundRatio_le Core.good_b64 (e0 := Core.b64.qmin) (by omega) (hone ▸ Core.val64_fits _) (by simp) (Int.le_refl _) (by rw [hq]; decide) ?_
    have e : Core.zmag Core.b64 (.fin false (2 ^ 52) (-52)) = 2 ^ 1074 := by decide +kernel
    rw [e]
    show i.natAbs * 2 ^ (0 - Core.b64.qmin).toNat ≤ 2 ^ 1074 * 2 ^ (Core.b64.qmin - Core.b64.qmin).toNat * j.natAbs
    rw [Int.sub_self, hq]
    rw [show ((0 : Int) - -1074).toNat = 1074 from by decide, show (0 : Int).toNat = 0 from rfl, Nat.pow_zero, Nat.mul_one, Nat.mul_comm]
    exact Nat.mul_le_mul_left _ (by omega)
  refine ⟨val64_no.mpr hn, Core.dcmp_gt.mpr ⟨hn, by decide +kernel, ?_⟩, Core.dcmp_le.mpr ⟨hn, by rw [hone]; simp, ?_⟩⟩
  · rw [Core.zval64_zero, hs]; omega
  · rw [hs, hone]
    show (Core.zmag Core.b64 (Core.roundRatio Core.b64 false i.natAbs j.natAbs 0) : Int) ≤ Core.signed false (Core.zmag Core.b64 (.fin false (2 ^ 52) (-52)))
    show (Core.zmag Core.b64 (Core.roundRatio Core.b64 false i.natAbs j.natAbs 0) : Int) ≤ ((Core.zmag Core.b64 (.fin false (2 ^ 52) (-52)) : Nat) : Int)
    omega
end OwnQ
end Jvm.RoadKit
namespace Jvm.Pilot.@@N@@
open Jvm Jvm.ClassFile Sem Op Lib Jvm.Free Jvm.Stand Jvm.LawKit Jvm.RoadKit Jvm.FP Jvm.Free.Fl Bundle Jvm.Pilot.@@N@@.Jvm.D
theorem d1_0 : decode prog_53_method_4_code 0 = .ok (.dload_n 0, 1) := by decide +kernel
theorem d1_1 : decode prog_53_method_4_code 1 = .ok (.dconst 0, 1) := by decide +kernel
theorem d1_2 : decode prog_53_method_4_code 2 = .ok (.dcmp .l, 1) := by decide +kernel
theorem d1_3 : decode prog_53_method_4_code 3 = .ok (.ifCond .le 9, 3) := by decide +kernel
theorem d1_6 : decode prog_53_method_4_code 6 = .ok (.dload_n 0, 1) := by decide +kernel
theorem d1_7 : decode prog_53_method_4_code 7 = .ok (.dconst 1, 1) := by decide +kernel
theorem d1_8 : decode prog_53_method_4_code 8 = .ok (.dcmp .g, 1) := by decide +kernel
theorem d1_9 : decode prog_53_method_4_code 9 = .ok (.ifCond .le 17, 3) := by decide +kernel
theorem d1_12 : decode prog_53_method_4_code 12 = .ok (.new 19, 3) := by decide +kernel
theorem d1_15 : decode prog_53_method_4_code 15 = .ok (.dup, 1) := by decide +kernel
theorem d1_16 : decode prog_53_method_4_code 16 = .ok (.dload_n 0, 1) := by decide +kernel
theorem d1_22 : decode prog_53_method_4_code 22 = .ok (.invokespecial 25, 3) := by decide +kernel
theorem d1_25 : decode prog_53_method_4_code 25 = .ok (.athrow, 1) := by decide +kernel
theorem d1_26 : decode prog_53_method_4_code 26 = .ok (.return_, 1) := by decide +kernel
theorem pn0 : plainName "com/example/hqsim/hqsim/engine/statistics/QuantileHistogram" = true := by first | (simp [plainName, overriddenIn]; done) | decide +kernel
theorem pd0 : parseMethodDescriptor "(D)V" = some ⟨[.double], none⟩ := by decide +kernel
theorem ef_rmc (m : MethodId) (x0 : UInt64) : entryFrame m #[(.double x0)] 2 = mkF m 0 #[.val (.double x0), .second] [] := by first | (simp [entryFrame, mkF, argsToLocals, Value.category, maxLocals]; done) | rfl
set_option maxRecDepth 65536 in
set_option maxHeartbeats 40000000 in
theorem rmc (l : Launch) (Z : State) (a0 : Array Value) (hw : ∀ d ∈ tables_1, d.before a0 Z = true) (d : UInt64) (h0 : Heap) (n0 : Nat) (Z0 : n0 ≤ h0.size) (h1 : FP.dcmp d 0 = some .gt) (h2 : FP.dcmp d 4607182418800017408 = some .lt ∨ FP.dcmp d 4607182418800017408 = some .eq) :
    Does l (⟨"com/example/hqsim/hqsim/engine/statistics/QuantileHistogram", "checkShare", "(D)V"⟩ : MethodName) prog_53_method_4_code 2 none [] ({ frames := 0, cells := 0, slots := 0, locals := 0 } : Room) Z #[(.double d)] h0 (fun v h L => v = none ∧ Fr n0 L ∧ h = h0) := by
  refine Does.of (plainFor_of_name pn0) ?_
  intro p e s m below meth c s₁ hx hby hml hret hlk hZ hown hnm X0 e0
  have N0 := Fr.nil n0
  refine Goes.cast (g' := mkF m 0 #[.val (.double d), .second] []) (ef_rmc m d) ?_
  refine Goes.by (T' := s₁) (g' := (mkF m 1 #[.val (.double d), .second] [(.double d)])) (fun _ k => XS.dloadN X0.here hx rfl (hb hby d1_0) rfl k) ?_
  refine Goes.by (T' := s₁) (g' := (mkF m 2 #[.val (.double d), .second] [(.double (0 : UInt64)), (.double d)])) (fun _ k => XS.dconst0 X0.here hx rfl (hb hby d1_1) rfl k) ?_
  refine Goes.by (T' := s₁) (g' := (mkF m 3 #[.val (.double d), .second] [(.int (1 : Int32))])) (fun _ k => XS.dcmpS X0.here hx rfl (hb hby d1_2) rfl (by rw [h1]; rfl) k) ?_
  refine Goes.by (T' := s₁) (g' := (mkF m 6 #[.val (.double d), .second] [])) (fun _ k => XS.ifNo X0.here hx rfl (hb hby d1_3) rfl (by decide) k) ?_
  refine Goes.by (T' := s₁) (g' := (mkF m 7 #[.val (.double d), .second] [(.double d)])) (fun _ k => XS.dloadN X0.here hx rfl (hb hby d1_6) rfl k) ?_
  refine Goes.by (T' := s₁) (g' := (mkF m 8 #[.val (.double d), .second] [(.double (4607182418800017408 : UInt64)), (.double d)])) (fun _ k => XS.dconst1 X0.here hx rfl (hb hby d1_7) rfl k) ?_
  rcases h2 with h2 | h2
  · refine Goes.by (T' := s₁) (g' := (mkF m 9 #[.val (.double d), .second] [(.int (-1 : Int32))])) (fun _ k => XS.dcmpS X0.here hx rfl (hb hby d1_8) rfl (by rw [h2]; rfl) k) ?_
    refine Goes.by (T' := s₁) (g' := (mkF m 26 #[.val (.double d), .second] [])) (fun _ k => XS.ifYes X0.here hx rfl (pc0 := 9) (pc' := 26) rfl (hb hby d1_9) rfl (by decide) (by decide) (by decide) k) ?_
    exact outV X0 hx hlk hret (hb hby d1_26) (by rw [e0]; exact ⟨rfl, N0, rfl⟩) (by decide) (by decide)
  · refine Goes.by (T' := s₁) (g' := (mkF m 9 #[.val (.double d), .second] [(.int (0 : Int32))])) (fun _ k => XS.dcmpS X0.here hx rfl (hb hby d1_8) rfl (by rw [h2]; rfl) k) ?_
    refine Goes.by (T' := s₁) (g' := (mkF m 26 #[.val (.double d), .second] [])) (fun _ k => XS.ifYes X0.here hx rfl (pc0 := 9) (pc' := 26) rfl (hb hby d1_9) rfl (by decide) (by decide) (by decide) k) ?_
    exact outV X0 hx hlk hret (hb hby d1_26) (by rw [e0]; exact ⟨rfl, N0, rfl⟩) (by decide) (by decide)
theorem pn1 : plainName "com/example/hqsim/hqsim/engine/statistics/QuantileHistogramCheckSharePinLaw" = true := by first | (simp [plainName, overriddenIn]; done) | decide +kernel
theorem ef_rm_law (m : MethodId) (x0 : Int32) (x1 : Int32) (x2 : Int32) : entryFrame m #[(.int x0), (.int x1), (.int x2)] maxLocals = mkF m 0 #[.val (.int x0), .val (.int x1), .val (.int x2), .unset, .unset, .unset, .unset] [] := by first | (simp [entryFrame, mkF, argsToLocals, Value.category, maxLocals]; done) | rfl
set_option maxRecDepth 65536 in
set_option maxHeartbeats 40000000 in
theorem rm_law (l : Launch) (Z : State) (a0 : Array Value) (hw : ∀ d ∈ tables_1, d.before a0 Z = true) (x0 x1 x2 : Int32) (h0 : Heap) (n0 : Nat) (Z0 : n0 ≤ h0.size)  :
    Does l x code maxLocals ret tables_1 room_1 Z #[(.int x0), (.int x1), (.int x2)] h0 (fun v h L => v = some (.int 1) ∧ Fr n0 L) := by
  refine Does.of (plainFor_of_name pn1) ?_
  intro p e s m below meth c s₁ hx hby hml hret hlk hZ hown hnm X0 e0
  have N0 := Fr.nil n0
  refine Goes.cast (g' := mkF m 0 #[.val (.int x0), .val (.int x1), .val (.int x2), .unset, .unset, .unset, .unset] []) (ef_rm_law m x0 x1 x2) ?_
  refine Goes.by (T' := s₁) (g' := (mkF m 1 #[.val (.int x0), .val (.int x1), .val (.int x2), .unset, .unset, .unset, .unset] [(.int x1)])) (fun _ k => XS.iloadN X0.here hx rfl (hb hby at_0) rfl k) ?_
  refine Goes.by (T' := s₁) (g' := (mkF m 3 #[.val (.int x0), .val (.int x1), .val (.int x2), .unset, .unset, .unset, .unset] [(.int (1073741823 : Int32)), (.int x1)])) (X0.ldcInt hx hown (mvT hZ (hw _ (List.mem_of_getElem? (i := 0) rfl))) (g := (mkF m 1 #[.val (.int x0), .val (.int x1), .val (.int x2), .unset, .unset, .unset, .unset] [(.int x1)])) rfl (hb hby at_1)) ?_
  refine Goes.by (T' := s₁) (g' := (mkF m 4 #[.val (.int x0), .val (.int x1), .val (.int x2), .unset, .unset, .unset, .unset] [(.int (x1 &&& (1073741823 : Int32)))])) (fun _ k => XS.iand X0.here hx rfl (hb hby at_3) rfl k) ?_
  refine Goes.by (T' := s₁) (g' := (mkF m 5 #[.val (.int x0), .val (.int x1), .val (.int x2), .unset, .unset, .unset, .unset] [(.int (1 : Int32)), (.int (x1 &&& (1073741823 : Int32)))])) (fun _ k => XS.iconst X0.here hx rfl (hb hby at_4)  k) ?_
  refine Goes.by (T' := s₁) (g' := (mkF m 6 #[.val (.int x0), .val (.int x1), .val (.int x2), .unset, .unset, .unset, .unset] [(.int ((x1 &&& (1073741823 : Int32)) + (1 : Int32)))])) (fun _ k => XS.iadd X0.here hx rfl (hb hby at_5) rfl k) ?_
  obtain ⟨n, q_n⟩ : ∃ z : Int32, z = ((x1 &&& (1073741823 : Int32)) + (1 : Int32)) := ⟨_, rfl⟩
  rw [← q_n]
  have hn : 1 ≤ n.toInt ∧ n.toInt ≤ 1073741824 := by
    rw [q_n]
    have t := c_iadd (x1 &&& (1073741823 : Int32)) (1 : Int32)
    have t2 := c_and x1 (1073741823 : Int32) (by decide)
    have t3 : (1073741823 : Int32).toInt = 1073741823 := by decide
    have t4 : (1 : Int32).toInt = 1 := by decide
    have t5 := rng32 ((x1 &&& (1073741823 : Int32)) + (1 : Int32))
    omega
  refine Goes.by (T' := s₁) (g' := (mkF m 7 #[.val (.int x0), .val (.int x1), .val (.int x2), .val (.int n), .unset, .unset, .unset] [])) (fun _ k => XS.istoreN X0.here hx rfl (hb hby at_6) rfl (l' := #[.val (.int x0), .val (.int x1), .val (.int x2), .val (.int n), .unset, .unset, .unset]) rfl k) ?_
  refine Goes.by (T' := s₁) (g' := (mkF m 8 #[.val (.int x0), .val (.int x1), .val (.int x2), .val (.int n), .unset, .unset, .unset] [(.int x0)])) (fun _ k => XS.iloadN X0.here hx rfl (hb hby at_7) rfl k) ?_
  refine Goes.by (T' := s₁) (g' := (mkF m 10 #[.val (.int x0), .val (.int x1), .val (.int x2), .val (.int n), .unset, .unset, .unset] [(.int (2147483647 : Int32)), (.int x0)])) (X0.ldcInt hx hown (mvT hZ (hw _ (List.mem_of_getElem? (i := 1) rfl))) (g := (mkF m 8 #[.val (.int x0), .val (.int x1), .val (.int x2), .val (.int n), .unset, .unset, .unset] [(.int x0)])) rfl (hb hby at_8)) ?_
  refine Goes.by (T' := s₁) (g' := (mkF m 11 #[.val (.int x0), .val (.int x1), .val (.int x2), .val (.int n), .unset, .unset, .unset] [(.int (x0 &&& (2147483647 : Int32)))])) (fun _ k => XS.iand X0.here hx rfl (hb hby at_10) rfl k) ?_
  refine Goes.by (T' := s₁) (g' := (mkF m 12 #[.val (.int x0), .val (.int x1), .val (.int x2), .val (.int n), .unset, .unset, .unset] [(.int n), (.int (x0 &&& (2147483647 : Int32)))])) (fun _ k => XS.iloadN X0.here hx rfl (hb hby at_11) rfl k) ?_
  obtain ⟨a, q_a⟩ : ∃ z : Int32, z = (x0 &&& (2147483647 : Int32)) := ⟨_, rfl⟩
  rw [← q_a]
  have ha : 0 ≤ a.toInt := by rw [q_a]; exact (c_and x0 (2147483647 : Int32) (by decide)).1
  have hn0 : n ≠ 0 := fun z => by rw [z] at hn; exact absurd hn.1 (by decide)
  refine Goes.by (T' := s₁) (g' := (mkF m 13 #[.val (.int x0), .val (.int x1), .val (.int x2), .val (.int n), .unset, .unset, .unset] [(.int (a % n))])) (fun _ k => iremM (g := (mkF m 12 #[.val (.int x0), .val (.int x1), .val (.int x2), .val (.int n), .unset, .unset, .unset] [(.int n), (.int a)])) X0 hx rfl (hb hby at_12) rfl hn0 k) ?_
  refine Goes.by (T' := s₁) (g' := (mkF m 14 #[.val (.int x0), .val (.int x1), .val (.int x2), .val (.int n), .unset, .unset, .unset] [(.int (1 : Int32)), (.int (a % n))])) (fun _ k => XS.iconst X0.here hx rfl (hb hby at_13)  k) ?_
  refine Goes.by (T' := s₁) (g' := (mkF m 15 #[.val (.int x0), .val (.int x1), .val (.int x2), .val (.int n), .unset, .unset, .unset] [(.int ((a % n) + (1 : Int32)))])) (fun _ k => XS.iadd X0.here hx rfl (hb hby at_14) rfl k) ?_
  obtain ⟨k0, q_k0⟩ : ∃ z : Int32, z = ((a % n) + (1 : Int32)) := ⟨_, rfl⟩
  rw [← q_k0]
  have hk0 : 1 ≤ k0.toInt ∧ k0.toInt ≤ n.toInt := by
    rw [q_k0]
    have t := c_iadd (a % n) (1 : Int32)
    have t2 := (c_iremV a n).1 ha (by omega)
    have t4 : (1 : Int32).toInt = 1 := by decide
    have t5 := rng32 ((a % n) + (1 : Int32))
    omega
  refine Goes.by (T' := s₁) (g' := (mkF m 17 #[.val (.int x0), .val (.int x1), .val (.int x2), .val (.int n), .val (.int k0), .unset, .unset] [])) (fun _ k => XS.istore X0.here hx rfl (hb hby at_15) rfl (l' := #[.val (.int x0), .val (.int x1), .val (.int x2), .val (.int n), .val (.int k0), .unset, .unset]) rfl k) ?_
  refine Goes.by (T' := s₁) (g' := (mkF m 18 #[.val (.int x0), .val (.int x1), .val (.int x2), .val (.int n), .val (.int k0), .unset, .unset] [(.int x2)])) (fun _ k => XS.iloadN X0.here hx rfl (hb hby at_17) rfl k) ?_
  refine Goes.by (T' := s₁) (g' := (mkF m 19 #[.val (.int x0), .val (.int x1), .val (.int x2), .val (.int n), .val (.int k0), .unset, .unset] [(.int (1 : Int32)), (.int x2)])) (fun _ k => XS.iconst X0.here hx rfl (hb hby at_18)  k) ?_
  refine Goes.by (T' := s₁) (g' := (mkF m 20 #[.val (.int x0), .val (.int x1), .val (.int x2), .val (.int n), .val (.int k0), .unset, .unset] [(.int (x2 &&& (1 : Int32)))])) (fun _ k => XS.iand X0.here hx rfl (hb hby at_19) rfl k) ?_
  by_cases hf1 : (x2 &&& (1 : Int32)) = (0 : Int32)
  · refine Goes.by (T' := s₁) (g' := (mkF m 26 #[.val (.int x0), .val (.int x1), .val (.int x2), .val (.int n), .val (.int k0), .unset, .unset] [])) (fun _ k => XS.ifYes X0.here hx rfl (pc0 := 20) (pc' := 26) rfl (hb hby at_20) rfl ((if0 _ _).trans (teq hf1).1) (by decide) (by decide) k) ?_
    refine Goes.by (T' := s₁) (g' := (mkF m 27 #[.val (.int x0), .val (.int x1), .val (.int x2), .val (.int n), .val (.int k0), .unset, .unset] [(.int x2)])) (fun _ k => XS.iloadN X0.here hx rfl (hb hby at_26) rfl k) ?_
    refine Goes.by (T' := s₁) (g' := (mkF m 28 #[.val (.int x0), .val (.int x1), .val (.int x2), .val (.int n), .val (.int k0), .unset, .unset] [(.int (2 : Int32)), (.int x2)])) (fun _ k => XS.iconst X0.here hx rfl (hb hby at_27)  k) ?_
    refine Goes.by (T' := s₁) (g' := (mkF m 29 #[.val (.int x0), .val (.int x1), .val (.int x2), .val (.int n), .val (.int k0), .unset, .unset] [(.int (x2 &&& (2 : Int32)))])) (fun _ k => XS.iand X0.here hx rfl (hb hby at_28) rfl k) ?_
    by_cases hf2 : (x2 &&& (2 : Int32)) = (0 : Int32)
    · refine Goes.by (T' := s₁) (g' := (mkF m 35 #[.val (.int x0), .val (.int x1), .val (.int x2), .val (.int n), .val (.int k0), .unset, .unset] [])) (fun _ k => XS.ifYes X0.here hx rfl (pc0 := 29) (pc' := 35) rfl (hb hby at_29) rfl ((if0 _ _).trans (teq hf2).1) (by decide) (by decide) k) ?_
      refine Goes.by (T' := s₁) (g' := (mkF m 37 #[.val (.int x0), .val (.int x1), .val (.int x2), .val (.int n), .val (.int k0), .unset, .unset] [(.int k0)])) (fun _ k => XS.iload X0.here hx rfl (hb hby at_35) rfl k) ?_
      obtain ⟨dk, q_dk⟩ : ∃ z, FP.i2d k0 = z := ⟨_, rfl⟩
      refine Goes.by (T' := s₁) (g' := (mkF m 38 #[.val (.int x0), .val (.int x1), .val (.int x2), .val (.int n), .val (.int k0), .unset, .unset] [(.double dk)])) (fun _ k => XS.i2dS X0.here hx rfl (hb hby at_37) rfl q_dk k) ?_
      refine Goes.by (T' := s₁) (g' := (mkF m 39 #[.val (.int x0), .val (.int x1), .val (.int x2), .val (.int n), .val (.int k0), .unset, .unset] [(.int n), (.double dk)])) (fun _ k => XS.iloadN X0.here hx rfl (hb hby at_38) rfl k) ?_
      obtain ⟨dn, q_dn⟩ : ∃ z, FP.i2d n = z := ⟨_, rfl⟩
      refine Goes.by (T' := s₁) (g' := (mkF m 40 #[.val (.int x0), .val (.int x1), .val (.int x2), .val (.int n), .val (.int k0), .unset, .unset] [(.double dn), (.double dk)])) (fun _ k => XS.i2dS X0.here hx rfl (hb hby at_39) rfl q_dn k) ?_
      obtain ⟨hs1, hs2, hs3⟩ := own_share (DInt_i2d q_dk) (DInt_i2d q_dn) (by omega) (by omega) (by omega)
      rw [show FP.ddiv dk dn = FP.ddiv dk dn from rfl] at hs1
      obtain ⟨sh, q_sh⟩ : ∃ z, FP.ddiv dk dn = z := ⟨_, rfl⟩
      refine Goes.by (T' := s₁) (g' := (mkF m 41 #[.val (.int x0), .val (.int x1), .val (.int x2), .val (.int n), .val (.int k0), .unset, .unset] [(.double sh)])) (fun _ k => XS.ddivS X0.here hx rfl (hb hby at_40) rfl (by rw [q_sh]; exact (q_sh ▸ hs1)) q_sh k) ?_
      rw [q_sh] at hs2 hs3
      refine Goes.by (T' := s₁) (g' := (mkF m 43 #[.val (.int x0), .val (.int x1), .val (.int x2), .val (.int n), .val (.int k0), .val (.double sh), .second] [])) (fun _ k => XS.dstore X0.here hx rfl (hb hby at_41) rfl (l' := #[.val (.int x0), .val (.int x1), .val (.int x2), .val (.int n), .val (.int k0), .val (.double sh), .second]) rfl k) ?_
      refine Goes.by (T' := s₁) (g' := (mkF m 45 #[.val (.int x0), .val (.int x1), .val (.int x2), .val (.int n), .val (.int k0), .val (.double sh), .second] [(.double sh)])) (fun _ k => XS.dload X0.here hx rfl (hb hby at_43) rfl k) ?_
      obtain ⟨v1, T1, L1, X1, hQ1, st1⟩ := callC X0 hx hZ (y := (⟨"com/example/hqsim/hqsim/engine/statistics/QuantileHistogram", "checkShare", "(D)V"⟩ : MethodName)) hown (hw _ (List.mem_of_getElem? (i := 2) rfl)) (hw _ (List.mem_of_getElem? (i := 3) rfl)) (hw _ (List.mem_of_getElem? (i := 5) rfl)) (hw _ (List.mem_of_getElem? (i := 4) rfl)) (by decide) e0 (argsL := [(.double sh)]) (rest := []) (W := 0) (rmc l Z a0 hw sh h0 n0 Z0 hs2 hs3) rfl (by decide) (by decide) (by decide) (by decide) (g := (mkF m 45 #[.val (.int x0), .val (.int x1), .val (.int x2), .val (.int n), .val (.int k0), .val (.double sh), .second] [(.double sh)])) rfl (by rw [hml]; rfl) (lenOf pd0 rfl) rfl (by show 2 * 0 + _ ≤ _; exact Nat.le_of_eq rfl) (hb hby at_45)
      obtain ⟨rfl, NL1, hk1⟩ := hQ1
      have N0 := Fr.app N0 NL1
      refine Goes.by (T' := T1) (g' := (mkF m 48 #[.val (.int x0), .val (.int x1), .val (.int x2), .val (.int n), .val (.int k0), .val (.double sh), .second] [])) st1 ?_
      refine Goes.by (T' := T1) (g' := (mkF m 50 #[.val (.int x0), .val (.int x1), .val (.int x2), .val (.int n), .val (.int k0), .val (.double sh), .second] [(.double sh)])) (fun _ k => XS.dload X1.here hx rfl (hb hby at_48) rfl k) ?_
      refine Goes.by (T' := T1) (g' := (mkF m 51 #[.val (.int x0), .val (.int x1), .val (.int x2), .val (.int n), .val (.int k0), .val (.double sh), .second] [(.double (0 : UInt64)), (.double sh)])) (fun _ k => XS.dconst0 X1.here hx rfl (hb hby at_50) rfl k) ?_
      refine Goes.by (T' := T1) (g' := (mkF m 52 #[.val (.int x0), .val (.int x1), .val (.int x2), .val (.int n), .val (.int k0), .val (.double sh), .second] [(.int (1 : Int32))])) (fun _ k => XS.dcmpS X1.here hx rfl (hb hby at_51) rfl (by rw [hs2]; rfl) k) ?_
      refine Goes.by (T' := T1) (g' := (mkF m 55 #[.val (.int x0), .val (.int x1), .val (.int x2), .val (.int n), .val (.int k0), .val (.double sh), .second] [])) (fun _ k => XS.ifNo X1.here hx rfl (hb hby at_52) rfl (by decide) k) ?_
      refine Goes.by (T' := T1) (g' := (mkF m 57 #[.val (.int x0), .val (.int x1), .val (.int x2), .val (.int n), .val (.int k0), .val (.double sh), .second] [(.double sh)])) (fun _ k => XS.dload X1.here hx rfl (hb hby at_55) rfl k) ?_
      refine Goes.by (T' := T1) (g' := (mkF m 58 #[.val (.int x0), .val (.int x1), .val (.int x2), .val (.int n), .val (.int k0), .val (.double sh), .second] [(.double (4607182418800017408 : UInt64)), (.double sh)])) (fun _ k => XS.dconst1 X1.here hx rfl (hb hby at_57) rfl k) ?_
      rcases hs3 with hs3 | hs3
      · refine Goes.by (T' := T1) (g' := (mkF m 59 #[.val (.int x0), .val (.int x1), .val (.int x2), .val (.int n), .val (.int k0), .val (.double sh), .second] [(.int (-1 : Int32))])) (fun _ k => XS.dcmpS X1.here hx rfl (hb hby at_58) rfl (by rw [hs3]; rfl) k) ?_
        refine Goes.by (T' := T1) (g' := (mkF m 62 #[.val (.int x0), .val (.int x1), .val (.int x2), .val (.int n), .val (.int k0), .val (.double sh), .second] [])) (fun _ k => XS.ifNo X1.here hx rfl (hb hby at_59) rfl (by decide) k) ?_
        refine Goes.by (T' := T1) (g' := (mkF m 63 #[.val (.int x0), .val (.int x1), .val (.int x2), .val (.int n), .val (.int k0), .val (.double sh), .second] [(.int (1 : Int32))])) (fun _ k => XS.iconst X1.here hx rfl (hb hby at_62)  k) ?_
        refine Goes.by (T' := T1) (g' := (mkF m 67 #[.val (.int x0), .val (.int x1), .val (.int x2), .val (.int n), .val (.int k0), .val (.double sh), .second] [(.int (1 : Int32))])) (fun _ k => XS.goto X1.here hx rfl (pc0 := 63) (pc' := 67) rfl (hb hby at_63) (by decide) (by decide) k) ?_
        exact outZ X1 hx hlk hret (hb hby at_67) (by exact ⟨rfl, N0⟩) (by decide) (by decide)
      · refine Goes.by (T' := T1) (g' := (mkF m 59 #[.val (.int x0), .val (.int x1), .val (.int x2), .val (.int n), .val (.int k0), .val (.double sh), .second] [(.int (0 : Int32))])) (fun _ k => XS.dcmpS X1.here hx rfl (hb hby at_58) rfl (by rw [hs3]; rfl) k) ?_
        refine Goes.by (T' := T1) (g' := (mkF m 62 #[.val (.int x0), .val (.int x1), .val (.int x2), .val (.int n), .val (.int k0), .val (.double sh), .second] [])) (fun _ k => XS.ifNo X1.here hx rfl (hb hby at_59) rfl (by decide) k) ?_
        refine Goes.by (T' := T1) (g' := (mkF m 63 #[.val (.int x0), .val (.int x1), .val (.int x2), .val (.int n), .val (.int k0), .val (.double sh), .second] [(.int (1 : Int32))])) (fun _ k => XS.iconst X1.here hx rfl (hb hby at_62)  k) ?_
        refine Goes.by (T' := T1) (g' := (mkF m 67 #[.val (.int x0), .val (.int x1), .val (.int x2), .val (.int n), .val (.int k0), .val (.double sh), .second] [(.int (1 : Int32))])) (fun _ k => XS.goto X1.here hx rfl (pc0 := 63) (pc' := 67) rfl (hb hby at_63) (by decide) (by decide) k) ?_
        exact outZ X1 hx hlk hret (hb hby at_67) (by exact ⟨rfl, N0⟩) (by decide) (by decide)
    · refine Goes.by (T' := s₁) (g' := (mkF m 32 #[.val (.int x0), .val (.int x1), .val (.int x2), .val (.int n), .val (.int k0), .unset, .unset] [])) (fun _ k => XS.ifNo X0.here hx rfl (hb hby at_29) rfl ((if0 _ _).trans (feq hf2).1) k) ?_
      refine Goes.by (T' := s₁) (g' := (mkF m 33 #[.val (.int x0), .val (.int x1), .val (.int x2), .val (.int n), .val (.int k0), .unset, .unset] [(.int (1 : Int32))])) (fun _ k => XS.iconst X0.here hx rfl (hb hby at_32)  k) ?_
      refine Goes.by (T' := s₁) (g' := (mkF m 35 #[.val (.int x0), .val (.int x1), .val (.int x2), .val (.int n), .val (.int (1 : Int32)), .unset, .unset] [])) (fun _ k => XS.istore X0.here hx rfl (hb hby at_33) rfl (l' := #[.val (.int x0), .val (.int x1), .val (.int x2), .val (.int n), .val (.int (1 : Int32)), .unset, .unset]) rfl k) ?_
      refine Goes.by (T' := s₁) (g' := (mkF m 37 #[.val (.int x0), .val (.int x1), .val (.int x2), .val (.int n), .val (.int (1 : Int32)), .unset, .unset] [(.int (1 : Int32))])) (fun _ k => XS.iload X0.here hx rfl (hb hby at_35) rfl k) ?_
      obtain ⟨dk, q_dk⟩ : ∃ z, FP.i2d (1 : Int32) = z := ⟨_, rfl⟩
      refine Goes.by (T' := s₁) (g' := (mkF m 38 #[.val (.int x0), .val (.int x1), .val (.int x2), .val (.int n), .val (.int (1 : Int32)), .unset, .unset] [(.double dk)])) (fun _ k => XS.i2dS X0.here hx rfl (hb hby at_37) rfl q_dk k) ?_
      refine Goes.by (T' := s₁) (g' := (mkF m 39 #[.val (.int x0), .val (.int x1), .val (.int x2), .val (.int n), .val (.int (1 : Int32)), .unset, .unset] [(.int n), (.double dk)])) (fun _ k => XS.iloadN X0.here hx rfl (hb hby at_38) rfl k) ?_
      obtain ⟨dn, q_dn⟩ : ∃ z, FP.i2d n = z := ⟨_, rfl⟩
      refine Goes.by (T' := s₁) (g' := (mkF m 40 #[.val (.int x0), .val (.int x1), .val (.int x2), .val (.int n), .val (.int (1 : Int32)), .unset, .unset] [(.double dn), (.double dk)])) (fun _ k => XS.i2dS X0.here hx rfl (hb hby at_39) rfl q_dn k) ?_
      obtain ⟨hs1, hs2, hs3⟩ := own_share (DInt_i2d q_dk) (DInt_i2d q_dn) (by decide) (by exact hn.1) (by omega)
      rw [show FP.ddiv dk dn = FP.ddiv dk dn from rfl] at hs1
      obtain ⟨sh, q_sh⟩ : ∃ z, FP.ddiv dk dn = z := ⟨_, rfl⟩
      refine Goes.by (T' := s₁) (g' := (mkF m 41 #[.val (.int x0), .val (.int x1), .val (.int x2), .val (.int n), .val (.int (1 : Int32)), .unset, .unset] [(.double sh)])) (fun _ k => XS.ddivS X0.here hx rfl (hb hby at_40) rfl (by rw [q_sh]; exact (q_sh ▸ hs1)) q_sh k) ?_
      rw [q_sh] at hs2 hs3
      refine Goes.by (T' := s₁) (g' := (mkF m 43 #[.val (.int x0), .val (.int x1), .val (.int x2), .val (.int n), .val (.int (1 : Int32)), .val (.double sh), .second] [])) (fun _ k => XS.dstore X0.here hx rfl (hb hby at_41) rfl (l' := #[.val (.int x0), .val (.int x1), .val (.int x2), .val (.int n), .val (.int (1 : Int32)), .val (.double sh), .second]) rfl k) ?_
      refine Goes.by (T' := s₁) (g' := (mkF m 45 #[.val (.int x0), .val (.int x1), .val (.int x2), .val (.int n), .val (.int (1 : Int32)), .val (.double sh), .second] [(.double sh)])) (fun _ k => XS.dload X0.here hx rfl (hb hby at_43) rfl k) ?_
      obtain ⟨v2, T2, L2, X2, hQ2, st2⟩ := callC X0 hx hZ (y := (⟨"com/example/hqsim/hqsim/engine/statistics/QuantileHistogram", "checkShare", "(D)V"⟩ : MethodName)) hown (hw _ (List.mem_of_getElem? (i := 2) rfl)) (hw _ (List.mem_of_getElem? (i := 3) rfl)) (hw _ (List.mem_of_getElem? (i := 5) rfl)) (hw _ (List.mem_of_getElem? (i := 4) rfl)) (by decide) e0 (argsL := [(.double sh)]) (rest := []) (W := 0) (rmc l Z a0 hw sh h0 n0 Z0 hs2 hs3) rfl (by decide) (by decide) (by decide) (by decide) (g := (mkF m 45 #[.val (.int x0), .val (.int x1), .val (.int x2), .val (.int n), .val (.int (1 : Int32)), .val (.double sh), .second] [(.double sh)])) rfl (by rw [hml]; rfl) (lenOf pd0 rfl) rfl (by show 2 * 0 + _ ≤ _; exact Nat.le_of_eq rfl) (hb hby at_45)
      obtain ⟨rfl, NL2, hk2⟩ := hQ2
      have N0 := Fr.app N0 NL2
      refine Goes.by (T' := T2) (g' := (mkF m 48 #[.val (.int x0), .val (.int x1), .val (.int x2), .val (.int n), .val (.int (1 : Int32)), .val (.double sh), .second] [])) st2 ?_
      refine Goes.by (T' := T2) (g' := (mkF m 50 #[.val (.int x0), .val (.int x1), .val (.int x2), .val (.int n), .val (.int (1 : Int32)), .val (.double sh), .second] [(.double sh)])) (fun _ k => XS.dload X2.here hx rfl (hb hby at_48) rfl k) ?_
      refine Goes.by (T' := T2) (g' := (mkF m 51 #[.val (.int x0), .val (.int x1), .val (.int x2), .val (.int n), .val (.int (1 : Int32)), .val (.double sh), .second] [(.double (0 : UInt64)), (.double sh)])) (fun _ k => XS.dconst0 X2.here hx rfl (hb hby at_50) rfl k) ?_
      refine Goes.by (T' := T2) (g' := (mkF m 52 #[.val (.int x0), .val (.int x1), .val (.int x2), .val (.int n), .val (.int (1 : Int32)), .val (.double sh), .second] [(.int (1 : Int32))])) (fun _ k => XS.dcmpS X2.here hx rfl (hb hby at_51) rfl (by rw [hs2]; rfl) k) ?_
      refine Goes.by (T' := T2) (g' := (mkF m 55 #[.val (.int x0), .val (.int x1), .val (.int x2), .val (.int n), .val (.int (1 : Int32)), .val (.double sh), .second] [])) (fun _ k => XS.ifNo X2.here hx rfl (hb hby at_52) rfl (by decide) k) ?_
      refine Goes.by (T' := T2) (g' := (mkF m 57 #[.val (.int x0), .val (.int x1), .val (.int x2), .val (.int n), .val (.int (1 : Int32)), .val (.double sh), .second] [(.double sh)])) (fun _ k => XS.dload X2.here hx rfl (hb hby at_55) rfl k) ?_
      refine Goes.by (T' := T2) (g' := (mkF m 58 #[.val (.int x0), .val (.int x1), .val (.int x2), .val (.int n), .val (.int (1 : Int32)), .val (.double sh), .second] [(.double (4607182418800017408 : UInt64)), (.double sh)])) (fun _ k => XS.dconst1 X2.here hx rfl (hb hby at_57) rfl k) ?_
      rcases hs3 with hs3 | hs3
      · refine Goes.by (T' := T2) (g' := (mkF m 59 #[.val (.int x0), .val (.int x1), .val (.int x2), .val (.int n), .val (.int (1 : Int32)), .val (.double sh), .second] [(.int (-1 : Int32))])) (fun _ k => XS.dcmpS X2.here hx rfl (hb hby at_58) rfl (by rw [hs3]; rfl) k) ?_
        refine Goes.by (T' := T2) (g' := (mkF m 62 #[.val (.int x0), .val (.int x1), .val (.int x2), .val (.int n), .val (.int (1 : Int32)), .val (.double sh), .second] [])) (fun _ k => XS.ifNo X2.here hx rfl (hb hby at_59) rfl (by decide) k) ?_
        refine Goes.by (T' := T2) (g' := (mkF m 63 #[.val (.int x0), .val (.int x1), .val (.int x2), .val (.int n), .val (.int (1 : Int32)), .val (.double sh), .second] [(.int (1 : Int32))])) (fun _ k => XS.iconst X2.here hx rfl (hb hby at_62)  k) ?_
        refine Goes.by (T' := T2) (g' := (mkF m 67 #[.val (.int x0), .val (.int x1), .val (.int x2), .val (.int n), .val (.int (1 : Int32)), .val (.double sh), .second] [(.int (1 : Int32))])) (fun _ k => XS.goto X2.here hx rfl (pc0 := 63) (pc' := 67) rfl (hb hby at_63) (by decide) (by decide) k) ?_
        exact outZ X2 hx hlk hret (hb hby at_67) (by exact ⟨rfl, N0⟩) (by decide) (by decide)
      · refine Goes.by (T' := T2) (g' := (mkF m 59 #[.val (.int x0), .val (.int x1), .val (.int x2), .val (.int n), .val (.int (1 : Int32)), .val (.double sh), .second] [(.int (0 : Int32))])) (fun _ k => XS.dcmpS X2.here hx rfl (hb hby at_58) rfl (by rw [hs3]; rfl) k) ?_
        refine Goes.by (T' := T2) (g' := (mkF m 62 #[.val (.int x0), .val (.int x1), .val (.int x2), .val (.int n), .val (.int (1 : Int32)), .val (.double sh), .second] [])) (fun _ k => XS.ifNo X2.here hx rfl (hb hby at_59) rfl (by decide) k) ?_
        refine Goes.by (T' := T2) (g' := (mkF m 63 #[.val (.int x0), .val (.int x1), .val (.int x2), .val (.int n), .val (.int (1 : Int32)), .val (.double sh), .second] [(.int (1 : Int32))])) (fun _ k => XS.iconst X2.here hx rfl (hb hby at_62)  k) ?_
        refine Goes.by (T' := T2) (g' := (mkF m 67 #[.val (.int x0), .val (.int x1), .val (.int x2), .val (.int n), .val (.int (1 : Int32)), .val (.double sh), .second] [(.int (1 : Int32))])) (fun _ k => XS.goto X2.here hx rfl (pc0 := 63) (pc' := 67) rfl (hb hby at_63) (by decide) (by decide) k) ?_
        exact outZ X2 hx hlk hret (hb hby at_67) (by exact ⟨rfl, N0⟩) (by decide) (by decide)
  · refine Goes.by (T' := s₁) (g' := (mkF m 23 #[.val (.int x0), .val (.int x1), .val (.int x2), .val (.int n), .val (.int k0), .unset, .unset] [])) (fun _ k => XS.ifNo X0.here hx rfl (hb hby at_20) rfl ((if0 _ _).trans (feq hf1).1) k) ?_
    refine Goes.by (T' := s₁) (g' := (mkF m 24 #[.val (.int x0), .val (.int x1), .val (.int x2), .val (.int n), .val (.int k0), .unset, .unset] [(.int n)])) (fun _ k => XS.iloadN X0.here hx rfl (hb hby at_23) rfl k) ?_
    refine Goes.by (T' := s₁) (g' := (mkF m 26 #[.val (.int x0), .val (.int x1), .val (.int x2), .val (.int n), .val (.int n), .unset, .unset] [])) (fun _ k => XS.istore X0.here hx rfl (hb hby at_24) rfl (l' := #[.val (.int x0), .val (.int x1), .val (.int x2), .val (.int n), .val (.int n), .unset, .unset]) rfl k) ?_
    refine Goes.by (T' := s₁) (g' := (mkF m 27 #[.val (.int x0), .val (.int x1), .val (.int x2), .val (.int n), .val (.int n), .unset, .unset] [(.int x2)])) (fun _ k => XS.iloadN X0.here hx rfl (hb hby at_26) rfl k) ?_
    refine Goes.by (T' := s₁) (g' := (mkF m 28 #[.val (.int x0), .val (.int x1), .val (.int x2), .val (.int n), .val (.int n), .unset, .unset] [(.int (2 : Int32)), (.int x2)])) (fun _ k => XS.iconst X0.here hx rfl (hb hby at_27)  k) ?_
    refine Goes.by (T' := s₁) (g' := (mkF m 29 #[.val (.int x0), .val (.int x1), .val (.int x2), .val (.int n), .val (.int n), .unset, .unset] [(.int (x2 &&& (2 : Int32)))])) (fun _ k => XS.iand X0.here hx rfl (hb hby at_28) rfl k) ?_
    by_cases hf2 : (x2 &&& (2 : Int32)) = (0 : Int32)
    · refine Goes.by (T' := s₁) (g' := (mkF m 35 #[.val (.int x0), .val (.int x1), .val (.int x2), .val (.int n), .val (.int n), .unset, .unset] [])) (fun _ k => XS.ifYes X0.here hx rfl (pc0 := 29) (pc' := 35) rfl (hb hby at_29) rfl ((if0 _ _).trans (teq hf2).1) (by decide) (by decide) k) ?_
      refine Goes.by (T' := s₁) (g' := (mkF m 37 #[.val (.int x0), .val (.int x1), .val (.int x2), .val (.int n), .val (.int n), .unset, .unset] [(.int n)])) (fun _ k => XS.iload X0.here hx rfl (hb hby at_35) rfl k) ?_
      obtain ⟨dk, q_dk⟩ : ∃ z, FP.i2d n = z := ⟨_, rfl⟩
      refine Goes.by (T' := s₁) (g' := (mkF m 38 #[.val (.int x0), .val (.int x1), .val (.int x2), .val (.int n), .val (.int n), .unset, .unset] [(.double dk)])) (fun _ k => XS.i2dS X0.here hx rfl (hb hby at_37) rfl q_dk k) ?_
      refine Goes.by (T' := s₁) (g' := (mkF m 39 #[.val (.int x0), .val (.int x1), .val (.int x2), .val (.int n), .val (.int n), .unset, .unset] [(.int n), (.double dk)])) (fun _ k => XS.iloadN X0.here hx rfl (hb hby at_38) rfl k) ?_
      obtain ⟨dn, q_dn⟩ : ∃ z, FP.i2d n = z := ⟨_, rfl⟩
      refine Goes.by (T' := s₁) (g' := (mkF m 40 #[.val (.int x0), .val (.int x1), .val (.int x2), .val (.int n), .val (.int n), .unset, .unset] [(.double dn), (.double dk)])) (fun _ k => XS.i2dS X0.here hx rfl (hb hby at_39) rfl q_dn k) ?_
      obtain ⟨hs1, hs2, hs3⟩ := own_share (DInt_i2d q_dk) (DInt_i2d q_dn) (by omega) (by omega) (by omega)
      rw [show FP.ddiv dk dn = FP.ddiv dk dn from rfl] at hs1
      obtain ⟨sh, q_sh⟩ : ∃ z, FP.ddiv dk dn = z := ⟨_, rfl⟩
      refine Goes.by (T' := s₁) (g' := (mkF m 41 #[.val (.int x0), .val (.int x1), .val (.int x2), .val (.int n), .val (.int n), .unset, .unset] [(.double sh)])) (fun _ k => XS.ddivS X0.here hx rfl (hb hby at_40) rfl (by rw [q_sh]; exact (q_sh ▸ hs1)) q_sh k) ?_
      rw [q_sh] at hs2 hs3
      refine Goes.by (T' := s₁) (g' := (mkF m 43 #[.val (.int x0), .val (.int x1), .val (.int x2), .val (.int n), .val (.int n), .val (.double sh), .second] [])) (fun _ k => XS.dstore X0.here hx rfl (hb hby at_41) rfl (l' := #[.val (.int x0), .val (.int x1), .val (.int x2), .val (.int n), .val (.int n), .val (.double sh), .second]) rfl k) ?_
      refine Goes.by (T' := s₁) (g' := (mkF m 45 #[.val (.int x0), .val (.int x1), .val (.int x2), .val (.int n), .val (.int n), .val (.double sh), .second] [(.double sh)])) (fun _ k => XS.dload X0.here hx rfl (hb hby at_43) rfl k) ?_
      obtain ⟨v3, T3, L3, X3, hQ3, st3⟩ := callC X0 hx hZ (y := (⟨"com/example/hqsim/hqsim/engine/statistics/QuantileHistogram", "checkShare", "(D)V"⟩ : MethodName)) hown (hw _ (List.mem_of_getElem? (i := 2) rfl)) (hw _ (List.mem_of_getElem? (i := 3) rfl)) (hw _ (List.mem_of_getElem? (i := 5) rfl)) (hw _ (List.mem_of_getElem? (i := 4) rfl)) (by decide) e0 (argsL := [(.double sh)]) (rest := []) (W := 0) (rmc l Z a0 hw sh h0 n0 Z0 hs2 hs3) rfl (by decide) (by decide) (by decide) (by decide) (g := (mkF m 45 #[.val (.int x0), .val (.int x1), .val (.int x2), .val (.int n), .val (.int n), .val (.double sh), .second] [(.double sh)])) rfl (by rw [hml]; rfl) (lenOf pd0 rfl) rfl (by show 2 * 0 + _ ≤ _; exact Nat.le_of_eq rfl) (hb hby at_45)
      obtain ⟨rfl, NL3, hk3⟩ := hQ3
      have N0 := Fr.app N0 NL3
      refine Goes.by (T' := T3) (g' := (mkF m 48 #[.val (.int x0), .val (.int x1), .val (.int x2), .val (.int n), .val (.int n), .val (.double sh), .second] [])) st3 ?_
      refine Goes.by (T' := T3) (g' := (mkF m 50 #[.val (.int x0), .val (.int x1), .val (.int x2), .val (.int n), .val (.int n), .val (.double sh), .second] [(.double sh)])) (fun _ k => XS.dload X3.here hx rfl (hb hby at_48) rfl k) ?_
      refine Goes.by (T' := T3) (g' := (mkF m 51 #[.val (.int x0), .val (.int x1), .val (.int x2), .val (.int n), .val (.int n), .val (.double sh), .second] [(.double (0 : UInt64)), (.double sh)])) (fun _ k => XS.dconst0 X3.here hx rfl (hb hby at_50) rfl k) ?_
      refine Goes.by (T' := T3) (g' := (mkF m 52 #[.val (.int x0), .val (.int x1), .val (.int x2), .val (.int n), .val (.int n), .val (.double sh), .second] [(.int (1 : Int32))])) (fun _ k => XS.dcmpS X3.here hx rfl (hb hby at_51) rfl (by rw [hs2]; rfl) k) ?_
      refine Goes.by (T' := T3) (g' := (mkF m 55 #[.val (.int x0), .val (.int x1), .val (.int x2), .val (.int n), .val (.int n), .val (.double sh), .second] [])) (fun _ k => XS.ifNo X3.here hx rfl (hb hby at_52) rfl (by decide) k) ?_
      refine Goes.by (T' := T3) (g' := (mkF m 57 #[.val (.int x0), .val (.int x1), .val (.int x2), .val (.int n), .val (.int n), .val (.double sh), .second] [(.double sh)])) (fun _ k => XS.dload X3.here hx rfl (hb hby at_55) rfl k) ?_
      refine Goes.by (T' := T3) (g' := (mkF m 58 #[.val (.int x0), .val (.int x1), .val (.int x2), .val (.int n), .val (.int n), .val (.double sh), .second] [(.double (4607182418800017408 : UInt64)), (.double sh)])) (fun _ k => XS.dconst1 X3.here hx rfl (hb hby at_57) rfl k) ?_
      rcases hs3 with hs3 | hs3
      · refine Goes.by (T' := T3) (g' := (mkF m 59 #[.val (.int x0), .val (.int x1), .val (.int x2), .val (.int n), .val (.int n), .val (.double sh), .second] [(.int (-1 : Int32))])) (fun _ k => XS.dcmpS X3.here hx rfl (hb hby at_58) rfl (by rw [hs3]; rfl) k) ?_
        refine Goes.by (T' := T3) (g' := (mkF m 62 #[.val (.int x0), .val (.int x1), .val (.int x2), .val (.int n), .val (.int n), .val (.double sh), .second] [])) (fun _ k => XS.ifNo X3.here hx rfl (hb hby at_59) rfl (by decide) k) ?_
        refine Goes.by (T' := T3) (g' := (mkF m 63 #[.val (.int x0), .val (.int x1), .val (.int x2), .val (.int n), .val (.int n), .val (.double sh), .second] [(.int (1 : Int32))])) (fun _ k => XS.iconst X3.here hx rfl (hb hby at_62)  k) ?_
        refine Goes.by (T' := T3) (g' := (mkF m 67 #[.val (.int x0), .val (.int x1), .val (.int x2), .val (.int n), .val (.int n), .val (.double sh), .second] [(.int (1 : Int32))])) (fun _ k => XS.goto X3.here hx rfl (pc0 := 63) (pc' := 67) rfl (hb hby at_63) (by decide) (by decide) k) ?_
        exact outZ X3 hx hlk hret (hb hby at_67) (by exact ⟨rfl, N0⟩) (by decide) (by decide)
      · refine Goes.by (T' := T3) (g' := (mkF m 59 #[.val (.int x0), .val (.int x1), .val (.int x2), .val (.int n), .val (.int n), .val (.double sh), .second] [(.int (0 : Int32))])) (fun _ k => XS.dcmpS X3.here hx rfl (hb hby at_58) rfl (by rw [hs3]; rfl) k) ?_
        refine Goes.by (T' := T3) (g' := (mkF m 62 #[.val (.int x0), .val (.int x1), .val (.int x2), .val (.int n), .val (.int n), .val (.double sh), .second] [])) (fun _ k => XS.ifNo X3.here hx rfl (hb hby at_59) rfl (by decide) k) ?_
        refine Goes.by (T' := T3) (g' := (mkF m 63 #[.val (.int x0), .val (.int x1), .val (.int x2), .val (.int n), .val (.int n), .val (.double sh), .second] [(.int (1 : Int32))])) (fun _ k => XS.iconst X3.here hx rfl (hb hby at_62)  k) ?_
        refine Goes.by (T' := T3) (g' := (mkF m 67 #[.val (.int x0), .val (.int x1), .val (.int x2), .val (.int n), .val (.int n), .val (.double sh), .second] [(.int (1 : Int32))])) (fun _ k => XS.goto X3.here hx rfl (pc0 := 63) (pc' := 67) rfl (hb hby at_63) (by decide) (by decide) k) ?_
        exact outZ X3 hx hlk hret (hb hby at_67) (by exact ⟨rfl, N0⟩) (by decide) (by decide)
    · refine Goes.by (T' := s₁) (g' := (mkF m 32 #[.val (.int x0), .val (.int x1), .val (.int x2), .val (.int n), .val (.int n), .unset, .unset] [])) (fun _ k => XS.ifNo X0.here hx rfl (hb hby at_29) rfl ((if0 _ _).trans (feq hf2).1) k) ?_
      refine Goes.by (T' := s₁) (g' := (mkF m 33 #[.val (.int x0), .val (.int x1), .val (.int x2), .val (.int n), .val (.int n), .unset, .unset] [(.int (1 : Int32))])) (fun _ k => XS.iconst X0.here hx rfl (hb hby at_32)  k) ?_
      refine Goes.by (T' := s₁) (g' := (mkF m 35 #[.val (.int x0), .val (.int x1), .val (.int x2), .val (.int n), .val (.int (1 : Int32)), .unset, .unset] [])) (fun _ k => XS.istore X0.here hx rfl (hb hby at_33) rfl (l' := #[.val (.int x0), .val (.int x1), .val (.int x2), .val (.int n), .val (.int (1 : Int32)), .unset, .unset]) rfl k) ?_
      refine Goes.by (T' := s₁) (g' := (mkF m 37 #[.val (.int x0), .val (.int x1), .val (.int x2), .val (.int n), .val (.int (1 : Int32)), .unset, .unset] [(.int (1 : Int32))])) (fun _ k => XS.iload X0.here hx rfl (hb hby at_35) rfl k) ?_
      obtain ⟨dk, q_dk⟩ : ∃ z, FP.i2d (1 : Int32) = z := ⟨_, rfl⟩
      refine Goes.by (T' := s₁) (g' := (mkF m 38 #[.val (.int x0), .val (.int x1), .val (.int x2), .val (.int n), .val (.int (1 : Int32)), .unset, .unset] [(.double dk)])) (fun _ k => XS.i2dS X0.here hx rfl (hb hby at_37) rfl q_dk k) ?_
      refine Goes.by (T' := s₁) (g' := (mkF m 39 #[.val (.int x0), .val (.int x1), .val (.int x2), .val (.int n), .val (.int (1 : Int32)), .unset, .unset] [(.int n), (.double dk)])) (fun _ k => XS.iloadN X0.here hx rfl (hb hby at_38) rfl k) ?_
      obtain ⟨dn, q_dn⟩ : ∃ z, FP.i2d n = z := ⟨_, rfl⟩
      refine Goes.by (T' := s₁) (g' := (mkF m 40 #[.val (.int x0), .val (.int x1), .val (.int x2), .val (.int n), .val (.int (1 : Int32)), .unset, .unset] [(.double dn), (.double dk)])) (fun _ k => XS.i2dS X0.here hx rfl (hb hby at_39) rfl q_dn k) ?_
      obtain ⟨hs1, hs2, hs3⟩ := own_share (DInt_i2d q_dk) (DInt_i2d q_dn) (by decide) (by exact hn.1) (by omega)
      rw [show FP.ddiv dk dn = FP.ddiv dk dn from rfl] at hs1
      obtain ⟨sh, q_sh⟩ : ∃ z, FP.ddiv dk dn = z := ⟨_, rfl⟩
      refine Goes.by (T' := s₁) (g' := (mkF m 41 #[.val (.int x0), .val (.int x1), .val (.int x2), .val (.int n), .val (.int (1 : Int32)), .unset, .unset] [(.double sh)])) (fun _ k => XS.ddivS X0.here hx rfl (hb hby at_40) rfl (by rw [q_sh]; exact (q_sh ▸ hs1)) q_sh k) ?_
      rw [q_sh] at hs2 hs3
      refine Goes.by (T' := s₁) (g' := (mkF m 43 #[.val (.int x0), .val (.int x1), .val (.int x2), .val (.int n), .val (.int (1 : Int32)), .val (.double sh), .second] [])) (fun _ k => XS.dstore X0.here hx rfl (hb hby at_41) rfl (l' := #[.val (.int x0), .val (.int x1), .val (.int x2), .val (.int n), .val (.int (1 : Int32)), .val (.double sh), .second]) rfl k) ?_
      refine Goes.by (T' := s₁) (g' := (mkF m 45 #[.val (.int x0), .val (.int x1), .val (.int x2), .val (.int n), .val (.int (1 : Int32)), .val (.double sh), .second] [(.double sh)])) (fun _ k => XS.dload X0.here hx rfl (hb hby at_43) rfl k) ?_
      obtain ⟨v4, T4, L4, X4, hQ4, st4⟩ := callC X0 hx hZ (y := (⟨"com/example/hqsim/hqsim/engine/statistics/QuantileHistogram", "checkShare", "(D)V"⟩ : MethodName)) hown (hw _ (List.mem_of_getElem? (i := 2) rfl)) (hw _ (List.mem_of_getElem? (i := 3) rfl)) (hw _ (List.mem_of_getElem? (i := 5) rfl)) (hw _ (List.mem_of_getElem? (i := 4) rfl)) (by decide) e0 (argsL := [(.double sh)]) (rest := []) (W := 0) (rmc l Z a0 hw sh h0 n0 Z0 hs2 hs3) rfl (by decide) (by decide) (by decide) (by decide) (g := (mkF m 45 #[.val (.int x0), .val (.int x1), .val (.int x2), .val (.int n), .val (.int (1 : Int32)), .val (.double sh), .second] [(.double sh)])) rfl (by rw [hml]; rfl) (lenOf pd0 rfl) rfl (by show 2 * 0 + _ ≤ _; exact Nat.le_of_eq rfl) (hb hby at_45)
      obtain ⟨rfl, NL4, hk4⟩ := hQ4
      have N0 := Fr.app N0 NL4
      refine Goes.by (T' := T4) (g' := (mkF m 48 #[.val (.int x0), .val (.int x1), .val (.int x2), .val (.int n), .val (.int (1 : Int32)), .val (.double sh), .second] [])) st4 ?_
      refine Goes.by (T' := T4) (g' := (mkF m 50 #[.val (.int x0), .val (.int x1), .val (.int x2), .val (.int n), .val (.int (1 : Int32)), .val (.double sh), .second] [(.double sh)])) (fun _ k => XS.dload X4.here hx rfl (hb hby at_48) rfl k) ?_
      refine Goes.by (T' := T4) (g' := (mkF m 51 #[.val (.int x0), .val (.int x1), .val (.int x2), .val (.int n), .val (.int (1 : Int32)), .val (.double sh), .second] [(.double (0 : UInt64)), (.double sh)])) (fun _ k => XS.dconst0 X4.here hx rfl (hb hby at_50) rfl k) ?_
      refine Goes.by (T' := T4) (g' := (mkF m 52 #[.val (.int x0), .val (.int x1), .val (.int x2), .val (.int n), .val (.int (1 : Int32)), .val (.double sh), .second] [(.int (1 : Int32))])) (fun _ k => XS.dcmpS X4.here hx rfl (hb hby at_51) rfl (by rw [hs2]; rfl) k) ?_
      refine Goes.by (T' := T4) (g' := (mkF m 55 #[.val (.int x0), .val (.int x1), .val (.int x2), .val (.int n), .val (.int (1 : Int32)), .val (.double sh), .second] [])) (fun _ k => XS.ifNo X4.here hx rfl (hb hby at_52) rfl (by decide) k) ?_
      refine Goes.by (T' := T4) (g' := (mkF m 57 #[.val (.int x0), .val (.int x1), .val (.int x2), .val (.int n), .val (.int (1 : Int32)), .val (.double sh), .second] [(.double sh)])) (fun _ k => XS.dload X4.here hx rfl (hb hby at_55) rfl k) ?_
      refine Goes.by (T' := T4) (g' := (mkF m 58 #[.val (.int x0), .val (.int x1), .val (.int x2), .val (.int n), .val (.int (1 : Int32)), .val (.double sh), .second] [(.double (4607182418800017408 : UInt64)), (.double sh)])) (fun _ k => XS.dconst1 X4.here hx rfl (hb hby at_57) rfl k) ?_
      rcases hs3 with hs3 | hs3
      · refine Goes.by (T' := T4) (g' := (mkF m 59 #[.val (.int x0), .val (.int x1), .val (.int x2), .val (.int n), .val (.int (1 : Int32)), .val (.double sh), .second] [(.int (-1 : Int32))])) (fun _ k => XS.dcmpS X4.here hx rfl (hb hby at_58) rfl (by rw [hs3]; rfl) k) ?_
        refine Goes.by (T' := T4) (g' := (mkF m 62 #[.val (.int x0), .val (.int x1), .val (.int x2), .val (.int n), .val (.int (1 : Int32)), .val (.double sh), .second] [])) (fun _ k => XS.ifNo X4.here hx rfl (hb hby at_59) rfl (by decide) k) ?_
        refine Goes.by (T' := T4) (g' := (mkF m 63 #[.val (.int x0), .val (.int x1), .val (.int x2), .val (.int n), .val (.int (1 : Int32)), .val (.double sh), .second] [(.int (1 : Int32))])) (fun _ k => XS.iconst X4.here hx rfl (hb hby at_62)  k) ?_
        refine Goes.by (T' := T4) (g' := (mkF m 67 #[.val (.int x0), .val (.int x1), .val (.int x2), .val (.int n), .val (.int (1 : Int32)), .val (.double sh), .second] [(.int (1 : Int32))])) (fun _ k => XS.goto X4.here hx rfl (pc0 := 63) (pc' := 67) rfl (hb hby at_63) (by decide) (by decide) k) ?_
        exact outZ X4 hx hlk hret (hb hby at_67) (by exact ⟨rfl, N0⟩) (by decide) (by decide)
      · refine Goes.by (T' := T4) (g' := (mkF m 59 #[.val (.int x0), .val (.int x1), .val (.int x2), .val (.int n), .val (.int (1 : Int32)), .val (.double sh), .second] [(.int (0 : Int32))])) (fun _ k => XS.dcmpS X4.here hx rfl (hb hby at_58) rfl (by rw [hs3]; rfl) k) ?_
        refine Goes.by (T' := T4) (g' := (mkF m 62 #[.val (.int x0), .val (.int x1), .val (.int x2), .val (.int n), .val (.int (1 : Int32)), .val (.double sh), .second] [])) (fun _ k => XS.ifNo X4.here hx rfl (hb hby at_59) rfl (by decide) k) ?_
        refine Goes.by (T' := T4) (g' := (mkF m 63 #[.val (.int x0), .val (.int x1), .val (.int x2), .val (.int n), .val (.int (1 : Int32)), .val (.double sh), .second] [(.int (1 : Int32))])) (fun _ k => XS.iconst X4.here hx rfl (hb hby at_62)  k) ?_
        refine Goes.by (T' := T4) (g' := (mkF m 67 #[.val (.int x0), .val (.int x1), .val (.int x2), .val (.int n), .val (.int (1 : Int32)), .val (.double sh), .second] [(.int (1 : Int32))])) (fun _ k => XS.goto X4.here hx rfl (pc0 := 63) (pc' := 67) rfl (hb hby at_63) (by decide) (by decide) k) ?_
        exact outZ X4 hx hlk hret (hb hby at_67) (by exact ⟨rfl, N0⟩) (by decide) (by decide)
set_option maxRecDepth 65536 in
set_option maxHeartbeats 40000000 in
theorem comes_1 {Post : Tables → Env → Array Value → State → Outcome → State → Prop} (hpost : ∀ tb e args s v u, (limb_1_1.after args s (.returned v) u = true ∧ limb_1_2.after args s (.returned v) u = true ∧ True) → FrameEnd s (.returned v) u (Jvm.fieldLocs frame_1_writes args s ++ Jvm.arrayLocs frame_1_arrays args s ++ Jvm.staticLocs frame_1_statics s) 0 0 → Post tb e args s (.returned v) u) :
    ArmFor flags0 classFile x code maxLocals ret World_1 tables_1 room_1 Calls_1 rest_1 Pre_1 Post := by
  intro l hfl _ _ p e ha hc hk s m args below hf hA hF happ hP
  obtain ⟨hcalls, hrest, hpre⟩ := hP
  obtain ⟨-, -, -, hnamed, -, -, -, hat⟩ := (Spec.applies_iff hf).mp happ
  obtain ⟨hg, hn⟩ := and_e (Cond.before_iff.mp (show (Jvm.Cond.and given_1 narrow_1).before args s = true from hpre))
  obtain ⟨g0, t0⟩ := and_e hg
  obtain ⟨g1, t1⟩ := and_e t0
  obtain ⟨g2, t2⟩ := and_e t1
  obtain ⟨w0, w1, w2, rfl⟩ : ∃ w0 w1 w2 : Value, args = #[w0, w1, w2] := by
    have hs : args.size = 3 := by simpa [Cond.value, given_1] using g0
    obtain ⟨L⟩ := args
    match L, hs with
    | [w0, w1, w2], _ => exact ⟨w0, w1, w2, rfl⟩
  have hw := fun d (hd : d ∈ tables_1) => atoms_spec (ws := Jvm.Cond.code x code maxLocals ret :: tables_1) hat d (List.mem_cons_of_mem _ hd)
  obtain ⟨i0, e0⟩ := is_v g1
  obtain rfl : w0 = (.int i0) := Option.some.inj e0
  obtain ⟨i1, e1⟩ := is_v g2
  obtain rfl : w1 = (.int i1) := Option.some.inj e1
  obtain ⟨i2, e2⟩ := is_v t2
  obtain rfl : w2 = (.int i2) := Option.some.inj e2
  obtain ⟨n, o, h1, h2, h3, _, L, rfl, ⟨rfl, N⟩, hq⟩ := rm_law l s _ hw i0 i1 i2 s.heap s.heap.size (Nat.le_refl _)  p e ha hc hk s m _ below hf ((Spec.applies_iff_loose hf).mp happ).1 ⟨rfl, State.Warmed39.refl s, rfl⟩ trivial
  refine ⟨n, _, h1, h2, h3, hpost _ _ _ _ _ _ ⟨Cond.after_iff.mpr rfl, Cond.after_iff.mpr (eq_i res_at (Term.int_eval (1)) rfl), trivial⟩ ⟨hq.1, hq.2.1, (hq.2.2.sift fun y hy => Or.inr (N y hy)).mono (by decide) (by decide)⟩⟩
theorem main_1_1 : Claimed_1_1 := comes_1 fun _ _ _ _ _ _ h hF => ⟨h.1, hF⟩
theorem main_1_2 : Claimed_1_2 := comes_1 fun _ _ _ _ _ _ h hF => ⟨h.2.1, hF⟩
end Jvm.Pilot.@@N@@
namespace Jvm.Pilot.@@N@@
open Jvm Jvm.ClassFile Sem Op Lib Jvm.Free Jvm.Stand Jvm.Pilot.@@N@@.Jvm.D
/-! MADE BY PROGRAM (witnessworld.py) out of the Statement's table words and the real class files: 9 classes; the members and pool entries that the words name. The judged class is class 1, her method 1. -/
namespace start1
open Jvm.ClassFile
def u (s : String) : CpInfo := .utf8 (stringToUtf16 s)
/-- a pool by its gaps: so many unusable entries, then the entry; so many at the end -/
def gap : Nat → List CpInfo → List CpInfo
  | 0, r => r
  | n + 1, r => .unusable :: gap n r
def poolList (es : List (Nat × CpInfo)) (last : Nat) : List CpInfo := es.foldr (fun e r => gap e.1 (e.2 :: r)) (gap last [])
def pool (es : List (Nat × CpInfo)) (last : Nat) : Array CpInfo := ⟨poolList es last⟩
def fileOf (pool : Array CpInfo) (this : Nat) (attrs : Array Attribute := #[]) (ms : Array MethodInfo := #[]) (fl : Nat := 33) (sup : Nat := 0) (ifs : Array Nat := #[]) (fds : Array FieldInfo := #[]) : ClassFile where
  minorVersion := 0
  majorVersion := 65
  constantPool := pool
  accessFlags := fl
  thisClass := this
  superClass := sup
  interfaces := ifs
  fields := fds
  methods := ms
  attributes := attrs
def plain (name : String) (sup : Option ClassId) : Class where
  name := name
  kind := .ordinary
  loader := none
  accessFlags := 33
  super := sup
  interfaces := #[]
  cf := none
  fields := #[]
  methods := #[]
  instanceTypes := #[]
  staticTypes := #[]
  resolved := #[]
  callSites := []
  init := .initialized
  statics := none
  mirror := none

def pool0 : Array CpInfo := pool [(5, u "<init>"), (0, u "()V"), (1, .class_ 10), (1, u "java/lang/Object")] 113

def k0m0 : Method := { name := "<init>", desc := "()V", sig := { parameters := [], returnType := none }, accessFlags := 1, code := none }
/-- java/lang/Object -/
def k0 : Class := { plain "java/lang/Object" none with
  accessFlags := 33
  interfaces := #[]
  cf := some (fileOf pool0 8 #[] #[{ accessFlags := 1, nameIndex := 5, descriptorIndex := 6, attributes := #[] }] 33 0 #[] #[])
  fields := #[]
  methods := #[k0m0]
  instanceTypes := #[]
  staticTypes := #[]
  resolved := Array.replicate 124 none
  statics := none }

def pool1 : Array CpInfo := pool [(2, .class_ 4), (1, u "java/lang/Object"), (0, u "<init>"), (0, u "()V"), (0, .integer 1073741823), (0, .integer 2147483647), (0, .methodref 10 11), (0, .class_ 12), (0, .nameAndType 13 14), (0, u "com/example/hqsim/hqsim/engine/statistics/QuantileHistogram"), (0, u "checkShare"), (0, u "(D)V"), (0, .class_ 16), (0, u "com/example/hqsim/hqsim/engine/statistics/QuantileHistogramCheckSharePinLaw"), (2, u "law"), (0, u "(III)Z")] 3

def k1m0 : Method := { name := "<init>", desc := "()V", sig := { parameters := [], returnType := none }, accessFlags := 1, code := none }
def k1c1 : Code := { maxStack := 4, maxLocals := 7, code := code, exceptionTable := #[], attributes := #[] }
def k1m1 : Method := { name := "law", desc := "(III)Z", sig := { parameters := [.int, .int, .int], returnType := some .boolean }, accessFlags := 9, code := some k1c1 }
/-- com/example/hqsim/hqsim/engine/statistics/QuantileHistogramCheckSharePinLaw -/
def k1 : Class := { plain "com/example/hqsim/hqsim/engine/statistics/QuantileHistogramCheckSharePinLaw" (some 0) with
  accessFlags := 49
  interfaces := #[]
  cf := some (fileOf pool1 15 #[] #[{ accessFlags := 1, nameIndex := 5, descriptorIndex := 6, attributes := #[] }, { accessFlags := 9, nameIndex := 19, descriptorIndex := 20, attributes := #[] }] 49 2 #[] #[])
  fields := #[]
  methods := #[k1m0, k1m1]
  instanceTypes := #[]
  staticTypes := #[]
  resolved := Array.replicate 24 none
  statics := none }

def pool2 : Array CpInfo := pool [(1, .class_ 2), (0, u "com/example/hqsim/hqsim/engine/statistics/QuantileHistogram"), (1, .class_ 6), (1, u "java/lang/Object"), (0, u "<init>"), (0, u "()V"), (4, u "binades"), (0, u "[[J"), (15, u "count"), (0, u "J"), (2, u "zeros"), (8, u "checkShare"), (0, u "(D)V"), (27, u "BIN_BITS"), (0, u "I"), (2, u "BINS"), (1, u "SHIFT"), (1, u "EXPONENTS")] 27

def k2m0 : Method := { name := "<init>", desc := "()V", sig := { parameters := [], returnType := none }, accessFlags := 1, code := none }
def k2c1 : Code := { maxStack := 4, maxLocals := 2, code := prog_53_method_4_code, exceptionTable := #[], attributes := #[] }
def k2m1 : Method := { name := "checkShare", desc := "(D)V", sig := { parameters := [.double], returnType := none }, accessFlags := 9, code := some k2c1 }
/-- com/example/hqsim/hqsim/engine/statistics/QuantileHistogram -/
def k2 : Class := { plain "com/example/hqsim/hqsim/engine/statistics/QuantileHistogram" (some 0) with
  accessFlags := 49
  interfaces := #[]
  cf := some (fileOf pool2 1 #[] #[{ accessFlags := 1, nameIndex := 7, descriptorIndex := 8, attributes := #[] }, { accessFlags := 9, nameIndex := 43, descriptorIndex := 44, attributes := #[] }] 49 4 #[] #[{ accessFlags := 26, nameIndex := 72, descriptorIndex := 73, attributes := #[] }, { accessFlags := 26, nameIndex := 76, descriptorIndex := 73, attributes := #[] }, { accessFlags := 26, nameIndex := 78, descriptorIndex := 73, attributes := #[] }, { accessFlags := 26, nameIndex := 80, descriptorIndex := 73, attributes := #[] }, { accessFlags := 18, nameIndex := 13, descriptorIndex := 14, attributes := #[] }, { accessFlags := 2, nameIndex := 34, descriptorIndex := 31, attributes := #[] }, { accessFlags := 2, nameIndex := 30, descriptorIndex := 31, attributes := #[] }])
  fields := #[{ name := "BIN_BITS", type := .int, accessFlags := 26, slot := 0, constantValue := 0 }, { name := "BINS", type := .int, accessFlags := 26, slot := 1, constantValue := 0 }, { name := "SHIFT", type := .int, accessFlags := 26, slot := 2, constantValue := 0 }, { name := "EXPONENTS", type := .int, accessFlags := 26, slot := 3, constantValue := 0 }, { name := "binades", type := (.array (.array .long)), accessFlags := 18, slot := 0, constantValue := 0 }, { name := "zeros", type := .long, accessFlags := 2, slot := 1, constantValue := 0 }, { name := "count", type := .long, accessFlags := 2, slot := 2, constantValue := 0 }]
  methods := #[k2m0, k2m1]
  instanceTypes := #[(.array (.array .long)), .long, .long]
  staticTypes := #[.int, .int, .int, .int]
  resolved := Array.replicate 108 none
  statics := none }

def pool3 : Array CpInfo := pool [(1, u "java/lang/Cloneable"), (0, .class_ 1), (0, u "java/lang/Object"), (0, .class_ 3)] 3

/-- java/lang/Cloneable -/
def k3 : Class := { plain "java/lang/Cloneable" (some 0) with
  accessFlags := 1537
  interfaces := #[]
  cf := some (fileOf pool3 2 #[] #[] 1537 4 #[] #[])
  fields := #[]
  methods := #[]
  instanceTypes := #[]
  staticTypes := #[]
  resolved := Array.replicate 8 none
  statics := none }

def pool4 : Array CpInfo := pool [(1, u "java/io/Serializable"), (0, .class_ 1), (0, u "java/lang/Object"), (0, .class_ 3)] 3

/-- java/io/Serializable -/
def k4 : Class := { plain "java/io/Serializable" (some 0) with
  accessFlags := 1537
  interfaces := #[]
  cf := some (fileOf pool4 2 #[] #[] 1537 4 #[] #[])
  fields := #[]
  methods := #[]
  instanceTypes := #[]
  staticTypes := #[]
  resolved := Array.replicate 8 none
  statics := none }

/-- the primitive byte -/
def k5 : Class := { plain "byte" none with kind := .primitive 'B', accessFlags := 0x411 }
/-- [B -/
def k6 : Class := { plain "[B" (some 0) with kind := .array 5 .byte, interfaces := #[3, 4], accessFlags := 1041 }

/-- the primitive int -/
def k7 : Class := { plain "int" none with kind := .primitive 'I', accessFlags := 0x411 }
/-- [I -/
def k8 : Class := { plain "[I" (some 0) with kind := .array 7 .int, interfaces := #[3, 4], accessFlags := 1041 }

def heap : Heap := #[]
def classes : Array Class := #[k0, k1, k2, k3, k4, k5, k6, k7, k8]
def interned : List (Array UInt16 × Addr) := []
def slotsUsed : Nat := 0
def theMethod : MethodId := ⟨1, 1⟩
def args0 : Array Value := #[.int 5, .int 7, .int 0]
def aboutOver (below : List Frame) : State where
  vm := { classes := classes, interned := interned.toArray }
  heap := heap
  slotsUsed := slotsUsed
  threads := #[{ frames := .invoking theMethod args0 :: below }]
def below0 : List Frame := [.native { method := ⟨0, 0⟩, args := #[] }]
def about1 : State := aboutOver below0
def p0 : Program := .bare "" "" ""
def e0 : Env := launch0.env 0 0 0
theorem w_frames : about1.frames = Frame.invoking theMethod args0 :: below0 := rfl
set_option maxRecDepth 65536 in
theorem w_args : argsFit about1.vm theMethod args0 = true := by decide +kernel
set_option maxRecDepth 65536 in
theorem w_heap : heapFits about1 = true := by decide +kernel
set_option maxRecDepth 65536 in
theorem w_runnable : about1.curStatus? = some .runnable := by decide +kernel
set_option maxRecDepth 65536 in
theorem w_alone : about1.alone = true := by decide +kernel
set_option maxRecDepth 65536 in
theorem w_named : about1.methodNamed? x = some theMethod := by decide +kernel
set_option maxRecDepth 65536 in
theorem w_hears : about1.hears theMethod below0 = true := by decide +kernel
set_option maxRecDepth 65536 in
theorem w_ripe : about1.ripe theMethod args0 below0 = true := by decide +kernel
theorem w_running : about1.status = .running := rfl
set_option maxRecDepth 65536 in
theorem w_room : about1.hasRoom e0.platform room_1 = true :=
  launch0.hasRoom_least _ room_1 (by decide +kernel) (by decide +kernel) (by decide +kernel) (by decide +kernel) (by decide +kernel) (by decide +kernel)
theorem allAtoms_all (ts : List Jvm.Cond) (a : Array Jvm.Value) (st : Jvm.State) : (allAtoms ts).before a st = ts.all (fun c => c.before a st) := by
  induction ts with
  | nil => rfl
  | cons c t ih =>
    show (Jvm.Cond.and c (allAtoms t)).before a st = _
    rw [Jvm.Cond.before_and, ih, List.all_cons]
def words1 : List Jvm.Cond := Jvm.Cond.code x code maxLocals ret :: tables_1
/-- a 'code' word, met by the world's own term for the bytes: nothing is compared byte by byte -/
theorem code_word {y : MethodName} {bytes : ByteArray} {mx : Nat} {rt : Option FieldType} {a : Array Value} {s : State} {m : MethodId} {meth : Method} {c : Code} (h1 : s.methodNamed? y = some m) (h2 : s.vm.method? m = some meth) (h3 : meth.code = some c) (h4 : c.code = bytes)
    (h5 : (c.maxLocals == mx && c.exceptionTable.isEmpty && decide (c.maxStack ≤ mostOperands) && decide (meth.sig.returnType = rt) && !meth.locks && decide (parseMethodDescriptor y.desc = some meth.sig)) = true) : (Jvm.Cond.code y bytes mx rt).before a s = true := by
  simp only [Bool.and_eq_true, beq_iff_eq, Bool.not_eq_true', decide_eq_true_eq] at h5
  obtain ⟨⟨⟨⟨⟨g1, g2⟩, g3⟩, g4⟩, g5⟩, g6⟩ := h5
  simp [Cond.before, Cond.holds, Cond.value, h1, h2, h3, h4, g1, g2, g3, g4, g5, g6]
def isCode : Jvm.Cond → Bool
  | .code _ _ _ _ => true
  | _ => false
theorem all_split {L : List Jvm.Cond} {P : Jvm.Cond → Bool} (h1 : L.all (fun c => isCode c || P c) = true) (h2 : ∀ c ∈ L.filter isCode, P c = true) : L.all P = true := by
  refine List.all_eq_true.mpr fun c hc => ?_
  have h := List.all_eq_true.mp h1 c hc
  rcases Bool.eq_false_or_eq_true (isCode c) with hi | hi
  · exact h2 c (List.mem_filter.mpr ⟨hc, hi⟩)
  · simpa [hi] using h
set_option maxRecDepth 65536 in
theorem w_c0 : (Jvm.Cond.code x code maxLocals ret).before args0 about1 = true := code_word (m := ⟨1, 1⟩) (meth := k1m1) (c := k1c1) (by decide +kernel) rfl rfl rfl (by decide +kernel)
set_option maxRecDepth 65536 in
theorem w_c1 : (Jvm.Cond.code ({ cls := "com/example/hqsim/hqsim/engine/statistics/QuantileHistogram", name := "checkShare", desc := "(D)V" } : Jvm.MethodName) prog_53_method_4_code (2 : Nat) (Option.none : Option Jvm.ClassFile.FieldType)).before args0 about1 = true := code_word (m := ⟨2, 1⟩) (meth := k2m1) (c := k2c1) (by decide +kernel) rfl rfl rfl (by decide +kernel)
def codes1 : List Jvm.Cond := [Jvm.Cond.code x code maxLocals ret, Jvm.Cond.code ({ cls := "com/example/hqsim/hqsim/engine/statistics/QuantileHistogram", name := "checkShare", desc := "(D)V" } : Jvm.MethodName) prog_53_method_4_code (2 : Nat) (Option.none : Option Jvm.ClassFile.FieldType)]
set_option maxRecDepth 65536 in
theorem codes_eq : words1.filter isCode = codes1 := rfl
theorem w_codes : ∀ c ∈ words1.filter isCode, c.before args0 about1 = true := by
  rw [codes_eq]
  intro c hc
  simp only [codes1, List.mem_cons, List.not_mem_nil, or_false] at hc
  rcases hc with rfl | rfl
  · exact w_c0
  · exact w_c1
set_option maxRecDepth 65536 in
theorem w_t1 : words1.all (fun c => isCode c || c.before args0 about1) = true := by decide +kernel
theorem w_tables : (allAtoms (Jvm.Cond.code x code maxLocals ret :: tables_1)).before args0 about1 = true := by
  rw [allAtoms_all]
  show words1.all (fun c => c.before args0 about1) = true
  refine all_split ?_ w_codes
  rw [w_t1]
set_option maxRecDepth 65536 in
theorem w_case : (Jvm.Cond.and given_1 narrow_1).before args0 about1 = true := by decide +kernel
theorem w_applies : (headSpec (Jvm.Cond.code x code maxLocals ret :: tables_1) room_1).applies x e0.platform about1 = true :=
  (Spec.applies_iff w_frames).mpr ⟨w_running, w_runnable, w_alone, w_named, w_hears, w_ripe, w_room, w_tables⟩
theorem atStart : AtStart classFile x code maxLocals ret World_1 tables_1 room_1 Calls_1 rest_1 Pre_1 launch0 p0 e0 about1 theMethod args0 below0 :=
  ⟨lists_1, trivial, launch0.admits_env _ _ _, launch0.least_env, fairChoices_fair.cas, fairChoices_fair.clock, w_frames, w_args, w_heap, w_applies, trivial, trivial, w_case⟩
end start1
theorem witness_1 : WitnessClaimed_1 := ⟨start1.p0, start1.e0, start1.about1, start1.theMethod, start1.args0, start1.below0, start1.atStart⟩
end Jvm.Pilot.@@N@@
