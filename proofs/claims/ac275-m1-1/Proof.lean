import JvmDerived
import JvmDerived.Pilot.@@N@@Statement
import JvmDerived.Pilot.@@N@@Code
set_option linter.unusedVariables false
set_option linter.unusedSimpArgs false
namespace Jvm.RoadKit
open Sem ClassFile Op Lib Jvm.Stand Jvm.Free Jvm.LawKit
/-! own_: walks written forward: 'Goes P T g': from the frame g at T the run comes to a state that P takes. -/
def Goes (p : Program) (e : Env) (below : List Frame) (P : State → Prop) (T : State) (g : JFrame) : Prop := ∃ t, Steps p.tables e below (T.setTop g) t ∧ P t
/-- how a body ends: it returned v, and Q holds of v, the heap and the places written -/
def Fin1 (below : List Frame) (s : State) (rm : Room) (Q : Option Value → Heap → List Loc → Prop) (t : State) : Prop :=
  ∃ o, t.status = .running ∧ Ended t below o ∧ ∃ v L, o = .returned v ∧ Q v t.heap L ∧ FrameEnd s o t L rm.cells rm.slots
/-- a body's contract -/
def Does (l : Launch) (y : MethodName) (bytes : ByteArray) (maxL : Nat) (ret : Option FieldType) (ws : List Cond) (rm : Room) (Z : State) (as' : Array Value) (h : Heap) (Q : Option Value → Heap → List Loc → Prop) : Prop :=
  MetFree l y (head1 (Cond.code y bytes maxL ret :: ws) rm) (fun a U => a = as' ∧ Z.Warmed39 U.vm ∧ U.heap = h) (fun _ _ _ _ _ => True) (fun _ U o U' => ∃ v L, o = .returned v ∧ Q v U'.heap L ∧ FrameEnd U o U' L rm.cells rm.slots)
section Own
variable {p : Program} {l : Launch} {e : Env} {R : Room} {s : State} {m : MethodId} {args : Array Value} {below : List Frame} {meth : Method} {c : Code} {T T' : State} {locs : List Loc} {cells slots : Nat} {Z : State} {a0 : Array Value} {h h' : Heap} {g g' : JFrame} {P : State → Prop}
theorem Goes.by (st : ∀ target, Steps p.tables e below (T'.setTop g') target → Steps p.tables e below (T.setTop g) target) (k : Goes p e below P T' g') : Goes p e below P T g := by
  obtain ⟨t, h1, h2⟩ := k
  exact ⟨t, st _ h1, h2⟩
theorem Goes.cast (q : g = g') (k : Goes p e below P T g') : Goes p e below P T g := q ▸ k
theorem Does.of {y : MethodName} {bytes : ByteArray} {maxL : Nat} {ret : Option FieldType} {ws : List Cond} {rm : Room} {as' : Array Value} {Q : Option Value → Heap → List Loc → Prop} (hp : plainFor y = true)
    (body : ∀ (p : Program) (e : Env) (s : State) (m : MethodId) (below : List Frame) (meth : Method) (c : Code) (s₁ : State), p.tables.exec = Jvm.exec → c.code = bytes → c.maxLocals = maxL → meth.sig.returnType = ret → meth.locks = false → Z.Warmed39 s.vm → s.vm.findClass y.cls = some m.cls → meth.name = y.name → Stand p l e rm s m as' below meth c s₁ [] 0 0 → s₁.heap = h →
      Goes p e below (Fin1 below s rm Q) s₁ (entryFrame m as' maxL)) : Does l y bytes maxL ret ws rm Z as' h Q := by
  refine MetFree.of_bodySF hp hisR ?_
  intro p e s m args below meth c s₁ Bd hml0 hP hK
  obtain ⟨rfl, hZ, hh⟩ := hP
  have e0 : s₁.heap = h := by rw [← hh, Bd.state]; rfl
  obtain ⟨t, h1, o, h2⟩ := body p e s m below meth c s₁ Bd.exec Bd.bytes hml0 Bd.returns Bd.notSynchronized hZ (findClass_of_methodNamed Bd.named) ((name_of_methodNamed Bd.named Bd.method).1) (Stand.of_body Bd) e0
  exact ⟨t, o, h1, h2⟩
theorem fin_of {rm : Room} {Q : Option Value → Heap → List Loc → Prop} {v : Option Value} (X : Stand p l e R s m args below meth c T locs cells slots) (hlk : meth.locks = false) (hv : meth.sig.returnType = none → v = none) (hQ : Q v T.heap locs) (hc : cells ≤ rm.cells) (hs : slots ≤ rm.slots)
    (st : ∀ fs, (∀ (f : JFrame) (acts : List Action), f.method = m → f.locked = none → f.entered = [] → (doReturn e (T.setTop f) acts v).1 = T.setFrames fs) → Steps p.tables e below (T.setTop g) (T.setFrames fs)) : Goes p e below (Fin1 below s rm Q) T g := by
  obtain ⟨fs, hr, hrun, hended, hW, hsame⟩ := X.leave (v := v) hv hlk
  exact ⟨_, st fs hr, _, hrun, hended, _, _, rfl, hQ, ⟨_, rfl⟩, hW, hsame.mono hc hs⟩
theorem outV {rm : Room} {Q : Option Value → Heap → List Loc → Prop} {pc : Nat} {Ls : Array Slot} (X : Stand p l e R s m args below meth c T locs cells slots) (hx : p.tables.exec = Jvm.exec) (hlk : meth.locks = false) (hret : meth.sig.returnType = none) (hd : decode c.code pc = .ok (.return_, 1)) (hQ : Q none T.heap locs) (hc : cells ≤ rm.cells) (hs : slots ≤ rm.slots) : Goes p e below (Fin1 below s rm Q) T (mkF m pc Ls []) :=
  fin_of X hlk (fun _ => rfl) hQ hc hs fun fs hr => X.returnOut hx hret hd hr
theorem outZ {rm : Room} {Q : Option Value → Heap → List Loc → Prop} {pc : Nat} {Ls : Array Slot} {z : Int32} {rest : List Value} (X : Stand p l e R s m args below meth c T locs cells slots) (hx : p.tables.exec = Jvm.exec) (hlk : meth.locks = false) (hret : meth.sig.returnType = some .boolean) (hd : decode c.code pc = .ok (.ireturn, 1)) (hQ : Q (some (.int (nar .boolean z))) T.heap locs) (hc : cells ≤ rm.cells) (hs : slots ≤ rm.slots) : Goes p e below (Fin1 below s rm Q) T (mkF m pc Ls (.int z :: rest)) :=
  fin_of X hlk (fun h => by rw [hret] at h; cases h) hQ hc hs fun fs hr => retN X hx (t := .boolean) hret (by simp) hd hr
theorem outO {rm : Room} {Q : Option Value → Heap → List Loc → Prop} {pc : Nat} {Ls : Array Slot} {w : Value} {t : FieldType} {i : Instr} {rest : List Value} (X : Stand p l e R s m args below meth c T locs cells slots) (hx : p.tables.exec = Jvm.exec) (hlk : meth.locks = false) (hret : meth.sig.returnType = some t) (hn : narrow t w = w)
    (hi : (i = .ireturn ∧ (t = .int ∨ t = .boolean ∨ t = .byte ∨ t = .char ∨ t = .short) ∧ ∃ z, w = .int z) ∨ (i = .lreturn ∧ t = .long ∧ ∃ z, w = .long z) ∨ (i = .dreturn ∧ t = .double ∧ ∃ z, w = .double z) ∨ (i = .freturn ∧ t = .float ∧ ∃ z, w = .float z) ∨ (i = .areturn ∧ t.isReference = true ∧ w.isRef = true))
    (hd : decode c.code pc = .ok (i, 1)) (hQ : Q (some w) T.heap locs) (hc : cells ≤ rm.cells) (hs : slots ≤ rm.slots) : Goes p e below (Fin1 below s rm Q) T (mkF m pc Ls (w :: rest)) :=
  fin_of X hlk (fun h => by rw [hret] at h; cases h) hQ hc hs fun fs hr => retOut X hx hret hn hi hd hr
theorem outI {rm : Room} {Q : Option Value → Heap → List Loc → Prop} {pc : Nat} {Ls : Array Slot} {z : Int32} {rest : List Value} (X : Stand p l e R s m args below meth c T locs cells slots) (hx : p.tables.exec = Jvm.exec) (hlk : meth.locks = false) (hret : meth.sig.returnType = some .int) (hd : decode c.code pc = .ok (.ireturn, 1)) (hQ : Q (some (.int z)) T.heap locs) (hc : cells ≤ rm.cells) (hs : slots ≤ rm.slots) : Goes p e below (Fin1 below s rm Q) T (mkF m pc Ls (.int z :: rest)) :=
  outO X hx hlk hret rfl (Or.inl ⟨rfl, Or.inl rfl, _, rfl⟩) hd hQ hc hs
theorem outJ {rm : Room} {Q : Option Value → Heap → List Loc → Prop} {pc : Nat} {Ls : Array Slot} {z : Int64} {rest : List Value} (X : Stand p l e R s m args below meth c T locs cells slots) (hx : p.tables.exec = Jvm.exec) (hlk : meth.locks = false) (hret : meth.sig.returnType = some .long) (hd : decode c.code pc = .ok (.lreturn, 1)) (hQ : Q (some (.long z)) T.heap locs) (hc : cells ≤ rm.cells) (hs : slots ≤ rm.slots) : Goes p e below (Fin1 below s rm Q) T (mkF m pc Ls (.long z :: rest)) :=
  outO X hx hlk hret rfl (Or.inr (Or.inl ⟨rfl, rfl, _, rfl⟩)) hd hQ hc hs
theorem outD {rm : Room} {Q : Option Value → Heap → List Loc → Prop} {pc : Nat} {Ls : Array Slot} {z : UInt64} {rest : List Value} (X : Stand p l e R s m args below meth c T locs cells slots) (hx : p.tables.exec = Jvm.exec) (hlk : meth.locks = false) (hret : meth.sig.returnType = some .double) (hd : decode c.code pc = .ok (.dreturn, 1)) (hQ : Q (some (.double z)) T.heap locs) (hc : cells ≤ rm.cells) (hs : slots ≤ rm.slots) : Goes p e below (Fin1 below s rm Q) T (mkF m pc Ls (.double z :: rest)) :=
  outO X hx hlk hret rfl (Or.inr (Or.inr (Or.inl ⟨rfl, rfl, _, rfl⟩))) hd hQ hc hs
theorem outA {rm : Room} {Q : Option Value → Heap → List Loc → Prop} {pc : Nat} {Ls : Array Slot} {w : Value} {t : FieldType} {rest : List Value} (X : Stand p l e R s m args below meth c T locs cells slots) (hx : p.tables.exec = Jvm.exec) (hlk : meth.locks = false) (hret : meth.sig.returnType = some t) (ht : t.isReference = true) (hw : w.isRef = true) (hn : narrow t w = w) (hd : decode c.code pc = .ok (.areturn, 1)) (hQ : Q (some w) T.heap locs) (hc : cells ≤ rm.cells) (hs : slots ≤ rm.slots) : Goes p e below (Fin1 below s rm Q) T (mkF m pc Ls (w :: rest)) :=
  outO X hx hlk hret hn (Or.inr (Or.inr (Or.inr (Or.inr ⟨rfl, ht, hw⟩)))) hd hQ hc hs
/-! calls by a contract -/
theorem callI (X : Stand p l e R s m args below meth c T locs cells slots) (hx : p.tables.exec = Jvm.exec) (hZ : Z.Warmed39 s.vm) {own : String} {index : Nat} {y : MethodName} (hy1 : y.name = "<init>") (hown : s.vm.findClass own = some m.cls) {bytes : ByteArray} {maxL : Nat} {rm : Room}
    (w1 : (Cond.methodLink own index y).before a0 Z = true) (w2 : (Cond.instanceMethod y).before a0 Z = true) (w3 : (Cond.code y bytes maxL none).before a0 Z = true) (w4 : (Cond.initialized y.cls).before a0 Z = true) (hy : y.cls ≠ "java/lang/invoke/MethodHandle" ∧ y.cls ≠ "java/lang/invoke/VarHandle")
    (eT : T.heap = h) {a : Addr} {argsL rest : List Value} {as' : Array Value} {Q : Option Value → Heap → List Loc → Prop} {W : Nat} (hM : Does l y bytes maxL none [] rm Z as' h Q) (has : (.ref a :: argsL).toArray = as') (hf : rm.frames + 1 ≤ R.frames) (hl : W + (maxL + 11) + rm.locals ≤ R.locals)
    (hcc : cells + rm.cells ≤ R.cells) (hss : slots + rm.slots ≤ R.slots) {g : JFrame} (hg : g.method = m) (hsize : g.locals.size = c.maxLocals) (hlen : ∀ sig, parseMethodDescriptor y.desc = some sig → argsL.length = sig.parameters.length) (hst : g.stack = argsL.reverse ++ .ref a :: rest) (hW : 2 * g.monitorRoom + (rest.map fun v => v.category).sum ≤ W) (hd : decode c.code g.pc = .ok (.invokespecial index, 3)) :
    ∃ v T' L, Stand p l e R s m args below meth c T' (locs ++ L) (cells + rm.cells) (slots + rm.slots) ∧ Q v T'.heap L ∧ ∀ target, Steps p.tables e below (T'.setTop { g with pc := g.pc + 3, stack := v.toList ++ rest }) target → Steps p.tables e below (T.setTop g) target := by
  obtain ⟨v, vm1, ⟨T', L', k', n'⟩, -, X', ⟨L, hQ, e1, e2, e3⟩, st⟩ := X.specialBack hx (y := y) hy1 hown (mvT hZ w1) (mvT hZ w2) (mvT hZ w3) hy (backOf (W := W) hM hZ w3 w4 hf hl) hg hsize (Steps.refl _) hlen hst hW hd (fun _ _ => ⟨has, eT, hcc, hss⟩)
  dsimp only [Pt.U, Pt.locs, Pt.cells, Pt.slots] at X' e1 e2 e3 st hQ
  subst e1 e2 e3
  exact ⟨v, T', L, X', hQ, fun t k => st.trans k⟩
theorem callV (X : Stand p l e R s m args below meth c T locs cells slots) (hx : p.tables.exec = Jvm.exec) (hZ : Z.Warmed39 s.vm) {own C : String} {index : Nat} {y : MethodName} (hown : s.vm.findClass own = some m.cls) {bytes : ByteArray} {maxL : Nat} {ret : Option FieldType} {rm : Room}
    (w1 : (Cond.methodLink own index y).before a0 Z = true) (w2 : (Cond.declares y).before a0 Z = true) (w3 : (Cond.selects C y y).before a0 Z = true) (w4 : (Cond.instanceMethod y).before a0 Z = true) (w5 : (Cond.code y bytes maxL ret).before a0 Z = true) (w6 : (Cond.initialized y.cls).before a0 Z = true) (hy : y.cls ≠ "java/lang/invoke/MethodHandle" ∧ y.cls ≠ "java/lang/invoke/VarHandle")
    (eT : T.heap = h) {a : Addr} (E : Exa Z h a C) {argsL rest : List Value} {as' : Array Value} {Q : Option Value → Heap → List Loc → Prop} {W : Nat} (hM : Does l y bytes maxL ret [] rm Z as' h Q) (has : (.ref a :: argsL).toArray = as') (hf : rm.frames + 1 ≤ R.frames) (hl : W + (maxL + 11) + rm.locals ≤ R.locals)
    (hcc : cells + rm.cells ≤ R.cells) (hss : slots + rm.slots ≤ R.slots) {g : JFrame} (hg : g.method = m) (hsize : g.locals.size = c.maxLocals) (hlen : ∀ sig, parseMethodDescriptor y.desc = some sig → argsL.length = sig.parameters.length) (hst : g.stack = argsL.reverse ++ .ref a :: rest) (hW : 2 * g.monitorRoom + (rest.map fun v => v.category).sum ≤ W) (hd : decode c.code g.pc = .ok (.invokevirtual index, 3)) :
    ∃ v T' L, Stand p l e R s m args below meth c T' (locs ++ L) (cells + rm.cells) (slots + rm.slots) ∧ Q v T'.heap L ∧ ∀ target, Steps p.tables e below (T'.setTop { g with pc := g.pc + 3, stack := v.toList ++ rest }) target → Steps p.tables e below (T.setTop g) target := by
  obtain ⟨cB, kB, q1, q2, q3⟩ := isOf hZ eT E
  obtain ⟨v, vm1, ⟨T', L', k', n'⟩, -, X', ⟨L, hQ, e1, e2, e3⟩, st⟩ := X.virtualBack hx (y := y) (z := y) hown (mvT hZ w1) (mvT hZ w2) (notFace_of_selects (args := args) (mvT hZ w3)) (mvT hZ w3) (mvT hZ w4) hy (backOf (W := W) hM hZ w5 w6 hf hl) q1 q3 hg hsize (Steps.refl _) hlen hst hW hd (fun _ _ => ⟨has, eT, hcc, hss⟩)
  dsimp only [Pt.U, Pt.locs, Pt.cells, Pt.slots] at X' e1 e2 e3 st hQ
  subst e1 e2 e3
  exact ⟨v, T', L, X', hQ, fun t k => st.trans k⟩
theorem callC (X : Stand p l e R s m args below meth c T locs cells slots) (hx : p.tables.exec = Jvm.exec) (hZ : Z.Warmed39 s.vm) {own : String} {index : Nat} {y : MethodName} (hown : s.vm.findClass own = some m.cls) {bytes : ByteArray} {maxL : Nat} {ret : Option FieldType} {rm : Room}
    (w1 : (Cond.methodLink own index y).before a0 Z = true) (w2 : (Cond.static y).before a0 Z = true) (w3 : (Cond.code y bytes maxL ret).before a0 Z = true) (w4 : (Cond.initialized y.cls).before a0 Z = true) (hy : y.cls ≠ "java/lang/invoke/MethodHandle" ∧ y.cls ≠ "java/lang/invoke/VarHandle")
    (eT : T.heap = h) {argsL rest : List Value} {as' : Array Value} {Q : Option Value → Heap → List Loc → Prop} {W : Nat} (hM : Does l y bytes maxL ret [] rm Z as' h Q) (has : argsL.toArray = as') (hf : rm.frames + 1 ≤ R.frames) (hl : W + (maxL + 11) + rm.locals ≤ R.locals)
    (hcc : cells + rm.cells ≤ R.cells) (hss : slots + rm.slots ≤ R.slots) {g : JFrame} (hg : g.method = m) (hsize : g.locals.size = c.maxLocals) (hlen : ∀ sig, parseMethodDescriptor y.desc = some sig → argsL.length = sig.parameters.length) (hst : g.stack = argsL.reverse ++ rest) (hW : 2 * g.monitorRoom + (rest.map fun v => v.category).sum ≤ W) (hd : decode c.code g.pc = .ok (.invokestatic index, 3)) :
    ∃ v T' L, Stand p l e R s m args below meth c T' (locs ++ L) (cells + rm.cells) (slots + rm.slots) ∧ Q v T'.heap L ∧ ∀ target, Steps p.tables e below (T'.setTop { g with pc := g.pc + 3, stack := v.toList ++ rest }) target → Steps p.tables e below (T.setTop g) target := by
  obtain ⟨v, vm1, ⟨T', L', k', n'⟩, -, X', ⟨L, hQ, e1, e2, e3⟩, st⟩ := Jvm.LawKit.callS X hx (y := y) hown (mvT hZ w1) (mvT hZ w2) (mvT hZ w4) (mvT hZ w3) hy (backOf (W := W) hM hZ w3 w4 hf hl) hg hsize hlen hst hW hd (fun _ _ => ⟨has, eT, hcc, hss⟩)
  dsimp only [Pt.U, Pt.locs, Pt.cells, Pt.slots] at X' e1 e2 e3 st hQ
  subst e1 e2 e3
  exact ⟨v, T', L, X', hQ, st⟩
end Own
end Jvm.RoadKit
namespace Jvm.Free.XS
open Sem ClassFile Op Lib
theorem lcmpS {tb : Tables} [Ours tb] {e : Env} {below : List Frame} {T target : State} {m : MethodId} {c : Code} {g : JFrame} (h : At T m c below) (hx : tb.exec = Jvm.exec) (hg : g.method = m) {x y : Int64} {v : Int32} {rest : List Value} (hd : decode c.code g.pc = .ok (.lcmp, 1)) (hs : g.stack = .long y :: .long x :: rest) (hv : Jvm.RoadKit.lcmpW x y = v)
    (hr : Steps tb e below (T.setTop { g with pc := g.pc + 1, stack := .int v :: rest }) target) : Steps tb e below (T.setTop g) target := by
  subst hv
  exact lcmp h hx hg hd hs hr
end Jvm.Free.XS
namespace Jvm.RoadKit
open Sem ClassFile Op Lib Jvm.Stand Jvm.Free Jvm.LawKit Jvm.FP Jvm.Free.Fl
section OwnD
theorem own_cmp (i j : Int) : compare i j = if i < j then Ordering.lt else if i = j then Ordering.eq else Ordering.gt := rfl
theorem cmpL_lt {x y : Int64} (h : x < y) : lcmpW x y = -1 := by
  have h' := Int64.lt_iff_toInt_lt.mp h
  show (if y < x then (1 : Int32) else if x = y then 0 else -1) = -1
  rw [if_neg (fun q => by have := Int64.lt_iff_toInt_lt.mp q; omega), if_neg (fun q => by rw [q] at h'; omega)]
theorem cmpL_eq {x y : Int64} (h : x = y) : lcmpW x y = 0 := by
  subst h
  show (if x < x then (1 : Int32) else if x = x then 0 else -1) = 0
  rw [if_neg (fun q => by have := Int64.lt_iff_toInt_lt.mp q; omega), if_pos rfl]
theorem cmpL_gt {x y : Int64} (h : y < x) : lcmpW x y = 1 := by
  show (if y < x then (1 : Int32) else if x = y then 0 else -1) = 1
  rw [if_pos h]
theorem DInt_nn {i : Int} {x : UInt64} (h : Core.DInt i x) : NoNaN64 x := val64_no.mpr (Core.DInt_ne_nan h)
theorem DInt_fin {i : Int} {x : UInt64} (h : Core.DInt i x) : Fin64 x := fin64_core.mpr (by
  have h' : Core.Whole i (Core.val64 x) := h
  cases q : Core.val64 x with
  | nan => rw [q] at h'; exact h'.elim
  | inf s => rw [q] at h'; exact h'.elim
  | fin s c e => exact ⟨s, c, e, q⟩)
theorem cmpD_lt {i j : Int} {x y : UInt64} (hx : Core.DInt i x) (hy : Core.DInt j y) (h : i < j) (o : CmpOp) : cmpValue (FP.dcmp x y) o = -1 := by
  rw [show FP.dcmp x y = _ from Core.dcmp_int hx hy, own_cmp, if_pos h]; rfl
theorem cmpD_eq {i j : Int} {x y : UInt64} (hx : Core.DInt i x) (hy : Core.DInt j y) (h : i = j) (o : CmpOp) : cmpValue (FP.dcmp x y) o = 0 := by
  rw [show FP.dcmp x y = _ from Core.dcmp_int hx hy, own_cmp, if_neg (by omega), if_pos h]; rfl
theorem cmpD_gt {i j : Int} {x y : UInt64} (hx : Core.DInt i x) (hy : Core.DInt j y) (h : j < i) (o : CmpOp) : cmpValue (FP.dcmp x y) o = 1 := by
  rw [show FP.dcmp x y = _ from Core.dcmp_int hx hy, own_cmp, if_neg (by omega), if_neg (by omega)]; rfl
theorem DInt_zero : Core.DInt 0 0 := by
  have h := Core.l2d_int (a := 0) (by decide)
  rw [show Core.l2d 0 = 0 from l2d_zero] at h
  exact h
theorem DInt_i2d {x : Int32} {d : UInt64} (q : FP.i2d x = d) : Core.DInt x.toInt d := q ▸ Core.i2d_int x
theorem DInt_l2d {x : Int64} {d : UInt64} (q : FP.l2d x = d) (h : x.toInt.natAbs ≤ 2 ^ 53) : Core.DInt x.toInt d := q ▸ Core.l2d_int h
theorem DInt_add {i j : Int} {a b d : UInt64} (q : FP.dadd a b = d) (ha : Core.DInt i a) (hb : Core.DInt j b) (h : (i + j).natAbs ≤ 2 ^ 53) : Core.DInt (i + j) d := q ▸ Core.dadd_int ha hb h
theorem DInt_sub {i j : Int} {a b d : UInt64} (q : FP.dsub a b = d) (ha : Core.DInt i a) (hb : Core.DInt j b) (h : (i - j).natAbs ≤ 2 ^ 53) : Core.DInt (i - j) d := q ▸ Core.dsub_int ha hb h
theorem DInt_mul {i j : Int} {a b d : UInt64} (q : FP.dmul a b = d) (ha : Core.DInt i a) (hb : Core.DInt j b) (h : (i * j).natAbs ≤ 2 ^ 53) : Core.DInt (i * j) d := q ▸ Core.dmul_int ha hb h
end OwnD
/-! an array by the list of its values -/
def Sar (Z : State) (h : Heap) (a : Addr) (ty : FieldType) (vs : List Value) : Prop := ∃ c : Cell, Arr Z h a c ty ∧ c.slots = vs.toArray
section OwnA
variable {p : Program} {l : Launch} {e : Env} {R : Room} {s : State} {m : MethodId} {args : Array Value} {below : List Frame} {meth : Method} {c : Code} {T : State} {locs : List Loc} {cells slots : Nat} {Z : State} {a0 : Array Value} {h h' : Heap} {a b : Addr} {ty : FieldType} {vs : List Value} {sl : Nat} {v : Value} {ws : List Addr}
theorem Sar.lt (F : Sar Z h a ty vs) : a < h.size := by obtain ⟨c, A, -⟩ := F; exact A.lt
theorem Sar.ext (F : Sar Z h a ty vs) (E : Ext h h') : Sar Z h' a ty vs := by obtain ⟨c, A, r⟩ := F; exact ⟨c, A.ext E, r⟩
theorem Sar.other (F : Sar Z h b ty vs) (W : Wr h h' a sl v) (q : b ≠ a) : Sar Z h' b ty vs := by obtain ⟨c, A, r⟩ := F; exact ⟨c, A.other W q, r⟩
theorem Sar.keep (F : Sar Z h a ty vs) (K : Keep h h' ws) (q : a ∉ ws) : Sar Z h' a ty vs := by obtain ⟨c, A, r⟩ := F; exact ⟨c, ⟨K.2.1 a c A.1 q, A.2⟩, r⟩
theorem Sar.new {k : ClassId} {z : Int32} {n : Nat} (A : Arr Z h a (newA k ty z) ty) (hn : z.toNatClampNeg = n) : Sar Z h a ty (List.replicate n (defaultValue ty)) := ⟨_, A, by subst hn; show Array.replicate _ _ = _; simp⟩
theorem Sar.in {cl : Cell} {j : Int32} {i : Nat} (S : cl.slots = vs.toArray) (hj : j.toInt = i) (hi : i < vs.length) : ¬ (j < 0 ∨ cl.slots.size ≤ j.toNatClampNeg) := by
  rw [S]
  have q : j.toNatClampNeg = i := by show j.toInt.toNat = i; omega
  have r : ¬ j < 0 := fun z => by have z' := Int32.lt_iff_toInt_lt.mp z; rw [hj] at z'; simp at z'; omega
  rw [q]
  simp only [List.size_toArray]
  intro z
  rcases z with z | z
  · exact r z
  · omega
theorem Sar.nat {j : Int32} {i : Nat} (hj : j.toInt = i) : j.toNatClampNeg = i := by show j.toInt.toNat = i; omega
theorem stDS (X : Stand p l e R s m args below meth c T locs cells slots) (hx : p.tables.exec = Jvm.exec) (hZ : Z.Warmed39 s.vm) (eT : T.heap = h) (V : Sar Z h a .double vs) {j : Int32} {x : UInt64} (i : Nat) (hj : j.toInt = i) (hi : i < vs.length) {g : JFrame} (hg : g.method = m) {rest : List Value} (hs : g.stack = .double x :: .int j :: .ref a :: rest) (hd : decode c.code g.pc = .ok (.dastore, 1)) :
    ∃ T' h', Stand p l e R s m args below meth c T' (locs ++ [⟨a, i⟩]) cells slots ∧ T'.heap = h' ∧ Wr h h' a i (.double x) ∧ Sar Z h' a .double (vs.set i (.double x)) ∧ ∀ target, Steps p.tables e below (T'.setTop { g with pc := g.pc + 1, stack := rest }) target → Steps p.tables e below (T.setTop g) target := by
  obtain ⟨cl, A, S⟩ := V
  obtain ⟨T', h', X', e', W, st⟩ := stD X hx hZ eT A (Sar.in S hj hi) hg hs hd
  rw [Sar.nat hj] at X' W
  exact ⟨T', h', X', e', W, ⟨_, A.same W, by show cl.slots.setIfInBounds _ _ = _; rw [S]; simp⟩, st⟩
theorem stIS (X : Stand p l e R s m args below meth c T locs cells slots) (hx : p.tables.exec = Jvm.exec) (hZ : Z.Warmed39 s.vm) (eT : T.heap = h) (V : Sar Z h a .int vs) {j : Int32} {x : Int32} (i : Nat) (hj : j.toInt = i) (hi : i < vs.length) {g : JFrame} (hg : g.method = m) {rest : List Value} (hs : g.stack = .int x :: .int j :: .ref a :: rest) (hd : decode c.code g.pc = .ok (.iastore, 1)) :
    ∃ T' h', Stand p l e R s m args below meth c T' (locs ++ [⟨a, i⟩]) cells slots ∧ T'.heap = h' ∧ Wr h h' a i (.int x) ∧ Sar Z h' a .int (vs.set i (.int x)) ∧ ∀ target, Steps p.tables e below (T'.setTop { g with pc := g.pc + 1, stack := rest }) target → Steps p.tables e below (T.setTop g) target := by
  obtain ⟨cl, A, S⟩ := V
  obtain ⟨T', h', X', e', W, st⟩ := stI X hx hZ eT A (Sar.in S hj hi) hg hs hd
  rw [Sar.nat hj] at X' W
  exact ⟨T', h', X', e', W, ⟨_, A.same W, by show cl.slots.setIfInBounds _ _ = _; rw [S]; simp⟩, st⟩
theorem ldDS (X : Stand p l e R s m args below meth c T locs cells slots) (hx : p.tables.exec = Jvm.exec) (hZ : Z.Warmed39 s.vm) (eT : T.heap = h) (V : Sar Z h a .double vs) {j : Int32} (i : Nat) (hj : j.toInt = i) (hv : vs[i]? = some v) {g : JFrame} (hg : g.method = m) {rest : List Value} (hs : g.stack = .int j :: .ref a :: rest) (hd : decode c.code g.pc = .ok (.daload, 1)) :
    ∀ target, Steps p.tables e below (T.setTop { g with pc := g.pc + 1, stack := v :: rest }) target → Steps p.tables e below (T.setTop g) target := by
  obtain ⟨cl, A, S⟩ := V
  have hi : i < vs.length := (List.getElem?_eq_some_iff.mp hv).1
  exact X.daload hx (by rw [eT]; exact A.1) (State.isArrayOf_alike hZ.alike A.2.1) A.2.2 (Sar.in S hj hi) (by rw [S, Sar.nat hj]; simpa using hv) hg hs hd
theorem ldIS (X : Stand p l e R s m args below meth c T locs cells slots) (hx : p.tables.exec = Jvm.exec) (hZ : Z.Warmed39 s.vm) (eT : T.heap = h) (V : Sar Z h a .int vs) {j : Int32} (i : Nat) (hj : j.toInt = i) (hv : vs[i]? = some v) {g : JFrame} (hg : g.method = m) {rest : List Value} (hs : g.stack = .int j :: .ref a :: rest) (hd : decode c.code g.pc = .ok (.iaload, 1)) :
    ∀ target, Steps p.tables e below (T.setTop { g with pc := g.pc + 1, stack := v :: rest }) target → Steps p.tables e below (T.setTop g) target := by
  obtain ⟨cl, A, S⟩ := V
  have hi : i < vs.length := (List.getElem?_eq_some_iff.mp hv).1
  exact X.iaload hx (by rw [eT]; exact A.1) (State.isArrayOf_alike hZ.alike A.2.1) A.2.2 (Sar.in S hj hi) (by rw [S, Sar.nat hj]; simpa using hv) hg hs hd
theorem lenS (X : Stand p l e R s m args below meth c T locs cells slots) (hx : p.tables.exec = Jvm.exec) (hZ : Z.Warmed39 s.vm) (eT : T.heap = h) (V : Sar Z h a ty vs) {n : Int32} (hn : vs.length.toInt32 = n) {g : JFrame} (hg : g.method = m) {rest : List Value} (hs : g.stack = .ref a :: rest) (hd : decode c.code g.pc = .ok (.arraylength, 1)) :
    ∀ target, Steps p.tables e below (T.setTop { g with pc := g.pc + 1, stack := .int n :: rest }) target → Steps p.tables e below (T.setTop g) target := by
  obtain ⟨cl, A, S⟩ := V
  intro target k
  refine X.arraylength hx (by rw [eT]; exact A.1) (State.isArrayOf_alike hZ.alike A.2.1) hg hs hd target ?_
  rw [S]
  simp only [List.size_toArray, hn]
  exact k
end OwnA
end Jvm.RoadKit
namespace Jvm.RoadKit
open Jvm.FP Jvm.Free.Fl
theorem DInt_nz {i : Int} {x : UInt64} (h : Core.DInt i x) (hi : i ≠ 0) : Nz64 x := nz64_core.mpr fun z => by
  obtain ⟨s, q, e⟩ := z
  have h' : Core.Whole i (Core.val64 x) := h
  rw [e] at h'
  exact hi ((Core.whole_zero h').mp rfl)
theorem DInt_one : Core.DInt 1 4607182418800017408 := Core.dint_one
end Jvm.RoadKit
namespace Jvm.RoadKit
open Jvm.FP Jvm.Free.Fl Op
theorem cmpD_le {i j : Int} {x y : UInt64} (hx : Core.DInt i x) (hy : Core.DInt j y) (h : i ≤ j) (o : ClassFile.CmpOp) : ∃ v : Int32, cmpValue (FP.dcmp x y) o = v ∧ ¬ (0 : Int32) < v := by
  by_cases q : i < j
  · exact ⟨-1, cmpD_lt hx hy q o, by decide⟩
  · exact ⟨0, cmpD_eq hx hy (by omega) o, by decide⟩
theorem cmpD_ge {i j : Int} {x y : UInt64} (hx : Core.DInt i x) (hy : Core.DInt j y) (h : j ≤ i) (o : ClassFile.CmpOp) : ∃ v : Int32, cmpValue (FP.dcmp x y) o = v ∧ ¬ v < (0 : Int32) := by
  by_cases q : j < i
  · exact ⟨1, cmpD_gt hx hy q o, by decide⟩
  · exact ⟨0, cmpD_eq hx hy (by omega) o, by decide⟩
end Jvm.RoadKit
namespace Jvm.RoadKit
open Jvm.Free
theorem cmpL_le {x y : Int64} (h : ¬ y.toInt < x.toInt) : ∃ v : Int32, lcmpW x y = v ∧ ¬ (0 : Int32) < v := by
  by_cases q : x.toInt < y.toInt
  · exact ⟨-1, cmpL_lt (Int64.lt_iff_toInt_lt.mpr q), by decide⟩
  · exact ⟨0, cmpL_eq (Int64.toInt_inj.mp (by omega)), by decide⟩
theorem cmpL_gtI {x y : Int64} (h : y.toInt < x.toInt) : lcmpW x y = 1 := cmpL_gt (Int64.lt_iff_toInt_lt.mpr h)
end Jvm.RoadKit
namespace Jvm.RoadKit
open Jvm.Free
theorem cmpL_ge {x y : Int64} (h : ¬ x.toInt < y.toInt) : ∃ v : Int32, lcmpW x y = v ∧ ¬ v < (0 : Int32) := by
  by_cases q : y.toInt < x.toInt
  · exact ⟨1, cmpL_gtI q, by decide⟩
  · exact ⟨0, cmpL_eq (Int64.toInt_inj.mp (by omega)), by decide⟩
end Jvm.RoadKit
namespace Jvm.RoadKit
section OwnN
theorem own_mb {i j : Int} {A B : Nat} (hi : i.natAbs ≤ A) (hj : j.natAbs ≤ B) : (i * j).natAbs ≤ A * B := by rw [Int.natAbs_mul]; exact Nat.mul_le_mul hi hj
theorem own_mb2 {i j : Int} {A B : Nat} (hi : -(A : Int) ≤ i ∧ i ≤ A) (hj : -(B : Int) ≤ j ∧ j ≤ B) : -((A * B : Nat) : Int) ≤ i * j ∧ i * j ≤ ((A * B : Nat) : Int) := by
  have h := own_mb (i := i) (j := j) (A := A) (B := B) (by omega) (by omega)
  omega
theorem own_ladd {a b : Int64} (h1 : -9223372036854775808 ≤ a.toInt + b.toInt) (h2 : a.toInt + b.toInt < 9223372036854775808) : (a + b).toInt = a.toInt + b.toInt := by
  have := c_ladd a b; have := rng64 (a + b); omega
theorem own_lsub {a b : Int64} (h1 : -9223372036854775808 ≤ a.toInt - b.toInt) (h2 : a.toInt - b.toInt < 9223372036854775808) : (a - b).toInt = a.toInt - b.toInt := by
  have := c_lsub a b; have := rng64 (a - b); omega
theorem own_lmul {a b : Int64} (h : (a.toInt * b.toInt).natAbs < 9223372036854775808) : (a * b).toInt = a.toInt * b.toInt := by
  have := c_lmul a b; have := rng64 (a * b); omega
theorem own_short (x : Int32) : (x.toInt16.toInt32).toInt.natAbs ≤ 32768 := by
  have := c_i2s x; omega
theorem own_and3 (x : Int32) : (x &&& 3) = 0 ∨ (x &&& 3) = 1 ∨ (x &&& 3) = 2 ∨ (x &&& 3) = 3 := by
  have h := c_and x 3 (by decide)
  have e : (3 : Int32).toInt = 3 := by decide
  simp only [← Int32.toInt_inj]
  rw [show (0 : Int32).toInt = 0 from by decide, show (1 : Int32).toInt = 1 from by decide, show (2 : Int32).toInt = 2 from by decide, e]
  omega
end OwnN
end Jvm.RoadKit
namespace Jvm.Pilot.@@N@@
open Jvm Jvm.ClassFile Sem Op Lib Jvm.Free Jvm.Stand Jvm.LawKit Jvm.RoadKit Jvm.FP Jvm.Free.Fl Bundle Jvm.Pilot.@@N@@.Jvm.D
theorem own_fin1 : Fin64 4607182418800017408 := by
  show (4607182418800017408 : UInt64) &&& 0x7fffffffffffffff < 0x7ff0000000000000
  decide
theorem d3_0 : decode jdk_30_method_1_code 0 = .ok (.aload_n 0, 1) := by decide +kernel
theorem d3_1 : decode jdk_30_method_1_code 1 = .ok (.invokespecial 1, 3) := by decide +kernel
theorem d3_4 : decode jdk_30_method_1_code 4 = .ok (.return_, 1) := by decide +kernel
theorem pn0 : plainName "java/lang/Record" = true := by first | (simp [plainName, overriddenIn]; done) | decide +kernel
theorem pd0 : parseMethodDescriptor "()V" = some ⟨[], none⟩ := by decide +kernel
theorem ef_rm_rec (m : MethodId) (x0 : Addr) : entryFrame m #[(.ref x0)] 1 = mkF m 0 #[.val (.ref x0)] [] := by first | (simp [entryFrame, mkF, argsToLocals, Value.category, maxLocals]; done) | rfl
set_option maxRecDepth 65536 in
set_option maxHeartbeats 40000000 in
theorem rm_rec (l : Launch) (Z : State) (a0 : Array Value) (hw : ∀ d ∈ tables_1, d.before a0 Z = true) (a : Addr) (h0 : Heap) (n0 : Nat) (Z0 : n0 ≤ h0.size)  :
    Does l (⟨"java/lang/Record", "<init>", "()V"⟩ : MethodName) jdk_30_method_1_code 1 none [] ({ frames := 1, cells := 0, slots := 0, locals := 12 } : Room) Z #[(.ref a)] h0 (fun v h L => v = none ∧ Fr n0 L ∧ h = h0) := by
  refine Does.of (plainFor_of_name pn0) ?_
  intro p e s m below meth c s₁ hx hby hml hret hlk hZ hown hnm X0 e0
  have N0 := Fr.nil n0
  refine Goes.cast (g' := mkF m 0 #[.val (.ref a)] []) (ef_rm_rec m a) ?_
  refine Goes.by (T' := s₁) (g' := (mkF m 1 #[.val (.ref a)] [(.ref a)])) (fun _ k => XS.aloadN X0.here hx rfl (hb hby d3_0) rfl rfl k) ?_
  obtain ⟨T1, X1, e1, st1⟩ := initO X0 hx hZ hown (hw _ (List.mem_of_getElem? (i := 17) rfl)) (hw _ (List.mem_of_getElem? (i := 18) rfl)) (hw _ (List.mem_of_getElem? (i := 19) rfl)) e0 (g := (mkF m 1 #[.val (.ref a)] [(.ref a)])) rfl (by rw [hml]; rfl) rfl (hb hby d3_1) (by decide) (W := 0) (by show 2 * 0 + _ ≤ _; exact Nat.le_of_eq rfl) (by decide)
  refine Goes.by (T' := T1) (g' := (mkF m 4 #[.val (.ref a)] [])) st1 ?_
  exact outV X1 hx hlk hret (hb hby d3_4) (by rw [e1]; exact ⟨rfl, N0, rfl⟩) (by decide) (by decide)
theorem d1_0 : decode method_2_code 0 = .ok (.lload_n 0, 1) := by decide +kernel
theorem d1_1 : decode method_2_code 1 = .ok (.ldc2_w 7, 3) := by decide +kernel
theorem d1_4 : decode method_2_code 4 = .ok (.lmul, 1) := by decide +kernel
theorem d1_5 : decode method_2_code 5 = .ok (.iload_n 2, 1) := by decide +kernel
theorem d1_6 : decode method_2_code 6 = .ok (.i2l, 1) := by decide +kernel
theorem d1_7 : decode method_2_code 7 = .ok (.ladd, 1) := by decide +kernel
theorem d1_8 : decode method_2_code 8 = .ok (.l2d, 1) := by decide +kernel
theorem d1_9 : decode method_2_code 9 = .ok (.dreturn, 1) := by decide +kernel
theorem pn1 : plainName "com/example/attitude_bridge/attitudebridge/RotationMatrixEntriesPinLaw" = true := by first | (simp [plainName, overriddenIn]; done) | decide +kernel
theorem pd1 : parseMethodDescriptor "(JI)D" = some ⟨[.long, .int], some .double⟩ := by decide +kernel
theorem ef_rm_tag (m : MethodId) (x0 : Int64) (x1 : Int32) : entryFrame m #[(.long x0), (.int x1)] 3 = mkF m 0 #[.val (.long x0), .second, .val (.int x1)] [] := by first | (simp [entryFrame, mkF, argsToLocals, Value.category, maxLocals]; done) | rfl
set_option maxRecDepth 65536 in
set_option maxHeartbeats 40000000 in
theorem rm_tag (l : Launch) (Z : State) (a0 : Array Value) (hw : ∀ d ∈ tables_1, d.before a0 Z = true) (y : Int64) (i : Int32) (h0 : Heap) (n0 : Nat) (Z0 : n0 ≤ h0.size)  :
    Does l (⟨"com/example/attitude_bridge/attitudebridge/RotationMatrixEntriesPinLaw", "tag", "(JI)D"⟩ : MethodName) method_2_code 3 (some .double) [] ({ frames := 0, cells := 0, slots := 0, locals := 0 } : Room) Z #[(.long y), (.int i)] h0 (fun v h L => (∃ d, v = some (.double d) ∧ Fin64 d) ∧ Fr n0 L ∧ h = h0) := by
  refine Does.of (plainFor_of_name pn1) ?_
  intro p e s m below meth c s₁ hx hby hml hret hlk hZ hown hnm X0 e0
  have N0 := Fr.nil n0
  refine Goes.cast (g' := mkF m 0 #[.val (.long y), .second, .val (.int i)] []) (ef_rm_tag m y i) ?_
  refine Goes.by (T' := s₁) (g' := (mkF m 1 #[.val (.long y), .second, .val (.int i)] [(.long y)])) (fun _ k => XS.lloadN X0.here hx rfl (hb hby d1_0) rfl k) ?_
  refine Goes.by (T' := s₁) (g' := (mkF m 4 #[.val (.long y), .second, .val (.int i)] [(.long (16 : Int64)), (.long y)])) (X0.ldc2Long hx hown (mvT hZ (hw _ (List.mem_of_getElem? (i := 5) rfl))) (g := (mkF m 1 #[.val (.long y), .second, .val (.int i)] [(.long y)])) rfl (hb hby d1_1)) ?_
  refine Goes.by (T' := s₁) (g' := (mkF m 5 #[.val (.long y), .second, .val (.int i)] [(.long (y * (16 : Int64)))])) (fun _ k => XS.lmul X0.here hx rfl (hb hby d1_4) rfl k) ?_
  refine Goes.by (T' := s₁) (g' := (mkF m 6 #[.val (.long y), .second, .val (.int i)] [(.int i), (.long (y * (16 : Int64)))])) (fun _ k => XS.iloadN X0.here hx rfl (hb hby d1_5) rfl k) ?_
  refine Goes.by (T' := s₁) (g' := (mkF m 7 #[.val (.long y), .second, .val (.int i)] [(.long ((i).toInt64)), (.long (y * (16 : Int64)))])) (fun _ k => XS.i2l X0.here hx rfl (hb hby d1_6) rfl k) ?_
  refine Goes.by (T' := s₁) (g' := (mkF m 8 #[.val (.long y), .second, .val (.int i)] [(.long ((y * (16 : Int64)) + ((i).toInt64)))])) (fun _ k => XS.ladd X0.here hx rfl (hb hby d1_7) rfl k) ?_
  obtain ⟨d, q_d⟩ : ∃ zz, FP.l2d ((y * (16 : Int64)) + ((i).toInt64)) = zz := ⟨_, rfl⟩
  refine Goes.by (T' := s₁) (g' := (mkF m 9 #[.val (.long y), .second, .val (.int i)] [(.double d)])) (fun _ k => XS.l2dS X0.here hx rfl (hb hby d1_8) rfl q_d k) ?_
  have FD : Fin64 d := q_d ▸ l2d_fin _
  exact outD X0 hx hlk hret (hb hby d1_9) (by rw [e0]; exact ⟨⟨d, rfl, FD⟩, N0, rfl⟩) (by decide) (by decide)
theorem d2_0 : decode prog_27_method_1_code 0 = .ok (.aload_n 0, 1) := by decide +kernel
theorem d2_1 : decode prog_27_method_1_code 1 = .ok (.invokespecial 1, 3) := by decide +kernel
theorem d2_4 : decode prog_27_method_1_code 4 = .ok (.aload_n 0, 1) := by decide +kernel
theorem d2_5 : decode prog_27_method_1_code 5 = .ok (.dload_n 1, 1) := by decide +kernel
theorem d2_6 : decode prog_27_method_1_code 6 = .ok (.putfield 7, 3) := by decide +kernel
theorem d2_9 : decode prog_27_method_1_code 9 = .ok (.aload_n 0, 1) := by decide +kernel
theorem d2_10 : decode prog_27_method_1_code 10 = .ok (.dload_n 3, 1) := by decide +kernel
theorem d2_11 : decode prog_27_method_1_code 11 = .ok (.putfield 13, 3) := by decide +kernel
theorem d2_14 : decode prog_27_method_1_code 14 = .ok (.aload_n 0, 1) := by decide +kernel
theorem d2_15 : decode prog_27_method_1_code 15 = .ok (.dload 5, 2) := by decide +kernel
theorem d2_17 : decode prog_27_method_1_code 17 = .ok (.putfield 16, 3) := by decide +kernel
theorem d2_20 : decode prog_27_method_1_code 20 = .ok (.aload_n 0, 1) := by decide +kernel
theorem d2_21 : decode prog_27_method_1_code 21 = .ok (.dload 7, 2) := by decide +kernel
theorem d2_23 : decode prog_27_method_1_code 23 = .ok (.putfield 19, 3) := by decide +kernel
theorem d2_26 : decode prog_27_method_1_code 26 = .ok (.aload_n 0, 1) := by decide +kernel
theorem d2_27 : decode prog_27_method_1_code 27 = .ok (.dload 9, 2) := by decide +kernel
theorem d2_29 : decode prog_27_method_1_code 29 = .ok (.putfield 22, 3) := by decide +kernel
theorem d2_32 : decode prog_27_method_1_code 32 = .ok (.aload_n 0, 1) := by decide +kernel
theorem d2_33 : decode prog_27_method_1_code 33 = .ok (.dload 11, 2) := by decide +kernel
theorem d2_35 : decode prog_27_method_1_code 35 = .ok (.putfield 25, 3) := by decide +kernel
theorem d2_38 : decode prog_27_method_1_code 38 = .ok (.aload_n 0, 1) := by decide +kernel
theorem d2_39 : decode prog_27_method_1_code 39 = .ok (.dload 13, 2) := by decide +kernel
theorem d2_41 : decode prog_27_method_1_code 41 = .ok (.putfield 28, 3) := by decide +kernel
theorem d2_44 : decode prog_27_method_1_code 44 = .ok (.aload_n 0, 1) := by decide +kernel
theorem d2_45 : decode prog_27_method_1_code 45 = .ok (.dload 15, 2) := by decide +kernel
theorem d2_47 : decode prog_27_method_1_code 47 = .ok (.putfield 31, 3) := by decide +kernel
theorem d2_50 : decode prog_27_method_1_code 50 = .ok (.aload_n 0, 1) := by decide +kernel
theorem d2_51 : decode prog_27_method_1_code 51 = .ok (.dload 17, 2) := by decide +kernel
theorem d2_53 : decode prog_27_method_1_code 53 = .ok (.putfield 34, 3) := by decide +kernel
theorem d2_56 : decode prog_27_method_1_code 56 = .ok (.return_, 1) := by decide +kernel
theorem pn2 : plainName "com/example/attitude_bridge/attitudebridge/RotationMatrix" = true := by first | (simp [plainName, overriddenIn]; done) | decide +kernel
theorem pd2 : parseMethodDescriptor "(DDDDDDDDD)V" = some ⟨[.double, .double, .double, .double, .double, .double, .double, .double, .double], none⟩ := by decide +kernel
theorem ef_rm_init (m : MethodId) (x0 : Addr) (x1 : UInt64) (x2 : UInt64) (x3 : UInt64) (x4 : UInt64) (x5 : UInt64) (x6 : UInt64) (x7 : UInt64) (x8 : UInt64) (x9 : UInt64) : entryFrame m #[(.ref x0), (.double x1), (.double x2), (.double x3), (.double x4), (.double x5), (.double x6), (.double x7), (.double x8), (.double x9)] 19 = mkF m 0 #[.val (.ref x0), .val (.double x1), .second, .val (.double x2), .second, .val (.double x3), .second, .val (.double x4), .second, .val (.double x5), .second, .val (.double x6), .second, .val (.double x7), .second, .val (.double x8), .second, .val (.double x9), .second] [] := by first | (simp [entryFrame, mkF, argsToLocals, Value.category, maxLocals]; done) | rfl
set_option maxRecDepth 65536 in
set_option maxHeartbeats 40000000 in
theorem rm_init (l : Launch) (Z : State) (a0 : Array Value) (hw : ∀ d ∈ tables_1, d.before a0 Z = true) (a : Addr) (u0 u1 u2 u3 u4 u5 u6 u7 u8 : UInt64) (h0 : Heap) (n0 : Nat) (Z0 : n0 ≤ h0.size) (EA : Exa Z h0 a "com/example/attitude_bridge/attitudebridge/RotationMatrix") (F_r11_a : Fld Z h0 a "com/example/attitude_bridge/attitudebridge/RotationMatrix" "r11" "D" (.double (0 : UInt64))) (F_r12_a : Fld Z h0 a "com/example/attitude_bridge/attitudebridge/RotationMatrix" "r12" "D" (.double (0 : UInt64))) (F_r13_a : Fld Z h0 a "com/example/attitude_bridge/attitudebridge/RotationMatrix" "r13" "D" (.double (0 : UInt64))) (F_r21_a : Fld Z h0 a "com/example/attitude_bridge/attitudebridge/RotationMatrix" "r21" "D" (.double (0 : UInt64))) (F_r22_a : Fld Z h0 a "com/example/attitude_bridge/attitudebridge/RotationMatrix" "r22" "D" (.double (0 : UInt64))) (F_r23_a : Fld Z h0 a "com/example/attitude_bridge/attitudebridge/RotationMatrix" "r23" "D" (.double (0 : UInt64))) (F_r31_a : Fld Z h0 a "com/example/attitude_bridge/attitudebridge/RotationMatrix" "r31" "D" (.double (0 : UInt64))) (F_r32_a : Fld Z h0 a "com/example/attitude_bridge/attitudebridge/RotationMatrix" "r32" "D" (.double (0 : UInt64))) (F_r33_a : Fld Z h0 a "com/example/attitude_bridge/attitudebridge/RotationMatrix" "r33" "D" (.double (0 : UInt64))) (ga : n0 ≤ a) :
    Does l (⟨"com/example/attitude_bridge/attitudebridge/RotationMatrix", "<init>", "(DDDDDDDDD)V"⟩ : MethodName) prog_27_method_1_code 19 none [] ({ frames := 2, cells := 0, slots := 0, locals := 24 } : Room) Z #[(.ref a), (.double u0), (.double u1), (.double u2), (.double u3), (.double u4), (.double u5), (.double u6), (.double u7), (.double u8)] h0 (fun v h L => v = none ∧ Fld Z h a "com/example/attitude_bridge/attitudebridge/RotationMatrix" "r11" "D" (.double u0) ∧ Fld Z h a "com/example/attitude_bridge/attitudebridge/RotationMatrix" "r12" "D" (.double u1) ∧ Fld Z h a "com/example/attitude_bridge/attitudebridge/RotationMatrix" "r13" "D" (.double u2) ∧ Fld Z h a "com/example/attitude_bridge/attitudebridge/RotationMatrix" "r21" "D" (.double u3) ∧ Fld Z h a "com/example/attitude_bridge/attitudebridge/RotationMatrix" "r22" "D" (.double u4) ∧ Fld Z h a "com/example/attitude_bridge/attitudebridge/RotationMatrix" "r23" "D" (.double u5) ∧ Fld Z h a "com/example/attitude_bridge/attitudebridge/RotationMatrix" "r31" "D" (.double u6) ∧ Fld Z h a "com/example/attitude_bridge/attitudebridge/RotationMatrix" "r32" "D" (.double u7) ∧ Fld Z h a "com/example/attitude_bridge/attitudebridge/RotationMatrix" "r33" "D" (.double u8) ∧ Keep h0 h [a] ∧ Fr n0 L) := by
  refine Does.of (plainFor_of_name pn2) ?_
  intro p e s m below meth c s₁ hx hby hml hret hlk hZ hown hnm X0 e0
  have N0 := Fr.nil n0
  refine Goes.cast (g' := mkF m 0 #[.val (.ref a), .val (.double u0), .second, .val (.double u1), .second, .val (.double u2), .second, .val (.double u3), .second, .val (.double u4), .second, .val (.double u5), .second, .val (.double u6), .second, .val (.double u7), .second, .val (.double u8), .second] []) (ef_rm_init m a u0 u1 u2 u3 u4 u5 u6 u7 u8) ?_
  have K0 := Keep.refl h0 [a]
  refine Goes.by (T' := s₁) (g' := (mkF m 1 #[.val (.ref a), .val (.double u0), .second, .val (.double u1), .second, .val (.double u2), .second, .val (.double u3), .second, .val (.double u4), .second, .val (.double u5), .second, .val (.double u6), .second, .val (.double u7), .second, .val (.double u8), .second] [(.ref a)])) (fun _ k => XS.aloadN X0.here hx rfl (hb hby d2_0) rfl rfl k) ?_
  obtain ⟨v2, T2, L2, X2, hQ2, st2⟩ := callI X0 hx hZ (y := (⟨"java/lang/Record", "<init>", "()V"⟩ : MethodName)) rfl hown (hw _ (List.mem_of_getElem? (i := 12) rfl)) (hw _ (List.mem_of_getElem? (i := 13) rfl)) (hw _ (List.mem_of_getElem? (i := 16) rfl)) (hw _ (List.mem_of_getElem? (i := 15) rfl)) (by decide) e0 (a := a) (argsL := []) (rest := []) (W := 0) (rm_rec l Z a0 hw a h0 n0 Z0) rfl (by decide) (by decide) (by decide) (by decide) (g := (mkF m 1 #[.val (.ref a), .val (.double u0), .second, .val (.double u1), .second, .val (.double u2), .second, .val (.double u3), .second, .val (.double u4), .second, .val (.double u5), .second, .val (.double u6), .second, .val (.double u7), .second, .val (.double u8), .second] [(.ref a)])) rfl (by rw [hml]; rfl) (lenOf pd0 rfl) rfl (by show 2 * 0 + _ ≤ _; exact Nat.le_of_eq rfl) (hb hby d2_1)
  obtain ⟨rfl, NL2, hk2⟩ := hQ2
  have N0 := Fr.app N0 NL2
  refine Goes.by (T' := T2) (g' := (mkF m 4 #[.val (.ref a), .val (.double u0), .second, .val (.double u1), .second, .val (.double u2), .second, .val (.double u3), .second, .val (.double u4), .second, .val (.double u5), .second, .val (.double u6), .second, .val (.double u7), .second, .val (.double u8), .second] [])) st2 ?_
  refine Goes.by (T' := T2) (g' := (mkF m 5 #[.val (.ref a), .val (.double u0), .second, .val (.double u1), .second, .val (.double u2), .second, .val (.double u3), .second, .val (.double u4), .second, .val (.double u5), .second, .val (.double u6), .second, .val (.double u7), .second, .val (.double u8), .second] [(.ref a)])) (fun _ k => XS.aloadN X2.here hx rfl (hb hby d2_4) rfl rfl k) ?_
  refine Goes.by (T' := T2) (g' := (mkF m 6 #[.val (.ref a), .val (.double u0), .second, .val (.double u1), .second, .val (.double u2), .second, .val (.double u3), .second, .val (.double u4), .second, .val (.double u5), .second, .val (.double u6), .second, .val (.double u7), .second, .val (.double u8), .second] [(.double u0), (.ref a)])) (fun _ k => XS.dloadN X2.here hx rfl (hb hby d2_5) rfl k) ?_
  obtain ⟨T3, h3, X3, e3, W3, st3⟩ := putF X2 hx hZ hown (host := "") (Or.inl (hw _ (List.mem_of_getElem? (i := 20) rfl))) Via.refl hk2 F_r11_a EA (Or.inr ⟨(hw _ (List.mem_of_getElem? (i := 21) rfl)), rfl, hnm⟩) (hw _ (List.mem_of_getElem? (i := 7) rfl)) (ty := .double) (by decide) rfl rfl (g := (mkF m 6 #[.val (.ref a), .val (.double u0), .second, .val (.double u1), .second, .val (.double u2), .second, .val (.double u3), .second, .val (.double u4), .second, .val (.double u5), .second, .val (.double u6), .second, .val (.double u7), .second, .val (.double u8), .second] [(.double u0), (.ref a)])) rfl rfl (hb hby d2_6)
  have N0 := Fr.snoc X3 N0 ga
  have EA := EA.wr W3
  have F_r11_a := F_r11_a.same W3
  have F_r12_a := F_r12_a.other W3 (Or.inr (slot_ne (t := .double) (t' := .double) (Or.inr (hw _ (List.mem_of_getElem? (i := 23) rfl))) (Or.inr (hw _ (List.mem_of_getElem? (i := 21) rfl))) (by decide) (by decide) (by decide)))
  have F_r13_a := F_r13_a.other W3 (Or.inr (slot_ne (t := .double) (t' := .double) (Or.inr (hw _ (List.mem_of_getElem? (i := 25) rfl))) (Or.inr (hw _ (List.mem_of_getElem? (i := 21) rfl))) (by decide) (by decide) (by decide)))
  have F_r21_a := F_r21_a.other W3 (Or.inr (slot_ne (t := .double) (t' := .double) (Or.inr (hw _ (List.mem_of_getElem? (i := 27) rfl))) (Or.inr (hw _ (List.mem_of_getElem? (i := 21) rfl))) (by decide) (by decide) (by decide)))
  have F_r22_a := F_r22_a.other W3 (Or.inr (slot_ne (t := .double) (t' := .double) (Or.inr (hw _ (List.mem_of_getElem? (i := 29) rfl))) (Or.inr (hw _ (List.mem_of_getElem? (i := 21) rfl))) (by decide) (by decide) (by decide)))
  have F_r23_a := F_r23_a.other W3 (Or.inr (slot_ne (t := .double) (t' := .double) (Or.inr (hw _ (List.mem_of_getElem? (i := 31) rfl))) (Or.inr (hw _ (List.mem_of_getElem? (i := 21) rfl))) (by decide) (by decide) (by decide)))
  have F_r31_a := F_r31_a.other W3 (Or.inr (slot_ne (t := .double) (t' := .double) (Or.inr (hw _ (List.mem_of_getElem? (i := 33) rfl))) (Or.inr (hw _ (List.mem_of_getElem? (i := 21) rfl))) (by decide) (by decide) (by decide)))
  have F_r32_a := F_r32_a.other W3 (Or.inr (slot_ne (t := .double) (t' := .double) (Or.inr (hw _ (List.mem_of_getElem? (i := 35) rfl))) (Or.inr (hw _ (List.mem_of_getElem? (i := 21) rfl))) (by decide) (by decide) (by decide)))
  have F_r33_a := F_r33_a.other W3 (Or.inr (slot_ne (t := .double) (t' := .double) (Or.inr (hw _ (List.mem_of_getElem? (i := 37) rfl))) (Or.inr (hw _ (List.mem_of_getElem? (i := 21) rfl))) (by decide) (by decide) (by decide)))
  have Z0 := Nat.le_trans Z0 (Nat.le_of_eq W3.size.symm)
  have K0 := K0.wr W3 (Or.inl (List.mem_singleton.mpr rfl))
  refine Goes.by (T' := T3) (g' := (mkF m 9 #[.val (.ref a), .val (.double u0), .second, .val (.double u1), .second, .val (.double u2), .second, .val (.double u3), .second, .val (.double u4), .second, .val (.double u5), .second, .val (.double u6), .second, .val (.double u7), .second, .val (.double u8), .second] [])) st3 ?_
  refine Goes.by (T' := T3) (g' := (mkF m 10 #[.val (.ref a), .val (.double u0), .second, .val (.double u1), .second, .val (.double u2), .second, .val (.double u3), .second, .val (.double u4), .second, .val (.double u5), .second, .val (.double u6), .second, .val (.double u7), .second, .val (.double u8), .second] [(.ref a)])) (fun _ k => XS.aloadN X3.here hx rfl (hb hby d2_9) rfl rfl k) ?_
  refine Goes.by (T' := T3) (g' := (mkF m 11 #[.val (.ref a), .val (.double u0), .second, .val (.double u1), .second, .val (.double u2), .second, .val (.double u3), .second, .val (.double u4), .second, .val (.double u5), .second, .val (.double u6), .second, .val (.double u7), .second, .val (.double u8), .second] [(.double u1), (.ref a)])) (fun _ k => XS.dloadN X3.here hx rfl (hb hby d2_10) rfl k) ?_
  obtain ⟨T4, h4, X4, e4, W4, st4⟩ := putF X3 hx hZ hown (host := "") (Or.inl (hw _ (List.mem_of_getElem? (i := 22) rfl))) Via.refl e3 F_r12_a EA (Or.inr ⟨(hw _ (List.mem_of_getElem? (i := 23) rfl)), rfl, hnm⟩) (hw _ (List.mem_of_getElem? (i := 7) rfl)) (ty := .double) (by decide) rfl rfl (g := (mkF m 11 #[.val (.ref a), .val (.double u0), .second, .val (.double u1), .second, .val (.double u2), .second, .val (.double u3), .second, .val (.double u4), .second, .val (.double u5), .second, .val (.double u6), .second, .val (.double u7), .second, .val (.double u8), .second] [(.double u1), (.ref a)])) rfl rfl (hb hby d2_11)
  have N0 := Fr.snoc X4 N0 ga
  have EA := EA.wr W4
  have F_r11_a := F_r11_a.other W4 (Or.inr (slot_ne (t := .double) (t' := .double) (Or.inr (hw _ (List.mem_of_getElem? (i := 21) rfl))) (Or.inr (hw _ (List.mem_of_getElem? (i := 23) rfl))) (by decide) (by decide) (by decide)))
  have F_r12_a := F_r12_a.same W4
  have F_r13_a := F_r13_a.other W4 (Or.inr (slot_ne (t := .double) (t' := .double) (Or.inr (hw _ (List.mem_of_getElem? (i := 25) rfl))) (Or.inr (hw _ (List.mem_of_getElem? (i := 23) rfl))) (by decide) (by decide) (by decide)))
  have F_r21_a := F_r21_a.other W4 (Or.inr (slot_ne (t := .double) (t' := .double) (Or.inr (hw _ (List.mem_of_getElem? (i := 27) rfl))) (Or.inr (hw _ (List.mem_of_getElem? (i := 23) rfl))) (by decide) (by decide) (by decide)))
  have F_r22_a := F_r22_a.other W4 (Or.inr (slot_ne (t := .double) (t' := .double) (Or.inr (hw _ (List.mem_of_getElem? (i := 29) rfl))) (Or.inr (hw _ (List.mem_of_getElem? (i := 23) rfl))) (by decide) (by decide) (by decide)))
  have F_r23_a := F_r23_a.other W4 (Or.inr (slot_ne (t := .double) (t' := .double) (Or.inr (hw _ (List.mem_of_getElem? (i := 31) rfl))) (Or.inr (hw _ (List.mem_of_getElem? (i := 23) rfl))) (by decide) (by decide) (by decide)))
  have F_r31_a := F_r31_a.other W4 (Or.inr (slot_ne (t := .double) (t' := .double) (Or.inr (hw _ (List.mem_of_getElem? (i := 33) rfl))) (Or.inr (hw _ (List.mem_of_getElem? (i := 23) rfl))) (by decide) (by decide) (by decide)))
  have F_r32_a := F_r32_a.other W4 (Or.inr (slot_ne (t := .double) (t' := .double) (Or.inr (hw _ (List.mem_of_getElem? (i := 35) rfl))) (Or.inr (hw _ (List.mem_of_getElem? (i := 23) rfl))) (by decide) (by decide) (by decide)))
  have F_r33_a := F_r33_a.other W4 (Or.inr (slot_ne (t := .double) (t' := .double) (Or.inr (hw _ (List.mem_of_getElem? (i := 37) rfl))) (Or.inr (hw _ (List.mem_of_getElem? (i := 23) rfl))) (by decide) (by decide) (by decide)))
  have Z0 := Nat.le_trans Z0 (Nat.le_of_eq W4.size.symm)
  have K0 := K0.wr W4 (Or.inl (List.mem_singleton.mpr rfl))
  refine Goes.by (T' := T4) (g' := (mkF m 14 #[.val (.ref a), .val (.double u0), .second, .val (.double u1), .second, .val (.double u2), .second, .val (.double u3), .second, .val (.double u4), .second, .val (.double u5), .second, .val (.double u6), .second, .val (.double u7), .second, .val (.double u8), .second] [])) st4 ?_
  refine Goes.by (T' := T4) (g' := (mkF m 15 #[.val (.ref a), .val (.double u0), .second, .val (.double u1), .second, .val (.double u2), .second, .val (.double u3), .second, .val (.double u4), .second, .val (.double u5), .second, .val (.double u6), .second, .val (.double u7), .second, .val (.double u8), .second] [(.ref a)])) (fun _ k => XS.aloadN X4.here hx rfl (hb hby d2_14) rfl rfl k) ?_
  refine Goes.by (T' := T4) (g' := (mkF m 17 #[.val (.ref a), .val (.double u0), .second, .val (.double u1), .second, .val (.double u2), .second, .val (.double u3), .second, .val (.double u4), .second, .val (.double u5), .second, .val (.double u6), .second, .val (.double u7), .second, .val (.double u8), .second] [(.double u2), (.ref a)])) (fun _ k => XS.dload X4.here hx rfl (hb hby d2_15) rfl k) ?_
  obtain ⟨T5, h5, X5, e5, W5, st5⟩ := putF X4 hx hZ hown (host := "") (Or.inl (hw _ (List.mem_of_getElem? (i := 24) rfl))) Via.refl e4 F_r13_a EA (Or.inr ⟨(hw _ (List.mem_of_getElem? (i := 25) rfl)), rfl, hnm⟩) (hw _ (List.mem_of_getElem? (i := 7) rfl)) (ty := .double) (by decide) rfl rfl (g := (mkF m 17 #[.val (.ref a), .val (.double u0), .second, .val (.double u1), .second, .val (.double u2), .second, .val (.double u3), .second, .val (.double u4), .second, .val (.double u5), .second, .val (.double u6), .second, .val (.double u7), .second, .val (.double u8), .second] [(.double u2), (.ref a)])) rfl rfl (hb hby d2_17)
  have N0 := Fr.snoc X5 N0 ga
  have EA := EA.wr W5
  have F_r11_a := F_r11_a.other W5 (Or.inr (slot_ne (t := .double) (t' := .double) (Or.inr (hw _ (List.mem_of_getElem? (i := 21) rfl))) (Or.inr (hw _ (List.mem_of_getElem? (i := 25) rfl))) (by decide) (by decide) (by decide)))
  have F_r12_a := F_r12_a.other W5 (Or.inr (slot_ne (t := .double) (t' := .double) (Or.inr (hw _ (List.mem_of_getElem? (i := 23) rfl))) (Or.inr (hw _ (List.mem_of_getElem? (i := 25) rfl))) (by decide) (by decide) (by decide)))
  have F_r13_a := F_r13_a.same W5
  have F_r21_a := F_r21_a.other W5 (Or.inr (slot_ne (t := .double) (t' := .double) (Or.inr (hw _ (List.mem_of_getElem? (i := 27) rfl))) (Or.inr (hw _ (List.mem_of_getElem? (i := 25) rfl))) (by decide) (by decide) (by decide)))
  have F_r22_a := F_r22_a.other W5 (Or.inr (slot_ne (t := .double) (t' := .double) (Or.inr (hw _ (List.mem_of_getElem? (i := 29) rfl))) (Or.inr (hw _ (List.mem_of_getElem? (i := 25) rfl))) (by decide) (by decide) (by decide)))
  have F_r23_a := F_r23_a.other W5 (Or.inr (slot_ne (t := .double) (t' := .double) (Or.inr (hw _ (List.mem_of_getElem? (i := 31) rfl))) (Or.inr (hw _ (List.mem_of_getElem? (i := 25) rfl))) (by decide) (by decide) (by decide)))
  have F_r31_a := F_r31_a.other W5 (Or.inr (slot_ne (t := .double) (t' := .double) (Or.inr (hw _ (List.mem_of_getElem? (i := 33) rfl))) (Or.inr (hw _ (List.mem_of_getElem? (i := 25) rfl))) (by decide) (by decide) (by decide)))
  have F_r32_a := F_r32_a.other W5 (Or.inr (slot_ne (t := .double) (t' := .double) (Or.inr (hw _ (List.mem_of_getElem? (i := 35) rfl))) (Or.inr (hw _ (List.mem_of_getElem? (i := 25) rfl))) (by decide) (by decide) (by decide)))
  have F_r33_a := F_r33_a.other W5 (Or.inr (slot_ne (t := .double) (t' := .double) (Or.inr (hw _ (List.mem_of_getElem? (i := 37) rfl))) (Or.inr (hw _ (List.mem_of_getElem? (i := 25) rfl))) (by decide) (by decide) (by decide)))
  have Z0 := Nat.le_trans Z0 (Nat.le_of_eq W5.size.symm)
  have K0 := K0.wr W5 (Or.inl (List.mem_singleton.mpr rfl))
  refine Goes.by (T' := T5) (g' := (mkF m 20 #[.val (.ref a), .val (.double u0), .second, .val (.double u1), .second, .val (.double u2), .second, .val (.double u3), .second, .val (.double u4), .second, .val (.double u5), .second, .val (.double u6), .second, .val (.double u7), .second, .val (.double u8), .second] [])) st5 ?_
  refine Goes.by (T' := T5) (g' := (mkF m 21 #[.val (.ref a), .val (.double u0), .second, .val (.double u1), .second, .val (.double u2), .second, .val (.double u3), .second, .val (.double u4), .second, .val (.double u5), .second, .val (.double u6), .second, .val (.double u7), .second, .val (.double u8), .second] [(.ref a)])) (fun _ k => XS.aloadN X5.here hx rfl (hb hby d2_20) rfl rfl k) ?_
  refine Goes.by (T' := T5) (g' := (mkF m 23 #[.val (.ref a), .val (.double u0), .second, .val (.double u1), .second, .val (.double u2), .second, .val (.double u3), .second, .val (.double u4), .second, .val (.double u5), .second, .val (.double u6), .second, .val (.double u7), .second, .val (.double u8), .second] [(.double u3), (.ref a)])) (fun _ k => XS.dload X5.here hx rfl (hb hby d2_21) rfl k) ?_
  obtain ⟨T6, h6, X6, e6, W6, st6⟩ := putF X5 hx hZ hown (host := "") (Or.inl (hw _ (List.mem_of_getElem? (i := 26) rfl))) Via.refl e5 F_r21_a EA (Or.inr ⟨(hw _ (List.mem_of_getElem? (i := 27) rfl)), rfl, hnm⟩) (hw _ (List.mem_of_getElem? (i := 7) rfl)) (ty := .double) (by decide) rfl rfl (g := (mkF m 23 #[.val (.ref a), .val (.double u0), .second, .val (.double u1), .second, .val (.double u2), .second, .val (.double u3), .second, .val (.double u4), .second, .val (.double u5), .second, .val (.double u6), .second, .val (.double u7), .second, .val (.double u8), .second] [(.double u3), (.ref a)])) rfl rfl (hb hby d2_23)
  have N0 := Fr.snoc X6 N0 ga
  have EA := EA.wr W6
  have F_r11_a := F_r11_a.other W6 (Or.inr (slot_ne (t := .double) (t' := .double) (Or.inr (hw _ (List.mem_of_getElem? (i := 21) rfl))) (Or.inr (hw _ (List.mem_of_getElem? (i := 27) rfl))) (by decide) (by decide) (by decide)))
  have F_r12_a := F_r12_a.other W6 (Or.inr (slot_ne (t := .double) (t' := .double) (Or.inr (hw _ (List.mem_of_getElem? (i := 23) rfl))) (Or.inr (hw _ (List.mem_of_getElem? (i := 27) rfl))) (by decide) (by decide) (by decide)))
  have F_r13_a := F_r13_a.other W6 (Or.inr (slot_ne (t := .double) (t' := .double) (Or.inr (hw _ (List.mem_of_getElem? (i := 25) rfl))) (Or.inr (hw _ (List.mem_of_getElem? (i := 27) rfl))) (by decide) (by decide) (by decide)))
  have F_r21_a := F_r21_a.same W6
  have F_r22_a := F_r22_a.other W6 (Or.inr (slot_ne (t := .double) (t' := .double) (Or.inr (hw _ (List.mem_of_getElem? (i := 29) rfl))) (Or.inr (hw _ (List.mem_of_getElem? (i := 27) rfl))) (by decide) (by decide) (by decide)))
  have F_r23_a := F_r23_a.other W6 (Or.inr (slot_ne (t := .double) (t' := .double) (Or.inr (hw _ (List.mem_of_getElem? (i := 31) rfl))) (Or.inr (hw _ (List.mem_of_getElem? (i := 27) rfl))) (by decide) (by decide) (by decide)))
  have F_r31_a := F_r31_a.other W6 (Or.inr (slot_ne (t := .double) (t' := .double) (Or.inr (hw _ (List.mem_of_getElem? (i := 33) rfl))) (Or.inr (hw _ (List.mem_of_getElem? (i := 27) rfl))) (by decide) (by decide) (by decide)))
  have F_r32_a := F_r32_a.other W6 (Or.inr (slot_ne (t := .double) (t' := .double) (Or.inr (hw _ (List.mem_of_getElem? (i := 35) rfl))) (Or.inr (hw _ (List.mem_of_getElem? (i := 27) rfl))) (by decide) (by decide) (by decide)))
  have F_r33_a := F_r33_a.other W6 (Or.inr (slot_ne (t := .double) (t' := .double) (Or.inr (hw _ (List.mem_of_getElem? (i := 37) rfl))) (Or.inr (hw _ (List.mem_of_getElem? (i := 27) rfl))) (by decide) (by decide) (by decide)))
  have Z0 := Nat.le_trans Z0 (Nat.le_of_eq W6.size.symm)
  have K0 := K0.wr W6 (Or.inl (List.mem_singleton.mpr rfl))
  refine Goes.by (T' := T6) (g' := (mkF m 26 #[.val (.ref a), .val (.double u0), .second, .val (.double u1), .second, .val (.double u2), .second, .val (.double u3), .second, .val (.double u4), .second, .val (.double u5), .second, .val (.double u6), .second, .val (.double u7), .second, .val (.double u8), .second] [])) st6 ?_
  refine Goes.by (T' := T6) (g' := (mkF m 27 #[.val (.ref a), .val (.double u0), .second, .val (.double u1), .second, .val (.double u2), .second, .val (.double u3), .second, .val (.double u4), .second, .val (.double u5), .second, .val (.double u6), .second, .val (.double u7), .second, .val (.double u8), .second] [(.ref a)])) (fun _ k => XS.aloadN X6.here hx rfl (hb hby d2_26) rfl rfl k) ?_
  refine Goes.by (T' := T6) (g' := (mkF m 29 #[.val (.ref a), .val (.double u0), .second, .val (.double u1), .second, .val (.double u2), .second, .val (.double u3), .second, .val (.double u4), .second, .val (.double u5), .second, .val (.double u6), .second, .val (.double u7), .second, .val (.double u8), .second] [(.double u4), (.ref a)])) (fun _ k => XS.dload X6.here hx rfl (hb hby d2_27) rfl k) ?_
  obtain ⟨T7, h7, X7, e7, W7, st7⟩ := putF X6 hx hZ hown (host := "") (Or.inl (hw _ (List.mem_of_getElem? (i := 28) rfl))) Via.refl e6 F_r22_a EA (Or.inr ⟨(hw _ (List.mem_of_getElem? (i := 29) rfl)), rfl, hnm⟩) (hw _ (List.mem_of_getElem? (i := 7) rfl)) (ty := .double) (by decide) rfl rfl (g := (mkF m 29 #[.val (.ref a), .val (.double u0), .second, .val (.double u1), .second, .val (.double u2), .second, .val (.double u3), .second, .val (.double u4), .second, .val (.double u5), .second, .val (.double u6), .second, .val (.double u7), .second, .val (.double u8), .second] [(.double u4), (.ref a)])) rfl rfl (hb hby d2_29)
  have N0 := Fr.snoc X7 N0 ga
  have EA := EA.wr W7
  have F_r11_a := F_r11_a.other W7 (Or.inr (slot_ne (t := .double) (t' := .double) (Or.inr (hw _ (List.mem_of_getElem? (i := 21) rfl))) (Or.inr (hw _ (List.mem_of_getElem? (i := 29) rfl))) (by decide) (by decide) (by decide)))
  have F_r12_a := F_r12_a.other W7 (Or.inr (slot_ne (t := .double) (t' := .double) (Or.inr (hw _ (List.mem_of_getElem? (i := 23) rfl))) (Or.inr (hw _ (List.mem_of_getElem? (i := 29) rfl))) (by decide) (by decide) (by decide)))
  have F_r13_a := F_r13_a.other W7 (Or.inr (slot_ne (t := .double) (t' := .double) (Or.inr (hw _ (List.mem_of_getElem? (i := 25) rfl))) (Or.inr (hw _ (List.mem_of_getElem? (i := 29) rfl))) (by decide) (by decide) (by decide)))
  have F_r21_a := F_r21_a.other W7 (Or.inr (slot_ne (t := .double) (t' := .double) (Or.inr (hw _ (List.mem_of_getElem? (i := 27) rfl))) (Or.inr (hw _ (List.mem_of_getElem? (i := 29) rfl))) (by decide) (by decide) (by decide)))
  have F_r22_a := F_r22_a.same W7
  have F_r23_a := F_r23_a.other W7 (Or.inr (slot_ne (t := .double) (t' := .double) (Or.inr (hw _ (List.mem_of_getElem? (i := 31) rfl))) (Or.inr (hw _ (List.mem_of_getElem? (i := 29) rfl))) (by decide) (by decide) (by decide)))
  have F_r31_a := F_r31_a.other W7 (Or.inr (slot_ne (t := .double) (t' := .double) (Or.inr (hw _ (List.mem_of_getElem? (i := 33) rfl))) (Or.inr (hw _ (List.mem_of_getElem? (i := 29) rfl))) (by decide) (by decide) (by decide)))
  have F_r32_a := F_r32_a.other W7 (Or.inr (slot_ne (t := .double) (t' := .double) (Or.inr (hw _ (List.mem_of_getElem? (i := 35) rfl))) (Or.inr (hw _ (List.mem_of_getElem? (i := 29) rfl))) (by decide) (by decide) (by decide)))
  have F_r33_a := F_r33_a.other W7 (Or.inr (slot_ne (t := .double) (t' := .double) (Or.inr (hw _ (List.mem_of_getElem? (i := 37) rfl))) (Or.inr (hw _ (List.mem_of_getElem? (i := 29) rfl))) (by decide) (by decide) (by decide)))
  have Z0 := Nat.le_trans Z0 (Nat.le_of_eq W7.size.symm)
  have K0 := K0.wr W7 (Or.inl (List.mem_singleton.mpr rfl))
  refine Goes.by (T' := T7) (g' := (mkF m 32 #[.val (.ref a), .val (.double u0), .second, .val (.double u1), .second, .val (.double u2), .second, .val (.double u3), .second, .val (.double u4), .second, .val (.double u5), .second, .val (.double u6), .second, .val (.double u7), .second, .val (.double u8), .second] [])) st7 ?_
  refine Goes.by (T' := T7) (g' := (mkF m 33 #[.val (.ref a), .val (.double u0), .second, .val (.double u1), .second, .val (.double u2), .second, .val (.double u3), .second, .val (.double u4), .second, .val (.double u5), .second, .val (.double u6), .second, .val (.double u7), .second, .val (.double u8), .second] [(.ref a)])) (fun _ k => XS.aloadN X7.here hx rfl (hb hby d2_32) rfl rfl k) ?_
  refine Goes.by (T' := T7) (g' := (mkF m 35 #[.val (.ref a), .val (.double u0), .second, .val (.double u1), .second, .val (.double u2), .second, .val (.double u3), .second, .val (.double u4), .second, .val (.double u5), .second, .val (.double u6), .second, .val (.double u7), .second, .val (.double u8), .second] [(.double u5), (.ref a)])) (fun _ k => XS.dload X7.here hx rfl (hb hby d2_33) rfl k) ?_
  obtain ⟨T8, h8, X8, e8, W8, st8⟩ := putF X7 hx hZ hown (host := "") (Or.inl (hw _ (List.mem_of_getElem? (i := 30) rfl))) Via.refl e7 F_r23_a EA (Or.inr ⟨(hw _ (List.mem_of_getElem? (i := 31) rfl)), rfl, hnm⟩) (hw _ (List.mem_of_getElem? (i := 7) rfl)) (ty := .double) (by decide) rfl rfl (g := (mkF m 35 #[.val (.ref a), .val (.double u0), .second, .val (.double u1), .second, .val (.double u2), .second, .val (.double u3), .second, .val (.double u4), .second, .val (.double u5), .second, .val (.double u6), .second, .val (.double u7), .second, .val (.double u8), .second] [(.double u5), (.ref a)])) rfl rfl (hb hby d2_35)
  have N0 := Fr.snoc X8 N0 ga
  have EA := EA.wr W8
  have F_r11_a := F_r11_a.other W8 (Or.inr (slot_ne (t := .double) (t' := .double) (Or.inr (hw _ (List.mem_of_getElem? (i := 21) rfl))) (Or.inr (hw _ (List.mem_of_getElem? (i := 31) rfl))) (by decide) (by decide) (by decide)))
  have F_r12_a := F_r12_a.other W8 (Or.inr (slot_ne (t := .double) (t' := .double) (Or.inr (hw _ (List.mem_of_getElem? (i := 23) rfl))) (Or.inr (hw _ (List.mem_of_getElem? (i := 31) rfl))) (by decide) (by decide) (by decide)))
  have F_r13_a := F_r13_a.other W8 (Or.inr (slot_ne (t := .double) (t' := .double) (Or.inr (hw _ (List.mem_of_getElem? (i := 25) rfl))) (Or.inr (hw _ (List.mem_of_getElem? (i := 31) rfl))) (by decide) (by decide) (by decide)))
  have F_r21_a := F_r21_a.other W8 (Or.inr (slot_ne (t := .double) (t' := .double) (Or.inr (hw _ (List.mem_of_getElem? (i := 27) rfl))) (Or.inr (hw _ (List.mem_of_getElem? (i := 31) rfl))) (by decide) (by decide) (by decide)))
  have F_r22_a := F_r22_a.other W8 (Or.inr (slot_ne (t := .double) (t' := .double) (Or.inr (hw _ (List.mem_of_getElem? (i := 29) rfl))) (Or.inr (hw _ (List.mem_of_getElem? (i := 31) rfl))) (by decide) (by decide) (by decide)))
  have F_r23_a := F_r23_a.same W8
  have F_r31_a := F_r31_a.other W8 (Or.inr (slot_ne (t := .double) (t' := .double) (Or.inr (hw _ (List.mem_of_getElem? (i := 33) rfl))) (Or.inr (hw _ (List.mem_of_getElem? (i := 31) rfl))) (by decide) (by decide) (by decide)))
  have F_r32_a := F_r32_a.other W8 (Or.inr (slot_ne (t := .double) (t' := .double) (Or.inr (hw _ (List.mem_of_getElem? (i := 35) rfl))) (Or.inr (hw _ (List.mem_of_getElem? (i := 31) rfl))) (by decide) (by decide) (by decide)))
  have F_r33_a := F_r33_a.other W8 (Or.inr (slot_ne (t := .double) (t' := .double) (Or.inr (hw _ (List.mem_of_getElem? (i := 37) rfl))) (Or.inr (hw _ (List.mem_of_getElem? (i := 31) rfl))) (by decide) (by decide) (by decide)))
  have Z0 := Nat.le_trans Z0 (Nat.le_of_eq W8.size.symm)
  have K0 := K0.wr W8 (Or.inl (List.mem_singleton.mpr rfl))
  refine Goes.by (T' := T8) (g' := (mkF m 38 #[.val (.ref a), .val (.double u0), .second, .val (.double u1), .second, .val (.double u2), .second, .val (.double u3), .second, .val (.double u4), .second, .val (.double u5), .second, .val (.double u6), .second, .val (.double u7), .second, .val (.double u8), .second] [])) st8 ?_
  refine Goes.by (T' := T8) (g' := (mkF m 39 #[.val (.ref a), .val (.double u0), .second, .val (.double u1), .second, .val (.double u2), .second, .val (.double u3), .second, .val (.double u4), .second, .val (.double u5), .second, .val (.double u6), .second, .val (.double u7), .second, .val (.double u8), .second] [(.ref a)])) (fun _ k => XS.aloadN X8.here hx rfl (hb hby d2_38) rfl rfl k) ?_
  refine Goes.by (T' := T8) (g' := (mkF m 41 #[.val (.ref a), .val (.double u0), .second, .val (.double u1), .second, .val (.double u2), .second, .val (.double u3), .second, .val (.double u4), .second, .val (.double u5), .second, .val (.double u6), .second, .val (.double u7), .second, .val (.double u8), .second] [(.double u6), (.ref a)])) (fun _ k => XS.dload X8.here hx rfl (hb hby d2_39) rfl k) ?_
  obtain ⟨T9, h9, X9, e9, W9, st9⟩ := putF X8 hx hZ hown (host := "") (Or.inl (hw _ (List.mem_of_getElem? (i := 32) rfl))) Via.refl e8 F_r31_a EA (Or.inr ⟨(hw _ (List.mem_of_getElem? (i := 33) rfl)), rfl, hnm⟩) (hw _ (List.mem_of_getElem? (i := 7) rfl)) (ty := .double) (by decide) rfl rfl (g := (mkF m 41 #[.val (.ref a), .val (.double u0), .second, .val (.double u1), .second, .val (.double u2), .second, .val (.double u3), .second, .val (.double u4), .second, .val (.double u5), .second, .val (.double u6), .second, .val (.double u7), .second, .val (.double u8), .second] [(.double u6), (.ref a)])) rfl rfl (hb hby d2_41)
  have N0 := Fr.snoc X9 N0 ga
  have EA := EA.wr W9
  have F_r11_a := F_r11_a.other W9 (Or.inr (slot_ne (t := .double) (t' := .double) (Or.inr (hw _ (List.mem_of_getElem? (i := 21) rfl))) (Or.inr (hw _ (List.mem_of_getElem? (i := 33) rfl))) (by decide) (by decide) (by decide)))
  have F_r12_a := F_r12_a.other W9 (Or.inr (slot_ne (t := .double) (t' := .double) (Or.inr (hw _ (List.mem_of_getElem? (i := 23) rfl))) (Or.inr (hw _ (List.mem_of_getElem? (i := 33) rfl))) (by decide) (by decide) (by decide)))
  have F_r13_a := F_r13_a.other W9 (Or.inr (slot_ne (t := .double) (t' := .double) (Or.inr (hw _ (List.mem_of_getElem? (i := 25) rfl))) (Or.inr (hw _ (List.mem_of_getElem? (i := 33) rfl))) (by decide) (by decide) (by decide)))
  have F_r21_a := F_r21_a.other W9 (Or.inr (slot_ne (t := .double) (t' := .double) (Or.inr (hw _ (List.mem_of_getElem? (i := 27) rfl))) (Or.inr (hw _ (List.mem_of_getElem? (i := 33) rfl))) (by decide) (by decide) (by decide)))
  have F_r22_a := F_r22_a.other W9 (Or.inr (slot_ne (t := .double) (t' := .double) (Or.inr (hw _ (List.mem_of_getElem? (i := 29) rfl))) (Or.inr (hw _ (List.mem_of_getElem? (i := 33) rfl))) (by decide) (by decide) (by decide)))
  have F_r23_a := F_r23_a.other W9 (Or.inr (slot_ne (t := .double) (t' := .double) (Or.inr (hw _ (List.mem_of_getElem? (i := 31) rfl))) (Or.inr (hw _ (List.mem_of_getElem? (i := 33) rfl))) (by decide) (by decide) (by decide)))
  have F_r31_a := F_r31_a.same W9
  have F_r32_a := F_r32_a.other W9 (Or.inr (slot_ne (t := .double) (t' := .double) (Or.inr (hw _ (List.mem_of_getElem? (i := 35) rfl))) (Or.inr (hw _ (List.mem_of_getElem? (i := 33) rfl))) (by decide) (by decide) (by decide)))
  have F_r33_a := F_r33_a.other W9 (Or.inr (slot_ne (t := .double) (t' := .double) (Or.inr (hw _ (List.mem_of_getElem? (i := 37) rfl))) (Or.inr (hw _ (List.mem_of_getElem? (i := 33) rfl))) (by decide) (by decide) (by decide)))
  have Z0 := Nat.le_trans Z0 (Nat.le_of_eq W9.size.symm)
  have K0 := K0.wr W9 (Or.inl (List.mem_singleton.mpr rfl))
  refine Goes.by (T' := T9) (g' := (mkF m 44 #[.val (.ref a), .val (.double u0), .second, .val (.double u1), .second, .val (.double u2), .second, .val (.double u3), .second, .val (.double u4), .second, .val (.double u5), .second, .val (.double u6), .second, .val (.double u7), .second, .val (.double u8), .second] [])) st9 ?_
  refine Goes.by (T' := T9) (g' := (mkF m 45 #[.val (.ref a), .val (.double u0), .second, .val (.double u1), .second, .val (.double u2), .second, .val (.double u3), .second, .val (.double u4), .second, .val (.double u5), .second, .val (.double u6), .second, .val (.double u7), .second, .val (.double u8), .second] [(.ref a)])) (fun _ k => XS.aloadN X9.here hx rfl (hb hby d2_44) rfl rfl k) ?_
  refine Goes.by (T' := T9) (g' := (mkF m 47 #[.val (.ref a), .val (.double u0), .second, .val (.double u1), .second, .val (.double u2), .second, .val (.double u3), .second, .val (.double u4), .second, .val (.double u5), .second, .val (.double u6), .second, .val (.double u7), .second, .val (.double u8), .second] [(.double u7), (.ref a)])) (fun _ k => XS.dload X9.here hx rfl (hb hby d2_45) rfl k) ?_
  obtain ⟨T10, h10, X10, e10, W10, st10⟩ := putF X9 hx hZ hown (host := "") (Or.inl (hw _ (List.mem_of_getElem? (i := 34) rfl))) Via.refl e9 F_r32_a EA (Or.inr ⟨(hw _ (List.mem_of_getElem? (i := 35) rfl)), rfl, hnm⟩) (hw _ (List.mem_of_getElem? (i := 7) rfl)) (ty := .double) (by decide) rfl rfl (g := (mkF m 47 #[.val (.ref a), .val (.double u0), .second, .val (.double u1), .second, .val (.double u2), .second, .val (.double u3), .second, .val (.double u4), .second, .val (.double u5), .second, .val (.double u6), .second, .val (.double u7), .second, .val (.double u8), .second] [(.double u7), (.ref a)])) rfl rfl (hb hby d2_47)
  have N0 := Fr.snoc X10 N0 ga
  have EA := EA.wr W10
  have F_r11_a := F_r11_a.other W10 (Or.inr (slot_ne (t := .double) (t' := .double) (Or.inr (hw _ (List.mem_of_getElem? (i := 21) rfl))) (Or.inr (hw _ (List.mem_of_getElem? (i := 35) rfl))) (by decide) (by decide) (by decide)))
  have F_r12_a := F_r12_a.other W10 (Or.inr (slot_ne (t := .double) (t' := .double) (Or.inr (hw _ (List.mem_of_getElem? (i := 23) rfl))) (Or.inr (hw _ (List.mem_of_getElem? (i := 35) rfl))) (by decide) (by decide) (by decide)))
  have F_r13_a := F_r13_a.other W10 (Or.inr (slot_ne (t := .double) (t' := .double) (Or.inr (hw _ (List.mem_of_getElem? (i := 25) rfl))) (Or.inr (hw _ (List.mem_of_getElem? (i := 35) rfl))) (by decide) (by decide) (by decide)))
  have F_r21_a := F_r21_a.other W10 (Or.inr (slot_ne (t := .double) (t' := .double) (Or.inr (hw _ (List.mem_of_getElem? (i := 27) rfl))) (Or.inr (hw _ (List.mem_of_getElem? (i := 35) rfl))) (by decide) (by decide) (by decide)))
  have F_r22_a := F_r22_a.other W10 (Or.inr (slot_ne (t := .double) (t' := .double) (Or.inr (hw _ (List.mem_of_getElem? (i := 29) rfl))) (Or.inr (hw _ (List.mem_of_getElem? (i := 35) rfl))) (by decide) (by decide) (by decide)))
  have F_r23_a := F_r23_a.other W10 (Or.inr (slot_ne (t := .double) (t' := .double) (Or.inr (hw _ (List.mem_of_getElem? (i := 31) rfl))) (Or.inr (hw _ (List.mem_of_getElem? (i := 35) rfl))) (by decide) (by decide) (by decide)))
  have F_r31_a := F_r31_a.other W10 (Or.inr (slot_ne (t := .double) (t' := .double) (Or.inr (hw _ (List.mem_of_getElem? (i := 33) rfl))) (Or.inr (hw _ (List.mem_of_getElem? (i := 35) rfl))) (by decide) (by decide) (by decide)))
  have F_r32_a := F_r32_a.same W10
  have F_r33_a := F_r33_a.other W10 (Or.inr (slot_ne (t := .double) (t' := .double) (Or.inr (hw _ (List.mem_of_getElem? (i := 37) rfl))) (Or.inr (hw _ (List.mem_of_getElem? (i := 35) rfl))) (by decide) (by decide) (by decide)))
  have Z0 := Nat.le_trans Z0 (Nat.le_of_eq W10.size.symm)
  have K0 := K0.wr W10 (Or.inl (List.mem_singleton.mpr rfl))
  refine Goes.by (T' := T10) (g' := (mkF m 50 #[.val (.ref a), .val (.double u0), .second, .val (.double u1), .second, .val (.double u2), .second, .val (.double u3), .second, .val (.double u4), .second, .val (.double u5), .second, .val (.double u6), .second, .val (.double u7), .second, .val (.double u8), .second] [])) st10 ?_
  refine Goes.by (T' := T10) (g' := (mkF m 51 #[.val (.ref a), .val (.double u0), .second, .val (.double u1), .second, .val (.double u2), .second, .val (.double u3), .second, .val (.double u4), .second, .val (.double u5), .second, .val (.double u6), .second, .val (.double u7), .second, .val (.double u8), .second] [(.ref a)])) (fun _ k => XS.aloadN X10.here hx rfl (hb hby d2_50) rfl rfl k) ?_
  refine Goes.by (T' := T10) (g' := (mkF m 53 #[.val (.ref a), .val (.double u0), .second, .val (.double u1), .second, .val (.double u2), .second, .val (.double u3), .second, .val (.double u4), .second, .val (.double u5), .second, .val (.double u6), .second, .val (.double u7), .second, .val (.double u8), .second] [(.double u8), (.ref a)])) (fun _ k => XS.dload X10.here hx rfl (hb hby d2_51) rfl k) ?_
  obtain ⟨T11, h11, X11, e11, W11, st11⟩ := putF X10 hx hZ hown (host := "") (Or.inl (hw _ (List.mem_of_getElem? (i := 36) rfl))) Via.refl e10 F_r33_a EA (Or.inr ⟨(hw _ (List.mem_of_getElem? (i := 37) rfl)), rfl, hnm⟩) (hw _ (List.mem_of_getElem? (i := 7) rfl)) (ty := .double) (by decide) rfl rfl (g := (mkF m 53 #[.val (.ref a), .val (.double u0), .second, .val (.double u1), .second, .val (.double u2), .second, .val (.double u3), .second, .val (.double u4), .second, .val (.double u5), .second, .val (.double u6), .second, .val (.double u7), .second, .val (.double u8), .second] [(.double u8), (.ref a)])) rfl rfl (hb hby d2_53)
  have N0 := Fr.snoc X11 N0 ga
  have EA := EA.wr W11
  have F_r11_a := F_r11_a.other W11 (Or.inr (slot_ne (t := .double) (t' := .double) (Or.inr (hw _ (List.mem_of_getElem? (i := 21) rfl))) (Or.inr (hw _ (List.mem_of_getElem? (i := 37) rfl))) (by decide) (by decide) (by decide)))
  have F_r12_a := F_r12_a.other W11 (Or.inr (slot_ne (t := .double) (t' := .double) (Or.inr (hw _ (List.mem_of_getElem? (i := 23) rfl))) (Or.inr (hw _ (List.mem_of_getElem? (i := 37) rfl))) (by decide) (by decide) (by decide)))
  have F_r13_a := F_r13_a.other W11 (Or.inr (slot_ne (t := .double) (t' := .double) (Or.inr (hw _ (List.mem_of_getElem? (i := 25) rfl))) (Or.inr (hw _ (List.mem_of_getElem? (i := 37) rfl))) (by decide) (by decide) (by decide)))
  have F_r21_a := F_r21_a.other W11 (Or.inr (slot_ne (t := .double) (t' := .double) (Or.inr (hw _ (List.mem_of_getElem? (i := 27) rfl))) (Or.inr (hw _ (List.mem_of_getElem? (i := 37) rfl))) (by decide) (by decide) (by decide)))
  have F_r22_a := F_r22_a.other W11 (Or.inr (slot_ne (t := .double) (t' := .double) (Or.inr (hw _ (List.mem_of_getElem? (i := 29) rfl))) (Or.inr (hw _ (List.mem_of_getElem? (i := 37) rfl))) (by decide) (by decide) (by decide)))
  have F_r23_a := F_r23_a.other W11 (Or.inr (slot_ne (t := .double) (t' := .double) (Or.inr (hw _ (List.mem_of_getElem? (i := 31) rfl))) (Or.inr (hw _ (List.mem_of_getElem? (i := 37) rfl))) (by decide) (by decide) (by decide)))
  have F_r31_a := F_r31_a.other W11 (Or.inr (slot_ne (t := .double) (t' := .double) (Or.inr (hw _ (List.mem_of_getElem? (i := 33) rfl))) (Or.inr (hw _ (List.mem_of_getElem? (i := 37) rfl))) (by decide) (by decide) (by decide)))
  have F_r32_a := F_r32_a.other W11 (Or.inr (slot_ne (t := .double) (t' := .double) (Or.inr (hw _ (List.mem_of_getElem? (i := 35) rfl))) (Or.inr (hw _ (List.mem_of_getElem? (i := 37) rfl))) (by decide) (by decide) (by decide)))
  have F_r33_a := F_r33_a.same W11
  have Z0 := Nat.le_trans Z0 (Nat.le_of_eq W11.size.symm)
  have K0 := K0.wr W11 (Or.inl (List.mem_singleton.mpr rfl))
  refine Goes.by (T' := T11) (g' := (mkF m 56 #[.val (.ref a), .val (.double u0), .second, .val (.double u1), .second, .val (.double u2), .second, .val (.double u3), .second, .val (.double u4), .second, .val (.double u5), .second, .val (.double u6), .second, .val (.double u7), .second, .val (.double u8), .second] [])) st11 ?_
  exact outV X11 hx hlk hret (hb hby d2_56) (by rw [e11]; exact ⟨rfl, F_r11_a, F_r12_a, F_r13_a, F_r21_a, F_r22_a, F_r23_a, F_r31_a, F_r32_a, F_r33_a, K0, N0⟩) (by decide) (by decide)
theorem d5_0 : decode prog_27_method_5_code 0 = .ok (.bipush 9, 2) := by decide +kernel
theorem d5_2 : decode prog_27_method_5_code 2 = .ok (.newarray .double, 2) := by decide +kernel
theorem d5_4 : decode prog_27_method_5_code 4 = .ok (.dup, 1) := by decide +kernel
theorem d5_5 : decode prog_27_method_5_code 5 = .ok (.iconst 0, 1) := by decide +kernel
theorem d5_6 : decode prog_27_method_5_code 6 = .ok (.aload_n 0, 1) := by decide +kernel
theorem d5_7 : decode prog_27_method_5_code 7 = .ok (.getfield 7, 3) := by decide +kernel
theorem d5_10 : decode prog_27_method_5_code 10 = .ok (.dastore, 1) := by decide +kernel
theorem d5_11 : decode prog_27_method_5_code 11 = .ok (.dup, 1) := by decide +kernel
theorem d5_12 : decode prog_27_method_5_code 12 = .ok (.iconst 1, 1) := by decide +kernel
theorem d5_13 : decode prog_27_method_5_code 13 = .ok (.aload_n 0, 1) := by decide +kernel
theorem d5_14 : decode prog_27_method_5_code 14 = .ok (.getfield 13, 3) := by decide +kernel
theorem d5_17 : decode prog_27_method_5_code 17 = .ok (.dastore, 1) := by decide +kernel
theorem d5_18 : decode prog_27_method_5_code 18 = .ok (.dup, 1) := by decide +kernel
theorem d5_19 : decode prog_27_method_5_code 19 = .ok (.iconst 2, 1) := by decide +kernel
theorem d5_20 : decode prog_27_method_5_code 20 = .ok (.aload_n 0, 1) := by decide +kernel
theorem d5_21 : decode prog_27_method_5_code 21 = .ok (.getfield 16, 3) := by decide +kernel
theorem d5_24 : decode prog_27_method_5_code 24 = .ok (.dastore, 1) := by decide +kernel
theorem d5_25 : decode prog_27_method_5_code 25 = .ok (.dup, 1) := by decide +kernel
theorem d5_26 : decode prog_27_method_5_code 26 = .ok (.iconst 3, 1) := by decide +kernel
theorem d5_27 : decode prog_27_method_5_code 27 = .ok (.aload_n 0, 1) := by decide +kernel
theorem d5_28 : decode prog_27_method_5_code 28 = .ok (.getfield 19, 3) := by decide +kernel
theorem d5_31 : decode prog_27_method_5_code 31 = .ok (.dastore, 1) := by decide +kernel
theorem d5_32 : decode prog_27_method_5_code 32 = .ok (.dup, 1) := by decide +kernel
theorem d5_33 : decode prog_27_method_5_code 33 = .ok (.iconst 4, 1) := by decide +kernel
theorem d5_34 : decode prog_27_method_5_code 34 = .ok (.aload_n 0, 1) := by decide +kernel
theorem d5_35 : decode prog_27_method_5_code 35 = .ok (.getfield 22, 3) := by decide +kernel
theorem d5_38 : decode prog_27_method_5_code 38 = .ok (.dastore, 1) := by decide +kernel
theorem d5_39 : decode prog_27_method_5_code 39 = .ok (.dup, 1) := by decide +kernel
theorem d5_40 : decode prog_27_method_5_code 40 = .ok (.iconst 5, 1) := by decide +kernel
theorem d5_41 : decode prog_27_method_5_code 41 = .ok (.aload_n 0, 1) := by decide +kernel
theorem d5_42 : decode prog_27_method_5_code 42 = .ok (.getfield 25, 3) := by decide +kernel
theorem d5_45 : decode prog_27_method_5_code 45 = .ok (.dastore, 1) := by decide +kernel
theorem d5_46 : decode prog_27_method_5_code 46 = .ok (.dup, 1) := by decide +kernel
theorem d5_47 : decode prog_27_method_5_code 47 = .ok (.bipush 6, 2) := by decide +kernel
theorem d5_49 : decode prog_27_method_5_code 49 = .ok (.aload_n 0, 1) := by decide +kernel
theorem d5_50 : decode prog_27_method_5_code 50 = .ok (.getfield 28, 3) := by decide +kernel
theorem d5_53 : decode prog_27_method_5_code 53 = .ok (.dastore, 1) := by decide +kernel
theorem d5_54 : decode prog_27_method_5_code 54 = .ok (.dup, 1) := by decide +kernel
theorem d5_55 : decode prog_27_method_5_code 55 = .ok (.bipush 7, 2) := by decide +kernel
theorem d5_57 : decode prog_27_method_5_code 57 = .ok (.aload_n 0, 1) := by decide +kernel
theorem d5_58 : decode prog_27_method_5_code 58 = .ok (.getfield 31, 3) := by decide +kernel
theorem d5_61 : decode prog_27_method_5_code 61 = .ok (.dastore, 1) := by decide +kernel
theorem d5_62 : decode prog_27_method_5_code 62 = .ok (.dup, 1) := by decide +kernel
theorem d5_63 : decode prog_27_method_5_code 63 = .ok (.bipush 8, 2) := by decide +kernel
theorem d5_65 : decode prog_27_method_5_code 65 = .ok (.aload_n 0, 1) := by decide +kernel
theorem d5_66 : decode prog_27_method_5_code 66 = .ok (.getfield 34, 3) := by decide +kernel
theorem d5_69 : decode prog_27_method_5_code 69 = .ok (.dastore, 1) := by decide +kernel
theorem d5_70 : decode prog_27_method_5_code 70 = .ok (.areturn, 1) := by decide +kernel
theorem pd3 : parseMethodDescriptor "()[D" = some ⟨[], some (.array .double)⟩ := by decide +kernel
theorem ef_rm_ent (m : MethodId) (x0 : Addr) : entryFrame m #[(.ref x0)] 1 = mkF m 0 #[.val (.ref x0)] [] := by first | (simp [entryFrame, mkF, argsToLocals, Value.category, maxLocals]; done) | rfl
set_option maxRecDepth 65536 in
set_option maxHeartbeats 40000000 in
theorem rm_ent (l : Launch) (Z : State) (a0 : Array Value) (hw : ∀ d ∈ tables_1, d.before a0 Z = true) (a : Addr) (u0 u1 u2 u3 u4 u5 u6 u7 u8 : UInt64) (h0 : Heap) (n0 : Nat) (Z0 : n0 ≤ h0.size) (F_r11_a : Fld Z h0 a "com/example/attitude_bridge/attitudebridge/RotationMatrix" "r11" "D" (.double u0)) (F_r12_a : Fld Z h0 a "com/example/attitude_bridge/attitudebridge/RotationMatrix" "r12" "D" (.double u1)) (F_r13_a : Fld Z h0 a "com/example/attitude_bridge/attitudebridge/RotationMatrix" "r13" "D" (.double u2)) (F_r21_a : Fld Z h0 a "com/example/attitude_bridge/attitudebridge/RotationMatrix" "r21" "D" (.double u3)) (F_r22_a : Fld Z h0 a "com/example/attitude_bridge/attitudebridge/RotationMatrix" "r22" "D" (.double u4)) (F_r23_a : Fld Z h0 a "com/example/attitude_bridge/attitudebridge/RotationMatrix" "r23" "D" (.double u5)) (F_r31_a : Fld Z h0 a "com/example/attitude_bridge/attitudebridge/RotationMatrix" "r31" "D" (.double u6)) (F_r32_a : Fld Z h0 a "com/example/attitude_bridge/attitudebridge/RotationMatrix" "r32" "D" (.double u7)) (F_r33_a : Fld Z h0 a "com/example/attitude_bridge/attitudebridge/RotationMatrix" "r33" "D" (.double u8))  :
    Does l (⟨"com/example/attitude_bridge/attitudebridge/RotationMatrix", "entries", "()[D"⟩ : MethodName) prog_27_method_5_code 1 (some (.array .double)) [] ({ frames := 0, cells := 1, slots := 9, locals := 0 } : Room) Z #[(.ref a)] h0 (fun v h L => ∃ r, v = some (.ref r) ∧ h0.size ≤ r ∧ Sar Z h r .double [(.double u0), (.double u1), (.double u2), (.double u3), (.double u4), (.double u5), (.double u6), (.double u7), (.double u8)] ∧ Keep h0 h [] ∧ Fr n0 L) := by
  refine Does.of (plainFor_of_name pn2) ?_
  intro p e s m below meth c s₁ hx hby hml hret hlk hZ hown hnm X0 e0
  have N0 := Fr.nil n0
  refine Goes.cast (g' := mkF m 0 #[.val (.ref a)] []) (ef_rm_ent m a) ?_
  have K0 := Keep.refl h0 []
  refine Goes.by (T' := s₁) (g' := (mkF m 2 #[.val (.ref a)] [(.int (9 : Int32))])) (fun _ k => XS.bipush X0.here hx rfl (hb hby d5_0)  k) ?_
  obtain ⟨T12, h12, k12, X12, e12, E12, A12, st12⟩ := newP X0 hx hZ (hw _ (List.mem_of_getElem? (i := 0) rfl)) e0 (g := (mkF m 2 #[.val (.ref a)] [(.int (9 : Int32))])) rfl (hb hby d5_2) rfl (by decide) (cap := 9) (by decide) (by decide) (by decide) (by decide)
  obtain ⟨r, g12⟩ : ∃ z, z = h0.size := ⟨_, rfl⟩
  rw [← g12] at A12 st12
  have ne_a_r : a ≠ r := fun q => Nat.lt_irrefl _ (Nat.lt_of_lt_of_eq F_r11_a.lt (g12.symm.trans q.symm))
  have ge_r : n0 ≤ r := Nat.le_trans Z0 (Nat.le_of_eq g12.symm)
  have sz_r : h0.size ≤ r := Nat.le_trans K0.1 (Nat.le_of_eq g12.symm)
  have F_r11_a := F_r11_a.ext E12
  have F_r12_a := F_r12_a.ext E12
  have F_r13_a := F_r13_a.ext E12
  have F_r21_a := F_r21_a.ext E12
  have F_r22_a := F_r22_a.ext E12
  have F_r23_a := F_r23_a.ext E12
  have F_r31_a := F_r31_a.ext E12
  have F_r32_a := F_r32_a.ext E12
  have F_r33_a := F_r33_a.ext E12
  have Z0 := Nat.le_trans Z0 E12.1
  have K0 := K0.ext E12
  have V_r : Sar Z h12 r .double [(.double (0 : UInt64)), (.double (0 : UInt64)), (.double (0 : UInt64)), (.double (0 : UInt64)), (.double (0 : UInt64)), (.double (0 : UInt64)), (.double (0 : UInt64)), (.double (0 : UInt64)), (.double (0 : UInt64))] := Sar.new (n := 9) A12 (by decide)
  refine Goes.by (T' := T12) (g' := (mkF m 4 #[.val (.ref a)] [(.ref r)])) st12 ?_
  refine Goes.by (T' := T12) (g' := (mkF m 5 #[.val (.ref a)] [(.ref r), (.ref r)])) (fun _ k => XS.dup X12.here hx rfl (hb hby d5_4) rfl rfl k) ?_
  refine Goes.by (T' := T12) (g' := (mkF m 6 #[.val (.ref a)] [(.int (0 : Int32)), (.ref r), (.ref r)])) (fun _ k => XS.iconst X12.here hx rfl (hb hby d5_5)  k) ?_
  refine Goes.by (T' := T12) (g' := (mkF m 7 #[.val (.ref a)] [(.ref a), (.int (0 : Int32)), (.ref r), (.ref r)])) (fun _ k => XS.aloadN X12.here hx rfl (hb hby d5_6) rfl rfl k) ?_
  obtain ⟨T13, X13, e13, st13⟩ := getF X12 hx hZ hown (host := "") (Or.inl (hw _ (List.mem_of_getElem? (i := 20) rfl))) Via.refl e12 F_r11_a (g := (mkF m 7 #[.val (.ref a)] [(.ref a), (.int (0 : Int32)), (.ref r), (.ref r)])) rfl rfl (hb hby d5_7)
  refine Goes.by (T' := T13) (g' := (mkF m 10 #[.val (.ref a)] [(.double u0), (.int (0 : Int32)), (.ref r), (.ref r)])) st13 ?_
  obtain ⟨T14, h14, X14, e14, W14, V14, st14⟩ := stDS X13 hx hZ e13 V_r (j := (0 : Int32)) 0 (by decide) (by show 0 < 9; decide) (g := (mkF m 10 #[.val (.ref a)] [(.double u0), (.int (0 : Int32)), (.ref r), (.ref r)])) rfl rfl (hb hby d5_10)
  have N0 := Fr.snoc X14 N0 ge_r
  have F_r11_a := F_r11_a.other W14 (Or.inl ne_a_r)
  have F_r12_a := F_r12_a.other W14 (Or.inl ne_a_r)
  have F_r13_a := F_r13_a.other W14 (Or.inl ne_a_r)
  have F_r21_a := F_r21_a.other W14 (Or.inl ne_a_r)
  have F_r22_a := F_r22_a.other W14 (Or.inl ne_a_r)
  have F_r23_a := F_r23_a.other W14 (Or.inl ne_a_r)
  have F_r31_a := F_r31_a.other W14 (Or.inl ne_a_r)
  have F_r32_a := F_r32_a.other W14 (Or.inl ne_a_r)
  have F_r33_a := F_r33_a.other W14 (Or.inl ne_a_r)
  have Z0 := Nat.le_trans Z0 (Nat.le_of_eq W14.size.symm)
  have K0 := K0.wr W14 (Or.inr sz_r)
  have V_r : Sar Z h14 r .double [(.double u0), (.double (0 : UInt64)), (.double (0 : UInt64)), (.double (0 : UInt64)), (.double (0 : UInt64)), (.double (0 : UInt64)), (.double (0 : UInt64)), (.double (0 : UInt64)), (.double (0 : UInt64))] := V14
  refine Goes.by (T' := T14) (g' := (mkF m 11 #[.val (.ref a)] [(.ref r)])) st14 ?_
  refine Goes.by (T' := T14) (g' := (mkF m 12 #[.val (.ref a)] [(.ref r), (.ref r)])) (fun _ k => XS.dup X14.here hx rfl (hb hby d5_11) rfl rfl k) ?_
  refine Goes.by (T' := T14) (g' := (mkF m 13 #[.val (.ref a)] [(.int (1 : Int32)), (.ref r), (.ref r)])) (fun _ k => XS.iconst X14.here hx rfl (hb hby d5_12)  k) ?_
  refine Goes.by (T' := T14) (g' := (mkF m 14 #[.val (.ref a)] [(.ref a), (.int (1 : Int32)), (.ref r), (.ref r)])) (fun _ k => XS.aloadN X14.here hx rfl (hb hby d5_13) rfl rfl k) ?_
  obtain ⟨T15, X15, e15, st15⟩ := getF X14 hx hZ hown (host := "") (Or.inl (hw _ (List.mem_of_getElem? (i := 22) rfl))) Via.refl e14 F_r12_a (g := (mkF m 14 #[.val (.ref a)] [(.ref a), (.int (1 : Int32)), (.ref r), (.ref r)])) rfl rfl (hb hby d5_14)
  refine Goes.by (T' := T15) (g' := (mkF m 17 #[.val (.ref a)] [(.double u1), (.int (1 : Int32)), (.ref r), (.ref r)])) st15 ?_
  obtain ⟨T16, h16, X16, e16, W16, V16, st16⟩ := stDS X15 hx hZ e15 V_r (j := (1 : Int32)) 1 (by decide) (by show 1 < 9; decide) (g := (mkF m 17 #[.val (.ref a)] [(.double u1), (.int (1 : Int32)), (.ref r), (.ref r)])) rfl rfl (hb hby d5_17)
  have N0 := Fr.snoc X16 N0 ge_r
  have F_r11_a := F_r11_a.other W16 (Or.inl ne_a_r)
  have F_r12_a := F_r12_a.other W16 (Or.inl ne_a_r)
  have F_r13_a := F_r13_a.other W16 (Or.inl ne_a_r)
  have F_r21_a := F_r21_a.other W16 (Or.inl ne_a_r)
  have F_r22_a := F_r22_a.other W16 (Or.inl ne_a_r)
  have F_r23_a := F_r23_a.other W16 (Or.inl ne_a_r)
  have F_r31_a := F_r31_a.other W16 (Or.inl ne_a_r)
  have F_r32_a := F_r32_a.other W16 (Or.inl ne_a_r)
  have F_r33_a := F_r33_a.other W16 (Or.inl ne_a_r)
  have Z0 := Nat.le_trans Z0 (Nat.le_of_eq W16.size.symm)
  have K0 := K0.wr W16 (Or.inr sz_r)
  have V_r : Sar Z h16 r .double [(.double u0), (.double u1), (.double (0 : UInt64)), (.double (0 : UInt64)), (.double (0 : UInt64)), (.double (0 : UInt64)), (.double (0 : UInt64)), (.double (0 : UInt64)), (.double (0 : UInt64))] := V16
  refine Goes.by (T' := T16) (g' := (mkF m 18 #[.val (.ref a)] [(.ref r)])) st16 ?_
  refine Goes.by (T' := T16) (g' := (mkF m 19 #[.val (.ref a)] [(.ref r), (.ref r)])) (fun _ k => XS.dup X16.here hx rfl (hb hby d5_18) rfl rfl k) ?_
  refine Goes.by (T' := T16) (g' := (mkF m 20 #[.val (.ref a)] [(.int (2 : Int32)), (.ref r), (.ref r)])) (fun _ k => XS.iconst X16.here hx rfl (hb hby d5_19)  k) ?_
  refine Goes.by (T' := T16) (g' := (mkF m 21 #[.val (.ref a)] [(.ref a), (.int (2 : Int32)), (.ref r), (.ref r)])) (fun _ k => XS.aloadN X16.here hx rfl (hb hby d5_20) rfl rfl k) ?_
  obtain ⟨T17, X17, e17, st17⟩ := getF X16 hx hZ hown (host := "") (Or.inl (hw _ (List.mem_of_getElem? (i := 24) rfl))) Via.refl e16 F_r13_a (g := (mkF m 21 #[.val (.ref a)] [(.ref a), (.int (2 : Int32)), (.ref r), (.ref r)])) rfl rfl (hb hby d5_21)
  refine Goes.by (T' := T17) (g' := (mkF m 24 #[.val (.ref a)] [(.double u2), (.int (2 : Int32)), (.ref r), (.ref r)])) st17 ?_
  obtain ⟨T18, h18, X18, e18, W18, V18, st18⟩ := stDS X17 hx hZ e17 V_r (j := (2 : Int32)) 2 (by decide) (by show 2 < 9; decide) (g := (mkF m 24 #[.val (.ref a)] [(.double u2), (.int (2 : Int32)), (.ref r), (.ref r)])) rfl rfl (hb hby d5_24)
  have N0 := Fr.snoc X18 N0 ge_r
  have F_r11_a := F_r11_a.other W18 (Or.inl ne_a_r)
  have F_r12_a := F_r12_a.other W18 (Or.inl ne_a_r)
  have F_r13_a := F_r13_a.other W18 (Or.inl ne_a_r)
  have F_r21_a := F_r21_a.other W18 (Or.inl ne_a_r)
  have F_r22_a := F_r22_a.other W18 (Or.inl ne_a_r)
  have F_r23_a := F_r23_a.other W18 (Or.inl ne_a_r)
  have F_r31_a := F_r31_a.other W18 (Or.inl ne_a_r)
  have F_r32_a := F_r32_a.other W18 (Or.inl ne_a_r)
  have F_r33_a := F_r33_a.other W18 (Or.inl ne_a_r)
  have Z0 := Nat.le_trans Z0 (Nat.le_of_eq W18.size.symm)
  have K0 := K0.wr W18 (Or.inr sz_r)
  have V_r : Sar Z h18 r .double [(.double u0), (.double u1), (.double u2), (.double (0 : UInt64)), (.double (0 : UInt64)), (.double (0 : UInt64)), (.double (0 : UInt64)), (.double (0 : UInt64)), (.double (0 : UInt64))] := V18
  refine Goes.by (T' := T18) (g' := (mkF m 25 #[.val (.ref a)] [(.ref r)])) st18 ?_
  refine Goes.by (T' := T18) (g' := (mkF m 26 #[.val (.ref a)] [(.ref r), (.ref r)])) (fun _ k => XS.dup X18.here hx rfl (hb hby d5_25) rfl rfl k) ?_
  refine Goes.by (T' := T18) (g' := (mkF m 27 #[.val (.ref a)] [(.int (3 : Int32)), (.ref r), (.ref r)])) (fun _ k => XS.iconst X18.here hx rfl (hb hby d5_26)  k) ?_
  refine Goes.by (T' := T18) (g' := (mkF m 28 #[.val (.ref a)] [(.ref a), (.int (3 : Int32)), (.ref r), (.ref r)])) (fun _ k => XS.aloadN X18.here hx rfl (hb hby d5_27) rfl rfl k) ?_
  obtain ⟨T19, X19, e19, st19⟩ := getF X18 hx hZ hown (host := "") (Or.inl (hw _ (List.mem_of_getElem? (i := 26) rfl))) Via.refl e18 F_r21_a (g := (mkF m 28 #[.val (.ref a)] [(.ref a), (.int (3 : Int32)), (.ref r), (.ref r)])) rfl rfl (hb hby d5_28)
  refine Goes.by (T' := T19) (g' := (mkF m 31 #[.val (.ref a)] [(.double u3), (.int (3 : Int32)), (.ref r), (.ref r)])) st19 ?_
  obtain ⟨T20, h20, X20, e20, W20, V20, st20⟩ := stDS X19 hx hZ e19 V_r (j := (3 : Int32)) 3 (by decide) (by show 3 < 9; decide) (g := (mkF m 31 #[.val (.ref a)] [(.double u3), (.int (3 : Int32)), (.ref r), (.ref r)])) rfl rfl (hb hby d5_31)
  have N0 := Fr.snoc X20 N0 ge_r
  have F_r11_a := F_r11_a.other W20 (Or.inl ne_a_r)
  have F_r12_a := F_r12_a.other W20 (Or.inl ne_a_r)
  have F_r13_a := F_r13_a.other W20 (Or.inl ne_a_r)
  have F_r21_a := F_r21_a.other W20 (Or.inl ne_a_r)
  have F_r22_a := F_r22_a.other W20 (Or.inl ne_a_r)
  have F_r23_a := F_r23_a.other W20 (Or.inl ne_a_r)
  have F_r31_a := F_r31_a.other W20 (Or.inl ne_a_r)
  have F_r32_a := F_r32_a.other W20 (Or.inl ne_a_r)
  have F_r33_a := F_r33_a.other W20 (Or.inl ne_a_r)
  have Z0 := Nat.le_trans Z0 (Nat.le_of_eq W20.size.symm)
  have K0 := K0.wr W20 (Or.inr sz_r)
  have V_r : Sar Z h20 r .double [(.double u0), (.double u1), (.double u2), (.double u3), (.double (0 : UInt64)), (.double (0 : UInt64)), (.double (0 : UInt64)), (.double (0 : UInt64)), (.double (0 : UInt64))] := V20
  refine Goes.by (T' := T20) (g' := (mkF m 32 #[.val (.ref a)] [(.ref r)])) st20 ?_
  refine Goes.by (T' := T20) (g' := (mkF m 33 #[.val (.ref a)] [(.ref r), (.ref r)])) (fun _ k => XS.dup X20.here hx rfl (hb hby d5_32) rfl rfl k) ?_
  refine Goes.by (T' := T20) (g' := (mkF m 34 #[.val (.ref a)] [(.int (4 : Int32)), (.ref r), (.ref r)])) (fun _ k => XS.iconst X20.here hx rfl (hb hby d5_33)  k) ?_
  refine Goes.by (T' := T20) (g' := (mkF m 35 #[.val (.ref a)] [(.ref a), (.int (4 : Int32)), (.ref r), (.ref r)])) (fun _ k => XS.aloadN X20.here hx rfl (hb hby d5_34) rfl rfl k) ?_
  obtain ⟨T21, X21, e21, st21⟩ := getF X20 hx hZ hown (host := "") (Or.inl (hw _ (List.mem_of_getElem? (i := 28) rfl))) Via.refl e20 F_r22_a (g := (mkF m 35 #[.val (.ref a)] [(.ref a), (.int (4 : Int32)), (.ref r), (.ref r)])) rfl rfl (hb hby d5_35)
  refine Goes.by (T' := T21) (g' := (mkF m 38 #[.val (.ref a)] [(.double u4), (.int (4 : Int32)), (.ref r), (.ref r)])) st21 ?_
  obtain ⟨T22, h22, X22, e22, W22, V22, st22⟩ := stDS X21 hx hZ e21 V_r (j := (4 : Int32)) 4 (by decide) (by show 4 < 9; decide) (g := (mkF m 38 #[.val (.ref a)] [(.double u4), (.int (4 : Int32)), (.ref r), (.ref r)])) rfl rfl (hb hby d5_38)
  have N0 := Fr.snoc X22 N0 ge_r
  have F_r11_a := F_r11_a.other W22 (Or.inl ne_a_r)
  have F_r12_a := F_r12_a.other W22 (Or.inl ne_a_r)
  have F_r13_a := F_r13_a.other W22 (Or.inl ne_a_r)
  have F_r21_a := F_r21_a.other W22 (Or.inl ne_a_r)
  have F_r22_a := F_r22_a.other W22 (Or.inl ne_a_r)
  have F_r23_a := F_r23_a.other W22 (Or.inl ne_a_r)
  have F_r31_a := F_r31_a.other W22 (Or.inl ne_a_r)
  have F_r32_a := F_r32_a.other W22 (Or.inl ne_a_r)
  have F_r33_a := F_r33_a.other W22 (Or.inl ne_a_r)
  have Z0 := Nat.le_trans Z0 (Nat.le_of_eq W22.size.symm)
  have K0 := K0.wr W22 (Or.inr sz_r)
  have V_r : Sar Z h22 r .double [(.double u0), (.double u1), (.double u2), (.double u3), (.double u4), (.double (0 : UInt64)), (.double (0 : UInt64)), (.double (0 : UInt64)), (.double (0 : UInt64))] := V22
  refine Goes.by (T' := T22) (g' := (mkF m 39 #[.val (.ref a)] [(.ref r)])) st22 ?_
  refine Goes.by (T' := T22) (g' := (mkF m 40 #[.val (.ref a)] [(.ref r), (.ref r)])) (fun _ k => XS.dup X22.here hx rfl (hb hby d5_39) rfl rfl k) ?_
  refine Goes.by (T' := T22) (g' := (mkF m 41 #[.val (.ref a)] [(.int (5 : Int32)), (.ref r), (.ref r)])) (fun _ k => XS.iconst X22.here hx rfl (hb hby d5_40)  k) ?_
  refine Goes.by (T' := T22) (g' := (mkF m 42 #[.val (.ref a)] [(.ref a), (.int (5 : Int32)), (.ref r), (.ref r)])) (fun _ k => XS.aloadN X22.here hx rfl (hb hby d5_41) rfl rfl k) ?_
  obtain ⟨T23, X23, e23, st23⟩ := getF X22 hx hZ hown (host := "") (Or.inl (hw _ (List.mem_of_getElem? (i := 30) rfl))) Via.refl e22 F_r23_a (g := (mkF m 42 #[.val (.ref a)] [(.ref a), (.int (5 : Int32)), (.ref r), (.ref r)])) rfl rfl (hb hby d5_42)
  refine Goes.by (T' := T23) (g' := (mkF m 45 #[.val (.ref a)] [(.double u5), (.int (5 : Int32)), (.ref r), (.ref r)])) st23 ?_
  obtain ⟨T24, h24, X24, e24, W24, V24, st24⟩ := stDS X23 hx hZ e23 V_r (j := (5 : Int32)) 5 (by decide) (by show 5 < 9; decide) (g := (mkF m 45 #[.val (.ref a)] [(.double u5), (.int (5 : Int32)), (.ref r), (.ref r)])) rfl rfl (hb hby d5_45)
  have N0 := Fr.snoc X24 N0 ge_r
  have F_r11_a := F_r11_a.other W24 (Or.inl ne_a_r)
  have F_r12_a := F_r12_a.other W24 (Or.inl ne_a_r)
  have F_r13_a := F_r13_a.other W24 (Or.inl ne_a_r)
  have F_r21_a := F_r21_a.other W24 (Or.inl ne_a_r)
  have F_r22_a := F_r22_a.other W24 (Or.inl ne_a_r)
  have F_r23_a := F_r23_a.other W24 (Or.inl ne_a_r)
  have F_r31_a := F_r31_a.other W24 (Or.inl ne_a_r)
  have F_r32_a := F_r32_a.other W24 (Or.inl ne_a_r)
  have F_r33_a := F_r33_a.other W24 (Or.inl ne_a_r)
  have Z0 := Nat.le_trans Z0 (Nat.le_of_eq W24.size.symm)
  have K0 := K0.wr W24 (Or.inr sz_r)
  have V_r : Sar Z h24 r .double [(.double u0), (.double u1), (.double u2), (.double u3), (.double u4), (.double u5), (.double (0 : UInt64)), (.double (0 : UInt64)), (.double (0 : UInt64))] := V24
  refine Goes.by (T' := T24) (g' := (mkF m 46 #[.val (.ref a)] [(.ref r)])) st24 ?_
  refine Goes.by (T' := T24) (g' := (mkF m 47 #[.val (.ref a)] [(.ref r), (.ref r)])) (fun _ k => XS.dup X24.here hx rfl (hb hby d5_46) rfl rfl k) ?_
  refine Goes.by (T' := T24) (g' := (mkF m 49 #[.val (.ref a)] [(.int (6 : Int32)), (.ref r), (.ref r)])) (fun _ k => XS.bipush X24.here hx rfl (hb hby d5_47)  k) ?_
  refine Goes.by (T' := T24) (g' := (mkF m 50 #[.val (.ref a)] [(.ref a), (.int (6 : Int32)), (.ref r), (.ref r)])) (fun _ k => XS.aloadN X24.here hx rfl (hb hby d5_49) rfl rfl k) ?_
  obtain ⟨T25, X25, e25, st25⟩ := getF X24 hx hZ hown (host := "") (Or.inl (hw _ (List.mem_of_getElem? (i := 32) rfl))) Via.refl e24 F_r31_a (g := (mkF m 50 #[.val (.ref a)] [(.ref a), (.int (6 : Int32)), (.ref r), (.ref r)])) rfl rfl (hb hby d5_50)
  refine Goes.by (T' := T25) (g' := (mkF m 53 #[.val (.ref a)] [(.double u6), (.int (6 : Int32)), (.ref r), (.ref r)])) st25 ?_
  obtain ⟨T26, h26, X26, e26, W26, V26, st26⟩ := stDS X25 hx hZ e25 V_r (j := (6 : Int32)) 6 (by decide) (by show 6 < 9; decide) (g := (mkF m 53 #[.val (.ref a)] [(.double u6), (.int (6 : Int32)), (.ref r), (.ref r)])) rfl rfl (hb hby d5_53)
  have N0 := Fr.snoc X26 N0 ge_r
  have F_r11_a := F_r11_a.other W26 (Or.inl ne_a_r)
  have F_r12_a := F_r12_a.other W26 (Or.inl ne_a_r)
  have F_r13_a := F_r13_a.other W26 (Or.inl ne_a_r)
  have F_r21_a := F_r21_a.other W26 (Or.inl ne_a_r)
  have F_r22_a := F_r22_a.other W26 (Or.inl ne_a_r)
  have F_r23_a := F_r23_a.other W26 (Or.inl ne_a_r)
  have F_r31_a := F_r31_a.other W26 (Or.inl ne_a_r)
  have F_r32_a := F_r32_a.other W26 (Or.inl ne_a_r)
  have F_r33_a := F_r33_a.other W26 (Or.inl ne_a_r)
  have Z0 := Nat.le_trans Z0 (Nat.le_of_eq W26.size.symm)
  have K0 := K0.wr W26 (Or.inr sz_r)
  have V_r : Sar Z h26 r .double [(.double u0), (.double u1), (.double u2), (.double u3), (.double u4), (.double u5), (.double u6), (.double (0 : UInt64)), (.double (0 : UInt64))] := V26
  refine Goes.by (T' := T26) (g' := (mkF m 54 #[.val (.ref a)] [(.ref r)])) st26 ?_
  refine Goes.by (T' := T26) (g' := (mkF m 55 #[.val (.ref a)] [(.ref r), (.ref r)])) (fun _ k => XS.dup X26.here hx rfl (hb hby d5_54) rfl rfl k) ?_
  refine Goes.by (T' := T26) (g' := (mkF m 57 #[.val (.ref a)] [(.int (7 : Int32)), (.ref r), (.ref r)])) (fun _ k => XS.bipush X26.here hx rfl (hb hby d5_55)  k) ?_
  refine Goes.by (T' := T26) (g' := (mkF m 58 #[.val (.ref a)] [(.ref a), (.int (7 : Int32)), (.ref r), (.ref r)])) (fun _ k => XS.aloadN X26.here hx rfl (hb hby d5_57) rfl rfl k) ?_
  obtain ⟨T27, X27, e27, st27⟩ := getF X26 hx hZ hown (host := "") (Or.inl (hw _ (List.mem_of_getElem? (i := 34) rfl))) Via.refl e26 F_r32_a (g := (mkF m 58 #[.val (.ref a)] [(.ref a), (.int (7 : Int32)), (.ref r), (.ref r)])) rfl rfl (hb hby d5_58)
  refine Goes.by (T' := T27) (g' := (mkF m 61 #[.val (.ref a)] [(.double u7), (.int (7 : Int32)), (.ref r), (.ref r)])) st27 ?_
  obtain ⟨T28, h28, X28, e28, W28, V28, st28⟩ := stDS X27 hx hZ e27 V_r (j := (7 : Int32)) 7 (by decide) (by show 7 < 9; decide) (g := (mkF m 61 #[.val (.ref a)] [(.double u7), (.int (7 : Int32)), (.ref r), (.ref r)])) rfl rfl (hb hby d5_61)
  have N0 := Fr.snoc X28 N0 ge_r
  have F_r11_a := F_r11_a.other W28 (Or.inl ne_a_r)
  have F_r12_a := F_r12_a.other W28 (Or.inl ne_a_r)
  have F_r13_a := F_r13_a.other W28 (Or.inl ne_a_r)
  have F_r21_a := F_r21_a.other W28 (Or.inl ne_a_r)
  have F_r22_a := F_r22_a.other W28 (Or.inl ne_a_r)
  have F_r23_a := F_r23_a.other W28 (Or.inl ne_a_r)
  have F_r31_a := F_r31_a.other W28 (Or.inl ne_a_r)
  have F_r32_a := F_r32_a.other W28 (Or.inl ne_a_r)
  have F_r33_a := F_r33_a.other W28 (Or.inl ne_a_r)
  have Z0 := Nat.le_trans Z0 (Nat.le_of_eq W28.size.symm)
  have K0 := K0.wr W28 (Or.inr sz_r)
  have V_r : Sar Z h28 r .double [(.double u0), (.double u1), (.double u2), (.double u3), (.double u4), (.double u5), (.double u6), (.double u7), (.double (0 : UInt64))] := V28
  refine Goes.by (T' := T28) (g' := (mkF m 62 #[.val (.ref a)] [(.ref r)])) st28 ?_
  refine Goes.by (T' := T28) (g' := (mkF m 63 #[.val (.ref a)] [(.ref r), (.ref r)])) (fun _ k => XS.dup X28.here hx rfl (hb hby d5_62) rfl rfl k) ?_
  refine Goes.by (T' := T28) (g' := (mkF m 65 #[.val (.ref a)] [(.int (8 : Int32)), (.ref r), (.ref r)])) (fun _ k => XS.bipush X28.here hx rfl (hb hby d5_63)  k) ?_
  refine Goes.by (T' := T28) (g' := (mkF m 66 #[.val (.ref a)] [(.ref a), (.int (8 : Int32)), (.ref r), (.ref r)])) (fun _ k => XS.aloadN X28.here hx rfl (hb hby d5_65) rfl rfl k) ?_
  obtain ⟨T29, X29, e29, st29⟩ := getF X28 hx hZ hown (host := "") (Or.inl (hw _ (List.mem_of_getElem? (i := 36) rfl))) Via.refl e28 F_r33_a (g := (mkF m 66 #[.val (.ref a)] [(.ref a), (.int (8 : Int32)), (.ref r), (.ref r)])) rfl rfl (hb hby d5_66)
  refine Goes.by (T' := T29) (g' := (mkF m 69 #[.val (.ref a)] [(.double u8), (.int (8 : Int32)), (.ref r), (.ref r)])) st29 ?_
  obtain ⟨T30, h30, X30, e30, W30, V30, st30⟩ := stDS X29 hx hZ e29 V_r (j := (8 : Int32)) 8 (by decide) (by show 8 < 9; decide) (g := (mkF m 69 #[.val (.ref a)] [(.double u8), (.int (8 : Int32)), (.ref r), (.ref r)])) rfl rfl (hb hby d5_69)
  have N0 := Fr.snoc X30 N0 ge_r
  have F_r11_a := F_r11_a.other W30 (Or.inl ne_a_r)
  have F_r12_a := F_r12_a.other W30 (Or.inl ne_a_r)
  have F_r13_a := F_r13_a.other W30 (Or.inl ne_a_r)
  have F_r21_a := F_r21_a.other W30 (Or.inl ne_a_r)
  have F_r22_a := F_r22_a.other W30 (Or.inl ne_a_r)
  have F_r23_a := F_r23_a.other W30 (Or.inl ne_a_r)
  have F_r31_a := F_r31_a.other W30 (Or.inl ne_a_r)
  have F_r32_a := F_r32_a.other W30 (Or.inl ne_a_r)
  have F_r33_a := F_r33_a.other W30 (Or.inl ne_a_r)
  have Z0 := Nat.le_trans Z0 (Nat.le_of_eq W30.size.symm)
  have K0 := K0.wr W30 (Or.inr sz_r)
  have V_r : Sar Z h30 r .double [(.double u0), (.double u1), (.double u2), (.double u3), (.double u4), (.double u5), (.double u6), (.double u7), (.double u8)] := V30
  refine Goes.by (T' := T30) (g' := (mkF m 70 #[.val (.ref a)] [(.ref r)])) st30 ?_
  exact outA X30 hx hlk hret rfl rfl rfl (hb hby d5_70) (by rw [e30]; exact ⟨r, rfl, sz_r, V_r, K0, N0⟩) (by decide) (by decide)
theorem ef_rm_law (m : MethodId) (x0 : Int32) (x1 : Int32) (x2 : Int32) (x3 : Int32) (x4 : Int32) (x5 : Int32) : entryFrame m #[(.int x0), (.int x1), (.int x2), (.int x3), (.int x4), (.int x5)] maxLocals = mkF m 0 #[.val (.int x0), .val (.int x1), .val (.int x2), .val (.int x3), .val (.int x4), .val (.int x5), .unset, .unset, .unset, .unset, .unset, .unset, .unset, .unset, .unset, .unset, .unset] [] := by first | (simp [entryFrame, mkF, argsToLocals, Value.category, maxLocals]; done) | rfl
set_option maxRecDepth 65536 in
set_option maxHeartbeats 40000000 in
theorem rm_law (l : Launch) (Z : State) (a0 : Array Value) (hw : ∀ d ∈ tables_1, d.before a0 Z = true) (x0 x1 x2 x3 x4 x5 : Int32) (h0 : Heap) (n0 : Nat) (Z0 : n0 ≤ h0.size)  :
    Does l x code maxLocals ret tables_1 room_1 Z #[(.int x0), (.int x1), (.int x2), (.int x3), (.int x4), (.int x5)] h0 (fun v h L => v = some (.int 1) ∧ Fr n0 L) := by
  refine Does.of (plainFor_of_name pn1) ?_
  intro p e s m below meth c s₁ hx hby hml hret hlk hZ hown hnm X0 e0
  have N0 := Fr.nil n0
  refine Goes.cast (g' := mkF m 0 #[.val (.int x0), .val (.int x1), .val (.int x2), .val (.int x3), .val (.int x4), .val (.int x5), .unset, .unset, .unset, .unset, .unset, .unset, .unset, .unset, .unset, .unset, .unset] []) (ef_rm_law m x0 x1 x2 x3 x4 x5) ?_
  refine Goes.by (T' := s₁) (g' := (mkF m 1 #[.val (.int x0), .val (.int x1), .val (.int x2), .val (.int x3), .val (.int x4), .val (.int x5), .unset, .unset, .unset, .unset, .unset, .unset, .unset, .unset, .unset, .unset, .unset] [(.int x0)])) (fun _ k => XS.iloadN X0.here hx rfl (hb hby at_0) rfl k) ?_
  refine Goes.by (T' := s₁) (g' := (mkF m 2 #[.val (.int x0), .val (.int x1), .val (.int x2), .val (.int x3), .val (.int x4), .val (.int x5), .unset, .unset, .unset, .unset, .unset, .unset, .unset, .unset, .unset, .unset, .unset] [(.long ((x0).toInt64))])) (fun _ k => XS.i2l X0.here hx rfl (hb hby at_1) rfl k) ?_
  refine Goes.by (T' := s₁) (g' := (mkF m 3 #[.val (.int x0), .val (.int x1), .val (.int x2), .val (.int x3), .val (.int x4), .val (.int x5), .unset, .unset, .unset, .unset, .unset, .unset, .unset, .unset, .unset, .unset, .unset] [(.int x1), (.long ((x0).toInt64))])) (fun _ k => XS.iloadN X0.here hx rfl (hb hby at_2) rfl k) ?_
  refine Goes.by (T' := s₁) (g' := (mkF m 4 #[.val (.int x0), .val (.int x1), .val (.int x2), .val (.int x3), .val (.int x4), .val (.int x5), .unset, .unset, .unset, .unset, .unset, .unset, .unset, .unset, .unset, .unset, .unset] [(.long ((x1).toInt64)), (.long ((x0).toInt64))])) (fun _ k => XS.i2l X0.here hx rfl (hb hby at_3) rfl k) ?_
  refine Goes.by (T' := s₁) (g' := (mkF m 5 #[.val (.int x0), .val (.int x1), .val (.int x2), .val (.int x3), .val (.int x4), .val (.int x5), .unset, .unset, .unset, .unset, .unset, .unset, .unset, .unset, .unset, .unset, .unset] [(.long (((x0).toInt64) + ((x1).toInt64)))])) (fun _ k => XS.ladd X0.here hx rfl (hb hby at_4) rfl k) ?_
  refine Goes.by (T' := s₁) (g' := (mkF m 7 #[.val (.int x0), .val (.int x1), .val (.int x2), .val (.int x3), .val (.int x4), .val (.int x5), .val (.long (((x0).toInt64) + ((x1).toInt64))), .second, .unset, .unset, .unset, .unset, .unset, .unset, .unset, .unset, .unset] [])) (fun _ k => XS.lstore X0.here hx rfl (hb hby at_5) rfl (l' := #[.val (.int x0), .val (.int x1), .val (.int x2), .val (.int x3), .val (.int x4), .val (.int x5), .val (.long (((x0).toInt64) + ((x1).toInt64))), .second, .unset, .unset, .unset, .unset, .unset, .unset, .unset, .unset, .unset]) rfl k) ?_
  refine Goes.by (T' := s₁) (g' := (mkF m 8 #[.val (.int x0), .val (.int x1), .val (.int x2), .val (.int x3), .val (.int x4), .val (.int x5), .val (.long (((x0).toInt64) + ((x1).toInt64))), .second, .unset, .unset, .unset, .unset, .unset, .unset, .unset, .unset, .unset] [(.int x2)])) (fun _ k => XS.iloadN X0.here hx rfl (hb hby at_7) rfl k) ?_
  refine Goes.by (T' := s₁) (g' := (mkF m 9 #[.val (.int x0), .val (.int x1), .val (.int x2), .val (.int x3), .val (.int x4), .val (.int x5), .val (.long (((x0).toInt64) + ((x1).toInt64))), .second, .unset, .unset, .unset, .unset, .unset, .unset, .unset, .unset, .unset] [(.long ((x2).toInt64))])) (fun _ k => XS.i2l X0.here hx rfl (hb hby at_8) rfl k) ?_
  refine Goes.by (T' := s₁) (g' := (mkF m 11 #[.val (.int x0), .val (.int x1), .val (.int x2), .val (.int x3), .val (.int x4), .val (.int x5), .val (.long (((x0).toInt64) + ((x1).toInt64))), .second, .unset, .unset, .unset, .unset, .unset, .unset, .unset, .unset, .unset] [(.int x4), (.long ((x2).toInt64))])) (fun _ k => XS.iload X0.here hx rfl (hb hby at_9) rfl k) ?_
  refine Goes.by (T' := s₁) (g' := (mkF m 12 #[.val (.int x0), .val (.int x1), .val (.int x2), .val (.int x3), .val (.int x4), .val (.int x5), .val (.long (((x0).toInt64) + ((x1).toInt64))), .second, .unset, .unset, .unset, .unset, .unset, .unset, .unset, .unset, .unset] [(.long ((x4).toInt64)), (.long ((x2).toInt64))])) (fun _ k => XS.i2l X0.here hx rfl (hb hby at_11) rfl k) ?_
  refine Goes.by (T' := s₁) (g' := (mkF m 13 #[.val (.int x0), .val (.int x1), .val (.int x2), .val (.int x3), .val (.int x4), .val (.int x5), .val (.long (((x0).toInt64) + ((x1).toInt64))), .second, .unset, .unset, .unset, .unset, .unset, .unset, .unset, .unset, .unset] [(.long (((x2).toInt64) - ((x4).toInt64)))])) (fun _ k => XS.lsub X0.here hx rfl (hb hby at_12) rfl k) ?_
  refine Goes.by (T' := s₁) (g' := (mkF m 15 #[.val (.int x0), .val (.int x1), .val (.int x2), .val (.int x3), .val (.int x4), .val (.int x5), .val (.long (((x0).toInt64) + ((x1).toInt64))), .second, .val (.long (((x2).toInt64) - ((x4).toInt64))), .second, .unset, .unset, .unset, .unset, .unset, .unset, .unset] [])) (fun _ k => XS.lstore X0.here hx rfl (hb hby at_13) rfl (l' := #[.val (.int x0), .val (.int x1), .val (.int x2), .val (.int x3), .val (.int x4), .val (.int x5), .val (.long (((x0).toInt64) + ((x1).toInt64))), .second, .val (.long (((x2).toInt64) - ((x4).toInt64))), .second, .unset, .unset, .unset, .unset, .unset, .unset, .unset]) rfl k) ?_
  refine Goes.by (T' := s₁) (g' := (mkF m 16 #[.val (.int x0), .val (.int x1), .val (.int x2), .val (.int x3), .val (.int x4), .val (.int x5), .val (.long (((x0).toInt64) + ((x1).toInt64))), .second, .val (.long (((x2).toInt64) - ((x4).toInt64))), .second, .unset, .unset, .unset, .unset, .unset, .unset, .unset] [(.int x3)])) (fun _ k => XS.iloadN X0.here hx rfl (hb hby at_15) rfl k) ?_
  refine Goes.by (T' := s₁) (g' := (mkF m 17 #[.val (.int x0), .val (.int x1), .val (.int x2), .val (.int x3), .val (.int x4), .val (.int x5), .val (.long (((x0).toInt64) + ((x1).toInt64))), .second, .val (.long (((x2).toInt64) - ((x4).toInt64))), .second, .unset, .unset, .unset, .unset, .unset, .unset, .unset] [(.long ((x3).toInt64))])) (fun _ k => XS.i2l X0.here hx rfl (hb hby at_16) rfl k) ?_
  refine Goes.by (T' := s₁) (g' := (mkF m 19 #[.val (.int x0), .val (.int x1), .val (.int x2), .val (.int x3), .val (.int x4), .val (.int x5), .val (.long (((x0).toInt64) + ((x1).toInt64))), .second, .val (.long (((x2).toInt64) - ((x4).toInt64))), .second, .unset, .unset, .unset, .unset, .unset, .unset, .unset] [(.int x5), (.long ((x3).toInt64))])) (fun _ k => XS.iload X0.here hx rfl (hb hby at_17) rfl k) ?_
  refine Goes.by (T' := s₁) (g' := (mkF m 20 #[.val (.int x0), .val (.int x1), .val (.int x2), .val (.int x3), .val (.int x4), .val (.int x5), .val (.long (((x0).toInt64) + ((x1).toInt64))), .second, .val (.long (((x2).toInt64) - ((x4).toInt64))), .second, .unset, .unset, .unset, .unset, .unset, .unset, .unset] [(.long ((x5).toInt64)), (.long ((x3).toInt64))])) (fun _ k => XS.i2l X0.here hx rfl (hb hby at_19) rfl k) ?_
  refine Goes.by (T' := s₁) (g' := (mkF m 21 #[.val (.int x0), .val (.int x1), .val (.int x2), .val (.int x3), .val (.int x4), .val (.int x5), .val (.long (((x0).toInt64) + ((x1).toInt64))), .second, .val (.long (((x2).toInt64) - ((x4).toInt64))), .second, .unset, .unset, .unset, .unset, .unset, .unset, .unset] [(.long (((x3).toInt64) ^^^ ((x5).toInt64)))])) (fun _ k => XS.lxor X0.here hx rfl (hb hby at_20) rfl k) ?_
  refine Goes.by (T' := s₁) (g' := (mkF m 23 #[.val (.int x0), .val (.int x1), .val (.int x2), .val (.int x3), .val (.int x4), .val (.int x5), .val (.long (((x0).toInt64) + ((x1).toInt64))), .second, .val (.long (((x2).toInt64) - ((x4).toInt64))), .second, .val (.long (((x3).toInt64) ^^^ ((x5).toInt64))), .second, .unset, .unset, .unset, .unset, .unset] [])) (fun _ k => XS.lstore X0.here hx rfl (hb hby at_21) rfl (l' := #[.val (.int x0), .val (.int x1), .val (.int x2), .val (.int x3), .val (.int x4), .val (.int x5), .val (.long (((x0).toInt64) + ((x1).toInt64))), .second, .val (.long (((x2).toInt64) - ((x4).toInt64))), .second, .val (.long (((x3).toInt64) ^^^ ((x5).toInt64))), .second, .unset, .unset, .unset, .unset, .unset]) rfl k) ?_
  refine Goes.by (T' := s₁) (g' := (mkF m 25 #[.val (.int x0), .val (.int x1), .val (.int x2), .val (.int x3), .val (.int x4), .val (.int x5), .val (.long (((x0).toInt64) + ((x1).toInt64))), .second, .val (.long (((x2).toInt64) - ((x4).toInt64))), .second, .val (.long (((x3).toInt64) ^^^ ((x5).toInt64))), .second, .unset, .unset, .unset, .unset, .unset] [(.int (9 : Int32))])) (fun _ k => XS.bipush X0.here hx rfl (hb hby at_23)  k) ?_
  obtain ⟨T31, h31, k31, X31, e31, E31, A31, st31⟩ := newP X0 hx hZ (hw _ (List.mem_of_getElem? (i := 0) rfl)) e0 (g := (mkF m 25 #[.val (.int x0), .val (.int x1), .val (.int x2), .val (.int x3), .val (.int x4), .val (.int x5), .val (.long (((x0).toInt64) + ((x1).toInt64))), .second, .val (.long (((x2).toInt64) - ((x4).toInt64))), .second, .val (.long (((x3).toInt64) ^^^ ((x5).toInt64))), .second, .unset, .unset, .unset, .unset, .unset] [(.int (9 : Int32))])) rfl (hb hby at_25) rfl (by decide) (cap := 9) (by decide) (by decide) (by decide) (by decide)
  obtain ⟨ba, g31⟩ : ∃ z, z = h0.size := ⟨_, rfl⟩
  rw [← g31] at A31 st31
  have ge_ba : n0 ≤ ba := Nat.le_trans Z0 (Nat.le_of_eq g31.symm)
  have Z0 := Nat.le_trans Z0 E31.1
  have V_ba : Sar Z h31 ba .double [(.double (0 : UInt64)), (.double (0 : UInt64)), (.double (0 : UInt64)), (.double (0 : UInt64)), (.double (0 : UInt64)), (.double (0 : UInt64)), (.double (0 : UInt64)), (.double (0 : UInt64)), (.double (0 : UInt64))] := Sar.new (n := 9) A31 (by decide)
  refine Goes.by (T' := T31) (g' := (mkF m 27 #[.val (.int x0), .val (.int x1), .val (.int x2), .val (.int x3), .val (.int x4), .val (.int x5), .val (.long (((x0).toInt64) + ((x1).toInt64))), .second, .val (.long (((x2).toInt64) - ((x4).toInt64))), .second, .val (.long (((x3).toInt64) ^^^ ((x5).toInt64))), .second, .unset, .unset, .unset, .unset, .unset] [(.ref ba)])) st31 ?_
  refine Goes.by (T' := T31) (g' := (mkF m 28 #[.val (.int x0), .val (.int x1), .val (.int x2), .val (.int x3), .val (.int x4), .val (.int x5), .val (.long (((x0).toInt64) + ((x1).toInt64))), .second, .val (.long (((x2).toInt64) - ((x4).toInt64))), .second, .val (.long (((x3).toInt64) ^^^ ((x5).toInt64))), .second, .unset, .unset, .unset, .unset, .unset] [(.ref ba), (.ref ba)])) (fun _ k => XS.dup X31.here hx rfl (hb hby at_27) rfl rfl k) ?_
  refine Goes.by (T' := T31) (g' := (mkF m 29 #[.val (.int x0), .val (.int x1), .val (.int x2), .val (.int x3), .val (.int x4), .val (.int x5), .val (.long (((x0).toInt64) + ((x1).toInt64))), .second, .val (.long (((x2).toInt64) - ((x4).toInt64))), .second, .val (.long (((x3).toInt64) ^^^ ((x5).toInt64))), .second, .unset, .unset, .unset, .unset, .unset] [(.int (0 : Int32)), (.ref ba), (.ref ba)])) (fun _ k => XS.iconst X31.here hx rfl (hb hby at_28)  k) ?_
  refine Goes.by (T' := T31) (g' := (mkF m 30 #[.val (.int x0), .val (.int x1), .val (.int x2), .val (.int x3), .val (.int x4), .val (.int x5), .val (.long (((x0).toInt64) + ((x1).toInt64))), .second, .val (.long (((x2).toInt64) - ((x4).toInt64))), .second, .val (.long (((x3).toInt64) ^^^ ((x5).toInt64))), .second, .unset, .unset, .unset, .unset, .unset] [(.int x0), (.int (0 : Int32)), (.ref ba), (.ref ba)])) (fun _ k => XS.iloadN X31.here hx rfl (hb hby at_29) rfl k) ?_
  refine Goes.by (T' := T31) (g' := (mkF m 31 #[.val (.int x0), .val (.int x1), .val (.int x2), .val (.int x3), .val (.int x4), .val (.int x5), .val (.long (((x0).toInt64) + ((x1).toInt64))), .second, .val (.long (((x2).toInt64) - ((x4).toInt64))), .second, .val (.long (((x3).toInt64) ^^^ ((x5).toInt64))), .second, .unset, .unset, .unset, .unset, .unset] [(.long ((x0).toInt64)), (.int (0 : Int32)), (.ref ba), (.ref ba)])) (fun _ k => XS.i2l X31.here hx rfl (hb hby at_30) rfl k) ?_
  refine Goes.by (T' := T31) (g' := (mkF m 32 #[.val (.int x0), .val (.int x1), .val (.int x2), .val (.int x3), .val (.int x4), .val (.int x5), .val (.long (((x0).toInt64) + ((x1).toInt64))), .second, .val (.long (((x2).toInt64) - ((x4).toInt64))), .second, .val (.long (((x3).toInt64) ^^^ ((x5).toInt64))), .second, .unset, .unset, .unset, .unset, .unset] [(.int (0 : Int32)), (.long ((x0).toInt64)), (.int (0 : Int32)), (.ref ba), (.ref ba)])) (fun _ k => XS.iconst X31.here hx rfl (hb hby at_31)  k) ?_
  obtain ⟨v32, T32, L32, X32, hQ32, st32⟩ := callC X31 hx hZ (y := (⟨"com/example/attitude_bridge/attitudebridge/RotationMatrixEntriesPinLaw", "tag", "(JI)D"⟩ : MethodName)) hown (hw _ (List.mem_of_getElem? (i := 1) rfl)) (hw _ (List.mem_of_getElem? (i := 2) rfl)) (hw _ (List.mem_of_getElem? (i := 4) rfl)) (hw _ (List.mem_of_getElem? (i := 3) rfl)) (by decide) e31 (argsL := [(.long ((x0).toInt64)), (.int (0 : Int32))]) (rest := [(.int (0 : Int32)), (.ref ba), (.ref ba)]) (W := 3) (rm_tag l Z a0 hw ((x0).toInt64) (0 : Int32) h31 n0 Z0) rfl (by decide) (by decide) (by decide) (by decide) (g := (mkF m 32 #[.val (.int x0), .val (.int x1), .val (.int x2), .val (.int x3), .val (.int x4), .val (.int x5), .val (.long (((x0).toInt64) + ((x1).toInt64))), .second, .val (.long (((x2).toInt64) - ((x4).toInt64))), .second, .val (.long (((x3).toInt64) ^^^ ((x5).toInt64))), .second, .unset, .unset, .unset, .unset, .unset] [(.int (0 : Int32)), (.long ((x0).toInt64)), (.int (0 : Int32)), (.ref ba), (.ref ba)])) rfl (by rw [hml]; rfl) (lenOf pd1 rfl) rfl (by show 2 * 0 + _ ≤ _; exact Nat.le_of_eq rfl) (hb hby at_32)
  obtain ⟨⟨u0, rfl, FD0⟩, NL32, hk32⟩ := hQ32
  have N0 := Fr.app N0 NL32
  refine Goes.by (T' := T32) (g' := (mkF m 35 #[.val (.int x0), .val (.int x1), .val (.int x2), .val (.int x3), .val (.int x4), .val (.int x5), .val (.long (((x0).toInt64) + ((x1).toInt64))), .second, .val (.long (((x2).toInt64) - ((x4).toInt64))), .second, .val (.long (((x3).toInt64) ^^^ ((x5).toInt64))), .second, .unset, .unset, .unset, .unset, .unset] [(.double u0), (.int (0 : Int32)), (.ref ba), (.ref ba)])) st32 ?_
  obtain ⟨T33, h33, X33, e33, W33, V33, st33⟩ := stDS X32 hx hZ hk32 V_ba (j := (0 : Int32)) 0 (by decide) (by show 0 < 9; decide) (g := (mkF m 35 #[.val (.int x0), .val (.int x1), .val (.int x2), .val (.int x3), .val (.int x4), .val (.int x5), .val (.long (((x0).toInt64) + ((x1).toInt64))), .second, .val (.long (((x2).toInt64) - ((x4).toInt64))), .second, .val (.long (((x3).toInt64) ^^^ ((x5).toInt64))), .second, .unset, .unset, .unset, .unset, .unset] [(.double u0), (.int (0 : Int32)), (.ref ba), (.ref ba)])) rfl rfl (hb hby at_35)
  have N0 := Fr.snoc X33 N0 ge_ba
  have Z0 := Nat.le_trans Z0 (Nat.le_of_eq W33.size.symm)
  have V_ba : Sar Z h33 ba .double [(.double u0), (.double (0 : UInt64)), (.double (0 : UInt64)), (.double (0 : UInt64)), (.double (0 : UInt64)), (.double (0 : UInt64)), (.double (0 : UInt64)), (.double (0 : UInt64)), (.double (0 : UInt64))] := V33
  refine Goes.by (T' := T33) (g' := (mkF m 36 #[.val (.int x0), .val (.int x1), .val (.int x2), .val (.int x3), .val (.int x4), .val (.int x5), .val (.long (((x0).toInt64) + ((x1).toInt64))), .second, .val (.long (((x2).toInt64) - ((x4).toInt64))), .second, .val (.long (((x3).toInt64) ^^^ ((x5).toInt64))), .second, .unset, .unset, .unset, .unset, .unset] [(.ref ba)])) st33 ?_
  refine Goes.by (T' := T33) (g' := (mkF m 37 #[.val (.int x0), .val (.int x1), .val (.int x2), .val (.int x3), .val (.int x4), .val (.int x5), .val (.long (((x0).toInt64) + ((x1).toInt64))), .second, .val (.long (((x2).toInt64) - ((x4).toInt64))), .second, .val (.long (((x3).toInt64) ^^^ ((x5).toInt64))), .second, .unset, .unset, .unset, .unset, .unset] [(.ref ba), (.ref ba)])) (fun _ k => XS.dup X33.here hx rfl (hb hby at_36) rfl rfl k) ?_
  refine Goes.by (T' := T33) (g' := (mkF m 38 #[.val (.int x0), .val (.int x1), .val (.int x2), .val (.int x3), .val (.int x4), .val (.int x5), .val (.long (((x0).toInt64) + ((x1).toInt64))), .second, .val (.long (((x2).toInt64) - ((x4).toInt64))), .second, .val (.long (((x3).toInt64) ^^^ ((x5).toInt64))), .second, .unset, .unset, .unset, .unset, .unset] [(.int (1 : Int32)), (.ref ba), (.ref ba)])) (fun _ k => XS.iconst X33.here hx rfl (hb hby at_37)  k) ?_
  refine Goes.by (T' := T33) (g' := (mkF m 39 #[.val (.int x0), .val (.int x1), .val (.int x2), .val (.int x3), .val (.int x4), .val (.int x5), .val (.long (((x0).toInt64) + ((x1).toInt64))), .second, .val (.long (((x2).toInt64) - ((x4).toInt64))), .second, .val (.long (((x3).toInt64) ^^^ ((x5).toInt64))), .second, .unset, .unset, .unset, .unset, .unset] [(.int x1), (.int (1 : Int32)), (.ref ba), (.ref ba)])) (fun _ k => XS.iloadN X33.here hx rfl (hb hby at_38) rfl k) ?_
  refine Goes.by (T' := T33) (g' := (mkF m 40 #[.val (.int x0), .val (.int x1), .val (.int x2), .val (.int x3), .val (.int x4), .val (.int x5), .val (.long (((x0).toInt64) + ((x1).toInt64))), .second, .val (.long (((x2).toInt64) - ((x4).toInt64))), .second, .val (.long (((x3).toInt64) ^^^ ((x5).toInt64))), .second, .unset, .unset, .unset, .unset, .unset] [(.long ((x1).toInt64)), (.int (1 : Int32)), (.ref ba), (.ref ba)])) (fun _ k => XS.i2l X33.here hx rfl (hb hby at_39) rfl k) ?_
  refine Goes.by (T' := T33) (g' := (mkF m 41 #[.val (.int x0), .val (.int x1), .val (.int x2), .val (.int x3), .val (.int x4), .val (.int x5), .val (.long (((x0).toInt64) + ((x1).toInt64))), .second, .val (.long (((x2).toInt64) - ((x4).toInt64))), .second, .val (.long (((x3).toInt64) ^^^ ((x5).toInt64))), .second, .unset, .unset, .unset, .unset, .unset] [(.int (1 : Int32)), (.long ((x1).toInt64)), (.int (1 : Int32)), (.ref ba), (.ref ba)])) (fun _ k => XS.iconst X33.here hx rfl (hb hby at_40)  k) ?_
  obtain ⟨v34, T34, L34, X34, hQ34, st34⟩ := callC X33 hx hZ (y := (⟨"com/example/attitude_bridge/attitudebridge/RotationMatrixEntriesPinLaw", "tag", "(JI)D"⟩ : MethodName)) hown (hw _ (List.mem_of_getElem? (i := 1) rfl)) (hw _ (List.mem_of_getElem? (i := 2) rfl)) (hw _ (List.mem_of_getElem? (i := 4) rfl)) (hw _ (List.mem_of_getElem? (i := 3) rfl)) (by decide) e33 (argsL := [(.long ((x1).toInt64)), (.int (1 : Int32))]) (rest := [(.int (1 : Int32)), (.ref ba), (.ref ba)]) (W := 3) (rm_tag l Z a0 hw ((x1).toInt64) (1 : Int32) h33 n0 Z0) rfl (by decide) (by decide) (by decide) (by decide) (g := (mkF m 41 #[.val (.int x0), .val (.int x1), .val (.int x2), .val (.int x3), .val (.int x4), .val (.int x5), .val (.long (((x0).toInt64) + ((x1).toInt64))), .second, .val (.long (((x2).toInt64) - ((x4).toInt64))), .second, .val (.long (((x3).toInt64) ^^^ ((x5).toInt64))), .second, .unset, .unset, .unset, .unset, .unset] [(.int (1 : Int32)), (.long ((x1).toInt64)), (.int (1 : Int32)), (.ref ba), (.ref ba)])) rfl (by rw [hml]; rfl) (lenOf pd1 rfl) rfl (by show 2 * 0 + _ ≤ _; exact Nat.le_of_eq rfl) (hb hby at_41)
  obtain ⟨⟨u1, rfl, FD1⟩, NL34, hk34⟩ := hQ34
  have N0 := Fr.app N0 NL34
  refine Goes.by (T' := T34) (g' := (mkF m 44 #[.val (.int x0), .val (.int x1), .val (.int x2), .val (.int x3), .val (.int x4), .val (.int x5), .val (.long (((x0).toInt64) + ((x1).toInt64))), .second, .val (.long (((x2).toInt64) - ((x4).toInt64))), .second, .val (.long (((x3).toInt64) ^^^ ((x5).toInt64))), .second, .unset, .unset, .unset, .unset, .unset] [(.double u1), (.int (1 : Int32)), (.ref ba), (.ref ba)])) st34 ?_
  obtain ⟨T35, h35, X35, e35, W35, V35, st35⟩ := stDS X34 hx hZ hk34 V_ba (j := (1 : Int32)) 1 (by decide) (by show 1 < 9; decide) (g := (mkF m 44 #[.val (.int x0), .val (.int x1), .val (.int x2), .val (.int x3), .val (.int x4), .val (.int x5), .val (.long (((x0).toInt64) + ((x1).toInt64))), .second, .val (.long (((x2).toInt64) - ((x4).toInt64))), .second, .val (.long (((x3).toInt64) ^^^ ((x5).toInt64))), .second, .unset, .unset, .unset, .unset, .unset] [(.double u1), (.int (1 : Int32)), (.ref ba), (.ref ba)])) rfl rfl (hb hby at_44)
  have N0 := Fr.snoc X35 N0 ge_ba
  have Z0 := Nat.le_trans Z0 (Nat.le_of_eq W35.size.symm)
  have V_ba : Sar Z h35 ba .double [(.double u0), (.double u1), (.double (0 : UInt64)), (.double (0 : UInt64)), (.double (0 : UInt64)), (.double (0 : UInt64)), (.double (0 : UInt64)), (.double (0 : UInt64)), (.double (0 : UInt64))] := V35
  refine Goes.by (T' := T35) (g' := (mkF m 45 #[.val (.int x0), .val (.int x1), .val (.int x2), .val (.int x3), .val (.int x4), .val (.int x5), .val (.long (((x0).toInt64) + ((x1).toInt64))), .second, .val (.long (((x2).toInt64) - ((x4).toInt64))), .second, .val (.long (((x3).toInt64) ^^^ ((x5).toInt64))), .second, .unset, .unset, .unset, .unset, .unset] [(.ref ba)])) st35 ?_
  refine Goes.by (T' := T35) (g' := (mkF m 46 #[.val (.int x0), .val (.int x1), .val (.int x2), .val (.int x3), .val (.int x4), .val (.int x5), .val (.long (((x0).toInt64) + ((x1).toInt64))), .second, .val (.long (((x2).toInt64) - ((x4).toInt64))), .second, .val (.long (((x3).toInt64) ^^^ ((x5).toInt64))), .second, .unset, .unset, .unset, .unset, .unset] [(.ref ba), (.ref ba)])) (fun _ k => XS.dup X35.here hx rfl (hb hby at_45) rfl rfl k) ?_
  refine Goes.by (T' := T35) (g' := (mkF m 47 #[.val (.int x0), .val (.int x1), .val (.int x2), .val (.int x3), .val (.int x4), .val (.int x5), .val (.long (((x0).toInt64) + ((x1).toInt64))), .second, .val (.long (((x2).toInt64) - ((x4).toInt64))), .second, .val (.long (((x3).toInt64) ^^^ ((x5).toInt64))), .second, .unset, .unset, .unset, .unset, .unset] [(.int (2 : Int32)), (.ref ba), (.ref ba)])) (fun _ k => XS.iconst X35.here hx rfl (hb hby at_46)  k) ?_
  refine Goes.by (T' := T35) (g' := (mkF m 48 #[.val (.int x0), .val (.int x1), .val (.int x2), .val (.int x3), .val (.int x4), .val (.int x5), .val (.long (((x0).toInt64) + ((x1).toInt64))), .second, .val (.long (((x2).toInt64) - ((x4).toInt64))), .second, .val (.long (((x3).toInt64) ^^^ ((x5).toInt64))), .second, .unset, .unset, .unset, .unset, .unset] [(.int x2), (.int (2 : Int32)), (.ref ba), (.ref ba)])) (fun _ k => XS.iloadN X35.here hx rfl (hb hby at_47) rfl k) ?_
  refine Goes.by (T' := T35) (g' := (mkF m 49 #[.val (.int x0), .val (.int x1), .val (.int x2), .val (.int x3), .val (.int x4), .val (.int x5), .val (.long (((x0).toInt64) + ((x1).toInt64))), .second, .val (.long (((x2).toInt64) - ((x4).toInt64))), .second, .val (.long (((x3).toInt64) ^^^ ((x5).toInt64))), .second, .unset, .unset, .unset, .unset, .unset] [(.long ((x2).toInt64)), (.int (2 : Int32)), (.ref ba), (.ref ba)])) (fun _ k => XS.i2l X35.here hx rfl (hb hby at_48) rfl k) ?_
  refine Goes.by (T' := T35) (g' := (mkF m 50 #[.val (.int x0), .val (.int x1), .val (.int x2), .val (.int x3), .val (.int x4), .val (.int x5), .val (.long (((x0).toInt64) + ((x1).toInt64))), .second, .val (.long (((x2).toInt64) - ((x4).toInt64))), .second, .val (.long (((x3).toInt64) ^^^ ((x5).toInt64))), .second, .unset, .unset, .unset, .unset, .unset] [(.int (2 : Int32)), (.long ((x2).toInt64)), (.int (2 : Int32)), (.ref ba), (.ref ba)])) (fun _ k => XS.iconst X35.here hx rfl (hb hby at_49)  k) ?_
  obtain ⟨v36, T36, L36, X36, hQ36, st36⟩ := callC X35 hx hZ (y := (⟨"com/example/attitude_bridge/attitudebridge/RotationMatrixEntriesPinLaw", "tag", "(JI)D"⟩ : MethodName)) hown (hw _ (List.mem_of_getElem? (i := 1) rfl)) (hw _ (List.mem_of_getElem? (i := 2) rfl)) (hw _ (List.mem_of_getElem? (i := 4) rfl)) (hw _ (List.mem_of_getElem? (i := 3) rfl)) (by decide) e35 (argsL := [(.long ((x2).toInt64)), (.int (2 : Int32))]) (rest := [(.int (2 : Int32)), (.ref ba), (.ref ba)]) (W := 3) (rm_tag l Z a0 hw ((x2).toInt64) (2 : Int32) h35 n0 Z0) rfl (by decide) (by decide) (by decide) (by decide) (g := (mkF m 50 #[.val (.int x0), .val (.int x1), .val (.int x2), .val (.int x3), .val (.int x4), .val (.int x5), .val (.long (((x0).toInt64) + ((x1).toInt64))), .second, .val (.long (((x2).toInt64) - ((x4).toInt64))), .second, .val (.long (((x3).toInt64) ^^^ ((x5).toInt64))), .second, .unset, .unset, .unset, .unset, .unset] [(.int (2 : Int32)), (.long ((x2).toInt64)), (.int (2 : Int32)), (.ref ba), (.ref ba)])) rfl (by rw [hml]; rfl) (lenOf pd1 rfl) rfl (by show 2 * 0 + _ ≤ _; exact Nat.le_of_eq rfl) (hb hby at_50)
  obtain ⟨⟨u2, rfl, FD2⟩, NL36, hk36⟩ := hQ36
  have N0 := Fr.app N0 NL36
  refine Goes.by (T' := T36) (g' := (mkF m 53 #[.val (.int x0), .val (.int x1), .val (.int x2), .val (.int x3), .val (.int x4), .val (.int x5), .val (.long (((x0).toInt64) + ((x1).toInt64))), .second, .val (.long (((x2).toInt64) - ((x4).toInt64))), .second, .val (.long (((x3).toInt64) ^^^ ((x5).toInt64))), .second, .unset, .unset, .unset, .unset, .unset] [(.double u2), (.int (2 : Int32)), (.ref ba), (.ref ba)])) st36 ?_
  obtain ⟨T37, h37, X37, e37, W37, V37, st37⟩ := stDS X36 hx hZ hk36 V_ba (j := (2 : Int32)) 2 (by decide) (by show 2 < 9; decide) (g := (mkF m 53 #[.val (.int x0), .val (.int x1), .val (.int x2), .val (.int x3), .val (.int x4), .val (.int x5), .val (.long (((x0).toInt64) + ((x1).toInt64))), .second, .val (.long (((x2).toInt64) - ((x4).toInt64))), .second, .val (.long (((x3).toInt64) ^^^ ((x5).toInt64))), .second, .unset, .unset, .unset, .unset, .unset] [(.double u2), (.int (2 : Int32)), (.ref ba), (.ref ba)])) rfl rfl (hb hby at_53)
  have N0 := Fr.snoc X37 N0 ge_ba
  have Z0 := Nat.le_trans Z0 (Nat.le_of_eq W37.size.symm)
  have V_ba : Sar Z h37 ba .double [(.double u0), (.double u1), (.double u2), (.double (0 : UInt64)), (.double (0 : UInt64)), (.double (0 : UInt64)), (.double (0 : UInt64)), (.double (0 : UInt64)), (.double (0 : UInt64))] := V37
  refine Goes.by (T' := T37) (g' := (mkF m 54 #[.val (.int x0), .val (.int x1), .val (.int x2), .val (.int x3), .val (.int x4), .val (.int x5), .val (.long (((x0).toInt64) + ((x1).toInt64))), .second, .val (.long (((x2).toInt64) - ((x4).toInt64))), .second, .val (.long (((x3).toInt64) ^^^ ((x5).toInt64))), .second, .unset, .unset, .unset, .unset, .unset] [(.ref ba)])) st37 ?_
  refine Goes.by (T' := T37) (g' := (mkF m 55 #[.val (.int x0), .val (.int x1), .val (.int x2), .val (.int x3), .val (.int x4), .val (.int x5), .val (.long (((x0).toInt64) + ((x1).toInt64))), .second, .val (.long (((x2).toInt64) - ((x4).toInt64))), .second, .val (.long (((x3).toInt64) ^^^ ((x5).toInt64))), .second, .unset, .unset, .unset, .unset, .unset] [(.ref ba), (.ref ba)])) (fun _ k => XS.dup X37.here hx rfl (hb hby at_54) rfl rfl k) ?_
  refine Goes.by (T' := T37) (g' := (mkF m 56 #[.val (.int x0), .val (.int x1), .val (.int x2), .val (.int x3), .val (.int x4), .val (.int x5), .val (.long (((x0).toInt64) + ((x1).toInt64))), .second, .val (.long (((x2).toInt64) - ((x4).toInt64))), .second, .val (.long (((x3).toInt64) ^^^ ((x5).toInt64))), .second, .unset, .unset, .unset, .unset, .unset] [(.int (3 : Int32)), (.ref ba), (.ref ba)])) (fun _ k => XS.iconst X37.here hx rfl (hb hby at_55)  k) ?_
  refine Goes.by (T' := T37) (g' := (mkF m 57 #[.val (.int x0), .val (.int x1), .val (.int x2), .val (.int x3), .val (.int x4), .val (.int x5), .val (.long (((x0).toInt64) + ((x1).toInt64))), .second, .val (.long (((x2).toInt64) - ((x4).toInt64))), .second, .val (.long (((x3).toInt64) ^^^ ((x5).toInt64))), .second, .unset, .unset, .unset, .unset, .unset] [(.int x3), (.int (3 : Int32)), (.ref ba), (.ref ba)])) (fun _ k => XS.iloadN X37.here hx rfl (hb hby at_56) rfl k) ?_
  refine Goes.by (T' := T37) (g' := (mkF m 58 #[.val (.int x0), .val (.int x1), .val (.int x2), .val (.int x3), .val (.int x4), .val (.int x5), .val (.long (((x0).toInt64) + ((x1).toInt64))), .second, .val (.long (((x2).toInt64) - ((x4).toInt64))), .second, .val (.long (((x3).toInt64) ^^^ ((x5).toInt64))), .second, .unset, .unset, .unset, .unset, .unset] [(.long ((x3).toInt64)), (.int (3 : Int32)), (.ref ba), (.ref ba)])) (fun _ k => XS.i2l X37.here hx rfl (hb hby at_57) rfl k) ?_
  refine Goes.by (T' := T37) (g' := (mkF m 59 #[.val (.int x0), .val (.int x1), .val (.int x2), .val (.int x3), .val (.int x4), .val (.int x5), .val (.long (((x0).toInt64) + ((x1).toInt64))), .second, .val (.long (((x2).toInt64) - ((x4).toInt64))), .second, .val (.long (((x3).toInt64) ^^^ ((x5).toInt64))), .second, .unset, .unset, .unset, .unset, .unset] [(.int (3 : Int32)), (.long ((x3).toInt64)), (.int (3 : Int32)), (.ref ba), (.ref ba)])) (fun _ k => XS.iconst X37.here hx rfl (hb hby at_58)  k) ?_
  obtain ⟨v38, T38, L38, X38, hQ38, st38⟩ := callC X37 hx hZ (y := (⟨"com/example/attitude_bridge/attitudebridge/RotationMatrixEntriesPinLaw", "tag", "(JI)D"⟩ : MethodName)) hown (hw _ (List.mem_of_getElem? (i := 1) rfl)) (hw _ (List.mem_of_getElem? (i := 2) rfl)) (hw _ (List.mem_of_getElem? (i := 4) rfl)) (hw _ (List.mem_of_getElem? (i := 3) rfl)) (by decide) e37 (argsL := [(.long ((x3).toInt64)), (.int (3 : Int32))]) (rest := [(.int (3 : Int32)), (.ref ba), (.ref ba)]) (W := 3) (rm_tag l Z a0 hw ((x3).toInt64) (3 : Int32) h37 n0 Z0) rfl (by decide) (by decide) (by decide) (by decide) (g := (mkF m 59 #[.val (.int x0), .val (.int x1), .val (.int x2), .val (.int x3), .val (.int x4), .val (.int x5), .val (.long (((x0).toInt64) + ((x1).toInt64))), .second, .val (.long (((x2).toInt64) - ((x4).toInt64))), .second, .val (.long (((x3).toInt64) ^^^ ((x5).toInt64))), .second, .unset, .unset, .unset, .unset, .unset] [(.int (3 : Int32)), (.long ((x3).toInt64)), (.int (3 : Int32)), (.ref ba), (.ref ba)])) rfl (by rw [hml]; rfl) (lenOf pd1 rfl) rfl (by show 2 * 0 + _ ≤ _; exact Nat.le_of_eq rfl) (hb hby at_59)
  obtain ⟨⟨u3, rfl, FD3⟩, NL38, hk38⟩ := hQ38
  have N0 := Fr.app N0 NL38
  refine Goes.by (T' := T38) (g' := (mkF m 62 #[.val (.int x0), .val (.int x1), .val (.int x2), .val (.int x3), .val (.int x4), .val (.int x5), .val (.long (((x0).toInt64) + ((x1).toInt64))), .second, .val (.long (((x2).toInt64) - ((x4).toInt64))), .second, .val (.long (((x3).toInt64) ^^^ ((x5).toInt64))), .second, .unset, .unset, .unset, .unset, .unset] [(.double u3), (.int (3 : Int32)), (.ref ba), (.ref ba)])) st38 ?_
  obtain ⟨T39, h39, X39, e39, W39, V39, st39⟩ := stDS X38 hx hZ hk38 V_ba (j := (3 : Int32)) 3 (by decide) (by show 3 < 9; decide) (g := (mkF m 62 #[.val (.int x0), .val (.int x1), .val (.int x2), .val (.int x3), .val (.int x4), .val (.int x5), .val (.long (((x0).toInt64) + ((x1).toInt64))), .second, .val (.long (((x2).toInt64) - ((x4).toInt64))), .second, .val (.long (((x3).toInt64) ^^^ ((x5).toInt64))), .second, .unset, .unset, .unset, .unset, .unset] [(.double u3), (.int (3 : Int32)), (.ref ba), (.ref ba)])) rfl rfl (hb hby at_62)
  have N0 := Fr.snoc X39 N0 ge_ba
  have Z0 := Nat.le_trans Z0 (Nat.le_of_eq W39.size.symm)
  have V_ba : Sar Z h39 ba .double [(.double u0), (.double u1), (.double u2), (.double u3), (.double (0 : UInt64)), (.double (0 : UInt64)), (.double (0 : UInt64)), (.double (0 : UInt64)), (.double (0 : UInt64))] := V39
  refine Goes.by (T' := T39) (g' := (mkF m 63 #[.val (.int x0), .val (.int x1), .val (.int x2), .val (.int x3), .val (.int x4), .val (.int x5), .val (.long (((x0).toInt64) + ((x1).toInt64))), .second, .val (.long (((x2).toInt64) - ((x4).toInt64))), .second, .val (.long (((x3).toInt64) ^^^ ((x5).toInt64))), .second, .unset, .unset, .unset, .unset, .unset] [(.ref ba)])) st39 ?_
  refine Goes.by (T' := T39) (g' := (mkF m 64 #[.val (.int x0), .val (.int x1), .val (.int x2), .val (.int x3), .val (.int x4), .val (.int x5), .val (.long (((x0).toInt64) + ((x1).toInt64))), .second, .val (.long (((x2).toInt64) - ((x4).toInt64))), .second, .val (.long (((x3).toInt64) ^^^ ((x5).toInt64))), .second, .unset, .unset, .unset, .unset, .unset] [(.ref ba), (.ref ba)])) (fun _ k => XS.dup X39.here hx rfl (hb hby at_63) rfl rfl k) ?_
  refine Goes.by (T' := T39) (g' := (mkF m 65 #[.val (.int x0), .val (.int x1), .val (.int x2), .val (.int x3), .val (.int x4), .val (.int x5), .val (.long (((x0).toInt64) + ((x1).toInt64))), .second, .val (.long (((x2).toInt64) - ((x4).toInt64))), .second, .val (.long (((x3).toInt64) ^^^ ((x5).toInt64))), .second, .unset, .unset, .unset, .unset, .unset] [(.int (4 : Int32)), (.ref ba), (.ref ba)])) (fun _ k => XS.iconst X39.here hx rfl (hb hby at_64)  k) ?_
  refine Goes.by (T' := T39) (g' := (mkF m 67 #[.val (.int x0), .val (.int x1), .val (.int x2), .val (.int x3), .val (.int x4), .val (.int x5), .val (.long (((x0).toInt64) + ((x1).toInt64))), .second, .val (.long (((x2).toInt64) - ((x4).toInt64))), .second, .val (.long (((x3).toInt64) ^^^ ((x5).toInt64))), .second, .unset, .unset, .unset, .unset, .unset] [(.int x4), (.int (4 : Int32)), (.ref ba), (.ref ba)])) (fun _ k => XS.iload X39.here hx rfl (hb hby at_65) rfl k) ?_
  refine Goes.by (T' := T39) (g' := (mkF m 68 #[.val (.int x0), .val (.int x1), .val (.int x2), .val (.int x3), .val (.int x4), .val (.int x5), .val (.long (((x0).toInt64) + ((x1).toInt64))), .second, .val (.long (((x2).toInt64) - ((x4).toInt64))), .second, .val (.long (((x3).toInt64) ^^^ ((x5).toInt64))), .second, .unset, .unset, .unset, .unset, .unset] [(.long ((x4).toInt64)), (.int (4 : Int32)), (.ref ba), (.ref ba)])) (fun _ k => XS.i2l X39.here hx rfl (hb hby at_67) rfl k) ?_
  refine Goes.by (T' := T39) (g' := (mkF m 69 #[.val (.int x0), .val (.int x1), .val (.int x2), .val (.int x3), .val (.int x4), .val (.int x5), .val (.long (((x0).toInt64) + ((x1).toInt64))), .second, .val (.long (((x2).toInt64) - ((x4).toInt64))), .second, .val (.long (((x3).toInt64) ^^^ ((x5).toInt64))), .second, .unset, .unset, .unset, .unset, .unset] [(.int (4 : Int32)), (.long ((x4).toInt64)), (.int (4 : Int32)), (.ref ba), (.ref ba)])) (fun _ k => XS.iconst X39.here hx rfl (hb hby at_68)  k) ?_
  obtain ⟨v40, T40, L40, X40, hQ40, st40⟩ := callC X39 hx hZ (y := (⟨"com/example/attitude_bridge/attitudebridge/RotationMatrixEntriesPinLaw", "tag", "(JI)D"⟩ : MethodName)) hown (hw _ (List.mem_of_getElem? (i := 1) rfl)) (hw _ (List.mem_of_getElem? (i := 2) rfl)) (hw _ (List.mem_of_getElem? (i := 4) rfl)) (hw _ (List.mem_of_getElem? (i := 3) rfl)) (by decide) e39 (argsL := [(.long ((x4).toInt64)), (.int (4 : Int32))]) (rest := [(.int (4 : Int32)), (.ref ba), (.ref ba)]) (W := 3) (rm_tag l Z a0 hw ((x4).toInt64) (4 : Int32) h39 n0 Z0) rfl (by decide) (by decide) (by decide) (by decide) (g := (mkF m 69 #[.val (.int x0), .val (.int x1), .val (.int x2), .val (.int x3), .val (.int x4), .val (.int x5), .val (.long (((x0).toInt64) + ((x1).toInt64))), .second, .val (.long (((x2).toInt64) - ((x4).toInt64))), .second, .val (.long (((x3).toInt64) ^^^ ((x5).toInt64))), .second, .unset, .unset, .unset, .unset, .unset] [(.int (4 : Int32)), (.long ((x4).toInt64)), (.int (4 : Int32)), (.ref ba), (.ref ba)])) rfl (by rw [hml]; rfl) (lenOf pd1 rfl) rfl (by show 2 * 0 + _ ≤ _; exact Nat.le_of_eq rfl) (hb hby at_69)
  obtain ⟨⟨u4, rfl, FD4⟩, NL40, hk40⟩ := hQ40
  have N0 := Fr.app N0 NL40
  refine Goes.by (T' := T40) (g' := (mkF m 72 #[.val (.int x0), .val (.int x1), .val (.int x2), .val (.int x3), .val (.int x4), .val (.int x5), .val (.long (((x0).toInt64) + ((x1).toInt64))), .second, .val (.long (((x2).toInt64) - ((x4).toInt64))), .second, .val (.long (((x3).toInt64) ^^^ ((x5).toInt64))), .second, .unset, .unset, .unset, .unset, .unset] [(.double u4), (.int (4 : Int32)), (.ref ba), (.ref ba)])) st40 ?_
  obtain ⟨T41, h41, X41, e41, W41, V41, st41⟩ := stDS X40 hx hZ hk40 V_ba (j := (4 : Int32)) 4 (by decide) (by show 4 < 9; decide) (g := (mkF m 72 #[.val (.int x0), .val (.int x1), .val (.int x2), .val (.int x3), .val (.int x4), .val (.int x5), .val (.long (((x0).toInt64) + ((x1).toInt64))), .second, .val (.long (((x2).toInt64) - ((x4).toInt64))), .second, .val (.long (((x3).toInt64) ^^^ ((x5).toInt64))), .second, .unset, .unset, .unset, .unset, .unset] [(.double u4), (.int (4 : Int32)), (.ref ba), (.ref ba)])) rfl rfl (hb hby at_72)
  have N0 := Fr.snoc X41 N0 ge_ba
  have Z0 := Nat.le_trans Z0 (Nat.le_of_eq W41.size.symm)
  have V_ba : Sar Z h41 ba .double [(.double u0), (.double u1), (.double u2), (.double u3), (.double u4), (.double (0 : UInt64)), (.double (0 : UInt64)), (.double (0 : UInt64)), (.double (0 : UInt64))] := V41
  refine Goes.by (T' := T41) (g' := (mkF m 73 #[.val (.int x0), .val (.int x1), .val (.int x2), .val (.int x3), .val (.int x4), .val (.int x5), .val (.long (((x0).toInt64) + ((x1).toInt64))), .second, .val (.long (((x2).toInt64) - ((x4).toInt64))), .second, .val (.long (((x3).toInt64) ^^^ ((x5).toInt64))), .second, .unset, .unset, .unset, .unset, .unset] [(.ref ba)])) st41 ?_
  refine Goes.by (T' := T41) (g' := (mkF m 74 #[.val (.int x0), .val (.int x1), .val (.int x2), .val (.int x3), .val (.int x4), .val (.int x5), .val (.long (((x0).toInt64) + ((x1).toInt64))), .second, .val (.long (((x2).toInt64) - ((x4).toInt64))), .second, .val (.long (((x3).toInt64) ^^^ ((x5).toInt64))), .second, .unset, .unset, .unset, .unset, .unset] [(.ref ba), (.ref ba)])) (fun _ k => XS.dup X41.here hx rfl (hb hby at_73) rfl rfl k) ?_
  refine Goes.by (T' := T41) (g' := (mkF m 75 #[.val (.int x0), .val (.int x1), .val (.int x2), .val (.int x3), .val (.int x4), .val (.int x5), .val (.long (((x0).toInt64) + ((x1).toInt64))), .second, .val (.long (((x2).toInt64) - ((x4).toInt64))), .second, .val (.long (((x3).toInt64) ^^^ ((x5).toInt64))), .second, .unset, .unset, .unset, .unset, .unset] [(.int (5 : Int32)), (.ref ba), (.ref ba)])) (fun _ k => XS.iconst X41.here hx rfl (hb hby at_74)  k) ?_
  refine Goes.by (T' := T41) (g' := (mkF m 77 #[.val (.int x0), .val (.int x1), .val (.int x2), .val (.int x3), .val (.int x4), .val (.int x5), .val (.long (((x0).toInt64) + ((x1).toInt64))), .second, .val (.long (((x2).toInt64) - ((x4).toInt64))), .second, .val (.long (((x3).toInt64) ^^^ ((x5).toInt64))), .second, .unset, .unset, .unset, .unset, .unset] [(.int x5), (.int (5 : Int32)), (.ref ba), (.ref ba)])) (fun _ k => XS.iload X41.here hx rfl (hb hby at_75) rfl k) ?_
  refine Goes.by (T' := T41) (g' := (mkF m 78 #[.val (.int x0), .val (.int x1), .val (.int x2), .val (.int x3), .val (.int x4), .val (.int x5), .val (.long (((x0).toInt64) + ((x1).toInt64))), .second, .val (.long (((x2).toInt64) - ((x4).toInt64))), .second, .val (.long (((x3).toInt64) ^^^ ((x5).toInt64))), .second, .unset, .unset, .unset, .unset, .unset] [(.long ((x5).toInt64)), (.int (5 : Int32)), (.ref ba), (.ref ba)])) (fun _ k => XS.i2l X41.here hx rfl (hb hby at_77) rfl k) ?_
  refine Goes.by (T' := T41) (g' := (mkF m 79 #[.val (.int x0), .val (.int x1), .val (.int x2), .val (.int x3), .val (.int x4), .val (.int x5), .val (.long (((x0).toInt64) + ((x1).toInt64))), .second, .val (.long (((x2).toInt64) - ((x4).toInt64))), .second, .val (.long (((x3).toInt64) ^^^ ((x5).toInt64))), .second, .unset, .unset, .unset, .unset, .unset] [(.int (5 : Int32)), (.long ((x5).toInt64)), (.int (5 : Int32)), (.ref ba), (.ref ba)])) (fun _ k => XS.iconst X41.here hx rfl (hb hby at_78)  k) ?_
  obtain ⟨v42, T42, L42, X42, hQ42, st42⟩ := callC X41 hx hZ (y := (⟨"com/example/attitude_bridge/attitudebridge/RotationMatrixEntriesPinLaw", "tag", "(JI)D"⟩ : MethodName)) hown (hw _ (List.mem_of_getElem? (i := 1) rfl)) (hw _ (List.mem_of_getElem? (i := 2) rfl)) (hw _ (List.mem_of_getElem? (i := 4) rfl)) (hw _ (List.mem_of_getElem? (i := 3) rfl)) (by decide) e41 (argsL := [(.long ((x5).toInt64)), (.int (5 : Int32))]) (rest := [(.int (5 : Int32)), (.ref ba), (.ref ba)]) (W := 3) (rm_tag l Z a0 hw ((x5).toInt64) (5 : Int32) h41 n0 Z0) rfl (by decide) (by decide) (by decide) (by decide) (g := (mkF m 79 #[.val (.int x0), .val (.int x1), .val (.int x2), .val (.int x3), .val (.int x4), .val (.int x5), .val (.long (((x0).toInt64) + ((x1).toInt64))), .second, .val (.long (((x2).toInt64) - ((x4).toInt64))), .second, .val (.long (((x3).toInt64) ^^^ ((x5).toInt64))), .second, .unset, .unset, .unset, .unset, .unset] [(.int (5 : Int32)), (.long ((x5).toInt64)), (.int (5 : Int32)), (.ref ba), (.ref ba)])) rfl (by rw [hml]; rfl) (lenOf pd1 rfl) rfl (by show 2 * 0 + _ ≤ _; exact Nat.le_of_eq rfl) (hb hby at_79)
  obtain ⟨⟨u5, rfl, FD5⟩, NL42, hk42⟩ := hQ42
  have N0 := Fr.app N0 NL42
  refine Goes.by (T' := T42) (g' := (mkF m 82 #[.val (.int x0), .val (.int x1), .val (.int x2), .val (.int x3), .val (.int x4), .val (.int x5), .val (.long (((x0).toInt64) + ((x1).toInt64))), .second, .val (.long (((x2).toInt64) - ((x4).toInt64))), .second, .val (.long (((x3).toInt64) ^^^ ((x5).toInt64))), .second, .unset, .unset, .unset, .unset, .unset] [(.double u5), (.int (5 : Int32)), (.ref ba), (.ref ba)])) st42 ?_
  obtain ⟨T43, h43, X43, e43, W43, V43, st43⟩ := stDS X42 hx hZ hk42 V_ba (j := (5 : Int32)) 5 (by decide) (by show 5 < 9; decide) (g := (mkF m 82 #[.val (.int x0), .val (.int x1), .val (.int x2), .val (.int x3), .val (.int x4), .val (.int x5), .val (.long (((x0).toInt64) + ((x1).toInt64))), .second, .val (.long (((x2).toInt64) - ((x4).toInt64))), .second, .val (.long (((x3).toInt64) ^^^ ((x5).toInt64))), .second, .unset, .unset, .unset, .unset, .unset] [(.double u5), (.int (5 : Int32)), (.ref ba), (.ref ba)])) rfl rfl (hb hby at_82)
  have N0 := Fr.snoc X43 N0 ge_ba
  have Z0 := Nat.le_trans Z0 (Nat.le_of_eq W43.size.symm)
  have V_ba : Sar Z h43 ba .double [(.double u0), (.double u1), (.double u2), (.double u3), (.double u4), (.double u5), (.double (0 : UInt64)), (.double (0 : UInt64)), (.double (0 : UInt64))] := V43
  refine Goes.by (T' := T43) (g' := (mkF m 83 #[.val (.int x0), .val (.int x1), .val (.int x2), .val (.int x3), .val (.int x4), .val (.int x5), .val (.long (((x0).toInt64) + ((x1).toInt64))), .second, .val (.long (((x2).toInt64) - ((x4).toInt64))), .second, .val (.long (((x3).toInt64) ^^^ ((x5).toInt64))), .second, .unset, .unset, .unset, .unset, .unset] [(.ref ba)])) st43 ?_
  refine Goes.by (T' := T43) (g' := (mkF m 84 #[.val (.int x0), .val (.int x1), .val (.int x2), .val (.int x3), .val (.int x4), .val (.int x5), .val (.long (((x0).toInt64) + ((x1).toInt64))), .second, .val (.long (((x2).toInt64) - ((x4).toInt64))), .second, .val (.long (((x3).toInt64) ^^^ ((x5).toInt64))), .second, .unset, .unset, .unset, .unset, .unset] [(.ref ba), (.ref ba)])) (fun _ k => XS.dup X43.here hx rfl (hb hby at_83) rfl rfl k) ?_
  refine Goes.by (T' := T43) (g' := (mkF m 86 #[.val (.int x0), .val (.int x1), .val (.int x2), .val (.int x3), .val (.int x4), .val (.int x5), .val (.long (((x0).toInt64) + ((x1).toInt64))), .second, .val (.long (((x2).toInt64) - ((x4).toInt64))), .second, .val (.long (((x3).toInt64) ^^^ ((x5).toInt64))), .second, .unset, .unset, .unset, .unset, .unset] [(.int (6 : Int32)), (.ref ba), (.ref ba)])) (fun _ k => XS.bipush X43.here hx rfl (hb hby at_84)  k) ?_
  refine Goes.by (T' := T43) (g' := (mkF m 88 #[.val (.int x0), .val (.int x1), .val (.int x2), .val (.int x3), .val (.int x4), .val (.int x5), .val (.long (((x0).toInt64) + ((x1).toInt64))), .second, .val (.long (((x2).toInt64) - ((x4).toInt64))), .second, .val (.long (((x3).toInt64) ^^^ ((x5).toInt64))), .second, .unset, .unset, .unset, .unset, .unset] [(.long (((x0).toInt64) + ((x1).toInt64))), (.int (6 : Int32)), (.ref ba), (.ref ba)])) (fun _ k => XS.lload X43.here hx rfl (hb hby at_86) rfl k) ?_
  refine Goes.by (T' := T43) (g' := (mkF m 90 #[.val (.int x0), .val (.int x1), .val (.int x2), .val (.int x3), .val (.int x4), .val (.int x5), .val (.long (((x0).toInt64) + ((x1).toInt64))), .second, .val (.long (((x2).toInt64) - ((x4).toInt64))), .second, .val (.long (((x3).toInt64) ^^^ ((x5).toInt64))), .second, .unset, .unset, .unset, .unset, .unset] [(.int (6 : Int32)), (.long (((x0).toInt64) + ((x1).toInt64))), (.int (6 : Int32)), (.ref ba), (.ref ba)])) (fun _ k => XS.bipush X43.here hx rfl (hb hby at_88)  k) ?_
  obtain ⟨v44, T44, L44, X44, hQ44, st44⟩ := callC X43 hx hZ (y := (⟨"com/example/attitude_bridge/attitudebridge/RotationMatrixEntriesPinLaw", "tag", "(JI)D"⟩ : MethodName)) hown (hw _ (List.mem_of_getElem? (i := 1) rfl)) (hw _ (List.mem_of_getElem? (i := 2) rfl)) (hw _ (List.mem_of_getElem? (i := 4) rfl)) (hw _ (List.mem_of_getElem? (i := 3) rfl)) (by decide) e43 (argsL := [(.long (((x0).toInt64) + ((x1).toInt64))), (.int (6 : Int32))]) (rest := [(.int (6 : Int32)), (.ref ba), (.ref ba)]) (W := 3) (rm_tag l Z a0 hw (((x0).toInt64) + ((x1).toInt64)) (6 : Int32) h43 n0 Z0) rfl (by decide) (by decide) (by decide) (by decide) (g := (mkF m 90 #[.val (.int x0), .val (.int x1), .val (.int x2), .val (.int x3), .val (.int x4), .val (.int x5), .val (.long (((x0).toInt64) + ((x1).toInt64))), .second, .val (.long (((x2).toInt64) - ((x4).toInt64))), .second, .val (.long (((x3).toInt64) ^^^ ((x5).toInt64))), .second, .unset, .unset, .unset, .unset, .unset] [(.int (6 : Int32)), (.long (((x0).toInt64) + ((x1).toInt64))), (.int (6 : Int32)), (.ref ba), (.ref ba)])) rfl (by rw [hml]; rfl) (lenOf pd1 rfl) rfl (by show 2 * 0 + _ ≤ _; exact Nat.le_of_eq rfl) (hb hby at_90)
  obtain ⟨⟨u6, rfl, FD6⟩, NL44, hk44⟩ := hQ44
  have N0 := Fr.app N0 NL44
  refine Goes.by (T' := T44) (g' := (mkF m 93 #[.val (.int x0), .val (.int x1), .val (.int x2), .val (.int x3), .val (.int x4), .val (.int x5), .val (.long (((x0).toInt64) + ((x1).toInt64))), .second, .val (.long (((x2).toInt64) - ((x4).toInt64))), .second, .val (.long (((x3).toInt64) ^^^ ((x5).toInt64))), .second, .unset, .unset, .unset, .unset, .unset] [(.double u6), (.int (6 : Int32)), (.ref ba), (.ref ba)])) st44 ?_
  obtain ⟨T45, h45, X45, e45, W45, V45, st45⟩ := stDS X44 hx hZ hk44 V_ba (j := (6 : Int32)) 6 (by decide) (by show 6 < 9; decide) (g := (mkF m 93 #[.val (.int x0), .val (.int x1), .val (.int x2), .val (.int x3), .val (.int x4), .val (.int x5), .val (.long (((x0).toInt64) + ((x1).toInt64))), .second, .val (.long (((x2).toInt64) - ((x4).toInt64))), .second, .val (.long (((x3).toInt64) ^^^ ((x5).toInt64))), .second, .unset, .unset, .unset, .unset, .unset] [(.double u6), (.int (6 : Int32)), (.ref ba), (.ref ba)])) rfl rfl (hb hby at_93)
  have N0 := Fr.snoc X45 N0 ge_ba
  have Z0 := Nat.le_trans Z0 (Nat.le_of_eq W45.size.symm)
  have V_ba : Sar Z h45 ba .double [(.double u0), (.double u1), (.double u2), (.double u3), (.double u4), (.double u5), (.double u6), (.double (0 : UInt64)), (.double (0 : UInt64))] := V45
  refine Goes.by (T' := T45) (g' := (mkF m 94 #[.val (.int x0), .val (.int x1), .val (.int x2), .val (.int x3), .val (.int x4), .val (.int x5), .val (.long (((x0).toInt64) + ((x1).toInt64))), .second, .val (.long (((x2).toInt64) - ((x4).toInt64))), .second, .val (.long (((x3).toInt64) ^^^ ((x5).toInt64))), .second, .unset, .unset, .unset, .unset, .unset] [(.ref ba)])) st45 ?_
  refine Goes.by (T' := T45) (g' := (mkF m 95 #[.val (.int x0), .val (.int x1), .val (.int x2), .val (.int x3), .val (.int x4), .val (.int x5), .val (.long (((x0).toInt64) + ((x1).toInt64))), .second, .val (.long (((x2).toInt64) - ((x4).toInt64))), .second, .val (.long (((x3).toInt64) ^^^ ((x5).toInt64))), .second, .unset, .unset, .unset, .unset, .unset] [(.ref ba), (.ref ba)])) (fun _ k => XS.dup X45.here hx rfl (hb hby at_94) rfl rfl k) ?_
  refine Goes.by (T' := T45) (g' := (mkF m 97 #[.val (.int x0), .val (.int x1), .val (.int x2), .val (.int x3), .val (.int x4), .val (.int x5), .val (.long (((x0).toInt64) + ((x1).toInt64))), .second, .val (.long (((x2).toInt64) - ((x4).toInt64))), .second, .val (.long (((x3).toInt64) ^^^ ((x5).toInt64))), .second, .unset, .unset, .unset, .unset, .unset] [(.int (7 : Int32)), (.ref ba), (.ref ba)])) (fun _ k => XS.bipush X45.here hx rfl (hb hby at_95)  k) ?_
  refine Goes.by (T' := T45) (g' := (mkF m 99 #[.val (.int x0), .val (.int x1), .val (.int x2), .val (.int x3), .val (.int x4), .val (.int x5), .val (.long (((x0).toInt64) + ((x1).toInt64))), .second, .val (.long (((x2).toInt64) - ((x4).toInt64))), .second, .val (.long (((x3).toInt64) ^^^ ((x5).toInt64))), .second, .unset, .unset, .unset, .unset, .unset] [(.long (((x2).toInt64) - ((x4).toInt64))), (.int (7 : Int32)), (.ref ba), (.ref ba)])) (fun _ k => XS.lload X45.here hx rfl (hb hby at_97) rfl k) ?_
  refine Goes.by (T' := T45) (g' := (mkF m 101 #[.val (.int x0), .val (.int x1), .val (.int x2), .val (.int x3), .val (.int x4), .val (.int x5), .val (.long (((x0).toInt64) + ((x1).toInt64))), .second, .val (.long (((x2).toInt64) - ((x4).toInt64))), .second, .val (.long (((x3).toInt64) ^^^ ((x5).toInt64))), .second, .unset, .unset, .unset, .unset, .unset] [(.int (7 : Int32)), (.long (((x2).toInt64) - ((x4).toInt64))), (.int (7 : Int32)), (.ref ba), (.ref ba)])) (fun _ k => XS.bipush X45.here hx rfl (hb hby at_99)  k) ?_
  obtain ⟨v46, T46, L46, X46, hQ46, st46⟩ := callC X45 hx hZ (y := (⟨"com/example/attitude_bridge/attitudebridge/RotationMatrixEntriesPinLaw", "tag", "(JI)D"⟩ : MethodName)) hown (hw _ (List.mem_of_getElem? (i := 1) rfl)) (hw _ (List.mem_of_getElem? (i := 2) rfl)) (hw _ (List.mem_of_getElem? (i := 4) rfl)) (hw _ (List.mem_of_getElem? (i := 3) rfl)) (by decide) e45 (argsL := [(.long (((x2).toInt64) - ((x4).toInt64))), (.int (7 : Int32))]) (rest := [(.int (7 : Int32)), (.ref ba), (.ref ba)]) (W := 3) (rm_tag l Z a0 hw (((x2).toInt64) - ((x4).toInt64)) (7 : Int32) h45 n0 Z0) rfl (by decide) (by decide) (by decide) (by decide) (g := (mkF m 101 #[.val (.int x0), .val (.int x1), .val (.int x2), .val (.int x3), .val (.int x4), .val (.int x5), .val (.long (((x0).toInt64) + ((x1).toInt64))), .second, .val (.long (((x2).toInt64) - ((x4).toInt64))), .second, .val (.long (((x3).toInt64) ^^^ ((x5).toInt64))), .second, .unset, .unset, .unset, .unset, .unset] [(.int (7 : Int32)), (.long (((x2).toInt64) - ((x4).toInt64))), (.int (7 : Int32)), (.ref ba), (.ref ba)])) rfl (by rw [hml]; rfl) (lenOf pd1 rfl) rfl (by show 2 * 0 + _ ≤ _; exact Nat.le_of_eq rfl) (hb hby at_101)
  obtain ⟨⟨u7, rfl, FD7⟩, NL46, hk46⟩ := hQ46
  have N0 := Fr.app N0 NL46
  refine Goes.by (T' := T46) (g' := (mkF m 104 #[.val (.int x0), .val (.int x1), .val (.int x2), .val (.int x3), .val (.int x4), .val (.int x5), .val (.long (((x0).toInt64) + ((x1).toInt64))), .second, .val (.long (((x2).toInt64) - ((x4).toInt64))), .second, .val (.long (((x3).toInt64) ^^^ ((x5).toInt64))), .second, .unset, .unset, .unset, .unset, .unset] [(.double u7), (.int (7 : Int32)), (.ref ba), (.ref ba)])) st46 ?_
  obtain ⟨T47, h47, X47, e47, W47, V47, st47⟩ := stDS X46 hx hZ hk46 V_ba (j := (7 : Int32)) 7 (by decide) (by show 7 < 9; decide) (g := (mkF m 104 #[.val (.int x0), .val (.int x1), .val (.int x2), .val (.int x3), .val (.int x4), .val (.int x5), .val (.long (((x0).toInt64) + ((x1).toInt64))), .second, .val (.long (((x2).toInt64) - ((x4).toInt64))), .second, .val (.long (((x3).toInt64) ^^^ ((x5).toInt64))), .second, .unset, .unset, .unset, .unset, .unset] [(.double u7), (.int (7 : Int32)), (.ref ba), (.ref ba)])) rfl rfl (hb hby at_104)
  have N0 := Fr.snoc X47 N0 ge_ba
  have Z0 := Nat.le_trans Z0 (Nat.le_of_eq W47.size.symm)
  have V_ba : Sar Z h47 ba .double [(.double u0), (.double u1), (.double u2), (.double u3), (.double u4), (.double u5), (.double u6), (.double u7), (.double (0 : UInt64))] := V47
  refine Goes.by (T' := T47) (g' := (mkF m 105 #[.val (.int x0), .val (.int x1), .val (.int x2), .val (.int x3), .val (.int x4), .val (.int x5), .val (.long (((x0).toInt64) + ((x1).toInt64))), .second, .val (.long (((x2).toInt64) - ((x4).toInt64))), .second, .val (.long (((x3).toInt64) ^^^ ((x5).toInt64))), .second, .unset, .unset, .unset, .unset, .unset] [(.ref ba)])) st47 ?_
  refine Goes.by (T' := T47) (g' := (mkF m 106 #[.val (.int x0), .val (.int x1), .val (.int x2), .val (.int x3), .val (.int x4), .val (.int x5), .val (.long (((x0).toInt64) + ((x1).toInt64))), .second, .val (.long (((x2).toInt64) - ((x4).toInt64))), .second, .val (.long (((x3).toInt64) ^^^ ((x5).toInt64))), .second, .unset, .unset, .unset, .unset, .unset] [(.ref ba), (.ref ba)])) (fun _ k => XS.dup X47.here hx rfl (hb hby at_105) rfl rfl k) ?_
  refine Goes.by (T' := T47) (g' := (mkF m 108 #[.val (.int x0), .val (.int x1), .val (.int x2), .val (.int x3), .val (.int x4), .val (.int x5), .val (.long (((x0).toInt64) + ((x1).toInt64))), .second, .val (.long (((x2).toInt64) - ((x4).toInt64))), .second, .val (.long (((x3).toInt64) ^^^ ((x5).toInt64))), .second, .unset, .unset, .unset, .unset, .unset] [(.int (8 : Int32)), (.ref ba), (.ref ba)])) (fun _ k => XS.bipush X47.here hx rfl (hb hby at_106)  k) ?_
  refine Goes.by (T' := T47) (g' := (mkF m 110 #[.val (.int x0), .val (.int x1), .val (.int x2), .val (.int x3), .val (.int x4), .val (.int x5), .val (.long (((x0).toInt64) + ((x1).toInt64))), .second, .val (.long (((x2).toInt64) - ((x4).toInt64))), .second, .val (.long (((x3).toInt64) ^^^ ((x5).toInt64))), .second, .unset, .unset, .unset, .unset, .unset] [(.long (((x3).toInt64) ^^^ ((x5).toInt64))), (.int (8 : Int32)), (.ref ba), (.ref ba)])) (fun _ k => XS.lload X47.here hx rfl (hb hby at_108) rfl k) ?_
  refine Goes.by (T' := T47) (g' := (mkF m 112 #[.val (.int x0), .val (.int x1), .val (.int x2), .val (.int x3), .val (.int x4), .val (.int x5), .val (.long (((x0).toInt64) + ((x1).toInt64))), .second, .val (.long (((x2).toInt64) - ((x4).toInt64))), .second, .val (.long (((x3).toInt64) ^^^ ((x5).toInt64))), .second, .unset, .unset, .unset, .unset, .unset] [(.int (8 : Int32)), (.long (((x3).toInt64) ^^^ ((x5).toInt64))), (.int (8 : Int32)), (.ref ba), (.ref ba)])) (fun _ k => XS.bipush X47.here hx rfl (hb hby at_110)  k) ?_
  obtain ⟨v48, T48, L48, X48, hQ48, st48⟩ := callC X47 hx hZ (y := (⟨"com/example/attitude_bridge/attitudebridge/RotationMatrixEntriesPinLaw", "tag", "(JI)D"⟩ : MethodName)) hown (hw _ (List.mem_of_getElem? (i := 1) rfl)) (hw _ (List.mem_of_getElem? (i := 2) rfl)) (hw _ (List.mem_of_getElem? (i := 4) rfl)) (hw _ (List.mem_of_getElem? (i := 3) rfl)) (by decide) e47 (argsL := [(.long (((x3).toInt64) ^^^ ((x5).toInt64))), (.int (8 : Int32))]) (rest := [(.int (8 : Int32)), (.ref ba), (.ref ba)]) (W := 3) (rm_tag l Z a0 hw (((x3).toInt64) ^^^ ((x5).toInt64)) (8 : Int32) h47 n0 Z0) rfl (by decide) (by decide) (by decide) (by decide) (g := (mkF m 112 #[.val (.int x0), .val (.int x1), .val (.int x2), .val (.int x3), .val (.int x4), .val (.int x5), .val (.long (((x0).toInt64) + ((x1).toInt64))), .second, .val (.long (((x2).toInt64) - ((x4).toInt64))), .second, .val (.long (((x3).toInt64) ^^^ ((x5).toInt64))), .second, .unset, .unset, .unset, .unset, .unset] [(.int (8 : Int32)), (.long (((x3).toInt64) ^^^ ((x5).toInt64))), (.int (8 : Int32)), (.ref ba), (.ref ba)])) rfl (by rw [hml]; rfl) (lenOf pd1 rfl) rfl (by show 2 * 0 + _ ≤ _; exact Nat.le_of_eq rfl) (hb hby at_112)
  obtain ⟨⟨u8, rfl, FD8⟩, NL48, hk48⟩ := hQ48
  have N0 := Fr.app N0 NL48
  refine Goes.by (T' := T48) (g' := (mkF m 115 #[.val (.int x0), .val (.int x1), .val (.int x2), .val (.int x3), .val (.int x4), .val (.int x5), .val (.long (((x0).toInt64) + ((x1).toInt64))), .second, .val (.long (((x2).toInt64) - ((x4).toInt64))), .second, .val (.long (((x3).toInt64) ^^^ ((x5).toInt64))), .second, .unset, .unset, .unset, .unset, .unset] [(.double u8), (.int (8 : Int32)), (.ref ba), (.ref ba)])) st48 ?_
  obtain ⟨T49, h49, X49, e49, W49, V49, st49⟩ := stDS X48 hx hZ hk48 V_ba (j := (8 : Int32)) 8 (by decide) (by show 8 < 9; decide) (g := (mkF m 115 #[.val (.int x0), .val (.int x1), .val (.int x2), .val (.int x3), .val (.int x4), .val (.int x5), .val (.long (((x0).toInt64) + ((x1).toInt64))), .second, .val (.long (((x2).toInt64) - ((x4).toInt64))), .second, .val (.long (((x3).toInt64) ^^^ ((x5).toInt64))), .second, .unset, .unset, .unset, .unset, .unset] [(.double u8), (.int (8 : Int32)), (.ref ba), (.ref ba)])) rfl rfl (hb hby at_115)
  have N0 := Fr.snoc X49 N0 ge_ba
  have Z0 := Nat.le_trans Z0 (Nat.le_of_eq W49.size.symm)
  have V_ba : Sar Z h49 ba .double [(.double u0), (.double u1), (.double u2), (.double u3), (.double u4), (.double u5), (.double u6), (.double u7), (.double u8)] := V49
  refine Goes.by (T' := T49) (g' := (mkF m 116 #[.val (.int x0), .val (.int x1), .val (.int x2), .val (.int x3), .val (.int x4), .val (.int x5), .val (.long (((x0).toInt64) + ((x1).toInt64))), .second, .val (.long (((x2).toInt64) - ((x4).toInt64))), .second, .val (.long (((x3).toInt64) ^^^ ((x5).toInt64))), .second, .unset, .unset, .unset, .unset, .unset] [(.ref ba)])) st49 ?_
  refine Goes.by (T' := T49) (g' := (mkF m 118 #[.val (.int x0), .val (.int x1), .val (.int x2), .val (.int x3), .val (.int x4), .val (.int x5), .val (.long (((x0).toInt64) + ((x1).toInt64))), .second, .val (.long (((x2).toInt64) - ((x4).toInt64))), .second, .val (.long (((x3).toInt64) ^^^ ((x5).toInt64))), .second, .val (.ref ba), .unset, .unset, .unset, .unset] [])) (fun _ k => XS.astore X49.here hx rfl (hb hby at_116) rfl rfl (l' := #[.val (.int x0), .val (.int x1), .val (.int x2), .val (.int x3), .val (.int x4), .val (.int x5), .val (.long (((x0).toInt64) + ((x1).toInt64))), .second, .val (.long (((x2).toInt64) - ((x4).toInt64))), .second, .val (.long (((x3).toInt64) ^^^ ((x5).toInt64))), .second, .val (.ref ba), .unset, .unset, .unset, .unset]) rfl k) ?_
  obtain ⟨T50, h50, X50, e50, E50, A50, D50, -, st50⟩ := newO X49 hx hZ hown (hw _ (List.mem_of_getElem? (i := 6) rfl)) (hw _ (List.mem_of_getElem? (i := 7) rfl)) (hw _ (List.mem_of_getElem? (i := 8) rfl)) e49 (g := (mkF m 118 #[.val (.int x0), .val (.int x1), .val (.int x2), .val (.int x3), .val (.int x4), .val (.int x5), .val (.long (((x0).toInt64) + ((x1).toInt64))), .second, .val (.long (((x2).toInt64) - ((x4).toInt64))), .second, .val (.long (((x3).toInt64) ^^^ ((x5).toInt64))), .second, .val (.ref ba), .unset, .unset, .unset, .unset] [])) rfl (hb hby at_118) (by decide) (by decide)
  obtain ⟨a, g50⟩ : ∃ z, z = h49.size := ⟨_, rfl⟩
  rw [← g50] at A50 D50 st50
  have ne_ba_a : ba ≠ a := fun q => Nat.lt_irrefl _ (Nat.lt_of_lt_of_eq V_ba.lt (g50.symm.trans q.symm))
  have ge_a : n0 ≤ a := Nat.le_trans Z0 (Nat.le_of_eq g50.symm)
  have V_ba := V_ba.ext E50
  have Z0 := Nat.le_trans Z0 E50.1
  have E_a := A50
  have F_r11_a : Fld Z h50 a "com/example/attitude_bridge/attitudebridge/RotationMatrix" "r11" "D" (.double (0 : UInt64)) := D50 (Or.inr (hw _ (List.mem_of_getElem? (i := 21) rfl))) (ty := .double) (by decide)
  have F_r12_a : Fld Z h50 a "com/example/attitude_bridge/attitudebridge/RotationMatrix" "r12" "D" (.double (0 : UInt64)) := D50 (Or.inr (hw _ (List.mem_of_getElem? (i := 23) rfl))) (ty := .double) (by decide)
  have F_r13_a : Fld Z h50 a "com/example/attitude_bridge/attitudebridge/RotationMatrix" "r13" "D" (.double (0 : UInt64)) := D50 (Or.inr (hw _ (List.mem_of_getElem? (i := 25) rfl))) (ty := .double) (by decide)
  have F_r21_a : Fld Z h50 a "com/example/attitude_bridge/attitudebridge/RotationMatrix" "r21" "D" (.double (0 : UInt64)) := D50 (Or.inr (hw _ (List.mem_of_getElem? (i := 27) rfl))) (ty := .double) (by decide)
  have F_r22_a : Fld Z h50 a "com/example/attitude_bridge/attitudebridge/RotationMatrix" "r22" "D" (.double (0 : UInt64)) := D50 (Or.inr (hw _ (List.mem_of_getElem? (i := 29) rfl))) (ty := .double) (by decide)
  have F_r23_a : Fld Z h50 a "com/example/attitude_bridge/attitudebridge/RotationMatrix" "r23" "D" (.double (0 : UInt64)) := D50 (Or.inr (hw _ (List.mem_of_getElem? (i := 31) rfl))) (ty := .double) (by decide)
  have F_r31_a : Fld Z h50 a "com/example/attitude_bridge/attitudebridge/RotationMatrix" "r31" "D" (.double (0 : UInt64)) := D50 (Or.inr (hw _ (List.mem_of_getElem? (i := 33) rfl))) (ty := .double) (by decide)
  have F_r32_a : Fld Z h50 a "com/example/attitude_bridge/attitudebridge/RotationMatrix" "r32" "D" (.double (0 : UInt64)) := D50 (Or.inr (hw _ (List.mem_of_getElem? (i := 35) rfl))) (ty := .double) (by decide)
  have F_r33_a : Fld Z h50 a "com/example/attitude_bridge/attitudebridge/RotationMatrix" "r33" "D" (.double (0 : UInt64)) := D50 (Or.inr (hw _ (List.mem_of_getElem? (i := 37) rfl))) (ty := .double) (by decide)
  refine Goes.by (T' := T50) (g' := (mkF m 121 #[.val (.int x0), .val (.int x1), .val (.int x2), .val (.int x3), .val (.int x4), .val (.int x5), .val (.long (((x0).toInt64) + ((x1).toInt64))), .second, .val (.long (((x2).toInt64) - ((x4).toInt64))), .second, .val (.long (((x3).toInt64) ^^^ ((x5).toInt64))), .second, .val (.ref ba), .unset, .unset, .unset, .unset] [(.ref a)])) st50 ?_
  refine Goes.by (T' := T50) (g' := (mkF m 122 #[.val (.int x0), .val (.int x1), .val (.int x2), .val (.int x3), .val (.int x4), .val (.int x5), .val (.long (((x0).toInt64) + ((x1).toInt64))), .second, .val (.long (((x2).toInt64) - ((x4).toInt64))), .second, .val (.long (((x3).toInt64) ^^^ ((x5).toInt64))), .second, .val (.ref ba), .unset, .unset, .unset, .unset] [(.ref a), (.ref a)])) (fun _ k => XS.dup X50.here hx rfl (hb hby at_121) rfl rfl k) ?_
  refine Goes.by (T' := T50) (g' := (mkF m 124 #[.val (.int x0), .val (.int x1), .val (.int x2), .val (.int x3), .val (.int x4), .val (.int x5), .val (.long (((x0).toInt64) + ((x1).toInt64))), .second, .val (.long (((x2).toInt64) - ((x4).toInt64))), .second, .val (.long (((x3).toInt64) ^^^ ((x5).toInt64))), .second, .val (.ref ba), .unset, .unset, .unset, .unset] [(.ref ba), (.ref a), (.ref a)])) (fun _ k => XS.aload X50.here hx rfl (hb hby at_122) rfl rfl k) ?_
  refine Goes.by (T' := T50) (g' := (mkF m 125 #[.val (.int x0), .val (.int x1), .val (.int x2), .val (.int x3), .val (.int x4), .val (.int x5), .val (.long (((x0).toInt64) + ((x1).toInt64))), .second, .val (.long (((x2).toInt64) - ((x4).toInt64))), .second, .val (.long (((x3).toInt64) ^^^ ((x5).toInt64))), .second, .val (.ref ba), .unset, .unset, .unset, .unset] [(.int (0 : Int32)), (.ref ba), (.ref a), (.ref a)])) (fun _ k => XS.iconst X50.here hx rfl (hb hby at_124)  k) ?_
  refine Goes.by (T' := T50) (g' := (mkF m 126 #[.val (.int x0), .val (.int x1), .val (.int x2), .val (.int x3), .val (.int x4), .val (.int x5), .val (.long (((x0).toInt64) + ((x1).toInt64))), .second, .val (.long (((x2).toInt64) - ((x4).toInt64))), .second, .val (.long (((x3).toInt64) ^^^ ((x5).toInt64))), .second, .val (.ref ba), .unset, .unset, .unset, .unset] [(.double u0), (.ref a), (.ref a)])) (ldDS X50 hx hZ e50 V_ba (v := (.double u0)) (j := (0 : Int32)) 0 (by decide) rfl (g := (mkF m 125 #[.val (.int x0), .val (.int x1), .val (.int x2), .val (.int x3), .val (.int x4), .val (.int x5), .val (.long (((x0).toInt64) + ((x1).toInt64))), .second, .val (.long (((x2).toInt64) - ((x4).toInt64))), .second, .val (.long (((x3).toInt64) ^^^ ((x5).toInt64))), .second, .val (.ref ba), .unset, .unset, .unset, .unset] [(.int (0 : Int32)), (.ref ba), (.ref a), (.ref a)])) rfl rfl (hb hby at_125)) ?_
  refine Goes.by (T' := T50) (g' := (mkF m 128 #[.val (.int x0), .val (.int x1), .val (.int x2), .val (.int x3), .val (.int x4), .val (.int x5), .val (.long (((x0).toInt64) + ((x1).toInt64))), .second, .val (.long (((x2).toInt64) - ((x4).toInt64))), .second, .val (.long (((x3).toInt64) ^^^ ((x5).toInt64))), .second, .val (.ref ba), .unset, .unset, .unset, .unset] [(.ref ba), (.double u0), (.ref a), (.ref a)])) (fun _ k => XS.aload X50.here hx rfl (hb hby at_126) rfl rfl k) ?_
  refine Goes.by (T' := T50) (g' := (mkF m 129 #[.val (.int x0), .val (.int x1), .val (.int x2), .val (.int x3), .val (.int x4), .val (.int x5), .val (.long (((x0).toInt64) + ((x1).toInt64))), .second, .val (.long (((x2).toInt64) - ((x4).toInt64))), .second, .val (.long (((x3).toInt64) ^^^ ((x5).toInt64))), .second, .val (.ref ba), .unset, .unset, .unset, .unset] [(.int (1 : Int32)), (.ref ba), (.double u0), (.ref a), (.ref a)])) (fun _ k => XS.iconst X50.here hx rfl (hb hby at_128)  k) ?_
  refine Goes.by (T' := T50) (g' := (mkF m 130 #[.val (.int x0), .val (.int x1), .val (.int x2), .val (.int x3), .val (.int x4), .val (.int x5), .val (.long (((x0).toInt64) + ((x1).toInt64))), .second, .val (.long (((x2).toInt64) - ((x4).toInt64))), .second, .val (.long (((x3).toInt64) ^^^ ((x5).toInt64))), .second, .val (.ref ba), .unset, .unset, .unset, .unset] [(.double u1), (.double u0), (.ref a), (.ref a)])) (ldDS X50 hx hZ e50 V_ba (v := (.double u1)) (j := (1 : Int32)) 1 (by decide) rfl (g := (mkF m 129 #[.val (.int x0), .val (.int x1), .val (.int x2), .val (.int x3), .val (.int x4), .val (.int x5), .val (.long (((x0).toInt64) + ((x1).toInt64))), .second, .val (.long (((x2).toInt64) - ((x4).toInt64))), .second, .val (.long (((x3).toInt64) ^^^ ((x5).toInt64))), .second, .val (.ref ba), .unset, .unset, .unset, .unset] [(.int (1 : Int32)), (.ref ba), (.double u0), (.ref a), (.ref a)])) rfl rfl (hb hby at_129)) ?_
  refine Goes.by (T' := T50) (g' := (mkF m 132 #[.val (.int x0), .val (.int x1), .val (.int x2), .val (.int x3), .val (.int x4), .val (.int x5), .val (.long (((x0).toInt64) + ((x1).toInt64))), .second, .val (.long (((x2).toInt64) - ((x4).toInt64))), .second, .val (.long (((x3).toInt64) ^^^ ((x5).toInt64))), .second, .val (.ref ba), .unset, .unset, .unset, .unset] [(.ref ba), (.double u1), (.double u0), (.ref a), (.ref a)])) (fun _ k => XS.aload X50.here hx rfl (hb hby at_130) rfl rfl k) ?_
  refine Goes.by (T' := T50) (g' := (mkF m 133 #[.val (.int x0), .val (.int x1), .val (.int x2), .val (.int x3), .val (.int x4), .val (.int x5), .val (.long (((x0).toInt64) + ((x1).toInt64))), .second, .val (.long (((x2).toInt64) - ((x4).toInt64))), .second, .val (.long (((x3).toInt64) ^^^ ((x5).toInt64))), .second, .val (.ref ba), .unset, .unset, .unset, .unset] [(.int (2 : Int32)), (.ref ba), (.double u1), (.double u0), (.ref a), (.ref a)])) (fun _ k => XS.iconst X50.here hx rfl (hb hby at_132)  k) ?_
  refine Goes.by (T' := T50) (g' := (mkF m 134 #[.val (.int x0), .val (.int x1), .val (.int x2), .val (.int x3), .val (.int x4), .val (.int x5), .val (.long (((x0).toInt64) + ((x1).toInt64))), .second, .val (.long (((x2).toInt64) - ((x4).toInt64))), .second, .val (.long (((x3).toInt64) ^^^ ((x5).toInt64))), .second, .val (.ref ba), .unset, .unset, .unset, .unset] [(.double u2), (.double u1), (.double u0), (.ref a), (.ref a)])) (ldDS X50 hx hZ e50 V_ba (v := (.double u2)) (j := (2 : Int32)) 2 (by decide) rfl (g := (mkF m 133 #[.val (.int x0), .val (.int x1), .val (.int x2), .val (.int x3), .val (.int x4), .val (.int x5), .val (.long (((x0).toInt64) + ((x1).toInt64))), .second, .val (.long (((x2).toInt64) - ((x4).toInt64))), .second, .val (.long (((x3).toInt64) ^^^ ((x5).toInt64))), .second, .val (.ref ba), .unset, .unset, .unset, .unset] [(.int (2 : Int32)), (.ref ba), (.double u1), (.double u0), (.ref a), (.ref a)])) rfl rfl (hb hby at_133)) ?_
  refine Goes.by (T' := T50) (g' := (mkF m 136 #[.val (.int x0), .val (.int x1), .val (.int x2), .val (.int x3), .val (.int x4), .val (.int x5), .val (.long (((x0).toInt64) + ((x1).toInt64))), .second, .val (.long (((x2).toInt64) - ((x4).toInt64))), .second, .val (.long (((x3).toInt64) ^^^ ((x5).toInt64))), .second, .val (.ref ba), .unset, .unset, .unset, .unset] [(.ref ba), (.double u2), (.double u1), (.double u0), (.ref a), (.ref a)])) (fun _ k => XS.aload X50.here hx rfl (hb hby at_134) rfl rfl k) ?_
  refine Goes.by (T' := T50) (g' := (mkF m 137 #[.val (.int x0), .val (.int x1), .val (.int x2), .val (.int x3), .val (.int x4), .val (.int x5), .val (.long (((x0).toInt64) + ((x1).toInt64))), .second, .val (.long (((x2).toInt64) - ((x4).toInt64))), .second, .val (.long (((x3).toInt64) ^^^ ((x5).toInt64))), .second, .val (.ref ba), .unset, .unset, .unset, .unset] [(.int (3 : Int32)), (.ref ba), (.double u2), (.double u1), (.double u0), (.ref a), (.ref a)])) (fun _ k => XS.iconst X50.here hx rfl (hb hby at_136)  k) ?_
  refine Goes.by (T' := T50) (g' := (mkF m 138 #[.val (.int x0), .val (.int x1), .val (.int x2), .val (.int x3), .val (.int x4), .val (.int x5), .val (.long (((x0).toInt64) + ((x1).toInt64))), .second, .val (.long (((x2).toInt64) - ((x4).toInt64))), .second, .val (.long (((x3).toInt64) ^^^ ((x5).toInt64))), .second, .val (.ref ba), .unset, .unset, .unset, .unset] [(.double u3), (.double u2), (.double u1), (.double u0), (.ref a), (.ref a)])) (ldDS X50 hx hZ e50 V_ba (v := (.double u3)) (j := (3 : Int32)) 3 (by decide) rfl (g := (mkF m 137 #[.val (.int x0), .val (.int x1), .val (.int x2), .val (.int x3), .val (.int x4), .val (.int x5), .val (.long (((x0).toInt64) + ((x1).toInt64))), .second, .val (.long (((x2).toInt64) - ((x4).toInt64))), .second, .val (.long (((x3).toInt64) ^^^ ((x5).toInt64))), .second, .val (.ref ba), .unset, .unset, .unset, .unset] [(.int (3 : Int32)), (.ref ba), (.double u2), (.double u1), (.double u0), (.ref a), (.ref a)])) rfl rfl (hb hby at_137)) ?_
  refine Goes.by (T' := T50) (g' := (mkF m 140 #[.val (.int x0), .val (.int x1), .val (.int x2), .val (.int x3), .val (.int x4), .val (.int x5), .val (.long (((x0).toInt64) + ((x1).toInt64))), .second, .val (.long (((x2).toInt64) - ((x4).toInt64))), .second, .val (.long (((x3).toInt64) ^^^ ((x5).toInt64))), .second, .val (.ref ba), .unset, .unset, .unset, .unset] [(.ref ba), (.double u3), (.double u2), (.double u1), (.double u0), (.ref a), (.ref a)])) (fun _ k => XS.aload X50.here hx rfl (hb hby at_138) rfl rfl k) ?_
  refine Goes.by (T' := T50) (g' := (mkF m 141 #[.val (.int x0), .val (.int x1), .val (.int x2), .val (.int x3), .val (.int x4), .val (.int x5), .val (.long (((x0).toInt64) + ((x1).toInt64))), .second, .val (.long (((x2).toInt64) - ((x4).toInt64))), .second, .val (.long (((x3).toInt64) ^^^ ((x5).toInt64))), .second, .val (.ref ba), .unset, .unset, .unset, .unset] [(.int (4 : Int32)), (.ref ba), (.double u3), (.double u2), (.double u1), (.double u0), (.ref a), (.ref a)])) (fun _ k => XS.iconst X50.here hx rfl (hb hby at_140)  k) ?_
  refine Goes.by (T' := T50) (g' := (mkF m 142 #[.val (.int x0), .val (.int x1), .val (.int x2), .val (.int x3), .val (.int x4), .val (.int x5), .val (.long (((x0).toInt64) + ((x1).toInt64))), .second, .val (.long (((x2).toInt64) - ((x4).toInt64))), .second, .val (.long (((x3).toInt64) ^^^ ((x5).toInt64))), .second, .val (.ref ba), .unset, .unset, .unset, .unset] [(.double u4), (.double u3), (.double u2), (.double u1), (.double u0), (.ref a), (.ref a)])) (ldDS X50 hx hZ e50 V_ba (v := (.double u4)) (j := (4 : Int32)) 4 (by decide) rfl (g := (mkF m 141 #[.val (.int x0), .val (.int x1), .val (.int x2), .val (.int x3), .val (.int x4), .val (.int x5), .val (.long (((x0).toInt64) + ((x1).toInt64))), .second, .val (.long (((x2).toInt64) - ((x4).toInt64))), .second, .val (.long (((x3).toInt64) ^^^ ((x5).toInt64))), .second, .val (.ref ba), .unset, .unset, .unset, .unset] [(.int (4 : Int32)), (.ref ba), (.double u3), (.double u2), (.double u1), (.double u0), (.ref a), (.ref a)])) rfl rfl (hb hby at_141)) ?_
  refine Goes.by (T' := T50) (g' := (mkF m 144 #[.val (.int x0), .val (.int x1), .val (.int x2), .val (.int x3), .val (.int x4), .val (.int x5), .val (.long (((x0).toInt64) + ((x1).toInt64))), .second, .val (.long (((x2).toInt64) - ((x4).toInt64))), .second, .val (.long (((x3).toInt64) ^^^ ((x5).toInt64))), .second, .val (.ref ba), .unset, .unset, .unset, .unset] [(.ref ba), (.double u4), (.double u3), (.double u2), (.double u1), (.double u0), (.ref a), (.ref a)])) (fun _ k => XS.aload X50.here hx rfl (hb hby at_142) rfl rfl k) ?_
  refine Goes.by (T' := T50) (g' := (mkF m 145 #[.val (.int x0), .val (.int x1), .val (.int x2), .val (.int x3), .val (.int x4), .val (.int x5), .val (.long (((x0).toInt64) + ((x1).toInt64))), .second, .val (.long (((x2).toInt64) - ((x4).toInt64))), .second, .val (.long (((x3).toInt64) ^^^ ((x5).toInt64))), .second, .val (.ref ba), .unset, .unset, .unset, .unset] [(.int (5 : Int32)), (.ref ba), (.double u4), (.double u3), (.double u2), (.double u1), (.double u0), (.ref a), (.ref a)])) (fun _ k => XS.iconst X50.here hx rfl (hb hby at_144)  k) ?_
  refine Goes.by (T' := T50) (g' := (mkF m 146 #[.val (.int x0), .val (.int x1), .val (.int x2), .val (.int x3), .val (.int x4), .val (.int x5), .val (.long (((x0).toInt64) + ((x1).toInt64))), .second, .val (.long (((x2).toInt64) - ((x4).toInt64))), .second, .val (.long (((x3).toInt64) ^^^ ((x5).toInt64))), .second, .val (.ref ba), .unset, .unset, .unset, .unset] [(.double u5), (.double u4), (.double u3), (.double u2), (.double u1), (.double u0), (.ref a), (.ref a)])) (ldDS X50 hx hZ e50 V_ba (v := (.double u5)) (j := (5 : Int32)) 5 (by decide) rfl (g := (mkF m 145 #[.val (.int x0), .val (.int x1), .val (.int x2), .val (.int x3), .val (.int x4), .val (.int x5), .val (.long (((x0).toInt64) + ((x1).toInt64))), .second, .val (.long (((x2).toInt64) - ((x4).toInt64))), .second, .val (.long (((x3).toInt64) ^^^ ((x5).toInt64))), .second, .val (.ref ba), .unset, .unset, .unset, .unset] [(.int (5 : Int32)), (.ref ba), (.double u4), (.double u3), (.double u2), (.double u1), (.double u0), (.ref a), (.ref a)])) rfl rfl (hb hby at_145)) ?_
  refine Goes.by (T' := T50) (g' := (mkF m 148 #[.val (.int x0), .val (.int x1), .val (.int x2), .val (.int x3), .val (.int x4), .val (.int x5), .val (.long (((x0).toInt64) + ((x1).toInt64))), .second, .val (.long (((x2).toInt64) - ((x4).toInt64))), .second, .val (.long (((x3).toInt64) ^^^ ((x5).toInt64))), .second, .val (.ref ba), .unset, .unset, .unset, .unset] [(.ref ba), (.double u5), (.double u4), (.double u3), (.double u2), (.double u1), (.double u0), (.ref a), (.ref a)])) (fun _ k => XS.aload X50.here hx rfl (hb hby at_146) rfl rfl k) ?_
  refine Goes.by (T' := T50) (g' := (mkF m 150 #[.val (.int x0), .val (.int x1), .val (.int x2), .val (.int x3), .val (.int x4), .val (.int x5), .val (.long (((x0).toInt64) + ((x1).toInt64))), .second, .val (.long (((x2).toInt64) - ((x4).toInt64))), .second, .val (.long (((x3).toInt64) ^^^ ((x5).toInt64))), .second, .val (.ref ba), .unset, .unset, .unset, .unset] [(.int (6 : Int32)), (.ref ba), (.double u5), (.double u4), (.double u3), (.double u2), (.double u1), (.double u0), (.ref a), (.ref a)])) (fun _ k => XS.bipush X50.here hx rfl (hb hby at_148)  k) ?_
  refine Goes.by (T' := T50) (g' := (mkF m 151 #[.val (.int x0), .val (.int x1), .val (.int x2), .val (.int x3), .val (.int x4), .val (.int x5), .val (.long (((x0).toInt64) + ((x1).toInt64))), .second, .val (.long (((x2).toInt64) - ((x4).toInt64))), .second, .val (.long (((x3).toInt64) ^^^ ((x5).toInt64))), .second, .val (.ref ba), .unset, .unset, .unset, .unset] [(.double u6), (.double u5), (.double u4), (.double u3), (.double u2), (.double u1), (.double u0), (.ref a), (.ref a)])) (ldDS X50 hx hZ e50 V_ba (v := (.double u6)) (j := (6 : Int32)) 6 (by decide) rfl (g := (mkF m 150 #[.val (.int x0), .val (.int x1), .val (.int x2), .val (.int x3), .val (.int x4), .val (.int x5), .val (.long (((x0).toInt64) + ((x1).toInt64))), .second, .val (.long (((x2).toInt64) - ((x4).toInt64))), .second, .val (.long (((x3).toInt64) ^^^ ((x5).toInt64))), .second, .val (.ref ba), .unset, .unset, .unset, .unset] [(.int (6 : Int32)), (.ref ba), (.double u5), (.double u4), (.double u3), (.double u2), (.double u1), (.double u0), (.ref a), (.ref a)])) rfl rfl (hb hby at_150)) ?_
  refine Goes.by (T' := T50) (g' := (mkF m 153 #[.val (.int x0), .val (.int x1), .val (.int x2), .val (.int x3), .val (.int x4), .val (.int x5), .val (.long (((x0).toInt64) + ((x1).toInt64))), .second, .val (.long (((x2).toInt64) - ((x4).toInt64))), .second, .val (.long (((x3).toInt64) ^^^ ((x5).toInt64))), .second, .val (.ref ba), .unset, .unset, .unset, .unset] [(.ref ba), (.double u6), (.double u5), (.double u4), (.double u3), (.double u2), (.double u1), (.double u0), (.ref a), (.ref a)])) (fun _ k => XS.aload X50.here hx rfl (hb hby at_151) rfl rfl k) ?_
  refine Goes.by (T' := T50) (g' := (mkF m 155 #[.val (.int x0), .val (.int x1), .val (.int x2), .val (.int x3), .val (.int x4), .val (.int x5), .val (.long (((x0).toInt64) + ((x1).toInt64))), .second, .val (.long (((x2).toInt64) - ((x4).toInt64))), .second, .val (.long (((x3).toInt64) ^^^ ((x5).toInt64))), .second, .val (.ref ba), .unset, .unset, .unset, .unset] [(.int (7 : Int32)), (.ref ba), (.double u6), (.double u5), (.double u4), (.double u3), (.double u2), (.double u1), (.double u0), (.ref a), (.ref a)])) (fun _ k => XS.bipush X50.here hx rfl (hb hby at_153)  k) ?_
  refine Goes.by (T' := T50) (g' := (mkF m 156 #[.val (.int x0), .val (.int x1), .val (.int x2), .val (.int x3), .val (.int x4), .val (.int x5), .val (.long (((x0).toInt64) + ((x1).toInt64))), .second, .val (.long (((x2).toInt64) - ((x4).toInt64))), .second, .val (.long (((x3).toInt64) ^^^ ((x5).toInt64))), .second, .val (.ref ba), .unset, .unset, .unset, .unset] [(.double u7), (.double u6), (.double u5), (.double u4), (.double u3), (.double u2), (.double u1), (.double u0), (.ref a), (.ref a)])) (ldDS X50 hx hZ e50 V_ba (v := (.double u7)) (j := (7 : Int32)) 7 (by decide) rfl (g := (mkF m 155 #[.val (.int x0), .val (.int x1), .val (.int x2), .val (.int x3), .val (.int x4), .val (.int x5), .val (.long (((x0).toInt64) + ((x1).toInt64))), .second, .val (.long (((x2).toInt64) - ((x4).toInt64))), .second, .val (.long (((x3).toInt64) ^^^ ((x5).toInt64))), .second, .val (.ref ba), .unset, .unset, .unset, .unset] [(.int (7 : Int32)), (.ref ba), (.double u6), (.double u5), (.double u4), (.double u3), (.double u2), (.double u1), (.double u0), (.ref a), (.ref a)])) rfl rfl (hb hby at_155)) ?_
  refine Goes.by (T' := T50) (g' := (mkF m 158 #[.val (.int x0), .val (.int x1), .val (.int x2), .val (.int x3), .val (.int x4), .val (.int x5), .val (.long (((x0).toInt64) + ((x1).toInt64))), .second, .val (.long (((x2).toInt64) - ((x4).toInt64))), .second, .val (.long (((x3).toInt64) ^^^ ((x5).toInt64))), .second, .val (.ref ba), .unset, .unset, .unset, .unset] [(.ref ba), (.double u7), (.double u6), (.double u5), (.double u4), (.double u3), (.double u2), (.double u1), (.double u0), (.ref a), (.ref a)])) (fun _ k => XS.aload X50.here hx rfl (hb hby at_156) rfl rfl k) ?_
  refine Goes.by (T' := T50) (g' := (mkF m 160 #[.val (.int x0), .val (.int x1), .val (.int x2), .val (.int x3), .val (.int x4), .val (.int x5), .val (.long (((x0).toInt64) + ((x1).toInt64))), .second, .val (.long (((x2).toInt64) - ((x4).toInt64))), .second, .val (.long (((x3).toInt64) ^^^ ((x5).toInt64))), .second, .val (.ref ba), .unset, .unset, .unset, .unset] [(.int (8 : Int32)), (.ref ba), (.double u7), (.double u6), (.double u5), (.double u4), (.double u3), (.double u2), (.double u1), (.double u0), (.ref a), (.ref a)])) (fun _ k => XS.bipush X50.here hx rfl (hb hby at_158)  k) ?_
  refine Goes.by (T' := T50) (g' := (mkF m 161 #[.val (.int x0), .val (.int x1), .val (.int x2), .val (.int x3), .val (.int x4), .val (.int x5), .val (.long (((x0).toInt64) + ((x1).toInt64))), .second, .val (.long (((x2).toInt64) - ((x4).toInt64))), .second, .val (.long (((x3).toInt64) ^^^ ((x5).toInt64))), .second, .val (.ref ba), .unset, .unset, .unset, .unset] [(.double u8), (.double u7), (.double u6), (.double u5), (.double u4), (.double u3), (.double u2), (.double u1), (.double u0), (.ref a), (.ref a)])) (ldDS X50 hx hZ e50 V_ba (v := (.double u8)) (j := (8 : Int32)) 8 (by decide) rfl (g := (mkF m 160 #[.val (.int x0), .val (.int x1), .val (.int x2), .val (.int x3), .val (.int x4), .val (.int x5), .val (.long (((x0).toInt64) + ((x1).toInt64))), .second, .val (.long (((x2).toInt64) - ((x4).toInt64))), .second, .val (.long (((x3).toInt64) ^^^ ((x5).toInt64))), .second, .val (.ref ba), .unset, .unset, .unset, .unset] [(.int (8 : Int32)), (.ref ba), (.double u7), (.double u6), (.double u5), (.double u4), (.double u3), (.double u2), (.double u1), (.double u0), (.ref a), (.ref a)])) rfl rfl (hb hby at_160)) ?_
  obtain ⟨v51, T51, L51, X51, hQ51, st51⟩ := callI X50 hx hZ (y := (⟨"com/example/attitude_bridge/attitudebridge/RotationMatrix", "<init>", "(DDDDDDDDD)V"⟩ : MethodName)) rfl hown (hw _ (List.mem_of_getElem? (i := 9) rfl)) (hw _ (List.mem_of_getElem? (i := 10) rfl)) (hw _ (List.mem_of_getElem? (i := 11) rfl)) (hw _ (List.mem_of_getElem? (i := 8) rfl)) (by decide) e50 (a := a) (argsL := [(.double u0), (.double u1), (.double u2), (.double u3), (.double u4), (.double u5), (.double u6), (.double u7), (.double u8)]) (rest := [(.ref a)]) (W := 1) (rm_init l Z a0 hw a u0 u1 u2 u3 u4 u5 u6 u7 u8 h50 n0 Z0 E_a F_r11_a F_r12_a F_r13_a F_r21_a F_r22_a F_r23_a F_r31_a F_r32_a F_r33_a ge_a) rfl (by decide) (by decide) (by decide) (by decide) (g := (mkF m 161 #[.val (.int x0), .val (.int x1), .val (.int x2), .val (.int x3), .val (.int x4), .val (.int x5), .val (.long (((x0).toInt64) + ((x1).toInt64))), .second, .val (.long (((x2).toInt64) - ((x4).toInt64))), .second, .val (.long (((x3).toInt64) ^^^ ((x5).toInt64))), .second, .val (.ref ba), .unset, .unset, .unset, .unset] [(.double u8), (.double u7), (.double u6), (.double u5), (.double u4), (.double u3), (.double u2), (.double u1), (.double u0), (.ref a), (.ref a)])) rfl (by rw [hml]; rfl) (lenOf pd2 rfl) rfl (by show 2 * 0 + _ ≤ _; exact Nat.le_of_eq rfl) (hb hby at_161)
  obtain ⟨rfl, F_r11_a, F_r12_a, F_r13_a, F_r21_a, F_r22_a, F_r23_a, F_r31_a, F_r32_a, F_r33_a, K51, NL51⟩ := hQ51
  have N0 := Fr.app N0 NL51
  have e51 : T51.heap = T51.heap := rfl
  have V_ba := V_ba.keep K51 (ninS ne_ba_a nin0)
  have E_a := E_a.keep K51
  have Z0 := Nat.le_trans Z0 K51.1
  refine Goes.by (T' := T51) (g' := (mkF m 164 #[.val (.int x0), .val (.int x1), .val (.int x2), .val (.int x3), .val (.int x4), .val (.int x5), .val (.long (((x0).toInt64) + ((x1).toInt64))), .second, .val (.long (((x2).toInt64) - ((x4).toInt64))), .second, .val (.long (((x3).toInt64) ^^^ ((x5).toInt64))), .second, .val (.ref ba), .unset, .unset, .unset, .unset] [(.ref a)])) st51 ?_
  refine Goes.by (T' := T51) (g' := (mkF m 166 #[.val (.int x0), .val (.int x1), .val (.int x2), .val (.int x3), .val (.int x4), .val (.int x5), .val (.long (((x0).toInt64) + ((x1).toInt64))), .second, .val (.long (((x2).toInt64) - ((x4).toInt64))), .second, .val (.long (((x3).toInt64) ^^^ ((x5).toInt64))), .second, .val (.ref ba), .val (.ref a), .unset, .unset, .unset] [])) (fun _ k => XS.astore X51.here hx rfl (hb hby at_164) rfl rfl (l' := #[.val (.int x0), .val (.int x1), .val (.int x2), .val (.int x3), .val (.int x4), .val (.int x5), .val (.long (((x0).toInt64) + ((x1).toInt64))), .second, .val (.long (((x2).toInt64) - ((x4).toInt64))), .second, .val (.long (((x3).toInt64) ^^^ ((x5).toInt64))), .second, .val (.ref ba), .val (.ref a), .unset, .unset, .unset]) rfl k) ?_
  refine Goes.by (T' := T51) (g' := (mkF m 168 #[.val (.int x0), .val (.int x1), .val (.int x2), .val (.int x3), .val (.int x4), .val (.int x5), .val (.long (((x0).toInt64) + ((x1).toInt64))), .second, .val (.long (((x2).toInt64) - ((x4).toInt64))), .second, .val (.long (((x3).toInt64) ^^^ ((x5).toInt64))), .second, .val (.ref ba), .val (.ref a), .unset, .unset, .unset] [(.ref a)])) (fun _ k => XS.aload X51.here hx rfl (hb hby at_166) rfl rfl k) ?_
  obtain ⟨v52, T52, L52, X52, hQ52, st52⟩ := callV X51 hx hZ (y := (⟨"com/example/attitude_bridge/attitudebridge/RotationMatrix", "entries", "()[D"⟩ : MethodName)) hown (hw _ (List.mem_of_getElem? (i := 38) rfl)) (hw _ (List.mem_of_getElem? (i := 39) rfl)) (hw _ (List.mem_of_getElem? (i := 41) rfl)) (hw _ (List.mem_of_getElem? (i := 40) rfl)) (hw _ (List.mem_of_getElem? (i := 42) rfl)) (hw _ (List.mem_of_getElem? (i := 8) rfl)) (by decide) e51 E_a (argsL := []) (rest := []) (W := 0) (rm_ent l Z a0 hw a u0 u1 u2 u3 u4 u5 u6 u7 u8 T51.heap n0 Z0 F_r11_a F_r12_a F_r13_a F_r21_a F_r22_a F_r23_a F_r31_a F_r32_a F_r33_a) rfl (by decide) (by decide) (by decide) (by decide) (g := (mkF m 168 #[.val (.int x0), .val (.int x1), .val (.int x2), .val (.int x3), .val (.int x4), .val (.int x5), .val (.long (((x0).toInt64) + ((x1).toInt64))), .second, .val (.long (((x2).toInt64) - ((x4).toInt64))), .second, .val (.long (((x3).toInt64) ^^^ ((x5).toInt64))), .second, .val (.ref ba), .val (.ref a), .unset, .unset, .unset] [(.ref a)])) rfl (by rw [hml]; rfl) (lenOf pd3 rfl) rfl (by show 2 * 0 + _ ≤ _; exact Nat.le_of_eq rfl) (hb hby at_168)
  obtain ⟨br, rfl, szbr, V_br, K52, NL52⟩ := hQ52
  have N0 := Fr.app N0 NL52
  have ne_ba_br : ba ≠ br := fun q => Nat.lt_irrefl _ (Nat.lt_of_lt_of_le V_ba.lt (Nat.le_trans szbr (Nat.le_of_eq q.symm)))
  have ne_a_br : a ≠ br := fun q => Nat.lt_irrefl _ (Nat.lt_of_lt_of_le E_a.lt (Nat.le_trans szbr (Nat.le_of_eq q.symm)))
  have ge_br : n0 ≤ br := Nat.le_trans Z0 szbr
  have e52 : T52.heap = T52.heap := rfl
  have V_ba := V_ba.keep K52 nin0
  have E_a := E_a.keep K52
  have F_r11_a := F_r11_a.keep K52 nin0
  have F_r12_a := F_r12_a.keep K52 nin0
  have F_r13_a := F_r13_a.keep K52 nin0
  have F_r21_a := F_r21_a.keep K52 nin0
  have F_r22_a := F_r22_a.keep K52 nin0
  have F_r23_a := F_r23_a.keep K52 nin0
  have F_r31_a := F_r31_a.keep K52 nin0
  have F_r32_a := F_r32_a.keep K52 nin0
  have F_r33_a := F_r33_a.keep K52 nin0
  have Z0 := Nat.le_trans Z0 K52.1
  refine Goes.by (T' := T52) (g' := (mkF m 171 #[.val (.int x0), .val (.int x1), .val (.int x2), .val (.int x3), .val (.int x4), .val (.int x5), .val (.long (((x0).toInt64) + ((x1).toInt64))), .second, .val (.long (((x2).toInt64) - ((x4).toInt64))), .second, .val (.long (((x3).toInt64) ^^^ ((x5).toInt64))), .second, .val (.ref ba), .val (.ref a), .unset, .unset, .unset] [(.ref br)])) st52 ?_
  refine Goes.by (T' := T52) (g' := (mkF m 173 #[.val (.int x0), .val (.int x1), .val (.int x2), .val (.int x3), .val (.int x4), .val (.int x5), .val (.long (((x0).toInt64) + ((x1).toInt64))), .second, .val (.long (((x2).toInt64) - ((x4).toInt64))), .second, .val (.long (((x3).toInt64) ^^^ ((x5).toInt64))), .second, .val (.ref ba), .val (.ref a), .val (.ref br), .unset, .unset] [])) (fun _ k => XS.astore X52.here hx rfl (hb hby at_171) rfl rfl (l' := #[.val (.int x0), .val (.int x1), .val (.int x2), .val (.int x3), .val (.int x4), .val (.int x5), .val (.long (((x0).toInt64) + ((x1).toInt64))), .second, .val (.long (((x2).toInt64) - ((x4).toInt64))), .second, .val (.long (((x3).toInt64) ^^^ ((x5).toInt64))), .second, .val (.ref ba), .val (.ref a), .val (.ref br), .unset, .unset]) rfl k) ?_
  refine Goes.by (T' := T52) (g' := (mkF m 175 #[.val (.int x0), .val (.int x1), .val (.int x2), .val (.int x3), .val (.int x4), .val (.int x5), .val (.long (((x0).toInt64) + ((x1).toInt64))), .second, .val (.long (((x2).toInt64) - ((x4).toInt64))), .second, .val (.long (((x3).toInt64) ^^^ ((x5).toInt64))), .second, .val (.ref ba), .val (.ref a), .val (.ref br), .unset, .unset] [(.ref br)])) (fun _ k => XS.aload X52.here hx rfl (hb hby at_173) rfl rfl k) ?_
  refine Goes.by (T' := T52) (g' := (mkF m 176 #[.val (.int x0), .val (.int x1), .val (.int x2), .val (.int x3), .val (.int x4), .val (.int x5), .val (.long (((x0).toInt64) + ((x1).toInt64))), .second, .val (.long (((x2).toInt64) - ((x4).toInt64))), .second, .val (.long (((x3).toInt64) ^^^ ((x5).toInt64))), .second, .val (.ref ba), .val (.ref a), .val (.ref br), .unset, .unset] [(.int (9 : Int32))])) (lenS X52 hx hZ e52 V_br (n := (9 : Int32)) rfl (g := (mkF m 175 #[.val (.int x0), .val (.int x1), .val (.int x2), .val (.int x3), .val (.int x4), .val (.int x5), .val (.long (((x0).toInt64) + ((x1).toInt64))), .second, .val (.long (((x2).toInt64) - ((x4).toInt64))), .second, .val (.long (((x3).toInt64) ^^^ ((x5).toInt64))), .second, .val (.ref ba), .val (.ref a), .val (.ref br), .unset, .unset] [(.ref br)])) rfl rfl (hb hby at_175)) ?_
  refine Goes.by (T' := T52) (g' := (mkF m 178 #[.val (.int x0), .val (.int x1), .val (.int x2), .val (.int x3), .val (.int x4), .val (.int x5), .val (.long (((x0).toInt64) + ((x1).toInt64))), .second, .val (.long (((x2).toInt64) - ((x4).toInt64))), .second, .val (.long (((x3).toInt64) ^^^ ((x5).toInt64))), .second, .val (.ref ba), .val (.ref a), .val (.ref br), .unset, .unset] [(.int (9 : Int32)), (.int (9 : Int32))])) (fun _ k => XS.bipush X52.here hx rfl (hb hby at_176)  k) ?_
  refine Goes.by (T' := T52) (g' := (mkF m 183 #[.val (.int x0), .val (.int x1), .val (.int x2), .val (.int x3), .val (.int x4), .val (.int x5), .val (.long (((x0).toInt64) + ((x1).toInt64))), .second, .val (.long (((x2).toInt64) - ((x4).toInt64))), .second, .val (.long (((x3).toInt64) ^^^ ((x5).toInt64))), .second, .val (.ref ba), .val (.ref a), .val (.ref br), .unset, .unset] [])) (fun _ k => XS.icmpYes X52.here hx rfl (pc0 := 178) (pc' := 183) rfl (hb hby at_178) rfl (by decide) (by decide) (by decide) k) ?_
  refine Goes.by (T' := T52) (g' := (mkF m 185 #[.val (.int x0), .val (.int x1), .val (.int x2), .val (.int x3), .val (.int x4), .val (.int x5), .val (.long (((x0).toInt64) + ((x1).toInt64))), .second, .val (.long (((x2).toInt64) - ((x4).toInt64))), .second, .val (.long (((x3).toInt64) ^^^ ((x5).toInt64))), .second, .val (.ref ba), .val (.ref a), .val (.ref br), .unset, .unset] [(.ref br)])) (fun _ k => XS.aload X52.here hx rfl (hb hby at_183) rfl rfl k) ?_
  refine Goes.by (T' := T52) (g' := (mkF m 186 #[.val (.int x0), .val (.int x1), .val (.int x2), .val (.int x3), .val (.int x4), .val (.int x5), .val (.long (((x0).toInt64) + ((x1).toInt64))), .second, .val (.long (((x2).toInt64) - ((x4).toInt64))), .second, .val (.long (((x3).toInt64) ^^^ ((x5).toInt64))), .second, .val (.ref ba), .val (.ref a), .val (.ref br), .unset, .unset] [(.int (0 : Int32)), (.ref br)])) (fun _ k => XS.iconst X52.here hx rfl (hb hby at_185)  k) ?_
  refine Goes.by (T' := T52) (g' := (mkF m 187 #[.val (.int x0), .val (.int x1), .val (.int x2), .val (.int x3), .val (.int x4), .val (.int x5), .val (.long (((x0).toInt64) + ((x1).toInt64))), .second, .val (.long (((x2).toInt64) - ((x4).toInt64))), .second, .val (.long (((x3).toInt64) ^^^ ((x5).toInt64))), .second, .val (.ref ba), .val (.ref a), .val (.ref br), .unset, .unset] [(.double u0)])) (ldDS X52 hx hZ e52 V_br (v := (.double u0)) (j := (0 : Int32)) 0 (by decide) rfl (g := (mkF m 186 #[.val (.int x0), .val (.int x1), .val (.int x2), .val (.int x3), .val (.int x4), .val (.int x5), .val (.long (((x0).toInt64) + ((x1).toInt64))), .second, .val (.long (((x2).toInt64) - ((x4).toInt64))), .second, .val (.long (((x3).toInt64) ^^^ ((x5).toInt64))), .second, .val (.ref ba), .val (.ref a), .val (.ref br), .unset, .unset] [(.int (0 : Int32)), (.ref br)])) rfl rfl (hb hby at_186)) ?_
  refine Goes.by (T' := T52) (g' := (mkF m 189 #[.val (.int x0), .val (.int x1), .val (.int x2), .val (.int x3), .val (.int x4), .val (.int x5), .val (.long (((x0).toInt64) + ((x1).toInt64))), .second, .val (.long (((x2).toInt64) - ((x4).toInt64))), .second, .val (.long (((x3).toInt64) ^^^ ((x5).toInt64))), .second, .val (.ref ba), .val (.ref a), .val (.ref br), .unset, .unset] [(.ref ba), (.double u0)])) (fun _ k => XS.aload X52.here hx rfl (hb hby at_187) rfl rfl k) ?_
  refine Goes.by (T' := T52) (g' := (mkF m 190 #[.val (.int x0), .val (.int x1), .val (.int x2), .val (.int x3), .val (.int x4), .val (.int x5), .val (.long (((x0).toInt64) + ((x1).toInt64))), .second, .val (.long (((x2).toInt64) - ((x4).toInt64))), .second, .val (.long (((x3).toInt64) ^^^ ((x5).toInt64))), .second, .val (.ref ba), .val (.ref a), .val (.ref br), .unset, .unset] [(.int (0 : Int32)), (.ref ba), (.double u0)])) (fun _ k => XS.iconst X52.here hx rfl (hb hby at_189)  k) ?_
  refine Goes.by (T' := T52) (g' := (mkF m 191 #[.val (.int x0), .val (.int x1), .val (.int x2), .val (.int x3), .val (.int x4), .val (.int x5), .val (.long (((x0).toInt64) + ((x1).toInt64))), .second, .val (.long (((x2).toInt64) - ((x4).toInt64))), .second, .val (.long (((x3).toInt64) ^^^ ((x5).toInt64))), .second, .val (.ref ba), .val (.ref a), .val (.ref br), .unset, .unset] [(.double u0), (.double u0)])) (ldDS X52 hx hZ e52 V_ba (v := (.double u0)) (j := (0 : Int32)) 0 (by decide) rfl (g := (mkF m 190 #[.val (.int x0), .val (.int x1), .val (.int x2), .val (.int x3), .val (.int x4), .val (.int x5), .val (.long (((x0).toInt64) + ((x1).toInt64))), .second, .val (.long (((x2).toInt64) - ((x4).toInt64))), .second, .val (.long (((x3).toInt64) ^^^ ((x5).toInt64))), .second, .val (.ref ba), .val (.ref a), .val (.ref br), .unset, .unset] [(.int (0 : Int32)), (.ref ba), (.double u0)])) rfl rfl (hb hby at_190)) ?_
  refine Goes.by (T' := T52) (g' := (mkF m 192 #[.val (.int x0), .val (.int x1), .val (.int x2), .val (.int x3), .val (.int x4), .val (.int x5), .val (.long (((x0).toInt64) + ((x1).toInt64))), .second, .val (.long (((x2).toInt64) - ((x4).toInt64))), .second, .val (.long (((x3).toInt64) ^^^ ((x5).toInt64))), .second, .val (.ref ba), .val (.ref a), .val (.ref br), .unset, .unset] [(.int (0 : Int32))])) (fun _ k => XS.dcmpS X52.here hx rfl (hb hby at_191) rfl (dcmpV_self FD0.noNaN _) k) ?_
  refine Goes.by (T' := T52) (g' := (mkF m 195 #[.val (.int x0), .val (.int x1), .val (.int x2), .val (.int x3), .val (.int x4), .val (.int x5), .val (.long (((x0).toInt64) + ((x1).toInt64))), .second, .val (.long (((x2).toInt64) - ((x4).toInt64))), .second, .val (.long (((x3).toInt64) ^^^ ((x5).toInt64))), .second, .val (.ref ba), .val (.ref a), .val (.ref br), .unset, .unset] [])) (fun _ k => XS.ifNo X52.here hx rfl (hb hby at_192) rfl (by decide) k) ?_
  refine Goes.by (T' := T52) (g' := (mkF m 197 #[.val (.int x0), .val (.int x1), .val (.int x2), .val (.int x3), .val (.int x4), .val (.int x5), .val (.long (((x0).toInt64) + ((x1).toInt64))), .second, .val (.long (((x2).toInt64) - ((x4).toInt64))), .second, .val (.long (((x3).toInt64) ^^^ ((x5).toInt64))), .second, .val (.ref ba), .val (.ref a), .val (.ref br), .unset, .unset] [(.ref br)])) (fun _ k => XS.aload X52.here hx rfl (hb hby at_195) rfl rfl k) ?_
  refine Goes.by (T' := T52) (g' := (mkF m 198 #[.val (.int x0), .val (.int x1), .val (.int x2), .val (.int x3), .val (.int x4), .val (.int x5), .val (.long (((x0).toInt64) + ((x1).toInt64))), .second, .val (.long (((x2).toInt64) - ((x4).toInt64))), .second, .val (.long (((x3).toInt64) ^^^ ((x5).toInt64))), .second, .val (.ref ba), .val (.ref a), .val (.ref br), .unset, .unset] [(.int (1 : Int32)), (.ref br)])) (fun _ k => XS.iconst X52.here hx rfl (hb hby at_197)  k) ?_
  refine Goes.by (T' := T52) (g' := (mkF m 199 #[.val (.int x0), .val (.int x1), .val (.int x2), .val (.int x3), .val (.int x4), .val (.int x5), .val (.long (((x0).toInt64) + ((x1).toInt64))), .second, .val (.long (((x2).toInt64) - ((x4).toInt64))), .second, .val (.long (((x3).toInt64) ^^^ ((x5).toInt64))), .second, .val (.ref ba), .val (.ref a), .val (.ref br), .unset, .unset] [(.double u1)])) (ldDS X52 hx hZ e52 V_br (v := (.double u1)) (j := (1 : Int32)) 1 (by decide) rfl (g := (mkF m 198 #[.val (.int x0), .val (.int x1), .val (.int x2), .val (.int x3), .val (.int x4), .val (.int x5), .val (.long (((x0).toInt64) + ((x1).toInt64))), .second, .val (.long (((x2).toInt64) - ((x4).toInt64))), .second, .val (.long (((x3).toInt64) ^^^ ((x5).toInt64))), .second, .val (.ref ba), .val (.ref a), .val (.ref br), .unset, .unset] [(.int (1 : Int32)), (.ref br)])) rfl rfl (hb hby at_198)) ?_
  refine Goes.by (T' := T52) (g' := (mkF m 201 #[.val (.int x0), .val (.int x1), .val (.int x2), .val (.int x3), .val (.int x4), .val (.int x5), .val (.long (((x0).toInt64) + ((x1).toInt64))), .second, .val (.long (((x2).toInt64) - ((x4).toInt64))), .second, .val (.long (((x3).toInt64) ^^^ ((x5).toInt64))), .second, .val (.ref ba), .val (.ref a), .val (.ref br), .unset, .unset] [(.ref ba), (.double u1)])) (fun _ k => XS.aload X52.here hx rfl (hb hby at_199) rfl rfl k) ?_
  refine Goes.by (T' := T52) (g' := (mkF m 202 #[.val (.int x0), .val (.int x1), .val (.int x2), .val (.int x3), .val (.int x4), .val (.int x5), .val (.long (((x0).toInt64) + ((x1).toInt64))), .second, .val (.long (((x2).toInt64) - ((x4).toInt64))), .second, .val (.long (((x3).toInt64) ^^^ ((x5).toInt64))), .second, .val (.ref ba), .val (.ref a), .val (.ref br), .unset, .unset] [(.int (1 : Int32)), (.ref ba), (.double u1)])) (fun _ k => XS.iconst X52.here hx rfl (hb hby at_201)  k) ?_
  refine Goes.by (T' := T52) (g' := (mkF m 203 #[.val (.int x0), .val (.int x1), .val (.int x2), .val (.int x3), .val (.int x4), .val (.int x5), .val (.long (((x0).toInt64) + ((x1).toInt64))), .second, .val (.long (((x2).toInt64) - ((x4).toInt64))), .second, .val (.long (((x3).toInt64) ^^^ ((x5).toInt64))), .second, .val (.ref ba), .val (.ref a), .val (.ref br), .unset, .unset] [(.double u1), (.double u1)])) (ldDS X52 hx hZ e52 V_ba (v := (.double u1)) (j := (1 : Int32)) 1 (by decide) rfl (g := (mkF m 202 #[.val (.int x0), .val (.int x1), .val (.int x2), .val (.int x3), .val (.int x4), .val (.int x5), .val (.long (((x0).toInt64) + ((x1).toInt64))), .second, .val (.long (((x2).toInt64) - ((x4).toInt64))), .second, .val (.long (((x3).toInt64) ^^^ ((x5).toInt64))), .second, .val (.ref ba), .val (.ref a), .val (.ref br), .unset, .unset] [(.int (1 : Int32)), (.ref ba), (.double u1)])) rfl rfl (hb hby at_202)) ?_
  refine Goes.by (T' := T52) (g' := (mkF m 204 #[.val (.int x0), .val (.int x1), .val (.int x2), .val (.int x3), .val (.int x4), .val (.int x5), .val (.long (((x0).toInt64) + ((x1).toInt64))), .second, .val (.long (((x2).toInt64) - ((x4).toInt64))), .second, .val (.long (((x3).toInt64) ^^^ ((x5).toInt64))), .second, .val (.ref ba), .val (.ref a), .val (.ref br), .unset, .unset] [(.int (0 : Int32))])) (fun _ k => XS.dcmpS X52.here hx rfl (hb hby at_203) rfl (dcmpV_self FD1.noNaN _) k) ?_
  refine Goes.by (T' := T52) (g' := (mkF m 207 #[.val (.int x0), .val (.int x1), .val (.int x2), .val (.int x3), .val (.int x4), .val (.int x5), .val (.long (((x0).toInt64) + ((x1).toInt64))), .second, .val (.long (((x2).toInt64) - ((x4).toInt64))), .second, .val (.long (((x3).toInt64) ^^^ ((x5).toInt64))), .second, .val (.ref ba), .val (.ref a), .val (.ref br), .unset, .unset] [])) (fun _ k => XS.ifNo X52.here hx rfl (hb hby at_204) rfl (by decide) k) ?_
  refine Goes.by (T' := T52) (g' := (mkF m 209 #[.val (.int x0), .val (.int x1), .val (.int x2), .val (.int x3), .val (.int x4), .val (.int x5), .val (.long (((x0).toInt64) + ((x1).toInt64))), .second, .val (.long (((x2).toInt64) - ((x4).toInt64))), .second, .val (.long (((x3).toInt64) ^^^ ((x5).toInt64))), .second, .val (.ref ba), .val (.ref a), .val (.ref br), .unset, .unset] [(.ref br)])) (fun _ k => XS.aload X52.here hx rfl (hb hby at_207) rfl rfl k) ?_
  refine Goes.by (T' := T52) (g' := (mkF m 210 #[.val (.int x0), .val (.int x1), .val (.int x2), .val (.int x3), .val (.int x4), .val (.int x5), .val (.long (((x0).toInt64) + ((x1).toInt64))), .second, .val (.long (((x2).toInt64) - ((x4).toInt64))), .second, .val (.long (((x3).toInt64) ^^^ ((x5).toInt64))), .second, .val (.ref ba), .val (.ref a), .val (.ref br), .unset, .unset] [(.int (2 : Int32)), (.ref br)])) (fun _ k => XS.iconst X52.here hx rfl (hb hby at_209)  k) ?_
  refine Goes.by (T' := T52) (g' := (mkF m 211 #[.val (.int x0), .val (.int x1), .val (.int x2), .val (.int x3), .val (.int x4), .val (.int x5), .val (.long (((x0).toInt64) + ((x1).toInt64))), .second, .val (.long (((x2).toInt64) - ((x4).toInt64))), .second, .val (.long (((x3).toInt64) ^^^ ((x5).toInt64))), .second, .val (.ref ba), .val (.ref a), .val (.ref br), .unset, .unset] [(.double u2)])) (ldDS X52 hx hZ e52 V_br (v := (.double u2)) (j := (2 : Int32)) 2 (by decide) rfl (g := (mkF m 210 #[.val (.int x0), .val (.int x1), .val (.int x2), .val (.int x3), .val (.int x4), .val (.int x5), .val (.long (((x0).toInt64) + ((x1).toInt64))), .second, .val (.long (((x2).toInt64) - ((x4).toInt64))), .second, .val (.long (((x3).toInt64) ^^^ ((x5).toInt64))), .second, .val (.ref ba), .val (.ref a), .val (.ref br), .unset, .unset] [(.int (2 : Int32)), (.ref br)])) rfl rfl (hb hby at_210)) ?_
  refine Goes.by (T' := T52) (g' := (mkF m 213 #[.val (.int x0), .val (.int x1), .val (.int x2), .val (.int x3), .val (.int x4), .val (.int x5), .val (.long (((x0).toInt64) + ((x1).toInt64))), .second, .val (.long (((x2).toInt64) - ((x4).toInt64))), .second, .val (.long (((x3).toInt64) ^^^ ((x5).toInt64))), .second, .val (.ref ba), .val (.ref a), .val (.ref br), .unset, .unset] [(.ref ba), (.double u2)])) (fun _ k => XS.aload X52.here hx rfl (hb hby at_211) rfl rfl k) ?_
  refine Goes.by (T' := T52) (g' := (mkF m 214 #[.val (.int x0), .val (.int x1), .val (.int x2), .val (.int x3), .val (.int x4), .val (.int x5), .val (.long (((x0).toInt64) + ((x1).toInt64))), .second, .val (.long (((x2).toInt64) - ((x4).toInt64))), .second, .val (.long (((x3).toInt64) ^^^ ((x5).toInt64))), .second, .val (.ref ba), .val (.ref a), .val (.ref br), .unset, .unset] [(.int (2 : Int32)), (.ref ba), (.double u2)])) (fun _ k => XS.iconst X52.here hx rfl (hb hby at_213)  k) ?_
  refine Goes.by (T' := T52) (g' := (mkF m 215 #[.val (.int x0), .val (.int x1), .val (.int x2), .val (.int x3), .val (.int x4), .val (.int x5), .val (.long (((x0).toInt64) + ((x1).toInt64))), .second, .val (.long (((x2).toInt64) - ((x4).toInt64))), .second, .val (.long (((x3).toInt64) ^^^ ((x5).toInt64))), .second, .val (.ref ba), .val (.ref a), .val (.ref br), .unset, .unset] [(.double u2), (.double u2)])) (ldDS X52 hx hZ e52 V_ba (v := (.double u2)) (j := (2 : Int32)) 2 (by decide) rfl (g := (mkF m 214 #[.val (.int x0), .val (.int x1), .val (.int x2), .val (.int x3), .val (.int x4), .val (.int x5), .val (.long (((x0).toInt64) + ((x1).toInt64))), .second, .val (.long (((x2).toInt64) - ((x4).toInt64))), .second, .val (.long (((x3).toInt64) ^^^ ((x5).toInt64))), .second, .val (.ref ba), .val (.ref a), .val (.ref br), .unset, .unset] [(.int (2 : Int32)), (.ref ba), (.double u2)])) rfl rfl (hb hby at_214)) ?_
  refine Goes.by (T' := T52) (g' := (mkF m 216 #[.val (.int x0), .val (.int x1), .val (.int x2), .val (.int x3), .val (.int x4), .val (.int x5), .val (.long (((x0).toInt64) + ((x1).toInt64))), .second, .val (.long (((x2).toInt64) - ((x4).toInt64))), .second, .val (.long (((x3).toInt64) ^^^ ((x5).toInt64))), .second, .val (.ref ba), .val (.ref a), .val (.ref br), .unset, .unset] [(.int (0 : Int32))])) (fun _ k => XS.dcmpS X52.here hx rfl (hb hby at_215) rfl (dcmpV_self FD2.noNaN _) k) ?_
  refine Goes.by (T' := T52) (g' := (mkF m 219 #[.val (.int x0), .val (.int x1), .val (.int x2), .val (.int x3), .val (.int x4), .val (.int x5), .val (.long (((x0).toInt64) + ((x1).toInt64))), .second, .val (.long (((x2).toInt64) - ((x4).toInt64))), .second, .val (.long (((x3).toInt64) ^^^ ((x5).toInt64))), .second, .val (.ref ba), .val (.ref a), .val (.ref br), .unset, .unset] [])) (fun _ k => XS.ifNo X52.here hx rfl (hb hby at_216) rfl (by decide) k) ?_
  refine Goes.by (T' := T52) (g' := (mkF m 221 #[.val (.int x0), .val (.int x1), .val (.int x2), .val (.int x3), .val (.int x4), .val (.int x5), .val (.long (((x0).toInt64) + ((x1).toInt64))), .second, .val (.long (((x2).toInt64) - ((x4).toInt64))), .second, .val (.long (((x3).toInt64) ^^^ ((x5).toInt64))), .second, .val (.ref ba), .val (.ref a), .val (.ref br), .unset, .unset] [(.ref br)])) (fun _ k => XS.aload X52.here hx rfl (hb hby at_219) rfl rfl k) ?_
  refine Goes.by (T' := T52) (g' := (mkF m 222 #[.val (.int x0), .val (.int x1), .val (.int x2), .val (.int x3), .val (.int x4), .val (.int x5), .val (.long (((x0).toInt64) + ((x1).toInt64))), .second, .val (.long (((x2).toInt64) - ((x4).toInt64))), .second, .val (.long (((x3).toInt64) ^^^ ((x5).toInt64))), .second, .val (.ref ba), .val (.ref a), .val (.ref br), .unset, .unset] [(.int (3 : Int32)), (.ref br)])) (fun _ k => XS.iconst X52.here hx rfl (hb hby at_221)  k) ?_
  refine Goes.by (T' := T52) (g' := (mkF m 223 #[.val (.int x0), .val (.int x1), .val (.int x2), .val (.int x3), .val (.int x4), .val (.int x5), .val (.long (((x0).toInt64) + ((x1).toInt64))), .second, .val (.long (((x2).toInt64) - ((x4).toInt64))), .second, .val (.long (((x3).toInt64) ^^^ ((x5).toInt64))), .second, .val (.ref ba), .val (.ref a), .val (.ref br), .unset, .unset] [(.double u3)])) (ldDS X52 hx hZ e52 V_br (v := (.double u3)) (j := (3 : Int32)) 3 (by decide) rfl (g := (mkF m 222 #[.val (.int x0), .val (.int x1), .val (.int x2), .val (.int x3), .val (.int x4), .val (.int x5), .val (.long (((x0).toInt64) + ((x1).toInt64))), .second, .val (.long (((x2).toInt64) - ((x4).toInt64))), .second, .val (.long (((x3).toInt64) ^^^ ((x5).toInt64))), .second, .val (.ref ba), .val (.ref a), .val (.ref br), .unset, .unset] [(.int (3 : Int32)), (.ref br)])) rfl rfl (hb hby at_222)) ?_
  refine Goes.by (T' := T52) (g' := (mkF m 225 #[.val (.int x0), .val (.int x1), .val (.int x2), .val (.int x3), .val (.int x4), .val (.int x5), .val (.long (((x0).toInt64) + ((x1).toInt64))), .second, .val (.long (((x2).toInt64) - ((x4).toInt64))), .second, .val (.long (((x3).toInt64) ^^^ ((x5).toInt64))), .second, .val (.ref ba), .val (.ref a), .val (.ref br), .unset, .unset] [(.ref ba), (.double u3)])) (fun _ k => XS.aload X52.here hx rfl (hb hby at_223) rfl rfl k) ?_
  refine Goes.by (T' := T52) (g' := (mkF m 226 #[.val (.int x0), .val (.int x1), .val (.int x2), .val (.int x3), .val (.int x4), .val (.int x5), .val (.long (((x0).toInt64) + ((x1).toInt64))), .second, .val (.long (((x2).toInt64) - ((x4).toInt64))), .second, .val (.long (((x3).toInt64) ^^^ ((x5).toInt64))), .second, .val (.ref ba), .val (.ref a), .val (.ref br), .unset, .unset] [(.int (3 : Int32)), (.ref ba), (.double u3)])) (fun _ k => XS.iconst X52.here hx rfl (hb hby at_225)  k) ?_
  refine Goes.by (T' := T52) (g' := (mkF m 227 #[.val (.int x0), .val (.int x1), .val (.int x2), .val (.int x3), .val (.int x4), .val (.int x5), .val (.long (((x0).toInt64) + ((x1).toInt64))), .second, .val (.long (((x2).toInt64) - ((x4).toInt64))), .second, .val (.long (((x3).toInt64) ^^^ ((x5).toInt64))), .second, .val (.ref ba), .val (.ref a), .val (.ref br), .unset, .unset] [(.double u3), (.double u3)])) (ldDS X52 hx hZ e52 V_ba (v := (.double u3)) (j := (3 : Int32)) 3 (by decide) rfl (g := (mkF m 226 #[.val (.int x0), .val (.int x1), .val (.int x2), .val (.int x3), .val (.int x4), .val (.int x5), .val (.long (((x0).toInt64) + ((x1).toInt64))), .second, .val (.long (((x2).toInt64) - ((x4).toInt64))), .second, .val (.long (((x3).toInt64) ^^^ ((x5).toInt64))), .second, .val (.ref ba), .val (.ref a), .val (.ref br), .unset, .unset] [(.int (3 : Int32)), (.ref ba), (.double u3)])) rfl rfl (hb hby at_226)) ?_
  refine Goes.by (T' := T52) (g' := (mkF m 228 #[.val (.int x0), .val (.int x1), .val (.int x2), .val (.int x3), .val (.int x4), .val (.int x5), .val (.long (((x0).toInt64) + ((x1).toInt64))), .second, .val (.long (((x2).toInt64) - ((x4).toInt64))), .second, .val (.long (((x3).toInt64) ^^^ ((x5).toInt64))), .second, .val (.ref ba), .val (.ref a), .val (.ref br), .unset, .unset] [(.int (0 : Int32))])) (fun _ k => XS.dcmpS X52.here hx rfl (hb hby at_227) rfl (dcmpV_self FD3.noNaN _) k) ?_
  refine Goes.by (T' := T52) (g' := (mkF m 231 #[.val (.int x0), .val (.int x1), .val (.int x2), .val (.int x3), .val (.int x4), .val (.int x5), .val (.long (((x0).toInt64) + ((x1).toInt64))), .second, .val (.long (((x2).toInt64) - ((x4).toInt64))), .second, .val (.long (((x3).toInt64) ^^^ ((x5).toInt64))), .second, .val (.ref ba), .val (.ref a), .val (.ref br), .unset, .unset] [])) (fun _ k => XS.ifNo X52.here hx rfl (hb hby at_228) rfl (by decide) k) ?_
  refine Goes.by (T' := T52) (g' := (mkF m 233 #[.val (.int x0), .val (.int x1), .val (.int x2), .val (.int x3), .val (.int x4), .val (.int x5), .val (.long (((x0).toInt64) + ((x1).toInt64))), .second, .val (.long (((x2).toInt64) - ((x4).toInt64))), .second, .val (.long (((x3).toInt64) ^^^ ((x5).toInt64))), .second, .val (.ref ba), .val (.ref a), .val (.ref br), .unset, .unset] [(.ref br)])) (fun _ k => XS.aload X52.here hx rfl (hb hby at_231) rfl rfl k) ?_
  refine Goes.by (T' := T52) (g' := (mkF m 234 #[.val (.int x0), .val (.int x1), .val (.int x2), .val (.int x3), .val (.int x4), .val (.int x5), .val (.long (((x0).toInt64) + ((x1).toInt64))), .second, .val (.long (((x2).toInt64) - ((x4).toInt64))), .second, .val (.long (((x3).toInt64) ^^^ ((x5).toInt64))), .second, .val (.ref ba), .val (.ref a), .val (.ref br), .unset, .unset] [(.int (4 : Int32)), (.ref br)])) (fun _ k => XS.iconst X52.here hx rfl (hb hby at_233)  k) ?_
  refine Goes.by (T' := T52) (g' := (mkF m 235 #[.val (.int x0), .val (.int x1), .val (.int x2), .val (.int x3), .val (.int x4), .val (.int x5), .val (.long (((x0).toInt64) + ((x1).toInt64))), .second, .val (.long (((x2).toInt64) - ((x4).toInt64))), .second, .val (.long (((x3).toInt64) ^^^ ((x5).toInt64))), .second, .val (.ref ba), .val (.ref a), .val (.ref br), .unset, .unset] [(.double u4)])) (ldDS X52 hx hZ e52 V_br (v := (.double u4)) (j := (4 : Int32)) 4 (by decide) rfl (g := (mkF m 234 #[.val (.int x0), .val (.int x1), .val (.int x2), .val (.int x3), .val (.int x4), .val (.int x5), .val (.long (((x0).toInt64) + ((x1).toInt64))), .second, .val (.long (((x2).toInt64) - ((x4).toInt64))), .second, .val (.long (((x3).toInt64) ^^^ ((x5).toInt64))), .second, .val (.ref ba), .val (.ref a), .val (.ref br), .unset, .unset] [(.int (4 : Int32)), (.ref br)])) rfl rfl (hb hby at_234)) ?_
  refine Goes.by (T' := T52) (g' := (mkF m 237 #[.val (.int x0), .val (.int x1), .val (.int x2), .val (.int x3), .val (.int x4), .val (.int x5), .val (.long (((x0).toInt64) + ((x1).toInt64))), .second, .val (.long (((x2).toInt64) - ((x4).toInt64))), .second, .val (.long (((x3).toInt64) ^^^ ((x5).toInt64))), .second, .val (.ref ba), .val (.ref a), .val (.ref br), .unset, .unset] [(.ref ba), (.double u4)])) (fun _ k => XS.aload X52.here hx rfl (hb hby at_235) rfl rfl k) ?_
  refine Goes.by (T' := T52) (g' := (mkF m 238 #[.val (.int x0), .val (.int x1), .val (.int x2), .val (.int x3), .val (.int x4), .val (.int x5), .val (.long (((x0).toInt64) + ((x1).toInt64))), .second, .val (.long (((x2).toInt64) - ((x4).toInt64))), .second, .val (.long (((x3).toInt64) ^^^ ((x5).toInt64))), .second, .val (.ref ba), .val (.ref a), .val (.ref br), .unset, .unset] [(.int (4 : Int32)), (.ref ba), (.double u4)])) (fun _ k => XS.iconst X52.here hx rfl (hb hby at_237)  k) ?_
  refine Goes.by (T' := T52) (g' := (mkF m 239 #[.val (.int x0), .val (.int x1), .val (.int x2), .val (.int x3), .val (.int x4), .val (.int x5), .val (.long (((x0).toInt64) + ((x1).toInt64))), .second, .val (.long (((x2).toInt64) - ((x4).toInt64))), .second, .val (.long (((x3).toInt64) ^^^ ((x5).toInt64))), .second, .val (.ref ba), .val (.ref a), .val (.ref br), .unset, .unset] [(.double u4), (.double u4)])) (ldDS X52 hx hZ e52 V_ba (v := (.double u4)) (j := (4 : Int32)) 4 (by decide) rfl (g := (mkF m 238 #[.val (.int x0), .val (.int x1), .val (.int x2), .val (.int x3), .val (.int x4), .val (.int x5), .val (.long (((x0).toInt64) + ((x1).toInt64))), .second, .val (.long (((x2).toInt64) - ((x4).toInt64))), .second, .val (.long (((x3).toInt64) ^^^ ((x5).toInt64))), .second, .val (.ref ba), .val (.ref a), .val (.ref br), .unset, .unset] [(.int (4 : Int32)), (.ref ba), (.double u4)])) rfl rfl (hb hby at_238)) ?_
  refine Goes.by (T' := T52) (g' := (mkF m 240 #[.val (.int x0), .val (.int x1), .val (.int x2), .val (.int x3), .val (.int x4), .val (.int x5), .val (.long (((x0).toInt64) + ((x1).toInt64))), .second, .val (.long (((x2).toInt64) - ((x4).toInt64))), .second, .val (.long (((x3).toInt64) ^^^ ((x5).toInt64))), .second, .val (.ref ba), .val (.ref a), .val (.ref br), .unset, .unset] [(.int (0 : Int32))])) (fun _ k => XS.dcmpS X52.here hx rfl (hb hby at_239) rfl (dcmpV_self FD4.noNaN _) k) ?_
  refine Goes.by (T' := T52) (g' := (mkF m 243 #[.val (.int x0), .val (.int x1), .val (.int x2), .val (.int x3), .val (.int x4), .val (.int x5), .val (.long (((x0).toInt64) + ((x1).toInt64))), .second, .val (.long (((x2).toInt64) - ((x4).toInt64))), .second, .val (.long (((x3).toInt64) ^^^ ((x5).toInt64))), .second, .val (.ref ba), .val (.ref a), .val (.ref br), .unset, .unset] [])) (fun _ k => XS.ifNo X52.here hx rfl (hb hby at_240) rfl (by decide) k) ?_
  refine Goes.by (T' := T52) (g' := (mkF m 245 #[.val (.int x0), .val (.int x1), .val (.int x2), .val (.int x3), .val (.int x4), .val (.int x5), .val (.long (((x0).toInt64) + ((x1).toInt64))), .second, .val (.long (((x2).toInt64) - ((x4).toInt64))), .second, .val (.long (((x3).toInt64) ^^^ ((x5).toInt64))), .second, .val (.ref ba), .val (.ref a), .val (.ref br), .unset, .unset] [(.ref br)])) (fun _ k => XS.aload X52.here hx rfl (hb hby at_243) rfl rfl k) ?_
  refine Goes.by (T' := T52) (g' := (mkF m 246 #[.val (.int x0), .val (.int x1), .val (.int x2), .val (.int x3), .val (.int x4), .val (.int x5), .val (.long (((x0).toInt64) + ((x1).toInt64))), .second, .val (.long (((x2).toInt64) - ((x4).toInt64))), .second, .val (.long (((x3).toInt64) ^^^ ((x5).toInt64))), .second, .val (.ref ba), .val (.ref a), .val (.ref br), .unset, .unset] [(.int (5 : Int32)), (.ref br)])) (fun _ k => XS.iconst X52.here hx rfl (hb hby at_245)  k) ?_
  refine Goes.by (T' := T52) (g' := (mkF m 247 #[.val (.int x0), .val (.int x1), .val (.int x2), .val (.int x3), .val (.int x4), .val (.int x5), .val (.long (((x0).toInt64) + ((x1).toInt64))), .second, .val (.long (((x2).toInt64) - ((x4).toInt64))), .second, .val (.long (((x3).toInt64) ^^^ ((x5).toInt64))), .second, .val (.ref ba), .val (.ref a), .val (.ref br), .unset, .unset] [(.double u5)])) (ldDS X52 hx hZ e52 V_br (v := (.double u5)) (j := (5 : Int32)) 5 (by decide) rfl (g := (mkF m 246 #[.val (.int x0), .val (.int x1), .val (.int x2), .val (.int x3), .val (.int x4), .val (.int x5), .val (.long (((x0).toInt64) + ((x1).toInt64))), .second, .val (.long (((x2).toInt64) - ((x4).toInt64))), .second, .val (.long (((x3).toInt64) ^^^ ((x5).toInt64))), .second, .val (.ref ba), .val (.ref a), .val (.ref br), .unset, .unset] [(.int (5 : Int32)), (.ref br)])) rfl rfl (hb hby at_246)) ?_
  refine Goes.by (T' := T52) (g' := (mkF m 249 #[.val (.int x0), .val (.int x1), .val (.int x2), .val (.int x3), .val (.int x4), .val (.int x5), .val (.long (((x0).toInt64) + ((x1).toInt64))), .second, .val (.long (((x2).toInt64) - ((x4).toInt64))), .second, .val (.long (((x3).toInt64) ^^^ ((x5).toInt64))), .second, .val (.ref ba), .val (.ref a), .val (.ref br), .unset, .unset] [(.ref ba), (.double u5)])) (fun _ k => XS.aload X52.here hx rfl (hb hby at_247) rfl rfl k) ?_
  refine Goes.by (T' := T52) (g' := (mkF m 250 #[.val (.int x0), .val (.int x1), .val (.int x2), .val (.int x3), .val (.int x4), .val (.int x5), .val (.long (((x0).toInt64) + ((x1).toInt64))), .second, .val (.long (((x2).toInt64) - ((x4).toInt64))), .second, .val (.long (((x3).toInt64) ^^^ ((x5).toInt64))), .second, .val (.ref ba), .val (.ref a), .val (.ref br), .unset, .unset] [(.int (5 : Int32)), (.ref ba), (.double u5)])) (fun _ k => XS.iconst X52.here hx rfl (hb hby at_249)  k) ?_
  refine Goes.by (T' := T52) (g' := (mkF m 251 #[.val (.int x0), .val (.int x1), .val (.int x2), .val (.int x3), .val (.int x4), .val (.int x5), .val (.long (((x0).toInt64) + ((x1).toInt64))), .second, .val (.long (((x2).toInt64) - ((x4).toInt64))), .second, .val (.long (((x3).toInt64) ^^^ ((x5).toInt64))), .second, .val (.ref ba), .val (.ref a), .val (.ref br), .unset, .unset] [(.double u5), (.double u5)])) (ldDS X52 hx hZ e52 V_ba (v := (.double u5)) (j := (5 : Int32)) 5 (by decide) rfl (g := (mkF m 250 #[.val (.int x0), .val (.int x1), .val (.int x2), .val (.int x3), .val (.int x4), .val (.int x5), .val (.long (((x0).toInt64) + ((x1).toInt64))), .second, .val (.long (((x2).toInt64) - ((x4).toInt64))), .second, .val (.long (((x3).toInt64) ^^^ ((x5).toInt64))), .second, .val (.ref ba), .val (.ref a), .val (.ref br), .unset, .unset] [(.int (5 : Int32)), (.ref ba), (.double u5)])) rfl rfl (hb hby at_250)) ?_
  refine Goes.by (T' := T52) (g' := (mkF m 252 #[.val (.int x0), .val (.int x1), .val (.int x2), .val (.int x3), .val (.int x4), .val (.int x5), .val (.long (((x0).toInt64) + ((x1).toInt64))), .second, .val (.long (((x2).toInt64) - ((x4).toInt64))), .second, .val (.long (((x3).toInt64) ^^^ ((x5).toInt64))), .second, .val (.ref ba), .val (.ref a), .val (.ref br), .unset, .unset] [(.int (0 : Int32))])) (fun _ k => XS.dcmpS X52.here hx rfl (hb hby at_251) rfl (dcmpV_self FD5.noNaN _) k) ?_
  refine Goes.by (T' := T52) (g' := (mkF m 255 #[.val (.int x0), .val (.int x1), .val (.int x2), .val (.int x3), .val (.int x4), .val (.int x5), .val (.long (((x0).toInt64) + ((x1).toInt64))), .second, .val (.long (((x2).toInt64) - ((x4).toInt64))), .second, .val (.long (((x3).toInt64) ^^^ ((x5).toInt64))), .second, .val (.ref ba), .val (.ref a), .val (.ref br), .unset, .unset] [])) (fun _ k => XS.ifNo X52.here hx rfl (hb hby at_252) rfl (by decide) k) ?_
  refine Goes.by (T' := T52) (g' := (mkF m 257 #[.val (.int x0), .val (.int x1), .val (.int x2), .val (.int x3), .val (.int x4), .val (.int x5), .val (.long (((x0).toInt64) + ((x1).toInt64))), .second, .val (.long (((x2).toInt64) - ((x4).toInt64))), .second, .val (.long (((x3).toInt64) ^^^ ((x5).toInt64))), .second, .val (.ref ba), .val (.ref a), .val (.ref br), .unset, .unset] [(.ref br)])) (fun _ k => XS.aload X52.here hx rfl (hb hby at_255) rfl rfl k) ?_
  refine Goes.by (T' := T52) (g' := (mkF m 259 #[.val (.int x0), .val (.int x1), .val (.int x2), .val (.int x3), .val (.int x4), .val (.int x5), .val (.long (((x0).toInt64) + ((x1).toInt64))), .second, .val (.long (((x2).toInt64) - ((x4).toInt64))), .second, .val (.long (((x3).toInt64) ^^^ ((x5).toInt64))), .second, .val (.ref ba), .val (.ref a), .val (.ref br), .unset, .unset] [(.int (6 : Int32)), (.ref br)])) (fun _ k => XS.bipush X52.here hx rfl (hb hby at_257)  k) ?_
  refine Goes.by (T' := T52) (g' := (mkF m 260 #[.val (.int x0), .val (.int x1), .val (.int x2), .val (.int x3), .val (.int x4), .val (.int x5), .val (.long (((x0).toInt64) + ((x1).toInt64))), .second, .val (.long (((x2).toInt64) - ((x4).toInt64))), .second, .val (.long (((x3).toInt64) ^^^ ((x5).toInt64))), .second, .val (.ref ba), .val (.ref a), .val (.ref br), .unset, .unset] [(.double u6)])) (ldDS X52 hx hZ e52 V_br (v := (.double u6)) (j := (6 : Int32)) 6 (by decide) rfl (g := (mkF m 259 #[.val (.int x0), .val (.int x1), .val (.int x2), .val (.int x3), .val (.int x4), .val (.int x5), .val (.long (((x0).toInt64) + ((x1).toInt64))), .second, .val (.long (((x2).toInt64) - ((x4).toInt64))), .second, .val (.long (((x3).toInt64) ^^^ ((x5).toInt64))), .second, .val (.ref ba), .val (.ref a), .val (.ref br), .unset, .unset] [(.int (6 : Int32)), (.ref br)])) rfl rfl (hb hby at_259)) ?_
  refine Goes.by (T' := T52) (g' := (mkF m 262 #[.val (.int x0), .val (.int x1), .val (.int x2), .val (.int x3), .val (.int x4), .val (.int x5), .val (.long (((x0).toInt64) + ((x1).toInt64))), .second, .val (.long (((x2).toInt64) - ((x4).toInt64))), .second, .val (.long (((x3).toInt64) ^^^ ((x5).toInt64))), .second, .val (.ref ba), .val (.ref a), .val (.ref br), .unset, .unset] [(.ref ba), (.double u6)])) (fun _ k => XS.aload X52.here hx rfl (hb hby at_260) rfl rfl k) ?_
  refine Goes.by (T' := T52) (g' := (mkF m 264 #[.val (.int x0), .val (.int x1), .val (.int x2), .val (.int x3), .val (.int x4), .val (.int x5), .val (.long (((x0).toInt64) + ((x1).toInt64))), .second, .val (.long (((x2).toInt64) - ((x4).toInt64))), .second, .val (.long (((x3).toInt64) ^^^ ((x5).toInt64))), .second, .val (.ref ba), .val (.ref a), .val (.ref br), .unset, .unset] [(.int (6 : Int32)), (.ref ba), (.double u6)])) (fun _ k => XS.bipush X52.here hx rfl (hb hby at_262)  k) ?_
  refine Goes.by (T' := T52) (g' := (mkF m 265 #[.val (.int x0), .val (.int x1), .val (.int x2), .val (.int x3), .val (.int x4), .val (.int x5), .val (.long (((x0).toInt64) + ((x1).toInt64))), .second, .val (.long (((x2).toInt64) - ((x4).toInt64))), .second, .val (.long (((x3).toInt64) ^^^ ((x5).toInt64))), .second, .val (.ref ba), .val (.ref a), .val (.ref br), .unset, .unset] [(.double u6), (.double u6)])) (ldDS X52 hx hZ e52 V_ba (v := (.double u6)) (j := (6 : Int32)) 6 (by decide) rfl (g := (mkF m 264 #[.val (.int x0), .val (.int x1), .val (.int x2), .val (.int x3), .val (.int x4), .val (.int x5), .val (.long (((x0).toInt64) + ((x1).toInt64))), .second, .val (.long (((x2).toInt64) - ((x4).toInt64))), .second, .val (.long (((x3).toInt64) ^^^ ((x5).toInt64))), .second, .val (.ref ba), .val (.ref a), .val (.ref br), .unset, .unset] [(.int (6 : Int32)), (.ref ba), (.double u6)])) rfl rfl (hb hby at_264)) ?_
  refine Goes.by (T' := T52) (g' := (mkF m 266 #[.val (.int x0), .val (.int x1), .val (.int x2), .val (.int x3), .val (.int x4), .val (.int x5), .val (.long (((x0).toInt64) + ((x1).toInt64))), .second, .val (.long (((x2).toInt64) - ((x4).toInt64))), .second, .val (.long (((x3).toInt64) ^^^ ((x5).toInt64))), .second, .val (.ref ba), .val (.ref a), .val (.ref br), .unset, .unset] [(.int (0 : Int32))])) (fun _ k => XS.dcmpS X52.here hx rfl (hb hby at_265) rfl (dcmpV_self FD6.noNaN _) k) ?_
  refine Goes.by (T' := T52) (g' := (mkF m 269 #[.val (.int x0), .val (.int x1), .val (.int x2), .val (.int x3), .val (.int x4), .val (.int x5), .val (.long (((x0).toInt64) + ((x1).toInt64))), .second, .val (.long (((x2).toInt64) - ((x4).toInt64))), .second, .val (.long (((x3).toInt64) ^^^ ((x5).toInt64))), .second, .val (.ref ba), .val (.ref a), .val (.ref br), .unset, .unset] [])) (fun _ k => XS.ifNo X52.here hx rfl (hb hby at_266) rfl (by decide) k) ?_
  refine Goes.by (T' := T52) (g' := (mkF m 271 #[.val (.int x0), .val (.int x1), .val (.int x2), .val (.int x3), .val (.int x4), .val (.int x5), .val (.long (((x0).toInt64) + ((x1).toInt64))), .second, .val (.long (((x2).toInt64) - ((x4).toInt64))), .second, .val (.long (((x3).toInt64) ^^^ ((x5).toInt64))), .second, .val (.ref ba), .val (.ref a), .val (.ref br), .unset, .unset] [(.ref br)])) (fun _ k => XS.aload X52.here hx rfl (hb hby at_269) rfl rfl k) ?_
  refine Goes.by (T' := T52) (g' := (mkF m 273 #[.val (.int x0), .val (.int x1), .val (.int x2), .val (.int x3), .val (.int x4), .val (.int x5), .val (.long (((x0).toInt64) + ((x1).toInt64))), .second, .val (.long (((x2).toInt64) - ((x4).toInt64))), .second, .val (.long (((x3).toInt64) ^^^ ((x5).toInt64))), .second, .val (.ref ba), .val (.ref a), .val (.ref br), .unset, .unset] [(.int (7 : Int32)), (.ref br)])) (fun _ k => XS.bipush X52.here hx rfl (hb hby at_271)  k) ?_
  refine Goes.by (T' := T52) (g' := (mkF m 274 #[.val (.int x0), .val (.int x1), .val (.int x2), .val (.int x3), .val (.int x4), .val (.int x5), .val (.long (((x0).toInt64) + ((x1).toInt64))), .second, .val (.long (((x2).toInt64) - ((x4).toInt64))), .second, .val (.long (((x3).toInt64) ^^^ ((x5).toInt64))), .second, .val (.ref ba), .val (.ref a), .val (.ref br), .unset, .unset] [(.double u7)])) (ldDS X52 hx hZ e52 V_br (v := (.double u7)) (j := (7 : Int32)) 7 (by decide) rfl (g := (mkF m 273 #[.val (.int x0), .val (.int x1), .val (.int x2), .val (.int x3), .val (.int x4), .val (.int x5), .val (.long (((x0).toInt64) + ((x1).toInt64))), .second, .val (.long (((x2).toInt64) - ((x4).toInt64))), .second, .val (.long (((x3).toInt64) ^^^ ((x5).toInt64))), .second, .val (.ref ba), .val (.ref a), .val (.ref br), .unset, .unset] [(.int (7 : Int32)), (.ref br)])) rfl rfl (hb hby at_273)) ?_
  refine Goes.by (T' := T52) (g' := (mkF m 276 #[.val (.int x0), .val (.int x1), .val (.int x2), .val (.int x3), .val (.int x4), .val (.int x5), .val (.long (((x0).toInt64) + ((x1).toInt64))), .second, .val (.long (((x2).toInt64) - ((x4).toInt64))), .second, .val (.long (((x3).toInt64) ^^^ ((x5).toInt64))), .second, .val (.ref ba), .val (.ref a), .val (.ref br), .unset, .unset] [(.ref ba), (.double u7)])) (fun _ k => XS.aload X52.here hx rfl (hb hby at_274) rfl rfl k) ?_
  refine Goes.by (T' := T52) (g' := (mkF m 278 #[.val (.int x0), .val (.int x1), .val (.int x2), .val (.int x3), .val (.int x4), .val (.int x5), .val (.long (((x0).toInt64) + ((x1).toInt64))), .second, .val (.long (((x2).toInt64) - ((x4).toInt64))), .second, .val (.long (((x3).toInt64) ^^^ ((x5).toInt64))), .second, .val (.ref ba), .val (.ref a), .val (.ref br), .unset, .unset] [(.int (7 : Int32)), (.ref ba), (.double u7)])) (fun _ k => XS.bipush X52.here hx rfl (hb hby at_276)  k) ?_
  refine Goes.by (T' := T52) (g' := (mkF m 279 #[.val (.int x0), .val (.int x1), .val (.int x2), .val (.int x3), .val (.int x4), .val (.int x5), .val (.long (((x0).toInt64) + ((x1).toInt64))), .second, .val (.long (((x2).toInt64) - ((x4).toInt64))), .second, .val (.long (((x3).toInt64) ^^^ ((x5).toInt64))), .second, .val (.ref ba), .val (.ref a), .val (.ref br), .unset, .unset] [(.double u7), (.double u7)])) (ldDS X52 hx hZ e52 V_ba (v := (.double u7)) (j := (7 : Int32)) 7 (by decide) rfl (g := (mkF m 278 #[.val (.int x0), .val (.int x1), .val (.int x2), .val (.int x3), .val (.int x4), .val (.int x5), .val (.long (((x0).toInt64) + ((x1).toInt64))), .second, .val (.long (((x2).toInt64) - ((x4).toInt64))), .second, .val (.long (((x3).toInt64) ^^^ ((x5).toInt64))), .second, .val (.ref ba), .val (.ref a), .val (.ref br), .unset, .unset] [(.int (7 : Int32)), (.ref ba), (.double u7)])) rfl rfl (hb hby at_278)) ?_
  refine Goes.by (T' := T52) (g' := (mkF m 280 #[.val (.int x0), .val (.int x1), .val (.int x2), .val (.int x3), .val (.int x4), .val (.int x5), .val (.long (((x0).toInt64) + ((x1).toInt64))), .second, .val (.long (((x2).toInt64) - ((x4).toInt64))), .second, .val (.long (((x3).toInt64) ^^^ ((x5).toInt64))), .second, .val (.ref ba), .val (.ref a), .val (.ref br), .unset, .unset] [(.int (0 : Int32))])) (fun _ k => XS.dcmpS X52.here hx rfl (hb hby at_279) rfl (dcmpV_self FD7.noNaN _) k) ?_
  refine Goes.by (T' := T52) (g' := (mkF m 283 #[.val (.int x0), .val (.int x1), .val (.int x2), .val (.int x3), .val (.int x4), .val (.int x5), .val (.long (((x0).toInt64) + ((x1).toInt64))), .second, .val (.long (((x2).toInt64) - ((x4).toInt64))), .second, .val (.long (((x3).toInt64) ^^^ ((x5).toInt64))), .second, .val (.ref ba), .val (.ref a), .val (.ref br), .unset, .unset] [])) (fun _ k => XS.ifNo X52.here hx rfl (hb hby at_280) rfl (by decide) k) ?_
  refine Goes.by (T' := T52) (g' := (mkF m 285 #[.val (.int x0), .val (.int x1), .val (.int x2), .val (.int x3), .val (.int x4), .val (.int x5), .val (.long (((x0).toInt64) + ((x1).toInt64))), .second, .val (.long (((x2).toInt64) - ((x4).toInt64))), .second, .val (.long (((x3).toInt64) ^^^ ((x5).toInt64))), .second, .val (.ref ba), .val (.ref a), .val (.ref br), .unset, .unset] [(.ref br)])) (fun _ k => XS.aload X52.here hx rfl (hb hby at_283) rfl rfl k) ?_
  refine Goes.by (T' := T52) (g' := (mkF m 287 #[.val (.int x0), .val (.int x1), .val (.int x2), .val (.int x3), .val (.int x4), .val (.int x5), .val (.long (((x0).toInt64) + ((x1).toInt64))), .second, .val (.long (((x2).toInt64) - ((x4).toInt64))), .second, .val (.long (((x3).toInt64) ^^^ ((x5).toInt64))), .second, .val (.ref ba), .val (.ref a), .val (.ref br), .unset, .unset] [(.int (8 : Int32)), (.ref br)])) (fun _ k => XS.bipush X52.here hx rfl (hb hby at_285)  k) ?_
  refine Goes.by (T' := T52) (g' := (mkF m 288 #[.val (.int x0), .val (.int x1), .val (.int x2), .val (.int x3), .val (.int x4), .val (.int x5), .val (.long (((x0).toInt64) + ((x1).toInt64))), .second, .val (.long (((x2).toInt64) - ((x4).toInt64))), .second, .val (.long (((x3).toInt64) ^^^ ((x5).toInt64))), .second, .val (.ref ba), .val (.ref a), .val (.ref br), .unset, .unset] [(.double u8)])) (ldDS X52 hx hZ e52 V_br (v := (.double u8)) (j := (8 : Int32)) 8 (by decide) rfl (g := (mkF m 287 #[.val (.int x0), .val (.int x1), .val (.int x2), .val (.int x3), .val (.int x4), .val (.int x5), .val (.long (((x0).toInt64) + ((x1).toInt64))), .second, .val (.long (((x2).toInt64) - ((x4).toInt64))), .second, .val (.long (((x3).toInt64) ^^^ ((x5).toInt64))), .second, .val (.ref ba), .val (.ref a), .val (.ref br), .unset, .unset] [(.int (8 : Int32)), (.ref br)])) rfl rfl (hb hby at_287)) ?_
  refine Goes.by (T' := T52) (g' := (mkF m 290 #[.val (.int x0), .val (.int x1), .val (.int x2), .val (.int x3), .val (.int x4), .val (.int x5), .val (.long (((x0).toInt64) + ((x1).toInt64))), .second, .val (.long (((x2).toInt64) - ((x4).toInt64))), .second, .val (.long (((x3).toInt64) ^^^ ((x5).toInt64))), .second, .val (.ref ba), .val (.ref a), .val (.ref br), .unset, .unset] [(.ref ba), (.double u8)])) (fun _ k => XS.aload X52.here hx rfl (hb hby at_288) rfl rfl k) ?_
  refine Goes.by (T' := T52) (g' := (mkF m 292 #[.val (.int x0), .val (.int x1), .val (.int x2), .val (.int x3), .val (.int x4), .val (.int x5), .val (.long (((x0).toInt64) + ((x1).toInt64))), .second, .val (.long (((x2).toInt64) - ((x4).toInt64))), .second, .val (.long (((x3).toInt64) ^^^ ((x5).toInt64))), .second, .val (.ref ba), .val (.ref a), .val (.ref br), .unset, .unset] [(.int (8 : Int32)), (.ref ba), (.double u8)])) (fun _ k => XS.bipush X52.here hx rfl (hb hby at_290)  k) ?_
  refine Goes.by (T' := T52) (g' := (mkF m 293 #[.val (.int x0), .val (.int x1), .val (.int x2), .val (.int x3), .val (.int x4), .val (.int x5), .val (.long (((x0).toInt64) + ((x1).toInt64))), .second, .val (.long (((x2).toInt64) - ((x4).toInt64))), .second, .val (.long (((x3).toInt64) ^^^ ((x5).toInt64))), .second, .val (.ref ba), .val (.ref a), .val (.ref br), .unset, .unset] [(.double u8), (.double u8)])) (ldDS X52 hx hZ e52 V_ba (v := (.double u8)) (j := (8 : Int32)) 8 (by decide) rfl (g := (mkF m 292 #[.val (.int x0), .val (.int x1), .val (.int x2), .val (.int x3), .val (.int x4), .val (.int x5), .val (.long (((x0).toInt64) + ((x1).toInt64))), .second, .val (.long (((x2).toInt64) - ((x4).toInt64))), .second, .val (.long (((x3).toInt64) ^^^ ((x5).toInt64))), .second, .val (.ref ba), .val (.ref a), .val (.ref br), .unset, .unset] [(.int (8 : Int32)), (.ref ba), (.double u8)])) rfl rfl (hb hby at_292)) ?_
  refine Goes.by (T' := T52) (g' := (mkF m 294 #[.val (.int x0), .val (.int x1), .val (.int x2), .val (.int x3), .val (.int x4), .val (.int x5), .val (.long (((x0).toInt64) + ((x1).toInt64))), .second, .val (.long (((x2).toInt64) - ((x4).toInt64))), .second, .val (.long (((x3).toInt64) ^^^ ((x5).toInt64))), .second, .val (.ref ba), .val (.ref a), .val (.ref br), .unset, .unset] [(.int (0 : Int32))])) (fun _ k => XS.dcmpS X52.here hx rfl (hb hby at_293) rfl (dcmpV_self FD8.noNaN _) k) ?_
  refine Goes.by (T' := T52) (g' := (mkF m 297 #[.val (.int x0), .val (.int x1), .val (.int x2), .val (.int x3), .val (.int x4), .val (.int x5), .val (.long (((x0).toInt64) + ((x1).toInt64))), .second, .val (.long (((x2).toInt64) - ((x4).toInt64))), .second, .val (.long (((x3).toInt64) ^^^ ((x5).toInt64))), .second, .val (.ref ba), .val (.ref a), .val (.ref br), .unset, .unset] [])) (fun _ k => XS.ifNo X52.here hx rfl (hb hby at_294) rfl (by decide) k) ?_
  refine Goes.by (T' := T52) (g' := (mkF m 298 #[.val (.int x0), .val (.int x1), .val (.int x2), .val (.int x3), .val (.int x4), .val (.int x5), .val (.long (((x0).toInt64) + ((x1).toInt64))), .second, .val (.long (((x2).toInt64) - ((x4).toInt64))), .second, .val (.long (((x3).toInt64) ^^^ ((x5).toInt64))), .second, .val (.ref ba), .val (.ref a), .val (.ref br), .unset, .unset] [(.int (1 : Int32))])) (fun _ k => XS.iconst X52.here hx rfl (hb hby at_297)  k) ?_
  refine Goes.by (T' := T52) (g' := (mkF m 302 #[.val (.int x0), .val (.int x1), .val (.int x2), .val (.int x3), .val (.int x4), .val (.int x5), .val (.long (((x0).toInt64) + ((x1).toInt64))), .second, .val (.long (((x2).toInt64) - ((x4).toInt64))), .second, .val (.long (((x3).toInt64) ^^^ ((x5).toInt64))), .second, .val (.ref ba), .val (.ref a), .val (.ref br), .unset, .unset] [(.int (1 : Int32))])) (fun _ k => XS.goto X52.here hx rfl (pc0 := 298) (pc' := 302) rfl (hb hby at_298) (by decide) (by decide) k) ?_
  refine Goes.by (T' := T52) (g' := (mkF m 304 #[.val (.int x0), .val (.int x1), .val (.int x2), .val (.int x3), .val (.int x4), .val (.int x5), .val (.long (((x0).toInt64) + ((x1).toInt64))), .second, .val (.long (((x2).toInt64) - ((x4).toInt64))), .second, .val (.long (((x3).toInt64) ^^^ ((x5).toInt64))), .second, .val (.ref ba), .val (.ref a), .val (.ref br), .val (.int (1 : Int32)), .unset] [])) (fun _ k => XS.istore X52.here hx rfl (hb hby at_302) rfl (l' := #[.val (.int x0), .val (.int x1), .val (.int x2), .val (.int x3), .val (.int x4), .val (.int x5), .val (.long (((x0).toInt64) + ((x1).toInt64))), .second, .val (.long (((x2).toInt64) - ((x4).toInt64))), .second, .val (.long (((x3).toInt64) ^^^ ((x5).toInt64))), .second, .val (.ref ba), .val (.ref a), .val (.ref br), .val (.int (1 : Int32)), .unset]) rfl k) ?_
  refine Goes.by (T' := T52) (g' := (mkF m 306 #[.val (.int x0), .val (.int x1), .val (.int x2), .val (.int x3), .val (.int x4), .val (.int x5), .val (.long (((x0).toInt64) + ((x1).toInt64))), .second, .val (.long (((x2).toInt64) - ((x4).toInt64))), .second, .val (.long (((x3).toInt64) ^^^ ((x5).toInt64))), .second, .val (.ref ba), .val (.ref a), .val (.ref br), .val (.int (1 : Int32)), .unset] [(.ref br)])) (fun _ k => XS.aload X52.here hx rfl (hb hby at_304) rfl rfl k) ?_
  refine Goes.by (T' := T52) (g' := (mkF m 307 #[.val (.int x0), .val (.int x1), .val (.int x2), .val (.int x3), .val (.int x4), .val (.int x5), .val (.long (((x0).toInt64) + ((x1).toInt64))), .second, .val (.long (((x2).toInt64) - ((x4).toInt64))), .second, .val (.long (((x3).toInt64) ^^^ ((x5).toInt64))), .second, .val (.ref ba), .val (.ref a), .val (.ref br), .val (.int (1 : Int32)), .unset] [(.int (0 : Int32)), (.ref br)])) (fun _ k => XS.iconst X52.here hx rfl (hb hby at_306)  k) ?_
  refine Goes.by (T' := T52) (g' := (mkF m 309 #[.val (.int x0), .val (.int x1), .val (.int x2), .val (.int x3), .val (.int x4), .val (.int x5), .val (.long (((x0).toInt64) + ((x1).toInt64))), .second, .val (.long (((x2).toInt64) - ((x4).toInt64))), .second, .val (.long (((x3).toInt64) ^^^ ((x5).toInt64))), .second, .val (.ref ba), .val (.ref a), .val (.ref br), .val (.int (1 : Int32)), .unset] [(.ref br), (.int (0 : Int32)), (.ref br)])) (fun _ k => XS.aload X52.here hx rfl (hb hby at_307) rfl rfl k) ?_
  refine Goes.by (T' := T52) (g' := (mkF m 310 #[.val (.int x0), .val (.int x1), .val (.int x2), .val (.int x3), .val (.int x4), .val (.int x5), .val (.long (((x0).toInt64) + ((x1).toInt64))), .second, .val (.long (((x2).toInt64) - ((x4).toInt64))), .second, .val (.long (((x3).toInt64) ^^^ ((x5).toInt64))), .second, .val (.ref ba), .val (.ref a), .val (.ref br), .val (.int (1 : Int32)), .unset] [(.int (0 : Int32)), (.ref br), (.int (0 : Int32)), (.ref br)])) (fun _ k => XS.iconst X52.here hx rfl (hb hby at_309)  k) ?_
  refine Goes.by (T' := T52) (g' := (mkF m 311 #[.val (.int x0), .val (.int x1), .val (.int x2), .val (.int x3), .val (.int x4), .val (.int x5), .val (.long (((x0).toInt64) + ((x1).toInt64))), .second, .val (.long (((x2).toInt64) - ((x4).toInt64))), .second, .val (.long (((x3).toInt64) ^^^ ((x5).toInt64))), .second, .val (.ref ba), .val (.ref a), .val (.ref br), .val (.int (1 : Int32)), .unset] [(.double u0), (.int (0 : Int32)), (.ref br)])) (ldDS X52 hx hZ e52 V_br (v := (.double u0)) (j := (0 : Int32)) 0 (by decide) rfl (g := (mkF m 310 #[.val (.int x0), .val (.int x1), .val (.int x2), .val (.int x3), .val (.int x4), .val (.int x5), .val (.long (((x0).toInt64) + ((x1).toInt64))), .second, .val (.long (((x2).toInt64) - ((x4).toInt64))), .second, .val (.long (((x3).toInt64) ^^^ ((x5).toInt64))), .second, .val (.ref ba), .val (.ref a), .val (.ref br), .val (.int (1 : Int32)), .unset] [(.int (0 : Int32)), (.ref br), (.int (0 : Int32)), (.ref br)])) rfl rfl (hb hby at_310)) ?_
  refine Goes.by (T' := T52) (g' := (mkF m 312 #[.val (.int x0), .val (.int x1), .val (.int x2), .val (.int x3), .val (.int x4), .val (.int x5), .val (.long (((x0).toInt64) + ((x1).toInt64))), .second, .val (.long (((x2).toInt64) - ((x4).toInt64))), .second, .val (.long (((x3).toInt64) ^^^ ((x5).toInt64))), .second, .val (.ref ba), .val (.ref a), .val (.ref br), .val (.int (1 : Int32)), .unset] [(.double (4607182418800017408 : UInt64)), (.double u0), (.int (0 : Int32)), (.ref br)])) (fun _ k => XS.dconst1 X52.here hx rfl (hb hby at_311) rfl k) ?_
  obtain ⟨dq, q_dq⟩ : ∃ zz, FP.dadd u0 (4607182418800017408 : UInt64) = zz := ⟨_, rfl⟩
  refine Goes.by (T' := T52) (g' := (mkF m 313 #[.val (.int x0), .val (.int x1), .val (.int x2), .val (.int x3), .val (.int x4), .val (.int x5), .val (.long (((x0).toInt64) + ((x1).toInt64))), .second, .val (.long (((x2).toInt64) - ((x4).toInt64))), .second, .val (.long (((x3).toInt64) ^^^ ((x5).toInt64))), .second, .val (.ref ba), .val (.ref a), .val (.ref br), .val (.int (1 : Int32)), .unset] [(.double dq), (.int (0 : Int32)), (.ref br)])) (fun _ k => XS.daddS X52.here hx rfl (hb hby at_312) rfl (by rw [q_dq]; exact (q_dq ▸ dadd_out FD0.noNaN own_fin1)) q_dq k) ?_
  obtain ⟨T53, h53, X53, e53, W53, V53, st53⟩ := stDS X52 hx hZ e52 V_br (j := (0 : Int32)) 0 (by decide) (by show 0 < 9; decide) (g := (mkF m 313 #[.val (.int x0), .val (.int x1), .val (.int x2), .val (.int x3), .val (.int x4), .val (.int x5), .val (.long (((x0).toInt64) + ((x1).toInt64))), .second, .val (.long (((x2).toInt64) - ((x4).toInt64))), .second, .val (.long (((x3).toInt64) ^^^ ((x5).toInt64))), .second, .val (.ref ba), .val (.ref a), .val (.ref br), .val (.int (1 : Int32)), .unset] [(.double dq), (.int (0 : Int32)), (.ref br)])) rfl rfl (hb hby at_313)
  have N0 := Fr.snoc X53 N0 ge_br
  have V_ba := V_ba.other W53 ne_ba_br
  have E_a := E_a.wr W53
  have F_r11_a := F_r11_a.other W53 (Or.inl ne_a_br)
  have F_r12_a := F_r12_a.other W53 (Or.inl ne_a_br)
  have F_r13_a := F_r13_a.other W53 (Or.inl ne_a_br)
  have F_r21_a := F_r21_a.other W53 (Or.inl ne_a_br)
  have F_r22_a := F_r22_a.other W53 (Or.inl ne_a_br)
  have F_r23_a := F_r23_a.other W53 (Or.inl ne_a_br)
  have F_r31_a := F_r31_a.other W53 (Or.inl ne_a_br)
  have F_r32_a := F_r32_a.other W53 (Or.inl ne_a_br)
  have F_r33_a := F_r33_a.other W53 (Or.inl ne_a_br)
  have Z0 := Nat.le_trans Z0 (Nat.le_of_eq W53.size.symm)
  have V_br : Sar Z h53 br .double [(.double dq), (.double u1), (.double u2), (.double u3), (.double u4), (.double u5), (.double u6), (.double u7), (.double u8)] := V53
  refine Goes.by (T' := T53) (g' := (mkF m 314 #[.val (.int x0), .val (.int x1), .val (.int x2), .val (.int x3), .val (.int x4), .val (.int x5), .val (.long (((x0).toInt64) + ((x1).toInt64))), .second, .val (.long (((x2).toInt64) - ((x4).toInt64))), .second, .val (.long (((x3).toInt64) ^^^ ((x5).toInt64))), .second, .val (.ref ba), .val (.ref a), .val (.ref br), .val (.int (1 : Int32)), .unset] [])) st53 ?_
  refine Goes.by (T' := T53) (g' := (mkF m 316 #[.val (.int x0), .val (.int x1), .val (.int x2), .val (.int x3), .val (.int x4), .val (.int x5), .val (.long (((x0).toInt64) + ((x1).toInt64))), .second, .val (.long (((x2).toInt64) - ((x4).toInt64))), .second, .val (.long (((x3).toInt64) ^^^ ((x5).toInt64))), .second, .val (.ref ba), .val (.ref a), .val (.ref br), .val (.int (1 : Int32)), .unset] [(.ref a)])) (fun _ k => XS.aload X53.here hx rfl (hb hby at_314) rfl rfl k) ?_
  obtain ⟨v54, T54, L54, X54, hQ54, st54⟩ := callV X53 hx hZ (y := (⟨"com/example/attitude_bridge/attitudebridge/RotationMatrix", "entries", "()[D"⟩ : MethodName)) hown (hw _ (List.mem_of_getElem? (i := 38) rfl)) (hw _ (List.mem_of_getElem? (i := 39) rfl)) (hw _ (List.mem_of_getElem? (i := 41) rfl)) (hw _ (List.mem_of_getElem? (i := 40) rfl)) (hw _ (List.mem_of_getElem? (i := 42) rfl)) (hw _ (List.mem_of_getElem? (i := 8) rfl)) (by decide) e53 E_a (argsL := []) (rest := []) (W := 0) (rm_ent l Z a0 hw a u0 u1 u2 u3 u4 u5 u6 u7 u8 h53 n0 Z0 F_r11_a F_r12_a F_r13_a F_r21_a F_r22_a F_r23_a F_r31_a F_r32_a F_r33_a) rfl (by decide) (by decide) (by decide) (by decide) (g := (mkF m 316 #[.val (.int x0), .val (.int x1), .val (.int x2), .val (.int x3), .val (.int x4), .val (.int x5), .val (.long (((x0).toInt64) + ((x1).toInt64))), .second, .val (.long (((x2).toInt64) - ((x4).toInt64))), .second, .val (.long (((x3).toInt64) ^^^ ((x5).toInt64))), .second, .val (.ref ba), .val (.ref a), .val (.ref br), .val (.int (1 : Int32)), .unset] [(.ref a)])) rfl (by rw [hml]; rfl) (lenOf pd3 rfl) rfl (by show 2 * 0 + _ ≤ _; exact Nat.le_of_eq rfl) (hb hby at_316)
  obtain ⟨bs, rfl, szbs, V_bs, K54, NL54⟩ := hQ54
  have N0 := Fr.app N0 NL54
  have ne_ba_bs : ba ≠ bs := fun q => Nat.lt_irrefl _ (Nat.lt_of_lt_of_le V_ba.lt (Nat.le_trans szbs (Nat.le_of_eq q.symm)))
  have ne_a_bs : a ≠ bs := fun q => Nat.lt_irrefl _ (Nat.lt_of_lt_of_le E_a.lt (Nat.le_trans szbs (Nat.le_of_eq q.symm)))
  have ne_br_bs : br ≠ bs := fun q => Nat.lt_irrefl _ (Nat.lt_of_lt_of_le V_br.lt (Nat.le_trans szbs (Nat.le_of_eq q.symm)))
  have ge_bs : n0 ≤ bs := Nat.le_trans Z0 szbs
  have e54 : T54.heap = T54.heap := rfl
  have V_ba := V_ba.keep K54 nin0
  have E_a := E_a.keep K54
  have F_r11_a := F_r11_a.keep K54 nin0
  have F_r12_a := F_r12_a.keep K54 nin0
  have F_r13_a := F_r13_a.keep K54 nin0
  have F_r21_a := F_r21_a.keep K54 nin0
  have F_r22_a := F_r22_a.keep K54 nin0
  have F_r23_a := F_r23_a.keep K54 nin0
  have F_r31_a := F_r31_a.keep K54 nin0
  have F_r32_a := F_r32_a.keep K54 nin0
  have F_r33_a := F_r33_a.keep K54 nin0
  have V_br := V_br.keep K54 nin0
  have Z0 := Nat.le_trans Z0 K54.1
  refine Goes.by (T' := T54) (g' := (mkF m 319 #[.val (.int x0), .val (.int x1), .val (.int x2), .val (.int x3), .val (.int x4), .val (.int x5), .val (.long (((x0).toInt64) + ((x1).toInt64))), .second, .val (.long (((x2).toInt64) - ((x4).toInt64))), .second, .val (.long (((x3).toInt64) ^^^ ((x5).toInt64))), .second, .val (.ref ba), .val (.ref a), .val (.ref br), .val (.int (1 : Int32)), .unset] [(.ref bs)])) st54 ?_
  refine Goes.by (T' := T54) (g' := (mkF m 321 #[.val (.int x0), .val (.int x1), .val (.int x2), .val (.int x3), .val (.int x4), .val (.int x5), .val (.long (((x0).toInt64) + ((x1).toInt64))), .second, .val (.long (((x2).toInt64) - ((x4).toInt64))), .second, .val (.long (((x3).toInt64) ^^^ ((x5).toInt64))), .second, .val (.ref ba), .val (.ref a), .val (.ref br), .val (.int (1 : Int32)), .val (.ref bs)] [])) (fun _ k => XS.astore X54.here hx rfl (hb hby at_319) rfl rfl (l' := #[.val (.int x0), .val (.int x1), .val (.int x2), .val (.int x3), .val (.int x4), .val (.int x5), .val (.long (((x0).toInt64) + ((x1).toInt64))), .second, .val (.long (((x2).toInt64) - ((x4).toInt64))), .second, .val (.long (((x3).toInt64) ^^^ ((x5).toInt64))), .second, .val (.ref ba), .val (.ref a), .val (.ref br), .val (.int (1 : Int32)), .val (.ref bs)]) rfl k) ?_
  refine Goes.by (T' := T54) (g' := (mkF m 323 #[.val (.int x0), .val (.int x1), .val (.int x2), .val (.int x3), .val (.int x4), .val (.int x5), .val (.long (((x0).toInt64) + ((x1).toInt64))), .second, .val (.long (((x2).toInt64) - ((x4).toInt64))), .second, .val (.long (((x3).toInt64) ^^^ ((x5).toInt64))), .second, .val (.ref ba), .val (.ref a), .val (.ref br), .val (.int (1 : Int32)), .val (.ref bs)] [(.int (1 : Int32))])) (fun _ k => XS.iload X54.here hx rfl (hb hby at_321) rfl k) ?_
  refine Goes.by (T' := T54) (g' := (mkF m 326 #[.val (.int x0), .val (.int x1), .val (.int x2), .val (.int x3), .val (.int x4), .val (.int x5), .val (.long (((x0).toInt64) + ((x1).toInt64))), .second, .val (.long (((x2).toInt64) - ((x4).toInt64))), .second, .val (.long (((x3).toInt64) ^^^ ((x5).toInt64))), .second, .val (.ref ba), .val (.ref a), .val (.ref br), .val (.int (1 : Int32)), .val (.ref bs)] [])) (fun _ k => XS.ifNo X54.here hx rfl (hb hby at_323) rfl (by decide) k) ?_
  refine Goes.by (T' := T54) (g' := (mkF m 328 #[.val (.int x0), .val (.int x1), .val (.int x2), .val (.int x3), .val (.int x4), .val (.int x5), .val (.long (((x0).toInt64) + ((x1).toInt64))), .second, .val (.long (((x2).toInt64) - ((x4).toInt64))), .second, .val (.long (((x3).toInt64) ^^^ ((x5).toInt64))), .second, .val (.ref ba), .val (.ref a), .val (.ref br), .val (.int (1 : Int32)), .val (.ref bs)] [(.ref bs)])) (fun _ k => XS.aload X54.here hx rfl (hb hby at_326) rfl rfl k) ?_
  refine Goes.by (T' := T54) (g' := (mkF m 330 #[.val (.int x0), .val (.int x1), .val (.int x2), .val (.int x3), .val (.int x4), .val (.int x5), .val (.long (((x0).toInt64) + ((x1).toInt64))), .second, .val (.long (((x2).toInt64) - ((x4).toInt64))), .second, .val (.long (((x3).toInt64) ^^^ ((x5).toInt64))), .second, .val (.ref ba), .val (.ref a), .val (.ref br), .val (.int (1 : Int32)), .val (.ref bs)] [(.ref br), (.ref bs)])) (fun _ k => XS.aload X54.here hx rfl (hb hby at_328) rfl rfl k) ?_
  refine Goes.by (T' := T54) (g' := (mkF m 333 #[.val (.int x0), .val (.int x1), .val (.int x2), .val (.int x3), .val (.int x4), .val (.int x5), .val (.long (((x0).toInt64) + ((x1).toInt64))), .second, .val (.long (((x2).toInt64) - ((x4).toInt64))), .second, .val (.long (((x3).toInt64) ^^^ ((x5).toInt64))), .second, .val (.ref ba), .val (.ref a), .val (.ref br), .val (.int (1 : Int32)), .val (.ref bs)] [])) (fun _ k => Jvm.RoadKit.acmp (g := (mkF m 330 #[.val (.int x0), .val (.int x1), .val (.int x2), .val (.int x3), .val (.int x4), .val (.int x5), .val (.long (((x0).toInt64) + ((x1).toInt64))), .second, .val (.long (((x2).toInt64) - ((x4).toInt64))), .second, .val (.long (((x3).toInt64) ^^^ ((x5).toInt64))), .second, .val (.ref ba), .val (.ref a), .val (.ref br), .val (.int (1 : Int32)), .val (.ref bs)] [(.ref br), (.ref bs)])) X54 hx rfl rfl rfl (pc0 := 330) (pc' := 333) (same := false) rfl (hb hby at_330) rfl (decide_eq_false fun q => (Ne.symm ne_br_bs) (Value.ref.inj q)) (by decide) (by decide) k) ?_
  refine Goes.by (T' := T54) (g' := (mkF m 335 #[.val (.int x0), .val (.int x1), .val (.int x2), .val (.int x3), .val (.int x4), .val (.int x5), .val (.long (((x0).toInt64) + ((x1).toInt64))), .second, .val (.long (((x2).toInt64) - ((x4).toInt64))), .second, .val (.long (((x3).toInt64) ^^^ ((x5).toInt64))), .second, .val (.ref ba), .val (.ref a), .val (.ref br), .val (.int (1 : Int32)), .val (.ref bs)] [(.ref bs)])) (fun _ k => XS.aload X54.here hx rfl (hb hby at_333) rfl rfl k) ?_
  refine Goes.by (T' := T54) (g' := (mkF m 336 #[.val (.int x0), .val (.int x1), .val (.int x2), .val (.int x3), .val (.int x4), .val (.int x5), .val (.long (((x0).toInt64) + ((x1).toInt64))), .second, .val (.long (((x2).toInt64) - ((x4).toInt64))), .second, .val (.long (((x3).toInt64) ^^^ ((x5).toInt64))), .second, .val (.ref ba), .val (.ref a), .val (.ref br), .val (.int (1 : Int32)), .val (.ref bs)] [(.int (9 : Int32))])) (lenS X54 hx hZ e54 V_bs (n := (9 : Int32)) rfl (g := (mkF m 335 #[.val (.int x0), .val (.int x1), .val (.int x2), .val (.int x3), .val (.int x4), .val (.int x5), .val (.long (((x0).toInt64) + ((x1).toInt64))), .second, .val (.long (((x2).toInt64) - ((x4).toInt64))), .second, .val (.long (((x3).toInt64) ^^^ ((x5).toInt64))), .second, .val (.ref ba), .val (.ref a), .val (.ref br), .val (.int (1 : Int32)), .val (.ref bs)] [(.ref bs)])) rfl rfl (hb hby at_335)) ?_
  refine Goes.by (T' := T54) (g' := (mkF m 338 #[.val (.int x0), .val (.int x1), .val (.int x2), .val (.int x3), .val (.int x4), .val (.int x5), .val (.long (((x0).toInt64) + ((x1).toInt64))), .second, .val (.long (((x2).toInt64) - ((x4).toInt64))), .second, .val (.long (((x3).toInt64) ^^^ ((x5).toInt64))), .second, .val (.ref ba), .val (.ref a), .val (.ref br), .val (.int (1 : Int32)), .val (.ref bs)] [(.int (9 : Int32)), (.int (9 : Int32))])) (fun _ k => XS.bipush X54.here hx rfl (hb hby at_336)  k) ?_
  refine Goes.by (T' := T54) (g' := (mkF m 341 #[.val (.int x0), .val (.int x1), .val (.int x2), .val (.int x3), .val (.int x4), .val (.int x5), .val (.long (((x0).toInt64) + ((x1).toInt64))), .second, .val (.long (((x2).toInt64) - ((x4).toInt64))), .second, .val (.long (((x3).toInt64) ^^^ ((x5).toInt64))), .second, .val (.ref ba), .val (.ref a), .val (.ref br), .val (.int (1 : Int32)), .val (.ref bs)] [])) (fun _ k => XS.icmpNo X54.here hx rfl (hb hby at_338) rfl (by decide) k) ?_
  refine Goes.by (T' := T54) (g' := (mkF m 343 #[.val (.int x0), .val (.int x1), .val (.int x2), .val (.int x3), .val (.int x4), .val (.int x5), .val (.long (((x0).toInt64) + ((x1).toInt64))), .second, .val (.long (((x2).toInt64) - ((x4).toInt64))), .second, .val (.long (((x3).toInt64) ^^^ ((x5).toInt64))), .second, .val (.ref ba), .val (.ref a), .val (.ref br), .val (.int (1 : Int32)), .val (.ref bs)] [(.ref bs)])) (fun _ k => XS.aload X54.here hx rfl (hb hby at_341) rfl rfl k) ?_
  refine Goes.by (T' := T54) (g' := (mkF m 344 #[.val (.int x0), .val (.int x1), .val (.int x2), .val (.int x3), .val (.int x4), .val (.int x5), .val (.long (((x0).toInt64) + ((x1).toInt64))), .second, .val (.long (((x2).toInt64) - ((x4).toInt64))), .second, .val (.long (((x3).toInt64) ^^^ ((x5).toInt64))), .second, .val (.ref ba), .val (.ref a), .val (.ref br), .val (.int (1 : Int32)), .val (.ref bs)] [(.int (0 : Int32)), (.ref bs)])) (fun _ k => XS.iconst X54.here hx rfl (hb hby at_343)  k) ?_
  refine Goes.by (T' := T54) (g' := (mkF m 345 #[.val (.int x0), .val (.int x1), .val (.int x2), .val (.int x3), .val (.int x4), .val (.int x5), .val (.long (((x0).toInt64) + ((x1).toInt64))), .second, .val (.long (((x2).toInt64) - ((x4).toInt64))), .second, .val (.long (((x3).toInt64) ^^^ ((x5).toInt64))), .second, .val (.ref ba), .val (.ref a), .val (.ref br), .val (.int (1 : Int32)), .val (.ref bs)] [(.double u0)])) (ldDS X54 hx hZ e54 V_bs (v := (.double u0)) (j := (0 : Int32)) 0 (by decide) rfl (g := (mkF m 344 #[.val (.int x0), .val (.int x1), .val (.int x2), .val (.int x3), .val (.int x4), .val (.int x5), .val (.long (((x0).toInt64) + ((x1).toInt64))), .second, .val (.long (((x2).toInt64) - ((x4).toInt64))), .second, .val (.long (((x3).toInt64) ^^^ ((x5).toInt64))), .second, .val (.ref ba), .val (.ref a), .val (.ref br), .val (.int (1 : Int32)), .val (.ref bs)] [(.int (0 : Int32)), (.ref bs)])) rfl rfl (hb hby at_344)) ?_
  refine Goes.by (T' := T54) (g' := (mkF m 347 #[.val (.int x0), .val (.int x1), .val (.int x2), .val (.int x3), .val (.int x4), .val (.int x5), .val (.long (((x0).toInt64) + ((x1).toInt64))), .second, .val (.long (((x2).toInt64) - ((x4).toInt64))), .second, .val (.long (((x3).toInt64) ^^^ ((x5).toInt64))), .second, .val (.ref ba), .val (.ref a), .val (.ref br), .val (.int (1 : Int32)), .val (.ref bs)] [(.ref ba), (.double u0)])) (fun _ k => XS.aload X54.here hx rfl (hb hby at_345) rfl rfl k) ?_
  refine Goes.by (T' := T54) (g' := (mkF m 348 #[.val (.int x0), .val (.int x1), .val (.int x2), .val (.int x3), .val (.int x4), .val (.int x5), .val (.long (((x0).toInt64) + ((x1).toInt64))), .second, .val (.long (((x2).toInt64) - ((x4).toInt64))), .second, .val (.long (((x3).toInt64) ^^^ ((x5).toInt64))), .second, .val (.ref ba), .val (.ref a), .val (.ref br), .val (.int (1 : Int32)), .val (.ref bs)] [(.int (0 : Int32)), (.ref ba), (.double u0)])) (fun _ k => XS.iconst X54.here hx rfl (hb hby at_347)  k) ?_
  refine Goes.by (T' := T54) (g' := (mkF m 349 #[.val (.int x0), .val (.int x1), .val (.int x2), .val (.int x3), .val (.int x4), .val (.int x5), .val (.long (((x0).toInt64) + ((x1).toInt64))), .second, .val (.long (((x2).toInt64) - ((x4).toInt64))), .second, .val (.long (((x3).toInt64) ^^^ ((x5).toInt64))), .second, .val (.ref ba), .val (.ref a), .val (.ref br), .val (.int (1 : Int32)), .val (.ref bs)] [(.double u0), (.double u0)])) (ldDS X54 hx hZ e54 V_ba (v := (.double u0)) (j := (0 : Int32)) 0 (by decide) rfl (g := (mkF m 348 #[.val (.int x0), .val (.int x1), .val (.int x2), .val (.int x3), .val (.int x4), .val (.int x5), .val (.long (((x0).toInt64) + ((x1).toInt64))), .second, .val (.long (((x2).toInt64) - ((x4).toInt64))), .second, .val (.long (((x3).toInt64) ^^^ ((x5).toInt64))), .second, .val (.ref ba), .val (.ref a), .val (.ref br), .val (.int (1 : Int32)), .val (.ref bs)] [(.int (0 : Int32)), (.ref ba), (.double u0)])) rfl rfl (hb hby at_348)) ?_
  refine Goes.by (T' := T54) (g' := (mkF m 350 #[.val (.int x0), .val (.int x1), .val (.int x2), .val (.int x3), .val (.int x4), .val (.int x5), .val (.long (((x0).toInt64) + ((x1).toInt64))), .second, .val (.long (((x2).toInt64) - ((x4).toInt64))), .second, .val (.long (((x3).toInt64) ^^^ ((x5).toInt64))), .second, .val (.ref ba), .val (.ref a), .val (.ref br), .val (.int (1 : Int32)), .val (.ref bs)] [(.int (0 : Int32))])) (fun _ k => XS.dcmpS X54.here hx rfl (hb hby at_349) rfl (dcmpV_self FD0.noNaN _) k) ?_
  refine Goes.by (T' := T54) (g' := (mkF m 353 #[.val (.int x0), .val (.int x1), .val (.int x2), .val (.int x3), .val (.int x4), .val (.int x5), .val (.long (((x0).toInt64) + ((x1).toInt64))), .second, .val (.long (((x2).toInt64) - ((x4).toInt64))), .second, .val (.long (((x3).toInt64) ^^^ ((x5).toInt64))), .second, .val (.ref ba), .val (.ref a), .val (.ref br), .val (.int (1 : Int32)), .val (.ref bs)] [])) (fun _ k => XS.ifNo X54.here hx rfl (hb hby at_350) rfl (by decide) k) ?_
  refine Goes.by (T' := T54) (g' := (mkF m 354 #[.val (.int x0), .val (.int x1), .val (.int x2), .val (.int x3), .val (.int x4), .val (.int x5), .val (.long (((x0).toInt64) + ((x1).toInt64))), .second, .val (.long (((x2).toInt64) - ((x4).toInt64))), .second, .val (.long (((x3).toInt64) ^^^ ((x5).toInt64))), .second, .val (.ref ba), .val (.ref a), .val (.ref br), .val (.int (1 : Int32)), .val (.ref bs)] [(.int (1 : Int32))])) (fun _ k => XS.iconst X54.here hx rfl (hb hby at_353)  k) ?_
  refine Goes.by (T' := T54) (g' := (mkF m 358 #[.val (.int x0), .val (.int x1), .val (.int x2), .val (.int x3), .val (.int x4), .val (.int x5), .val (.long (((x0).toInt64) + ((x1).toInt64))), .second, .val (.long (((x2).toInt64) - ((x4).toInt64))), .second, .val (.long (((x3).toInt64) ^^^ ((x5).toInt64))), .second, .val (.ref ba), .val (.ref a), .val (.ref br), .val (.int (1 : Int32)), .val (.ref bs)] [(.int (1 : Int32))])) (fun _ k => XS.goto X54.here hx rfl (pc0 := 354) (pc' := 358) rfl (hb hby at_354) (by decide) (by decide) k) ?_
  exact outZ X54 hx hlk hret (hb hby at_358) (by exact ⟨rfl, N0⟩) (by decide) (by decide)
set_option maxRecDepth 65536 in
set_option maxHeartbeats 40000000 in
theorem comes_1 {Post : Tables → Env → Array Value → State → Outcome → State → Prop} (hpost : ∀ tb e args s v u, (limb_1_1.after args s (.returned v) u = true ∧ limb_1_2.after args s (.returned v) u = true ∧ True) → FrameEnd s (.returned v) u (Jvm.fieldLocs frame_1_writes args s ++ Jvm.arrayLocs frame_1_arrays args s ++ Jvm.staticLocs frame_1_statics s) 16 192 → Post tb e args s (.returned v) u) :
    ArmFor flags0 classFile x code maxLocals ret World_1 tables_1 room_1 Calls_1 rest_1 Pre_1 Post := by
  intro l hfl _ _ p e ha hc hk s m args below hf hA hF happ hP
  obtain ⟨hcalls, hrest, hpre⟩ := hP
  obtain ⟨-, -, -, hnamed, -, -, -, hat⟩ := (Spec.applies_iff hf).mp happ
  obtain ⟨hg, hn⟩ := and_e (Cond.before_iff.mp (show (Jvm.Cond.and given_1 narrow_1).before args s = true from hpre))
  obtain ⟨g0, t0⟩ := and_e hg
  obtain ⟨g1, t1⟩ := and_e t0
  obtain ⟨g2, t2⟩ := and_e t1
  obtain ⟨g3, t3⟩ := and_e t2
  obtain ⟨g4, t4⟩ := and_e t3
  obtain ⟨g5, t5⟩ := and_e t4
  obtain ⟨w0, w1, w2, w3, w4, w5, rfl⟩ : ∃ w0 w1 w2 w3 w4 w5 : Value, args = #[w0, w1, w2, w3, w4, w5] := by
    have hs : args.size = 6 := by simpa [Cond.value, given_1] using g0
    obtain ⟨L⟩ := args
    match L, hs with
    | [w0, w1, w2, w3, w4, w5], _ => exact ⟨w0, w1, w2, w3, w4, w5, rfl⟩
  have hw := fun d (hd : d ∈ tables_1) => atoms_spec (ws := Jvm.Cond.code x code maxLocals ret :: tables_1) hat d (List.mem_cons_of_mem _ hd)
  obtain ⟨i0, e0⟩ := is_v g1
  obtain rfl : w0 = (.int i0) := Option.some.inj e0
  obtain ⟨i1, e1⟩ := is_v g2
  obtain rfl : w1 = (.int i1) := Option.some.inj e1
  obtain ⟨i2, e2⟩ := is_v g3
  obtain rfl : w2 = (.int i2) := Option.some.inj e2
  obtain ⟨i3, e3⟩ := is_v g4
  obtain rfl : w3 = (.int i3) := Option.some.inj e3
  obtain ⟨i4, e4⟩ := is_v g5
  obtain rfl : w4 = (.int i4) := Option.some.inj e4
  obtain ⟨i5, e5⟩ := is_v t5
  obtain rfl : w5 = (.int i5) := Option.some.inj e5
  obtain ⟨n, o, h1, h2, h3, _, L, rfl, ⟨rfl, N⟩, hq⟩ := rm_law l s _ hw i0 i1 i2 i3 i4 i5 s.heap s.heap.size (Nat.le_refl _)  p e ha hc hk s m _ below hf ((Spec.applies_iff_loose hf).mp happ).1 ⟨rfl, State.Warmed39.refl s, rfl⟩ trivial
  refine ⟨n, _, h1, h2, h3, hpost _ _ _ _ _ _ ⟨Cond.after_iff.mpr rfl, Cond.after_iff.mpr (eq_i res_at (Term.int_eval (1)) rfl), trivial⟩ ⟨hq.1, hq.2.1, (hq.2.2.sift fun y hy => Or.inr (N y hy)).mono (by decide) (by decide)⟩⟩
theorem main_1_1 : Claimed_1_1 := comes_1 fun _ _ _ _ _ _ h hF => ⟨h.1, hF⟩
theorem main_1_2 : Claimed_1_2 := comes_1 fun _ _ _ _ _ _ h hF => ⟨h.2.1, hF⟩
end Jvm.Pilot.@@N@@
namespace Jvm.Pilot.@@N@@
open Jvm Jvm.ClassFile Sem Op Lib Jvm.Free Jvm.Stand Jvm.Pilot.@@N@@.Jvm.D
/-! MADE BY PROGRAM (witnessworld.py) out of the Statement's table words and the real class files: 10 classes; the members and pool entries that the words name. The judged class is class 1, her method 2. -/
namespace start1
open Jvm.ClassFile
def u (s : String) : CpInfo := .utf8 (stringToUtf16 s)
/-- a pool by its gaps: so many unusable entries, then the entry; so many at the end -/
def gap : Nat → List CpInfo → List CpInfo
  | 0, r => r
  | n + 1, r => .unusable :: gap n r
def poolList (es : List (Nat × CpInfo)) (last : Nat) : List CpInfo := es.foldr (fun e r => gap e.1 (e.2 :: r)) (gap last [])
def pool (es : List (Nat × CpInfo)) (last : Nat) : Array CpInfo := ⟨poolList es last⟩
def fileOf (pool : Array CpInfo) (this : Nat) (attrs : Array Attribute := #[]) (ms : Array MethodInfo := #[]) (fl : Nat := 33) (sup : Nat := 0) (ifs : Array Nat := #[]) (fds : Array FieldInfo := #[]) : ClassFile where
  minorVersion := 0
  majorVersion := 65
  constantPool := pool
  accessFlags := fl
  thisClass := this
  superClass := sup
  interfaces := ifs
  fields := fds
  methods := ms
  attributes := attrs
def plain (name : String) (sup : Option ClassId) : Class where
  name := name
  kind := .ordinary
  loader := none
  accessFlags := 33
  super := sup
  interfaces := #[]
  cf := none
  fields := #[]
  methods := #[]
  instanceTypes := #[]
  staticTypes := #[]
  resolved := #[]
  callSites := []
  init := .initialized
  statics := none
  mirror := none

def pool0 : Array CpInfo := pool [(5, u "<init>"), (0, u "()V"), (1, .class_ 10), (1, u "java/lang/Object")] 113

def k0c0 : Code := { maxStack := 0, maxLocals := 1, code := object_method_1_code, exceptionTable := #[], attributes := #[] }
def k0m0 : Method := { name := "<init>", desc := "()V", sig := { parameters := [], returnType := none }, accessFlags := 1, code := some k0c0 }
/-- java/lang/Object -/
def k0 : Class := { plain "java/lang/Object" none with
  accessFlags := 33
  interfaces := #[]
  cf := some (fileOf pool0 8 #[] #[{ accessFlags := 1, nameIndex := 5, descriptorIndex := 6, attributes := #[] }] 33 0 #[] #[])
  fields := #[]
  methods := #[k0m0]
  instanceTypes := #[]
  staticTypes := #[]
  resolved := Array.replicate 124 none
  statics := none }

def pool1 : Array CpInfo := pool [(2, .class_ 4), (1, u "java/lang/Object"), (0, u "<init>"), (0, u "()V"), (0, .long 16), (1, .methodref 10 11), (0, .class_ 12), (0, .nameAndType 13 14), (0, u "com/example/attitude_bridge/attitudebridge/RotationMatrixEntriesPinLaw"), (0, u "tag"), (0, u "(JI)D"), (0, .class_ 16), (0, u "com/example/attitude_bridge/attitudebridge/RotationMatrix"), (0, .methodref 15 18), (0, .nameAndType 5 19), (0, u "(DDDDDDDDD)V"), (0, .methodref 15 21), (0, .nameAndType 22 23), (0, u "entries"), (0, u "()[D"), (2, u "law"), (0, u "(IIIIII)Z")] 5

def k1m0 : Method := { name := "<init>", desc := "()V", sig := { parameters := [], returnType := none }, accessFlags := 1, code := none }
def k1c1 : Code := { maxStack := 4, maxLocals := 3, code := method_2_code, exceptionTable := #[], attributes := #[] }
def k1m1 : Method := { name := "tag", desc := "(JI)D", sig := { parameters := [.long, .int], returnType := some .double }, accessFlags := 10, code := some k1c1 }
def k1c2 : Code := { maxStack := 20, maxLocals := 17, code := code, exceptionTable := #[], attributes := #[] }
def k1m2 : Method := { name := "law", desc := "(IIIIII)Z", sig := { parameters := [.int, .int, .int, .int, .int, .int], returnType := some .boolean }, accessFlags := 9, code := some k1c2 }
/-- com/example/attitude_bridge/attitudebridge/RotationMatrixEntriesPinLaw -/
def k1 : Class := { plain "com/example/attitude_bridge/attitudebridge/RotationMatrixEntriesPinLaw" (some 0) with
  accessFlags := 49
  interfaces := #[]
  cf := some (fileOf pool1 10 #[] #[{ accessFlags := 1, nameIndex := 5, descriptorIndex := 6, attributes := #[] }, { accessFlags := 10, nameIndex := 13, descriptorIndex := 14, attributes := #[] }, { accessFlags := 9, nameIndex := 26, descriptorIndex := 27, attributes := #[] }] 49 2 #[] #[])
  fields := #[]
  methods := #[k1m0, k1m1, k1m2]
  instanceTypes := #[]
  staticTypes := #[]
  resolved := Array.replicate 33 none
  statics := none }

def pool2 : Array CpInfo := pool [(1, .methodref 2 3), (0, .class_ 4), (0, .nameAndType 5 6), (0, u "java/lang/Object"), (0, u "<init>"), (0, u "()V"), (0, .class_ 8), (0, u "java/lang/Record")] 13

def k2c0 : Code := { maxStack := 1, maxLocals := 1, code := jdk_30_method_1_code, exceptionTable := #[], attributes := #[] }
def k2m0 : Method := { name := "<init>", desc := "()V", sig := { parameters := [], returnType := none }, accessFlags := 4, code := some k2c0 }
/-- java/lang/Record -/
def k2 : Class := { plain "java/lang/Record" (some 0) with
  accessFlags := 1057
  interfaces := #[]
  cf := some (fileOf pool2 7 #[] #[{ accessFlags := 4, nameIndex := 5, descriptorIndex := 6, attributes := #[] }] 1057 2 #[] #[])
  fields := #[]
  methods := #[k2m0]
  instanceTypes := #[]
  staticTypes := #[]
  resolved := Array.replicate 22 none
  statics := none }

def pool3 : Array CpInfo := pool [(1, .methodref 2 3), (0, .class_ 4), (0, .nameAndType 5 6), (0, u "java/lang/Record"), (0, u "<init>"), (0, u "()V"), (0, .fieldref 8 9), (0, .class_ 10), (0, .nameAndType 11 12), (0, u "com/example/attitude_bridge/attitudebridge/RotationMatrix"), (0, u "r11"), (0, u "D"), (0, .fieldref 8 14), (0, .nameAndType 15 12), (0, u "r12"), (0, .fieldref 8 17), (0, .nameAndType 18 12), (0, u "r13"), (0, .fieldref 8 20), (0, .nameAndType 21 12), (0, u "r21"), (0, .fieldref 8 23), (0, .nameAndType 24 12), (0, u "r22"), (0, .fieldref 8 26), (0, .nameAndType 27 12), (0, u "r23"), (0, .fieldref 8 29), (0, .nameAndType 30 12), (0, u "r31"), (0, .fieldref 8 32), (0, .nameAndType 33 12), (0, u "r32"), (0, .fieldref 8 35), (0, .nameAndType 36 12), (0, u "r33"), (42, u "(DDDDDDDDD)V"), (17, u "entries"), (0, u "()[D"), (75, u "TOLERANCE"), (1, u "REFINEMENTS"), (0, u "I")] 66

def k3c0 : Code := { maxStack := 3, maxLocals := 19, code := prog_27_method_1_code, exceptionTable := #[], attributes := #[] }
def k3m0 : Method := { name := "<init>", desc := "(DDDDDDDDD)V", sig := { parameters := [.double, .double, .double, .double, .double, .double, .double, .double, .double], returnType := none }, accessFlags := 1, code := some k3c0 }
def k3c1 : Code := { maxStack := 5, maxLocals := 1, code := prog_27_method_5_code, exceptionTable := #[], attributes := #[] }
def k3m1 : Method := { name := "entries", desc := "()[D", sig := { parameters := [], returnType := some (.array .double) }, accessFlags := 0, code := some k3c1 }
/-- com/example/attitude_bridge/attitudebridge/RotationMatrix -/
def k3 : Class := { plain "com/example/attitude_bridge/attitudebridge/RotationMatrix" (some 2) with
  accessFlags := 49
  interfaces := #[]
  cf := some (fileOf pool3 8 #[] #[{ accessFlags := 1, nameIndex := 5, descriptorIndex := 79, attributes := #[] }, { accessFlags := 0, nameIndex := 97, descriptorIndex := 98, attributes := #[] }] 49 2 #[] #[{ accessFlags := 18, nameIndex := 11, descriptorIndex := 12, attributes := #[] }, { accessFlags := 18, nameIndex := 15, descriptorIndex := 12, attributes := #[] }, { accessFlags := 18, nameIndex := 18, descriptorIndex := 12, attributes := #[] }, { accessFlags := 18, nameIndex := 21, descriptorIndex := 12, attributes := #[] }, { accessFlags := 18, nameIndex := 24, descriptorIndex := 12, attributes := #[] }, { accessFlags := 18, nameIndex := 27, descriptorIndex := 12, attributes := #[] }, { accessFlags := 18, nameIndex := 30, descriptorIndex := 12, attributes := #[] }, { accessFlags := 18, nameIndex := 33, descriptorIndex := 12, attributes := #[] }, { accessFlags := 18, nameIndex := 36, descriptorIndex := 12, attributes := #[] }, { accessFlags := 26, nameIndex := 174, descriptorIndex := 12, attributes := #[] }, { accessFlags := 26, nameIndex := 176, descriptorIndex := 177, attributes := #[] }])
  fields := #[{ name := "r11", type := .double, accessFlags := 18, slot := 0, constantValue := 0 }, { name := "r12", type := .double, accessFlags := 18, slot := 1, constantValue := 0 }, { name := "r13", type := .double, accessFlags := 18, slot := 2, constantValue := 0 }, { name := "r21", type := .double, accessFlags := 18, slot := 3, constantValue := 0 }, { name := "r22", type := .double, accessFlags := 18, slot := 4, constantValue := 0 }, { name := "r23", type := .double, accessFlags := 18, slot := 5, constantValue := 0 }, { name := "r31", type := .double, accessFlags := 18, slot := 6, constantValue := 0 }, { name := "r32", type := .double, accessFlags := 18, slot := 7, constantValue := 0 }, { name := "r33", type := .double, accessFlags := 18, slot := 8, constantValue := 0 }, { name := "TOLERANCE", type := .double, accessFlags := 26, slot := 0, constantValue := 0 }, { name := "REFINEMENTS", type := .int, accessFlags := 26, slot := 1, constantValue := 0 }]
  methods := #[k3m0, k3m1]
  instanceTypes := #[.double, .double, .double, .double, .double, .double, .double, .double, .double]
  staticTypes := #[.double, .int]
  resolved := Array.replicate 244 none
  statics := none }

def pool4 : Array CpInfo := pool [(1, u "java/lang/Cloneable"), (0, .class_ 1), (0, u "java/lang/Object"), (0, .class_ 3)] 3

/-- java/lang/Cloneable -/
def k4 : Class := { plain "java/lang/Cloneable" (some 0) with
  accessFlags := 1537
  interfaces := #[]
  cf := some (fileOf pool4 2 #[] #[] 1537 4 #[] #[])
  fields := #[]
  methods := #[]
  instanceTypes := #[]
  staticTypes := #[]
  resolved := Array.replicate 8 none
  statics := none }

def pool5 : Array CpInfo := pool [(1, u "java/io/Serializable"), (0, .class_ 1), (0, u "java/lang/Object"), (0, .class_ 3)] 3

/-- java/io/Serializable -/
def k5 : Class := { plain "java/io/Serializable" (some 0) with
  accessFlags := 1537
  interfaces := #[]
  cf := some (fileOf pool5 2 #[] #[] 1537 4 #[] #[])
  fields := #[]
  methods := #[]
  instanceTypes := #[]
  staticTypes := #[]
  resolved := Array.replicate 8 none
  statics := none }

/-- the primitive byte -/
def k6 : Class := { plain "byte" none with kind := .primitive 'B', accessFlags := 0x411 }
/-- [B -/
def k7 : Class := { plain "[B" (some 0) with kind := .array 6 .byte, interfaces := #[4, 5], accessFlags := 1041 }

/-- the primitive int -/
def k8 : Class := { plain "int" none with kind := .primitive 'I', accessFlags := 0x411 }
/-- [I -/
def k9 : Class := { plain "[I" (some 0) with kind := .array 8 .int, interfaces := #[4, 5], accessFlags := 1041 }

/-- the primitive double -/
def k10 : Class := { plain "double" none with kind := .primitive 'D', accessFlags := 0x411 }
/-- [D -/
def k11 : Class := { plain "[D" (some 0) with kind := .array 10 .double, interfaces := #[4, 5], accessFlags := 1041 }
def heap : Heap := #[]
def classes : Array Class := #[k0, k1, k2, k3, k4, k5, k6, k7, k8, k9, k10, k11]
def interned : List (Array UInt16 × Addr) := []
def slotsUsed : Nat := 0
def theMethod : MethodId := ⟨1, 2⟩
def args0 : Array Value := #[.int 5, .int 5, .int 5, .int 5, .int 5, .int 5]
def aboutOver (below : List Frame) : State where
  vm := { classes := classes, interned := interned.toArray }
  heap := heap
  slotsUsed := slotsUsed
  threads := #[{ frames := .invoking theMethod args0 :: below }]
def below0 : List Frame := [.native { method := ⟨0, 0⟩, args := #[] }]
def about1 : State := aboutOver below0
def p0 : Program := .bare "" "" ""
def e0 : Env := launch0.env 0 0 0
theorem w_frames : about1.frames = Frame.invoking theMethod args0 :: below0 := rfl
set_option maxRecDepth 65536 in
theorem w_args : argsFit about1.vm theMethod args0 = true := by decide +kernel
set_option maxRecDepth 65536 in
theorem w_heap : heapFits about1 = true := by decide +kernel
set_option maxRecDepth 65536 in
theorem w_runnable : about1.curStatus? = some .runnable := by decide +kernel
set_option maxRecDepth 65536 in
theorem w_alone : about1.alone = true := by decide +kernel
set_option maxRecDepth 65536 in
theorem w_named : about1.methodNamed? x = some theMethod := by decide +kernel
set_option maxRecDepth 65536 in
theorem w_hears : about1.hears theMethod below0 = true := by decide +kernel
set_option maxRecDepth 65536 in
theorem w_ripe : about1.ripe theMethod args0 below0 = true := by decide +kernel
theorem w_running : about1.status = .running := rfl
set_option maxRecDepth 65536 in
theorem w_room : about1.hasRoom e0.platform room_1 = true :=
  launch0.hasRoom_least _ room_1 (by decide +kernel) (by decide +kernel) (by decide +kernel) (by decide +kernel) (by decide +kernel) (by decide +kernel)
theorem allAtoms_all (ts : List Jvm.Cond) (a : Array Jvm.Value) (st : Jvm.State) : (allAtoms ts).before a st = ts.all (fun c => c.before a st) := by
  induction ts with
  | nil => rfl
  | cons c t ih =>
    show (Jvm.Cond.and c (allAtoms t)).before a st = _
    rw [Jvm.Cond.before_and, ih, List.all_cons]
def words1 : List Jvm.Cond := Jvm.Cond.code x code maxLocals ret :: tables_1
/-- a 'code' word, met by the world's own term for the bytes: nothing is compared byte by byte -/
theorem code_word {y : MethodName} {bytes : ByteArray} {mx : Nat} {rt : Option FieldType} {a : Array Value} {s : State} {m : MethodId} {meth : Method} {c : Code} (h1 : s.methodNamed? y = some m) (h2 : s.vm.method? m = some meth) (h3 : meth.code = some c) (h4 : c.code = bytes)
    (h5 : (c.maxLocals == mx && c.exceptionTable.isEmpty && decide (c.maxStack ≤ mostOperands) && decide (meth.sig.returnType = rt) && !meth.locks && decide (parseMethodDescriptor y.desc = some meth.sig)) = true) : (Jvm.Cond.code y bytes mx rt).before a s = true := by
  simp only [Bool.and_eq_true, beq_iff_eq, Bool.not_eq_true', decide_eq_true_eq] at h5
  obtain ⟨⟨⟨⟨⟨g1, g2⟩, g3⟩, g4⟩, g5⟩, g6⟩ := h5
  simp [Cond.before, Cond.holds, Cond.value, h1, h2, h3, h4, g1, g2, g3, g4, g5, g6]
def isCode : Jvm.Cond → Bool
  | .code _ _ _ _ => true
  | _ => false
theorem all_split {L : List Jvm.Cond} {P : Jvm.Cond → Bool} (h1 : L.all (fun c => isCode c || P c) = true) (h2 : ∀ c ∈ L.filter isCode, P c = true) : L.all P = true := by
  refine List.all_eq_true.mpr fun c hc => ?_
  have h := List.all_eq_true.mp h1 c hc
  rcases Bool.eq_false_or_eq_true (isCode c) with hi | hi
  · exact h2 c (List.mem_filter.mpr ⟨hc, hi⟩)
  · simpa [hi] using h
set_option maxRecDepth 65536 in
theorem w_c0 : (Jvm.Cond.code x code maxLocals ret).before args0 about1 = true := code_word (m := ⟨1, 2⟩) (meth := k1m2) (c := k1c2) (by decide +kernel) rfl rfl rfl (by decide +kernel)
set_option maxRecDepth 65536 in
theorem w_c1 : (Jvm.Cond.code ({ cls := "com/example/attitude_bridge/attitudebridge/RotationMatrixEntriesPinLaw", name := "tag", desc := "(JI)D" } : Jvm.MethodName) method_2_code (3 : Nat) (Option.some Jvm.ClassFile.FieldType.double)).before args0 about1 = true := code_word (m := ⟨1, 1⟩) (meth := k1m1) (c := k1c1) (by decide +kernel) rfl rfl rfl (by decide +kernel)
set_option maxRecDepth 65536 in
theorem w_c2 : (Jvm.Cond.code ({ cls := "com/example/attitude_bridge/attitudebridge/RotationMatrix", name := "<init>", desc := "(DDDDDDDDD)V" } : Jvm.MethodName) prog_27_method_1_code (19 : Nat) (Option.none : Option Jvm.ClassFile.FieldType)).before args0 about1 = true := code_word (m := ⟨3, 0⟩) (meth := k3m0) (c := k3c0) (by decide +kernel) rfl rfl rfl (by decide +kernel)
set_option maxRecDepth 65536 in
theorem w_c3 : (Jvm.Cond.code ({ cls := "java/lang/Record", name := "<init>", desc := "()V" } : Jvm.MethodName) jdk_30_method_1_code (1 : Nat) (Option.none : Option Jvm.ClassFile.FieldType)).before args0 about1 = true := code_word (m := ⟨2, 0⟩) (meth := k2m0) (c := k2c0) (by decide +kernel) rfl rfl rfl (by decide +kernel)
set_option maxRecDepth 65536 in
theorem w_c4 : (Jvm.Cond.code ({ cls := "java/lang/Object", name := "<init>", desc := "()V" } : Jvm.MethodName) object_method_1_code (1 : Nat) (Option.none : Option Jvm.ClassFile.FieldType)).before args0 about1 = true := code_word (m := ⟨0, 0⟩) (meth := k0m0) (c := k0c0) (by decide +kernel) rfl rfl rfl (by decide +kernel)
set_option maxRecDepth 65536 in
theorem w_c5 : (Jvm.Cond.code ({ cls := "com/example/attitude_bridge/attitudebridge/RotationMatrix", name := "entries", desc := "()[D" } : Jvm.MethodName) prog_27_method_5_code (1 : Nat) (Option.some (Jvm.ClassFile.FieldType.array Jvm.ClassFile.FieldType.double))).before args0 about1 = true := code_word (m := ⟨3, 1⟩) (meth := k3m1) (c := k3c1) (by decide +kernel) rfl rfl rfl (by decide +kernel)
def codes1 : List Jvm.Cond := [Jvm.Cond.code x code maxLocals ret, Jvm.Cond.code ({ cls := "com/example/attitude_bridge/attitudebridge/RotationMatrixEntriesPinLaw", name := "tag", desc := "(JI)D" } : Jvm.MethodName) method_2_code (3 : Nat) (Option.some Jvm.ClassFile.FieldType.double), Jvm.Cond.code ({ cls := "com/example/attitude_bridge/attitudebridge/RotationMatrix", name := "<init>", desc := "(DDDDDDDDD)V" } : Jvm.MethodName) prog_27_method_1_code (19 : Nat) (Option.none : Option Jvm.ClassFile.FieldType), Jvm.Cond.code ({ cls := "java/lang/Record", name := "<init>", desc := "()V" } : Jvm.MethodName) jdk_30_method_1_code (1 : Nat) (Option.none : Option Jvm.ClassFile.FieldType), Jvm.Cond.code ({ cls := "java/lang/Object", name := "<init>", desc := "()V" } : Jvm.MethodName) object_method_1_code (1 : Nat) (Option.none : Option Jvm.ClassFile.FieldType), Jvm.Cond.code ({ cls := "com/example/attitude_bridge/attitudebridge/RotationMatrix", name := "entries", desc := "()[D" } : Jvm.MethodName) prog_27_method_5_code (1 : Nat) (Option.some (Jvm.ClassFile.FieldType.array Jvm.ClassFile.FieldType.double))]
set_option maxRecDepth 65536 in
theorem codes_eq : words1.filter isCode = codes1 := rfl
theorem w_codes : ∀ c ∈ words1.filter isCode, c.before args0 about1 = true := by
  rw [codes_eq]
  intro c hc
  simp only [codes1, List.mem_cons, List.not_mem_nil, or_false] at hc
  rcases hc with rfl | rfl | rfl | rfl | rfl | rfl
  · exact w_c0
  · exact w_c1
  · exact w_c2
  · exact w_c3
  · exact w_c4
  · exact w_c5
set_option maxRecDepth 65536 in
theorem w_t1 : (words1.take 24).all (fun c => isCode c || c.before args0 about1) = true := by decide +kernel
set_option maxRecDepth 65536 in
theorem w_t2 : (words1.drop 24).all (fun c => isCode c || c.before args0 about1) = true := by decide +kernel
theorem w_tables : (allAtoms (Jvm.Cond.code x code maxLocals ret :: tables_1)).before args0 about1 = true := by
  rw [allAtoms_all]
  show words1.all (fun c => c.before args0 about1) = true
  refine all_split ?_ w_codes
  rw [← List.take_append_drop 24 words1, List.all_append, w_t1, w_t2]
  rfl
set_option maxRecDepth 65536 in
theorem w_case : (Jvm.Cond.and given_1 narrow_1).before args0 about1 = true := by decide +kernel
theorem w_applies : (headSpec (Jvm.Cond.code x code maxLocals ret :: tables_1) room_1).applies x e0.platform about1 = true :=
  (Spec.applies_iff w_frames).mpr ⟨w_running, w_runnable, w_alone, w_named, w_hears, w_ripe, w_room, w_tables⟩
theorem atStart : AtStart classFile x code maxLocals ret World_1 tables_1 room_1 Calls_1 rest_1 Pre_1 launch0 p0 e0 about1 theMethod args0 below0 :=
  ⟨lists_1, trivial, launch0.admits_env _ _ _, launch0.least_env, fairChoices_fair.cas, fairChoices_fair.clock, w_frames, w_args, w_heap, w_applies, trivial, trivial, w_case⟩
end start1
theorem witness_1 : WitnessClaimed_1 := ⟨start1.p0, start1.e0, start1.about1, start1.theMethod, start1.args0, start1.below0, start1.atStart⟩
end Jvm.Pilot.@@N@@
