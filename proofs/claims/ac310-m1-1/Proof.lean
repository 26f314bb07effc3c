import JvmDerived
import JvmDerived.Pilot.@@N@@Statement
import JvmDerived.Pilot.@@N@@Code
set_option linter.unusedVariables false
set_option linter.unusedSimpArgs false
namespace Jvm.RoadKit
open Sem ClassFile Op Lib Jvm.Stand Jvm.Free Jvm.LawKit
/-! own_: walks written forward: 'Goes P T g': from the frame g at T the run comes to a state that P takes. -/
def Goes (p : Program) (e : Env) (below : List Frame) (P : State → Prop) (T : State) (g : JFrame) : Prop := ∃ t, Steps p.tables e below (T.setTop g) t ∧ P t
/-- how a body ends: it returned v, and Q holds of v, the heap and the places written -/
def Fin1 (below : List Frame) (s : State) (rm : Room) (Q : Option Value → Heap → List Loc → Prop) (t : State) : Prop :=
  ∃ o, t.status = .running ∧ Ended t below o ∧ ∃ v L, o = .returned v ∧ Q v t.heap L ∧ FrameEnd s o t L rm.cells rm.slots
/-- a body's contract -/
def Does (l : Launch) (y : MethodName) (bytes : ByteArray) (maxL : Nat) (ret : Option FieldType) (ws : List Cond) (rm : Room) (Z : State) (as' : Array Value) (h : Heap) (Q : Option Value → Heap → List Loc → Prop) : Prop :=
  MetFree l y (head1 (Cond.code y bytes maxL ret :: ws) rm) (fun a U => a = as' ∧ Z.Warmed39 U.vm ∧ U.heap = h) (fun _ _ _ _ _ => True) (fun _ U o U' => ∃ v L, o = .returned v ∧ Q v U'.heap L ∧ FrameEnd U o U' L rm.cells rm.slots)
section Own
variable {p : Program} {l : Launch} {e : Env} {R : Room} {s : State} {m : MethodId} {args : Array Value} {below : List Frame} {meth : Method} {c : Code} {T T' : State} {locs : List Loc} {cells slots : Nat} {Z : State} {a0 : Array Value} {h h' : Heap} {g g' : JFrame} {P : State → Prop}
theorem Goes.by (st : ∀ target, Steps p.tables e below (T'.setTop g') target → Steps p.tables e below (T.setTop g) target) (k : Goes p e below P T' g') : Goes p e below P T g := by
  obtain ⟨t, h1, h2⟩ := k
  exact ⟨t, st _ h1, h2⟩
theorem Goes.cast (q : g = g') (k : Goes p e below P T g') : Goes p e below P T g := q ▸ k
theorem Does.of {y : MethodName} {bytes : ByteArray} {maxL : Nat} {ret : Option FieldType} {ws : List Cond} {rm : Room} {as' : Array Value} {Q : Option Value → Heap → List Loc → Prop} (hp : plainFor y = true)
    (body : ∀ (p : Program) (e : Env) (s : State) (m : MethodId) (below : List Frame) (meth : Method) (c : Code) (s₁ : State), p.tables.exec = Jvm.exec → c.code = bytes → c.maxLocals = maxL → meth.sig.returnType = ret → meth.locks = false → Z.Warmed39 s.vm → s.vm.findClass y.cls = some m.cls → meth.name = y.name → Stand p l e rm s m as' below meth c s₁ [] 0 0 → s₁.heap = h →
      Goes p e below (Fin1 below s rm Q) s₁ (entryFrame m as' maxL)) : Does l y bytes maxL ret ws rm Z as' h Q := by
  refine MetFree.of_bodySF hp hisR ?_
  intro p e s m args below meth c s₁ Bd hml0 hP hK
  obtain ⟨rfl, hZ, hh⟩ := hP
  have e0 : s₁.heap = h := by rw [← hh, Bd.state]; rfl
  obtain ⟨t, h1, o, h2⟩ := body p e s m below meth c s₁ Bd.exec Bd.bytes hml0 Bd.returns Bd.notSynchronized hZ (findClass_of_methodNamed Bd.named) ((name_of_methodNamed Bd.named Bd.method).1) (Stand.of_body Bd) e0
  exact ⟨t, o, h1, h2⟩
theorem fin_of {rm : Room} {Q : Option Value → Heap → List Loc → Prop} {v : Option Value} (X : Stand p l e R s m args below meth c T locs cells slots) (hlk : meth.locks = false) (hv : meth.sig.returnType = none → v = none) (hQ : Q v T.heap locs) (hc : cells ≤ rm.cells) (hs : slots ≤ rm.slots)
    (st : ∀ fs, (∀ (f : JFrame) (acts : List Action), f.method = m → f.locked = none → f.entered = [] → (doReturn e (T.setTop f) acts v).1 = T.setFrames fs) → Steps p.tables e below (T.setTop g) (T.setFrames fs)) : Goes p e below (Fin1 below s rm Q) T g := by
  obtain ⟨fs, hr, hrun, hended, hW, hsame⟩ := X.leave (v := v) hv hlk
  exact ⟨_, st fs hr, _, hrun, hended, _, _, rfl, hQ, ⟨_, rfl⟩, hW, hsame.mono hc hs⟩
theorem outV {rm : Room} {Q : Option Value → Heap → List Loc → Prop} {pc : Nat} {Ls : Array Slot} (X : Stand p l e R s m args below meth c T locs cells slots) (hx : p.tables.exec = Jvm.exec) (hlk : meth.locks = false) (hret : meth.sig.returnType = none) (hd : decode c.code pc = .ok (.return_, 1)) (hQ : Q none T.heap locs) (hc : cells ≤ rm.cells) (hs : slots ≤ rm.slots) : Goes p e below (Fin1 below s rm Q) T (mkF m pc Ls []) :=
  fin_of X hlk (fun _ => rfl) hQ hc hs fun fs hr => X.returnOut hx hret hd hr
theorem outZ {rm : Room} {Q : Option Value → Heap → List Loc → Prop} {pc : Nat} {Ls : Array Slot} {z : Int32} {rest : List Value} (X : Stand p l e R s m args below meth c T locs cells slots) (hx : p.tables.exec = Jvm.exec) (hlk : meth.locks = false) (hret : meth.sig.returnType = some .boolean) (hd : decode c.code pc = .ok (.ireturn, 1)) (hQ : Q (some (.int (nar .boolean z))) T.heap locs) (hc : cells ≤ rm.cells) (hs : slots ≤ rm.slots) : Goes p e below (Fin1 below s rm Q) T (mkF m pc Ls (.int z :: rest)) :=
  fin_of X hlk (fun h => by rw [hret] at h; cases h) hQ hc hs fun fs hr => retN X hx (t := .boolean) hret (by simp) hd hr
theorem outO {rm : Room} {Q : Option Value → Heap → List Loc → Prop} {pc : Nat} {Ls : Array Slot} {w : Value} {t : FieldType} {i : Instr} {rest : List Value} (X : Stand p l e R s m args below meth c T locs cells slots) (hx : p.tables.exec = Jvm.exec) (hlk : meth.locks = false) (hret : meth.sig.returnType = some t) (hn : narrow t w = w)
    (hi : (i = .ireturn ∧ (t = .int ∨ t = .boolean ∨ t = .byte ∨ t = .char ∨ t = .short) ∧ ∃ z, w = .int z) ∨ (i = .lreturn ∧ t = .long ∧ ∃ z, w = .long z) ∨ (i = .dreturn ∧ t = .double ∧ ∃ z, w = .double z) ∨ (i = .freturn ∧ t = .float ∧ ∃ z, w = .float z) ∨ (i = .areturn ∧ t.isReference = true ∧ w.isRef = true))
    (hd : decode c.code pc = .ok (i, 1)) (hQ : Q (some w) T.heap locs) (hc : cells ≤ rm.cells) (hs : slots ≤ rm.slots) : Goes p e below (Fin1 below s rm Q) T (mkF m pc Ls (w :: rest)) :=
  fin_of X hlk (fun h => by rw [hret] at h; cases h) hQ hc hs fun fs hr => retOut X hx hret hn hi hd hr
theorem outI {rm : Room} {Q : Option Value → Heap → List Loc → Prop} {pc : Nat} {Ls : Array Slot} {z : Int32} {rest : List Value} (X : Stand p l e R s m args below meth c T locs cells slots) (hx : p.tables.exec = Jvm.exec) (hlk : meth.locks = false) (hret : meth.sig.returnType = some .int) (hd : decode c.code pc = .ok (.ireturn, 1)) (hQ : Q (some (.int z)) T.heap locs) (hc : cells ≤ rm.cells) (hs : slots ≤ rm.slots) : Goes p e below (Fin1 below s rm Q) T (mkF m pc Ls (.int z :: rest)) :=
  outO X hx hlk hret rfl (Or.inl ⟨rfl, Or.inl rfl, _, rfl⟩) hd hQ hc hs
theorem outJ {rm : Room} {Q : Option Value → Heap → List Loc → Prop} {pc : Nat} {Ls : Array Slot} {z : Int64} {rest : List Value} (X : Stand p l e R s m args below meth c T locs cells slots) (hx : p.tables.exec = Jvm.exec) (hlk : meth.locks = false) (hret : meth.sig.returnType = some .long) (hd : decode c.code pc = .ok (.lreturn, 1)) (hQ : Q (some (.long z)) T.heap locs) (hc : cells ≤ rm.cells) (hs : slots ≤ rm.slots) : Goes p e below (Fin1 below s rm Q) T (mkF m pc Ls (.long z :: rest)) :=
  outO X hx hlk hret rfl (Or.inr (Or.inl ⟨rfl, rfl, _, rfl⟩)) hd hQ hc hs
theorem outD {rm : Room} {Q : Option Value → Heap → List Loc → Prop} {pc : Nat} {Ls : Array Slot} {z : UInt64} {rest : List Value} (X : Stand p l e R s m args below meth c T locs cells slots) (hx : p.tables.exec = Jvm.exec) (hlk : meth.locks = false) (hret : meth.sig.returnType = some .double) (hd : decode c.code pc = .ok (.dreturn, 1)) (hQ : Q (some (.double z)) T.heap locs) (hc : cells ≤ rm.cells) (hs : slots ≤ rm.slots) : Goes p e below (Fin1 below s rm Q) T (mkF m pc Ls (.double z :: rest)) :=
  outO X hx hlk hret rfl (Or.inr (Or.inr (Or.inl ⟨rfl, rfl, _, rfl⟩))) hd hQ hc hs
theorem outA {rm : Room} {Q : Option Value → Heap → List Loc → Prop} {pc : Nat} {Ls : Array Slot} {w : Value} {t : FieldType} {rest : List Value} (X : Stand p l e R s m args below meth c T locs cells slots) (hx : p.tables.exec = Jvm.exec) (hlk : meth.locks = false) (hret : meth.sig.returnType = some t) (ht : t.isReference = true) (hw : w.isRef = true) (hn : narrow t w = w) (hd : decode c.code pc = .ok (.areturn, 1)) (hQ : Q (some w) T.heap locs) (hc : cells ≤ rm.cells) (hs : slots ≤ rm.slots) : Goes p e below (Fin1 below s rm Q) T (mkF m pc Ls (w :: rest)) :=
  outO X hx hlk hret hn (Or.inr (Or.inr (Or.inr (Or.inr ⟨rfl, ht, hw⟩)))) hd hQ hc hs
/-! calls by a contract -/
theorem callI (X : Stand p l e R s m args below meth c T locs cells slots) (hx : p.tables.exec = Jvm.exec) (hZ : Z.Warmed39 s.vm) {own : String} {index : Nat} {y : MethodName} (hy1 : y.name = "<init>") (hown : s.vm.findClass own = some m.cls) {bytes : ByteArray} {maxL : Nat} {rm : Room}
    (w1 : (Cond.methodLink own index y).before a0 Z = true) (w2 : (Cond.instanceMethod y).before a0 Z = true) (w3 : (Cond.code y bytes maxL none).before a0 Z = true) (w4 : (Cond.initialized y.cls).before a0 Z = true) (hy : y.cls ≠ "java/lang/invoke/MethodHandle" ∧ y.cls ≠ "java/lang/invoke/VarHandle")
    (eT : T.heap = h) {a : Addr} {argsL rest : List Value} {as' : Array Value} {Q : Option Value → Heap → List Loc → Prop} {W : Nat} (hM : Does l y bytes maxL none [] rm Z as' h Q) (has : (.ref a :: argsL).toArray = as') (hf : rm.frames + 1 ≤ R.frames) (hl : W + (maxL + 11) + rm.locals ≤ R.locals)
    (hcc : cells + rm.cells ≤ R.cells) (hss : slots + rm.slots ≤ R.slots) {g : JFrame} (hg : g.method = m) (hsize : g.locals.size = c.maxLocals) (hlen : ∀ sig, parseMethodDescriptor y.desc = some sig → argsL.length = sig.parameters.length) (hst : g.stack = argsL.reverse ++ .ref a :: rest) (hW : 2 * g.monitorRoom + (rest.map fun v => v.category).sum ≤ W) (hd : decode c.code g.pc = .ok (.invokespecial index, 3)) :
    ∃ v T' L, Stand p l e R s m args below meth c T' (locs ++ L) (cells + rm.cells) (slots + rm.slots) ∧ Q v T'.heap L ∧ ∀ target, Steps p.tables e below (T'.setTop { g with pc := g.pc + 3, stack := v.toList ++ rest }) target → Steps p.tables e below (T.setTop g) target := by
  obtain ⟨v, vm1, ⟨T', L', k', n'⟩, -, X', ⟨L, hQ, e1, e2, e3⟩, st⟩ := X.specialBack hx (y := y) hy1 hown (mvT hZ w1) (mvT hZ w2) (mvT hZ w3) hy (backOf (W := W) hM hZ w3 w4 hf hl) hg hsize (Steps.refl _) hlen hst hW hd (fun _ _ => ⟨has, eT, hcc, hss⟩)
  dsimp only [Pt.U, Pt.locs, Pt.cells, Pt.slots] at X' e1 e2 e3 st hQ
  subst e1 e2 e3
  exact ⟨v, T', L, X', hQ, fun t k => st.trans k⟩
theorem callV (X : Stand p l e R s m args below meth c T locs cells slots) (hx : p.tables.exec = Jvm.exec) (hZ : Z.Warmed39 s.vm) {own C : String} {index : Nat} {y : MethodName} (hown : s.vm.findClass own = some m.cls) {bytes : ByteArray} {maxL : Nat} {ret : Option FieldType} {rm : Room}
    (w1 : (Cond.methodLink own index y).before a0 Z = true) (w2 : (Cond.declares y).before a0 Z = true) (w3 : (Cond.selects C y y).before a0 Z = true) (w4 : (Cond.instanceMethod y).before a0 Z = true) (w5 : (Cond.code y bytes maxL ret).before a0 Z = true) (w6 : (Cond.initialized y.cls).before a0 Z = true) (hy : y.cls ≠ "java/lang/invoke/MethodHandle" ∧ y.cls ≠ "java/lang/invoke/VarHandle")
    (eT : T.heap = h) {a : Addr} (E : Exa Z h a C) {argsL rest : List Value} {as' : Array Value} {Q : Option Value → Heap → List Loc → Prop} {W : Nat} (hM : Does l y bytes maxL ret [] rm Z as' h Q) (has : (.ref a :: argsL).toArray = as') (hf : rm.frames + 1 ≤ R.frames) (hl : W + (maxL + 11) + rm.locals ≤ R.locals)
    (hcc : cells + rm.cells ≤ R.cells) (hss : slots + rm.slots ≤ R.slots) {g : JFrame} (hg : g.method = m) (hsize : g.locals.size = c.maxLocals) (hlen : ∀ sig, parseMethodDescriptor y.desc = some sig → argsL.length = sig.parameters.length) (hst : g.stack = argsL.reverse ++ .ref a :: rest) (hW : 2 * g.monitorRoom + (rest.map fun v => v.category).sum ≤ W) (hd : decode c.code g.pc = .ok (.invokevirtual index, 3)) :
    ∃ v T' L, Stand p l e R s m args below meth c T' (locs ++ L) (cells + rm.cells) (slots + rm.slots) ∧ Q v T'.heap L ∧ ∀ target, Steps p.tables e below (T'.setTop { g with pc := g.pc + 3, stack := v.toList ++ rest }) target → Steps p.tables e below (T.setTop g) target := by
  obtain ⟨cB, kB, q1, q2, q3⟩ := isOf hZ eT E
  obtain ⟨v, vm1, ⟨T', L', k', n'⟩, -, X', ⟨L, hQ, e1, e2, e3⟩, st⟩ := X.virtualBack hx (y := y) (z := y) hown (mvT hZ w1) (mvT hZ w2) (notFace_of_selects (args := args) (mvT hZ w3)) (mvT hZ w3) (mvT hZ w4) hy (backOf (W := W) hM hZ w5 w6 hf hl) q1 q3 hg hsize (Steps.refl _) hlen hst hW hd (fun _ _ => ⟨has, eT, hcc, hss⟩)
  dsimp only [Pt.U, Pt.locs, Pt.cells, Pt.slots] at X' e1 e2 e3 st hQ
  subst e1 e2 e3
  exact ⟨v, T', L, X', hQ, fun t k => st.trans k⟩
theorem callC (X : Stand p l e R s m args below meth c T locs cells slots) (hx : p.tables.exec = Jvm.exec) (hZ : Z.Warmed39 s.vm) {own : String} {index : Nat} {y : MethodName} (hown : s.vm.findClass own = some m.cls) {bytes : ByteArray} {maxL : Nat} {ret : Option FieldType} {rm : Room}
    (w1 : (Cond.methodLink own index y).before a0 Z = true) (w2 : (Cond.static y).before a0 Z = true) (w3 : (Cond.code y bytes maxL ret).before a0 Z = true) (w4 : (Cond.initialized y.cls).before a0 Z = true) (hy : y.cls ≠ "java/lang/invoke/MethodHandle" ∧ y.cls ≠ "java/lang/invoke/VarHandle")
    (eT : T.heap = h) {argsL rest : List Value} {as' : Array Value} {Q : Option Value → Heap → List Loc → Prop} {W : Nat} (hM : Does l y bytes maxL ret [] rm Z as' h Q) (has : argsL.toArray = as') (hf : rm.frames + 1 ≤ R.frames) (hl : W + (maxL + 11) + rm.locals ≤ R.locals)
    (hcc : cells + rm.cells ≤ R.cells) (hss : slots + rm.slots ≤ R.slots) {g : JFrame} (hg : g.method = m) (hsize : g.locals.size = c.maxLocals) (hlen : ∀ sig, parseMethodDescriptor y.desc = some sig → argsL.length = sig.parameters.length) (hst : g.stack = argsL.reverse ++ rest) (hW : 2 * g.monitorRoom + (rest.map fun v => v.category).sum ≤ W) (hd : decode c.code g.pc = .ok (.invokestatic index, 3)) :
    ∃ v T' L, Stand p l e R s m args below meth c T' (locs ++ L) (cells + rm.cells) (slots + rm.slots) ∧ Q v T'.heap L ∧ ∀ target, Steps p.tables e below (T'.setTop { g with pc := g.pc + 3, stack := v.toList ++ rest }) target → Steps p.tables e below (T.setTop g) target := by
  obtain ⟨v, vm1, ⟨T', L', k', n'⟩, -, X', ⟨L, hQ, e1, e2, e3⟩, st⟩ := Jvm.LawKit.callS X hx (y := y) hown (mvT hZ w1) (mvT hZ w2) (mvT hZ w4) (mvT hZ w3) hy (backOf (W := W) hM hZ w3 w4 hf hl) hg hsize hlen hst hW hd (fun _ _ => ⟨has, eT, hcc, hss⟩)
  dsimp only [Pt.U, Pt.locs, Pt.cells, Pt.slots] at X' e1 e2 e3 st hQ
  subst e1 e2 e3
  exact ⟨v, T', L, X', hQ, st⟩
end Own
end Jvm.RoadKit
namespace Jvm.Free.XS
open Sem ClassFile Op Lib
theorem lcmpS {tb : Tables} [Ours tb] {e : Env} {below : List Frame} {T target : State} {m : MethodId} {c : Code} {g : JFrame} (h : At T m c below) (hx : tb.exec = Jvm.exec) (hg : g.method = m) {x y : Int64} {v : Int32} {rest : List Value} (hd : decode c.code g.pc = .ok (.lcmp, 1)) (hs : g.stack = .long y :: .long x :: rest) (hv : Jvm.RoadKit.lcmpW x y = v)
    (hr : Steps tb e below (T.setTop { g with pc := g.pc + 1, stack := .int v :: rest }) target) : Steps tb e below (T.setTop g) target := by
  subst hv
  exact lcmp h hx hg hd hs hr
end Jvm.Free.XS
namespace Jvm.RoadKit
open Sem ClassFile Op Lib Jvm.Stand Jvm.Free Jvm.LawKit Jvm.FP Jvm.Free.Fl
section OwnD
theorem own_cmp (i j : Int) : compare i j = if i < j then Ordering.lt else if i = j then Ordering.eq else Ordering.gt := rfl
theorem cmpL_lt {x y : Int64} (h : x < y) : lcmpW x y = -1 := by
  have h' := Int64.lt_iff_toInt_lt.mp h
  show (if y < x then (1 : Int32) else if x = y then 0 else -1) = -1
  rw [if_neg (fun q => by have := Int64.lt_iff_toInt_lt.mp q; omega), if_neg (fun q => by rw [q] at h'; omega)]
theorem cmpL_eq {x y : Int64} (h : x = y) : lcmpW x y = 0 := by
  subst h
  show (if x < x then (1 : Int32) else if x = x then 0 else -1) = 0
  rw [if_neg (fun q => by have := Int64.lt_iff_toInt_lt.mp q; omega), if_pos rfl]
theorem cmpL_gt {x y : Int64} (h : y < x) : lcmpW x y = 1 := by
  show (if y < x then (1 : Int32) else if x = y then 0 else -1) = 1
  rw [if_pos h]
theorem DInt_nn {i : Int} {x : UInt64} (h : Core.DInt i x) : NoNaN64 x := val64_no.mpr (Core.DInt_ne_nan h)
theorem DInt_fin {i : Int} {x : UInt64} (h : Core.DInt i x) : Fin64 x := fin64_core.mpr (by
  have h' : Core.Whole i (Core.val64 x) := h
  cases q : Core.val64 x with
  | nan => rw [q] at h'; exact h'.elim
  | inf s => rw [q] at h'; exact h'.elim
  | fin s c e => exact ⟨s, c, e, q⟩)
theorem cmpD_lt {i j : Int} {x y : UInt64} (hx : Core.DInt i x) (hy : Core.DInt j y) (h : i < j) (o : CmpOp) : cmpValue (FP.dcmp x y) o = -1 := by
  rw [show FP.dcmp x y = _ from Core.dcmp_int hx hy, own_cmp, if_pos h]; rfl
theorem cmpD_eq {i j : Int} {x y : UInt64} (hx : Core.DInt i x) (hy : Core.DInt j y) (h : i = j) (o : CmpOp) : cmpValue (FP.dcmp x y) o = 0 := by
  rw [show FP.dcmp x y = _ from Core.dcmp_int hx hy, own_cmp, if_neg (by omega), if_pos h]; rfl
theorem cmpD_gt {i j : Int} {x y : UInt64} (hx : Core.DInt i x) (hy : Core.DInt j y) (h : j < i) (o : CmpOp) : cmpValue (FP.dcmp x y) o = 1 := by
  rw [show FP.dcmp x y = _ from Core.dcmp_int hx hy, own_cmp, if_neg (by omega), if_neg (by omega)]; rfl
theorem DInt_zero : Core.DInt 0 0 := by
  have h := Core.l2d_int (a := 0) (by decide)
  rw [show Core.l2d 0 = 0 from l2d_zero] at h
  exact h
theorem DInt_i2d {x : Int32} {d : UInt64} (q : FP.i2d x = d) : Core.DInt x.toInt d := q ▸ Core.i2d_int x
theorem DInt_l2d {x : Int64} {d : UInt64} (q : FP.l2d x = d) (h : x.toInt.natAbs ≤ 2 ^ 53) : Core.DInt x.toInt d := q ▸ Core.l2d_int h
theorem DInt_add {i j : Int} {a b d : UInt64} (q : FP.dadd a b = d) (ha : Core.DInt i a) (hb : Core.DInt j b) (h : (i + j).natAbs ≤ 2 ^ 53) : Core.DInt (i + j) d := q ▸ Core.dadd_int ha hb h
theorem DInt_sub {i j : Int} {a b d : UInt64} (q : FP.dsub a b = d) (ha : Core.DInt i a) (hb : Core.DInt j b) (h : (i - j).natAbs ≤ 2 ^ 53) : Core.DInt (i - j) d := q ▸ Core.dsub_int ha hb h
theorem DInt_mul {i j : Int} {a b d : UInt64} (q : FP.dmul a b = d) (ha : Core.DInt i a) (hb : Core.DInt j b) (h : (i * j).natAbs ≤ 2 ^ 53) : Core.DInt (i * j) d := q ▸ Core.dmul_int ha hb h
end OwnD
/-! an array by the list of its values -/
def Sar (Z : State) (h : Heap) (a : Addr) (ty : FieldType) (vs : List Value) : Prop := ∃ c : Cell, Arr Z h a c ty ∧ c.slots = vs.toArray
section OwnA
variable {p : Program} {l : Launch} {e : Env} {R : Room} {s : State} {m : MethodId} {args : Array Value} {below : List Frame} {meth : Method} {c : Code} {T : State} {locs : List Loc} {cells slots : Nat} {Z : State} {a0 : Array Value} {h h' : Heap} {a b : Addr} {ty : FieldType} {vs : List Value} {sl : Nat} {v : Value} {ws : List Addr}
theorem Sar.lt (F : Sar Z h a ty vs) : a < h.size := by obtain ⟨c, A, -⟩ := F; exact A.lt
theorem Sar.ext (F : Sar Z h a ty vs) (E : Ext h h') : Sar Z h' a ty vs := by obtain ⟨c, A, r⟩ := F; exact ⟨c, A.ext E, r⟩
theorem Sar.other (F : Sar Z h b ty vs) (W : Wr h h' a sl v) (q : b ≠ a) : Sar Z h' b ty vs := by obtain ⟨c, A, r⟩ := F; exact ⟨c, A.other W q, r⟩
theorem Sar.keep (F : Sar Z h a ty vs) (K : Keep h h' ws) (q : a ∉ ws) : Sar Z h' a ty vs := by obtain ⟨c, A, r⟩ := F; exact ⟨c, ⟨K.2.1 a c A.1 q, A.2⟩, r⟩
theorem Sar.new {k : ClassId} {z : Int32} {n : Nat} (A : Arr Z h a (newA k ty z) ty) (hn : z.toNatClampNeg = n) : Sar Z h a ty (List.replicate n (defaultValue ty)) := ⟨_, A, by subst hn; show Array.replicate _ _ = _; simp⟩
theorem Sar.in {cl : Cell} {j : Int32} {i : Nat} (S : cl.slots = vs.toArray) (hj : j.toInt = i) (hi : i < vs.length) : ¬ (j < 0 ∨ cl.slots.size ≤ j.toNatClampNeg) := by
  rw [S]
  have q : j.toNatClampNeg = i := by show j.toInt.toNat = i; omega
  have r : ¬ j < 0 := fun z => by have z' := Int32.lt_iff_toInt_lt.mp z; rw [hj] at z'; simp at z'; omega
  rw [q]
  simp only [List.size_toArray]
  intro z
  rcases z with z | z
  · exact r z
  · omega
theorem Sar.nat {j : Int32} {i : Nat} (hj : j.toInt = i) : j.toNatClampNeg = i := by show j.toInt.toNat = i; omega
theorem stDS (X : Stand p l e R s m args below meth c T locs cells slots) (hx : p.tables.exec = Jvm.exec) (hZ : Z.Warmed39 s.vm) (eT : T.heap = h) (V : Sar Z h a .double vs) {j : Int32} {x : UInt64} (i : Nat) (hj : j.toInt = i) (hi : i < vs.length) {g : JFrame} (hg : g.method = m) {rest : List Value} (hs : g.stack = .double x :: .int j :: .ref a :: rest) (hd : decode c.code g.pc = .ok (.dastore, 1)) :
    ∃ T' h', Stand p l e R s m args below meth c T' (locs ++ [⟨a, i⟩]) cells slots ∧ T'.heap = h' ∧ Wr h h' a i (.double x) ∧ Sar Z h' a .double (vs.set i (.double x)) ∧ ∀ target, Steps p.tables e below (T'.setTop { g with pc := g.pc + 1, stack := rest }) target → Steps p.tables e below (T.setTop g) target := by
  obtain ⟨cl, A, S⟩ := V
  obtain ⟨T', h', X', e', W, st⟩ := stD X hx hZ eT A (Sar.in S hj hi) hg hs hd
  rw [Sar.nat hj] at X' W
  exact ⟨T', h', X', e', W, ⟨_, A.same W, by show cl.slots.setIfInBounds _ _ = _; rw [S]; simp⟩, st⟩
theorem stIS (X : Stand p l e R s m args below meth c T locs cells slots) (hx : p.tables.exec = Jvm.exec) (hZ : Z.Warmed39 s.vm) (eT : T.heap = h) (V : Sar Z h a .int vs) {j : Int32} {x : Int32} (i : Nat) (hj : j.toInt = i) (hi : i < vs.length) {g : JFrame} (hg : g.method = m) {rest : List Value} (hs : g.stack = .int x :: .int j :: .ref a :: rest) (hd : decode c.code g.pc = .ok (.iastore, 1)) :
    ∃ T' h', Stand p l e R s m args below meth c T' (locs ++ [⟨a, i⟩]) cells slots ∧ T'.heap = h' ∧ Wr h h' a i (.int x) ∧ Sar Z h' a .int (vs.set i (.int x)) ∧ ∀ target, Steps p.tables e below (T'.setTop { g with pc := g.pc + 1, stack := rest }) target → Steps p.tables e below (T.setTop g) target := by
  obtain ⟨cl, A, S⟩ := V
  obtain ⟨T', h', X', e', W, st⟩ := stI X hx hZ eT A (Sar.in S hj hi) hg hs hd
  rw [Sar.nat hj] at X' W
  exact ⟨T', h', X', e', W, ⟨_, A.same W, by show cl.slots.setIfInBounds _ _ = _; rw [S]; simp⟩, st⟩
theorem ldDS (X : Stand p l e R s m args below meth c T locs cells slots) (hx : p.tables.exec = Jvm.exec) (hZ : Z.Warmed39 s.vm) (eT : T.heap = h) (V : Sar Z h a .double vs) {j : Int32} (i : Nat) (hj : j.toInt = i) (hv : vs[i]? = some v) {g : JFrame} (hg : g.method = m) {rest : List Value} (hs : g.stack = .int j :: .ref a :: rest) (hd : decode c.code g.pc = .ok (.daload, 1)) :
    ∀ target, Steps p.tables e below (T.setTop { g with pc := g.pc + 1, stack := v :: rest }) target → Steps p.tables e below (T.setTop g) target := by
  obtain ⟨cl, A, S⟩ := V
  have hi : i < vs.length := (List.getElem?_eq_some_iff.mp hv).1
  exact X.daload hx (by rw [eT]; exact A.1) (State.isArrayOf_alike hZ.alike A.2.1) A.2.2 (Sar.in S hj hi) (by rw [S, Sar.nat hj]; simpa using hv) hg hs hd
theorem ldIS (X : Stand p l e R s m args below meth c T locs cells slots) (hx : p.tables.exec = Jvm.exec) (hZ : Z.Warmed39 s.vm) (eT : T.heap = h) (V : Sar Z h a .int vs) {j : Int32} (i : Nat) (hj : j.toInt = i) (hv : vs[i]? = some v) {g : JFrame} (hg : g.method = m) {rest : List Value} (hs : g.stack = .int j :: .ref a :: rest) (hd : decode c.code g.pc = .ok (.iaload, 1)) :
    ∀ target, Steps p.tables e below (T.setTop { g with pc := g.pc + 1, stack := v :: rest }) target → Steps p.tables e below (T.setTop g) target := by
  obtain ⟨cl, A, S⟩ := V
  have hi : i < vs.length := (List.getElem?_eq_some_iff.mp hv).1
  exact X.iaload hx (by rw [eT]; exact A.1) (State.isArrayOf_alike hZ.alike A.2.1) A.2.2 (Sar.in S hj hi) (by rw [S, Sar.nat hj]; simpa using hv) hg hs hd
theorem lenS (X : Stand p l e R s m args below meth c T locs cells slots) (hx : p.tables.exec = Jvm.exec) (hZ : Z.Warmed39 s.vm) (eT : T.heap = h) (V : Sar Z h a ty vs) {n : Int32} (hn : vs.length.toInt32 = n) {g : JFrame} (hg : g.method = m) {rest : List Value} (hs : g.stack = .ref a :: rest) (hd : decode c.code g.pc = .ok (.arraylength, 1)) :
    ∀ target, Steps p.tables e below (T.setTop { g with pc := g.pc + 1, stack := .int n :: rest }) target → Steps p.tables e below (T.setTop g) target := by
  obtain ⟨cl, A, S⟩ := V
  intro target k
  refine X.arraylength hx (by rw [eT]; exact A.1) (State.isArrayOf_alike hZ.alike A.2.1) hg hs hd target ?_
  rw [S]
  simp only [List.size_toArray, hn]
  exact k
end OwnA
end Jvm.RoadKit
namespace Jvm.RoadKit
open Jvm.FP Jvm.Free.Fl
theorem DInt_nz {i : Int} {x : UInt64} (h : Core.DInt i x) (hi : i ≠ 0) : Nz64 x := nz64_core.mpr fun z => by
  obtain ⟨s, q, e⟩ := z
  have h' : Core.Whole i (Core.val64 x) := h
  rw [e] at h'
  exact hi ((Core.whole_zero h').mp rfl)
theorem DInt_one : Core.DInt 1 4607182418800017408 := Core.dint_one
end Jvm.RoadKit
namespace Jvm.RoadKit
open Jvm.FP Jvm.Free.Fl Op
theorem cmpD_le {i j : Int} {x y : UInt64} (hx : Core.DInt i x) (hy : Core.DInt j y) (h : i ≤ j) (o : ClassFile.CmpOp) : ∃ v : Int32, cmpValue (FP.dcmp x y) o = v ∧ ¬ (0 : Int32) < v := by
  by_cases q : i < j
  · exact ⟨-1, cmpD_lt hx hy q o, by decide⟩
  · exact ⟨0, cmpD_eq hx hy (by omega) o, by decide⟩
theorem cmpD_ge {i j : Int} {x y : UInt64} (hx : Core.DInt i x) (hy : Core.DInt j y) (h : j ≤ i) (o : ClassFile.CmpOp) : ∃ v : Int32, cmpValue (FP.dcmp x y) o = v ∧ ¬ v < (0 : Int32) := by
  by_cases q : j < i
  · exact ⟨1, cmpD_gt hx hy q o, by decide⟩
  · exact ⟨0, cmpD_eq hx hy (by omega) o, by decide⟩
end Jvm.RoadKit
namespace Jvm.RoadKit
open Jvm.Free
theorem cmpL_le {x y : Int64} (h : ¬ y.toInt < x.toInt) : ∃ v : Int32, lcmpW x y = v ∧ ¬ (0 : Int32) < v := by
  by_cases q : x.toInt < y.toInt
  · exact ⟨-1, cmpL_lt (Int64.lt_iff_toInt_lt.mpr q), by decide⟩
  · exact ⟨0, cmpL_eq (Int64.toInt_inj.mp (by omega)), by decide⟩
theorem cmpL_gtI {x y : Int64} (h : y.toInt < x.toInt) : lcmpW x y = 1 := cmpL_gt (Int64.lt_iff_toInt_lt.mpr h)
end Jvm.RoadKit
namespace Jvm.RoadKit
open Jvm.Free
theorem cmpL_ge {x y : Int64} (h : ¬ x.toInt < y.toInt) : ∃ v : Int32, lcmpW x y = v ∧ ¬ v < (0 : Int32) := by
  by_cases q : y.toInt < x.toInt
  · exact ⟨1, cmpL_gtI q, by decide⟩
  · exact ⟨0, cmpL_eq (Int64.toInt_inj.mp (by omega)), by decide⟩
end Jvm.RoadKit
namespace Jvm.RoadKit
section OwnN
theorem own_mb {i j : Int} {A B : Nat} (hi : i.natAbs ≤ A) (hj : j.natAbs ≤ B) : (i * j).natAbs ≤ A * B := by rw [Int.natAbs_mul]; exact Nat.mul_le_mul hi hj
theorem own_mb2 {i j : Int} {A B : Nat} (hi : -(A : Int) ≤ i ∧ i ≤ A) (hj : -(B : Int) ≤ j ∧ j ≤ B) : -((A * B : Nat) : Int) ≤ i * j ∧ i * j ≤ ((A * B : Nat) : Int) := by
  have h := own_mb (i := i) (j := j) (A := A) (B := B) (by omega) (by omega)
  omega
theorem own_ladd {a b : Int64} (h1 : -9223372036854775808 ≤ a.toInt + b.toInt) (h2 : a.toInt + b.toInt < 9223372036854775808) : (a + b).toInt = a.toInt + b.toInt := by
  have := c_ladd a b; have := rng64 (a + b); omega
theorem own_lsub {a b : Int64} (h1 : -9223372036854775808 ≤ a.toInt - b.toInt) (h2 : a.toInt - b.toInt < 9223372036854775808) : (a - b).toInt = a.toInt - b.toInt := by
  have := c_lsub a b; have := rng64 (a - b); omega
theorem own_lmul {a b : Int64} (h : (a.toInt * b.toInt).natAbs < 9223372036854775808) : (a * b).toInt = a.toInt * b.toInt := by
  have := c_lmul a b; have := rng64 (a * b); omega
theorem own_short (x : Int32) : (x.toInt16.toInt32).toInt.natAbs ≤ 32768 := by
  have := c_i2s x; omega
theorem own_and3 (x : Int32) : (x &&& 3) = 0 ∨ (x &&& 3) = 1 ∨ (x &&& 3) = 2 ∨ (x &&& 3) = 3 := by
  have h := c_and x 3 (by decide)
  have e : (3 : Int32).toInt = 3 := by decide
  simp only [← Int32.toInt_inj]
  rw [show (0 : Int32).toInt = 0 from by decide, show (1 : Int32).toInt = 1 from by decide, show (2 : Int32).toInt = 2 from by decide, e]
  omega
end OwnN
end Jvm.RoadKit
namespace Jvm.Pilot.@@N@@
open Jvm Jvm.ClassFile Sem Op Lib Jvm.Free Jvm.Stand Jvm.LawKit Jvm.RoadKit Jvm.FP Jvm.Free.Fl Bundle Jvm.Pilot.@@N@@.Jvm.D
theorem own_zmag_sign (s : Bool) (A B : Nat) (e : Int) : FP.Core.zmag FP.Core.b64 (FP.Core.roundRatio FP.Core.b64 s A B e) = FP.Core.zmag FP.Core.b64 (FP.Core.roundRatio FP.Core.b64 false A B e) := by
  cases s with
  | false => rfl
  | true =>
    have h := FP.Core.negate_roundRatio FP.Core.b64 true A B e
    rw [show (!true) = false from rfl] at h
    rw [← h]
    cases FP.Core.roundRatio FP.Core.b64 true A B e <;> rfl
theorem own_zw {k : Int} {d : FP.Core.Datum} (h : FP.Core.Whole k d) : FP.Core.zval FP.Core.b64 (FP.Core.round FP.Core.b64 d) = FP.Core.signed (decide (k < 0)) (FP.Core.zmag FP.Core.b64 (FP.Core.roundRatio FP.Core.b64 false k.natAbs 1 0)) ∧ FP.Core.round FP.Core.b64 d ≠ .nan := by
  cases d with
  | nan => exact h.elim
  | inf s => exact h.elim
  | fin s c q =>
    rw [FP.Core.round_whole h]
    refine ⟨?_, FP.Core.roundRatio_ne_nan _ _ _ _ _⟩
    show FP.Core.signed (FP.Core.sgn _) (FP.Core.zmag _ _) = _
    rw [FP.Core.sgn_roundRatio, own_zmag_sign]
    by_cases hk : k = 0
    · subst hk
      show FP.Core.signed s (FP.Core.zmag FP.Core.b64 (.fin false 0 FP.Core.b64.qmin)) = FP.Core.signed _ (FP.Core.zmag FP.Core.b64 (.fin false 0 FP.Core.b64.qmin))
      have e : FP.Core.zmag FP.Core.b64 (.fin false 0 FP.Core.b64.qmin) = 0 := by decide +kernel
      rw [e, FP.Core.signed_zero, FP.Core.signed_zero]
    · rw [FP.Core.whole_sign h hk]
theorem own_mulcmp {i j : Int} {a b : UInt64} {z : Int64} (ha : FP.Core.DInt i a) (hb : FP.Core.DInt j b) (hz : z.toInt = i * j) (o : CmpOp) : cmpValue (FP.dcmp (FP.dmul a b) (FP.l2d z)) o = 0 := by
  have h1 := own_zw (FP.Core.whole_product ha hb)
  have h2 := own_zw (FP.Core.whole_ofInt z.toInt)
  rw [← FP.Core.val64_dmul] at h1
  rw [← FP.Core.val64_l2d] at h2
  have q : FP.dcmp (FP.dmul a b) (FP.l2d z) = some .eq := FP.Core.dcmp_eq.mpr ⟨h1.2, h2.2, by rw [h1.1, h2.1, hz]⟩
  rw [q]; rfl
theorem own_imul64 (x y : Int32) : (x.toInt64 * y.toInt64).toInt = x.toInt * y.toInt := by
  have h1 := rng32 x
  have h2 := rng32 y
  have b : (x.toInt * y.toInt).natAbs ≤ 2147483648 * 2147483648 := own_mb (by omega) (by omega)
  rw [own_lmul (by rw [c_i2l, c_i2l]; omega), c_i2l, c_i2l]
theorem d1_0 : decode prog_37_method_5_code 0 = .ok (.aload_n 0, 1) := by decide +kernel
theorem d1_1 : decode prog_37_method_5_code 1 = .ok (.arraylength, 1) := by decide +kernel
theorem d1_2 : decode prog_37_method_5_code 2 = .ok (.newarray .double, 2) := by decide +kernel
theorem d1_4 : decode prog_37_method_5_code 4 = .ok (.astore_n 3, 1) := by decide +kernel
theorem d1_5 : decode prog_37_method_5_code 5 = .ok (.iconst 0, 1) := by decide +kernel
theorem d1_6 : decode prog_37_method_5_code 6 = .ok (.istore 4, 2) := by decide +kernel
theorem d1_8 : decode prog_37_method_5_code 8 = .ok (.iload 4, 2) := by decide +kernel
theorem d1_10 : decode prog_37_method_5_code 10 = .ok (.aload_n 0, 1) := by decide +kernel
theorem d1_11 : decode prog_37_method_5_code 11 = .ok (.arraylength, 1) := by decide +kernel
theorem d1_12 : decode prog_37_method_5_code 12 = .ok (.if_icmp .ge 19, 3) := by decide +kernel
theorem d1_15 : decode prog_37_method_5_code 15 = .ok (.aload_n 3, 1) := by decide +kernel
theorem d1_16 : decode prog_37_method_5_code 16 = .ok (.iload 4, 2) := by decide +kernel
theorem d1_18 : decode prog_37_method_5_code 18 = .ok (.aload_n 0, 1) := by decide +kernel
theorem d1_19 : decode prog_37_method_5_code 19 = .ok (.iload 4, 2) := by decide +kernel
theorem d1_21 : decode prog_37_method_5_code 21 = .ok (.daload, 1) := by decide +kernel
theorem d1_22 : decode prog_37_method_5_code 22 = .ok (.dload_n 1, 1) := by decide +kernel
theorem d1_23 : decode prog_37_method_5_code 23 = .ok (.dmul, 1) := by decide +kernel
theorem d1_24 : decode prog_37_method_5_code 24 = .ok (.dastore, 1) := by decide +kernel
theorem d1_25 : decode prog_37_method_5_code 25 = .ok (.iinc 4 1, 3) := by decide +kernel
theorem d1_28 : decode prog_37_method_5_code 28 = .ok (.goto (-20), 3) := by decide +kernel
theorem d1_31 : decode prog_37_method_5_code 31 = .ok (.aload_n 3, 1) := by decide +kernel
theorem d1_32 : decode prog_37_method_5_code 32 = .ok (.areturn, 1) := by decide +kernel
theorem pn0 : plainName "com/example/adhoq/adhoq/Vectors" = true := by first | (simp [plainName, overriddenIn]; done) | decide +kernel
theorem pd0 : parseMethodDescriptor "([DD)[D" = some ⟨[(.array .double), .double], some (.array .double)⟩ := by decide +kernel
theorem ef_rm_times0 (m : MethodId) (x0 : Addr) (x1 : UInt64) : entryFrame m #[(.ref x0), (.double x1)] 5 = mkF m 0 #[.val (.ref x0), .val (.double x1), .second, .unset, .unset] [] := by first | (simp [entryFrame, mkF, argsToLocals, Value.category, maxLocals]; done) | rfl
set_option maxRecDepth 65536 in
set_option maxHeartbeats 40000000 in
theorem rm_times0 (l : Launch) (Z : State) (a0 : Array Value) (hw : ∀ d ∈ tables_1, d.before a0 Z = true) (a : Addr) (f : UInt64) (j : Int)  (h0 : Heap) (n0 : Nat) (Z0 : n0 ≤ h0.size) (VA : Sar Z h0 a .double []) (J : FP.Core.DInt j f)  :
    Does l (⟨"com/example/adhoq/adhoq/Vectors", "times", "([DD)[D"⟩ : MethodName) prog_37_method_5_code 5 (some (.array .double)) [] ({ frames := 0, cells := 1, slots := 0, locals := 0 } : Room) Z #[(.ref a), (.double f)] h0 (fun v h L => ∃ r, v = some (.ref r) ∧ h0.size ≤ r ∧ Sar Z h r .double [] ∧ Keep h0 h [] ∧ Fr n0 L) := by
  refine Does.of (plainFor_of_name pn0) ?_
  intro p e s m below meth c s₁ hx hby hml hret hlk hZ hown hnm X0 e0
  have N0 := Fr.nil n0
  refine Goes.cast (g' := mkF m 0 #[.val (.ref a), .val (.double f), .second, .unset, .unset] []) (ef_rm_times0 m a f) ?_
  have K0 := Keep.refl h0 []
  refine Goes.by (T' := s₁) (g' := (mkF m 1 #[.val (.ref a), .val (.double f), .second, .unset, .unset] [(.ref a)])) (fun _ k => XS.aloadN X0.here hx rfl (hb hby d1_0) rfl rfl k) ?_
  refine Goes.by (T' := s₁) (g' := (mkF m 2 #[.val (.ref a), .val (.double f), .second, .unset, .unset] [(.int (0 : Int32))])) (lenS X0 hx hZ e0 VA (n := (0 : Int32)) rfl (g := (mkF m 1 #[.val (.ref a), .val (.double f), .second, .unset, .unset] [(.ref a)])) rfl rfl (hb hby d1_1)) ?_
  obtain ⟨T1, h1, k1, X1, e1, E1, A1, st1⟩ := newP X0 hx hZ (hw _ (List.mem_of_getElem? (i := 0) rfl)) e0 (g := (mkF m 2 #[.val (.ref a), .val (.double f), .second, .unset, .unset] [(.int (0 : Int32))])) rfl (hb hby d1_2) rfl (by decide) (cap := 0) (by decide) (by decide) (by decide) (by decide)
  obtain ⟨r, g1⟩ : ∃ z, z = h0.size := ⟨_, rfl⟩
  rw [← g1] at A1 st1
  have ne_a_r : a ≠ r := fun q => Nat.lt_irrefl _ (Nat.lt_of_lt_of_eq VA.lt (g1.symm.trans q.symm))
  have ge_r : n0 ≤ r := Nat.le_trans Z0 (Nat.le_of_eq g1.symm)
  have sz_r : h0.size ≤ r := Nat.le_trans K0.1 (Nat.le_of_eq g1.symm)
  have VA := VA.ext E1
  have Z0 := Nat.le_trans Z0 E1.1
  have K0 := K0.ext E1
  have V_r : Sar Z h1 r .double [] := Sar.new (n := 0) A1 (by decide)
  refine Goes.by (T' := T1) (g' := (mkF m 4 #[.val (.ref a), .val (.double f), .second, .unset, .unset] [(.ref r)])) st1 ?_
  refine Goes.by (T' := T1) (g' := (mkF m 5 #[.val (.ref a), .val (.double f), .second, .val (.ref r), .unset] [])) (fun _ k => XS.astoreN X1.here hx rfl (hb hby d1_4) rfl rfl (l' := #[.val (.ref a), .val (.double f), .second, .val (.ref r), .unset]) rfl k) ?_
  refine Goes.by (T' := T1) (g' := (mkF m 6 #[.val (.ref a), .val (.double f), .second, .val (.ref r), .unset] [(.int (0 : Int32))])) (fun _ k => XS.iconst X1.here hx rfl (hb hby d1_5)  k) ?_
  refine Goes.by (T' := T1) (g' := (mkF m 8 #[.val (.ref a), .val (.double f), .second, .val (.ref r), .val (.int (0 : Int32))] [])) (fun _ k => XS.istore X1.here hx rfl (hb hby d1_6) rfl (l' := #[.val (.ref a), .val (.double f), .second, .val (.ref r), .val (.int (0 : Int32))]) rfl k) ?_
  refine Goes.by (T' := T1) (g' := (mkF m 10 #[.val (.ref a), .val (.double f), .second, .val (.ref r), .val (.int (0 : Int32))] [(.int (0 : Int32))])) (fun _ k => XS.iload X1.here hx rfl (hb hby d1_8) rfl k) ?_
  refine Goes.by (T' := T1) (g' := (mkF m 11 #[.val (.ref a), .val (.double f), .second, .val (.ref r), .val (.int (0 : Int32))] [(.ref a), (.int (0 : Int32))])) (fun _ k => XS.aloadN X1.here hx rfl (hb hby d1_10) rfl rfl k) ?_
  refine Goes.by (T' := T1) (g' := (mkF m 12 #[.val (.ref a), .val (.double f), .second, .val (.ref r), .val (.int (0 : Int32))] [(.int (0 : Int32)), (.int (0 : Int32))])) (lenS X1 hx hZ e1 VA (n := (0 : Int32)) rfl (g := (mkF m 11 #[.val (.ref a), .val (.double f), .second, .val (.ref r), .val (.int (0 : Int32))] [(.ref a), (.int (0 : Int32))])) rfl rfl (hb hby d1_11)) ?_
  refine Goes.by (T' := T1) (g' := (mkF m 31 #[.val (.ref a), .val (.double f), .second, .val (.ref r), .val (.int (0 : Int32))] [])) (fun _ k => XS.icmpYes X1.here hx rfl (pc0 := 12) (pc' := 31) rfl (hb hby d1_12) rfl (by decide) (by decide) (by decide) k) ?_
  refine Goes.by (T' := T1) (g' := (mkF m 32 #[.val (.ref a), .val (.double f), .second, .val (.ref r), .val (.int (0 : Int32))] [(.ref r)])) (fun _ k => XS.aloadN X1.here hx rfl (hb hby d1_31) rfl rfl k) ?_
  exact outA X1 hx hlk hret rfl rfl rfl (hb hby d1_32) (by rw [e1]; exact ⟨_, rfl, sz_r, V_r, K0, N0⟩) (by decide) (by decide)
theorem ef_rm_times1 (m : MethodId) (x0 : Addr) (x1 : UInt64) : entryFrame m #[(.ref x0), (.double x1)] 5 = mkF m 0 #[.val (.ref x0), .val (.double x1), .second, .unset, .unset] [] := by first | (simp [entryFrame, mkF, argsToLocals, Value.category, maxLocals]; done) | rfl
set_option maxRecDepth 65536 in
set_option maxHeartbeats 40000000 in
theorem rm_times1 (l : Launch) (Z : State) (a0 : Array Value) (hw : ∀ d ∈ tables_1, d.before a0 Z = true) (a : Addr) (f : UInt64) (j : Int) (u0 : UInt64) (i0 : Int)  (h0 : Heap) (n0 : Nat) (Z0 : n0 ≤ h0.size) (VA : Sar Z h0 a .double [(.double u0)]) (J : FP.Core.DInt j f) (I0 : FP.Core.DInt i0 u0)  :
    Does l (⟨"com/example/adhoq/adhoq/Vectors", "times", "([DD)[D"⟩ : MethodName) prog_37_method_5_code 5 (some (.array .double)) [] ({ frames := 0, cells := 1, slots := 1, locals := 0 } : Room) Z #[(.ref a), (.double f)] h0 (fun v h L => ∃ r, v = some (.ref r) ∧ h0.size ≤ r ∧ Sar Z h r .double [(.double (FP.dmul u0 f))] ∧ Keep h0 h [] ∧ Fr n0 L) := by
  refine Does.of (plainFor_of_name pn0) ?_
  intro p e s m below meth c s₁ hx hby hml hret hlk hZ hown hnm X0 e0
  have N0 := Fr.nil n0
  refine Goes.cast (g' := mkF m 0 #[.val (.ref a), .val (.double f), .second, .unset, .unset] []) (ef_rm_times1 m a f) ?_
  have K0 := Keep.refl h0 []
  refine Goes.by (T' := s₁) (g' := (mkF m 1 #[.val (.ref a), .val (.double f), .second, .unset, .unset] [(.ref a)])) (fun _ k => XS.aloadN X0.here hx rfl (hb hby d1_0) rfl rfl k) ?_
  refine Goes.by (T' := s₁) (g' := (mkF m 2 #[.val (.ref a), .val (.double f), .second, .unset, .unset] [(.int (1 : Int32))])) (lenS X0 hx hZ e0 VA (n := (1 : Int32)) rfl (g := (mkF m 1 #[.val (.ref a), .val (.double f), .second, .unset, .unset] [(.ref a)])) rfl rfl (hb hby d1_1)) ?_
  obtain ⟨T2, h2, k2, X2, e2, E2, A2, st2⟩ := newP X0 hx hZ (hw _ (List.mem_of_getElem? (i := 0) rfl)) e0 (g := (mkF m 2 #[.val (.ref a), .val (.double f), .second, .unset, .unset] [(.int (1 : Int32))])) rfl (hb hby d1_2) rfl (by decide) (cap := 1) (by decide) (by decide) (by decide) (by decide)
  obtain ⟨r, g2⟩ : ∃ z, z = h0.size := ⟨_, rfl⟩
  rw [← g2] at A2 st2
  have ne_a_r : a ≠ r := fun q => Nat.lt_irrefl _ (Nat.lt_of_lt_of_eq VA.lt (g2.symm.trans q.symm))
  have ge_r : n0 ≤ r := Nat.le_trans Z0 (Nat.le_of_eq g2.symm)
  have sz_r : h0.size ≤ r := Nat.le_trans K0.1 (Nat.le_of_eq g2.symm)
  have VA := VA.ext E2
  have Z0 := Nat.le_trans Z0 E2.1
  have K0 := K0.ext E2
  have V_r : Sar Z h2 r .double [(.double (0 : UInt64))] := Sar.new (n := 1) A2 (by decide)
  refine Goes.by (T' := T2) (g' := (mkF m 4 #[.val (.ref a), .val (.double f), .second, .unset, .unset] [(.ref r)])) st2 ?_
  refine Goes.by (T' := T2) (g' := (mkF m 5 #[.val (.ref a), .val (.double f), .second, .val (.ref r), .unset] [])) (fun _ k => XS.astoreN X2.here hx rfl (hb hby d1_4) rfl rfl (l' := #[.val (.ref a), .val (.double f), .second, .val (.ref r), .unset]) rfl k) ?_
  refine Goes.by (T' := T2) (g' := (mkF m 6 #[.val (.ref a), .val (.double f), .second, .val (.ref r), .unset] [(.int (0 : Int32))])) (fun _ k => XS.iconst X2.here hx rfl (hb hby d1_5)  k) ?_
  refine Goes.by (T' := T2) (g' := (mkF m 8 #[.val (.ref a), .val (.double f), .second, .val (.ref r), .val (.int (0 : Int32))] [])) (fun _ k => XS.istore X2.here hx rfl (hb hby d1_6) rfl (l' := #[.val (.ref a), .val (.double f), .second, .val (.ref r), .val (.int (0 : Int32))]) rfl k) ?_
  refine Goes.by (T' := T2) (g' := (mkF m 10 #[.val (.ref a), .val (.double f), .second, .val (.ref r), .val (.int (0 : Int32))] [(.int (0 : Int32))])) (fun _ k => XS.iload X2.here hx rfl (hb hby d1_8) rfl k) ?_
  refine Goes.by (T' := T2) (g' := (mkF m 11 #[.val (.ref a), .val (.double f), .second, .val (.ref r), .val (.int (0 : Int32))] [(.ref a), (.int (0 : Int32))])) (fun _ k => XS.aloadN X2.here hx rfl (hb hby d1_10) rfl rfl k) ?_
  refine Goes.by (T' := T2) (g' := (mkF m 12 #[.val (.ref a), .val (.double f), .second, .val (.ref r), .val (.int (0 : Int32))] [(.int (1 : Int32)), (.int (0 : Int32))])) (lenS X2 hx hZ e2 VA (n := (1 : Int32)) rfl (g := (mkF m 11 #[.val (.ref a), .val (.double f), .second, .val (.ref r), .val (.int (0 : Int32))] [(.ref a), (.int (0 : Int32))])) rfl rfl (hb hby d1_11)) ?_
  refine Goes.by (T' := T2) (g' := (mkF m 15 #[.val (.ref a), .val (.double f), .second, .val (.ref r), .val (.int (0 : Int32))] [])) (fun _ k => XS.icmpNo X2.here hx rfl (hb hby d1_12) rfl (by decide) k) ?_
  refine Goes.by (T' := T2) (g' := (mkF m 16 #[.val (.ref a), .val (.double f), .second, .val (.ref r), .val (.int (0 : Int32))] [(.ref r)])) (fun _ k => XS.aloadN X2.here hx rfl (hb hby d1_15) rfl rfl k) ?_
  refine Goes.by (T' := T2) (g' := (mkF m 18 #[.val (.ref a), .val (.double f), .second, .val (.ref r), .val (.int (0 : Int32))] [(.int (0 : Int32)), (.ref r)])) (fun _ k => XS.iload X2.here hx rfl (hb hby d1_16) rfl k) ?_
  refine Goes.by (T' := T2) (g' := (mkF m 19 #[.val (.ref a), .val (.double f), .second, .val (.ref r), .val (.int (0 : Int32))] [(.ref a), (.int (0 : Int32)), (.ref r)])) (fun _ k => XS.aloadN X2.here hx rfl (hb hby d1_18) rfl rfl k) ?_
  refine Goes.by (T' := T2) (g' := (mkF m 21 #[.val (.ref a), .val (.double f), .second, .val (.ref r), .val (.int (0 : Int32))] [(.int (0 : Int32)), (.ref a), (.int (0 : Int32)), (.ref r)])) (fun _ k => XS.iload X2.here hx rfl (hb hby d1_19) rfl k) ?_
  refine Goes.by (T' := T2) (g' := (mkF m 22 #[.val (.ref a), .val (.double f), .second, .val (.ref r), .val (.int (0 : Int32))] [(.double u0), (.int (0 : Int32)), (.ref r)])) (ldDS X2 hx hZ e2 VA (v := (.double u0)) (j := (0 : Int32)) 0 (by decide) rfl (g := (mkF m 21 #[.val (.ref a), .val (.double f), .second, .val (.ref r), .val (.int (0 : Int32))] [(.int (0 : Int32)), (.ref a), (.int (0 : Int32)), (.ref r)])) rfl rfl (hb hby d1_21)) ?_
  refine Goes.by (T' := T2) (g' := (mkF m 23 #[.val (.ref a), .val (.double f), .second, .val (.ref r), .val (.int (0 : Int32))] [(.double f), (.double u0), (.int (0 : Int32)), (.ref r)])) (fun _ k => XS.dloadN X2.here hx rfl (hb hby d1_22) rfl k) ?_
  obtain ⟨m0, q_m0⟩ : ∃ zz, FP.dmul u0 f = zz := ⟨_, rfl⟩
  refine Goes.by (T' := T2) (g' := (mkF m 24 #[.val (.ref a), .val (.double f), .second, .val (.ref r), .val (.int (0 : Int32))] [(.double m0), (.int (0 : Int32)), (.ref r)])) (fun _ k => XS.dmulS X2.here hx rfl (hb hby d1_23) rfl (by rw [q_m0]; exact (q_m0 ▸ dmul_out (DInt_fin I0) (DInt_fin J))) q_m0 k) ?_
  obtain ⟨T3, h3, X3, e3, W3, V3, st3⟩ := stDS X2 hx hZ e2 V_r (j := (0 : Int32)) 0 (by decide) (by show 0 < 1; decide) (g := (mkF m 24 #[.val (.ref a), .val (.double f), .second, .val (.ref r), .val (.int (0 : Int32))] [(.double m0), (.int (0 : Int32)), (.ref r)])) rfl rfl (hb hby d1_24)
  have N0 := Fr.snoc X3 N0 ge_r
  have VA := VA.other W3 ne_a_r
  have Z0 := Nat.le_trans Z0 (Nat.le_of_eq W3.size.symm)
  have K0 := K0.wr W3 (Or.inr sz_r)
  have V_r : Sar Z h3 r .double [(.double m0)] := V3
  refine Goes.by (T' := T3) (g' := (mkF m 25 #[.val (.ref a), .val (.double f), .second, .val (.ref r), .val (.int (0 : Int32))] [])) st3 ?_
  refine Goes.by (T' := T3) (g' := (mkF m 28 #[.val (.ref a), .val (.double f), .second, .val (.ref r), .val (.int (1 : Int32))] [])) (fun _ k => XS.iinc X3.here hx rfl (hb hby d1_25) rfl (l' := #[.val (.ref a), .val (.double f), .second, .val (.ref r), .val (.int (1 : Int32))]) rfl k) ?_
  refine Goes.by (T' := T3) (g' := (mkF m 8 #[.val (.ref a), .val (.double f), .second, .val (.ref r), .val (.int (1 : Int32))] [])) (fun _ k => XS.goto X3.here hx rfl (pc0 := 28) (pc' := 8) rfl (hb hby d1_28) (by decide) (by decide) k) ?_
  refine Goes.by (T' := T3) (g' := (mkF m 10 #[.val (.ref a), .val (.double f), .second, .val (.ref r), .val (.int (1 : Int32))] [(.int (1 : Int32))])) (fun _ k => XS.iload X3.here hx rfl (hb hby d1_8) rfl k) ?_
  refine Goes.by (T' := T3) (g' := (mkF m 11 #[.val (.ref a), .val (.double f), .second, .val (.ref r), .val (.int (1 : Int32))] [(.ref a), (.int (1 : Int32))])) (fun _ k => XS.aloadN X3.here hx rfl (hb hby d1_10) rfl rfl k) ?_
  refine Goes.by (T' := T3) (g' := (mkF m 12 #[.val (.ref a), .val (.double f), .second, .val (.ref r), .val (.int (1 : Int32))] [(.int (1 : Int32)), (.int (1 : Int32))])) (lenS X3 hx hZ e3 VA (n := (1 : Int32)) rfl (g := (mkF m 11 #[.val (.ref a), .val (.double f), .second, .val (.ref r), .val (.int (1 : Int32))] [(.ref a), (.int (1 : Int32))])) rfl rfl (hb hby d1_11)) ?_
  refine Goes.by (T' := T3) (g' := (mkF m 31 #[.val (.ref a), .val (.double f), .second, .val (.ref r), .val (.int (1 : Int32))] [])) (fun _ k => XS.icmpYes X3.here hx rfl (pc0 := 12) (pc' := 31) rfl (hb hby d1_12) rfl (by decide) (by decide) (by decide) k) ?_
  refine Goes.by (T' := T3) (g' := (mkF m 32 #[.val (.ref a), .val (.double f), .second, .val (.ref r), .val (.int (1 : Int32))] [(.ref r)])) (fun _ k => XS.aloadN X3.here hx rfl (hb hby d1_31) rfl rfl k) ?_
  subst q_m0
  exact outA X3 hx hlk hret rfl rfl rfl (hb hby d1_32) (by rw [e3]; exact ⟨_, rfl, sz_r, V_r, K0, N0⟩) (by decide) (by decide)
theorem ef_rm_times2 (m : MethodId) (x0 : Addr) (x1 : UInt64) : entryFrame m #[(.ref x0), (.double x1)] 5 = mkF m 0 #[.val (.ref x0), .val (.double x1), .second, .unset, .unset] [] := by first | (simp [entryFrame, mkF, argsToLocals, Value.category, maxLocals]; done) | rfl
set_option maxRecDepth 65536 in
set_option maxHeartbeats 40000000 in
theorem rm_times2 (l : Launch) (Z : State) (a0 : Array Value) (hw : ∀ d ∈ tables_1, d.before a0 Z = true) (a : Addr) (f : UInt64) (j : Int) (u0 : UInt64) (i0 : Int) (u1 : UInt64) (i1 : Int)  (h0 : Heap) (n0 : Nat) (Z0 : n0 ≤ h0.size) (VA : Sar Z h0 a .double [(.double u0), (.double u1)]) (J : FP.Core.DInt j f) (I0 : FP.Core.DInt i0 u0) (I1 : FP.Core.DInt i1 u1)  :
    Does l (⟨"com/example/adhoq/adhoq/Vectors", "times", "([DD)[D"⟩ : MethodName) prog_37_method_5_code 5 (some (.array .double)) [] ({ frames := 0, cells := 1, slots := 2, locals := 0 } : Room) Z #[(.ref a), (.double f)] h0 (fun v h L => ∃ r, v = some (.ref r) ∧ h0.size ≤ r ∧ Sar Z h r .double [(.double (FP.dmul u0 f)), (.double (FP.dmul u1 f))] ∧ Keep h0 h [] ∧ Fr n0 L) := by
  refine Does.of (plainFor_of_name pn0) ?_
  intro p e s m below meth c s₁ hx hby hml hret hlk hZ hown hnm X0 e0
  have N0 := Fr.nil n0
  refine Goes.cast (g' := mkF m 0 #[.val (.ref a), .val (.double f), .second, .unset, .unset] []) (ef_rm_times2 m a f) ?_
  have K0 := Keep.refl h0 []
  refine Goes.by (T' := s₁) (g' := (mkF m 1 #[.val (.ref a), .val (.double f), .second, .unset, .unset] [(.ref a)])) (fun _ k => XS.aloadN X0.here hx rfl (hb hby d1_0) rfl rfl k) ?_
  refine Goes.by (T' := s₁) (g' := (mkF m 2 #[.val (.ref a), .val (.double f), .second, .unset, .unset] [(.int (2 : Int32))])) (lenS X0 hx hZ e0 VA (n := (2 : Int32)) rfl (g := (mkF m 1 #[.val (.ref a), .val (.double f), .second, .unset, .unset] [(.ref a)])) rfl rfl (hb hby d1_1)) ?_
  obtain ⟨T4, h4, k4, X4, e4, E4, A4, st4⟩ := newP X0 hx hZ (hw _ (List.mem_of_getElem? (i := 0) rfl)) e0 (g := (mkF m 2 #[.val (.ref a), .val (.double f), .second, .unset, .unset] [(.int (2 : Int32))])) rfl (hb hby d1_2) rfl (by decide) (cap := 2) (by decide) (by decide) (by decide) (by decide)
  obtain ⟨r, g4⟩ : ∃ z, z = h0.size := ⟨_, rfl⟩
  rw [← g4] at A4 st4
  have ne_a_r : a ≠ r := fun q => Nat.lt_irrefl _ (Nat.lt_of_lt_of_eq VA.lt (g4.symm.trans q.symm))
  have ge_r : n0 ≤ r := Nat.le_trans Z0 (Nat.le_of_eq g4.symm)
  have sz_r : h0.size ≤ r := Nat.le_trans K0.1 (Nat.le_of_eq g4.symm)
  have VA := VA.ext E4
  have Z0 := Nat.le_trans Z0 E4.1
  have K0 := K0.ext E4
  have V_r : Sar Z h4 r .double [(.double (0 : UInt64)), (.double (0 : UInt64))] := Sar.new (n := 2) A4 (by decide)
  refine Goes.by (T' := T4) (g' := (mkF m 4 #[.val (.ref a), .val (.double f), .second, .unset, .unset] [(.ref r)])) st4 ?_
  refine Goes.by (T' := T4) (g' := (mkF m 5 #[.val (.ref a), .val (.double f), .second, .val (.ref r), .unset] [])) (fun _ k => XS.astoreN X4.here hx rfl (hb hby d1_4) rfl rfl (l' := #[.val (.ref a), .val (.double f), .second, .val (.ref r), .unset]) rfl k) ?_
  refine Goes.by (T' := T4) (g' := (mkF m 6 #[.val (.ref a), .val (.double f), .second, .val (.ref r), .unset] [(.int (0 : Int32))])) (fun _ k => XS.iconst X4.here hx rfl (hb hby d1_5)  k) ?_
  refine Goes.by (T' := T4) (g' := (mkF m 8 #[.val (.ref a), .val (.double f), .second, .val (.ref r), .val (.int (0 : Int32))] [])) (fun _ k => XS.istore X4.here hx rfl (hb hby d1_6) rfl (l' := #[.val (.ref a), .val (.double f), .second, .val (.ref r), .val (.int (0 : Int32))]) rfl k) ?_
  refine Goes.by (T' := T4) (g' := (mkF m 10 #[.val (.ref a), .val (.double f), .second, .val (.ref r), .val (.int (0 : Int32))] [(.int (0 : Int32))])) (fun _ k => XS.iload X4.here hx rfl (hb hby d1_8) rfl k) ?_
  refine Goes.by (T' := T4) (g' := (mkF m 11 #[.val (.ref a), .val (.double f), .second, .val (.ref r), .val (.int (0 : Int32))] [(.ref a), (.int (0 : Int32))])) (fun _ k => XS.aloadN X4.here hx rfl (hb hby d1_10) rfl rfl k) ?_
  refine Goes.by (T' := T4) (g' := (mkF m 12 #[.val (.ref a), .val (.double f), .second, .val (.ref r), .val (.int (0 : Int32))] [(.int (2 : Int32)), (.int (0 : Int32))])) (lenS X4 hx hZ e4 VA (n := (2 : Int32)) rfl (g := (mkF m 11 #[.val (.ref a), .val (.double f), .second, .val (.ref r), .val (.int (0 : Int32))] [(.ref a), (.int (0 : Int32))])) rfl rfl (hb hby d1_11)) ?_
  refine Goes.by (T' := T4) (g' := (mkF m 15 #[.val (.ref a), .val (.double f), .second, .val (.ref r), .val (.int (0 : Int32))] [])) (fun _ k => XS.icmpNo X4.here hx rfl (hb hby d1_12) rfl (by decide) k) ?_
  refine Goes.by (T' := T4) (g' := (mkF m 16 #[.val (.ref a), .val (.double f), .second, .val (.ref r), .val (.int (0 : Int32))] [(.ref r)])) (fun _ k => XS.aloadN X4.here hx rfl (hb hby d1_15) rfl rfl k) ?_
  refine Goes.by (T' := T4) (g' := (mkF m 18 #[.val (.ref a), .val (.double f), .second, .val (.ref r), .val (.int (0 : Int32))] [(.int (0 : Int32)), (.ref r)])) (fun _ k => XS.iload X4.here hx rfl (hb hby d1_16) rfl k) ?_
  refine Goes.by (T' := T4) (g' := (mkF m 19 #[.val (.ref a), .val (.double f), .second, .val (.ref r), .val (.int (0 : Int32))] [(.ref a), (.int (0 : Int32)), (.ref r)])) (fun _ k => XS.aloadN X4.here hx rfl (hb hby d1_18) rfl rfl k) ?_
  refine Goes.by (T' := T4) (g' := (mkF m 21 #[.val (.ref a), .val (.double f), .second, .val (.ref r), .val (.int (0 : Int32))] [(.int (0 : Int32)), (.ref a), (.int (0 : Int32)), (.ref r)])) (fun _ k => XS.iload X4.here hx rfl (hb hby d1_19) rfl k) ?_
  refine Goes.by (T' := T4) (g' := (mkF m 22 #[.val (.ref a), .val (.double f), .second, .val (.ref r), .val (.int (0 : Int32))] [(.double u0), (.int (0 : Int32)), (.ref r)])) (ldDS X4 hx hZ e4 VA (v := (.double u0)) (j := (0 : Int32)) 0 (by decide) rfl (g := (mkF m 21 #[.val (.ref a), .val (.double f), .second, .val (.ref r), .val (.int (0 : Int32))] [(.int (0 : Int32)), (.ref a), (.int (0 : Int32)), (.ref r)])) rfl rfl (hb hby d1_21)) ?_
  refine Goes.by (T' := T4) (g' := (mkF m 23 #[.val (.ref a), .val (.double f), .second, .val (.ref r), .val (.int (0 : Int32))] [(.double f), (.double u0), (.int (0 : Int32)), (.ref r)])) (fun _ k => XS.dloadN X4.here hx rfl (hb hby d1_22) rfl k) ?_
  obtain ⟨m0, q_m0⟩ : ∃ zz, FP.dmul u0 f = zz := ⟨_, rfl⟩
  refine Goes.by (T' := T4) (g' := (mkF m 24 #[.val (.ref a), .val (.double f), .second, .val (.ref r), .val (.int (0 : Int32))] [(.double m0), (.int (0 : Int32)), (.ref r)])) (fun _ k => XS.dmulS X4.here hx rfl (hb hby d1_23) rfl (by rw [q_m0]; exact (q_m0 ▸ dmul_out (DInt_fin I0) (DInt_fin J))) q_m0 k) ?_
  obtain ⟨T5, h5, X5, e5, W5, V5, st5⟩ := stDS X4 hx hZ e4 V_r (j := (0 : Int32)) 0 (by decide) (by show 0 < 2; decide) (g := (mkF m 24 #[.val (.ref a), .val (.double f), .second, .val (.ref r), .val (.int (0 : Int32))] [(.double m0), (.int (0 : Int32)), (.ref r)])) rfl rfl (hb hby d1_24)
  have N0 := Fr.snoc X5 N0 ge_r
  have VA := VA.other W5 ne_a_r
  have Z0 := Nat.le_trans Z0 (Nat.le_of_eq W5.size.symm)
  have K0 := K0.wr W5 (Or.inr sz_r)
  have V_r : Sar Z h5 r .double [(.double m0), (.double (0 : UInt64))] := V5
  refine Goes.by (T' := T5) (g' := (mkF m 25 #[.val (.ref a), .val (.double f), .second, .val (.ref r), .val (.int (0 : Int32))] [])) st5 ?_
  refine Goes.by (T' := T5) (g' := (mkF m 28 #[.val (.ref a), .val (.double f), .second, .val (.ref r), .val (.int (1 : Int32))] [])) (fun _ k => XS.iinc X5.here hx rfl (hb hby d1_25) rfl (l' := #[.val (.ref a), .val (.double f), .second, .val (.ref r), .val (.int (1 : Int32))]) rfl k) ?_
  refine Goes.by (T' := T5) (g' := (mkF m 8 #[.val (.ref a), .val (.double f), .second, .val (.ref r), .val (.int (1 : Int32))] [])) (fun _ k => XS.goto X5.here hx rfl (pc0 := 28) (pc' := 8) rfl (hb hby d1_28) (by decide) (by decide) k) ?_
  refine Goes.by (T' := T5) (g' := (mkF m 10 #[.val (.ref a), .val (.double f), .second, .val (.ref r), .val (.int (1 : Int32))] [(.int (1 : Int32))])) (fun _ k => XS.iload X5.here hx rfl (hb hby d1_8) rfl k) ?_
  refine Goes.by (T' := T5) (g' := (mkF m 11 #[.val (.ref a), .val (.double f), .second, .val (.ref r), .val (.int (1 : Int32))] [(.ref a), (.int (1 : Int32))])) (fun _ k => XS.aloadN X5.here hx rfl (hb hby d1_10) rfl rfl k) ?_
  refine Goes.by (T' := T5) (g' := (mkF m 12 #[.val (.ref a), .val (.double f), .second, .val (.ref r), .val (.int (1 : Int32))] [(.int (2 : Int32)), (.int (1 : Int32))])) (lenS X5 hx hZ e5 VA (n := (2 : Int32)) rfl (g := (mkF m 11 #[.val (.ref a), .val (.double f), .second, .val (.ref r), .val (.int (1 : Int32))] [(.ref a), (.int (1 : Int32))])) rfl rfl (hb hby d1_11)) ?_
  refine Goes.by (T' := T5) (g' := (mkF m 15 #[.val (.ref a), .val (.double f), .second, .val (.ref r), .val (.int (1 : Int32))] [])) (fun _ k => XS.icmpNo X5.here hx rfl (hb hby d1_12) rfl (by decide) k) ?_
  refine Goes.by (T' := T5) (g' := (mkF m 16 #[.val (.ref a), .val (.double f), .second, .val (.ref r), .val (.int (1 : Int32))] [(.ref r)])) (fun _ k => XS.aloadN X5.here hx rfl (hb hby d1_15) rfl rfl k) ?_
  refine Goes.by (T' := T5) (g' := (mkF m 18 #[.val (.ref a), .val (.double f), .second, .val (.ref r), .val (.int (1 : Int32))] [(.int (1 : Int32)), (.ref r)])) (fun _ k => XS.iload X5.here hx rfl (hb hby d1_16) rfl k) ?_
  refine Goes.by (T' := T5) (g' := (mkF m 19 #[.val (.ref a), .val (.double f), .second, .val (.ref r), .val (.int (1 : Int32))] [(.ref a), (.int (1 : Int32)), (.ref r)])) (fun _ k => XS.aloadN X5.here hx rfl (hb hby d1_18) rfl rfl k) ?_
  refine Goes.by (T' := T5) (g' := (mkF m 21 #[.val (.ref a), .val (.double f), .second, .val (.ref r), .val (.int (1 : Int32))] [(.int (1 : Int32)), (.ref a), (.int (1 : Int32)), (.ref r)])) (fun _ k => XS.iload X5.here hx rfl (hb hby d1_19) rfl k) ?_
  refine Goes.by (T' := T5) (g' := (mkF m 22 #[.val (.ref a), .val (.double f), .second, .val (.ref r), .val (.int (1 : Int32))] [(.double u1), (.int (1 : Int32)), (.ref r)])) (ldDS X5 hx hZ e5 VA (v := (.double u1)) (j := (1 : Int32)) 1 (by decide) rfl (g := (mkF m 21 #[.val (.ref a), .val (.double f), .second, .val (.ref r), .val (.int (1 : Int32))] [(.int (1 : Int32)), (.ref a), (.int (1 : Int32)), (.ref r)])) rfl rfl (hb hby d1_21)) ?_
  refine Goes.by (T' := T5) (g' := (mkF m 23 #[.val (.ref a), .val (.double f), .second, .val (.ref r), .val (.int (1 : Int32))] [(.double f), (.double u1), (.int (1 : Int32)), (.ref r)])) (fun _ k => XS.dloadN X5.here hx rfl (hb hby d1_22) rfl k) ?_
  obtain ⟨m1, q_m1⟩ : ∃ zz, FP.dmul u1 f = zz := ⟨_, rfl⟩
  refine Goes.by (T' := T5) (g' := (mkF m 24 #[.val (.ref a), .val (.double f), .second, .val (.ref r), .val (.int (1 : Int32))] [(.double m1), (.int (1 : Int32)), (.ref r)])) (fun _ k => XS.dmulS X5.here hx rfl (hb hby d1_23) rfl (by rw [q_m1]; exact (q_m1 ▸ dmul_out (DInt_fin I1) (DInt_fin J))) q_m1 k) ?_
  obtain ⟨T6, h6, X6, e6, W6, V6, st6⟩ := stDS X5 hx hZ e5 V_r (j := (1 : Int32)) 1 (by decide) (by show 1 < 2; decide) (g := (mkF m 24 #[.val (.ref a), .val (.double f), .second, .val (.ref r), .val (.int (1 : Int32))] [(.double m1), (.int (1 : Int32)), (.ref r)])) rfl rfl (hb hby d1_24)
  have N0 := Fr.snoc X6 N0 ge_r
  have VA := VA.other W6 ne_a_r
  have Z0 := Nat.le_trans Z0 (Nat.le_of_eq W6.size.symm)
  have K0 := K0.wr W6 (Or.inr sz_r)
  have V_r : Sar Z h6 r .double [(.double m0), (.double m1)] := V6
  refine Goes.by (T' := T6) (g' := (mkF m 25 #[.val (.ref a), .val (.double f), .second, .val (.ref r), .val (.int (1 : Int32))] [])) st6 ?_
  refine Goes.by (T' := T6) (g' := (mkF m 28 #[.val (.ref a), .val (.double f), .second, .val (.ref r), .val (.int (2 : Int32))] [])) (fun _ k => XS.iinc X6.here hx rfl (hb hby d1_25) rfl (l' := #[.val (.ref a), .val (.double f), .second, .val (.ref r), .val (.int (2 : Int32))]) rfl k) ?_
  refine Goes.by (T' := T6) (g' := (mkF m 8 #[.val (.ref a), .val (.double f), .second, .val (.ref r), .val (.int (2 : Int32))] [])) (fun _ k => XS.goto X6.here hx rfl (pc0 := 28) (pc' := 8) rfl (hb hby d1_28) (by decide) (by decide) k) ?_
  refine Goes.by (T' := T6) (g' := (mkF m 10 #[.val (.ref a), .val (.double f), .second, .val (.ref r), .val (.int (2 : Int32))] [(.int (2 : Int32))])) (fun _ k => XS.iload X6.here hx rfl (hb hby d1_8) rfl k) ?_
  refine Goes.by (T' := T6) (g' := (mkF m 11 #[.val (.ref a), .val (.double f), .second, .val (.ref r), .val (.int (2 : Int32))] [(.ref a), (.int (2 : Int32))])) (fun _ k => XS.aloadN X6.here hx rfl (hb hby d1_10) rfl rfl k) ?_
  refine Goes.by (T' := T6) (g' := (mkF m 12 #[.val (.ref a), .val (.double f), .second, .val (.ref r), .val (.int (2 : Int32))] [(.int (2 : Int32)), (.int (2 : Int32))])) (lenS X6 hx hZ e6 VA (n := (2 : Int32)) rfl (g := (mkF m 11 #[.val (.ref a), .val (.double f), .second, .val (.ref r), .val (.int (2 : Int32))] [(.ref a), (.int (2 : Int32))])) rfl rfl (hb hby d1_11)) ?_
  refine Goes.by (T' := T6) (g' := (mkF m 31 #[.val (.ref a), .val (.double f), .second, .val (.ref r), .val (.int (2 : Int32))] [])) (fun _ k => XS.icmpYes X6.here hx rfl (pc0 := 12) (pc' := 31) rfl (hb hby d1_12) rfl (by decide) (by decide) (by decide) k) ?_
  refine Goes.by (T' := T6) (g' := (mkF m 32 #[.val (.ref a), .val (.double f), .second, .val (.ref r), .val (.int (2 : Int32))] [(.ref r)])) (fun _ k => XS.aloadN X6.here hx rfl (hb hby d1_31) rfl rfl k) ?_
  subst q_m0
  subst q_m1
  exact outA X6 hx hlk hret rfl rfl rfl (hb hby d1_32) (by rw [e6]; exact ⟨_, rfl, sz_r, V_r, K0, N0⟩) (by decide) (by decide)
theorem ef_rm_times3 (m : MethodId) (x0 : Addr) (x1 : UInt64) : entryFrame m #[(.ref x0), (.double x1)] 5 = mkF m 0 #[.val (.ref x0), .val (.double x1), .second, .unset, .unset] [] := by first | (simp [entryFrame, mkF, argsToLocals, Value.category, maxLocals]; done) | rfl
set_option maxRecDepth 65536 in
set_option maxHeartbeats 40000000 in
theorem rm_times3 (l : Launch) (Z : State) (a0 : Array Value) (hw : ∀ d ∈ tables_1, d.before a0 Z = true) (a : Addr) (f : UInt64) (j : Int) (u0 : UInt64) (i0 : Int) (u1 : UInt64) (i1 : Int) (u2 : UInt64) (i2 : Int)  (h0 : Heap) (n0 : Nat) (Z0 : n0 ≤ h0.size) (VA : Sar Z h0 a .double [(.double u0), (.double u1), (.double u2)]) (J : FP.Core.DInt j f) (I0 : FP.Core.DInt i0 u0) (I1 : FP.Core.DInt i1 u1) (I2 : FP.Core.DInt i2 u2)  :
    Does l (⟨"com/example/adhoq/adhoq/Vectors", "times", "([DD)[D"⟩ : MethodName) prog_37_method_5_code 5 (some (.array .double)) [] ({ frames := 0, cells := 1, slots := 3, locals := 0 } : Room) Z #[(.ref a), (.double f)] h0 (fun v h L => ∃ r, v = some (.ref r) ∧ h0.size ≤ r ∧ Sar Z h r .double [(.double (FP.dmul u0 f)), (.double (FP.dmul u1 f)), (.double (FP.dmul u2 f))] ∧ Keep h0 h [] ∧ Fr n0 L) := by
  refine Does.of (plainFor_of_name pn0) ?_
  intro p e s m below meth c s₁ hx hby hml hret hlk hZ hown hnm X0 e0
  have N0 := Fr.nil n0
  refine Goes.cast (g' := mkF m 0 #[.val (.ref a), .val (.double f), .second, .unset, .unset] []) (ef_rm_times3 m a f) ?_
  have K0 := Keep.refl h0 []
  refine Goes.by (T' := s₁) (g' := (mkF m 1 #[.val (.ref a), .val (.double f), .second, .unset, .unset] [(.ref a)])) (fun _ k => XS.aloadN X0.here hx rfl (hb hby d1_0) rfl rfl k) ?_
  refine Goes.by (T' := s₁) (g' := (mkF m 2 #[.val (.ref a), .val (.double f), .second, .unset, .unset] [(.int (3 : Int32))])) (lenS X0 hx hZ e0 VA (n := (3 : Int32)) rfl (g := (mkF m 1 #[.val (.ref a), .val (.double f), .second, .unset, .unset] [(.ref a)])) rfl rfl (hb hby d1_1)) ?_
  obtain ⟨T7, h7, k7, X7, e7, E7, A7, st7⟩ := newP X0 hx hZ (hw _ (List.mem_of_getElem? (i := 0) rfl)) e0 (g := (mkF m 2 #[.val (.ref a), .val (.double f), .second, .unset, .unset] [(.int (3 : Int32))])) rfl (hb hby d1_2) rfl (by decide) (cap := 3) (by decide) (by decide) (by decide) (by decide)
  obtain ⟨r, g7⟩ : ∃ z, z = h0.size := ⟨_, rfl⟩
  rw [← g7] at A7 st7
  have ne_a_r : a ≠ r := fun q => Nat.lt_irrefl _ (Nat.lt_of_lt_of_eq VA.lt (g7.symm.trans q.symm))
  have ge_r : n0 ≤ r := Nat.le_trans Z0 (Nat.le_of_eq g7.symm)
  have sz_r : h0.size ≤ r := Nat.le_trans K0.1 (Nat.le_of_eq g7.symm)
  have VA := VA.ext E7
  have Z0 := Nat.le_trans Z0 E7.1
  have K0 := K0.ext E7
  have V_r : Sar Z h7 r .double [(.double (0 : UInt64)), (.double (0 : UInt64)), (.double (0 : UInt64))] := Sar.new (n := 3) A7 (by decide)
  refine Goes.by (T' := T7) (g' := (mkF m 4 #[.val (.ref a), .val (.double f), .second, .unset, .unset] [(.ref r)])) st7 ?_
  refine Goes.by (T' := T7) (g' := (mkF m 5 #[.val (.ref a), .val (.double f), .second, .val (.ref r), .unset] [])) (fun _ k => XS.astoreN X7.here hx rfl (hb hby d1_4) rfl rfl (l' := #[.val (.ref a), .val (.double f), .second, .val (.ref r), .unset]) rfl k) ?_
  refine Goes.by (T' := T7) (g' := (mkF m 6 #[.val (.ref a), .val (.double f), .second, .val (.ref r), .unset] [(.int (0 : Int32))])) (fun _ k => XS.iconst X7.here hx rfl (hb hby d1_5)  k) ?_
  refine Goes.by (T' := T7) (g' := (mkF m 8 #[.val (.ref a), .val (.double f), .second, .val (.ref r), .val (.int (0 : Int32))] [])) (fun _ k => XS.istore X7.here hx rfl (hb hby d1_6) rfl (l' := #[.val (.ref a), .val (.double f), .second, .val (.ref r), .val (.int (0 : Int32))]) rfl k) ?_
  refine Goes.by (T' := T7) (g' := (mkF m 10 #[.val (.ref a), .val (.double f), .second, .val (.ref r), .val (.int (0 : Int32))] [(.int (0 : Int32))])) (fun _ k => XS.iload X7.here hx rfl (hb hby d1_8) rfl k) ?_
  refine Goes.by (T' := T7) (g' := (mkF m 11 #[.val (.ref a), .val (.double f), .second, .val (.ref r), .val (.int (0 : Int32))] [(.ref a), (.int (0 : Int32))])) (fun _ k => XS.aloadN X7.here hx rfl (hb hby d1_10) rfl rfl k) ?_
  refine Goes.by (T' := T7) (g' := (mkF m 12 #[.val (.ref a), .val (.double f), .second, .val (.ref r), .val (.int (0 : Int32))] [(.int (3 : Int32)), (.int (0 : Int32))])) (lenS X7 hx hZ e7 VA (n := (3 : Int32)) rfl (g := (mkF m 11 #[.val (.ref a), .val (.double f), .second, .val (.ref r), .val (.int (0 : Int32))] [(.ref a), (.int (0 : Int32))])) rfl rfl (hb hby d1_11)) ?_
  refine Goes.by (T' := T7) (g' := (mkF m 15 #[.val (.ref a), .val (.double f), .second, .val (.ref r), .val (.int (0 : Int32))] [])) (fun _ k => XS.icmpNo X7.here hx rfl (hb hby d1_12) rfl (by decide) k) ?_
  refine Goes.by (T' := T7) (g' := (mkF m 16 #[.val (.ref a), .val (.double f), .second, .val (.ref r), .val (.int (0 : Int32))] [(.ref r)])) (fun _ k => XS.aloadN X7.here hx rfl (hb hby d1_15) rfl rfl k) ?_
  refine Goes.by (T' := T7) (g' := (mkF m 18 #[.val (.ref a), .val (.double f), .second, .val (.ref r), .val (.int (0 : Int32))] [(.int (0 : Int32)), (.ref r)])) (fun _ k => XS.iload X7.here hx rfl (hb hby d1_16) rfl k) ?_
  refine Goes.by (T' := T7) (g' := (mkF m 19 #[.val (.ref a), .val (.double f), .second, .val (.ref r), .val (.int (0 : Int32))] [(.ref a), (.int (0 : Int32)), (.ref r)])) (fun _ k => XS.aloadN X7.here hx rfl (hb hby d1_18) rfl rfl k) ?_
  refine Goes.by (T' := T7) (g' := (mkF m 21 #[.val (.ref a), .val (.double f), .second, .val (.ref r), .val (.int (0 : Int32))] [(.int (0 : Int32)), (.ref a), (.int (0 : Int32)), (.ref r)])) (fun _ k => XS.iload X7.here hx rfl (hb hby d1_19) rfl k) ?_
  refine Goes.by (T' := T7) (g' := (mkF m 22 #[.val (.ref a), .val (.double f), .second, .val (.ref r), .val (.int (0 : Int32))] [(.double u0), (.int (0 : Int32)), (.ref r)])) (ldDS X7 hx hZ e7 VA (v := (.double u0)) (j := (0 : Int32)) 0 (by decide) rfl (g := (mkF m 21 #[.val (.ref a), .val (.double f), .second, .val (.ref r), .val (.int (0 : Int32))] [(.int (0 : Int32)), (.ref a), (.int (0 : Int32)), (.ref r)])) rfl rfl (hb hby d1_21)) ?_
  refine Goes.by (T' := T7) (g' := (mkF m 23 #[.val (.ref a), .val (.double f), .second, .val (.ref r), .val (.int (0 : Int32))] [(.double f), (.double u0), (.int (0 : Int32)), (.ref r)])) (fun _ k => XS.dloadN X7.here hx rfl (hb hby d1_22) rfl k) ?_
  obtain ⟨m0, q_m0⟩ : ∃ zz, FP.dmul u0 f = zz := ⟨_, rfl⟩
  refine Goes.by (T' := T7) (g' := (mkF m 24 #[.val (.ref a), .val (.double f), .second, .val (.ref r), .val (.int (0 : Int32))] [(.double m0), (.int (0 : Int32)), (.ref r)])) (fun _ k => XS.dmulS X7.here hx rfl (hb hby d1_23) rfl (by rw [q_m0]; exact (q_m0 ▸ dmul_out (DInt_fin I0) (DInt_fin J))) q_m0 k) ?_
  obtain ⟨T8, h8, X8, e8, W8, V8, st8⟩ := stDS X7 hx hZ e7 V_r (j := (0 : Int32)) 0 (by decide) (by show 0 < 3; decide) (g := (mkF m 24 #[.val (.ref a), .val (.double f), .second, .val (.ref r), .val (.int (0 : Int32))] [(.double m0), (.int (0 : Int32)), (.ref r)])) rfl rfl (hb hby d1_24)
  have N0 := Fr.snoc X8 N0 ge_r
  have VA := VA.other W8 ne_a_r
  have Z0 := Nat.le_trans Z0 (Nat.le_of_eq W8.size.symm)
  have K0 := K0.wr W8 (Or.inr sz_r)
  have V_r : Sar Z h8 r .double [(.double m0), (.double (0 : UInt64)), (.double (0 : UInt64))] := V8
  refine Goes.by (T' := T8) (g' := (mkF m 25 #[.val (.ref a), .val (.double f), .second, .val (.ref r), .val (.int (0 : Int32))] [])) st8 ?_
  refine Goes.by (T' := T8) (g' := (mkF m 28 #[.val (.ref a), .val (.double f), .second, .val (.ref r), .val (.int (1 : Int32))] [])) (fun _ k => XS.iinc X8.here hx rfl (hb hby d1_25) rfl (l' := #[.val (.ref a), .val (.double f), .second, .val (.ref r), .val (.int (1 : Int32))]) rfl k) ?_
  refine Goes.by (T' := T8) (g' := (mkF m 8 #[.val (.ref a), .val (.double f), .second, .val (.ref r), .val (.int (1 : Int32))] [])) (fun _ k => XS.goto X8.here hx rfl (pc0 := 28) (pc' := 8) rfl (hb hby d1_28) (by decide) (by decide) k) ?_
  refine Goes.by (T' := T8) (g' := (mkF m 10 #[.val (.ref a), .val (.double f), .second, .val (.ref r), .val (.int (1 : Int32))] [(.int (1 : Int32))])) (fun _ k => XS.iload X8.here hx rfl (hb hby d1_8) rfl k) ?_
  refine Goes.by (T' := T8) (g' := (mkF m 11 #[.val (.ref a), .val (.double f), .second, .val (.ref r), .val (.int (1 : Int32))] [(.ref a), (.int (1 : Int32))])) (fun _ k => XS.aloadN X8.here hx rfl (hb hby d1_10) rfl rfl k) ?_
  refine Goes.by (T' := T8) (g' := (mkF m 12 #[.val (.ref a), .val (.double f), .second, .val (.ref r), .val (.int (1 : Int32))] [(.int (3 : Int32)), (.int (1 : Int32))])) (lenS X8 hx hZ e8 VA (n := (3 : Int32)) rfl (g := (mkF m 11 #[.val (.ref a), .val (.double f), .second, .val (.ref r), .val (.int (1 : Int32))] [(.ref a), (.int (1 : Int32))])) rfl rfl (hb hby d1_11)) ?_
  refine Goes.by (T' := T8) (g' := (mkF m 15 #[.val (.ref a), .val (.double f), .second, .val (.ref r), .val (.int (1 : Int32))] [])) (fun _ k => XS.icmpNo X8.here hx rfl (hb hby d1_12) rfl (by decide) k) ?_
  refine Goes.by (T' := T8) (g' := (mkF m 16 #[.val (.ref a), .val (.double f), .second, .val (.ref r), .val (.int (1 : Int32))] [(.ref r)])) (fun _ k => XS.aloadN X8.here hx rfl (hb hby d1_15) rfl rfl k) ?_
  refine Goes.by (T' := T8) (g' := (mkF m 18 #[.val (.ref a), .val (.double f), .second, .val (.ref r), .val (.int (1 : Int32))] [(.int (1 : Int32)), (.ref r)])) (fun _ k => XS.iload X8.here hx rfl (hb hby d1_16) rfl k) ?_
  refine Goes.by (T' := T8) (g' := (mkF m 19 #[.val (.ref a), .val (.double f), .second, .val (.ref r), .val (.int (1 : Int32))] [(.ref a), (.int (1 : Int32)), (.ref r)])) (fun _ k => XS.aloadN X8.here hx rfl (hb hby d1_18) rfl rfl k) ?_
  refine Goes.by (T' := T8) (g' := (mkF m 21 #[.val (.ref a), .val (.double f), .second, .val (.ref r), .val (.int (1 : Int32))] [(.int (1 : Int32)), (.ref a), (.int (1 : Int32)), (.ref r)])) (fun _ k => XS.iload X8.here hx rfl (hb hby d1_19) rfl k) ?_
  refine Goes.by (T' := T8) (g' := (mkF m 22 #[.val (.ref a), .val (.double f), .second, .val (.ref r), .val (.int (1 : Int32))] [(.double u1), (.int (1 : Int32)), (.ref r)])) (ldDS X8 hx hZ e8 VA (v := (.double u1)) (j := (1 : Int32)) 1 (by decide) rfl (g := (mkF m 21 #[.val (.ref a), .val (.double f), .second, .val (.ref r), .val (.int (1 : Int32))] [(.int (1 : Int32)), (.ref a), (.int (1 : Int32)), (.ref r)])) rfl rfl (hb hby d1_21)) ?_
  refine Goes.by (T' := T8) (g' := (mkF m 23 #[.val (.ref a), .val (.double f), .second, .val (.ref r), .val (.int (1 : Int32))] [(.double f), (.double u1), (.int (1 : Int32)), (.ref r)])) (fun _ k => XS.dloadN X8.here hx rfl (hb hby d1_22) rfl k) ?_
  obtain ⟨m1, q_m1⟩ : ∃ zz, FP.dmul u1 f = zz := ⟨_, rfl⟩
  refine Goes.by (T' := T8) (g' := (mkF m 24 #[.val (.ref a), .val (.double f), .second, .val (.ref r), .val (.int (1 : Int32))] [(.double m1), (.int (1 : Int32)), (.ref r)])) (fun _ k => XS.dmulS X8.here hx rfl (hb hby d1_23) rfl (by rw [q_m1]; exact (q_m1 ▸ dmul_out (DInt_fin I1) (DInt_fin J))) q_m1 k) ?_
  obtain ⟨T9, h9, X9, e9, W9, V9, st9⟩ := stDS X8 hx hZ e8 V_r (j := (1 : Int32)) 1 (by decide) (by show 1 < 3; decide) (g := (mkF m 24 #[.val (.ref a), .val (.double f), .second, .val (.ref r), .val (.int (1 : Int32))] [(.double m1), (.int (1 : Int32)), (.ref r)])) rfl rfl (hb hby d1_24)
  have N0 := Fr.snoc X9 N0 ge_r
  have VA := VA.other W9 ne_a_r
  have Z0 := Nat.le_trans Z0 (Nat.le_of_eq W9.size.symm)
  have K0 := K0.wr W9 (Or.inr sz_r)
  have V_r : Sar Z h9 r .double [(.double m0), (.double m1), (.double (0 : UInt64))] := V9
  refine Goes.by (T' := T9) (g' := (mkF m 25 #[.val (.ref a), .val (.double f), .second, .val (.ref r), .val (.int (1 : Int32))] [])) st9 ?_
  refine Goes.by (T' := T9) (g' := (mkF m 28 #[.val (.ref a), .val (.double f), .second, .val (.ref r), .val (.int (2 : Int32))] [])) (fun _ k => XS.iinc X9.here hx rfl (hb hby d1_25) rfl (l' := #[.val (.ref a), .val (.double f), .second, .val (.ref r), .val (.int (2 : Int32))]) rfl k) ?_
  refine Goes.by (T' := T9) (g' := (mkF m 8 #[.val (.ref a), .val (.double f), .second, .val (.ref r), .val (.int (2 : Int32))] [])) (fun _ k => XS.goto X9.here hx rfl (pc0 := 28) (pc' := 8) rfl (hb hby d1_28) (by decide) (by decide) k) ?_
  refine Goes.by (T' := T9) (g' := (mkF m 10 #[.val (.ref a), .val (.double f), .second, .val (.ref r), .val (.int (2 : Int32))] [(.int (2 : Int32))])) (fun _ k => XS.iload X9.here hx rfl (hb hby d1_8) rfl k) ?_
  refine Goes.by (T' := T9) (g' := (mkF m 11 #[.val (.ref a), .val (.double f), .second, .val (.ref r), .val (.int (2 : Int32))] [(.ref a), (.int (2 : Int32))])) (fun _ k => XS.aloadN X9.here hx rfl (hb hby d1_10) rfl rfl k) ?_
  refine Goes.by (T' := T9) (g' := (mkF m 12 #[.val (.ref a), .val (.double f), .second, .val (.ref r), .val (.int (2 : Int32))] [(.int (3 : Int32)), (.int (2 : Int32))])) (lenS X9 hx hZ e9 VA (n := (3 : Int32)) rfl (g := (mkF m 11 #[.val (.ref a), .val (.double f), .second, .val (.ref r), .val (.int (2 : Int32))] [(.ref a), (.int (2 : Int32))])) rfl rfl (hb hby d1_11)) ?_
  refine Goes.by (T' := T9) (g' := (mkF m 15 #[.val (.ref a), .val (.double f), .second, .val (.ref r), .val (.int (2 : Int32))] [])) (fun _ k => XS.icmpNo X9.here hx rfl (hb hby d1_12) rfl (by decide) k) ?_
  refine Goes.by (T' := T9) (g' := (mkF m 16 #[.val (.ref a), .val (.double f), .second, .val (.ref r), .val (.int (2 : Int32))] [(.ref r)])) (fun _ k => XS.aloadN X9.here hx rfl (hb hby d1_15) rfl rfl k) ?_
  refine Goes.by (T' := T9) (g' := (mkF m 18 #[.val (.ref a), .val (.double f), .second, .val (.ref r), .val (.int (2 : Int32))] [(.int (2 : Int32)), (.ref r)])) (fun _ k => XS.iload X9.here hx rfl (hb hby d1_16) rfl k) ?_
  refine Goes.by (T' := T9) (g' := (mkF m 19 #[.val (.ref a), .val (.double f), .second, .val (.ref r), .val (.int (2 : Int32))] [(.ref a), (.int (2 : Int32)), (.ref r)])) (fun _ k => XS.aloadN X9.here hx rfl (hb hby d1_18) rfl rfl k) ?_
  refine Goes.by (T' := T9) (g' := (mkF m 21 #[.val (.ref a), .val (.double f), .second, .val (.ref r), .val (.int (2 : Int32))] [(.int (2 : Int32)), (.ref a), (.int (2 : Int32)), (.ref r)])) (fun _ k => XS.iload X9.here hx rfl (hb hby d1_19) rfl k) ?_
  refine Goes.by (T' := T9) (g' := (mkF m 22 #[.val (.ref a), .val (.double f), .second, .val (.ref r), .val (.int (2 : Int32))] [(.double u2), (.int (2 : Int32)), (.ref r)])) (ldDS X9 hx hZ e9 VA (v := (.double u2)) (j := (2 : Int32)) 2 (by decide) rfl (g := (mkF m 21 #[.val (.ref a), .val (.double f), .second, .val (.ref r), .val (.int (2 : Int32))] [(.int (2 : Int32)), (.ref a), (.int (2 : Int32)), (.ref r)])) rfl rfl (hb hby d1_21)) ?_
  refine Goes.by (T' := T9) (g' := (mkF m 23 #[.val (.ref a), .val (.double f), .second, .val (.ref r), .val (.int (2 : Int32))] [(.double f), (.double u2), (.int (2 : Int32)), (.ref r)])) (fun _ k => XS.dloadN X9.here hx rfl (hb hby d1_22) rfl k) ?_
  obtain ⟨m2, q_m2⟩ : ∃ zz, FP.dmul u2 f = zz := ⟨_, rfl⟩
  refine Goes.by (T' := T9) (g' := (mkF m 24 #[.val (.ref a), .val (.double f), .second, .val (.ref r), .val (.int (2 : Int32))] [(.double m2), (.int (2 : Int32)), (.ref r)])) (fun _ k => XS.dmulS X9.here hx rfl (hb hby d1_23) rfl (by rw [q_m2]; exact (q_m2 ▸ dmul_out (DInt_fin I2) (DInt_fin J))) q_m2 k) ?_
  obtain ⟨T10, h10, X10, e10, W10, V10, st10⟩ := stDS X9 hx hZ e9 V_r (j := (2 : Int32)) 2 (by decide) (by show 2 < 3; decide) (g := (mkF m 24 #[.val (.ref a), .val (.double f), .second, .val (.ref r), .val (.int (2 : Int32))] [(.double m2), (.int (2 : Int32)), (.ref r)])) rfl rfl (hb hby d1_24)
  have N0 := Fr.snoc X10 N0 ge_r
  have VA := VA.other W10 ne_a_r
  have Z0 := Nat.le_trans Z0 (Nat.le_of_eq W10.size.symm)
  have K0 := K0.wr W10 (Or.inr sz_r)
  have V_r : Sar Z h10 r .double [(.double m0), (.double m1), (.double m2)] := V10
  refine Goes.by (T' := T10) (g' := (mkF m 25 #[.val (.ref a), .val (.double f), .second, .val (.ref r), .val (.int (2 : Int32))] [])) st10 ?_
  refine Goes.by (T' := T10) (g' := (mkF m 28 #[.val (.ref a), .val (.double f), .second, .val (.ref r), .val (.int (3 : Int32))] [])) (fun _ k => XS.iinc X10.here hx rfl (hb hby d1_25) rfl (l' := #[.val (.ref a), .val (.double f), .second, .val (.ref r), .val (.int (3 : Int32))]) rfl k) ?_
  refine Goes.by (T' := T10) (g' := (mkF m 8 #[.val (.ref a), .val (.double f), .second, .val (.ref r), .val (.int (3 : Int32))] [])) (fun _ k => XS.goto X10.here hx rfl (pc0 := 28) (pc' := 8) rfl (hb hby d1_28) (by decide) (by decide) k) ?_
  refine Goes.by (T' := T10) (g' := (mkF m 10 #[.val (.ref a), .val (.double f), .second, .val (.ref r), .val (.int (3 : Int32))] [(.int (3 : Int32))])) (fun _ k => XS.iload X10.here hx rfl (hb hby d1_8) rfl k) ?_
  refine Goes.by (T' := T10) (g' := (mkF m 11 #[.val (.ref a), .val (.double f), .second, .val (.ref r), .val (.int (3 : Int32))] [(.ref a), (.int (3 : Int32))])) (fun _ k => XS.aloadN X10.here hx rfl (hb hby d1_10) rfl rfl k) ?_
  refine Goes.by (T' := T10) (g' := (mkF m 12 #[.val (.ref a), .val (.double f), .second, .val (.ref r), .val (.int (3 : Int32))] [(.int (3 : Int32)), (.int (3 : Int32))])) (lenS X10 hx hZ e10 VA (n := (3 : Int32)) rfl (g := (mkF m 11 #[.val (.ref a), .val (.double f), .second, .val (.ref r), .val (.int (3 : Int32))] [(.ref a), (.int (3 : Int32))])) rfl rfl (hb hby d1_11)) ?_
  refine Goes.by (T' := T10) (g' := (mkF m 31 #[.val (.ref a), .val (.double f), .second, .val (.ref r), .val (.int (3 : Int32))] [])) (fun _ k => XS.icmpYes X10.here hx rfl (pc0 := 12) (pc' := 31) rfl (hb hby d1_12) rfl (by decide) (by decide) (by decide) k) ?_
  refine Goes.by (T' := T10) (g' := (mkF m 32 #[.val (.ref a), .val (.double f), .second, .val (.ref r), .val (.int (3 : Int32))] [(.ref r)])) (fun _ k => XS.aloadN X10.here hx rfl (hb hby d1_31) rfl rfl k) ?_
  subst q_m0
  subst q_m1
  subst q_m2
  exact outA X10 hx hlk hret rfl rfl rfl (hb hby d1_32) (by rw [e10]; exact ⟨_, rfl, sz_r, V_r, K0, N0⟩) (by decide) (by decide)
theorem d2_0 : decode method_2_code 0 = .ok (.iload_n 0, 1) := by decide +kernel
theorem d2_1 : decode method_2_code 1 = .ok (.i2l, 1) := by decide +kernel
theorem d2_2 : decode method_2_code 2 = .ok (.iload_n 1, 1) := by decide +kernel
theorem d2_3 : decode method_2_code 3 = .ok (.i2l, 1) := by decide +kernel
theorem d2_4 : decode method_2_code 4 = .ok (.lmul, 1) := by decide +kernel
theorem d2_5 : decode method_2_code 5 = .ok (.l2d, 1) := by decide +kernel
theorem d2_6 : decode method_2_code 6 = .ok (.dreturn, 1) := by decide +kernel
theorem pn1 : plainName "com/example/adhoq/adhoq/VectorsTimesPinLaw" = true := by first | (simp [plainName, overriddenIn]; done) | decide +kernel
theorem pd1 : parseMethodDescriptor "(II)D" = some ⟨[.int, .int], some .double⟩ := by decide +kernel
theorem ef_rm_ref (m : MethodId) (x0 : Int32) (x1 : Int32) : entryFrame m #[(.int x0), (.int x1)] 2 = mkF m 0 #[.val (.int x0), .val (.int x1)] [] := by first | (simp [entryFrame, mkF, argsToLocals, Value.category, maxLocals]; done) | rfl
set_option maxRecDepth 65536 in
set_option maxHeartbeats 40000000 in
theorem rm_ref (l : Launch) (Z : State) (a0 : Array Value) (hw : ∀ d ∈ tables_1, d.before a0 Z = true) (x y : Int32) (h0 : Heap) (n0 : Nat) (Z0 : n0 ≤ h0.size)  :
    Does l (⟨"com/example/adhoq/adhoq/VectorsTimesPinLaw", "ref", "(II)D"⟩ : MethodName) method_2_code 2 (some .double) [] ({ frames := 0, cells := 0, slots := 0, locals := 0 } : Room) Z #[(.int x), (.int y)] h0 (fun v h L => v = some (.double (FP.l2d (x.toInt64 * y.toInt64))) ∧ Fr n0 L ∧ h = h0) := by
  refine Does.of (plainFor_of_name pn1) ?_
  intro p e s m below meth c s₁ hx hby hml hret hlk hZ hown hnm X0 e0
  have N0 := Fr.nil n0
  refine Goes.cast (g' := mkF m 0 #[.val (.int x), .val (.int y)] []) (ef_rm_ref m x y) ?_
  refine Goes.by (T' := s₁) (g' := (mkF m 1 #[.val (.int x), .val (.int y)] [(.int x)])) (fun _ k => XS.iloadN X0.here hx rfl (hb hby d2_0) rfl k) ?_
  refine Goes.by (T' := s₁) (g' := (mkF m 2 #[.val (.int x), .val (.int y)] [(.long ((x).toInt64))])) (fun _ k => XS.i2l X0.here hx rfl (hb hby d2_1) rfl k) ?_
  refine Goes.by (T' := s₁) (g' := (mkF m 3 #[.val (.int x), .val (.int y)] [(.int y), (.long ((x).toInt64))])) (fun _ k => XS.iloadN X0.here hx rfl (hb hby d2_2) rfl k) ?_
  refine Goes.by (T' := s₁) (g' := (mkF m 4 #[.val (.int x), .val (.int y)] [(.long ((y).toInt64)), (.long ((x).toInt64))])) (fun _ k => XS.i2l X0.here hx rfl (hb hby d2_3) rfl k) ?_
  refine Goes.by (T' := s₁) (g' := (mkF m 5 #[.val (.int x), .val (.int y)] [(.long (((x).toInt64) * ((y).toInt64)))])) (fun _ k => XS.lmul X0.here hx rfl (hb hby d2_4) rfl k) ?_
  obtain ⟨d, q_d⟩ : ∃ zz, FP.l2d (((x).toInt64) * ((y).toInt64)) = zz := ⟨_, rfl⟩
  refine Goes.by (T' := s₁) (g' := (mkF m 6 #[.val (.int x), .val (.int y)] [(.double d)])) (fun _ k => XS.l2dS X0.here hx rfl (hb hby d2_5) rfl q_d k) ?_
  exact outD X0 hx hlk hret (hb hby d2_6) (by rw [e0]; exact ⟨by rw [← q_d], N0, rfl⟩) (by decide) (by decide)
theorem ef_rm_law (m : MethodId) (x0 : Int32) (x1 : Int32) (x2 : Int32) (x3 : Int32) (x4 : Int32) : entryFrame m #[(.int x0), (.int x1), (.int x2), (.int x3), (.int x4)] maxLocals = mkF m 0 #[.val (.int x0), .val (.int x1), .val (.int x2), .val (.int x3), .val (.int x4), .unset, .unset, .unset, .unset] [] := by first | (simp [entryFrame, mkF, argsToLocals, Value.category, maxLocals]; done) | rfl
set_option maxRecDepth 65536 in
set_option maxHeartbeats 40000000 in
theorem rm_law (l : Launch) (Z : State) (a0 : Array Value) (hw : ∀ d ∈ tables_1, d.before a0 Z = true) (x0 x1 x2 x3 x4 : Int32) (h0 : Heap) (n0 : Nat) (Z0 : n0 ≤ h0.size)  :
    Does l x code maxLocals ret tables_1 room_1 Z #[(.int x0), (.int x1), (.int x2), (.int x3), (.int x4)] h0 (fun v h L => v = some (.int 1) ∧ Fr n0 L) := by
  refine Does.of (plainFor_of_name pn1) ?_
  intro p e s m below meth c s₁ hx hby hml hret hlk hZ hown hnm X0 e0
  have N0 := Fr.nil n0
  refine Goes.cast (g' := mkF m 0 #[.val (.int x0), .val (.int x1), .val (.int x2), .val (.int x3), .val (.int x4), .unset, .unset, .unset, .unset] []) (ef_rm_law m x0 x1 x2 x3 x4) ?_
  refine Goes.by (T' := s₁) (g' := (mkF m 1 #[.val (.int x0), .val (.int x1), .val (.int x2), .val (.int x3), .val (.int x4), .unset, .unset, .unset, .unset] [(.int x0)])) (fun _ k => XS.iloadN X0.here hx rfl (hb hby at_0) rfl k) ?_
  refine Goes.by (T' := s₁) (g' := (mkF m 2 #[.val (.int x0), .val (.int x1), .val (.int x2), .val (.int x3), .val (.int x4), .unset, .unset, .unset, .unset] [(.int (3 : Int32)), (.int x0)])) (fun _ k => XS.iconst X0.here hx rfl (hb hby at_1)  k) ?_
  refine Goes.by (T' := s₁) (g' := (mkF m 3 #[.val (.int x0), .val (.int x1), .val (.int x2), .val (.int x3), .val (.int x4), .unset, .unset, .unset, .unset] [(.int (x0 &&& (3 : Int32)))])) (fun _ k => XS.iand X0.here hx rfl (hb hby at_2) rfl k) ?_
  obtain ⟨n, q_n⟩ : ∃ zz : Int32, zz = (x0 &&& (3 : Int32)) := ⟨_, rfl⟩
  rw [← q_n]
  refine Goes.by (T' := s₁) (g' := (mkF m 5 #[.val (.int x0), .val (.int x1), .val (.int x2), .val (.int x3), .val (.int x4), .val (.int n), .unset, .unset, .unset] [])) (fun _ k => XS.istore X0.here hx rfl (hb hby at_3) rfl (l' := #[.val (.int x0), .val (.int x1), .val (.int x2), .val (.int x3), .val (.int x4), .val (.int n), .unset, .unset, .unset]) rfl k) ?_
  refine Goes.by (T' := s₁) (g' := (mkF m 7 #[.val (.int x0), .val (.int x1), .val (.int x2), .val (.int x3), .val (.int x4), .val (.int n), .unset, .unset, .unset] [(.int n)])) (fun _ k => XS.iload X0.here hx rfl (hb hby at_5) rfl k) ?_
  rcases (q_n ▸ own_and3 x0 : n = 0 ∨ n = 1 ∨ n = 2 ∨ n = 3) with hn | hn | hn | hn
  · subst hn
    obtain ⟨T11, h11, k11, X11, e11, E11, A11, st11⟩ := newP X0 hx hZ (hw _ (List.mem_of_getElem? (i := 0) rfl)) e0 (g := (mkF m 7 #[.val (.int x0), .val (.int x1), .val (.int x2), .val (.int x3), .val (.int x4), .val (.int (0 : Int32)), .unset, .unset, .unset] [(.int (0 : Int32))])) rfl (hb hby at_7) rfl (by decide) (cap := 0) (by decide) (by decide) (by decide) (by decide)
    obtain ⟨ba, g11⟩ : ∃ z, z = h0.size := ⟨_, rfl⟩
    rw [← g11] at A11 st11
    have ge_ba : n0 ≤ ba := Nat.le_trans Z0 (Nat.le_of_eq g11.symm)
    have Z0 := Nat.le_trans Z0 E11.1
    have V_ba : Sar Z h11 ba .double [] := Sar.new (n := 0) A11 (by decide)
    refine Goes.by (T' := T11) (g' := (mkF m 9 #[.val (.int x0), .val (.int x1), .val (.int x2), .val (.int x3), .val (.int x4), .val (.int (0 : Int32)), .unset, .unset, .unset] [(.ref ba)])) st11 ?_
    refine Goes.by (T' := T11) (g' := (mkF m 11 #[.val (.int x0), .val (.int x1), .val (.int x2), .val (.int x3), .val (.int x4), .val (.int (0 : Int32)), .val (.ref ba), .unset, .unset] [])) (fun _ k => XS.astore X11.here hx rfl (hb hby at_9) rfl rfl (l' := #[.val (.int x0), .val (.int x1), .val (.int x2), .val (.int x3), .val (.int x4), .val (.int (0 : Int32)), .val (.ref ba), .unset, .unset]) rfl k) ?_
    refine Goes.by (T' := T11) (g' := (mkF m 13 #[.val (.int x0), .val (.int x1), .val (.int x2), .val (.int x3), .val (.int x4), .val (.int (0 : Int32)), .val (.ref ba), .unset, .unset] [(.int (0 : Int32))])) (fun _ k => XS.iload X11.here hx rfl (hb hby at_11) rfl k) ?_
    refine Goes.by (T' := T11) (g' := (mkF m 22 #[.val (.int x0), .val (.int x1), .val (.int x2), .val (.int x3), .val (.int x4), .val (.int (0 : Int32)), .val (.ref ba), .unset, .unset] [])) (fun _ k => XS.ifYes X11.here hx rfl (pc0 := 13) (pc' := 22) rfl (hb hby at_13) rfl (by decide) (by decide) (by decide) k) ?_
    refine Goes.by (T' := T11) (g' := (mkF m 24 #[.val (.int x0), .val (.int x1), .val (.int x2), .val (.int x3), .val (.int x4), .val (.int (0 : Int32)), .val (.ref ba), .unset, .unset] [(.int (0 : Int32))])) (fun _ k => XS.iload X11.here hx rfl (hb hby at_22) rfl k) ?_
    refine Goes.by (T' := T11) (g' := (mkF m 25 #[.val (.int x0), .val (.int x1), .val (.int x2), .val (.int x3), .val (.int x4), .val (.int (0 : Int32)), .val (.ref ba), .unset, .unset] [(.int (1 : Int32)), (.int (0 : Int32))])) (fun _ k => XS.iconst X11.here hx rfl (hb hby at_24)  k) ?_
    refine Goes.by (T' := T11) (g' := (mkF m 34 #[.val (.int x0), .val (.int x1), .val (.int x2), .val (.int x3), .val (.int x4), .val (.int (0 : Int32)), .val (.ref ba), .unset, .unset] [])) (fun _ k => XS.icmpYes X11.here hx rfl (pc0 := 25) (pc' := 34) rfl (hb hby at_25) rfl (by decide) (by decide) (by decide) k) ?_
    refine Goes.by (T' := T11) (g' := (mkF m 36 #[.val (.int x0), .val (.int x1), .val (.int x2), .val (.int x3), .val (.int x4), .val (.int (0 : Int32)), .val (.ref ba), .unset, .unset] [(.int (0 : Int32))])) (fun _ k => XS.iload X11.here hx rfl (hb hby at_34) rfl k) ?_
    refine Goes.by (T' := T11) (g' := (mkF m 37 #[.val (.int x0), .val (.int x1), .val (.int x2), .val (.int x3), .val (.int x4), .val (.int (0 : Int32)), .val (.ref ba), .unset, .unset] [(.int (2 : Int32)), (.int (0 : Int32))])) (fun _ k => XS.iconst X11.here hx rfl (hb hby at_36)  k) ?_
    refine Goes.by (T' := T11) (g' := (mkF m 46 #[.val (.int x0), .val (.int x1), .val (.int x2), .val (.int x3), .val (.int x4), .val (.int (0 : Int32)), .val (.ref ba), .unset, .unset] [])) (fun _ k => XS.icmpYes X11.here hx rfl (pc0 := 37) (pc' := 46) rfl (hb hby at_37) rfl (by decide) (by decide) (by decide) k) ?_
    refine Goes.by (T' := T11) (g' := (mkF m 48 #[.val (.int x0), .val (.int x1), .val (.int x2), .val (.int x3), .val (.int x4), .val (.int (0 : Int32)), .val (.ref ba), .unset, .unset] [(.ref ba)])) (fun _ k => XS.aload X11.here hx rfl (hb hby at_46) rfl rfl k) ?_
    refine Goes.by (T' := T11) (g' := (mkF m 50 #[.val (.int x0), .val (.int x1), .val (.int x2), .val (.int x3), .val (.int x4), .val (.int (0 : Int32)), .val (.ref ba), .unset, .unset] [(.int x4), (.ref ba)])) (fun _ k => XS.iload X11.here hx rfl (hb hby at_48) rfl k) ?_
    obtain ⟨f, q_f⟩ : ∃ zz, FP.i2d x4 = zz := ⟨_, rfl⟩
    refine Goes.by (T' := T11) (g' := (mkF m 51 #[.val (.int x0), .val (.int x1), .val (.int x2), .val (.int x3), .val (.int x4), .val (.int (0 : Int32)), .val (.ref ba), .unset, .unset] [(.double f), (.ref ba)])) (fun _ k => XS.i2dS X11.here hx rfl (hb hby at_50) rfl q_f k) ?_
    obtain ⟨v12, T12, L12, X12, hQ12, st12⟩ := callC X11 hx hZ (y := (⟨"com/example/adhoq/adhoq/Vectors", "times", "([DD)[D"⟩ : MethodName)) hown (hw _ (List.mem_of_getElem? (i := 1) rfl)) (hw _ (List.mem_of_getElem? (i := 2) rfl)) (hw _ (List.mem_of_getElem? (i := 4) rfl)) (hw _ (List.mem_of_getElem? (i := 3) rfl)) (by decide) e11 (argsL := [(.ref ba), (.double f)]) (rest := []) (W := 0) (rm_times0 l Z a0 hw ba f x4.toInt  h11 n0 Z0 V_ba (DInt_i2d q_f) ) rfl (by decide) (by decide) (by decide) (by decide) (g := (mkF m 51 #[.val (.int x0), .val (.int x1), .val (.int x2), .val (.int x3), .val (.int x4), .val (.int (0 : Int32)), .val (.ref ba), .unset, .unset] [(.double f), (.ref ba)])) rfl (by rw [hml]; rfl) (lenOf pd0 rfl) rfl (by show 2 * 0 + _ ≤ _; exact Nat.le_of_eq rfl) (hb hby at_51)
    obtain ⟨r, rfl, szr, V_r, K12, NL12⟩ := hQ12
    have N0 := Fr.app N0 NL12
    have ne_ba_r : ba ≠ r := fun q => Nat.lt_irrefl _ (Nat.lt_of_lt_of_le V_ba.lt (Nat.le_trans szr (Nat.le_of_eq q.symm)))
    have ge_r : n0 ≤ r := Nat.le_trans Z0 szr
    have e12 : T12.heap = T12.heap := rfl
    have V_ba := V_ba.keep K12 nin0
    have Z0 := Nat.le_trans Z0 K12.1
    refine Goes.by (T' := T12) (g' := (mkF m 54 #[.val (.int x0), .val (.int x1), .val (.int x2), .val (.int x3), .val (.int x4), .val (.int (0 : Int32)), .val (.ref ba), .unset, .unset] [(.ref r)])) st12 ?_
    refine Goes.by (T' := T12) (g' := (mkF m 56 #[.val (.int x0), .val (.int x1), .val (.int x2), .val (.int x3), .val (.int x4), .val (.int (0 : Int32)), .val (.ref ba), .val (.ref r), .unset] [])) (fun _ k => XS.astore X12.here hx rfl (hb hby at_54) rfl rfl (l' := #[.val (.int x0), .val (.int x1), .val (.int x2), .val (.int x3), .val (.int x4), .val (.int (0 : Int32)), .val (.ref ba), .val (.ref r), .unset]) rfl k) ?_
    refine Goes.by (T' := T12) (g' := (mkF m 58 #[.val (.int x0), .val (.int x1), .val (.int x2), .val (.int x3), .val (.int x4), .val (.int (0 : Int32)), .val (.ref ba), .val (.ref r), .unset] [(.ref r)])) (fun _ k => XS.aload X12.here hx rfl (hb hby at_56) rfl rfl k) ?_
    refine Goes.by (T' := T12) (g' := (mkF m 61 #[.val (.int x0), .val (.int x1), .val (.int x2), .val (.int x3), .val (.int x4), .val (.int (0 : Int32)), .val (.ref ba), .val (.ref r), .unset] [])) (fun _ k => XS.ifnullNo X12.here hx rfl (hb hby at_58) rfl k) ?_
    refine Goes.by (T' := T12) (g' := (mkF m 63 #[.val (.int x0), .val (.int x1), .val (.int x2), .val (.int x3), .val (.int x4), .val (.int (0 : Int32)), .val (.ref ba), .val (.ref r), .unset] [(.ref r)])) (fun _ k => XS.aload X12.here hx rfl (hb hby at_61) rfl rfl k) ?_
    refine Goes.by (T' := T12) (g' := (mkF m 65 #[.val (.int x0), .val (.int x1), .val (.int x2), .val (.int x3), .val (.int x4), .val (.int (0 : Int32)), .val (.ref ba), .val (.ref r), .unset] [(.ref ba), (.ref r)])) (fun _ k => XS.aload X12.here hx rfl (hb hby at_63) rfl rfl k) ?_
    refine Goes.by (T' := T12) (g' := (mkF m 68 #[.val (.int x0), .val (.int x1), .val (.int x2), .val (.int x3), .val (.int x4), .val (.int (0 : Int32)), .val (.ref ba), .val (.ref r), .unset] [])) (fun _ k => Jvm.RoadKit.acmp (g := (mkF m 65 #[.val (.int x0), .val (.int x1), .val (.int x2), .val (.int x3), .val (.int x4), .val (.int (0 : Int32)), .val (.ref ba), .val (.ref r), .unset] [(.ref ba), (.ref r)])) X12 hx rfl rfl rfl (pc0 := 65) (pc' := 68) (same := false) rfl (hb hby at_65) rfl (decide_eq_false fun q => (Ne.symm ne_ba_r) (Value.ref.inj q)) (by decide) (by decide) k) ?_
    refine Goes.by (T' := T12) (g' := (mkF m 70 #[.val (.int x0), .val (.int x1), .val (.int x2), .val (.int x3), .val (.int x4), .val (.int (0 : Int32)), .val (.ref ba), .val (.ref r), .unset] [(.ref r)])) (fun _ k => XS.aload X12.here hx rfl (hb hby at_68) rfl rfl k) ?_
    refine Goes.by (T' := T12) (g' := (mkF m 71 #[.val (.int x0), .val (.int x1), .val (.int x2), .val (.int x3), .val (.int x4), .val (.int (0 : Int32)), .val (.ref ba), .val (.ref r), .unset] [(.int (0 : Int32))])) (lenS X12 hx hZ e12 V_r (n := (0 : Int32)) rfl (g := (mkF m 70 #[.val (.int x0), .val (.int x1), .val (.int x2), .val (.int x3), .val (.int x4), .val (.int (0 : Int32)), .val (.ref ba), .val (.ref r), .unset] [(.ref r)])) rfl rfl (hb hby at_70)) ?_
    refine Goes.by (T' := T12) (g' := (mkF m 73 #[.val (.int x0), .val (.int x1), .val (.int x2), .val (.int x3), .val (.int x4), .val (.int (0 : Int32)), .val (.ref ba), .val (.ref r), .unset] [(.int (0 : Int32)), (.int (0 : Int32))])) (fun _ k => XS.iload X12.here hx rfl (hb hby at_71) rfl k) ?_
    refine Goes.by (T' := T12) (g' := (mkF m 78 #[.val (.int x0), .val (.int x1), .val (.int x2), .val (.int x3), .val (.int x4), .val (.int (0 : Int32)), .val (.ref ba), .val (.ref r), .unset] [])) (fun _ k => XS.icmpYes X12.here hx rfl (pc0 := 73) (pc' := 78) rfl (hb hby at_73) rfl (by decide) (by decide) (by decide) k) ?_
    refine Goes.by (T' := T12) (g' := (mkF m 79 #[.val (.int x0), .val (.int x1), .val (.int x2), .val (.int x3), .val (.int x4), .val (.int (0 : Int32)), .val (.ref ba), .val (.ref r), .unset] [(.int (1 : Int32))])) (fun _ k => XS.iconst X12.here hx rfl (hb hby at_78)  k) ?_
    refine Goes.by (T' := T12) (g' := (mkF m 81 #[.val (.int x0), .val (.int x1), .val (.int x2), .val (.int x3), .val (.int x4), .val (.int (0 : Int32)), .val (.ref ba), .val (.ref r), .val (.int (1 : Int32))] [])) (fun _ k => XS.istore X12.here hx rfl (hb hby at_79) rfl (l' := #[.val (.int x0), .val (.int x1), .val (.int x2), .val (.int x3), .val (.int x4), .val (.int (0 : Int32)), .val (.ref ba), .val (.ref r), .val (.int (1 : Int32))]) rfl k) ?_
    refine Goes.by (T' := T12) (g' := (mkF m 83 #[.val (.int x0), .val (.int x1), .val (.int x2), .val (.int x3), .val (.int x4), .val (.int (0 : Int32)), .val (.ref ba), .val (.ref r), .val (.int (1 : Int32))] [(.int (0 : Int32))])) (fun _ k => XS.iload X12.here hx rfl (hb hby at_81) rfl k) ?_
    refine Goes.by (T' := T12) (g' := (mkF m 122 #[.val (.int x0), .val (.int x1), .val (.int x2), .val (.int x3), .val (.int x4), .val (.int (0 : Int32)), .val (.ref ba), .val (.ref r), .val (.int (1 : Int32))] [])) (fun _ k => XS.ifYes X12.here hx rfl (pc0 := 83) (pc' := 122) rfl (hb hby at_83) rfl (by decide) (by decide) (by decide) k) ?_
    refine Goes.by (T' := T12) (g' := (mkF m 124 #[.val (.int x0), .val (.int x1), .val (.int x2), .val (.int x3), .val (.int x4), .val (.int (0 : Int32)), .val (.ref ba), .val (.ref r), .val (.int (1 : Int32))] [(.int (0 : Int32))])) (fun _ k => XS.iload X12.here hx rfl (hb hby at_122) rfl k) ?_
    refine Goes.by (T' := T12) (g' := (mkF m 125 #[.val (.int x0), .val (.int x1), .val (.int x2), .val (.int x3), .val (.int x4), .val (.int (0 : Int32)), .val (.ref ba), .val (.ref r), .val (.int (1 : Int32))] [(.int (1 : Int32)), (.int (0 : Int32))])) (fun _ k => XS.iconst X12.here hx rfl (hb hby at_124)  k) ?_
    refine Goes.by (T' := T12) (g' := (mkF m 164 #[.val (.int x0), .val (.int x1), .val (.int x2), .val (.int x3), .val (.int x4), .val (.int (0 : Int32)), .val (.ref ba), .val (.ref r), .val (.int (1 : Int32))] [])) (fun _ k => XS.icmpYes X12.here hx rfl (pc0 := 125) (pc' := 164) rfl (hb hby at_125) rfl (by decide) (by decide) (by decide) k) ?_
    refine Goes.by (T' := T12) (g' := (mkF m 166 #[.val (.int x0), .val (.int x1), .val (.int x2), .val (.int x3), .val (.int x4), .val (.int (0 : Int32)), .val (.ref ba), .val (.ref r), .val (.int (1 : Int32))] [(.int (0 : Int32))])) (fun _ k => XS.iload X12.here hx rfl (hb hby at_164) rfl k) ?_
    refine Goes.by (T' := T12) (g' := (mkF m 167 #[.val (.int x0), .val (.int x1), .val (.int x2), .val (.int x3), .val (.int x4), .val (.int (0 : Int32)), .val (.ref ba), .val (.ref r), .val (.int (1 : Int32))] [(.int (2 : Int32)), (.int (0 : Int32))])) (fun _ k => XS.iconst X12.here hx rfl (hb hby at_166)  k) ?_
    refine Goes.by (T' := T12) (g' := (mkF m 206 #[.val (.int x0), .val (.int x1), .val (.int x2), .val (.int x3), .val (.int x4), .val (.int (0 : Int32)), .val (.ref ba), .val (.ref r), .val (.int (1 : Int32))] [])) (fun _ k => XS.icmpYes X12.here hx rfl (pc0 := 167) (pc' := 206) rfl (hb hby at_167) rfl (by decide) (by decide) (by decide) k) ?_
    refine Goes.by (T' := T12) (g' := (mkF m 208 #[.val (.int x0), .val (.int x1), .val (.int x2), .val (.int x3), .val (.int x4), .val (.int (0 : Int32)), .val (.ref ba), .val (.ref r), .val (.int (1 : Int32))] [(.int (1 : Int32))])) (fun _ k => XS.iload X12.here hx rfl (hb hby at_206) rfl k) ?_
    exact outZ X12 hx hlk hret (hb hby at_208) (by exact ⟨rfl, N0⟩) (by decide) (by decide)
  · subst hn
    obtain ⟨T13, h13, k13, X13, e13, E13, A13, st13⟩ := newP X0 hx hZ (hw _ (List.mem_of_getElem? (i := 0) rfl)) e0 (g := (mkF m 7 #[.val (.int x0), .val (.int x1), .val (.int x2), .val (.int x3), .val (.int x4), .val (.int (1 : Int32)), .unset, .unset, .unset] [(.int (1 : Int32))])) rfl (hb hby at_7) rfl (by decide) (cap := 1) (by decide) (by decide) (by decide) (by decide)
    obtain ⟨ba, g13⟩ : ∃ z, z = h0.size := ⟨_, rfl⟩
    rw [← g13] at A13 st13
    have ge_ba : n0 ≤ ba := Nat.le_trans Z0 (Nat.le_of_eq g13.symm)
    have Z0 := Nat.le_trans Z0 E13.1
    have V_ba : Sar Z h13 ba .double [(.double (0 : UInt64))] := Sar.new (n := 1) A13 (by decide)
    refine Goes.by (T' := T13) (g' := (mkF m 9 #[.val (.int x0), .val (.int x1), .val (.int x2), .val (.int x3), .val (.int x4), .val (.int (1 : Int32)), .unset, .unset, .unset] [(.ref ba)])) st13 ?_
    refine Goes.by (T' := T13) (g' := (mkF m 11 #[.val (.int x0), .val (.int x1), .val (.int x2), .val (.int x3), .val (.int x4), .val (.int (1 : Int32)), .val (.ref ba), .unset, .unset] [])) (fun _ k => XS.astore X13.here hx rfl (hb hby at_9) rfl rfl (l' := #[.val (.int x0), .val (.int x1), .val (.int x2), .val (.int x3), .val (.int x4), .val (.int (1 : Int32)), .val (.ref ba), .unset, .unset]) rfl k) ?_
    refine Goes.by (T' := T13) (g' := (mkF m 13 #[.val (.int x0), .val (.int x1), .val (.int x2), .val (.int x3), .val (.int x4), .val (.int (1 : Int32)), .val (.ref ba), .unset, .unset] [(.int (1 : Int32))])) (fun _ k => XS.iload X13.here hx rfl (hb hby at_11) rfl k) ?_
    refine Goes.by (T' := T13) (g' := (mkF m 16 #[.val (.int x0), .val (.int x1), .val (.int x2), .val (.int x3), .val (.int x4), .val (.int (1 : Int32)), .val (.ref ba), .unset, .unset] [])) (fun _ k => XS.ifNo X13.here hx rfl (hb hby at_13) rfl (by decide) k) ?_
    refine Goes.by (T' := T13) (g' := (mkF m 18 #[.val (.int x0), .val (.int x1), .val (.int x2), .val (.int x3), .val (.int x4), .val (.int (1 : Int32)), .val (.ref ba), .unset, .unset] [(.ref ba)])) (fun _ k => XS.aload X13.here hx rfl (hb hby at_16) rfl rfl k) ?_
    refine Goes.by (T' := T13) (g' := (mkF m 19 #[.val (.int x0), .val (.int x1), .val (.int x2), .val (.int x3), .val (.int x4), .val (.int (1 : Int32)), .val (.ref ba), .unset, .unset] [(.int (0 : Int32)), (.ref ba)])) (fun _ k => XS.iconst X13.here hx rfl (hb hby at_18)  k) ?_
    refine Goes.by (T' := T13) (g' := (mkF m 20 #[.val (.int x0), .val (.int x1), .val (.int x2), .val (.int x3), .val (.int x4), .val (.int (1 : Int32)), .val (.ref ba), .unset, .unset] [(.int x1), (.int (0 : Int32)), (.ref ba)])) (fun _ k => XS.iloadN X13.here hx rfl (hb hby at_19) rfl k) ?_
    obtain ⟨u0, q_u0⟩ : ∃ zz, FP.i2d x1 = zz := ⟨_, rfl⟩
    refine Goes.by (T' := T13) (g' := (mkF m 21 #[.val (.int x0), .val (.int x1), .val (.int x2), .val (.int x3), .val (.int x4), .val (.int (1 : Int32)), .val (.ref ba), .unset, .unset] [(.double u0), (.int (0 : Int32)), (.ref ba)])) (fun _ k => XS.i2dS X13.here hx rfl (hb hby at_20) rfl q_u0 k) ?_
    obtain ⟨T14, h14, X14, e14, W14, V14, st14⟩ := stDS X13 hx hZ e13 V_ba (j := (0 : Int32)) 0 (by decide) (by show 0 < 1; decide) (g := (mkF m 21 #[.val (.int x0), .val (.int x1), .val (.int x2), .val (.int x3), .val (.int x4), .val (.int (1 : Int32)), .val (.ref ba), .unset, .unset] [(.double u0), (.int (0 : Int32)), (.ref ba)])) rfl rfl (hb hby at_21)
    have N0 := Fr.snoc X14 N0 ge_ba
    have Z0 := Nat.le_trans Z0 (Nat.le_of_eq W14.size.symm)
    have V_ba : Sar Z h14 ba .double [(.double u0)] := V14
    refine Goes.by (T' := T14) (g' := (mkF m 22 #[.val (.int x0), .val (.int x1), .val (.int x2), .val (.int x3), .val (.int x4), .val (.int (1 : Int32)), .val (.ref ba), .unset, .unset] [])) st14 ?_
    refine Goes.by (T' := T14) (g' := (mkF m 24 #[.val (.int x0), .val (.int x1), .val (.int x2), .val (.int x3), .val (.int x4), .val (.int (1 : Int32)), .val (.ref ba), .unset, .unset] [(.int (1 : Int32))])) (fun _ k => XS.iload X14.here hx rfl (hb hby at_22) rfl k) ?_
    refine Goes.by (T' := T14) (g' := (mkF m 25 #[.val (.int x0), .val (.int x1), .val (.int x2), .val (.int x3), .val (.int x4), .val (.int (1 : Int32)), .val (.ref ba), .unset, .unset] [(.int (1 : Int32)), (.int (1 : Int32))])) (fun _ k => XS.iconst X14.here hx rfl (hb hby at_24)  k) ?_
    refine Goes.by (T' := T14) (g' := (mkF m 34 #[.val (.int x0), .val (.int x1), .val (.int x2), .val (.int x3), .val (.int x4), .val (.int (1 : Int32)), .val (.ref ba), .unset, .unset] [])) (fun _ k => XS.icmpYes X14.here hx rfl (pc0 := 25) (pc' := 34) rfl (hb hby at_25) rfl (by decide) (by decide) (by decide) k) ?_
    refine Goes.by (T' := T14) (g' := (mkF m 36 #[.val (.int x0), .val (.int x1), .val (.int x2), .val (.int x3), .val (.int x4), .val (.int (1 : Int32)), .val (.ref ba), .unset, .unset] [(.int (1 : Int32))])) (fun _ k => XS.iload X14.here hx rfl (hb hby at_34) rfl k) ?_
    refine Goes.by (T' := T14) (g' := (mkF m 37 #[.val (.int x0), .val (.int x1), .val (.int x2), .val (.int x3), .val (.int x4), .val (.int (1 : Int32)), .val (.ref ba), .unset, .unset] [(.int (2 : Int32)), (.int (1 : Int32))])) (fun _ k => XS.iconst X14.here hx rfl (hb hby at_36)  k) ?_
    refine Goes.by (T' := T14) (g' := (mkF m 46 #[.val (.int x0), .val (.int x1), .val (.int x2), .val (.int x3), .val (.int x4), .val (.int (1 : Int32)), .val (.ref ba), .unset, .unset] [])) (fun _ k => XS.icmpYes X14.here hx rfl (pc0 := 37) (pc' := 46) rfl (hb hby at_37) rfl (by decide) (by decide) (by decide) k) ?_
    refine Goes.by (T' := T14) (g' := (mkF m 48 #[.val (.int x0), .val (.int x1), .val (.int x2), .val (.int x3), .val (.int x4), .val (.int (1 : Int32)), .val (.ref ba), .unset, .unset] [(.ref ba)])) (fun _ k => XS.aload X14.here hx rfl (hb hby at_46) rfl rfl k) ?_
    refine Goes.by (T' := T14) (g' := (mkF m 50 #[.val (.int x0), .val (.int x1), .val (.int x2), .val (.int x3), .val (.int x4), .val (.int (1 : Int32)), .val (.ref ba), .unset, .unset] [(.int x4), (.ref ba)])) (fun _ k => XS.iload X14.here hx rfl (hb hby at_48) rfl k) ?_
    obtain ⟨f, q_f⟩ : ∃ zz, FP.i2d x4 = zz := ⟨_, rfl⟩
    refine Goes.by (T' := T14) (g' := (mkF m 51 #[.val (.int x0), .val (.int x1), .val (.int x2), .val (.int x3), .val (.int x4), .val (.int (1 : Int32)), .val (.ref ba), .unset, .unset] [(.double f), (.ref ba)])) (fun _ k => XS.i2dS X14.here hx rfl (hb hby at_50) rfl q_f k) ?_
    obtain ⟨v15, T15, L15, X15, hQ15, st15⟩ := callC X14 hx hZ (y := (⟨"com/example/adhoq/adhoq/Vectors", "times", "([DD)[D"⟩ : MethodName)) hown (hw _ (List.mem_of_getElem? (i := 1) rfl)) (hw _ (List.mem_of_getElem? (i := 2) rfl)) (hw _ (List.mem_of_getElem? (i := 4) rfl)) (hw _ (List.mem_of_getElem? (i := 3) rfl)) (by decide) e14 (argsL := [(.ref ba), (.double f)]) (rest := []) (W := 0) (rm_times1 l Z a0 hw ba f x4.toInt u0 x1.toInt h14 n0 Z0 V_ba (DInt_i2d q_f) (DInt_i2d q_u0)) rfl (by decide) (by decide) (by decide) (by decide) (g := (mkF m 51 #[.val (.int x0), .val (.int x1), .val (.int x2), .val (.int x3), .val (.int x4), .val (.int (1 : Int32)), .val (.ref ba), .unset, .unset] [(.double f), (.ref ba)])) rfl (by rw [hml]; rfl) (lenOf pd0 rfl) rfl (by show 2 * 0 + _ ≤ _; exact Nat.le_of_eq rfl) (hb hby at_51)
    obtain ⟨r, rfl, szr, V_r, K15, NL15⟩ := hQ15
    have N0 := Fr.app N0 NL15
    have ne_ba_r : ba ≠ r := fun q => Nat.lt_irrefl _ (Nat.lt_of_lt_of_le V_ba.lt (Nat.le_trans szr (Nat.le_of_eq q.symm)))
    have ge_r : n0 ≤ r := Nat.le_trans Z0 szr
    have e15 : T15.heap = T15.heap := rfl
    have V_ba := V_ba.keep K15 nin0
    have Z0 := Nat.le_trans Z0 K15.1
    refine Goes.by (T' := T15) (g' := (mkF m 54 #[.val (.int x0), .val (.int x1), .val (.int x2), .val (.int x3), .val (.int x4), .val (.int (1 : Int32)), .val (.ref ba), .unset, .unset] [(.ref r)])) st15 ?_
    refine Goes.by (T' := T15) (g' := (mkF m 56 #[.val (.int x0), .val (.int x1), .val (.int x2), .val (.int x3), .val (.int x4), .val (.int (1 : Int32)), .val (.ref ba), .val (.ref r), .unset] [])) (fun _ k => XS.astore X15.here hx rfl (hb hby at_54) rfl rfl (l' := #[.val (.int x0), .val (.int x1), .val (.int x2), .val (.int x3), .val (.int x4), .val (.int (1 : Int32)), .val (.ref ba), .val (.ref r), .unset]) rfl k) ?_
    refine Goes.by (T' := T15) (g' := (mkF m 58 #[.val (.int x0), .val (.int x1), .val (.int x2), .val (.int x3), .val (.int x4), .val (.int (1 : Int32)), .val (.ref ba), .val (.ref r), .unset] [(.ref r)])) (fun _ k => XS.aload X15.here hx rfl (hb hby at_56) rfl rfl k) ?_
    refine Goes.by (T' := T15) (g' := (mkF m 61 #[.val (.int x0), .val (.int x1), .val (.int x2), .val (.int x3), .val (.int x4), .val (.int (1 : Int32)), .val (.ref ba), .val (.ref r), .unset] [])) (fun _ k => XS.ifnullNo X15.here hx rfl (hb hby at_58) rfl k) ?_
    refine Goes.by (T' := T15) (g' := (mkF m 63 #[.val (.int x0), .val (.int x1), .val (.int x2), .val (.int x3), .val (.int x4), .val (.int (1 : Int32)), .val (.ref ba), .val (.ref r), .unset] [(.ref r)])) (fun _ k => XS.aload X15.here hx rfl (hb hby at_61) rfl rfl k) ?_
    refine Goes.by (T' := T15) (g' := (mkF m 65 #[.val (.int x0), .val (.int x1), .val (.int x2), .val (.int x3), .val (.int x4), .val (.int (1 : Int32)), .val (.ref ba), .val (.ref r), .unset] [(.ref ba), (.ref r)])) (fun _ k => XS.aload X15.here hx rfl (hb hby at_63) rfl rfl k) ?_
    refine Goes.by (T' := T15) (g' := (mkF m 68 #[.val (.int x0), .val (.int x1), .val (.int x2), .val (.int x3), .val (.int x4), .val (.int (1 : Int32)), .val (.ref ba), .val (.ref r), .unset] [])) (fun _ k => Jvm.RoadKit.acmp (g := (mkF m 65 #[.val (.int x0), .val (.int x1), .val (.int x2), .val (.int x3), .val (.int x4), .val (.int (1 : Int32)), .val (.ref ba), .val (.ref r), .unset] [(.ref ba), (.ref r)])) X15 hx rfl rfl rfl (pc0 := 65) (pc' := 68) (same := false) rfl (hb hby at_65) rfl (decide_eq_false fun q => (Ne.symm ne_ba_r) (Value.ref.inj q)) (by decide) (by decide) k) ?_
    refine Goes.by (T' := T15) (g' := (mkF m 70 #[.val (.int x0), .val (.int x1), .val (.int x2), .val (.int x3), .val (.int x4), .val (.int (1 : Int32)), .val (.ref ba), .val (.ref r), .unset] [(.ref r)])) (fun _ k => XS.aload X15.here hx rfl (hb hby at_68) rfl rfl k) ?_
    refine Goes.by (T' := T15) (g' := (mkF m 71 #[.val (.int x0), .val (.int x1), .val (.int x2), .val (.int x3), .val (.int x4), .val (.int (1 : Int32)), .val (.ref ba), .val (.ref r), .unset] [(.int (1 : Int32))])) (lenS X15 hx hZ e15 V_r (n := (1 : Int32)) rfl (g := (mkF m 70 #[.val (.int x0), .val (.int x1), .val (.int x2), .val (.int x3), .val (.int x4), .val (.int (1 : Int32)), .val (.ref ba), .val (.ref r), .unset] [(.ref r)])) rfl rfl (hb hby at_70)) ?_
    refine Goes.by (T' := T15) (g' := (mkF m 73 #[.val (.int x0), .val (.int x1), .val (.int x2), .val (.int x3), .val (.int x4), .val (.int (1 : Int32)), .val (.ref ba), .val (.ref r), .unset] [(.int (1 : Int32)), (.int (1 : Int32))])) (fun _ k => XS.iload X15.here hx rfl (hb hby at_71) rfl k) ?_
    refine Goes.by (T' := T15) (g' := (mkF m 78 #[.val (.int x0), .val (.int x1), .val (.int x2), .val (.int x3), .val (.int x4), .val (.int (1 : Int32)), .val (.ref ba), .val (.ref r), .unset] [])) (fun _ k => XS.icmpYes X15.here hx rfl (pc0 := 73) (pc' := 78) rfl (hb hby at_73) rfl (by decide) (by decide) (by decide) k) ?_
    refine Goes.by (T' := T15) (g' := (mkF m 79 #[.val (.int x0), .val (.int x1), .val (.int x2), .val (.int x3), .val (.int x4), .val (.int (1 : Int32)), .val (.ref ba), .val (.ref r), .unset] [(.int (1 : Int32))])) (fun _ k => XS.iconst X15.here hx rfl (hb hby at_78)  k) ?_
    refine Goes.by (T' := T15) (g' := (mkF m 81 #[.val (.int x0), .val (.int x1), .val (.int x2), .val (.int x3), .val (.int x4), .val (.int (1 : Int32)), .val (.ref ba), .val (.ref r), .val (.int (1 : Int32))] [])) (fun _ k => XS.istore X15.here hx rfl (hb hby at_79) rfl (l' := #[.val (.int x0), .val (.int x1), .val (.int x2), .val (.int x3), .val (.int x4), .val (.int (1 : Int32)), .val (.ref ba), .val (.ref r), .val (.int (1 : Int32))]) rfl k) ?_
    refine Goes.by (T' := T15) (g' := (mkF m 83 #[.val (.int x0), .val (.int x1), .val (.int x2), .val (.int x3), .val (.int x4), .val (.int (1 : Int32)), .val (.ref ba), .val (.ref r), .val (.int (1 : Int32))] [(.int (1 : Int32))])) (fun _ k => XS.iload X15.here hx rfl (hb hby at_81) rfl k) ?_
    refine Goes.by (T' := T15) (g' := (mkF m 86 #[.val (.int x0), .val (.int x1), .val (.int x2), .val (.int x3), .val (.int x4), .val (.int (1 : Int32)), .val (.ref ba), .val (.ref r), .val (.int (1 : Int32))] [])) (fun _ k => XS.ifNo X15.here hx rfl (hb hby at_83) rfl (by decide) k) ?_
    refine Goes.by (T' := T15) (g' := (mkF m 88 #[.val (.int x0), .val (.int x1), .val (.int x2), .val (.int x3), .val (.int x4), .val (.int (1 : Int32)), .val (.ref ba), .val (.ref r), .val (.int (1 : Int32))] [(.int (1 : Int32))])) (fun _ k => XS.iload X15.here hx rfl (hb hby at_86) rfl k) ?_
    refine Goes.by (T' := T15) (g' := (mkF m 91 #[.val (.int x0), .val (.int x1), .val (.int x2), .val (.int x3), .val (.int x4), .val (.int (1 : Int32)), .val (.ref ba), .val (.ref r), .val (.int (1 : Int32))] [])) (fun _ k => XS.ifNo X15.here hx rfl (hb hby at_88) rfl (by decide) k) ?_
    refine Goes.by (T' := T15) (g' := (mkF m 93 #[.val (.int x0), .val (.int x1), .val (.int x2), .val (.int x3), .val (.int x4), .val (.int (1 : Int32)), .val (.ref ba), .val (.ref r), .val (.int (1 : Int32))] [(.ref r)])) (fun _ k => XS.aload X15.here hx rfl (hb hby at_91) rfl rfl k) ?_
    refine Goes.by (T' := T15) (g' := (mkF m 94 #[.val (.int x0), .val (.int x1), .val (.int x2), .val (.int x3), .val (.int x4), .val (.int (1 : Int32)), .val (.ref ba), .val (.ref r), .val (.int (1 : Int32))] [(.int (0 : Int32)), (.ref r)])) (fun _ k => XS.iconst X15.here hx rfl (hb hby at_93)  k) ?_
    refine Goes.by (T' := T15) (g' := (mkF m 95 #[.val (.int x0), .val (.int x1), .val (.int x2), .val (.int x3), .val (.int x4), .val (.int (1 : Int32)), .val (.ref ba), .val (.ref r), .val (.int (1 : Int32))] [(.double (FP.dmul u0 f))])) (ldDS X15 hx hZ e15 V_r (v := (.double (FP.dmul u0 f))) (j := (0 : Int32)) 0 (by decide) rfl (g := (mkF m 94 #[.val (.int x0), .val (.int x1), .val (.int x2), .val (.int x3), .val (.int x4), .val (.int (1 : Int32)), .val (.ref ba), .val (.ref r), .val (.int (1 : Int32))] [(.int (0 : Int32)), (.ref r)])) rfl rfl (hb hby at_94)) ?_
    refine Goes.by (T' := T15) (g' := (mkF m 96 #[.val (.int x0), .val (.int x1), .val (.int x2), .val (.int x3), .val (.int x4), .val (.int (1 : Int32)), .val (.ref ba), .val (.ref r), .val (.int (1 : Int32))] [(.int x1), (.double (FP.dmul u0 f))])) (fun _ k => XS.iloadN X15.here hx rfl (hb hby at_95) rfl k) ?_
    refine Goes.by (T' := T15) (g' := (mkF m 98 #[.val (.int x0), .val (.int x1), .val (.int x2), .val (.int x3), .val (.int x4), .val (.int (1 : Int32)), .val (.ref ba), .val (.ref r), .val (.int (1 : Int32))] [(.int x4), (.int x1), (.double (FP.dmul u0 f))])) (fun _ k => XS.iload X15.here hx rfl (hb hby at_96) rfl k) ?_
    obtain ⟨v16, T16, L16, X16, hQ16, st16⟩ := callC X15 hx hZ (y := (⟨"com/example/adhoq/adhoq/VectorsTimesPinLaw", "ref", "(II)D"⟩ : MethodName)) hown (hw _ (List.mem_of_getElem? (i := 5) rfl)) (hw _ (List.mem_of_getElem? (i := 6) rfl)) (hw _ (List.mem_of_getElem? (i := 8) rfl)) (hw _ (List.mem_of_getElem? (i := 7) rfl)) (by decide) e15 (argsL := [(.int x1), (.int x4)]) (rest := [(.double (FP.dmul u0 f))]) (W := 2) (rm_ref l Z a0 hw x1 x4 T15.heap n0 Z0) rfl (by decide) (by decide) (by decide) (by decide) (g := (mkF m 98 #[.val (.int x0), .val (.int x1), .val (.int x2), .val (.int x3), .val (.int x4), .val (.int (1 : Int32)), .val (.ref ba), .val (.ref r), .val (.int (1 : Int32))] [(.int x4), (.int x1), (.double (FP.dmul u0 f))])) rfl (by rw [hml]; rfl) (lenOf pd1 rfl) rfl (by show 2 * 0 + _ ≤ _; exact Nat.le_of_eq rfl) (hb hby at_98)
    obtain ⟨rfl, NL16, hk16⟩ := hQ16
    have N0 := Fr.app N0 NL16
    refine Goes.by (T' := T16) (g' := (mkF m 101 #[.val (.int x0), .val (.int x1), .val (.int x2), .val (.int x3), .val (.int x4), .val (.int (1 : Int32)), .val (.ref ba), .val (.ref r), .val (.int (1 : Int32))] [(.double (FP.l2d ((x1).toInt64 * (x4).toInt64))), (.double (FP.dmul u0 f))])) st16 ?_
    refine Goes.by (T' := T16) (g' := (mkF m 102 #[.val (.int x0), .val (.int x1), .val (.int x2), .val (.int x3), .val (.int x4), .val (.int (1 : Int32)), .val (.ref ba), .val (.ref r), .val (.int (1 : Int32))] [(.int (0 : Int32))])) (fun _ k => XS.dcmpS X16.here hx rfl (hb hby at_101) rfl (own_mulcmp (DInt_i2d q_u0) (DInt_i2d q_f) (own_imul64 x1 x4) _) k) ?_
    refine Goes.by (T' := T16) (g' := (mkF m 105 #[.val (.int x0), .val (.int x1), .val (.int x2), .val (.int x3), .val (.int x4), .val (.int (1 : Int32)), .val (.ref ba), .val (.ref r), .val (.int (1 : Int32))] [])) (fun _ k => XS.ifNo X16.here hx rfl (hb hby at_102) rfl (by decide) k) ?_
    refine Goes.by (T' := T16) (g' := (mkF m 107 #[.val (.int x0), .val (.int x1), .val (.int x2), .val (.int x3), .val (.int x4), .val (.int (1 : Int32)), .val (.ref ba), .val (.ref r), .val (.int (1 : Int32))] [(.ref ba)])) (fun _ k => XS.aload X16.here hx rfl (hb hby at_105) rfl rfl k) ?_
    refine Goes.by (T' := T16) (g' := (mkF m 108 #[.val (.int x0), .val (.int x1), .val (.int x2), .val (.int x3), .val (.int x4), .val (.int (1 : Int32)), .val (.ref ba), .val (.ref r), .val (.int (1 : Int32))] [(.int (0 : Int32)), (.ref ba)])) (fun _ k => XS.iconst X16.here hx rfl (hb hby at_107)  k) ?_
    refine Goes.by (T' := T16) (g' := (mkF m 109 #[.val (.int x0), .val (.int x1), .val (.int x2), .val (.int x3), .val (.int x4), .val (.int (1 : Int32)), .val (.ref ba), .val (.ref r), .val (.int (1 : Int32))] [(.double u0)])) (ldDS X16 hx hZ hk16 V_ba (v := (.double u0)) (j := (0 : Int32)) 0 (by decide) rfl (g := (mkF m 108 #[.val (.int x0), .val (.int x1), .val (.int x2), .val (.int x3), .val (.int x4), .val (.int (1 : Int32)), .val (.ref ba), .val (.ref r), .val (.int (1 : Int32))] [(.int (0 : Int32)), (.ref ba)])) rfl rfl (hb hby at_108)) ?_
    refine Goes.by (T' := T16) (g' := (mkF m 110 #[.val (.int x0), .val (.int x1), .val (.int x2), .val (.int x3), .val (.int x4), .val (.int (1 : Int32)), .val (.ref ba), .val (.ref r), .val (.int (1 : Int32))] [(.int x1), (.double u0)])) (fun _ k => XS.iloadN X16.here hx rfl (hb hby at_109) rfl k) ?_
    obtain ⟨w0, q_w0⟩ : ∃ zz, FP.i2d x1 = zz := ⟨_, rfl⟩
    refine Goes.by (T' := T16) (g' := (mkF m 111 #[.val (.int x0), .val (.int x1), .val (.int x2), .val (.int x3), .val (.int x4), .val (.int (1 : Int32)), .val (.ref ba), .val (.ref r), .val (.int (1 : Int32))] [(.double w0), (.double u0)])) (fun _ k => XS.i2dS X16.here hx rfl (hb hby at_110) rfl q_w0 k) ?_
    refine Goes.by (T' := T16) (g' := (mkF m 112 #[.val (.int x0), .val (.int x1), .val (.int x2), .val (.int x3), .val (.int x4), .val (.int (1 : Int32)), .val (.ref ba), .val (.ref r), .val (.int (1 : Int32))] [(.int (0 : Int32))])) (fun _ k => XS.dcmpS X16.here hx rfl (hb hby at_111) rfl (cmpD_eq (DInt_i2d q_u0) (DInt_i2d q_w0) rfl _) k) ?_
    refine Goes.by (T' := T16) (g' := (mkF m 115 #[.val (.int x0), .val (.int x1), .val (.int x2), .val (.int x3), .val (.int x4), .val (.int (1 : Int32)), .val (.ref ba), .val (.ref r), .val (.int (1 : Int32))] [])) (fun _ k => XS.ifNo X16.here hx rfl (hb hby at_112) rfl (by decide) k) ?_
    refine Goes.by (T' := T16) (g' := (mkF m 116 #[.val (.int x0), .val (.int x1), .val (.int x2), .val (.int x3), .val (.int x4), .val (.int (1 : Int32)), .val (.ref ba), .val (.ref r), .val (.int (1 : Int32))] [(.int (1 : Int32))])) (fun _ k => XS.iconst X16.here hx rfl (hb hby at_115)  k) ?_
    refine Goes.by (T' := T16) (g' := (mkF m 120 #[.val (.int x0), .val (.int x1), .val (.int x2), .val (.int x3), .val (.int x4), .val (.int (1 : Int32)), .val (.ref ba), .val (.ref r), .val (.int (1 : Int32))] [(.int (1 : Int32))])) (fun _ k => XS.goto X16.here hx rfl (pc0 := 116) (pc' := 120) rfl (hb hby at_116) (by decide) (by decide) k) ?_
    refine Goes.by (T' := T16) (g' := (mkF m 122 #[.val (.int x0), .val (.int x1), .val (.int x2), .val (.int x3), .val (.int x4), .val (.int (1 : Int32)), .val (.ref ba), .val (.ref r), .val (.int (1 : Int32))] [])) (fun _ k => XS.istore X16.here hx rfl (hb hby at_120) rfl (l' := #[.val (.int x0), .val (.int x1), .val (.int x2), .val (.int x3), .val (.int x4), .val (.int (1 : Int32)), .val (.ref ba), .val (.ref r), .val (.int (1 : Int32))]) rfl k) ?_
    refine Goes.by (T' := T16) (g' := (mkF m 124 #[.val (.int x0), .val (.int x1), .val (.int x2), .val (.int x3), .val (.int x4), .val (.int (1 : Int32)), .val (.ref ba), .val (.ref r), .val (.int (1 : Int32))] [(.int (1 : Int32))])) (fun _ k => XS.iload X16.here hx rfl (hb hby at_122) rfl k) ?_
    refine Goes.by (T' := T16) (g' := (mkF m 125 #[.val (.int x0), .val (.int x1), .val (.int x2), .val (.int x3), .val (.int x4), .val (.int (1 : Int32)), .val (.ref ba), .val (.ref r), .val (.int (1 : Int32))] [(.int (1 : Int32)), (.int (1 : Int32))])) (fun _ k => XS.iconst X16.here hx rfl (hb hby at_124)  k) ?_
    refine Goes.by (T' := T16) (g' := (mkF m 164 #[.val (.int x0), .val (.int x1), .val (.int x2), .val (.int x3), .val (.int x4), .val (.int (1 : Int32)), .val (.ref ba), .val (.ref r), .val (.int (1 : Int32))] [])) (fun _ k => XS.icmpYes X16.here hx rfl (pc0 := 125) (pc' := 164) rfl (hb hby at_125) rfl (by decide) (by decide) (by decide) k) ?_
    refine Goes.by (T' := T16) (g' := (mkF m 166 #[.val (.int x0), .val (.int x1), .val (.int x2), .val (.int x3), .val (.int x4), .val (.int (1 : Int32)), .val (.ref ba), .val (.ref r), .val (.int (1 : Int32))] [(.int (1 : Int32))])) (fun _ k => XS.iload X16.here hx rfl (hb hby at_164) rfl k) ?_
    refine Goes.by (T' := T16) (g' := (mkF m 167 #[.val (.int x0), .val (.int x1), .val (.int x2), .val (.int x3), .val (.int x4), .val (.int (1 : Int32)), .val (.ref ba), .val (.ref r), .val (.int (1 : Int32))] [(.int (2 : Int32)), (.int (1 : Int32))])) (fun _ k => XS.iconst X16.here hx rfl (hb hby at_166)  k) ?_
    refine Goes.by (T' := T16) (g' := (mkF m 206 #[.val (.int x0), .val (.int x1), .val (.int x2), .val (.int x3), .val (.int x4), .val (.int (1 : Int32)), .val (.ref ba), .val (.ref r), .val (.int (1 : Int32))] [])) (fun _ k => XS.icmpYes X16.here hx rfl (pc0 := 167) (pc' := 206) rfl (hb hby at_167) rfl (by decide) (by decide) (by decide) k) ?_
    refine Goes.by (T' := T16) (g' := (mkF m 208 #[.val (.int x0), .val (.int x1), .val (.int x2), .val (.int x3), .val (.int x4), .val (.int (1 : Int32)), .val (.ref ba), .val (.ref r), .val (.int (1 : Int32))] [(.int (1 : Int32))])) (fun _ k => XS.iload X16.here hx rfl (hb hby at_206) rfl k) ?_
    exact outZ X16 hx hlk hret (hb hby at_208) (by exact ⟨rfl, N0⟩) (by decide) (by decide)
  · subst hn
    obtain ⟨T17, h17, k17, X17, e17, E17, A17, st17⟩ := newP X0 hx hZ (hw _ (List.mem_of_getElem? (i := 0) rfl)) e0 (g := (mkF m 7 #[.val (.int x0), .val (.int x1), .val (.int x2), .val (.int x3), .val (.int x4), .val (.int (2 : Int32)), .unset, .unset, .unset] [(.int (2 : Int32))])) rfl (hb hby at_7) rfl (by decide) (cap := 2) (by decide) (by decide) (by decide) (by decide)
    obtain ⟨ba, g17⟩ : ∃ z, z = h0.size := ⟨_, rfl⟩
    rw [← g17] at A17 st17
    have ge_ba : n0 ≤ ba := Nat.le_trans Z0 (Nat.le_of_eq g17.symm)
    have Z0 := Nat.le_trans Z0 E17.1
    have V_ba : Sar Z h17 ba .double [(.double (0 : UInt64)), (.double (0 : UInt64))] := Sar.new (n := 2) A17 (by decide)
    refine Goes.by (T' := T17) (g' := (mkF m 9 #[.val (.int x0), .val (.int x1), .val (.int x2), .val (.int x3), .val (.int x4), .val (.int (2 : Int32)), .unset, .unset, .unset] [(.ref ba)])) st17 ?_
    refine Goes.by (T' := T17) (g' := (mkF m 11 #[.val (.int x0), .val (.int x1), .val (.int x2), .val (.int x3), .val (.int x4), .val (.int (2 : Int32)), .val (.ref ba), .unset, .unset] [])) (fun _ k => XS.astore X17.here hx rfl (hb hby at_9) rfl rfl (l' := #[.val (.int x0), .val (.int x1), .val (.int x2), .val (.int x3), .val (.int x4), .val (.int (2 : Int32)), .val (.ref ba), .unset, .unset]) rfl k) ?_
    refine Goes.by (T' := T17) (g' := (mkF m 13 #[.val (.int x0), .val (.int x1), .val (.int x2), .val (.int x3), .val (.int x4), .val (.int (2 : Int32)), .val (.ref ba), .unset, .unset] [(.int (2 : Int32))])) (fun _ k => XS.iload X17.here hx rfl (hb hby at_11) rfl k) ?_
    refine Goes.by (T' := T17) (g' := (mkF m 16 #[.val (.int x0), .val (.int x1), .val (.int x2), .val (.int x3), .val (.int x4), .val (.int (2 : Int32)), .val (.ref ba), .unset, .unset] [])) (fun _ k => XS.ifNo X17.here hx rfl (hb hby at_13) rfl (by decide) k) ?_
    refine Goes.by (T' := T17) (g' := (mkF m 18 #[.val (.int x0), .val (.int x1), .val (.int x2), .val (.int x3), .val (.int x4), .val (.int (2 : Int32)), .val (.ref ba), .unset, .unset] [(.ref ba)])) (fun _ k => XS.aload X17.here hx rfl (hb hby at_16) rfl rfl k) ?_
    refine Goes.by (T' := T17) (g' := (mkF m 19 #[.val (.int x0), .val (.int x1), .val (.int x2), .val (.int x3), .val (.int x4), .val (.int (2 : Int32)), .val (.ref ba), .unset, .unset] [(.int (0 : Int32)), (.ref ba)])) (fun _ k => XS.iconst X17.here hx rfl (hb hby at_18)  k) ?_
    refine Goes.by (T' := T17) (g' := (mkF m 20 #[.val (.int x0), .val (.int x1), .val (.int x2), .val (.int x3), .val (.int x4), .val (.int (2 : Int32)), .val (.ref ba), .unset, .unset] [(.int x1), (.int (0 : Int32)), (.ref ba)])) (fun _ k => XS.iloadN X17.here hx rfl (hb hby at_19) rfl k) ?_
    obtain ⟨u0, q_u0⟩ : ∃ zz, FP.i2d x1 = zz := ⟨_, rfl⟩
    refine Goes.by (T' := T17) (g' := (mkF m 21 #[.val (.int x0), .val (.int x1), .val (.int x2), .val (.int x3), .val (.int x4), .val (.int (2 : Int32)), .val (.ref ba), .unset, .unset] [(.double u0), (.int (0 : Int32)), (.ref ba)])) (fun _ k => XS.i2dS X17.here hx rfl (hb hby at_20) rfl q_u0 k) ?_
    obtain ⟨T18, h18, X18, e18, W18, V18, st18⟩ := stDS X17 hx hZ e17 V_ba (j := (0 : Int32)) 0 (by decide) (by show 0 < 2; decide) (g := (mkF m 21 #[.val (.int x0), .val (.int x1), .val (.int x2), .val (.int x3), .val (.int x4), .val (.int (2 : Int32)), .val (.ref ba), .unset, .unset] [(.double u0), (.int (0 : Int32)), (.ref ba)])) rfl rfl (hb hby at_21)
    have N0 := Fr.snoc X18 N0 ge_ba
    have Z0 := Nat.le_trans Z0 (Nat.le_of_eq W18.size.symm)
    have V_ba : Sar Z h18 ba .double [(.double u0), (.double (0 : UInt64))] := V18
    refine Goes.by (T' := T18) (g' := (mkF m 22 #[.val (.int x0), .val (.int x1), .val (.int x2), .val (.int x3), .val (.int x4), .val (.int (2 : Int32)), .val (.ref ba), .unset, .unset] [])) st18 ?_
    refine Goes.by (T' := T18) (g' := (mkF m 24 #[.val (.int x0), .val (.int x1), .val (.int x2), .val (.int x3), .val (.int x4), .val (.int (2 : Int32)), .val (.ref ba), .unset, .unset] [(.int (2 : Int32))])) (fun _ k => XS.iload X18.here hx rfl (hb hby at_22) rfl k) ?_
    refine Goes.by (T' := T18) (g' := (mkF m 25 #[.val (.int x0), .val (.int x1), .val (.int x2), .val (.int x3), .val (.int x4), .val (.int (2 : Int32)), .val (.ref ba), .unset, .unset] [(.int (1 : Int32)), (.int (2 : Int32))])) (fun _ k => XS.iconst X18.here hx rfl (hb hby at_24)  k) ?_
    refine Goes.by (T' := T18) (g' := (mkF m 28 #[.val (.int x0), .val (.int x1), .val (.int x2), .val (.int x3), .val (.int x4), .val (.int (2 : Int32)), .val (.ref ba), .unset, .unset] [])) (fun _ k => XS.icmpNo X18.here hx rfl (hb hby at_25) rfl (by decide) k) ?_
    refine Goes.by (T' := T18) (g' := (mkF m 30 #[.val (.int x0), .val (.int x1), .val (.int x2), .val (.int x3), .val (.int x4), .val (.int (2 : Int32)), .val (.ref ba), .unset, .unset] [(.ref ba)])) (fun _ k => XS.aload X18.here hx rfl (hb hby at_28) rfl rfl k) ?_
    refine Goes.by (T' := T18) (g' := (mkF m 31 #[.val (.int x0), .val (.int x1), .val (.int x2), .val (.int x3), .val (.int x4), .val (.int (2 : Int32)), .val (.ref ba), .unset, .unset] [(.int (1 : Int32)), (.ref ba)])) (fun _ k => XS.iconst X18.here hx rfl (hb hby at_30)  k) ?_
    refine Goes.by (T' := T18) (g' := (mkF m 32 #[.val (.int x0), .val (.int x1), .val (.int x2), .val (.int x3), .val (.int x4), .val (.int (2 : Int32)), .val (.ref ba), .unset, .unset] [(.int x2), (.int (1 : Int32)), (.ref ba)])) (fun _ k => XS.iloadN X18.here hx rfl (hb hby at_31) rfl k) ?_
    obtain ⟨u1, q_u1⟩ : ∃ zz, FP.i2d x2 = zz := ⟨_, rfl⟩
    refine Goes.by (T' := T18) (g' := (mkF m 33 #[.val (.int x0), .val (.int x1), .val (.int x2), .val (.int x3), .val (.int x4), .val (.int (2 : Int32)), .val (.ref ba), .unset, .unset] [(.double u1), (.int (1 : Int32)), (.ref ba)])) (fun _ k => XS.i2dS X18.here hx rfl (hb hby at_32) rfl q_u1 k) ?_
    obtain ⟨T19, h19, X19, e19, W19, V19, st19⟩ := stDS X18 hx hZ e18 V_ba (j := (1 : Int32)) 1 (by decide) (by show 1 < 2; decide) (g := (mkF m 33 #[.val (.int x0), .val (.int x1), .val (.int x2), .val (.int x3), .val (.int x4), .val (.int (2 : Int32)), .val (.ref ba), .unset, .unset] [(.double u1), (.int (1 : Int32)), (.ref ba)])) rfl rfl (hb hby at_33)
    have N0 := Fr.snoc X19 N0 ge_ba
    have Z0 := Nat.le_trans Z0 (Nat.le_of_eq W19.size.symm)
    have V_ba : Sar Z h19 ba .double [(.double u0), (.double u1)] := V19
    refine Goes.by (T' := T19) (g' := (mkF m 34 #[.val (.int x0), .val (.int x1), .val (.int x2), .val (.int x3), .val (.int x4), .val (.int (2 : Int32)), .val (.ref ba), .unset, .unset] [])) st19 ?_
    refine Goes.by (T' := T19) (g' := (mkF m 36 #[.val (.int x0), .val (.int x1), .val (.int x2), .val (.int x3), .val (.int x4), .val (.int (2 : Int32)), .val (.ref ba), .unset, .unset] [(.int (2 : Int32))])) (fun _ k => XS.iload X19.here hx rfl (hb hby at_34) rfl k) ?_
    refine Goes.by (T' := T19) (g' := (mkF m 37 #[.val (.int x0), .val (.int x1), .val (.int x2), .val (.int x3), .val (.int x4), .val (.int (2 : Int32)), .val (.ref ba), .unset, .unset] [(.int (2 : Int32)), (.int (2 : Int32))])) (fun _ k => XS.iconst X19.here hx rfl (hb hby at_36)  k) ?_
    refine Goes.by (T' := T19) (g' := (mkF m 46 #[.val (.int x0), .val (.int x1), .val (.int x2), .val (.int x3), .val (.int x4), .val (.int (2 : Int32)), .val (.ref ba), .unset, .unset] [])) (fun _ k => XS.icmpYes X19.here hx rfl (pc0 := 37) (pc' := 46) rfl (hb hby at_37) rfl (by decide) (by decide) (by decide) k) ?_
    refine Goes.by (T' := T19) (g' := (mkF m 48 #[.val (.int x0), .val (.int x1), .val (.int x2), .val (.int x3), .val (.int x4), .val (.int (2 : Int32)), .val (.ref ba), .unset, .unset] [(.ref ba)])) (fun _ k => XS.aload X19.here hx rfl (hb hby at_46) rfl rfl k) ?_
    refine Goes.by (T' := T19) (g' := (mkF m 50 #[.val (.int x0), .val (.int x1), .val (.int x2), .val (.int x3), .val (.int x4), .val (.int (2 : Int32)), .val (.ref ba), .unset, .unset] [(.int x4), (.ref ba)])) (fun _ k => XS.iload X19.here hx rfl (hb hby at_48) rfl k) ?_
    obtain ⟨f, q_f⟩ : ∃ zz, FP.i2d x4 = zz := ⟨_, rfl⟩
    refine Goes.by (T' := T19) (g' := (mkF m 51 #[.val (.int x0), .val (.int x1), .val (.int x2), .val (.int x3), .val (.int x4), .val (.int (2 : Int32)), .val (.ref ba), .unset, .unset] [(.double f), (.ref ba)])) (fun _ k => XS.i2dS X19.here hx rfl (hb hby at_50) rfl q_f k) ?_
    obtain ⟨v20, T20, L20, X20, hQ20, st20⟩ := callC X19 hx hZ (y := (⟨"com/example/adhoq/adhoq/Vectors", "times", "([DD)[D"⟩ : MethodName)) hown (hw _ (List.mem_of_getElem? (i := 1) rfl)) (hw _ (List.mem_of_getElem? (i := 2) rfl)) (hw _ (List.mem_of_getElem? (i := 4) rfl)) (hw _ (List.mem_of_getElem? (i := 3) rfl)) (by decide) e19 (argsL := [(.ref ba), (.double f)]) (rest := []) (W := 0) (rm_times2 l Z a0 hw ba f x4.toInt u0 x1.toInt u1 x2.toInt h19 n0 Z0 V_ba (DInt_i2d q_f) (DInt_i2d q_u0) (DInt_i2d q_u1)) rfl (by decide) (by decide) (by decide) (by decide) (g := (mkF m 51 #[.val (.int x0), .val (.int x1), .val (.int x2), .val (.int x3), .val (.int x4), .val (.int (2 : Int32)), .val (.ref ba), .unset, .unset] [(.double f), (.ref ba)])) rfl (by rw [hml]; rfl) (lenOf pd0 rfl) rfl (by show 2 * 0 + _ ≤ _; exact Nat.le_of_eq rfl) (hb hby at_51)
    obtain ⟨r, rfl, szr, V_r, K20, NL20⟩ := hQ20
    have N0 := Fr.app N0 NL20
    have ne_ba_r : ba ≠ r := fun q => Nat.lt_irrefl _ (Nat.lt_of_lt_of_le V_ba.lt (Nat.le_trans szr (Nat.le_of_eq q.symm)))
    have ge_r : n0 ≤ r := Nat.le_trans Z0 szr
    have e20 : T20.heap = T20.heap := rfl
    have V_ba := V_ba.keep K20 nin0
    have Z0 := Nat.le_trans Z0 K20.1
    refine Goes.by (T' := T20) (g' := (mkF m 54 #[.val (.int x0), .val (.int x1), .val (.int x2), .val (.int x3), .val (.int x4), .val (.int (2 : Int32)), .val (.ref ba), .unset, .unset] [(.ref r)])) st20 ?_
    refine Goes.by (T' := T20) (g' := (mkF m 56 #[.val (.int x0), .val (.int x1), .val (.int x2), .val (.int x3), .val (.int x4), .val (.int (2 : Int32)), .val (.ref ba), .val (.ref r), .unset] [])) (fun _ k => XS.astore X20.here hx rfl (hb hby at_54) rfl rfl (l' := #[.val (.int x0), .val (.int x1), .val (.int x2), .val (.int x3), .val (.int x4), .val (.int (2 : Int32)), .val (.ref ba), .val (.ref r), .unset]) rfl k) ?_
    refine Goes.by (T' := T20) (g' := (mkF m 58 #[.val (.int x0), .val (.int x1), .val (.int x2), .val (.int x3), .val (.int x4), .val (.int (2 : Int32)), .val (.ref ba), .val (.ref r), .unset] [(.ref r)])) (fun _ k => XS.aload X20.here hx rfl (hb hby at_56) rfl rfl k) ?_
    refine Goes.by (T' := T20) (g' := (mkF m 61 #[.val (.int x0), .val (.int x1), .val (.int x2), .val (.int x3), .val (.int x4), .val (.int (2 : Int32)), .val (.ref ba), .val (.ref r), .unset] [])) (fun _ k => XS.ifnullNo X20.here hx rfl (hb hby at_58) rfl k) ?_
    refine Goes.by (T' := T20) (g' := (mkF m 63 #[.val (.int x0), .val (.int x1), .val (.int x2), .val (.int x3), .val (.int x4), .val (.int (2 : Int32)), .val (.ref ba), .val (.ref r), .unset] [(.ref r)])) (fun _ k => XS.aload X20.here hx rfl (hb hby at_61) rfl rfl k) ?_
    refine Goes.by (T' := T20) (g' := (mkF m 65 #[.val (.int x0), .val (.int x1), .val (.int x2), .val (.int x3), .val (.int x4), .val (.int (2 : Int32)), .val (.ref ba), .val (.ref r), .unset] [(.ref ba), (.ref r)])) (fun _ k => XS.aload X20.here hx rfl (hb hby at_63) rfl rfl k) ?_
    refine Goes.by (T' := T20) (g' := (mkF m 68 #[.val (.int x0), .val (.int x1), .val (.int x2), .val (.int x3), .val (.int x4), .val (.int (2 : Int32)), .val (.ref ba), .val (.ref r), .unset] [])) (fun _ k => Jvm.RoadKit.acmp (g := (mkF m 65 #[.val (.int x0), .val (.int x1), .val (.int x2), .val (.int x3), .val (.int x4), .val (.int (2 : Int32)), .val (.ref ba), .val (.ref r), .unset] [(.ref ba), (.ref r)])) X20 hx rfl rfl rfl (pc0 := 65) (pc' := 68) (same := false) rfl (hb hby at_65) rfl (decide_eq_false fun q => (Ne.symm ne_ba_r) (Value.ref.inj q)) (by decide) (by decide) k) ?_
    refine Goes.by (T' := T20) (g' := (mkF m 70 #[.val (.int x0), .val (.int x1), .val (.int x2), .val (.int x3), .val (.int x4), .val (.int (2 : Int32)), .val (.ref ba), .val (.ref r), .unset] [(.ref r)])) (fun _ k => XS.aload X20.here hx rfl (hb hby at_68) rfl rfl k) ?_
    refine Goes.by (T' := T20) (g' := (mkF m 71 #[.val (.int x0), .val (.int x1), .val (.int x2), .val (.int x3), .val (.int x4), .val (.int (2 : Int32)), .val (.ref ba), .val (.ref r), .unset] [(.int (2 : Int32))])) (lenS X20 hx hZ e20 V_r (n := (2 : Int32)) rfl (g := (mkF m 70 #[.val (.int x0), .val (.int x1), .val (.int x2), .val (.int x3), .val (.int x4), .val (.int (2 : Int32)), .val (.ref ba), .val (.ref r), .unset] [(.ref r)])) rfl rfl (hb hby at_70)) ?_
    refine Goes.by (T' := T20) (g' := (mkF m 73 #[.val (.int x0), .val (.int x1), .val (.int x2), .val (.int x3), .val (.int x4), .val (.int (2 : Int32)), .val (.ref ba), .val (.ref r), .unset] [(.int (2 : Int32)), (.int (2 : Int32))])) (fun _ k => XS.iload X20.here hx rfl (hb hby at_71) rfl k) ?_
    refine Goes.by (T' := T20) (g' := (mkF m 78 #[.val (.int x0), .val (.int x1), .val (.int x2), .val (.int x3), .val (.int x4), .val (.int (2 : Int32)), .val (.ref ba), .val (.ref r), .unset] [])) (fun _ k => XS.icmpYes X20.here hx rfl (pc0 := 73) (pc' := 78) rfl (hb hby at_73) rfl (by decide) (by decide) (by decide) k) ?_
    refine Goes.by (T' := T20) (g' := (mkF m 79 #[.val (.int x0), .val (.int x1), .val (.int x2), .val (.int x3), .val (.int x4), .val (.int (2 : Int32)), .val (.ref ba), .val (.ref r), .unset] [(.int (1 : Int32))])) (fun _ k => XS.iconst X20.here hx rfl (hb hby at_78)  k) ?_
    refine Goes.by (T' := T20) (g' := (mkF m 81 #[.val (.int x0), .val (.int x1), .val (.int x2), .val (.int x3), .val (.int x4), .val (.int (2 : Int32)), .val (.ref ba), .val (.ref r), .val (.int (1 : Int32))] [])) (fun _ k => XS.istore X20.here hx rfl (hb hby at_79) rfl (l' := #[.val (.int x0), .val (.int x1), .val (.int x2), .val (.int x3), .val (.int x4), .val (.int (2 : Int32)), .val (.ref ba), .val (.ref r), .val (.int (1 : Int32))]) rfl k) ?_
    refine Goes.by (T' := T20) (g' := (mkF m 83 #[.val (.int x0), .val (.int x1), .val (.int x2), .val (.int x3), .val (.int x4), .val (.int (2 : Int32)), .val (.ref ba), .val (.ref r), .val (.int (1 : Int32))] [(.int (2 : Int32))])) (fun _ k => XS.iload X20.here hx rfl (hb hby at_81) rfl k) ?_
    refine Goes.by (T' := T20) (g' := (mkF m 86 #[.val (.int x0), .val (.int x1), .val (.int x2), .val (.int x3), .val (.int x4), .val (.int (2 : Int32)), .val (.ref ba), .val (.ref r), .val (.int (1 : Int32))] [])) (fun _ k => XS.ifNo X20.here hx rfl (hb hby at_83) rfl (by decide) k) ?_
    refine Goes.by (T' := T20) (g' := (mkF m 88 #[.val (.int x0), .val (.int x1), .val (.int x2), .val (.int x3), .val (.int x4), .val (.int (2 : Int32)), .val (.ref ba), .val (.ref r), .val (.int (1 : Int32))] [(.int (1 : Int32))])) (fun _ k => XS.iload X20.here hx rfl (hb hby at_86) rfl k) ?_
    refine Goes.by (T' := T20) (g' := (mkF m 91 #[.val (.int x0), .val (.int x1), .val (.int x2), .val (.int x3), .val (.int x4), .val (.int (2 : Int32)), .val (.ref ba), .val (.ref r), .val (.int (1 : Int32))] [])) (fun _ k => XS.ifNo X20.here hx rfl (hb hby at_88) rfl (by decide) k) ?_
    refine Goes.by (T' := T20) (g' := (mkF m 93 #[.val (.int x0), .val (.int x1), .val (.int x2), .val (.int x3), .val (.int x4), .val (.int (2 : Int32)), .val (.ref ba), .val (.ref r), .val (.int (1 : Int32))] [(.ref r)])) (fun _ k => XS.aload X20.here hx rfl (hb hby at_91) rfl rfl k) ?_
    refine Goes.by (T' := T20) (g' := (mkF m 94 #[.val (.int x0), .val (.int x1), .val (.int x2), .val (.int x3), .val (.int x4), .val (.int (2 : Int32)), .val (.ref ba), .val (.ref r), .val (.int (1 : Int32))] [(.int (0 : Int32)), (.ref r)])) (fun _ k => XS.iconst X20.here hx rfl (hb hby at_93)  k) ?_
    refine Goes.by (T' := T20) (g' := (mkF m 95 #[.val (.int x0), .val (.int x1), .val (.int x2), .val (.int x3), .val (.int x4), .val (.int (2 : Int32)), .val (.ref ba), .val (.ref r), .val (.int (1 : Int32))] [(.double (FP.dmul u0 f))])) (ldDS X20 hx hZ e20 V_r (v := (.double (FP.dmul u0 f))) (j := (0 : Int32)) 0 (by decide) rfl (g := (mkF m 94 #[.val (.int x0), .val (.int x1), .val (.int x2), .val (.int x3), .val (.int x4), .val (.int (2 : Int32)), .val (.ref ba), .val (.ref r), .val (.int (1 : Int32))] [(.int (0 : Int32)), (.ref r)])) rfl rfl (hb hby at_94)) ?_
    refine Goes.by (T' := T20) (g' := (mkF m 96 #[.val (.int x0), .val (.int x1), .val (.int x2), .val (.int x3), .val (.int x4), .val (.int (2 : Int32)), .val (.ref ba), .val (.ref r), .val (.int (1 : Int32))] [(.int x1), (.double (FP.dmul u0 f))])) (fun _ k => XS.iloadN X20.here hx rfl (hb hby at_95) rfl k) ?_
    refine Goes.by (T' := T20) (g' := (mkF m 98 #[.val (.int x0), .val (.int x1), .val (.int x2), .val (.int x3), .val (.int x4), .val (.int (2 : Int32)), .val (.ref ba), .val (.ref r), .val (.int (1 : Int32))] [(.int x4), (.int x1), (.double (FP.dmul u0 f))])) (fun _ k => XS.iload X20.here hx rfl (hb hby at_96) rfl k) ?_
    obtain ⟨v21, T21, L21, X21, hQ21, st21⟩ := callC X20 hx hZ (y := (⟨"com/example/adhoq/adhoq/VectorsTimesPinLaw", "ref", "(II)D"⟩ : MethodName)) hown (hw _ (List.mem_of_getElem? (i := 5) rfl)) (hw _ (List.mem_of_getElem? (i := 6) rfl)) (hw _ (List.mem_of_getElem? (i := 8) rfl)) (hw _ (List.mem_of_getElem? (i := 7) rfl)) (by decide) e20 (argsL := [(.int x1), (.int x4)]) (rest := [(.double (FP.dmul u0 f))]) (W := 2) (rm_ref l Z a0 hw x1 x4 T20.heap n0 Z0) rfl (by decide) (by decide) (by decide) (by decide) (g := (mkF m 98 #[.val (.int x0), .val (.int x1), .val (.int x2), .val (.int x3), .val (.int x4), .val (.int (2 : Int32)), .val (.ref ba), .val (.ref r), .val (.int (1 : Int32))] [(.int x4), (.int x1), (.double (FP.dmul u0 f))])) rfl (by rw [hml]; rfl) (lenOf pd1 rfl) rfl (by show 2 * 0 + _ ≤ _; exact Nat.le_of_eq rfl) (hb hby at_98)
    obtain ⟨rfl, NL21, hk21⟩ := hQ21
    have N0 := Fr.app N0 NL21
    refine Goes.by (T' := T21) (g' := (mkF m 101 #[.val (.int x0), .val (.int x1), .val (.int x2), .val (.int x3), .val (.int x4), .val (.int (2 : Int32)), .val (.ref ba), .val (.ref r), .val (.int (1 : Int32))] [(.double (FP.l2d ((x1).toInt64 * (x4).toInt64))), (.double (FP.dmul u0 f))])) st21 ?_
    refine Goes.by (T' := T21) (g' := (mkF m 102 #[.val (.int x0), .val (.int x1), .val (.int x2), .val (.int x3), .val (.int x4), .val (.int (2 : Int32)), .val (.ref ba), .val (.ref r), .val (.int (1 : Int32))] [(.int (0 : Int32))])) (fun _ k => XS.dcmpS X21.here hx rfl (hb hby at_101) rfl (own_mulcmp (DInt_i2d q_u0) (DInt_i2d q_f) (own_imul64 x1 x4) _) k) ?_
    refine Goes.by (T' := T21) (g' := (mkF m 105 #[.val (.int x0), .val (.int x1), .val (.int x2), .val (.int x3), .val (.int x4), .val (.int (2 : Int32)), .val (.ref ba), .val (.ref r), .val (.int (1 : Int32))] [])) (fun _ k => XS.ifNo X21.here hx rfl (hb hby at_102) rfl (by decide) k) ?_
    refine Goes.by (T' := T21) (g' := (mkF m 107 #[.val (.int x0), .val (.int x1), .val (.int x2), .val (.int x3), .val (.int x4), .val (.int (2 : Int32)), .val (.ref ba), .val (.ref r), .val (.int (1 : Int32))] [(.ref ba)])) (fun _ k => XS.aload X21.here hx rfl (hb hby at_105) rfl rfl k) ?_
    refine Goes.by (T' := T21) (g' := (mkF m 108 #[.val (.int x0), .val (.int x1), .val (.int x2), .val (.int x3), .val (.int x4), .val (.int (2 : Int32)), .val (.ref ba), .val (.ref r), .val (.int (1 : Int32))] [(.int (0 : Int32)), (.ref ba)])) (fun _ k => XS.iconst X21.here hx rfl (hb hby at_107)  k) ?_
    refine Goes.by (T' := T21) (g' := (mkF m 109 #[.val (.int x0), .val (.int x1), .val (.int x2), .val (.int x3), .val (.int x4), .val (.int (2 : Int32)), .val (.ref ba), .val (.ref r), .val (.int (1 : Int32))] [(.double u0)])) (ldDS X21 hx hZ hk21 V_ba (v := (.double u0)) (j := (0 : Int32)) 0 (by decide) rfl (g := (mkF m 108 #[.val (.int x0), .val (.int x1), .val (.int x2), .val (.int x3), .val (.int x4), .val (.int (2 : Int32)), .val (.ref ba), .val (.ref r), .val (.int (1 : Int32))] [(.int (0 : Int32)), (.ref ba)])) rfl rfl (hb hby at_108)) ?_
    refine Goes.by (T' := T21) (g' := (mkF m 110 #[.val (.int x0), .val (.int x1), .val (.int x2), .val (.int x3), .val (.int x4), .val (.int (2 : Int32)), .val (.ref ba), .val (.ref r), .val (.int (1 : Int32))] [(.int x1), (.double u0)])) (fun _ k => XS.iloadN X21.here hx rfl (hb hby at_109) rfl k) ?_
    obtain ⟨w0, q_w0⟩ : ∃ zz, FP.i2d x1 = zz := ⟨_, rfl⟩
    refine Goes.by (T' := T21) (g' := (mkF m 111 #[.val (.int x0), .val (.int x1), .val (.int x2), .val (.int x3), .val (.int x4), .val (.int (2 : Int32)), .val (.ref ba), .val (.ref r), .val (.int (1 : Int32))] [(.double w0), (.double u0)])) (fun _ k => XS.i2dS X21.here hx rfl (hb hby at_110) rfl q_w0 k) ?_
    refine Goes.by (T' := T21) (g' := (mkF m 112 #[.val (.int x0), .val (.int x1), .val (.int x2), .val (.int x3), .val (.int x4), .val (.int (2 : Int32)), .val (.ref ba), .val (.ref r), .val (.int (1 : Int32))] [(.int (0 : Int32))])) (fun _ k => XS.dcmpS X21.here hx rfl (hb hby at_111) rfl (cmpD_eq (DInt_i2d q_u0) (DInt_i2d q_w0) rfl _) k) ?_
    refine Goes.by (T' := T21) (g' := (mkF m 115 #[.val (.int x0), .val (.int x1), .val (.int x2), .val (.int x3), .val (.int x4), .val (.int (2 : Int32)), .val (.ref ba), .val (.ref r), .val (.int (1 : Int32))] [])) (fun _ k => XS.ifNo X21.here hx rfl (hb hby at_112) rfl (by decide) k) ?_
    refine Goes.by (T' := T21) (g' := (mkF m 116 #[.val (.int x0), .val (.int x1), .val (.int x2), .val (.int x3), .val (.int x4), .val (.int (2 : Int32)), .val (.ref ba), .val (.ref r), .val (.int (1 : Int32))] [(.int (1 : Int32))])) (fun _ k => XS.iconst X21.here hx rfl (hb hby at_115)  k) ?_
    refine Goes.by (T' := T21) (g' := (mkF m 120 #[.val (.int x0), .val (.int x1), .val (.int x2), .val (.int x3), .val (.int x4), .val (.int (2 : Int32)), .val (.ref ba), .val (.ref r), .val (.int (1 : Int32))] [(.int (1 : Int32))])) (fun _ k => XS.goto X21.here hx rfl (pc0 := 116) (pc' := 120) rfl (hb hby at_116) (by decide) (by decide) k) ?_
    refine Goes.by (T' := T21) (g' := (mkF m 122 #[.val (.int x0), .val (.int x1), .val (.int x2), .val (.int x3), .val (.int x4), .val (.int (2 : Int32)), .val (.ref ba), .val (.ref r), .val (.int (1 : Int32))] [])) (fun _ k => XS.istore X21.here hx rfl (hb hby at_120) rfl (l' := #[.val (.int x0), .val (.int x1), .val (.int x2), .val (.int x3), .val (.int x4), .val (.int (2 : Int32)), .val (.ref ba), .val (.ref r), .val (.int (1 : Int32))]) rfl k) ?_
    refine Goes.by (T' := T21) (g' := (mkF m 124 #[.val (.int x0), .val (.int x1), .val (.int x2), .val (.int x3), .val (.int x4), .val (.int (2 : Int32)), .val (.ref ba), .val (.ref r), .val (.int (1 : Int32))] [(.int (2 : Int32))])) (fun _ k => XS.iload X21.here hx rfl (hb hby at_122) rfl k) ?_
    refine Goes.by (T' := T21) (g' := (mkF m 125 #[.val (.int x0), .val (.int x1), .val (.int x2), .val (.int x3), .val (.int x4), .val (.int (2 : Int32)), .val (.ref ba), .val (.ref r), .val (.int (1 : Int32))] [(.int (1 : Int32)), (.int (2 : Int32))])) (fun _ k => XS.iconst X21.here hx rfl (hb hby at_124)  k) ?_
    refine Goes.by (T' := T21) (g' := (mkF m 128 #[.val (.int x0), .val (.int x1), .val (.int x2), .val (.int x3), .val (.int x4), .val (.int (2 : Int32)), .val (.ref ba), .val (.ref r), .val (.int (1 : Int32))] [])) (fun _ k => XS.icmpNo X21.here hx rfl (hb hby at_125) rfl (by decide) k) ?_
    refine Goes.by (T' := T21) (g' := (mkF m 130 #[.val (.int x0), .val (.int x1), .val (.int x2), .val (.int x3), .val (.int x4), .val (.int (2 : Int32)), .val (.ref ba), .val (.ref r), .val (.int (1 : Int32))] [(.int (1 : Int32))])) (fun _ k => XS.iload X21.here hx rfl (hb hby at_128) rfl k) ?_
    refine Goes.by (T' := T21) (g' := (mkF m 133 #[.val (.int x0), .val (.int x1), .val (.int x2), .val (.int x3), .val (.int x4), .val (.int (2 : Int32)), .val (.ref ba), .val (.ref r), .val (.int (1 : Int32))] [])) (fun _ k => XS.ifNo X21.here hx rfl (hb hby at_130) rfl (by decide) k) ?_
    refine Goes.by (T' := T21) (g' := (mkF m 135 #[.val (.int x0), .val (.int x1), .val (.int x2), .val (.int x3), .val (.int x4), .val (.int (2 : Int32)), .val (.ref ba), .val (.ref r), .val (.int (1 : Int32))] [(.ref r)])) (fun _ k => XS.aload X21.here hx rfl (hb hby at_133) rfl rfl k) ?_
    refine Goes.by (T' := T21) (g' := (mkF m 136 #[.val (.int x0), .val (.int x1), .val (.int x2), .val (.int x3), .val (.int x4), .val (.int (2 : Int32)), .val (.ref ba), .val (.ref r), .val (.int (1 : Int32))] [(.int (1 : Int32)), (.ref r)])) (fun _ k => XS.iconst X21.here hx rfl (hb hby at_135)  k) ?_
    refine Goes.by (T' := T21) (g' := (mkF m 137 #[.val (.int x0), .val (.int x1), .val (.int x2), .val (.int x3), .val (.int x4), .val (.int (2 : Int32)), .val (.ref ba), .val (.ref r), .val (.int (1 : Int32))] [(.double (FP.dmul u1 f))])) (ldDS X21 hx hZ hk21 V_r (v := (.double (FP.dmul u1 f))) (j := (1 : Int32)) 1 (by decide) rfl (g := (mkF m 136 #[.val (.int x0), .val (.int x1), .val (.int x2), .val (.int x3), .val (.int x4), .val (.int (2 : Int32)), .val (.ref ba), .val (.ref r), .val (.int (1 : Int32))] [(.int (1 : Int32)), (.ref r)])) rfl rfl (hb hby at_136)) ?_
    refine Goes.by (T' := T21) (g' := (mkF m 138 #[.val (.int x0), .val (.int x1), .val (.int x2), .val (.int x3), .val (.int x4), .val (.int (2 : Int32)), .val (.ref ba), .val (.ref r), .val (.int (1 : Int32))] [(.int x2), (.double (FP.dmul u1 f))])) (fun _ k => XS.iloadN X21.here hx rfl (hb hby at_137) rfl k) ?_
    refine Goes.by (T' := T21) (g' := (mkF m 140 #[.val (.int x0), .val (.int x1), .val (.int x2), .val (.int x3), .val (.int x4), .val (.int (2 : Int32)), .val (.ref ba), .val (.ref r), .val (.int (1 : Int32))] [(.int x4), (.int x2), (.double (FP.dmul u1 f))])) (fun _ k => XS.iload X21.here hx rfl (hb hby at_138) rfl k) ?_
    obtain ⟨v22, T22, L22, X22, hQ22, st22⟩ := callC X21 hx hZ (y := (⟨"com/example/adhoq/adhoq/VectorsTimesPinLaw", "ref", "(II)D"⟩ : MethodName)) hown (hw _ (List.mem_of_getElem? (i := 5) rfl)) (hw _ (List.mem_of_getElem? (i := 6) rfl)) (hw _ (List.mem_of_getElem? (i := 8) rfl)) (hw _ (List.mem_of_getElem? (i := 7) rfl)) (by decide) hk21 (argsL := [(.int x2), (.int x4)]) (rest := [(.double (FP.dmul u1 f))]) (W := 2) (rm_ref l Z a0 hw x2 x4 T20.heap n0 Z0) rfl (by decide) (by decide) (by decide) (by decide) (g := (mkF m 140 #[.val (.int x0), .val (.int x1), .val (.int x2), .val (.int x3), .val (.int x4), .val (.int (2 : Int32)), .val (.ref ba), .val (.ref r), .val (.int (1 : Int32))] [(.int x4), (.int x2), (.double (FP.dmul u1 f))])) rfl (by rw [hml]; rfl) (lenOf pd1 rfl) rfl (by show 2 * 0 + _ ≤ _; exact Nat.le_of_eq rfl) (hb hby at_140)
    obtain ⟨rfl, NL22, hk22⟩ := hQ22
    have N0 := Fr.app N0 NL22
    refine Goes.by (T' := T22) (g' := (mkF m 143 #[.val (.int x0), .val (.int x1), .val (.int x2), .val (.int x3), .val (.int x4), .val (.int (2 : Int32)), .val (.ref ba), .val (.ref r), .val (.int (1 : Int32))] [(.double (FP.l2d ((x2).toInt64 * (x4).toInt64))), (.double (FP.dmul u1 f))])) st22 ?_
    refine Goes.by (T' := T22) (g' := (mkF m 144 #[.val (.int x0), .val (.int x1), .val (.int x2), .val (.int x3), .val (.int x4), .val (.int (2 : Int32)), .val (.ref ba), .val (.ref r), .val (.int (1 : Int32))] [(.int (0 : Int32))])) (fun _ k => XS.dcmpS X22.here hx rfl (hb hby at_143) rfl (own_mulcmp (DInt_i2d q_u1) (DInt_i2d q_f) (own_imul64 x2 x4) _) k) ?_
    refine Goes.by (T' := T22) (g' := (mkF m 147 #[.val (.int x0), .val (.int x1), .val (.int x2), .val (.int x3), .val (.int x4), .val (.int (2 : Int32)), .val (.ref ba), .val (.ref r), .val (.int (1 : Int32))] [])) (fun _ k => XS.ifNo X22.here hx rfl (hb hby at_144) rfl (by decide) k) ?_
    refine Goes.by (T' := T22) (g' := (mkF m 149 #[.val (.int x0), .val (.int x1), .val (.int x2), .val (.int x3), .val (.int x4), .val (.int (2 : Int32)), .val (.ref ba), .val (.ref r), .val (.int (1 : Int32))] [(.ref ba)])) (fun _ k => XS.aload X22.here hx rfl (hb hby at_147) rfl rfl k) ?_
    refine Goes.by (T' := T22) (g' := (mkF m 150 #[.val (.int x0), .val (.int x1), .val (.int x2), .val (.int x3), .val (.int x4), .val (.int (2 : Int32)), .val (.ref ba), .val (.ref r), .val (.int (1 : Int32))] [(.int (1 : Int32)), (.ref ba)])) (fun _ k => XS.iconst X22.here hx rfl (hb hby at_149)  k) ?_
    refine Goes.by (T' := T22) (g' := (mkF m 151 #[.val (.int x0), .val (.int x1), .val (.int x2), .val (.int x3), .val (.int x4), .val (.int (2 : Int32)), .val (.ref ba), .val (.ref r), .val (.int (1 : Int32))] [(.double u1)])) (ldDS X22 hx hZ hk22 V_ba (v := (.double u1)) (j := (1 : Int32)) 1 (by decide) rfl (g := (mkF m 150 #[.val (.int x0), .val (.int x1), .val (.int x2), .val (.int x3), .val (.int x4), .val (.int (2 : Int32)), .val (.ref ba), .val (.ref r), .val (.int (1 : Int32))] [(.int (1 : Int32)), (.ref ba)])) rfl rfl (hb hby at_150)) ?_
    refine Goes.by (T' := T22) (g' := (mkF m 152 #[.val (.int x0), .val (.int x1), .val (.int x2), .val (.int x3), .val (.int x4), .val (.int (2 : Int32)), .val (.ref ba), .val (.ref r), .val (.int (1 : Int32))] [(.int x2), (.double u1)])) (fun _ k => XS.iloadN X22.here hx rfl (hb hby at_151) rfl k) ?_
    obtain ⟨w1, q_w1⟩ : ∃ zz, FP.i2d x2 = zz := ⟨_, rfl⟩
    refine Goes.by (T' := T22) (g' := (mkF m 153 #[.val (.int x0), .val (.int x1), .val (.int x2), .val (.int x3), .val (.int x4), .val (.int (2 : Int32)), .val (.ref ba), .val (.ref r), .val (.int (1 : Int32))] [(.double w1), (.double u1)])) (fun _ k => XS.i2dS X22.here hx rfl (hb hby at_152) rfl q_w1 k) ?_
    refine Goes.by (T' := T22) (g' := (mkF m 154 #[.val (.int x0), .val (.int x1), .val (.int x2), .val (.int x3), .val (.int x4), .val (.int (2 : Int32)), .val (.ref ba), .val (.ref r), .val (.int (1 : Int32))] [(.int (0 : Int32))])) (fun _ k => XS.dcmpS X22.here hx rfl (hb hby at_153) rfl (cmpD_eq (DInt_i2d q_u1) (DInt_i2d q_w1) rfl _) k) ?_
    refine Goes.by (T' := T22) (g' := (mkF m 157 #[.val (.int x0), .val (.int x1), .val (.int x2), .val (.int x3), .val (.int x4), .val (.int (2 : Int32)), .val (.ref ba), .val (.ref r), .val (.int (1 : Int32))] [])) (fun _ k => XS.ifNo X22.here hx rfl (hb hby at_154) rfl (by decide) k) ?_
    refine Goes.by (T' := T22) (g' := (mkF m 158 #[.val (.int x0), .val (.int x1), .val (.int x2), .val (.int x3), .val (.int x4), .val (.int (2 : Int32)), .val (.ref ba), .val (.ref r), .val (.int (1 : Int32))] [(.int (1 : Int32))])) (fun _ k => XS.iconst X22.here hx rfl (hb hby at_157)  k) ?_
    refine Goes.by (T' := T22) (g' := (mkF m 162 #[.val (.int x0), .val (.int x1), .val (.int x2), .val (.int x3), .val (.int x4), .val (.int (2 : Int32)), .val (.ref ba), .val (.ref r), .val (.int (1 : Int32))] [(.int (1 : Int32))])) (fun _ k => XS.goto X22.here hx rfl (pc0 := 158) (pc' := 162) rfl (hb hby at_158) (by decide) (by decide) k) ?_
    refine Goes.by (T' := T22) (g' := (mkF m 164 #[.val (.int x0), .val (.int x1), .val (.int x2), .val (.int x3), .val (.int x4), .val (.int (2 : Int32)), .val (.ref ba), .val (.ref r), .val (.int (1 : Int32))] [])) (fun _ k => XS.istore X22.here hx rfl (hb hby at_162) rfl (l' := #[.val (.int x0), .val (.int x1), .val (.int x2), .val (.int x3), .val (.int x4), .val (.int (2 : Int32)), .val (.ref ba), .val (.ref r), .val (.int (1 : Int32))]) rfl k) ?_
    refine Goes.by (T' := T22) (g' := (mkF m 166 #[.val (.int x0), .val (.int x1), .val (.int x2), .val (.int x3), .val (.int x4), .val (.int (2 : Int32)), .val (.ref ba), .val (.ref r), .val (.int (1 : Int32))] [(.int (2 : Int32))])) (fun _ k => XS.iload X22.here hx rfl (hb hby at_164) rfl k) ?_
    refine Goes.by (T' := T22) (g' := (mkF m 167 #[.val (.int x0), .val (.int x1), .val (.int x2), .val (.int x3), .val (.int x4), .val (.int (2 : Int32)), .val (.ref ba), .val (.ref r), .val (.int (1 : Int32))] [(.int (2 : Int32)), (.int (2 : Int32))])) (fun _ k => XS.iconst X22.here hx rfl (hb hby at_166)  k) ?_
    refine Goes.by (T' := T22) (g' := (mkF m 206 #[.val (.int x0), .val (.int x1), .val (.int x2), .val (.int x3), .val (.int x4), .val (.int (2 : Int32)), .val (.ref ba), .val (.ref r), .val (.int (1 : Int32))] [])) (fun _ k => XS.icmpYes X22.here hx rfl (pc0 := 167) (pc' := 206) rfl (hb hby at_167) rfl (by decide) (by decide) (by decide) k) ?_
    refine Goes.by (T' := T22) (g' := (mkF m 208 #[.val (.int x0), .val (.int x1), .val (.int x2), .val (.int x3), .val (.int x4), .val (.int (2 : Int32)), .val (.ref ba), .val (.ref r), .val (.int (1 : Int32))] [(.int (1 : Int32))])) (fun _ k => XS.iload X22.here hx rfl (hb hby at_206) rfl k) ?_
    exact outZ X22 hx hlk hret (hb hby at_208) (by exact ⟨rfl, N0⟩) (by decide) (by decide)
  · subst hn
    obtain ⟨T23, h23, k23, X23, e23, E23, A23, st23⟩ := newP X0 hx hZ (hw _ (List.mem_of_getElem? (i := 0) rfl)) e0 (g := (mkF m 7 #[.val (.int x0), .val (.int x1), .val (.int x2), .val (.int x3), .val (.int x4), .val (.int (3 : Int32)), .unset, .unset, .unset] [(.int (3 : Int32))])) rfl (hb hby at_7) rfl (by decide) (cap := 3) (by decide) (by decide) (by decide) (by decide)
    obtain ⟨ba, g23⟩ : ∃ z, z = h0.size := ⟨_, rfl⟩
    rw [← g23] at A23 st23
    have ge_ba : n0 ≤ ba := Nat.le_trans Z0 (Nat.le_of_eq g23.symm)
    have Z0 := Nat.le_trans Z0 E23.1
    have V_ba : Sar Z h23 ba .double [(.double (0 : UInt64)), (.double (0 : UInt64)), (.double (0 : UInt64))] := Sar.new (n := 3) A23 (by decide)
    refine Goes.by (T' := T23) (g' := (mkF m 9 #[.val (.int x0), .val (.int x1), .val (.int x2), .val (.int x3), .val (.int x4), .val (.int (3 : Int32)), .unset, .unset, .unset] [(.ref ba)])) st23 ?_
    refine Goes.by (T' := T23) (g' := (mkF m 11 #[.val (.int x0), .val (.int x1), .val (.int x2), .val (.int x3), .val (.int x4), .val (.int (3 : Int32)), .val (.ref ba), .unset, .unset] [])) (fun _ k => XS.astore X23.here hx rfl (hb hby at_9) rfl rfl (l' := #[.val (.int x0), .val (.int x1), .val (.int x2), .val (.int x3), .val (.int x4), .val (.int (3 : Int32)), .val (.ref ba), .unset, .unset]) rfl k) ?_
    refine Goes.by (T' := T23) (g' := (mkF m 13 #[.val (.int x0), .val (.int x1), .val (.int x2), .val (.int x3), .val (.int x4), .val (.int (3 : Int32)), .val (.ref ba), .unset, .unset] [(.int (3 : Int32))])) (fun _ k => XS.iload X23.here hx rfl (hb hby at_11) rfl k) ?_
    refine Goes.by (T' := T23) (g' := (mkF m 16 #[.val (.int x0), .val (.int x1), .val (.int x2), .val (.int x3), .val (.int x4), .val (.int (3 : Int32)), .val (.ref ba), .unset, .unset] [])) (fun _ k => XS.ifNo X23.here hx rfl (hb hby at_13) rfl (by decide) k) ?_
    refine Goes.by (T' := T23) (g' := (mkF m 18 #[.val (.int x0), .val (.int x1), .val (.int x2), .val (.int x3), .val (.int x4), .val (.int (3 : Int32)), .val (.ref ba), .unset, .unset] [(.ref ba)])) (fun _ k => XS.aload X23.here hx rfl (hb hby at_16) rfl rfl k) ?_
    refine Goes.by (T' := T23) (g' := (mkF m 19 #[.val (.int x0), .val (.int x1), .val (.int x2), .val (.int x3), .val (.int x4), .val (.int (3 : Int32)), .val (.ref ba), .unset, .unset] [(.int (0 : Int32)), (.ref ba)])) (fun _ k => XS.iconst X23.here hx rfl (hb hby at_18)  k) ?_
    refine Goes.by (T' := T23) (g' := (mkF m 20 #[.val (.int x0), .val (.int x1), .val (.int x2), .val (.int x3), .val (.int x4), .val (.int (3 : Int32)), .val (.ref ba), .unset, .unset] [(.int x1), (.int (0 : Int32)), (.ref ba)])) (fun _ k => XS.iloadN X23.here hx rfl (hb hby at_19) rfl k) ?_
    obtain ⟨u0, q_u0⟩ : ∃ zz, FP.i2d x1 = zz := ⟨_, rfl⟩
    refine Goes.by (T' := T23) (g' := (mkF m 21 #[.val (.int x0), .val (.int x1), .val (.int x2), .val (.int x3), .val (.int x4), .val (.int (3 : Int32)), .val (.ref ba), .unset, .unset] [(.double u0), (.int (0 : Int32)), (.ref ba)])) (fun _ k => XS.i2dS X23.here hx rfl (hb hby at_20) rfl q_u0 k) ?_
    obtain ⟨T24, h24, X24, e24, W24, V24, st24⟩ := stDS X23 hx hZ e23 V_ba (j := (0 : Int32)) 0 (by decide) (by show 0 < 3; decide) (g := (mkF m 21 #[.val (.int x0), .val (.int x1), .val (.int x2), .val (.int x3), .val (.int x4), .val (.int (3 : Int32)), .val (.ref ba), .unset, .unset] [(.double u0), (.int (0 : Int32)), (.ref ba)])) rfl rfl (hb hby at_21)
    have N0 := Fr.snoc X24 N0 ge_ba
    have Z0 := Nat.le_trans Z0 (Nat.le_of_eq W24.size.symm)
    have V_ba : Sar Z h24 ba .double [(.double u0), (.double (0 : UInt64)), (.double (0 : UInt64))] := V24
    refine Goes.by (T' := T24) (g' := (mkF m 22 #[.val (.int x0), .val (.int x1), .val (.int x2), .val (.int x3), .val (.int x4), .val (.int (3 : Int32)), .val (.ref ba), .unset, .unset] [])) st24 ?_
    refine Goes.by (T' := T24) (g' := (mkF m 24 #[.val (.int x0), .val (.int x1), .val (.int x2), .val (.int x3), .val (.int x4), .val (.int (3 : Int32)), .val (.ref ba), .unset, .unset] [(.int (3 : Int32))])) (fun _ k => XS.iload X24.here hx rfl (hb hby at_22) rfl k) ?_
    refine Goes.by (T' := T24) (g' := (mkF m 25 #[.val (.int x0), .val (.int x1), .val (.int x2), .val (.int x3), .val (.int x4), .val (.int (3 : Int32)), .val (.ref ba), .unset, .unset] [(.int (1 : Int32)), (.int (3 : Int32))])) (fun _ k => XS.iconst X24.here hx rfl (hb hby at_24)  k) ?_
    refine Goes.by (T' := T24) (g' := (mkF m 28 #[.val (.int x0), .val (.int x1), .val (.int x2), .val (.int x3), .val (.int x4), .val (.int (3 : Int32)), .val (.ref ba), .unset, .unset] [])) (fun _ k => XS.icmpNo X24.here hx rfl (hb hby at_25) rfl (by decide) k) ?_
    refine Goes.by (T' := T24) (g' := (mkF m 30 #[.val (.int x0), .val (.int x1), .val (.int x2), .val (.int x3), .val (.int x4), .val (.int (3 : Int32)), .val (.ref ba), .unset, .unset] [(.ref ba)])) (fun _ k => XS.aload X24.here hx rfl (hb hby at_28) rfl rfl k) ?_
    refine Goes.by (T' := T24) (g' := (mkF m 31 #[.val (.int x0), .val (.int x1), .val (.int x2), .val (.int x3), .val (.int x4), .val (.int (3 : Int32)), .val (.ref ba), .unset, .unset] [(.int (1 : Int32)), (.ref ba)])) (fun _ k => XS.iconst X24.here hx rfl (hb hby at_30)  k) ?_
    refine Goes.by (T' := T24) (g' := (mkF m 32 #[.val (.int x0), .val (.int x1), .val (.int x2), .val (.int x3), .val (.int x4), .val (.int (3 : Int32)), .val (.ref ba), .unset, .unset] [(.int x2), (.int (1 : Int32)), (.ref ba)])) (fun _ k => XS.iloadN X24.here hx rfl (hb hby at_31) rfl k) ?_
    obtain ⟨u1, q_u1⟩ : ∃ zz, FP.i2d x2 = zz := ⟨_, rfl⟩
    refine Goes.by (T' := T24) (g' := (mkF m 33 #[.val (.int x0), .val (.int x1), .val (.int x2), .val (.int x3), .val (.int x4), .val (.int (3 : Int32)), .val (.ref ba), .unset, .unset] [(.double u1), (.int (1 : Int32)), (.ref ba)])) (fun _ k => XS.i2dS X24.here hx rfl (hb hby at_32) rfl q_u1 k) ?_
    obtain ⟨T25, h25, X25, e25, W25, V25, st25⟩ := stDS X24 hx hZ e24 V_ba (j := (1 : Int32)) 1 (by decide) (by show 1 < 3; decide) (g := (mkF m 33 #[.val (.int x0), .val (.int x1), .val (.int x2), .val (.int x3), .val (.int x4), .val (.int (3 : Int32)), .val (.ref ba), .unset, .unset] [(.double u1), (.int (1 : Int32)), (.ref ba)])) rfl rfl (hb hby at_33)
    have N0 := Fr.snoc X25 N0 ge_ba
    have Z0 := Nat.le_trans Z0 (Nat.le_of_eq W25.size.symm)
    have V_ba : Sar Z h25 ba .double [(.double u0), (.double u1), (.double (0 : UInt64))] := V25
    refine Goes.by (T' := T25) (g' := (mkF m 34 #[.val (.int x0), .val (.int x1), .val (.int x2), .val (.int x3), .val (.int x4), .val (.int (3 : Int32)), .val (.ref ba), .unset, .unset] [])) st25 ?_
    refine Goes.by (T' := T25) (g' := (mkF m 36 #[.val (.int x0), .val (.int x1), .val (.int x2), .val (.int x3), .val (.int x4), .val (.int (3 : Int32)), .val (.ref ba), .unset, .unset] [(.int (3 : Int32))])) (fun _ k => XS.iload X25.here hx rfl (hb hby at_34) rfl k) ?_
    refine Goes.by (T' := T25) (g' := (mkF m 37 #[.val (.int x0), .val (.int x1), .val (.int x2), .val (.int x3), .val (.int x4), .val (.int (3 : Int32)), .val (.ref ba), .unset, .unset] [(.int (2 : Int32)), (.int (3 : Int32))])) (fun _ k => XS.iconst X25.here hx rfl (hb hby at_36)  k) ?_
    refine Goes.by (T' := T25) (g' := (mkF m 40 #[.val (.int x0), .val (.int x1), .val (.int x2), .val (.int x3), .val (.int x4), .val (.int (3 : Int32)), .val (.ref ba), .unset, .unset] [])) (fun _ k => XS.icmpNo X25.here hx rfl (hb hby at_37) rfl (by decide) k) ?_
    refine Goes.by (T' := T25) (g' := (mkF m 42 #[.val (.int x0), .val (.int x1), .val (.int x2), .val (.int x3), .val (.int x4), .val (.int (3 : Int32)), .val (.ref ba), .unset, .unset] [(.ref ba)])) (fun _ k => XS.aload X25.here hx rfl (hb hby at_40) rfl rfl k) ?_
    refine Goes.by (T' := T25) (g' := (mkF m 43 #[.val (.int x0), .val (.int x1), .val (.int x2), .val (.int x3), .val (.int x4), .val (.int (3 : Int32)), .val (.ref ba), .unset, .unset] [(.int (2 : Int32)), (.ref ba)])) (fun _ k => XS.iconst X25.here hx rfl (hb hby at_42)  k) ?_
    refine Goes.by (T' := T25) (g' := (mkF m 44 #[.val (.int x0), .val (.int x1), .val (.int x2), .val (.int x3), .val (.int x4), .val (.int (3 : Int32)), .val (.ref ba), .unset, .unset] [(.int x3), (.int (2 : Int32)), (.ref ba)])) (fun _ k => XS.iloadN X25.here hx rfl (hb hby at_43) rfl k) ?_
    obtain ⟨u2, q_u2⟩ : ∃ zz, FP.i2d x3 = zz := ⟨_, rfl⟩
    refine Goes.by (T' := T25) (g' := (mkF m 45 #[.val (.int x0), .val (.int x1), .val (.int x2), .val (.int x3), .val (.int x4), .val (.int (3 : Int32)), .val (.ref ba), .unset, .unset] [(.double u2), (.int (2 : Int32)), (.ref ba)])) (fun _ k => XS.i2dS X25.here hx rfl (hb hby at_44) rfl q_u2 k) ?_
    obtain ⟨T26, h26, X26, e26, W26, V26, st26⟩ := stDS X25 hx hZ e25 V_ba (j := (2 : Int32)) 2 (by decide) (by show 2 < 3; decide) (g := (mkF m 45 #[.val (.int x0), .val (.int x1), .val (.int x2), .val (.int x3), .val (.int x4), .val (.int (3 : Int32)), .val (.ref ba), .unset, .unset] [(.double u2), (.int (2 : Int32)), (.ref ba)])) rfl rfl (hb hby at_45)
    have N0 := Fr.snoc X26 N0 ge_ba
    have Z0 := Nat.le_trans Z0 (Nat.le_of_eq W26.size.symm)
    have V_ba : Sar Z h26 ba .double [(.double u0), (.double u1), (.double u2)] := V26
    refine Goes.by (T' := T26) (g' := (mkF m 46 #[.val (.int x0), .val (.int x1), .val (.int x2), .val (.int x3), .val (.int x4), .val (.int (3 : Int32)), .val (.ref ba), .unset, .unset] [])) st26 ?_
    refine Goes.by (T' := T26) (g' := (mkF m 48 #[.val (.int x0), .val (.int x1), .val (.int x2), .val (.int x3), .val (.int x4), .val (.int (3 : Int32)), .val (.ref ba), .unset, .unset] [(.ref ba)])) (fun _ k => XS.aload X26.here hx rfl (hb hby at_46) rfl rfl k) ?_
    refine Goes.by (T' := T26) (g' := (mkF m 50 #[.val (.int x0), .val (.int x1), .val (.int x2), .val (.int x3), .val (.int x4), .val (.int (3 : Int32)), .val (.ref ba), .unset, .unset] [(.int x4), (.ref ba)])) (fun _ k => XS.iload X26.here hx rfl (hb hby at_48) rfl k) ?_
    obtain ⟨f, q_f⟩ : ∃ zz, FP.i2d x4 = zz := ⟨_, rfl⟩
    refine Goes.by (T' := T26) (g' := (mkF m 51 #[.val (.int x0), .val (.int x1), .val (.int x2), .val (.int x3), .val (.int x4), .val (.int (3 : Int32)), .val (.ref ba), .unset, .unset] [(.double f), (.ref ba)])) (fun _ k => XS.i2dS X26.here hx rfl (hb hby at_50) rfl q_f k) ?_
    obtain ⟨v27, T27, L27, X27, hQ27, st27⟩ := callC X26 hx hZ (y := (⟨"com/example/adhoq/adhoq/Vectors", "times", "([DD)[D"⟩ : MethodName)) hown (hw _ (List.mem_of_getElem? (i := 1) rfl)) (hw _ (List.mem_of_getElem? (i := 2) rfl)) (hw _ (List.mem_of_getElem? (i := 4) rfl)) (hw _ (List.mem_of_getElem? (i := 3) rfl)) (by decide) e26 (argsL := [(.ref ba), (.double f)]) (rest := []) (W := 0) (rm_times3 l Z a0 hw ba f x4.toInt u0 x1.toInt u1 x2.toInt u2 x3.toInt h26 n0 Z0 V_ba (DInt_i2d q_f) (DInt_i2d q_u0) (DInt_i2d q_u1) (DInt_i2d q_u2)) rfl (by decide) (by decide) (by decide) (by decide) (g := (mkF m 51 #[.val (.int x0), .val (.int x1), .val (.int x2), .val (.int x3), .val (.int x4), .val (.int (3 : Int32)), .val (.ref ba), .unset, .unset] [(.double f), (.ref ba)])) rfl (by rw [hml]; rfl) (lenOf pd0 rfl) rfl (by show 2 * 0 + _ ≤ _; exact Nat.le_of_eq rfl) (hb hby at_51)
    obtain ⟨r, rfl, szr, V_r, K27, NL27⟩ := hQ27
    have N0 := Fr.app N0 NL27
    have ne_ba_r : ba ≠ r := fun q => Nat.lt_irrefl _ (Nat.lt_of_lt_of_le V_ba.lt (Nat.le_trans szr (Nat.le_of_eq q.symm)))
    have ge_r : n0 ≤ r := Nat.le_trans Z0 szr
    have e27 : T27.heap = T27.heap := rfl
    have V_ba := V_ba.keep K27 nin0
    have Z0 := Nat.le_trans Z0 K27.1
    refine Goes.by (T' := T27) (g' := (mkF m 54 #[.val (.int x0), .val (.int x1), .val (.int x2), .val (.int x3), .val (.int x4), .val (.int (3 : Int32)), .val (.ref ba), .unset, .unset] [(.ref r)])) st27 ?_
    refine Goes.by (T' := T27) (g' := (mkF m 56 #[.val (.int x0), .val (.int x1), .val (.int x2), .val (.int x3), .val (.int x4), .val (.int (3 : Int32)), .val (.ref ba), .val (.ref r), .unset] [])) (fun _ k => XS.astore X27.here hx rfl (hb hby at_54) rfl rfl (l' := #[.val (.int x0), .val (.int x1), .val (.int x2), .val (.int x3), .val (.int x4), .val (.int (3 : Int32)), .val (.ref ba), .val (.ref r), .unset]) rfl k) ?_
    refine Goes.by (T' := T27) (g' := (mkF m 58 #[.val (.int x0), .val (.int x1), .val (.int x2), .val (.int x3), .val (.int x4), .val (.int (3 : Int32)), .val (.ref ba), .val (.ref r), .unset] [(.ref r)])) (fun _ k => XS.aload X27.here hx rfl (hb hby at_56) rfl rfl k) ?_
    refine Goes.by (T' := T27) (g' := (mkF m 61 #[.val (.int x0), .val (.int x1), .val (.int x2), .val (.int x3), .val (.int x4), .val (.int (3 : Int32)), .val (.ref ba), .val (.ref r), .unset] [])) (fun _ k => XS.ifnullNo X27.here hx rfl (hb hby at_58) rfl k) ?_
    refine Goes.by (T' := T27) (g' := (mkF m 63 #[.val (.int x0), .val (.int x1), .val (.int x2), .val (.int x3), .val (.int x4), .val (.int (3 : Int32)), .val (.ref ba), .val (.ref r), .unset] [(.ref r)])) (fun _ k => XS.aload X27.here hx rfl (hb hby at_61) rfl rfl k) ?_
    refine Goes.by (T' := T27) (g' := (mkF m 65 #[.val (.int x0), .val (.int x1), .val (.int x2), .val (.int x3), .val (.int x4), .val (.int (3 : Int32)), .val (.ref ba), .val (.ref r), .unset] [(.ref ba), (.ref r)])) (fun _ k => XS.aload X27.here hx rfl (hb hby at_63) rfl rfl k) ?_
    refine Goes.by (T' := T27) (g' := (mkF m 68 #[.val (.int x0), .val (.int x1), .val (.int x2), .val (.int x3), .val (.int x4), .val (.int (3 : Int32)), .val (.ref ba), .val (.ref r), .unset] [])) (fun _ k => Jvm.RoadKit.acmp (g := (mkF m 65 #[.val (.int x0), .val (.int x1), .val (.int x2), .val (.int x3), .val (.int x4), .val (.int (3 : Int32)), .val (.ref ba), .val (.ref r), .unset] [(.ref ba), (.ref r)])) X27 hx rfl rfl rfl (pc0 := 65) (pc' := 68) (same := false) rfl (hb hby at_65) rfl (decide_eq_false fun q => (Ne.symm ne_ba_r) (Value.ref.inj q)) (by decide) (by decide) k) ?_
    refine Goes.by (T' := T27) (g' := (mkF m 70 #[.val (.int x0), .val (.int x1), .val (.int x2), .val (.int x3), .val (.int x4), .val (.int (3 : Int32)), .val (.ref ba), .val (.ref r), .unset] [(.ref r)])) (fun _ k => XS.aload X27.here hx rfl (hb hby at_68) rfl rfl k) ?_
    refine Goes.by (T' := T27) (g' := (mkF m 71 #[.val (.int x0), .val (.int x1), .val (.int x2), .val (.int x3), .val (.int x4), .val (.int (3 : Int32)), .val (.ref ba), .val (.ref r), .unset] [(.int (3 : Int32))])) (lenS X27 hx hZ e27 V_r (n := (3 : Int32)) rfl (g := (mkF m 70 #[.val (.int x0), .val (.int x1), .val (.int x2), .val (.int x3), .val (.int x4), .val (.int (3 : Int32)), .val (.ref ba), .val (.ref r), .unset] [(.ref r)])) rfl rfl (hb hby at_70)) ?_
    refine Goes.by (T' := T27) (g' := (mkF m 73 #[.val (.int x0), .val (.int x1), .val (.int x2), .val (.int x3), .val (.int x4), .val (.int (3 : Int32)), .val (.ref ba), .val (.ref r), .unset] [(.int (3 : Int32)), (.int (3 : Int32))])) (fun _ k => XS.iload X27.here hx rfl (hb hby at_71) rfl k) ?_
    refine Goes.by (T' := T27) (g' := (mkF m 78 #[.val (.int x0), .val (.int x1), .val (.int x2), .val (.int x3), .val (.int x4), .val (.int (3 : Int32)), .val (.ref ba), .val (.ref r), .unset] [])) (fun _ k => XS.icmpYes X27.here hx rfl (pc0 := 73) (pc' := 78) rfl (hb hby at_73) rfl (by decide) (by decide) (by decide) k) ?_
    refine Goes.by (T' := T27) (g' := (mkF m 79 #[.val (.int x0), .val (.int x1), .val (.int x2), .val (.int x3), .val (.int x4), .val (.int (3 : Int32)), .val (.ref ba), .val (.ref r), .unset] [(.int (1 : Int32))])) (fun _ k => XS.iconst X27.here hx rfl (hb hby at_78)  k) ?_
    refine Goes.by (T' := T27) (g' := (mkF m 81 #[.val (.int x0), .val (.int x1), .val (.int x2), .val (.int x3), .val (.int x4), .val (.int (3 : Int32)), .val (.ref ba), .val (.ref r), .val (.int (1 : Int32))] [])) (fun _ k => XS.istore X27.here hx rfl (hb hby at_79) rfl (l' := #[.val (.int x0), .val (.int x1), .val (.int x2), .val (.int x3), .val (.int x4), .val (.int (3 : Int32)), .val (.ref ba), .val (.ref r), .val (.int (1 : Int32))]) rfl k) ?_
    refine Goes.by (T' := T27) (g' := (mkF m 83 #[.val (.int x0), .val (.int x1), .val (.int x2), .val (.int x3), .val (.int x4), .val (.int (3 : Int32)), .val (.ref ba), .val (.ref r), .val (.int (1 : Int32))] [(.int (3 : Int32))])) (fun _ k => XS.iload X27.here hx rfl (hb hby at_81) rfl k) ?_
    refine Goes.by (T' := T27) (g' := (mkF m 86 #[.val (.int x0), .val (.int x1), .val (.int x2), .val (.int x3), .val (.int x4), .val (.int (3 : Int32)), .val (.ref ba), .val (.ref r), .val (.int (1 : Int32))] [])) (fun _ k => XS.ifNo X27.here hx rfl (hb hby at_83) rfl (by decide) k) ?_
    refine Goes.by (T' := T27) (g' := (mkF m 88 #[.val (.int x0), .val (.int x1), .val (.int x2), .val (.int x3), .val (.int x4), .val (.int (3 : Int32)), .val (.ref ba), .val (.ref r), .val (.int (1 : Int32))] [(.int (1 : Int32))])) (fun _ k => XS.iload X27.here hx rfl (hb hby at_86) rfl k) ?_
    refine Goes.by (T' := T27) (g' := (mkF m 91 #[.val (.int x0), .val (.int x1), .val (.int x2), .val (.int x3), .val (.int x4), .val (.int (3 : Int32)), .val (.ref ba), .val (.ref r), .val (.int (1 : Int32))] [])) (fun _ k => XS.ifNo X27.here hx rfl (hb hby at_88) rfl (by decide) k) ?_
    refine Goes.by (T' := T27) (g' := (mkF m 93 #[.val (.int x0), .val (.int x1), .val (.int x2), .val (.int x3), .val (.int x4), .val (.int (3 : Int32)), .val (.ref ba), .val (.ref r), .val (.int (1 : Int32))] [(.ref r)])) (fun _ k => XS.aload X27.here hx rfl (hb hby at_91) rfl rfl k) ?_
    refine Goes.by (T' := T27) (g' := (mkF m 94 #[.val (.int x0), .val (.int x1), .val (.int x2), .val (.int x3), .val (.int x4), .val (.int (3 : Int32)), .val (.ref ba), .val (.ref r), .val (.int (1 : Int32))] [(.int (0 : Int32)), (.ref r)])) (fun _ k => XS.iconst X27.here hx rfl (hb hby at_93)  k) ?_
    refine Goes.by (T' := T27) (g' := (mkF m 95 #[.val (.int x0), .val (.int x1), .val (.int x2), .val (.int x3), .val (.int x4), .val (.int (3 : Int32)), .val (.ref ba), .val (.ref r), .val (.int (1 : Int32))] [(.double (FP.dmul u0 f))])) (ldDS X27 hx hZ e27 V_r (v := (.double (FP.dmul u0 f))) (j := (0 : Int32)) 0 (by decide) rfl (g := (mkF m 94 #[.val (.int x0), .val (.int x1), .val (.int x2), .val (.int x3), .val (.int x4), .val (.int (3 : Int32)), .val (.ref ba), .val (.ref r), .val (.int (1 : Int32))] [(.int (0 : Int32)), (.ref r)])) rfl rfl (hb hby at_94)) ?_
    refine Goes.by (T' := T27) (g' := (mkF m 96 #[.val (.int x0), .val (.int x1), .val (.int x2), .val (.int x3), .val (.int x4), .val (.int (3 : Int32)), .val (.ref ba), .val (.ref r), .val (.int (1 : Int32))] [(.int x1), (.double (FP.dmul u0 f))])) (fun _ k => XS.iloadN X27.here hx rfl (hb hby at_95) rfl k) ?_
    refine Goes.by (T' := T27) (g' := (mkF m 98 #[.val (.int x0), .val (.int x1), .val (.int x2), .val (.int x3), .val (.int x4), .val (.int (3 : Int32)), .val (.ref ba), .val (.ref r), .val (.int (1 : Int32))] [(.int x4), (.int x1), (.double (FP.dmul u0 f))])) (fun _ k => XS.iload X27.here hx rfl (hb hby at_96) rfl k) ?_
    obtain ⟨v28, T28, L28, X28, hQ28, st28⟩ := callC X27 hx hZ (y := (⟨"com/example/adhoq/adhoq/VectorsTimesPinLaw", "ref", "(II)D"⟩ : MethodName)) hown (hw _ (List.mem_of_getElem? (i := 5) rfl)) (hw _ (List.mem_of_getElem? (i := 6) rfl)) (hw _ (List.mem_of_getElem? (i := 8) rfl)) (hw _ (List.mem_of_getElem? (i := 7) rfl)) (by decide) e27 (argsL := [(.int x1), (.int x4)]) (rest := [(.double (FP.dmul u0 f))]) (W := 2) (rm_ref l Z a0 hw x1 x4 T27.heap n0 Z0) rfl (by decide) (by decide) (by decide) (by decide) (g := (mkF m 98 #[.val (.int x0), .val (.int x1), .val (.int x2), .val (.int x3), .val (.int x4), .val (.int (3 : Int32)), .val (.ref ba), .val (.ref r), .val (.int (1 : Int32))] [(.int x4), (.int x1), (.double (FP.dmul u0 f))])) rfl (by rw [hml]; rfl) (lenOf pd1 rfl) rfl (by show 2 * 0 + _ ≤ _; exact Nat.le_of_eq rfl) (hb hby at_98)
    obtain ⟨rfl, NL28, hk28⟩ := hQ28
    have N0 := Fr.app N0 NL28
    refine Goes.by (T' := T28) (g' := (mkF m 101 #[.val (.int x0), .val (.int x1), .val (.int x2), .val (.int x3), .val (.int x4), .val (.int (3 : Int32)), .val (.ref ba), .val (.ref r), .val (.int (1 : Int32))] [(.double (FP.l2d ((x1).toInt64 * (x4).toInt64))), (.double (FP.dmul u0 f))])) st28 ?_
    refine Goes.by (T' := T28) (g' := (mkF m 102 #[.val (.int x0), .val (.int x1), .val (.int x2), .val (.int x3), .val (.int x4), .val (.int (3 : Int32)), .val (.ref ba), .val (.ref r), .val (.int (1 : Int32))] [(.int (0 : Int32))])) (fun _ k => XS.dcmpS X28.here hx rfl (hb hby at_101) rfl (own_mulcmp (DInt_i2d q_u0) (DInt_i2d q_f) (own_imul64 x1 x4) _) k) ?_
    refine Goes.by (T' := T28) (g' := (mkF m 105 #[.val (.int x0), .val (.int x1), .val (.int x2), .val (.int x3), .val (.int x4), .val (.int (3 : Int32)), .val (.ref ba), .val (.ref r), .val (.int (1 : Int32))] [])) (fun _ k => XS.ifNo X28.here hx rfl (hb hby at_102) rfl (by decide) k) ?_
    refine Goes.by (T' := T28) (g' := (mkF m 107 #[.val (.int x0), .val (.int x1), .val (.int x2), .val (.int x3), .val (.int x4), .val (.int (3 : Int32)), .val (.ref ba), .val (.ref r), .val (.int (1 : Int32))] [(.ref ba)])) (fun _ k => XS.aload X28.here hx rfl (hb hby at_105) rfl rfl k) ?_
    refine Goes.by (T' := T28) (g' := (mkF m 108 #[.val (.int x0), .val (.int x1), .val (.int x2), .val (.int x3), .val (.int x4), .val (.int (3 : Int32)), .val (.ref ba), .val (.ref r), .val (.int (1 : Int32))] [(.int (0 : Int32)), (.ref ba)])) (fun _ k => XS.iconst X28.here hx rfl (hb hby at_107)  k) ?_
    refine Goes.by (T' := T28) (g' := (mkF m 109 #[.val (.int x0), .val (.int x1), .val (.int x2), .val (.int x3), .val (.int x4), .val (.int (3 : Int32)), .val (.ref ba), .val (.ref r), .val (.int (1 : Int32))] [(.double u0)])) (ldDS X28 hx hZ hk28 V_ba (v := (.double u0)) (j := (0 : Int32)) 0 (by decide) rfl (g := (mkF m 108 #[.val (.int x0), .val (.int x1), .val (.int x2), .val (.int x3), .val (.int x4), .val (.int (3 : Int32)), .val (.ref ba), .val (.ref r), .val (.int (1 : Int32))] [(.int (0 : Int32)), (.ref ba)])) rfl rfl (hb hby at_108)) ?_
    refine Goes.by (T' := T28) (g' := (mkF m 110 #[.val (.int x0), .val (.int x1), .val (.int x2), .val (.int x3), .val (.int x4), .val (.int (3 : Int32)), .val (.ref ba), .val (.ref r), .val (.int (1 : Int32))] [(.int x1), (.double u0)])) (fun _ k => XS.iloadN X28.here hx rfl (hb hby at_109) rfl k) ?_
    obtain ⟨w0, q_w0⟩ : ∃ zz, FP.i2d x1 = zz := ⟨_, rfl⟩
    refine Goes.by (T' := T28) (g' := (mkF m 111 #[.val (.int x0), .val (.int x1), .val (.int x2), .val (.int x3), .val (.int x4), .val (.int (3 : Int32)), .val (.ref ba), .val (.ref r), .val (.int (1 : Int32))] [(.double w0), (.double u0)])) (fun _ k => XS.i2dS X28.here hx rfl (hb hby at_110) rfl q_w0 k) ?_
    refine Goes.by (T' := T28) (g' := (mkF m 112 #[.val (.int x0), .val (.int x1), .val (.int x2), .val (.int x3), .val (.int x4), .val (.int (3 : Int32)), .val (.ref ba), .val (.ref r), .val (.int (1 : Int32))] [(.int (0 : Int32))])) (fun _ k => XS.dcmpS X28.here hx rfl (hb hby at_111) rfl (cmpD_eq (DInt_i2d q_u0) (DInt_i2d q_w0) rfl _) k) ?_
    refine Goes.by (T' := T28) (g' := (mkF m 115 #[.val (.int x0), .val (.int x1), .val (.int x2), .val (.int x3), .val (.int x4), .val (.int (3 : Int32)), .val (.ref ba), .val (.ref r), .val (.int (1 : Int32))] [])) (fun _ k => XS.ifNo X28.here hx rfl (hb hby at_112) rfl (by decide) k) ?_
    refine Goes.by (T' := T28) (g' := (mkF m 116 #[.val (.int x0), .val (.int x1), .val (.int x2), .val (.int x3), .val (.int x4), .val (.int (3 : Int32)), .val (.ref ba), .val (.ref r), .val (.int (1 : Int32))] [(.int (1 : Int32))])) (fun _ k => XS.iconst X28.here hx rfl (hb hby at_115)  k) ?_
    refine Goes.by (T' := T28) (g' := (mkF m 120 #[.val (.int x0), .val (.int x1), .val (.int x2), .val (.int x3), .val (.int x4), .val (.int (3 : Int32)), .val (.ref ba), .val (.ref r), .val (.int (1 : Int32))] [(.int (1 : Int32))])) (fun _ k => XS.goto X28.here hx rfl (pc0 := 116) (pc' := 120) rfl (hb hby at_116) (by decide) (by decide) k) ?_
    refine Goes.by (T' := T28) (g' := (mkF m 122 #[.val (.int x0), .val (.int x1), .val (.int x2), .val (.int x3), .val (.int x4), .val (.int (3 : Int32)), .val (.ref ba), .val (.ref r), .val (.int (1 : Int32))] [])) (fun _ k => XS.istore X28.here hx rfl (hb hby at_120) rfl (l' := #[.val (.int x0), .val (.int x1), .val (.int x2), .val (.int x3), .val (.int x4), .val (.int (3 : Int32)), .val (.ref ba), .val (.ref r), .val (.int (1 : Int32))]) rfl k) ?_
    refine Goes.by (T' := T28) (g' := (mkF m 124 #[.val (.int x0), .val (.int x1), .val (.int x2), .val (.int x3), .val (.int x4), .val (.int (3 : Int32)), .val (.ref ba), .val (.ref r), .val (.int (1 : Int32))] [(.int (3 : Int32))])) (fun _ k => XS.iload X28.here hx rfl (hb hby at_122) rfl k) ?_
    refine Goes.by (T' := T28) (g' := (mkF m 125 #[.val (.int x0), .val (.int x1), .val (.int x2), .val (.int x3), .val (.int x4), .val (.int (3 : Int32)), .val (.ref ba), .val (.ref r), .val (.int (1 : Int32))] [(.int (1 : Int32)), (.int (3 : Int32))])) (fun _ k => XS.iconst X28.here hx rfl (hb hby at_124)  k) ?_
    refine Goes.by (T' := T28) (g' := (mkF m 128 #[.val (.int x0), .val (.int x1), .val (.int x2), .val (.int x3), .val (.int x4), .val (.int (3 : Int32)), .val (.ref ba), .val (.ref r), .val (.int (1 : Int32))] [])) (fun _ k => XS.icmpNo X28.here hx rfl (hb hby at_125) rfl (by decide) k) ?_
    refine Goes.by (T' := T28) (g' := (mkF m 130 #[.val (.int x0), .val (.int x1), .val (.int x2), .val (.int x3), .val (.int x4), .val (.int (3 : Int32)), .val (.ref ba), .val (.ref r), .val (.int (1 : Int32))] [(.int (1 : Int32))])) (fun _ k => XS.iload X28.here hx rfl (hb hby at_128) rfl k) ?_
    refine Goes.by (T' := T28) (g' := (mkF m 133 #[.val (.int x0), .val (.int x1), .val (.int x2), .val (.int x3), .val (.int x4), .val (.int (3 : Int32)), .val (.ref ba), .val (.ref r), .val (.int (1 : Int32))] [])) (fun _ k => XS.ifNo X28.here hx rfl (hb hby at_130) rfl (by decide) k) ?_
    refine Goes.by (T' := T28) (g' := (mkF m 135 #[.val (.int x0), .val (.int x1), .val (.int x2), .val (.int x3), .val (.int x4), .val (.int (3 : Int32)), .val (.ref ba), .val (.ref r), .val (.int (1 : Int32))] [(.ref r)])) (fun _ k => XS.aload X28.here hx rfl (hb hby at_133) rfl rfl k) ?_
    refine Goes.by (T' := T28) (g' := (mkF m 136 #[.val (.int x0), .val (.int x1), .val (.int x2), .val (.int x3), .val (.int x4), .val (.int (3 : Int32)), .val (.ref ba), .val (.ref r), .val (.int (1 : Int32))] [(.int (1 : Int32)), (.ref r)])) (fun _ k => XS.iconst X28.here hx rfl (hb hby at_135)  k) ?_
    refine Goes.by (T' := T28) (g' := (mkF m 137 #[.val (.int x0), .val (.int x1), .val (.int x2), .val (.int x3), .val (.int x4), .val (.int (3 : Int32)), .val (.ref ba), .val (.ref r), .val (.int (1 : Int32))] [(.double (FP.dmul u1 f))])) (ldDS X28 hx hZ hk28 V_r (v := (.double (FP.dmul u1 f))) (j := (1 : Int32)) 1 (by decide) rfl (g := (mkF m 136 #[.val (.int x0), .val (.int x1), .val (.int x2), .val (.int x3), .val (.int x4), .val (.int (3 : Int32)), .val (.ref ba), .val (.ref r), .val (.int (1 : Int32))] [(.int (1 : Int32)), (.ref r)])) rfl rfl (hb hby at_136)) ?_
    refine Goes.by (T' := T28) (g' := (mkF m 138 #[.val (.int x0), .val (.int x1), .val (.int x2), .val (.int x3), .val (.int x4), .val (.int (3 : Int32)), .val (.ref ba), .val (.ref r), .val (.int (1 : Int32))] [(.int x2), (.double (FP.dmul u1 f))])) (fun _ k => XS.iloadN X28.here hx rfl (hb hby at_137) rfl k) ?_
    refine Goes.by (T' := T28) (g' := (mkF m 140 #[.val (.int x0), .val (.int x1), .val (.int x2), .val (.int x3), .val (.int x4), .val (.int (3 : Int32)), .val (.ref ba), .val (.ref r), .val (.int (1 : Int32))] [(.int x4), (.int x2), (.double (FP.dmul u1 f))])) (fun _ k => XS.iload X28.here hx rfl (hb hby at_138) rfl k) ?_
    obtain ⟨v29, T29, L29, X29, hQ29, st29⟩ := callC X28 hx hZ (y := (⟨"com/example/adhoq/adhoq/VectorsTimesPinLaw", "ref", "(II)D"⟩ : MethodName)) hown (hw _ (List.mem_of_getElem? (i := 5) rfl)) (hw _ (List.mem_of_getElem? (i := 6) rfl)) (hw _ (List.mem_of_getElem? (i := 8) rfl)) (hw _ (List.mem_of_getElem? (i := 7) rfl)) (by decide) hk28 (argsL := [(.int x2), (.int x4)]) (rest := [(.double (FP.dmul u1 f))]) (W := 2) (rm_ref l Z a0 hw x2 x4 T27.heap n0 Z0) rfl (by decide) (by decide) (by decide) (by decide) (g := (mkF m 140 #[.val (.int x0), .val (.int x1), .val (.int x2), .val (.int x3), .val (.int x4), .val (.int (3 : Int32)), .val (.ref ba), .val (.ref r), .val (.int (1 : Int32))] [(.int x4), (.int x2), (.double (FP.dmul u1 f))])) rfl (by rw [hml]; rfl) (lenOf pd1 rfl) rfl (by show 2 * 0 + _ ≤ _; exact Nat.le_of_eq rfl) (hb hby at_140)
    obtain ⟨rfl, NL29, hk29⟩ := hQ29
    have N0 := Fr.app N0 NL29
    refine Goes.by (T' := T29) (g' := (mkF m 143 #[.val (.int x0), .val (.int x1), .val (.int x2), .val (.int x3), .val (.int x4), .val (.int (3 : Int32)), .val (.ref ba), .val (.ref r), .val (.int (1 : Int32))] [(.double (FP.l2d ((x2).toInt64 * (x4).toInt64))), (.double (FP.dmul u1 f))])) st29 ?_
    refine Goes.by (T' := T29) (g' := (mkF m 144 #[.val (.int x0), .val (.int x1), .val (.int x2), .val (.int x3), .val (.int x4), .val (.int (3 : Int32)), .val (.ref ba), .val (.ref r), .val (.int (1 : Int32))] [(.int (0 : Int32))])) (fun _ k => XS.dcmpS X29.here hx rfl (hb hby at_143) rfl (own_mulcmp (DInt_i2d q_u1) (DInt_i2d q_f) (own_imul64 x2 x4) _) k) ?_
    refine Goes.by (T' := T29) (g' := (mkF m 147 #[.val (.int x0), .val (.int x1), .val (.int x2), .val (.int x3), .val (.int x4), .val (.int (3 : Int32)), .val (.ref ba), .val (.ref r), .val (.int (1 : Int32))] [])) (fun _ k => XS.ifNo X29.here hx rfl (hb hby at_144) rfl (by decide) k) ?_
    refine Goes.by (T' := T29) (g' := (mkF m 149 #[.val (.int x0), .val (.int x1), .val (.int x2), .val (.int x3), .val (.int x4), .val (.int (3 : Int32)), .val (.ref ba), .val (.ref r), .val (.int (1 : Int32))] [(.ref ba)])) (fun _ k => XS.aload X29.here hx rfl (hb hby at_147) rfl rfl k) ?_
    refine Goes.by (T' := T29) (g' := (mkF m 150 #[.val (.int x0), .val (.int x1), .val (.int x2), .val (.int x3), .val (.int x4), .val (.int (3 : Int32)), .val (.ref ba), .val (.ref r), .val (.int (1 : Int32))] [(.int (1 : Int32)), (.ref ba)])) (fun _ k => XS.iconst X29.here hx rfl (hb hby at_149)  k) ?_
    refine Goes.by (T' := T29) (g' := (mkF m 151 #[.val (.int x0), .val (.int x1), .val (.int x2), .val (.int x3), .val (.int x4), .val (.int (3 : Int32)), .val (.ref ba), .val (.ref r), .val (.int (1 : Int32))] [(.double u1)])) (ldDS X29 hx hZ hk29 V_ba (v := (.double u1)) (j := (1 : Int32)) 1 (by decide) rfl (g := (mkF m 150 #[.val (.int x0), .val (.int x1), .val (.int x2), .val (.int x3), .val (.int x4), .val (.int (3 : Int32)), .val (.ref ba), .val (.ref r), .val (.int (1 : Int32))] [(.int (1 : Int32)), (.ref ba)])) rfl rfl (hb hby at_150)) ?_
    refine Goes.by (T' := T29) (g' := (mkF m 152 #[.val (.int x0), .val (.int x1), .val (.int x2), .val (.int x3), .val (.int x4), .val (.int (3 : Int32)), .val (.ref ba), .val (.ref r), .val (.int (1 : Int32))] [(.int x2), (.double u1)])) (fun _ k => XS.iloadN X29.here hx rfl (hb hby at_151) rfl k) ?_
    obtain ⟨w1, q_w1⟩ : ∃ zz, FP.i2d x2 = zz := ⟨_, rfl⟩
    refine Goes.by (T' := T29) (g' := (mkF m 153 #[.val (.int x0), .val (.int x1), .val (.int x2), .val (.int x3), .val (.int x4), .val (.int (3 : Int32)), .val (.ref ba), .val (.ref r), .val (.int (1 : Int32))] [(.double w1), (.double u1)])) (fun _ k => XS.i2dS X29.here hx rfl (hb hby at_152) rfl q_w1 k) ?_
    refine Goes.by (T' := T29) (g' := (mkF m 154 #[.val (.int x0), .val (.int x1), .val (.int x2), .val (.int x3), .val (.int x4), .val (.int (3 : Int32)), .val (.ref ba), .val (.ref r), .val (.int (1 : Int32))] [(.int (0 : Int32))])) (fun _ k => XS.dcmpS X29.here hx rfl (hb hby at_153) rfl (cmpD_eq (DInt_i2d q_u1) (DInt_i2d q_w1) rfl _) k) ?_
    refine Goes.by (T' := T29) (g' := (mkF m 157 #[.val (.int x0), .val (.int x1), .val (.int x2), .val (.int x3), .val (.int x4), .val (.int (3 : Int32)), .val (.ref ba), .val (.ref r), .val (.int (1 : Int32))] [])) (fun _ k => XS.ifNo X29.here hx rfl (hb hby at_154) rfl (by decide) k) ?_
    refine Goes.by (T' := T29) (g' := (mkF m 158 #[.val (.int x0), .val (.int x1), .val (.int x2), .val (.int x3), .val (.int x4), .val (.int (3 : Int32)), .val (.ref ba), .val (.ref r), .val (.int (1 : Int32))] [(.int (1 : Int32))])) (fun _ k => XS.iconst X29.here hx rfl (hb hby at_157)  k) ?_
    refine Goes.by (T' := T29) (g' := (mkF m 162 #[.val (.int x0), .val (.int x1), .val (.int x2), .val (.int x3), .val (.int x4), .val (.int (3 : Int32)), .val (.ref ba), .val (.ref r), .val (.int (1 : Int32))] [(.int (1 : Int32))])) (fun _ k => XS.goto X29.here hx rfl (pc0 := 158) (pc' := 162) rfl (hb hby at_158) (by decide) (by decide) k) ?_
    refine Goes.by (T' := T29) (g' := (mkF m 164 #[.val (.int x0), .val (.int x1), .val (.int x2), .val (.int x3), .val (.int x4), .val (.int (3 : Int32)), .val (.ref ba), .val (.ref r), .val (.int (1 : Int32))] [])) (fun _ k => XS.istore X29.here hx rfl (hb hby at_162) rfl (l' := #[.val (.int x0), .val (.int x1), .val (.int x2), .val (.int x3), .val (.int x4), .val (.int (3 : Int32)), .val (.ref ba), .val (.ref r), .val (.int (1 : Int32))]) rfl k) ?_
    refine Goes.by (T' := T29) (g' := (mkF m 166 #[.val (.int x0), .val (.int x1), .val (.int x2), .val (.int x3), .val (.int x4), .val (.int (3 : Int32)), .val (.ref ba), .val (.ref r), .val (.int (1 : Int32))] [(.int (3 : Int32))])) (fun _ k => XS.iload X29.here hx rfl (hb hby at_164) rfl k) ?_
    refine Goes.by (T' := T29) (g' := (mkF m 167 #[.val (.int x0), .val (.int x1), .val (.int x2), .val (.int x3), .val (.int x4), .val (.int (3 : Int32)), .val (.ref ba), .val (.ref r), .val (.int (1 : Int32))] [(.int (2 : Int32)), (.int (3 : Int32))])) (fun _ k => XS.iconst X29.here hx rfl (hb hby at_166)  k) ?_
    refine Goes.by (T' := T29) (g' := (mkF m 170 #[.val (.int x0), .val (.int x1), .val (.int x2), .val (.int x3), .val (.int x4), .val (.int (3 : Int32)), .val (.ref ba), .val (.ref r), .val (.int (1 : Int32))] [])) (fun _ k => XS.icmpNo X29.here hx rfl (hb hby at_167) rfl (by decide) k) ?_
    refine Goes.by (T' := T29) (g' := (mkF m 172 #[.val (.int x0), .val (.int x1), .val (.int x2), .val (.int x3), .val (.int x4), .val (.int (3 : Int32)), .val (.ref ba), .val (.ref r), .val (.int (1 : Int32))] [(.int (1 : Int32))])) (fun _ k => XS.iload X29.here hx rfl (hb hby at_170) rfl k) ?_
    refine Goes.by (T' := T29) (g' := (mkF m 175 #[.val (.int x0), .val (.int x1), .val (.int x2), .val (.int x3), .val (.int x4), .val (.int (3 : Int32)), .val (.ref ba), .val (.ref r), .val (.int (1 : Int32))] [])) (fun _ k => XS.ifNo X29.here hx rfl (hb hby at_172) rfl (by decide) k) ?_
    refine Goes.by (T' := T29) (g' := (mkF m 177 #[.val (.int x0), .val (.int x1), .val (.int x2), .val (.int x3), .val (.int x4), .val (.int (3 : Int32)), .val (.ref ba), .val (.ref r), .val (.int (1 : Int32))] [(.ref r)])) (fun _ k => XS.aload X29.here hx rfl (hb hby at_175) rfl rfl k) ?_
    refine Goes.by (T' := T29) (g' := (mkF m 178 #[.val (.int x0), .val (.int x1), .val (.int x2), .val (.int x3), .val (.int x4), .val (.int (3 : Int32)), .val (.ref ba), .val (.ref r), .val (.int (1 : Int32))] [(.int (2 : Int32)), (.ref r)])) (fun _ k => XS.iconst X29.here hx rfl (hb hby at_177)  k) ?_
    refine Goes.by (T' := T29) (g' := (mkF m 179 #[.val (.int x0), .val (.int x1), .val (.int x2), .val (.int x3), .val (.int x4), .val (.int (3 : Int32)), .val (.ref ba), .val (.ref r), .val (.int (1 : Int32))] [(.double (FP.dmul u2 f))])) (ldDS X29 hx hZ hk29 V_r (v := (.double (FP.dmul u2 f))) (j := (2 : Int32)) 2 (by decide) rfl (g := (mkF m 178 #[.val (.int x0), .val (.int x1), .val (.int x2), .val (.int x3), .val (.int x4), .val (.int (3 : Int32)), .val (.ref ba), .val (.ref r), .val (.int (1 : Int32))] [(.int (2 : Int32)), (.ref r)])) rfl rfl (hb hby at_178)) ?_
    refine Goes.by (T' := T29) (g' := (mkF m 180 #[.val (.int x0), .val (.int x1), .val (.int x2), .val (.int x3), .val (.int x4), .val (.int (3 : Int32)), .val (.ref ba), .val (.ref r), .val (.int (1 : Int32))] [(.int x3), (.double (FP.dmul u2 f))])) (fun _ k => XS.iloadN X29.here hx rfl (hb hby at_179) rfl k) ?_
    refine Goes.by (T' := T29) (g' := (mkF m 182 #[.val (.int x0), .val (.int x1), .val (.int x2), .val (.int x3), .val (.int x4), .val (.int (3 : Int32)), .val (.ref ba), .val (.ref r), .val (.int (1 : Int32))] [(.int x4), (.int x3), (.double (FP.dmul u2 f))])) (fun _ k => XS.iload X29.here hx rfl (hb hby at_180) rfl k) ?_
    obtain ⟨v30, T30, L30, X30, hQ30, st30⟩ := callC X29 hx hZ (y := (⟨"com/example/adhoq/adhoq/VectorsTimesPinLaw", "ref", "(II)D"⟩ : MethodName)) hown (hw _ (List.mem_of_getElem? (i := 5) rfl)) (hw _ (List.mem_of_getElem? (i := 6) rfl)) (hw _ (List.mem_of_getElem? (i := 8) rfl)) (hw _ (List.mem_of_getElem? (i := 7) rfl)) (by decide) hk29 (argsL := [(.int x3), (.int x4)]) (rest := [(.double (FP.dmul u2 f))]) (W := 2) (rm_ref l Z a0 hw x3 x4 T27.heap n0 Z0) rfl (by decide) (by decide) (by decide) (by decide) (g := (mkF m 182 #[.val (.int x0), .val (.int x1), .val (.int x2), .val (.int x3), .val (.int x4), .val (.int (3 : Int32)), .val (.ref ba), .val (.ref r), .val (.int (1 : Int32))] [(.int x4), (.int x3), (.double (FP.dmul u2 f))])) rfl (by rw [hml]; rfl) (lenOf pd1 rfl) rfl (by show 2 * 0 + _ ≤ _; exact Nat.le_of_eq rfl) (hb hby at_182)
    obtain ⟨rfl, NL30, hk30⟩ := hQ30
    have N0 := Fr.app N0 NL30
    refine Goes.by (T' := T30) (g' := (mkF m 185 #[.val (.int x0), .val (.int x1), .val (.int x2), .val (.int x3), .val (.int x4), .val (.int (3 : Int32)), .val (.ref ba), .val (.ref r), .val (.int (1 : Int32))] [(.double (FP.l2d ((x3).toInt64 * (x4).toInt64))), (.double (FP.dmul u2 f))])) st30 ?_
    refine Goes.by (T' := T30) (g' := (mkF m 186 #[.val (.int x0), .val (.int x1), .val (.int x2), .val (.int x3), .val (.int x4), .val (.int (3 : Int32)), .val (.ref ba), .val (.ref r), .val (.int (1 : Int32))] [(.int (0 : Int32))])) (fun _ k => XS.dcmpS X30.here hx rfl (hb hby at_185) rfl (own_mulcmp (DInt_i2d q_u2) (DInt_i2d q_f) (own_imul64 x3 x4) _) k) ?_
    refine Goes.by (T' := T30) (g' := (mkF m 189 #[.val (.int x0), .val (.int x1), .val (.int x2), .val (.int x3), .val (.int x4), .val (.int (3 : Int32)), .val (.ref ba), .val (.ref r), .val (.int (1 : Int32))] [])) (fun _ k => XS.ifNo X30.here hx rfl (hb hby at_186) rfl (by decide) k) ?_
    refine Goes.by (T' := T30) (g' := (mkF m 191 #[.val (.int x0), .val (.int x1), .val (.int x2), .val (.int x3), .val (.int x4), .val (.int (3 : Int32)), .val (.ref ba), .val (.ref r), .val (.int (1 : Int32))] [(.ref ba)])) (fun _ k => XS.aload X30.here hx rfl (hb hby at_189) rfl rfl k) ?_
    refine Goes.by (T' := T30) (g' := (mkF m 192 #[.val (.int x0), .val (.int x1), .val (.int x2), .val (.int x3), .val (.int x4), .val (.int (3 : Int32)), .val (.ref ba), .val (.ref r), .val (.int (1 : Int32))] [(.int (2 : Int32)), (.ref ba)])) (fun _ k => XS.iconst X30.here hx rfl (hb hby at_191)  k) ?_
    refine Goes.by (T' := T30) (g' := (mkF m 193 #[.val (.int x0), .val (.int x1), .val (.int x2), .val (.int x3), .val (.int x4), .val (.int (3 : Int32)), .val (.ref ba), .val (.ref r), .val (.int (1 : Int32))] [(.double u2)])) (ldDS X30 hx hZ hk30 V_ba (v := (.double u2)) (j := (2 : Int32)) 2 (by decide) rfl (g := (mkF m 192 #[.val (.int x0), .val (.int x1), .val (.int x2), .val (.int x3), .val (.int x4), .val (.int (3 : Int32)), .val (.ref ba), .val (.ref r), .val (.int (1 : Int32))] [(.int (2 : Int32)), (.ref ba)])) rfl rfl (hb hby at_192)) ?_
    refine Goes.by (T' := T30) (g' := (mkF m 194 #[.val (.int x0), .val (.int x1), .val (.int x2), .val (.int x3), .val (.int x4), .val (.int (3 : Int32)), .val (.ref ba), .val (.ref r), .val (.int (1 : Int32))] [(.int x3), (.double u2)])) (fun _ k => XS.iloadN X30.here hx rfl (hb hby at_193) rfl k) ?_
    obtain ⟨w2, q_w2⟩ : ∃ zz, FP.i2d x3 = zz := ⟨_, rfl⟩
    refine Goes.by (T' := T30) (g' := (mkF m 195 #[.val (.int x0), .val (.int x1), .val (.int x2), .val (.int x3), .val (.int x4), .val (.int (3 : Int32)), .val (.ref ba), .val (.ref r), .val (.int (1 : Int32))] [(.double w2), (.double u2)])) (fun _ k => XS.i2dS X30.here hx rfl (hb hby at_194) rfl q_w2 k) ?_
    refine Goes.by (T' := T30) (g' := (mkF m 196 #[.val (.int x0), .val (.int x1), .val (.int x2), .val (.int x3), .val (.int x4), .val (.int (3 : Int32)), .val (.ref ba), .val (.ref r), .val (.int (1 : Int32))] [(.int (0 : Int32))])) (fun _ k => XS.dcmpS X30.here hx rfl (hb hby at_195) rfl (cmpD_eq (DInt_i2d q_u2) (DInt_i2d q_w2) rfl _) k) ?_
    refine Goes.by (T' := T30) (g' := (mkF m 199 #[.val (.int x0), .val (.int x1), .val (.int x2), .val (.int x3), .val (.int x4), .val (.int (3 : Int32)), .val (.ref ba), .val (.ref r), .val (.int (1 : Int32))] [])) (fun _ k => XS.ifNo X30.here hx rfl (hb hby at_196) rfl (by decide) k) ?_
    refine Goes.by (T' := T30) (g' := (mkF m 200 #[.val (.int x0), .val (.int x1), .val (.int x2), .val (.int x3), .val (.int x4), .val (.int (3 : Int32)), .val (.ref ba), .val (.ref r), .val (.int (1 : Int32))] [(.int (1 : Int32))])) (fun _ k => XS.iconst X30.here hx rfl (hb hby at_199)  k) ?_
    refine Goes.by (T' := T30) (g' := (mkF m 204 #[.val (.int x0), .val (.int x1), .val (.int x2), .val (.int x3), .val (.int x4), .val (.int (3 : Int32)), .val (.ref ba), .val (.ref r), .val (.int (1 : Int32))] [(.int (1 : Int32))])) (fun _ k => XS.goto X30.here hx rfl (pc0 := 200) (pc' := 204) rfl (hb hby at_200) (by decide) (by decide) k) ?_
    refine Goes.by (T' := T30) (g' := (mkF m 206 #[.val (.int x0), .val (.int x1), .val (.int x2), .val (.int x3), .val (.int x4), .val (.int (3 : Int32)), .val (.ref ba), .val (.ref r), .val (.int (1 : Int32))] [])) (fun _ k => XS.istore X30.here hx rfl (hb hby at_204) rfl (l' := #[.val (.int x0), .val (.int x1), .val (.int x2), .val (.int x3), .val (.int x4), .val (.int (3 : Int32)), .val (.ref ba), .val (.ref r), .val (.int (1 : Int32))]) rfl k) ?_
    refine Goes.by (T' := T30) (g' := (mkF m 208 #[.val (.int x0), .val (.int x1), .val (.int x2), .val (.int x3), .val (.int x4), .val (.int (3 : Int32)), .val (.ref ba), .val (.ref r), .val (.int (1 : Int32))] [(.int (1 : Int32))])) (fun _ k => XS.iload X30.here hx rfl (hb hby at_206) rfl k) ?_
    exact outZ X30 hx hlk hret (hb hby at_208) (by exact ⟨rfl, N0⟩) (by decide) (by decide)
set_option maxRecDepth 65536 in
set_option maxHeartbeats 40000000 in
theorem comes_1 {Post : Tables → Env → Array Value → State → Outcome → State → Prop} (hpost : ∀ tb e args s v u, (limb_1_1.after args s (.returned v) u = true ∧ limb_1_2.after args s (.returned v) u = true ∧ True) → FrameEnd s (.returned v) u (Jvm.fieldLocs frame_1_writes args s ++ Jvm.arrayLocs frame_1_arrays args s ++ Jvm.staticLocs frame_1_statics s) 16 128 → Post tb e args s (.returned v) u) :
    ArmFor flags0 classFile x code maxLocals ret World_1 tables_1 room_1 Calls_1 rest_1 Pre_1 Post := by
  intro l hfl _ _ p e ha hc hk s m args below hf hA hF happ hP
  obtain ⟨hcalls, hrest, hpre⟩ := hP
  obtain ⟨-, -, -, hnamed, -, -, -, hat⟩ := (Spec.applies_iff hf).mp happ
  obtain ⟨hg, hn⟩ := and_e (Cond.before_iff.mp (show (Jvm.Cond.and given_1 narrow_1).before args s = true from hpre))
  obtain ⟨g0, t0⟩ := and_e hg
  obtain ⟨g1, t1⟩ := and_e t0
  obtain ⟨g2, t2⟩ := and_e t1
  obtain ⟨g3, t3⟩ := and_e t2
  obtain ⟨g4, t4⟩ := and_e t3
  obtain ⟨w0, w1, w2, w3, w4, rfl⟩ : ∃ w0 w1 w2 w3 w4 : Value, args = #[w0, w1, w2, w3, w4] := by
    have hs : args.size = 5 := by simpa [Cond.value, given_1] using g0
    obtain ⟨L⟩ := args
    match L, hs with
    | [w0, w1, w2, w3, w4], _ => exact ⟨w0, w1, w2, w3, w4, rfl⟩
  have hw := fun d (hd : d ∈ tables_1) => atoms_spec (ws := Jvm.Cond.code x code maxLocals ret :: tables_1) hat d (List.mem_cons_of_mem _ hd)
  obtain ⟨i0, e0⟩ := is_v g1
  obtain rfl : w0 = (.int i0) := Option.some.inj e0
  obtain ⟨i1, e1⟩ := is_v g2
  obtain rfl : w1 = (.int i1) := Option.some.inj e1
  obtain ⟨i2, e2⟩ := is_v g3
  obtain rfl : w2 = (.int i2) := Option.some.inj e2
  obtain ⟨i3, e3⟩ := is_v g4
  obtain rfl : w3 = (.int i3) := Option.some.inj e3
  obtain ⟨i4, e4⟩ := is_v t4
  obtain rfl : w4 = (.int i4) := Option.some.inj e4
  obtain ⟨n, o, h1, h2, h3, _, L, rfl, ⟨rfl, N⟩, hq⟩ := rm_law l s _ hw i0 i1 i2 i3 i4 s.heap s.heap.size (Nat.le_refl _)  p e ha hc hk s m _ below hf ((Spec.applies_iff_loose hf).mp happ).1 ⟨rfl, State.Warmed39.refl s, rfl⟩ trivial
  refine ⟨n, _, h1, h2, h3, hpost _ _ _ _ _ _ ⟨Cond.after_iff.mpr rfl, Cond.after_iff.mpr (eq_i res_at (Term.int_eval (1)) rfl), trivial⟩ ⟨hq.1, hq.2.1, (hq.2.2.sift fun y hy => Or.inr (N y hy)).mono (by decide) (by decide)⟩⟩
theorem main_1_1 : Claimed_1_1 := comes_1 fun _ _ _ _ _ _ h hF => ⟨h.1, hF⟩
theorem main_1_2 : Claimed_1_2 := comes_1 fun _ _ _ _ _ _ h hF => ⟨h.2.1, hF⟩
end Jvm.Pilot.@@N@@
namespace Jvm.Pilot.@@N@@
open Jvm Jvm.ClassFile Sem Op Lib Jvm.Free Jvm.Stand Jvm.Pilot.@@N@@.Jvm.D
/-! MADE BY PROGRAM (witnessworld.py) out of the Statement's table words and the real class files: 9 classes; the members and pool entries that the words name. The judged class is class 1, her method 2. -/
namespace start1
open Jvm.ClassFile
def u (s : String) : CpInfo := .utf8 (stringToUtf16 s)
/-- a pool by its gaps: so many unusable entries, then the entry; so many at the end -/
def gap : Nat → List CpInfo → List CpInfo
  | 0, r => r
  | n + 1, r => .unusable :: gap n r
def poolList (es : List (Nat × CpInfo)) (last : Nat) : List CpInfo := es.foldr (fun e r => gap e.1 (e.2 :: r)) (gap last [])
def pool (es : List (Nat × CpInfo)) (last : Nat) : Array CpInfo := ⟨poolList es last⟩
def fileOf (pool : Array CpInfo) (this : Nat) (attrs : Array Attribute := #[]) (ms : Array MethodInfo := #[]) (fl : Nat := 33) (sup : Nat := 0) (ifs : Array Nat := #[]) (fds : Array FieldInfo := #[]) : ClassFile where
  minorVersion := 0
  majorVersion := 65
  constantPool := pool
  accessFlags := fl
  thisClass := this
  superClass := sup
  interfaces := ifs
  fields := fds
  methods := ms
  attributes := attrs
def plain (name : String) (sup : Option ClassId) : Class where
  name := name
  kind := .ordinary
  loader := none
  accessFlags := 33
  super := sup
  interfaces := #[]
  cf := none
  fields := #[]
  methods := #[]
  instanceTypes := #[]
  staticTypes := #[]
  resolved := #[]
  callSites := []
  init := .initialized
  statics := none
  mirror := none

def pool0 : Array CpInfo := pool [(5, u "<init>"), (0, u "()V"), (1, .class_ 10), (1, u "java/lang/Object")] 113

def k0m0 : Method := { name := "<init>", desc := "()V", sig := { parameters := [], returnType := none }, accessFlags := 1, code := none }
/-- java/lang/Object -/
def k0 : Class := { plain "java/lang/Object" none with
  accessFlags := 33
  interfaces := #[]
  cf := some (fileOf pool0 8 #[] #[{ accessFlags := 1, nameIndex := 5, descriptorIndex := 6, attributes := #[] }] 33 0 #[] #[])
  fields := #[]
  methods := #[k0m0]
  instanceTypes := #[]
  staticTypes := #[]
  resolved := Array.replicate 124 none
  statics := none }

def pool1 : Array CpInfo := pool [(2, .class_ 4), (1, u "java/lang/Object"), (0, u "<init>"), (0, u "()V"), (0, .methodref 8 9), (0, .class_ 10), (0, .nameAndType 11 12), (0, u "com/example/adhoq/adhoq/Vectors"), (0, u "times"), (0, u "([DD)[D"), (0, .methodref 14 15), (0, .class_ 16), (0, .nameAndType 17 18), (0, u "com/example/adhoq/adhoq/VectorsTimesPinLaw"), (0, u "ref"), (0, u "(II)D"), (2, u "law"), (0, u "(IIIII)Z")] 5

def k1m0 : Method := { name := "<init>", desc := "()V", sig := { parameters := [], returnType := none }, accessFlags := 2, code := none }
def k1c1 : Code := { maxStack := 4, maxLocals := 2, code := method_2_code, exceptionTable := #[], attributes := #[] }
def k1m1 : Method := { name := "ref", desc := "(II)D", sig := { parameters := [.int, .int], returnType := some .double }, accessFlags := 10, code := some k1c1 }
def k1c2 : Code := { maxStack := 4, maxLocals := 9, code := code, exceptionTable := #[], attributes := #[] }
def k1m2 : Method := { name := "law", desc := "(IIIII)Z", sig := { parameters := [.int, .int, .int, .int, .int], returnType := some .boolean }, accessFlags := 9, code := some k1c2 }
/-- com/example/adhoq/adhoq/VectorsTimesPinLaw -/
def k1 : Class := { plain "com/example/adhoq/adhoq/VectorsTimesPinLaw" (some 0) with
  accessFlags := 49
  interfaces := #[]
  cf := some (fileOf pool1 14 #[] #[{ accessFlags := 2, nameIndex := 5, descriptorIndex := 6, attributes := #[] }, { accessFlags := 10, nameIndex := 17, descriptorIndex := 18, attributes := #[] }, { accessFlags := 9, nameIndex := 21, descriptorIndex := 22, attributes := #[] }] 49 2 #[] #[])
  fields := #[]
  methods := #[k1m0, k1m1, k1m2]
  instanceTypes := #[]
  staticTypes := #[]
  resolved := Array.replicate 28 none
  statics := none }

def pool2 : Array CpInfo := pool [(2, .class_ 4), (1, u "java/lang/Object"), (0, u "<init>"), (0, u "()V"), (1, .class_ 10), (1, u "com/example/adhoq/adhoq/Vectors"), (15, u "times"), (0, u "([DD)[D")] 4

def k2m0 : Method := { name := "<init>", desc := "()V", sig := { parameters := [], returnType := none }, accessFlags := 2, code := none }
def k2c1 : Code := { maxStack := 6, maxLocals := 5, code := prog_37_method_5_code, exceptionTable := #[], attributes := #[] }
def k2m1 : Method := { name := "times", desc := "([DD)[D", sig := { parameters := [(.array .double), .double], returnType := some (.array .double) }, accessFlags := 8, code := some k2c1 }
/-- com/example/adhoq/adhoq/Vectors -/
def k2 : Class := { plain "com/example/adhoq/adhoq/Vectors" (some 0) with
  accessFlags := 48
  interfaces := #[]
  cf := some (fileOf pool2 8 #[] #[{ accessFlags := 2, nameIndex := 5, descriptorIndex := 6, attributes := #[] }, { accessFlags := 8, nameIndex := 26, descriptorIndex := 27, attributes := #[] }] 48 2 #[] #[])
  fields := #[]
  methods := #[k2m0, k2m1]
  instanceTypes := #[]
  staticTypes := #[]
  resolved := Array.replicate 32 none
  statics := none }

def pool3 : Array CpInfo := pool [(1, u "java/lang/Cloneable"), (0, .class_ 1), (0, u "java/lang/Object"), (0, .class_ 3)] 3

/-- java/lang/Cloneable -/
def k3 : Class := { plain "java/lang/Cloneable" (some 0) with
  accessFlags := 1537
  interfaces := #[]
  cf := some (fileOf pool3 2 #[] #[] 1537 4 #[] #[])
  fields := #[]
  methods := #[]
  instanceTypes := #[]
  staticTypes := #[]
  resolved := Array.replicate 8 none
  statics := none }

def pool4 : Array CpInfo := pool [(1, u "java/io/Serializable"), (0, .class_ 1), (0, u "java/lang/Object"), (0, .class_ 3)] 3

/-- java/io/Serializable -/
def k4 : Class := { plain "java/io/Serializable" (some 0) with
  accessFlags := 1537
  interfaces := #[]
  cf := some (fileOf pool4 2 #[] #[] 1537 4 #[] #[])
  fields := #[]
  methods := #[]
  instanceTypes := #[]
  staticTypes := #[]
  resolved := Array.replicate 8 none
  statics := none }

/-- the primitive byte -/
def k5 : Class := { plain "byte" none with kind := .primitive 'B', accessFlags := 0x411 }
/-- [B -/
def k6 : Class := { plain "[B" (some 0) with kind := .array 5 .byte, interfaces := #[3, 4], accessFlags := 1041 }

/-- the primitive int -/
def k7 : Class := { plain "int" none with kind := .primitive 'I', accessFlags := 0x411 }
/-- [I -/
def k8 : Class := { plain "[I" (some 0) with kind := .array 7 .int, interfaces := #[3, 4], accessFlags := 1041 }

/-- the primitive double -/
def k9 : Class := { plain "double" none with kind := .primitive 'D', accessFlags := 0x411 }
/-- [D -/
def k10 : Class := { plain "[D" (some 0) with kind := .array 9 .double, interfaces := #[3, 4], accessFlags := 1041 }
def heap : Heap := #[]
def classes : Array Class := #[k0, k1, k2, k3, k4, k5, k6, k7, k8, k9, k10]
def interned : List (Array UInt16 × Addr) := []
def slotsUsed : Nat := 0
def theMethod : MethodId := ⟨1, 2⟩
def args0 : Array Value := #[.int 2, .int 5, .int 5, .int 5, .int 5]
def aboutOver (below : List Frame) : State where
  vm := { classes := classes, interned := interned.toArray }
  heap := heap
  slotsUsed := slotsUsed
  threads := #[{ frames := .invoking theMethod args0 :: below }]
def below0 : List Frame := [.native { method := ⟨0, 0⟩, args := #[] }]
def about1 : State := aboutOver below0
def p0 : Program := .bare "" "" ""
def e0 : Env := launch0.env 0 0 0
theorem w_frames : about1.frames = Frame.invoking theMethod args0 :: below0 := rfl
set_option maxRecDepth 65536 in
theorem w_args : argsFit about1.vm theMethod args0 = true := by decide +kernel
set_option maxRecDepth 65536 in
theorem w_heap : heapFits about1 = true := by decide +kernel
set_option maxRecDepth 65536 in
theorem w_runnable : about1.curStatus? = some .runnable := by decide +kernel
set_option maxRecDepth 65536 in
theorem w_alone : about1.alone = true := by decide +kernel
set_option maxRecDepth 65536 in
theorem w_named : about1.methodNamed? x = some theMethod := by decide +kernel
set_option maxRecDepth 65536 in
theorem w_hears : about1.hears theMethod below0 = true := by decide +kernel
set_option maxRecDepth 65536 in
theorem w_ripe : about1.ripe theMethod args0 below0 = true := by decide +kernel
theorem w_running : about1.status = .running := rfl
set_option maxRecDepth 65536 in
theorem w_room : about1.hasRoom e0.platform room_1 = true :=
  launch0.hasRoom_least _ room_1 (by decide +kernel) (by decide +kernel) (by decide +kernel) (by decide +kernel) (by decide +kernel) (by decide +kernel)
theorem allAtoms_all (ts : List Jvm.Cond) (a : Array Jvm.Value) (st : Jvm.State) : (allAtoms ts).before a st = ts.all (fun c => c.before a st) := by
  induction ts with
  | nil => rfl
  | cons c t ih =>
    show (Jvm.Cond.and c (allAtoms t)).before a st = _
    rw [Jvm.Cond.before_and, ih, List.all_cons]
def words1 : List Jvm.Cond := Jvm.Cond.code x code maxLocals ret :: tables_1
/-- a 'code' word, met by the world's own term for the bytes: nothing is compared byte by byte -/
theorem code_word {y : MethodName} {bytes : ByteArray} {mx : Nat} {rt : Option FieldType} {a : Array Value} {s : State} {m : MethodId} {meth : Method} {c : Code} (h1 : s.methodNamed? y = some m) (h2 : s.vm.method? m = some meth) (h3 : meth.code = some c) (h4 : c.code = bytes)
    (h5 : (c.maxLocals == mx && c.exceptionTable.isEmpty && decide (c.maxStack ≤ mostOperands) && decide (meth.sig.returnType = rt) && !meth.locks && decide (parseMethodDescriptor y.desc = some meth.sig)) = true) : (Jvm.Cond.code y bytes mx rt).before a s = true := by
  simp only [Bool.and_eq_true, beq_iff_eq, Bool.not_eq_true', decide_eq_true_eq] at h5
  obtain ⟨⟨⟨⟨⟨g1, g2⟩, g3⟩, g4⟩, g5⟩, g6⟩ := h5
  simp [Cond.before, Cond.holds, Cond.value, h1, h2, h3, h4, g1, g2, g3, g4, g5, g6]
def isCode : Jvm.Cond → Bool
  | .code _ _ _ _ => true
  | _ => false
theorem all_split {L : List Jvm.Cond} {P : Jvm.Cond → Bool} (h1 : L.all (fun c => isCode c || P c) = true) (h2 : ∀ c ∈ L.filter isCode, P c = true) : L.all P = true := by
  refine List.all_eq_true.mpr fun c hc => ?_
  have h := List.all_eq_true.mp h1 c hc
  rcases Bool.eq_false_or_eq_true (isCode c) with hi | hi
  · exact h2 c (List.mem_filter.mpr ⟨hc, hi⟩)
  · simpa [hi] using h
set_option maxRecDepth 65536 in
theorem w_c0 : (Jvm.Cond.code x code maxLocals ret).before args0 about1 = true := code_word (m := ⟨1, 2⟩) (meth := k1m2) (c := k1c2) (by decide +kernel) rfl rfl rfl (by decide +kernel)
set_option maxRecDepth 65536 in
theorem w_c1 : (Jvm.Cond.code ({ cls := "com/example/adhoq/adhoq/Vectors", name := "times", desc := "([DD)[D" } : Jvm.MethodName) prog_37_method_5_code (5 : Nat) (Option.some (Jvm.ClassFile.FieldType.array Jvm.ClassFile.FieldType.double))).before args0 about1 = true := code_word (m := ⟨2, 1⟩) (meth := k2m1) (c := k2c1) (by decide +kernel) rfl rfl rfl (by decide +kernel)
set_option maxRecDepth 65536 in
theorem w_c2 : (Jvm.Cond.code ({ cls := "com/example/adhoq/adhoq/VectorsTimesPinLaw", name := "ref", desc := "(II)D" } : Jvm.MethodName) method_2_code (2 : Nat) (Option.some Jvm.ClassFile.FieldType.double)).before args0 about1 = true := code_word (m := ⟨1, 1⟩) (meth := k1m1) (c := k1c1) (by decide +kernel) rfl rfl rfl (by decide +kernel)
def codes1 : List Jvm.Cond := [Jvm.Cond.code x code maxLocals ret, Jvm.Cond.code ({ cls := "com/example/adhoq/adhoq/Vectors", name := "times", desc := "([DD)[D" } : Jvm.MethodName) prog_37_method_5_code (5 : Nat) (Option.some (Jvm.ClassFile.FieldType.array Jvm.ClassFile.FieldType.double)), Jvm.Cond.code ({ cls := "com/example/adhoq/adhoq/VectorsTimesPinLaw", name := "ref", desc := "(II)D" } : Jvm.MethodName) method_2_code (2 : Nat) (Option.some Jvm.ClassFile.FieldType.double)]
set_option maxRecDepth 65536 in
theorem codes_eq : words1.filter isCode = codes1 := rfl
theorem w_codes : ∀ c ∈ words1.filter isCode, c.before args0 about1 = true := by
  rw [codes_eq]
  intro c hc
  simp only [codes1, List.mem_cons, List.not_mem_nil, or_false] at hc
  rcases hc with rfl | rfl | rfl
  · exact w_c0
  · exact w_c1
  · exact w_c2
set_option maxRecDepth 65536 in
theorem w_t1 : words1.all (fun c => isCode c || c.before args0 about1) = true := by decide +kernel
theorem w_tables : (allAtoms (Jvm.Cond.code x code maxLocals ret :: tables_1)).before args0 about1 = true := by
  rw [allAtoms_all]
  show words1.all (fun c => c.before args0 about1) = true
  refine all_split ?_ w_codes
  rw [w_t1]
set_option maxRecDepth 65536 in
theorem w_case : (Jvm.Cond.and given_1 narrow_1).before args0 about1 = true := by decide +kernel
theorem w_applies : (headSpec (Jvm.Cond.code x code maxLocals ret :: tables_1) room_1).applies x e0.platform about1 = true :=
  (Spec.applies_iff w_frames).mpr ⟨w_running, w_runnable, w_alone, w_named, w_hears, w_ripe, w_room, w_tables⟩
theorem atStart : AtStart classFile x code maxLocals ret World_1 tables_1 room_1 Calls_1 rest_1 Pre_1 launch0 p0 e0 about1 theMethod args0 below0 :=
  ⟨lists_1, trivial, launch0.admits_env _ _ _, launch0.least_env, fairChoices_fair.cas, fairChoices_fair.clock, w_frames, w_args, w_heap, w_applies, trivial, trivial, w_case⟩
end start1
theorem witness_1 : WitnessClaimed_1 := ⟨start1.p0, start1.e0, start1.about1, start1.theMethod, start1.args0, start1.below0, start1.atStart⟩
end Jvm.Pilot.@@N@@
