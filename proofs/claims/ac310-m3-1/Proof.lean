import JvmDerived
import JvmDerived.Pilot.@@N@@Statement
import JvmDerived.Pilot.@@N@@Code
set_option linter.unusedVariables false
set_option linter.unusedSimpArgs false
namespace Jvm.RoadKit
open Sem ClassFile Op Lib Jvm.Stand Jvm.Free Jvm.LawKit
/-! own_: walks written forward: 'Goes P T g': from the frame g at T the run comes to a state that P takes. -/
def Goes (p : Program) (e : Env) (below : List Frame) (P : State → Prop) (T : State) (g : JFrame) : Prop := ∃ t, Steps p.tables e below (T.setTop g) t ∧ P t
/-- how a body ends: it returned v, and Q holds of v, the heap and the places written -/
def Fin1 (below : List Frame) (s : State) (rm : Room) (Q : Option Value → Heap → List Loc → Prop) (t : State) : Prop :=
  ∃ o, t.status = .running ∧ Ended t below o ∧ ∃ v L, o = .returned v ∧ Q v t.heap L ∧ FrameEnd s o t L rm.cells rm.slots
/-- a body's contract -/
def Does (l : Launch) (y : MethodName) (bytes : ByteArray) (maxL : Nat) (ret : Option FieldType) (ws : List Cond) (rm : Room) (Z : State) (as' : Array Value) (h : Heap) (Q : Option Value → Heap → List Loc → Prop) : Prop :=
  MetFree l y (head1 (Cond.code y bytes maxL ret :: ws) rm) (fun a U => a = as' ∧ Z.Warmed39 U.vm ∧ U.heap = h) (fun _ _ _ _ _ => True) (fun _ U o U' => ∃ v L, o = .returned v ∧ Q v U'.heap L ∧ FrameEnd U o U' L rm.cells rm.slots)
section Own
variable {p : Program} {l : Launch} {e : Env} {R : Room} {s : State} {m : MethodId} {args : Array Value} {below : List Frame} {meth : Method} {c : Code} {T T' : State} {locs : List Loc} {cells slots : Nat} {Z : State} {a0 : Array Value} {h h' : Heap} {g g' : JFrame} {P : State → Prop}
theorem Goes.by (st : ∀ target, Steps p.tables e below (T'.setTop g') target → Steps p.tables e below (T.setTop g) target) (k : Goes p e below P T' g') : Goes p e below P T g := by
  obtain ⟨t, h1, h2⟩ := k
  exact ⟨t, st _ h1, h2⟩
theorem Goes.cast (q : g = g') (k : Goes p e below P T g') : Goes p e below P T g := q ▸ k
theorem Does.of {y : MethodName} {bytes : ByteArray} {maxL : Nat} {ret : Option FieldType} {ws : List Cond} {rm : Room} {as' : Array Value} {Q : Option Value → Heap → List Loc → Prop} (hp : plainFor y = true)
    (body : ∀ (p : Program) (e : Env) (s : State) (m : MethodId) (below : List Frame) (meth : Method) (c : Code) (s₁ : State), p.tables.exec = Jvm.exec → c.code = bytes → c.maxLocals = maxL → meth.sig.returnType = ret → meth.locks = false → Z.Warmed39 s.vm → s.vm.findClass y.cls = some m.cls → meth.name = y.name → Stand p l e rm s m as' below meth c s₁ [] 0 0 → s₁.heap = h →
      Goes p e below (Fin1 below s rm Q) s₁ (entryFrame m as' maxL)) : Does l y bytes maxL ret ws rm Z as' h Q := by
  refine MetFree.of_bodySF hp hisR ?_
  intro p e s m args below meth c s₁ Bd hml0 hP hK
  obtain ⟨rfl, hZ, hh⟩ := hP
  have e0 : s₁.heap = h := by rw [← hh, Bd.state]; rfl
  obtain ⟨t, h1, o, h2⟩ := body p e s m below meth c s₁ Bd.exec Bd.bytes hml0 Bd.returns Bd.notSynchronized hZ (findClass_of_methodNamed Bd.named) ((name_of_methodNamed Bd.named Bd.method).1) (Stand.of_body Bd) e0
  exact ⟨t, o, h1, h2⟩
theorem fin_of {rm : Room} {Q : Option Value → Heap → List Loc → Prop} {v : Option Value} (X : Stand p l e R s m args below meth c T locs cells slots) (hlk : meth.locks = false) (hv : meth.sig.returnType = none → v = none) (hQ : Q v T.heap locs) (hc : cells ≤ rm.cells) (hs : slots ≤ rm.slots)
    (st : ∀ fs, (∀ (f : JFrame) (acts : List Action), f.method = m → f.locked = none → f.entered = [] → (doReturn e (T.setTop f) acts v).1 = T.setFrames fs) → Steps p.tables e below (T.setTop g) (T.setFrames fs)) : Goes p e below (Fin1 below s rm Q) T g := by
  obtain ⟨fs, hr, hrun, hended, hW, hsame⟩ := X.leave (v := v) hv hlk
  exact ⟨_, st fs hr, _, hrun, hended, _, _, rfl, hQ, ⟨_, rfl⟩, hW, hsame.mono hc hs⟩
theorem outV {rm : Room} {Q : Option Value → Heap → List Loc → Prop} {pc : Nat} {Ls : Array Slot} (X : Stand p l e R s m args below meth c T locs cells slots) (hx : p.tables.exec = Jvm.exec) (hlk : meth.locks = false) (hret : meth.sig.returnType = none) (hd : decode c.code pc = .ok (.return_, 1)) (hQ : Q none T.heap locs) (hc : cells ≤ rm.cells) (hs : slots ≤ rm.slots) : Goes p e below (Fin1 below s rm Q) T (mkF m pc Ls []) :=
  fin_of X hlk (fun _ => rfl) hQ hc hs fun fs hr => X.returnOut hx hret hd hr
theorem outZ {rm : Room} {Q : Option Value → Heap → List Loc → Prop} {pc : Nat} {Ls : Array Slot} {z : Int32} {rest : List Value} (X : Stand p l e R s m args below meth c T locs cells slots) (hx : p.tables.exec = Jvm.exec) (hlk : meth.locks = false) (hret : meth.sig.returnType = some .boolean) (hd : decode c.code pc = .ok (.ireturn, 1)) (hQ : Q (some (.int (nar .boolean z))) T.heap locs) (hc : cells ≤ rm.cells) (hs : slots ≤ rm.slots) : Goes p e below (Fin1 below s rm Q) T (mkF m pc Ls (.int z :: rest)) :=
  fin_of X hlk (fun h => by rw [hret] at h; cases h) hQ hc hs fun fs hr => retN X hx (t := .boolean) hret (by simp) hd hr
theorem outO {rm : Room} {Q : Option Value → Heap → List Loc → Prop} {pc : Nat} {Ls : Array Slot} {w : Value} {t : FieldType} {i : Instr} {rest : List Value} (X : Stand p l e R s m args below meth c T locs cells slots) (hx : p.tables.exec = Jvm.exec) (hlk : meth.locks = false) (hret : meth.sig.returnType = some t) (hn : narrow t w = w)
    (hi : (i = .ireturn ∧ (t = .int ∨ t = .boolean ∨ t = .byte ∨ t = .char ∨ t = .short) ∧ ∃ z, w = .int z) ∨ (i = .lreturn ∧ t = .long ∧ ∃ z, w = .long z) ∨ (i = .dreturn ∧ t = .double ∧ ∃ z, w = .double z) ∨ (i = .freturn ∧ t = .float ∧ ∃ z, w = .float z) ∨ (i = .areturn ∧ t.isReference = true ∧ w.isRef = true))
    (hd : decode c.code pc = .ok (i, 1)) (hQ : Q (some w) T.heap locs) (hc : cells ≤ rm.cells) (hs : slots ≤ rm.slots) : Goes p e below (Fin1 below s rm Q) T (mkF m pc Ls (w :: rest)) :=
  fin_of X hlk (fun h => by rw [hret] at h; cases h) hQ hc hs fun fs hr => retOut X hx hret hn hi hd hr
theorem outI {rm : Room} {Q : Option Value → Heap → List Loc → Prop} {pc : Nat} {Ls : Array Slot} {z : Int32} {rest : List Value} (X : Stand p l e R s m args below meth c T locs cells slots) (hx : p.tables.exec = Jvm.exec) (hlk : meth.locks = false) (hret : meth.sig.returnType = some .int) (hd : decode c.code pc = .ok (.ireturn, 1)) (hQ : Q (some (.int z)) T.heap locs) (hc : cells ≤ rm.cells) (hs : slots ≤ rm.slots) : Goes p e below (Fin1 below s rm Q) T (mkF m pc Ls (.int z :: rest)) :=
  outO X hx hlk hret rfl (Or.inl ⟨rfl, Or.inl rfl, _, rfl⟩) hd hQ hc hs
theorem outJ {rm : Room} {Q : Option Value → Heap → List Loc → Prop} {pc : Nat} {Ls : Array Slot} {z : Int64} {rest : List Value} (X : Stand p l e R s m args below meth c T locs cells slots) (hx : p.tables.exec = Jvm.exec) (hlk : meth.locks = false) (hret : meth.sig.returnType = some .long) (hd : decode c.code pc = .ok (.lreturn, 1)) (hQ : Q (some (.long z)) T.heap locs) (hc : cells ≤ rm.cells) (hs : slots ≤ rm.slots) : Goes p e below (Fin1 below s rm Q) T (mkF m pc Ls (.long z :: rest)) :=
  outO X hx hlk hret rfl (Or.inr (Or.inl ⟨rfl, rfl, _, rfl⟩)) hd hQ hc hs
theorem outD {rm : Room} {Q : Option Value → Heap → List Loc → Prop} {pc : Nat} {Ls : Array Slot} {z : UInt64} {rest : List Value} (X : Stand p l e R s m args below meth c T locs cells slots) (hx : p.tables.exec = Jvm.exec) (hlk : meth.locks = false) (hret : meth.sig.returnType = some .double) (hd : decode c.code pc = .ok (.dreturn, 1)) (hQ : Q (some (.double z)) T.heap locs) (hc : cells ≤ rm.cells) (hs : slots ≤ rm.slots) : Goes p e below (Fin1 below s rm Q) T (mkF m pc Ls (.double z :: rest)) :=
  outO X hx hlk hret rfl (Or.inr (Or.inr (Or.inl ⟨rfl, rfl, _, rfl⟩))) hd hQ hc hs
theorem outA {rm : Room} {Q : Option Value → Heap → List Loc → Prop} {pc : Nat} {Ls : Array Slot} {w : Value} {t : FieldType} {rest : List Value} (X : Stand p l e R s m args below meth c T locs cells slots) (hx : p.tables.exec = Jvm.exec) (hlk : meth.locks = false) (hret : meth.sig.returnType = some t) (ht : t.isReference = true) (hw : w.isRef = true) (hn : narrow t w = w) (hd : decode c.code pc = .ok (.areturn, 1)) (hQ : Q (some w) T.heap locs) (hc : cells ≤ rm.cells) (hs : slots ≤ rm.slots) : Goes p e below (Fin1 below s rm Q) T (mkF m pc Ls (w :: rest)) :=
  outO X hx hlk hret hn (Or.inr (Or.inr (Or.inr (Or.inr ⟨rfl, ht, hw⟩)))) hd hQ hc hs
/-! calls by a contract -/
theorem callI (X : Stand p l e R s m args below meth c T locs cells slots) (hx : p.tables.exec = Jvm.exec) (hZ : Z.Warmed39 s.vm) {own : String} {index : Nat} {y : MethodName} (hy1 : y.name = "<init>") (hown : s.vm.findClass own = some m.cls) {bytes : ByteArray} {maxL : Nat} {rm : Room}
    (w1 : (Cond.methodLink own index y).before a0 Z = true) (w2 : (Cond.instanceMethod y).before a0 Z = true) (w3 : (Cond.code y bytes maxL none).before a0 Z = true) (w4 : (Cond.initialized y.cls).before a0 Z = true) (hy : y.cls ≠ "java/lang/invoke/MethodHandle" ∧ y.cls ≠ "java/lang/invoke/VarHandle")
    (eT : T.heap = h) {a : Addr} {argsL rest : List Value} {as' : Array Value} {Q : Option Value → Heap → List Loc → Prop} {W : Nat} (hM : Does l y bytes maxL none [] rm Z as' h Q) (has : (.ref a :: argsL).toArray = as') (hf : rm.frames + 1 ≤ R.frames) (hl : W + (maxL + 11) + rm.locals ≤ R.locals)
    (hcc : cells + rm.cells ≤ R.cells) (hss : slots + rm.slots ≤ R.slots) {g : JFrame} (hg : g.method = m) (hsize : g.locals.size = c.maxLocals) (hlen : ∀ sig, parseMethodDescriptor y.desc = some sig → argsL.length = sig.parameters.length) (hst : g.stack = argsL.reverse ++ .ref a :: rest) (hW : 2 * g.monitorRoom + (rest.map fun v => v.category).sum ≤ W) (hd : decode c.code g.pc = .ok (.invokespecial index, 3)) :
    ∃ v T' L, Stand p l e R s m args below meth c T' (locs ++ L) (cells + rm.cells) (slots + rm.slots) ∧ Q v T'.heap L ∧ ∀ target, Steps p.tables e below (T'.setTop { g with pc := g.pc + 3, stack := v.toList ++ rest }) target → Steps p.tables e below (T.setTop g) target := by
  obtain ⟨v, vm1, ⟨T', L', k', n'⟩, -, X', ⟨L, hQ, e1, e2, e3⟩, st⟩ := X.specialBack hx (y := y) hy1 hown (mvT hZ w1) (mvT hZ w2) (mvT hZ w3) hy (backOf (W := W) hM hZ w3 w4 hf hl) hg hsize (Steps.refl _) hlen hst hW hd (fun _ _ => ⟨has, eT, hcc, hss⟩)
  dsimp only [Pt.U, Pt.locs, Pt.cells, Pt.slots] at X' e1 e2 e3 st hQ
  subst e1 e2 e3
  exact ⟨v, T', L, X', hQ, fun t k => st.trans k⟩
theorem callV (X : Stand p l e R s m args below meth c T locs cells slots) (hx : p.tables.exec = Jvm.exec) (hZ : Z.Warmed39 s.vm) {own C : String} {index : Nat} {y : MethodName} (hown : s.vm.findClass own = some m.cls) {bytes : ByteArray} {maxL : Nat} {ret : Option FieldType} {rm : Room}
    (w1 : (Cond.methodLink own index y).before a0 Z = true) (w2 : (Cond.declares y).before a0 Z = true) (w3 : (Cond.selects C y y).before a0 Z = true) (w4 : (Cond.instanceMethod y).before a0 Z = true) (w5 : (Cond.code y bytes maxL ret).before a0 Z = true) (w6 : (Cond.initialized y.cls).before a0 Z = true) (hy : y.cls ≠ "java/lang/invoke/MethodHandle" ∧ y.cls ≠ "java/lang/invoke/VarHandle")
    (eT : T.heap = h) {a : Addr} (E : Exa Z h a C) {argsL rest : List Value} {as' : Array Value} {Q : Option Value → Heap → List Loc → Prop} {W : Nat} (hM : Does l y bytes maxL ret [] rm Z as' h Q) (has : (.ref a :: argsL).toArray = as') (hf : rm.frames + 1 ≤ R.frames) (hl : W + (maxL + 11) + rm.locals ≤ R.locals)
    (hcc : cells + rm.cells ≤ R.cells) (hss : slots + rm.slots ≤ R.slots) {g : JFrame} (hg : g.method = m) (hsize : g.locals.size = c.maxLocals) (hlen : ∀ sig, parseMethodDescriptor y.desc = some sig → argsL.length = sig.parameters.length) (hst : g.stack = argsL.reverse ++ .ref a :: rest) (hW : 2 * g.monitorRoom + (rest.map fun v => v.category).sum ≤ W) (hd : decode c.code g.pc = .ok (.invokevirtual index, 3)) :
    ∃ v T' L, Stand p l e R s m args below meth c T' (locs ++ L) (cells + rm.cells) (slots + rm.slots) ∧ Q v T'.heap L ∧ ∀ target, Steps p.tables e below (T'.setTop { g with pc := g.pc + 3, stack := v.toList ++ rest }) target → Steps p.tables e below (T.setTop g) target := by
  obtain ⟨cB, kB, q1, q2, q3⟩ := isOf hZ eT E
  obtain ⟨v, vm1, ⟨T', L', k', n'⟩, -, X', ⟨L, hQ, e1, e2, e3⟩, st⟩ := X.virtualBack hx (y := y) (z := y) hown (mvT hZ w1) (mvT hZ w2) (notFace_of_selects (args := args) (mvT hZ w3)) (mvT hZ w3) (mvT hZ w4) hy (backOf (W := W) hM hZ w5 w6 hf hl) q1 q3 hg hsize (Steps.refl _) hlen hst hW hd (fun _ _ => ⟨has, eT, hcc, hss⟩)
  dsimp only [Pt.U, Pt.locs, Pt.cells, Pt.slots] at X' e1 e2 e3 st hQ
  subst e1 e2 e3
  exact ⟨v, T', L, X', hQ, fun t k => st.trans k⟩
theorem callC (X : Stand p l e R s m args below meth c T locs cells slots) (hx : p.tables.exec = Jvm.exec) (hZ : Z.Warmed39 s.vm) {own : String} {index : Nat} {y : MethodName} (hown : s.vm.findClass own = some m.cls) {bytes : ByteArray} {maxL : Nat} {ret : Option FieldType} {rm : Room}
    (w1 : (Cond.methodLink own index y).before a0 Z = true) (w2 : (Cond.static y).before a0 Z = true) (w3 : (Cond.code y bytes maxL ret).before a0 Z = true) (w4 : (Cond.initialized y.cls).before a0 Z = true) (hy : y.cls ≠ "java/lang/invoke/MethodHandle" ∧ y.cls ≠ "java/lang/invoke/VarHandle")
    (eT : T.heap = h) {argsL rest : List Value} {as' : Array Value} {Q : Option Value → Heap → List Loc → Prop} {W : Nat} (hM : Does l y bytes maxL ret [] rm Z as' h Q) (has : argsL.toArray = as') (hf : rm.frames + 1 ≤ R.frames) (hl : W + (maxL + 11) + rm.locals ≤ R.locals)
    (hcc : cells + rm.cells ≤ R.cells) (hss : slots + rm.slots ≤ R.slots) {g : JFrame} (hg : g.method = m) (hsize : g.locals.size = c.maxLocals) (hlen : ∀ sig, parseMethodDescriptor y.desc = some sig → argsL.length = sig.parameters.length) (hst : g.stack = argsL.reverse ++ rest) (hW : 2 * g.monitorRoom + (rest.map fun v => v.category).sum ≤ W) (hd : decode c.code g.pc = .ok (.invokestatic index, 3)) :
    ∃ v T' L, Stand p l e R s m args below meth c T' (locs ++ L) (cells + rm.cells) (slots + rm.slots) ∧ Q v T'.heap L ∧ ∀ target, Steps p.tables e below (T'.setTop { g with pc := g.pc + 3, stack := v.toList ++ rest }) target → Steps p.tables e below (T.setTop g) target := by
  obtain ⟨v, vm1, ⟨T', L', k', n'⟩, -, X', ⟨L, hQ, e1, e2, e3⟩, st⟩ := Jvm.LawKit.callS X hx (y := y) hown (mvT hZ w1) (mvT hZ w2) (mvT hZ w4) (mvT hZ w3) hy (backOf (W := W) hM hZ w3 w4 hf hl) hg hsize hlen hst hW hd (fun _ _ => ⟨has, eT, hcc, hss⟩)
  dsimp only [Pt.U, Pt.locs, Pt.cells, Pt.slots] at X' e1 e2 e3 st hQ
  subst e1 e2 e3
  exact ⟨v, T', L, X', hQ, st⟩
end Own
end Jvm.RoadKit
namespace Jvm.Free.XS
open Sem ClassFile Op Lib
theorem lcmpS {tb : Tables} [Ours tb] {e : Env} {below : List Frame} {T target : State} {m : MethodId} {c : Code} {g : JFrame} (h : At T m c below) (hx : tb.exec = Jvm.exec) (hg : g.method = m) {x y : Int64} {v : Int32} {rest : List Value} (hd : decode c.code g.pc = .ok (.lcmp, 1)) (hs : g.stack = .long y :: .long x :: rest) (hv : Jvm.RoadKit.lcmpW x y = v)
    (hr : Steps tb e below (T.setTop { g with pc := g.pc + 1, stack := .int v :: rest }) target) : Steps tb e below (T.setTop g) target := by
  subst hv
  exact lcmp h hx hg hd hs hr
end Jvm.Free.XS
namespace Jvm.RoadKit
open Sem ClassFile Op Lib Jvm.Stand Jvm.Free Jvm.LawKit Jvm.FP Jvm.Free.Fl
section OwnD
theorem own_cmp (i j : Int) : compare i j = if i < j then Ordering.lt else if i = j then Ordering.eq else Ordering.gt := rfl
theorem cmpL_lt {x y : Int64} (h : x < y) : lcmpW x y = -1 := by
  have h' := Int64.lt_iff_toInt_lt.mp h
  show (if y < x then (1 : Int32) else if x = y then 0 else -1) = -1
  rw [if_neg (fun q => by have := Int64.lt_iff_toInt_lt.mp q; omega), if_neg (fun q => by rw [q] at h'; omega)]
theorem cmpL_eq {x y : Int64} (h : x = y) : lcmpW x y = 0 := by
  subst h
  show (if x < x then (1 : Int32) else if x = x then 0 else -1) = 0
  rw [if_neg (fun q => by have := Int64.lt_iff_toInt_lt.mp q; omega), if_pos rfl]
theorem cmpL_gt {x y : Int64} (h : y < x) : lcmpW x y = 1 := by
  show (if y < x then (1 : Int32) else if x = y then 0 else -1) = 1
  rw [if_pos h]
theorem DInt_nn {i : Int} {x : UInt64} (h : Core.DInt i x) : NoNaN64 x := val64_no.mpr (Core.DInt_ne_nan h)
theorem DInt_fin {i : Int} {x : UInt64} (h : Core.DInt i x) : Fin64 x := fin64_core.mpr (by
  have h' : Core.Whole i (Core.val64 x) := h
  cases q : Core.val64 x with
  | nan => rw [q] at h'; exact h'.elim
  | inf s => rw [q] at h'; exact h'.elim
  | fin s c e => exact ⟨s, c, e, q⟩)
theorem cmpD_lt {i j : Int} {x y : UInt64} (hx : Core.DInt i x) (hy : Core.DInt j y) (h : i < j) (o : CmpOp) : cmpValue (FP.dcmp x y) o = -1 := by
  rw [show FP.dcmp x y = _ from Core.dcmp_int hx hy, own_cmp, if_pos h]; rfl
theorem cmpD_eq {i j : Int} {x y : UInt64} (hx : Core.DInt i x) (hy : Core.DInt j y) (h : i = j) (o : CmpOp) : cmpValue (FP.dcmp x y) o = 0 := by
  rw [show FP.dcmp x y = _ from Core.dcmp_int hx hy, own_cmp, if_neg (by omega), if_pos h]; rfl
theorem cmpD_gt {i j : Int} {x y : UInt64} (hx : Core.DInt i x) (hy : Core.DInt j y) (h : j < i) (o : CmpOp) : cmpValue (FP.dcmp x y) o = 1 := by
  rw [show FP.dcmp x y = _ from Core.dcmp_int hx hy, own_cmp, if_neg (by omega), if_neg (by omega)]; rfl
theorem DInt_zero : Core.DInt 0 0 := by
  have h := Core.l2d_int (a := 0) (by decide)
  rw [show Core.l2d 0 = 0 from l2d_zero] at h
  exact h
theorem DInt_i2d {x : Int32} {d : UInt64} (q : FP.i2d x = d) : Core.DInt x.toInt d := q ▸ Core.i2d_int x
theorem DInt_l2d {x : Int64} {d : UInt64} (q : FP.l2d x = d) (h : x.toInt.natAbs ≤ 2 ^ 53) : Core.DInt x.toInt d := q ▸ Core.l2d_int h
theorem DInt_add {i j : Int} {a b d : UInt64} (q : FP.dadd a b = d) (ha : Core.DInt i a) (hb : Core.DInt j b) (h : (i + j).natAbs ≤ 2 ^ 53) : Core.DInt (i + j) d := q ▸ Core.dadd_int ha hb h
theorem DInt_sub {i j : Int} {a b d : UInt64} (q : FP.dsub a b = d) (ha : Core.DInt i a) (hb : Core.DInt j b) (h : (i - j).natAbs ≤ 2 ^ 53) : Core.DInt (i - j) d := q ▸ Core.dsub_int ha hb h
theorem DInt_mul {i j : Int} {a b d : UInt64} (q : FP.dmul a b = d) (ha : Core.DInt i a) (hb : Core.DInt j b) (h : (i * j).natAbs ≤ 2 ^ 53) : Core.DInt (i * j) d := q ▸ Core.dmul_int ha hb h
end OwnD
/-! an array by the list of its values -/
def Sar (Z : State) (h : Heap) (a : Addr) (ty : FieldType) (vs : List Value) : Prop := ∃ c : Cell, Arr Z h a c ty ∧ c.slots = vs.toArray
section OwnA
variable {p : Program} {l : Launch} {e : Env} {R : Room} {s : State} {m : MethodId} {args : Array Value} {below : List Frame} {meth : Method} {c : Code} {T : State} {locs : List Loc} {cells slots : Nat} {Z : State} {a0 : Array Value} {h h' : Heap} {a b : Addr} {ty : FieldType} {vs : List Value} {sl : Nat} {v : Value} {ws : List Addr}
theorem Sar.lt (F : Sar Z h a ty vs) : a < h.size := by obtain ⟨c, A, -⟩ := F; exact A.lt
theorem Sar.ext (F : Sar Z h a ty vs) (E : Ext h h') : Sar Z h' a ty vs := by obtain ⟨c, A, r⟩ := F; exact ⟨c, A.ext E, r⟩
theorem Sar.other (F : Sar Z h b ty vs) (W : Wr h h' a sl v) (q : b ≠ a) : Sar Z h' b ty vs := by obtain ⟨c, A, r⟩ := F; exact ⟨c, A.other W q, r⟩
theorem Sar.keep (F : Sar Z h a ty vs) (K : Keep h h' ws) (q : a ∉ ws) : Sar Z h' a ty vs := by obtain ⟨c, A, r⟩ := F; exact ⟨c, ⟨K.2.1 a c A.1 q, A.2⟩, r⟩
theorem Sar.new {k : ClassId} {z : Int32} {n : Nat} (A : Arr Z h a (newA k ty z) ty) (hn : z.toNatClampNeg = n) : Sar Z h a ty (List.replicate n (defaultValue ty)) := ⟨_, A, by subst hn; show Array.replicate _ _ = _; simp⟩
theorem Sar.in {cl : Cell} {j : Int32} {i : Nat} (S : cl.slots = vs.toArray) (hj : j.toInt = i) (hi : i < vs.length) : ¬ (j < 0 ∨ cl.slots.size ≤ j.toNatClampNeg) := by
  rw [S]
  have q : j.toNatClampNeg = i := by show j.toInt.toNat = i; omega
  have r : ¬ j < 0 := fun z => by have z' := Int32.lt_iff_toInt_lt.mp z; rw [hj] at z'; simp at z'; omega
  rw [q]
  simp only [List.size_toArray]
  intro z
  rcases z with z | z
  · exact r z
  · omega
theorem Sar.nat {j : Int32} {i : Nat} (hj : j.toInt = i) : j.toNatClampNeg = i := by show j.toInt.toNat = i; omega
theorem stDS (X : Stand p l e R s m args below meth c T locs cells slots) (hx : p.tables.exec = Jvm.exec) (hZ : Z.Warmed39 s.vm) (eT : T.heap = h) (V : Sar Z h a .double vs) {j : Int32} {x : UInt64} (i : Nat) (hj : j.toInt = i) (hi : i < vs.length) {g : JFrame} (hg : g.method = m) {rest : List Value} (hs : g.stack = .double x :: .int j :: .ref a :: rest) (hd : decode c.code g.pc = .ok (.dastore, 1)) :
    ∃ T' h', Stand p l e R s m args below meth c T' (locs ++ [⟨a, i⟩]) cells slots ∧ T'.heap = h' ∧ Wr h h' a i (.double x) ∧ Sar Z h' a .double (vs.set i (.double x)) ∧ ∀ target, Steps p.tables e below (T'.setTop { g with pc := g.pc + 1, stack := rest }) target → Steps p.tables e below (T.setTop g) target := by
  obtain ⟨cl, A, S⟩ := V
  obtain ⟨T', h', X', e', W, st⟩ := stD X hx hZ eT A (Sar.in S hj hi) hg hs hd
  rw [Sar.nat hj] at X' W
  exact ⟨T', h', X', e', W, ⟨_, A.same W, by show cl.slots.setIfInBounds _ _ = _; rw [S]; simp⟩, st⟩
theorem stIS (X : Stand p l e R s m args below meth c T locs cells slots) (hx : p.tables.exec = Jvm.exec) (hZ : Z.Warmed39 s.vm) (eT : T.heap = h) (V : Sar Z h a .int vs) {j : Int32} {x : Int32} (i : Nat) (hj : j.toInt = i) (hi : i < vs.length) {g : JFrame} (hg : g.method = m) {rest : List Value} (hs : g.stack = .int x :: .int j :: .ref a :: rest) (hd : decode c.code g.pc = .ok (.iastore, 1)) :
    ∃ T' h', Stand p l e R s m args below meth c T' (locs ++ [⟨a, i⟩]) cells slots ∧ T'.heap = h' ∧ Wr h h' a i (.int x) ∧ Sar Z h' a .int (vs.set i (.int x)) ∧ ∀ target, Steps p.tables e below (T'.setTop { g with pc := g.pc + 1, stack := rest }) target → Steps p.tables e below (T.setTop g) target := by
  obtain ⟨cl, A, S⟩ := V
  obtain ⟨T', h', X', e', W, st⟩ := stI X hx hZ eT A (Sar.in S hj hi) hg hs hd
  rw [Sar.nat hj] at X' W
  exact ⟨T', h', X', e', W, ⟨_, A.same W, by show cl.slots.setIfInBounds _ _ = _; rw [S]; simp⟩, st⟩
theorem ldDS (X : Stand p l e R s m args below meth c T locs cells slots) (hx : p.tables.exec = Jvm.exec) (hZ : Z.Warmed39 s.vm) (eT : T.heap = h) (V : Sar Z h a .double vs) {j : Int32} (i : Nat) (hj : j.toInt = i) (hv : vs[i]? = some v) {g : JFrame} (hg : g.method = m) {rest : List Value} (hs : g.stack = .int j :: .ref a :: rest) (hd : decode c.code g.pc = .ok (.daload, 1)) :
    ∀ target, Steps p.tables e below (T.setTop { g with pc := g.pc + 1, stack := v :: rest }) target → Steps p.tables e below (T.setTop g) target := by
  obtain ⟨cl, A, S⟩ := V
  have hi : i < vs.length := (List.getElem?_eq_some_iff.mp hv).1
  exact X.daload hx (by rw [eT]; exact A.1) (State.isArrayOf_alike hZ.alike A.2.1) A.2.2 (Sar.in S hj hi) (by rw [S, Sar.nat hj]; simpa using hv) hg hs hd
theorem ldIS (X : Stand p l e R s m args below meth c T locs cells slots) (hx : p.tables.exec = Jvm.exec) (hZ : Z.Warmed39 s.vm) (eT : T.heap = h) (V : Sar Z h a .int vs) {j : Int32} (i : Nat) (hj : j.toInt = i) (hv : vs[i]? = some v) {g : JFrame} (hg : g.method = m) {rest : List Value} (hs : g.stack = .int j :: .ref a :: rest) (hd : decode c.code g.pc = .ok (.iaload, 1)) :
    ∀ target, Steps p.tables e below (T.setTop { g with pc := g.pc + 1, stack := v :: rest }) target → Steps p.tables e below (T.setTop g) target := by
  obtain ⟨cl, A, S⟩ := V
  have hi : i < vs.length := (List.getElem?_eq_some_iff.mp hv).1
  exact X.iaload hx (by rw [eT]; exact A.1) (State.isArrayOf_alike hZ.alike A.2.1) A.2.2 (Sar.in S hj hi) (by rw [S, Sar.nat hj]; simpa using hv) hg hs hd
theorem lenS (X : Stand p l e R s m args below meth c T locs cells slots) (hx : p.tables.exec = Jvm.exec) (hZ : Z.Warmed39 s.vm) (eT : T.heap = h) (V : Sar Z h a ty vs) {n : Int32} (hn : vs.length.toInt32 = n) {g : JFrame} (hg : g.method = m) {rest : List Value} (hs : g.stack = .ref a :: rest) (hd : decode c.code g.pc = .ok (.arraylength, 1)) :
    ∀ target, Steps p.tables e below (T.setTop { g with pc := g.pc + 1, stack := .int n :: rest }) target → Steps p.tables e below (T.setTop g) target := by
  obtain ⟨cl, A, S⟩ := V
  intro target k
  refine X.arraylength hx (by rw [eT]; exact A.1) (State.isArrayOf_alike hZ.alike A.2.1) hg hs hd target ?_
  rw [S]
  simp only [List.size_toArray, hn]
  exact k
end OwnA
end Jvm.RoadKit
namespace Jvm.RoadKit
open Jvm.FP Jvm.Free.Fl
theorem DInt_nz {i : Int} {x : UInt64} (h : Core.DInt i x) (hi : i ≠ 0) : Nz64 x := nz64_core.mpr fun z => by
  obtain ⟨s, q, e⟩ := z
  have h' : Core.Whole i (Core.val64 x) := h
  rw [e] at h'
  exact hi ((Core.whole_zero h').mp rfl)
theorem DInt_one : Core.DInt 1 4607182418800017408 := Core.dint_one
end Jvm.RoadKit
namespace Jvm.RoadKit
open Jvm.FP Jvm.Free.Fl Op
theorem cmpD_le {i j : Int} {x y : UInt64} (hx : Core.DInt i x) (hy : Core.DInt j y) (h : i ≤ j) (o : ClassFile.CmpOp) : ∃ v : Int32, cmpValue (FP.dcmp x y) o = v ∧ ¬ (0 : Int32) < v := by
  by_cases q : i < j
  · exact ⟨-1, cmpD_lt hx hy q o, by decide⟩
  · exact ⟨0, cmpD_eq hx hy (by omega) o, by decide⟩
theorem cmpD_ge {i j : Int} {x y : UInt64} (hx : Core.DInt i x) (hy : Core.DInt j y) (h : j ≤ i) (o : ClassFile.CmpOp) : ∃ v : Int32, cmpValue (FP.dcmp x y) o = v ∧ ¬ v < (0 : Int32) := by
  by_cases q : j < i
  · exact ⟨1, cmpD_gt hx hy q o, by decide⟩
  · exact ⟨0, cmpD_eq hx hy (by omega) o, by decide⟩
end Jvm.RoadKit
namespace Jvm.RoadKit
open Jvm.Free
theorem cmpL_le {x y : Int64} (h : ¬ y.toInt < x.toInt) : ∃ v : Int32, lcmpW x y = v ∧ ¬ (0 : Int32) < v := by
  by_cases q : x.toInt < y.toInt
  · exact ⟨-1, cmpL_lt (Int64.lt_iff_toInt_lt.mpr q), by decide⟩
  · exact ⟨0, cmpL_eq (Int64.toInt_inj.mp (by omega)), by decide⟩
theorem cmpL_gtI {x y : Int64} (h : y.toInt < x.toInt) : lcmpW x y = 1 := cmpL_gt (Int64.lt_iff_toInt_lt.mpr h)
end Jvm.RoadKit
namespace Jvm.RoadKit
open Jvm.Free
theorem cmpL_ge {x y : Int64} (h : ¬ x.toInt < y.toInt) : ∃ v : Int32, lcmpW x y = v ∧ ¬ v < (0 : Int32) := by
  by_cases q : y.toInt < x.toInt
  · exact ⟨1, cmpL_gtI q, by decide⟩
  · exact ⟨0, cmpL_eq (Int64.toInt_inj.mp (by omega)), by decide⟩
end Jvm.RoadKit
namespace Jvm.RoadKit
section OwnN
theorem own_mb {i j : Int} {A B : Nat} (hi : i.natAbs ≤ A) (hj : j.natAbs ≤ B) : (i * j).natAbs ≤ A * B := by rw [Int.natAbs_mul]; exact Nat.mul_le_mul hi hj
theorem own_mb2 {i j : Int} {A B : Nat} (hi : -(A : Int) ≤ i ∧ i ≤ A) (hj : -(B : Int) ≤ j ∧ j ≤ B) : -((A * B : Nat) : Int) ≤ i * j ∧ i * j ≤ ((A * B : Nat) : Int) := by
  have h := own_mb (i := i) (j := j) (A := A) (B := B) (by omega) (by omega)
  omega
theorem own_ladd {a b : Int64} (h1 : -9223372036854775808 ≤ a.toInt + b.toInt) (h2 : a.toInt + b.toInt < 9223372036854775808) : (a + b).toInt = a.toInt + b.toInt := by
  have := c_ladd a b; have := rng64 (a + b); omega
theorem own_lsub {a b : Int64} (h1 : -9223372036854775808 ≤ a.toInt - b.toInt) (h2 : a.toInt - b.toInt < 9223372036854775808) : (a - b).toInt = a.toInt - b.toInt := by
  have := c_lsub a b; have := rng64 (a - b); omega
theorem own_lmul {a b : Int64} (h : (a.toInt * b.toInt).natAbs < 9223372036854775808) : (a * b).toInt = a.toInt * b.toInt := by
  have := c_lmul a b; have := rng64 (a * b); omega
theorem own_short (x : Int32) : (x.toInt16.toInt32).toInt.natAbs ≤ 32768 := by
  have := c_i2s x; omega
theorem own_and3 (x : Int32) : (x &&& 3) = 0 ∨ (x &&& 3) = 1 ∨ (x &&& 3) = 2 ∨ (x &&& 3) = 3 := by
  have h := c_and x 3 (by decide)
  have e : (3 : Int32).toInt = 3 := by decide
  simp only [← Int32.toInt_inj]
  rw [show (0 : Int32).toInt = 0 from by decide, show (1 : Int32).toInt = 1 from by decide, show (2 : Int32).toInt = 2 from by decide, e]
  omega
end OwnN
end Jvm.RoadKit
namespace Jvm.Pilot.@@N@@
open Jvm Jvm.ClassFile Sem Op Lib Jvm.Free Jvm.Stand Jvm.LawKit Jvm.RoadKit Jvm.FP Jvm.Free.Fl Bundle Jvm.Pilot.@@N@@.Jvm.D
def own_part (v : Int64) (i : Int32) : Int64 := (v >>> (((16 : Int32) * i) &&& 0x3f).toInt64).toInt32.toInt16.toInt32.toInt64
theorem own_part_bd (v : Int64) (i : Int32) : (own_part v i).toInt.natAbs ≤ 32768 := by
  show (((v >>> (((16 : Int32) * i) &&& 0x3f).toInt64).toInt32.toInt16.toInt32).toInt64).toInt.natAbs ≤ 32768
  rw [c_i2l]; exact own_short _
theorem d4_0 : decode method_2_code 0 = .ok (.lload_n 0, 1) := by decide +kernel
theorem d4_1 : decode method_2_code 1 = .ok (.bipush 16, 2) := by decide +kernel
theorem d4_3 : decode method_2_code 3 = .ok (.iload_n 2, 1) := by decide +kernel
theorem d4_4 : decode method_2_code 4 = .ok (.imul, 1) := by decide +kernel
theorem d4_5 : decode method_2_code 5 = .ok (.lshr, 1) := by decide +kernel
theorem d4_6 : decode method_2_code 6 = .ok (.l2i, 1) := by decide +kernel
theorem d4_7 : decode method_2_code 7 = .ok (.i2s, 1) := by decide +kernel
theorem d4_8 : decode method_2_code 8 = .ok (.i2l, 1) := by decide +kernel
theorem d4_9 : decode method_2_code 9 = .ok (.lreturn, 1) := by decide +kernel
theorem pn0 : plainName "com/example/adhoq/adhoq/VectorsAddTimesPinLaw" = true := by first | (simp [plainName, overriddenIn]; done) | decide +kernel
theorem pd0 : parseMethodDescriptor "(JI)J" = some ⟨[.long, .int], some .long⟩ := by decide +kernel
theorem ef_rm_part (m : MethodId) (x0 : Int64) (x1 : Int32) : entryFrame m #[(.long x0), (.int x1)] 3 = mkF m 0 #[.val (.long x0), .second, .val (.int x1)] [] := by first | (simp [entryFrame, mkF, argsToLocals, Value.category, maxLocals]; done) | rfl
set_option maxRecDepth 65536 in
set_option maxHeartbeats 40000000 in
theorem rm_part (l : Launch) (Z : State) (a0 : Array Value) (hw : ∀ d ∈ tables_1, d.before a0 Z = true) (y : Int64) (i : Int32) (h0 : Heap) (n0 : Nat) (Z0 : n0 ≤ h0.size)  :
    Does l (⟨"com/example/adhoq/adhoq/VectorsAddTimesPinLaw", "part", "(JI)J"⟩ : MethodName) method_2_code 3 (some .long) [] ({ frames := 0, cells := 0, slots := 0, locals := 0 } : Room) Z #[(.long y), (.int i)] h0 (fun v h L => v = some (.long (own_part y i)) ∧ Fr n0 L ∧ h = h0) := by
  refine Does.of (plainFor_of_name pn0) ?_
  intro p e s m below meth c s₁ hx hby hml hret hlk hZ hown hnm X0 e0
  have N0 := Fr.nil n0
  refine Goes.cast (g' := mkF m 0 #[.val (.long y), .second, .val (.int i)] []) (ef_rm_part m y i) ?_
  refine Goes.by (T' := s₁) (g' := (mkF m 1 #[.val (.long y), .second, .val (.int i)] [(.long y)])) (fun _ k => XS.lloadN X0.here hx rfl (hb hby d4_0) rfl k) ?_
  refine Goes.by (T' := s₁) (g' := (mkF m 3 #[.val (.long y), .second, .val (.int i)] [(.int (16 : Int32)), (.long y)])) (fun _ k => XS.bipush X0.here hx rfl (hb hby d4_1)  k) ?_
  refine Goes.by (T' := s₁) (g' := (mkF m 4 #[.val (.long y), .second, .val (.int i)] [(.int i), (.int (16 : Int32)), (.long y)])) (fun _ k => XS.iloadN X0.here hx rfl (hb hby d4_3) rfl k) ?_
  refine Goes.by (T' := s₁) (g' := (mkF m 5 #[.val (.long y), .second, .val (.int i)] [(.int ((16 : Int32) * i)), (.long y)])) (fun _ k => XS.imul X0.here hx rfl (hb hby d4_4) rfl k) ?_
  refine Goes.by (T' := s₁) (g' := (mkF m 6 #[.val (.long y), .second, .val (.int i)] [(.long (y >>> (((16 : Int32) * i) &&& 0x3f).toInt64))])) (fun _ k => XS.lshr X0.here hx rfl (hb hby d4_5) rfl k) ?_
  refine Goes.by (T' := s₁) (g' := (mkF m 7 #[.val (.long y), .second, .val (.int i)] [(.int (((y >>> (((16 : Int32) * i) &&& 0x3f).toInt64)).toInt32))])) (fun _ k => XS.l2i X0.here hx rfl (hb hby d4_6) rfl k) ?_
  refine Goes.by (T' := s₁) (g' := (mkF m 8 #[.val (.long y), .second, .val (.int i)] [(.int (((((y >>> (((16 : Int32) * i) &&& 0x3f).toInt64)).toInt32)).toInt16.toInt32))])) (fun _ k => XS.i2s X0.here hx rfl (hb hby d4_7) rfl k) ?_
  refine Goes.by (T' := s₁) (g' := (mkF m 9 #[.val (.long y), .second, .val (.int i)] [(.long (((((((y >>> (((16 : Int32) * i) &&& 0x3f).toInt64)).toInt32)).toInt16.toInt32)).toInt64))])) (fun _ k => XS.i2l X0.here hx rfl (hb hby d4_8) rfl k) ?_
  exact outJ X0 hx hlk hret (hb hby d4_9) (by rw [e0]; exact ⟨rfl, N0, rfl⟩) (by decide) (by decide)
theorem d1_0 : decode method_3_code 0 = .ok (.iload_n 2, 1) := by decide +kernel
theorem d1_1 : decode method_3_code 1 = .ok (.newarray .double, 2) := by decide +kernel
theorem d1_3 : decode method_3_code 3 = .ok (.astore_n 3, 1) := by decide +kernel
theorem d1_4 : decode method_3_code 4 = .ok (.iload_n 2, 1) := by decide +kernel
theorem d1_5 : decode method_3_code 5 = .ok (.ifCond .le 12, 3) := by decide +kernel
theorem d1_8 : decode method_3_code 8 = .ok (.aload_n 3, 1) := by decide +kernel
theorem d1_9 : decode method_3_code 9 = .ok (.iconst 0, 1) := by decide +kernel
theorem d1_10 : decode method_3_code 10 = .ok (.lload_n 0, 1) := by decide +kernel
theorem d1_11 : decode method_3_code 11 = .ok (.iconst 0, 1) := by decide +kernel
theorem d1_12 : decode method_3_code 12 = .ok (.invokestatic 7, 3) := by decide +kernel
theorem d1_15 : decode method_3_code 15 = .ok (.l2d, 1) := by decide +kernel
theorem d1_16 : decode method_3_code 16 = .ok (.dastore, 1) := by decide +kernel
theorem d1_17 : decode method_3_code 17 = .ok (.iload_n 2, 1) := by decide +kernel
theorem d1_18 : decode method_3_code 18 = .ok (.iconst 1, 1) := by decide +kernel
theorem d1_19 : decode method_3_code 19 = .ok (.if_icmp .le 12, 3) := by decide +kernel
theorem d1_22 : decode method_3_code 22 = .ok (.aload_n 3, 1) := by decide +kernel
theorem d1_23 : decode method_3_code 23 = .ok (.iconst 1, 1) := by decide +kernel
theorem d1_24 : decode method_3_code 24 = .ok (.lload_n 0, 1) := by decide +kernel
theorem d1_25 : decode method_3_code 25 = .ok (.iconst 1, 1) := by decide +kernel
theorem d1_26 : decode method_3_code 26 = .ok (.invokestatic 7, 3) := by decide +kernel
theorem d1_29 : decode method_3_code 29 = .ok (.l2d, 1) := by decide +kernel
theorem d1_30 : decode method_3_code 30 = .ok (.dastore, 1) := by decide +kernel
theorem d1_31 : decode method_3_code 31 = .ok (.iload_n 2, 1) := by decide +kernel
theorem d1_32 : decode method_3_code 32 = .ok (.iconst 2, 1) := by decide +kernel
theorem d1_33 : decode method_3_code 33 = .ok (.if_icmp .le 12, 3) := by decide +kernel
theorem d1_36 : decode method_3_code 36 = .ok (.aload_n 3, 1) := by decide +kernel
theorem d1_37 : decode method_3_code 37 = .ok (.iconst 2, 1) := by decide +kernel
theorem d1_38 : decode method_3_code 38 = .ok (.lload_n 0, 1) := by decide +kernel
theorem d1_39 : decode method_3_code 39 = .ok (.iconst 2, 1) := by decide +kernel
theorem d1_40 : decode method_3_code 40 = .ok (.invokestatic 7, 3) := by decide +kernel
theorem d1_43 : decode method_3_code 43 = .ok (.l2d, 1) := by decide +kernel
theorem d1_44 : decode method_3_code 44 = .ok (.dastore, 1) := by decide +kernel
theorem d1_45 : decode method_3_code 45 = .ok (.aload_n 3, 1) := by decide +kernel
theorem d1_46 : decode method_3_code 46 = .ok (.areturn, 1) := by decide +kernel
theorem pd1 : parseMethodDescriptor "(JI)[D" = some ⟨[.long, .int], some (.array .double)⟩ := by decide +kernel
theorem ef_rm_make0 (m : MethodId) (x0 : Int64) (x1 : Int32) : entryFrame m #[(.long x0), (.int x1)] 4 = mkF m 0 #[.val (.long x0), .second, .val (.int x1), .unset] [] := by first | (simp [entryFrame, mkF, argsToLocals, Value.category, maxLocals]; done) | rfl
set_option maxRecDepth 65536 in
set_option maxHeartbeats 40000000 in
theorem rm_make0 (l : Launch) (Z : State) (a0 : Array Value) (hw : ∀ d ∈ tables_1, d.before a0 Z = true) (y : Int64) (h0 : Heap) (n0 : Nat) (Z0 : n0 ≤ h0.size)  :
    Does l (⟨"com/example/adhoq/adhoq/VectorsAddTimesPinLaw", "make", "(JI)[D"⟩ : MethodName) method_3_code 4 (some (.array .double)) [] ({ frames := 0, cells := 1, slots := 0, locals := 0 } : Room) Z #[(.long y), (.int (0 : Int32))] h0 (fun v h L => ∃ r, v = some (.ref r) ∧ h0.size ≤ r ∧ Sar Z h r .double [] ∧ Keep h0 h [] ∧ Fr n0 L) := by
  refine Does.of (plainFor_of_name pn0) ?_
  intro p e s m below meth c s₁ hx hby hml hret hlk hZ hown hnm X0 e0
  have N0 := Fr.nil n0
  refine Goes.cast (g' := mkF m 0 #[.val (.long y), .second, .val (.int (0 : Int32)), .unset] []) (ef_rm_make0 m y (0 : Int32)) ?_
  have K0 := Keep.refl h0 []
  refine Goes.by (T' := s₁) (g' := (mkF m 1 #[.val (.long y), .second, .val (.int (0 : Int32)), .unset] [(.int (0 : Int32))])) (fun _ k => XS.iloadN X0.here hx rfl (hb hby d1_0) rfl k) ?_
  obtain ⟨T1, h1, k1, X1, e1, E1, A1, st1⟩ := newP X0 hx hZ (hw _ (List.mem_of_getElem? (i := 4) rfl)) e0 (g := (mkF m 1 #[.val (.long y), .second, .val (.int (0 : Int32)), .unset] [(.int (0 : Int32))])) rfl (hb hby d1_1) rfl (by decide) (cap := 0) (by decide) (by decide) (by decide) (by decide)
  obtain ⟨r, g1⟩ : ∃ z, z = h0.size := ⟨_, rfl⟩
  rw [← g1] at A1 st1
  have ge_r : n0 ≤ r := Nat.le_trans Z0 (Nat.le_of_eq g1.symm)
  have sz_r : h0.size ≤ r := Nat.le_trans K0.1 (Nat.le_of_eq g1.symm)
  have Z0 := Nat.le_trans Z0 E1.1
  have K0 := K0.ext E1
  have V_r : Sar Z h1 r .double [] := Sar.new (n := 0) A1 (by decide)
  refine Goes.by (T' := T1) (g' := (mkF m 3 #[.val (.long y), .second, .val (.int (0 : Int32)), .unset] [(.ref r)])) st1 ?_
  refine Goes.by (T' := T1) (g' := (mkF m 4 #[.val (.long y), .second, .val (.int (0 : Int32)), .val (.ref r)] [])) (fun _ k => XS.astoreN X1.here hx rfl (hb hby d1_3) rfl rfl (l' := #[.val (.long y), .second, .val (.int (0 : Int32)), .val (.ref r)]) rfl k) ?_
  refine Goes.by (T' := T1) (g' := (mkF m 5 #[.val (.long y), .second, .val (.int (0 : Int32)), .val (.ref r)] [(.int (0 : Int32))])) (fun _ k => XS.iloadN X1.here hx rfl (hb hby d1_4) rfl k) ?_
  refine Goes.by (T' := T1) (g' := (mkF m 17 #[.val (.long y), .second, .val (.int (0 : Int32)), .val (.ref r)] [])) (fun _ k => XS.ifYes X1.here hx rfl (pc0 := 5) (pc' := 17) rfl (hb hby d1_5) rfl (by decide) (by decide) (by decide) k) ?_
  refine Goes.by (T' := T1) (g' := (mkF m 18 #[.val (.long y), .second, .val (.int (0 : Int32)), .val (.ref r)] [(.int (0 : Int32))])) (fun _ k => XS.iloadN X1.here hx rfl (hb hby d1_17) rfl k) ?_
  refine Goes.by (T' := T1) (g' := (mkF m 19 #[.val (.long y), .second, .val (.int (0 : Int32)), .val (.ref r)] [(.int (1 : Int32)), (.int (0 : Int32))])) (fun _ k => XS.iconst X1.here hx rfl (hb hby d1_18)  k) ?_
  refine Goes.by (T' := T1) (g' := (mkF m 31 #[.val (.long y), .second, .val (.int (0 : Int32)), .val (.ref r)] [])) (fun _ k => XS.icmpYes X1.here hx rfl (pc0 := 19) (pc' := 31) rfl (hb hby d1_19) rfl (by decide) (by decide) (by decide) k) ?_
  refine Goes.by (T' := T1) (g' := (mkF m 32 #[.val (.long y), .second, .val (.int (0 : Int32)), .val (.ref r)] [(.int (0 : Int32))])) (fun _ k => XS.iloadN X1.here hx rfl (hb hby d1_31) rfl k) ?_
  refine Goes.by (T' := T1) (g' := (mkF m 33 #[.val (.long y), .second, .val (.int (0 : Int32)), .val (.ref r)] [(.int (2 : Int32)), (.int (0 : Int32))])) (fun _ k => XS.iconst X1.here hx rfl (hb hby d1_32)  k) ?_
  refine Goes.by (T' := T1) (g' := (mkF m 45 #[.val (.long y), .second, .val (.int (0 : Int32)), .val (.ref r)] [])) (fun _ k => XS.icmpYes X1.here hx rfl (pc0 := 33) (pc' := 45) rfl (hb hby d1_33) rfl (by decide) (by decide) (by decide) k) ?_
  refine Goes.by (T' := T1) (g' := (mkF m 46 #[.val (.long y), .second, .val (.int (0 : Int32)), .val (.ref r)] [(.ref r)])) (fun _ k => XS.aloadN X1.here hx rfl (hb hby d1_45) rfl rfl k) ?_
  exact outA X1 hx hlk hret rfl rfl rfl (hb hby d1_46) (by rw [e1]; exact ⟨_, rfl, sz_r, V_r, K0, N0⟩) (by decide) (by decide)
theorem ef_rm_make1 (m : MethodId) (x0 : Int64) (x1 : Int32) : entryFrame m #[(.long x0), (.int x1)] 4 = mkF m 0 #[.val (.long x0), .second, .val (.int x1), .unset] [] := by first | (simp [entryFrame, mkF, argsToLocals, Value.category, maxLocals]; done) | rfl
set_option maxRecDepth 65536 in
set_option maxHeartbeats 40000000 in
theorem rm_make1 (l : Launch) (Z : State) (a0 : Array Value) (hw : ∀ d ∈ tables_1, d.before a0 Z = true) (y : Int64) (h0 : Heap) (n0 : Nat) (Z0 : n0 ≤ h0.size)  :
    Does l (⟨"com/example/adhoq/adhoq/VectorsAddTimesPinLaw", "make", "(JI)[D"⟩ : MethodName) method_3_code 4 (some (.array .double)) [] ({ frames := 1, cells := 1, slots := 1, locals := 16 } : Room) Z #[(.long y), (.int (1 : Int32))] h0 (fun v h L => ∃ r, v = some (.ref r) ∧ h0.size ≤ r ∧ Sar Z h r .double [(.double (FP.l2d (own_part y (0 : Int32))))] ∧ Keep h0 h [] ∧ Fr n0 L) := by
  refine Does.of (plainFor_of_name pn0) ?_
  intro p e s m below meth c s₁ hx hby hml hret hlk hZ hown hnm X0 e0
  have N0 := Fr.nil n0
  refine Goes.cast (g' := mkF m 0 #[.val (.long y), .second, .val (.int (1 : Int32)), .unset] []) (ef_rm_make1 m y (1 : Int32)) ?_
  have K0 := Keep.refl h0 []
  refine Goes.by (T' := s₁) (g' := (mkF m 1 #[.val (.long y), .second, .val (.int (1 : Int32)), .unset] [(.int (1 : Int32))])) (fun _ k => XS.iloadN X0.here hx rfl (hb hby d1_0) rfl k) ?_
  obtain ⟨T2, h2, k2, X2, e2, E2, A2, st2⟩ := newP X0 hx hZ (hw _ (List.mem_of_getElem? (i := 4) rfl)) e0 (g := (mkF m 1 #[.val (.long y), .second, .val (.int (1 : Int32)), .unset] [(.int (1 : Int32))])) rfl (hb hby d1_1) rfl (by decide) (cap := 1) (by decide) (by decide) (by decide) (by decide)
  obtain ⟨r, g2⟩ : ∃ z, z = h0.size := ⟨_, rfl⟩
  rw [← g2] at A2 st2
  have ge_r : n0 ≤ r := Nat.le_trans Z0 (Nat.le_of_eq g2.symm)
  have sz_r : h0.size ≤ r := Nat.le_trans K0.1 (Nat.le_of_eq g2.symm)
  have Z0 := Nat.le_trans Z0 E2.1
  have K0 := K0.ext E2
  have V_r : Sar Z h2 r .double [(.double (0 : UInt64))] := Sar.new (n := 1) A2 (by decide)
  refine Goes.by (T' := T2) (g' := (mkF m 3 #[.val (.long y), .second, .val (.int (1 : Int32)), .unset] [(.ref r)])) st2 ?_
  refine Goes.by (T' := T2) (g' := (mkF m 4 #[.val (.long y), .second, .val (.int (1 : Int32)), .val (.ref r)] [])) (fun _ k => XS.astoreN X2.here hx rfl (hb hby d1_3) rfl rfl (l' := #[.val (.long y), .second, .val (.int (1 : Int32)), .val (.ref r)]) rfl k) ?_
  refine Goes.by (T' := T2) (g' := (mkF m 5 #[.val (.long y), .second, .val (.int (1 : Int32)), .val (.ref r)] [(.int (1 : Int32))])) (fun _ k => XS.iloadN X2.here hx rfl (hb hby d1_4) rfl k) ?_
  refine Goes.by (T' := T2) (g' := (mkF m 8 #[.val (.long y), .second, .val (.int (1 : Int32)), .val (.ref r)] [])) (fun _ k => XS.ifNo X2.here hx rfl (hb hby d1_5) rfl (by decide) k) ?_
  refine Goes.by (T' := T2) (g' := (mkF m 9 #[.val (.long y), .second, .val (.int (1 : Int32)), .val (.ref r)] [(.ref r)])) (fun _ k => XS.aloadN X2.here hx rfl (hb hby d1_8) rfl rfl k) ?_
  refine Goes.by (T' := T2) (g' := (mkF m 10 #[.val (.long y), .second, .val (.int (1 : Int32)), .val (.ref r)] [(.int (0 : Int32)), (.ref r)])) (fun _ k => XS.iconst X2.here hx rfl (hb hby d1_9)  k) ?_
  refine Goes.by (T' := T2) (g' := (mkF m 11 #[.val (.long y), .second, .val (.int (1 : Int32)), .val (.ref r)] [(.long y), (.int (0 : Int32)), (.ref r)])) (fun _ k => XS.lloadN X2.here hx rfl (hb hby d1_10) rfl k) ?_
  refine Goes.by (T' := T2) (g' := (mkF m 12 #[.val (.long y), .second, .val (.int (1 : Int32)), .val (.ref r)] [(.int (0 : Int32)), (.long y), (.int (0 : Int32)), (.ref r)])) (fun _ k => XS.iconst X2.here hx rfl (hb hby d1_11)  k) ?_
  obtain ⟨v3, T3, L3, X3, hQ3, st3⟩ := callC X2 hx hZ (y := (⟨"com/example/adhoq/adhoq/VectorsAddTimesPinLaw", "part", "(JI)J"⟩ : MethodName)) hown (hw _ (List.mem_of_getElem? (i := 12) rfl)) (hw _ (List.mem_of_getElem? (i := 13) rfl)) (hw _ (List.mem_of_getElem? (i := 14) rfl)) (hw _ (List.mem_of_getElem? (i := 2) rfl)) (by decide) e2 (argsL := [(.long y), (.int (0 : Int32))]) (rest := [(.int (0 : Int32)), (.ref r)]) (W := 2) (rm_part l Z a0 hw y (0 : Int32) h2 n0 Z0) rfl (by decide) (by decide) (by decide) (by decide) (g := (mkF m 12 #[.val (.long y), .second, .val (.int (1 : Int32)), .val (.ref r)] [(.int (0 : Int32)), (.long y), (.int (0 : Int32)), (.ref r)])) rfl (by rw [hml]; rfl) (lenOf pd0 rfl) rfl (by show 2 * 0 + _ ≤ _; exact Nat.le_of_eq rfl) (hb hby d1_12)
  obtain ⟨rfl, NL3, hk3⟩ := hQ3
  have N0 := Fr.app N0 NL3
  refine Goes.by (T' := T3) (g' := (mkF m 15 #[.val (.long y), .second, .val (.int (1 : Int32)), .val (.ref r)] [(.long (own_part y (0 : Int32))), (.int (0 : Int32)), (.ref r)])) st3 ?_
  obtain ⟨d0, q_d0⟩ : ∃ zz, FP.l2d (own_part y (0 : Int32)) = zz := ⟨_, rfl⟩
  refine Goes.by (T' := T3) (g' := (mkF m 16 #[.val (.long y), .second, .val (.int (1 : Int32)), .val (.ref r)] [(.double d0), (.int (0 : Int32)), (.ref r)])) (fun _ k => XS.l2dS X3.here hx rfl (hb hby d1_15) rfl q_d0 k) ?_
  obtain ⟨T4, h4, X4, e4, W4, V4, st4⟩ := stDS X3 hx hZ hk3 V_r (j := (0 : Int32)) 0 (by decide) (by show 0 < 1; decide) (g := (mkF m 16 #[.val (.long y), .second, .val (.int (1 : Int32)), .val (.ref r)] [(.double d0), (.int (0 : Int32)), (.ref r)])) rfl rfl (hb hby d1_16)
  have N0 := Fr.snoc X4 N0 ge_r
  have Z0 := Nat.le_trans Z0 (Nat.le_of_eq W4.size.symm)
  have K0 := K0.wr W4 (Or.inr sz_r)
  have V_r : Sar Z h4 r .double [(.double d0)] := V4
  refine Goes.by (T' := T4) (g' := (mkF m 17 #[.val (.long y), .second, .val (.int (1 : Int32)), .val (.ref r)] [])) st4 ?_
  refine Goes.by (T' := T4) (g' := (mkF m 18 #[.val (.long y), .second, .val (.int (1 : Int32)), .val (.ref r)] [(.int (1 : Int32))])) (fun _ k => XS.iloadN X4.here hx rfl (hb hby d1_17) rfl k) ?_
  refine Goes.by (T' := T4) (g' := (mkF m 19 #[.val (.long y), .second, .val (.int (1 : Int32)), .val (.ref r)] [(.int (1 : Int32)), (.int (1 : Int32))])) (fun _ k => XS.iconst X4.here hx rfl (hb hby d1_18)  k) ?_
  refine Goes.by (T' := T4) (g' := (mkF m 31 #[.val (.long y), .second, .val (.int (1 : Int32)), .val (.ref r)] [])) (fun _ k => XS.icmpYes X4.here hx rfl (pc0 := 19) (pc' := 31) rfl (hb hby d1_19) rfl (by decide) (by decide) (by decide) k) ?_
  refine Goes.by (T' := T4) (g' := (mkF m 32 #[.val (.long y), .second, .val (.int (1 : Int32)), .val (.ref r)] [(.int (1 : Int32))])) (fun _ k => XS.iloadN X4.here hx rfl (hb hby d1_31) rfl k) ?_
  refine Goes.by (T' := T4) (g' := (mkF m 33 #[.val (.long y), .second, .val (.int (1 : Int32)), .val (.ref r)] [(.int (2 : Int32)), (.int (1 : Int32))])) (fun _ k => XS.iconst X4.here hx rfl (hb hby d1_32)  k) ?_
  refine Goes.by (T' := T4) (g' := (mkF m 45 #[.val (.long y), .second, .val (.int (1 : Int32)), .val (.ref r)] [])) (fun _ k => XS.icmpYes X4.here hx rfl (pc0 := 33) (pc' := 45) rfl (hb hby d1_33) rfl (by decide) (by decide) (by decide) k) ?_
  refine Goes.by (T' := T4) (g' := (mkF m 46 #[.val (.long y), .second, .val (.int (1 : Int32)), .val (.ref r)] [(.ref r)])) (fun _ k => XS.aloadN X4.here hx rfl (hb hby d1_45) rfl rfl k) ?_
  subst q_d0
  exact outA X4 hx hlk hret rfl rfl rfl (hb hby d1_46) (by rw [e4]; exact ⟨_, rfl, sz_r, V_r, K0, N0⟩) (by decide) (by decide)
theorem ef_rm_make2 (m : MethodId) (x0 : Int64) (x1 : Int32) : entryFrame m #[(.long x0), (.int x1)] 4 = mkF m 0 #[.val (.long x0), .second, .val (.int x1), .unset] [] := by first | (simp [entryFrame, mkF, argsToLocals, Value.category, maxLocals]; done) | rfl
set_option maxRecDepth 65536 in
set_option maxHeartbeats 40000000 in
theorem rm_make2 (l : Launch) (Z : State) (a0 : Array Value) (hw : ∀ d ∈ tables_1, d.before a0 Z = true) (y : Int64) (h0 : Heap) (n0 : Nat) (Z0 : n0 ≤ h0.size)  :
    Does l (⟨"com/example/adhoq/adhoq/VectorsAddTimesPinLaw", "make", "(JI)[D"⟩ : MethodName) method_3_code 4 (some (.array .double)) [] ({ frames := 1, cells := 1, slots := 2, locals := 16 } : Room) Z #[(.long y), (.int (2 : Int32))] h0 (fun v h L => ∃ r, v = some (.ref r) ∧ h0.size ≤ r ∧ Sar Z h r .double [(.double (FP.l2d (own_part y (0 : Int32)))), (.double (FP.l2d (own_part y (1 : Int32))))] ∧ Keep h0 h [] ∧ Fr n0 L) := by
  refine Does.of (plainFor_of_name pn0) ?_
  intro p e s m below meth c s₁ hx hby hml hret hlk hZ hown hnm X0 e0
  have N0 := Fr.nil n0
  refine Goes.cast (g' := mkF m 0 #[.val (.long y), .second, .val (.int (2 : Int32)), .unset] []) (ef_rm_make2 m y (2 : Int32)) ?_
  have K0 := Keep.refl h0 []
  refine Goes.by (T' := s₁) (g' := (mkF m 1 #[.val (.long y), .second, .val (.int (2 : Int32)), .unset] [(.int (2 : Int32))])) (fun _ k => XS.iloadN X0.here hx rfl (hb hby d1_0) rfl k) ?_
  obtain ⟨T5, h5, k5, X5, e5, E5, A5, st5⟩ := newP X0 hx hZ (hw _ (List.mem_of_getElem? (i := 4) rfl)) e0 (g := (mkF m 1 #[.val (.long y), .second, .val (.int (2 : Int32)), .unset] [(.int (2 : Int32))])) rfl (hb hby d1_1) rfl (by decide) (cap := 2) (by decide) (by decide) (by decide) (by decide)
  obtain ⟨r, g5⟩ : ∃ z, z = h0.size := ⟨_, rfl⟩
  rw [← g5] at A5 st5
  have ge_r : n0 ≤ r := Nat.le_trans Z0 (Nat.le_of_eq g5.symm)
  have sz_r : h0.size ≤ r := Nat.le_trans K0.1 (Nat.le_of_eq g5.symm)
  have Z0 := Nat.le_trans Z0 E5.1
  have K0 := K0.ext E5
  have V_r : Sar Z h5 r .double [(.double (0 : UInt64)), (.double (0 : UInt64))] := Sar.new (n := 2) A5 (by decide)
  refine Goes.by (T' := T5) (g' := (mkF m 3 #[.val (.long y), .second, .val (.int (2 : Int32)), .unset] [(.ref r)])) st5 ?_
  refine Goes.by (T' := T5) (g' := (mkF m 4 #[.val (.long y), .second, .val (.int (2 : Int32)), .val (.ref r)] [])) (fun _ k => XS.astoreN X5.here hx rfl (hb hby d1_3) rfl rfl (l' := #[.val (.long y), .second, .val (.int (2 : Int32)), .val (.ref r)]) rfl k) ?_
  refine Goes.by (T' := T5) (g' := (mkF m 5 #[.val (.long y), .second, .val (.int (2 : Int32)), .val (.ref r)] [(.int (2 : Int32))])) (fun _ k => XS.iloadN X5.here hx rfl (hb hby d1_4) rfl k) ?_
  refine Goes.by (T' := T5) (g' := (mkF m 8 #[.val (.long y), .second, .val (.int (2 : Int32)), .val (.ref r)] [])) (fun _ k => XS.ifNo X5.here hx rfl (hb hby d1_5) rfl (by decide) k) ?_
  refine Goes.by (T' := T5) (g' := (mkF m 9 #[.val (.long y), .second, .val (.int (2 : Int32)), .val (.ref r)] [(.ref r)])) (fun _ k => XS.aloadN X5.here hx rfl (hb hby d1_8) rfl rfl k) ?_
  refine Goes.by (T' := T5) (g' := (mkF m 10 #[.val (.long y), .second, .val (.int (2 : Int32)), .val (.ref r)] [(.int (0 : Int32)), (.ref r)])) (fun _ k => XS.iconst X5.here hx rfl (hb hby d1_9)  k) ?_
  refine Goes.by (T' := T5) (g' := (mkF m 11 #[.val (.long y), .second, .val (.int (2 : Int32)), .val (.ref r)] [(.long y), (.int (0 : Int32)), (.ref r)])) (fun _ k => XS.lloadN X5.here hx rfl (hb hby d1_10) rfl k) ?_
  refine Goes.by (T' := T5) (g' := (mkF m 12 #[.val (.long y), .second, .val (.int (2 : Int32)), .val (.ref r)] [(.int (0 : Int32)), (.long y), (.int (0 : Int32)), (.ref r)])) (fun _ k => XS.iconst X5.here hx rfl (hb hby d1_11)  k) ?_
  obtain ⟨v6, T6, L6, X6, hQ6, st6⟩ := callC X5 hx hZ (y := (⟨"com/example/adhoq/adhoq/VectorsAddTimesPinLaw", "part", "(JI)J"⟩ : MethodName)) hown (hw _ (List.mem_of_getElem? (i := 12) rfl)) (hw _ (List.mem_of_getElem? (i := 13) rfl)) (hw _ (List.mem_of_getElem? (i := 14) rfl)) (hw _ (List.mem_of_getElem? (i := 2) rfl)) (by decide) e5 (argsL := [(.long y), (.int (0 : Int32))]) (rest := [(.int (0 : Int32)), (.ref r)]) (W := 2) (rm_part l Z a0 hw y (0 : Int32) h5 n0 Z0) rfl (by decide) (by decide) (by decide) (by decide) (g := (mkF m 12 #[.val (.long y), .second, .val (.int (2 : Int32)), .val (.ref r)] [(.int (0 : Int32)), (.long y), (.int (0 : Int32)), (.ref r)])) rfl (by rw [hml]; rfl) (lenOf pd0 rfl) rfl (by show 2 * 0 + _ ≤ _; exact Nat.le_of_eq rfl) (hb hby d1_12)
  obtain ⟨rfl, NL6, hk6⟩ := hQ6
  have N0 := Fr.app N0 NL6
  refine Goes.by (T' := T6) (g' := (mkF m 15 #[.val (.long y), .second, .val (.int (2 : Int32)), .val (.ref r)] [(.long (own_part y (0 : Int32))), (.int (0 : Int32)), (.ref r)])) st6 ?_
  obtain ⟨d0, q_d0⟩ : ∃ zz, FP.l2d (own_part y (0 : Int32)) = zz := ⟨_, rfl⟩
  refine Goes.by (T' := T6) (g' := (mkF m 16 #[.val (.long y), .second, .val (.int (2 : Int32)), .val (.ref r)] [(.double d0), (.int (0 : Int32)), (.ref r)])) (fun _ k => XS.l2dS X6.here hx rfl (hb hby d1_15) rfl q_d0 k) ?_
  obtain ⟨T7, h7, X7, e7, W7, V7, st7⟩ := stDS X6 hx hZ hk6 V_r (j := (0 : Int32)) 0 (by decide) (by show 0 < 2; decide) (g := (mkF m 16 #[.val (.long y), .second, .val (.int (2 : Int32)), .val (.ref r)] [(.double d0), (.int (0 : Int32)), (.ref r)])) rfl rfl (hb hby d1_16)
  have N0 := Fr.snoc X7 N0 ge_r
  have Z0 := Nat.le_trans Z0 (Nat.le_of_eq W7.size.symm)
  have K0 := K0.wr W7 (Or.inr sz_r)
  have V_r : Sar Z h7 r .double [(.double d0), (.double (0 : UInt64))] := V7
  refine Goes.by (T' := T7) (g' := (mkF m 17 #[.val (.long y), .second, .val (.int (2 : Int32)), .val (.ref r)] [])) st7 ?_
  refine Goes.by (T' := T7) (g' := (mkF m 18 #[.val (.long y), .second, .val (.int (2 : Int32)), .val (.ref r)] [(.int (2 : Int32))])) (fun _ k => XS.iloadN X7.here hx rfl (hb hby d1_17) rfl k) ?_
  refine Goes.by (T' := T7) (g' := (mkF m 19 #[.val (.long y), .second, .val (.int (2 : Int32)), .val (.ref r)] [(.int (1 : Int32)), (.int (2 : Int32))])) (fun _ k => XS.iconst X7.here hx rfl (hb hby d1_18)  k) ?_
  refine Goes.by (T' := T7) (g' := (mkF m 22 #[.val (.long y), .second, .val (.int (2 : Int32)), .val (.ref r)] [])) (fun _ k => XS.icmpNo X7.here hx rfl (hb hby d1_19) rfl (by decide) k) ?_
  refine Goes.by (T' := T7) (g' := (mkF m 23 #[.val (.long y), .second, .val (.int (2 : Int32)), .val (.ref r)] [(.ref r)])) (fun _ k => XS.aloadN X7.here hx rfl (hb hby d1_22) rfl rfl k) ?_
  refine Goes.by (T' := T7) (g' := (mkF m 24 #[.val (.long y), .second, .val (.int (2 : Int32)), .val (.ref r)] [(.int (1 : Int32)), (.ref r)])) (fun _ k => XS.iconst X7.here hx rfl (hb hby d1_23)  k) ?_
  refine Goes.by (T' := T7) (g' := (mkF m 25 #[.val (.long y), .second, .val (.int (2 : Int32)), .val (.ref r)] [(.long y), (.int (1 : Int32)), (.ref r)])) (fun _ k => XS.lloadN X7.here hx rfl (hb hby d1_24) rfl k) ?_
  refine Goes.by (T' := T7) (g' := (mkF m 26 #[.val (.long y), .second, .val (.int (2 : Int32)), .val (.ref r)] [(.int (1 : Int32)), (.long y), (.int (1 : Int32)), (.ref r)])) (fun _ k => XS.iconst X7.here hx rfl (hb hby d1_25)  k) ?_
  obtain ⟨v8, T8, L8, X8, hQ8, st8⟩ := callC X7 hx hZ (y := (⟨"com/example/adhoq/adhoq/VectorsAddTimesPinLaw", "part", "(JI)J"⟩ : MethodName)) hown (hw _ (List.mem_of_getElem? (i := 12) rfl)) (hw _ (List.mem_of_getElem? (i := 13) rfl)) (hw _ (List.mem_of_getElem? (i := 14) rfl)) (hw _ (List.mem_of_getElem? (i := 2) rfl)) (by decide) e7 (argsL := [(.long y), (.int (1 : Int32))]) (rest := [(.int (1 : Int32)), (.ref r)]) (W := 2) (rm_part l Z a0 hw y (1 : Int32) h7 n0 Z0) rfl (by decide) (by decide) (by decide) (by decide) (g := (mkF m 26 #[.val (.long y), .second, .val (.int (2 : Int32)), .val (.ref r)] [(.int (1 : Int32)), (.long y), (.int (1 : Int32)), (.ref r)])) rfl (by rw [hml]; rfl) (lenOf pd0 rfl) rfl (by show 2 * 0 + _ ≤ _; exact Nat.le_of_eq rfl) (hb hby d1_26)
  obtain ⟨rfl, NL8, hk8⟩ := hQ8
  have N0 := Fr.app N0 NL8
  refine Goes.by (T' := T8) (g' := (mkF m 29 #[.val (.long y), .second, .val (.int (2 : Int32)), .val (.ref r)] [(.long (own_part y (1 : Int32))), (.int (1 : Int32)), (.ref r)])) st8 ?_
  obtain ⟨d1, q_d1⟩ : ∃ zz, FP.l2d (own_part y (1 : Int32)) = zz := ⟨_, rfl⟩
  refine Goes.by (T' := T8) (g' := (mkF m 30 #[.val (.long y), .second, .val (.int (2 : Int32)), .val (.ref r)] [(.double d1), (.int (1 : Int32)), (.ref r)])) (fun _ k => XS.l2dS X8.here hx rfl (hb hby d1_29) rfl q_d1 k) ?_
  obtain ⟨T9, h9, X9, e9, W9, V9, st9⟩ := stDS X8 hx hZ hk8 V_r (j := (1 : Int32)) 1 (by decide) (by show 1 < 2; decide) (g := (mkF m 30 #[.val (.long y), .second, .val (.int (2 : Int32)), .val (.ref r)] [(.double d1), (.int (1 : Int32)), (.ref r)])) rfl rfl (hb hby d1_30)
  have N0 := Fr.snoc X9 N0 ge_r
  have Z0 := Nat.le_trans Z0 (Nat.le_of_eq W9.size.symm)
  have K0 := K0.wr W9 (Or.inr sz_r)
  have V_r : Sar Z h9 r .double [(.double d0), (.double d1)] := V9
  refine Goes.by (T' := T9) (g' := (mkF m 31 #[.val (.long y), .second, .val (.int (2 : Int32)), .val (.ref r)] [])) st9 ?_
  refine Goes.by (T' := T9) (g' := (mkF m 32 #[.val (.long y), .second, .val (.int (2 : Int32)), .val (.ref r)] [(.int (2 : Int32))])) (fun _ k => XS.iloadN X9.here hx rfl (hb hby d1_31) rfl k) ?_
  refine Goes.by (T' := T9) (g' := (mkF m 33 #[.val (.long y), .second, .val (.int (2 : Int32)), .val (.ref r)] [(.int (2 : Int32)), (.int (2 : Int32))])) (fun _ k => XS.iconst X9.here hx rfl (hb hby d1_32)  k) ?_
  refine Goes.by (T' := T9) (g' := (mkF m 45 #[.val (.long y), .second, .val (.int (2 : Int32)), .val (.ref r)] [])) (fun _ k => XS.icmpYes X9.here hx rfl (pc0 := 33) (pc' := 45) rfl (hb hby d1_33) rfl (by decide) (by decide) (by decide) k) ?_
  refine Goes.by (T' := T9) (g' := (mkF m 46 #[.val (.long y), .second, .val (.int (2 : Int32)), .val (.ref r)] [(.ref r)])) (fun _ k => XS.aloadN X9.here hx rfl (hb hby d1_45) rfl rfl k) ?_
  subst q_d0
  subst q_d1
  exact outA X9 hx hlk hret rfl rfl rfl (hb hby d1_46) (by rw [e9]; exact ⟨_, rfl, sz_r, V_r, K0, N0⟩) (by decide) (by decide)
theorem ef_rm_make3 (m : MethodId) (x0 : Int64) (x1 : Int32) : entryFrame m #[(.long x0), (.int x1)] 4 = mkF m 0 #[.val (.long x0), .second, .val (.int x1), .unset] [] := by first | (simp [entryFrame, mkF, argsToLocals, Value.category, maxLocals]; done) | rfl
set_option maxRecDepth 65536 in
set_option maxHeartbeats 40000000 in
theorem rm_make3 (l : Launch) (Z : State) (a0 : Array Value) (hw : ∀ d ∈ tables_1, d.before a0 Z = true) (y : Int64) (h0 : Heap) (n0 : Nat) (Z0 : n0 ≤ h0.size)  :
    Does l (⟨"com/example/adhoq/adhoq/VectorsAddTimesPinLaw", "make", "(JI)[D"⟩ : MethodName) method_3_code 4 (some (.array .double)) [] ({ frames := 1, cells := 1, slots := 3, locals := 16 } : Room) Z #[(.long y), (.int (3 : Int32))] h0 (fun v h L => ∃ r, v = some (.ref r) ∧ h0.size ≤ r ∧ Sar Z h r .double [(.double (FP.l2d (own_part y (0 : Int32)))), (.double (FP.l2d (own_part y (1 : Int32)))), (.double (FP.l2d (own_part y (2 : Int32))))] ∧ Keep h0 h [] ∧ Fr n0 L) := by
  refine Does.of (plainFor_of_name pn0) ?_
  intro p e s m below meth c s₁ hx hby hml hret hlk hZ hown hnm X0 e0
  have N0 := Fr.nil n0
  refine Goes.cast (g' := mkF m 0 #[.val (.long y), .second, .val (.int (3 : Int32)), .unset] []) (ef_rm_make3 m y (3 : Int32)) ?_
  have K0 := Keep.refl h0 []
  refine Goes.by (T' := s₁) (g' := (mkF m 1 #[.val (.long y), .second, .val (.int (3 : Int32)), .unset] [(.int (3 : Int32))])) (fun _ k => XS.iloadN X0.here hx rfl (hb hby d1_0) rfl k) ?_
  obtain ⟨T10, h10, k10, X10, e10, E10, A10, st10⟩ := newP X0 hx hZ (hw _ (List.mem_of_getElem? (i := 4) rfl)) e0 (g := (mkF m 1 #[.val (.long y), .second, .val (.int (3 : Int32)), .unset] [(.int (3 : Int32))])) rfl (hb hby d1_1) rfl (by decide) (cap := 3) (by decide) (by decide) (by decide) (by decide)
  obtain ⟨r, g10⟩ : ∃ z, z = h0.size := ⟨_, rfl⟩
  rw [← g10] at A10 st10
  have ge_r : n0 ≤ r := Nat.le_trans Z0 (Nat.le_of_eq g10.symm)
  have sz_r : h0.size ≤ r := Nat.le_trans K0.1 (Nat.le_of_eq g10.symm)
  have Z0 := Nat.le_trans Z0 E10.1
  have K0 := K0.ext E10
  have V_r : Sar Z h10 r .double [(.double (0 : UInt64)), (.double (0 : UInt64)), (.double (0 : UInt64))] := Sar.new (n := 3) A10 (by decide)
  refine Goes.by (T' := T10) (g' := (mkF m 3 #[.val (.long y), .second, .val (.int (3 : Int32)), .unset] [(.ref r)])) st10 ?_
  refine Goes.by (T' := T10) (g' := (mkF m 4 #[.val (.long y), .second, .val (.int (3 : Int32)), .val (.ref r)] [])) (fun _ k => XS.astoreN X10.here hx rfl (hb hby d1_3) rfl rfl (l' := #[.val (.long y), .second, .val (.int (3 : Int32)), .val (.ref r)]) rfl k) ?_
  refine Goes.by (T' := T10) (g' := (mkF m 5 #[.val (.long y), .second, .val (.int (3 : Int32)), .val (.ref r)] [(.int (3 : Int32))])) (fun _ k => XS.iloadN X10.here hx rfl (hb hby d1_4) rfl k) ?_
  refine Goes.by (T' := T10) (g' := (mkF m 8 #[.val (.long y), .second, .val (.int (3 : Int32)), .val (.ref r)] [])) (fun _ k => XS.ifNo X10.here hx rfl (hb hby d1_5) rfl (by decide) k) ?_
  refine Goes.by (T' := T10) (g' := (mkF m 9 #[.val (.long y), .second, .val (.int (3 : Int32)), .val (.ref r)] [(.ref r)])) (fun _ k => XS.aloadN X10.here hx rfl (hb hby d1_8) rfl rfl k) ?_
  refine Goes.by (T' := T10) (g' := (mkF m 10 #[.val (.long y), .second, .val (.int (3 : Int32)), .val (.ref r)] [(.int (0 : Int32)), (.ref r)])) (fun _ k => XS.iconst X10.here hx rfl (hb hby d1_9)  k) ?_
  refine Goes.by (T' := T10) (g' := (mkF m 11 #[.val (.long y), .second, .val (.int (3 : Int32)), .val (.ref r)] [(.long y), (.int (0 : Int32)), (.ref r)])) (fun _ k => XS.lloadN X10.here hx rfl (hb hby d1_10) rfl k) ?_
  refine Goes.by (T' := T10) (g' := (mkF m 12 #[.val (.long y), .second, .val (.int (3 : Int32)), .val (.ref r)] [(.int (0 : Int32)), (.long y), (.int (0 : Int32)), (.ref r)])) (fun _ k => XS.iconst X10.here hx rfl (hb hby d1_11)  k) ?_
  obtain ⟨v11, T11, L11, X11, hQ11, st11⟩ := callC X10 hx hZ (y := (⟨"com/example/adhoq/adhoq/VectorsAddTimesPinLaw", "part", "(JI)J"⟩ : MethodName)) hown (hw _ (List.mem_of_getElem? (i := 12) rfl)) (hw _ (List.mem_of_getElem? (i := 13) rfl)) (hw _ (List.mem_of_getElem? (i := 14) rfl)) (hw _ (List.mem_of_getElem? (i := 2) rfl)) (by decide) e10 (argsL := [(.long y), (.int (0 : Int32))]) (rest := [(.int (0 : Int32)), (.ref r)]) (W := 2) (rm_part l Z a0 hw y (0 : Int32) h10 n0 Z0) rfl (by decide) (by decide) (by decide) (by decide) (g := (mkF m 12 #[.val (.long y), .second, .val (.int (3 : Int32)), .val (.ref r)] [(.int (0 : Int32)), (.long y), (.int (0 : Int32)), (.ref r)])) rfl (by rw [hml]; rfl) (lenOf pd0 rfl) rfl (by show 2 * 0 + _ ≤ _; exact Nat.le_of_eq rfl) (hb hby d1_12)
  obtain ⟨rfl, NL11, hk11⟩ := hQ11
  have N0 := Fr.app N0 NL11
  refine Goes.by (T' := T11) (g' := (mkF m 15 #[.val (.long y), .second, .val (.int (3 : Int32)), .val (.ref r)] [(.long (own_part y (0 : Int32))), (.int (0 : Int32)), (.ref r)])) st11 ?_
  obtain ⟨d0, q_d0⟩ : ∃ zz, FP.l2d (own_part y (0 : Int32)) = zz := ⟨_, rfl⟩
  refine Goes.by (T' := T11) (g' := (mkF m 16 #[.val (.long y), .second, .val (.int (3 : Int32)), .val (.ref r)] [(.double d0), (.int (0 : Int32)), (.ref r)])) (fun _ k => XS.l2dS X11.here hx rfl (hb hby d1_15) rfl q_d0 k) ?_
  obtain ⟨T12, h12, X12, e12, W12, V12, st12⟩ := stDS X11 hx hZ hk11 V_r (j := (0 : Int32)) 0 (by decide) (by show 0 < 3; decide) (g := (mkF m 16 #[.val (.long y), .second, .val (.int (3 : Int32)), .val (.ref r)] [(.double d0), (.int (0 : Int32)), (.ref r)])) rfl rfl (hb hby d1_16)
  have N0 := Fr.snoc X12 N0 ge_r
  have Z0 := Nat.le_trans Z0 (Nat.le_of_eq W12.size.symm)
  have K0 := K0.wr W12 (Or.inr sz_r)
  have V_r : Sar Z h12 r .double [(.double d0), (.double (0 : UInt64)), (.double (0 : UInt64))] := V12
  refine Goes.by (T' := T12) (g' := (mkF m 17 #[.val (.long y), .second, .val (.int (3 : Int32)), .val (.ref r)] [])) st12 ?_
  refine Goes.by (T' := T12) (g' := (mkF m 18 #[.val (.long y), .second, .val (.int (3 : Int32)), .val (.ref r)] [(.int (3 : Int32))])) (fun _ k => XS.iloadN X12.here hx rfl (hb hby d1_17) rfl k) ?_
  refine Goes.by (T' := T12) (g' := (mkF m 19 #[.val (.long y), .second, .val (.int (3 : Int32)), .val (.ref r)] [(.int (1 : Int32)), (.int (3 : Int32))])) (fun _ k => XS.iconst X12.here hx rfl (hb hby d1_18)  k) ?_
  refine Goes.by (T' := T12) (g' := (mkF m 22 #[.val (.long y), .second, .val (.int (3 : Int32)), .val (.ref r)] [])) (fun _ k => XS.icmpNo X12.here hx rfl (hb hby d1_19) rfl (by decide) k) ?_
  refine Goes.by (T' := T12) (g' := (mkF m 23 #[.val (.long y), .second, .val (.int (3 : Int32)), .val (.ref r)] [(.ref r)])) (fun _ k => XS.aloadN X12.here hx rfl (hb hby d1_22) rfl rfl k) ?_
  refine Goes.by (T' := T12) (g' := (mkF m 24 #[.val (.long y), .second, .val (.int (3 : Int32)), .val (.ref r)] [(.int (1 : Int32)), (.ref r)])) (fun _ k => XS.iconst X12.here hx rfl (hb hby d1_23)  k) ?_
  refine Goes.by (T' := T12) (g' := (mkF m 25 #[.val (.long y), .second, .val (.int (3 : Int32)), .val (.ref r)] [(.long y), (.int (1 : Int32)), (.ref r)])) (fun _ k => XS.lloadN X12.here hx rfl (hb hby d1_24) rfl k) ?_
  refine Goes.by (T' := T12) (g' := (mkF m 26 #[.val (.long y), .second, .val (.int (3 : Int32)), .val (.ref r)] [(.int (1 : Int32)), (.long y), (.int (1 : Int32)), (.ref r)])) (fun _ k => XS.iconst X12.here hx rfl (hb hby d1_25)  k) ?_
  obtain ⟨v13, T13, L13, X13, hQ13, st13⟩ := callC X12 hx hZ (y := (⟨"com/example/adhoq/adhoq/VectorsAddTimesPinLaw", "part", "(JI)J"⟩ : MethodName)) hown (hw _ (List.mem_of_getElem? (i := 12) rfl)) (hw _ (List.mem_of_getElem? (i := 13) rfl)) (hw _ (List.mem_of_getElem? (i := 14) rfl)) (hw _ (List.mem_of_getElem? (i := 2) rfl)) (by decide) e12 (argsL := [(.long y), (.int (1 : Int32))]) (rest := [(.int (1 : Int32)), (.ref r)]) (W := 2) (rm_part l Z a0 hw y (1 : Int32) h12 n0 Z0) rfl (by decide) (by decide) (by decide) (by decide) (g := (mkF m 26 #[.val (.long y), .second, .val (.int (3 : Int32)), .val (.ref r)] [(.int (1 : Int32)), (.long y), (.int (1 : Int32)), (.ref r)])) rfl (by rw [hml]; rfl) (lenOf pd0 rfl) rfl (by show 2 * 0 + _ ≤ _; exact Nat.le_of_eq rfl) (hb hby d1_26)
  obtain ⟨rfl, NL13, hk13⟩ := hQ13
  have N0 := Fr.app N0 NL13
  refine Goes.by (T' := T13) (g' := (mkF m 29 #[.val (.long y), .second, .val (.int (3 : Int32)), .val (.ref r)] [(.long (own_part y (1 : Int32))), (.int (1 : Int32)), (.ref r)])) st13 ?_
  obtain ⟨d1, q_d1⟩ : ∃ zz, FP.l2d (own_part y (1 : Int32)) = zz := ⟨_, rfl⟩
  refine Goes.by (T' := T13) (g' := (mkF m 30 #[.val (.long y), .second, .val (.int (3 : Int32)), .val (.ref r)] [(.double d1), (.int (1 : Int32)), (.ref r)])) (fun _ k => XS.l2dS X13.here hx rfl (hb hby d1_29) rfl q_d1 k) ?_
  obtain ⟨T14, h14, X14, e14, W14, V14, st14⟩ := stDS X13 hx hZ hk13 V_r (j := (1 : Int32)) 1 (by decide) (by show 1 < 3; decide) (g := (mkF m 30 #[.val (.long y), .second, .val (.int (3 : Int32)), .val (.ref r)] [(.double d1), (.int (1 : Int32)), (.ref r)])) rfl rfl (hb hby d1_30)
  have N0 := Fr.snoc X14 N0 ge_r
  have Z0 := Nat.le_trans Z0 (Nat.le_of_eq W14.size.symm)
  have K0 := K0.wr W14 (Or.inr sz_r)
  have V_r : Sar Z h14 r .double [(.double d0), (.double d1), (.double (0 : UInt64))] := V14
  refine Goes.by (T' := T14) (g' := (mkF m 31 #[.val (.long y), .second, .val (.int (3 : Int32)), .val (.ref r)] [])) st14 ?_
  refine Goes.by (T' := T14) (g' := (mkF m 32 #[.val (.long y), .second, .val (.int (3 : Int32)), .val (.ref r)] [(.int (3 : Int32))])) (fun _ k => XS.iloadN X14.here hx rfl (hb hby d1_31) rfl k) ?_
  refine Goes.by (T' := T14) (g' := (mkF m 33 #[.val (.long y), .second, .val (.int (3 : Int32)), .val (.ref r)] [(.int (2 : Int32)), (.int (3 : Int32))])) (fun _ k => XS.iconst X14.here hx rfl (hb hby d1_32)  k) ?_
  refine Goes.by (T' := T14) (g' := (mkF m 36 #[.val (.long y), .second, .val (.int (3 : Int32)), .val (.ref r)] [])) (fun _ k => XS.icmpNo X14.here hx rfl (hb hby d1_33) rfl (by decide) k) ?_
  refine Goes.by (T' := T14) (g' := (mkF m 37 #[.val (.long y), .second, .val (.int (3 : Int32)), .val (.ref r)] [(.ref r)])) (fun _ k => XS.aloadN X14.here hx rfl (hb hby d1_36) rfl rfl k) ?_
  refine Goes.by (T' := T14) (g' := (mkF m 38 #[.val (.long y), .second, .val (.int (3 : Int32)), .val (.ref r)] [(.int (2 : Int32)), (.ref r)])) (fun _ k => XS.iconst X14.here hx rfl (hb hby d1_37)  k) ?_
  refine Goes.by (T' := T14) (g' := (mkF m 39 #[.val (.long y), .second, .val (.int (3 : Int32)), .val (.ref r)] [(.long y), (.int (2 : Int32)), (.ref r)])) (fun _ k => XS.lloadN X14.here hx rfl (hb hby d1_38) rfl k) ?_
  refine Goes.by (T' := T14) (g' := (mkF m 40 #[.val (.long y), .second, .val (.int (3 : Int32)), .val (.ref r)] [(.int (2 : Int32)), (.long y), (.int (2 : Int32)), (.ref r)])) (fun _ k => XS.iconst X14.here hx rfl (hb hby d1_39)  k) ?_
  obtain ⟨v15, T15, L15, X15, hQ15, st15⟩ := callC X14 hx hZ (y := (⟨"com/example/adhoq/adhoq/VectorsAddTimesPinLaw", "part", "(JI)J"⟩ : MethodName)) hown (hw _ (List.mem_of_getElem? (i := 12) rfl)) (hw _ (List.mem_of_getElem? (i := 13) rfl)) (hw _ (List.mem_of_getElem? (i := 14) rfl)) (hw _ (List.mem_of_getElem? (i := 2) rfl)) (by decide) e14 (argsL := [(.long y), (.int (2 : Int32))]) (rest := [(.int (2 : Int32)), (.ref r)]) (W := 2) (rm_part l Z a0 hw y (2 : Int32) h14 n0 Z0) rfl (by decide) (by decide) (by decide) (by decide) (g := (mkF m 40 #[.val (.long y), .second, .val (.int (3 : Int32)), .val (.ref r)] [(.int (2 : Int32)), (.long y), (.int (2 : Int32)), (.ref r)])) rfl (by rw [hml]; rfl) (lenOf pd0 rfl) rfl (by show 2 * 0 + _ ≤ _; exact Nat.le_of_eq rfl) (hb hby d1_40)
  obtain ⟨rfl, NL15, hk15⟩ := hQ15
  have N0 := Fr.app N0 NL15
  refine Goes.by (T' := T15) (g' := (mkF m 43 #[.val (.long y), .second, .val (.int (3 : Int32)), .val (.ref r)] [(.long (own_part y (2 : Int32))), (.int (2 : Int32)), (.ref r)])) st15 ?_
  obtain ⟨d2, q_d2⟩ : ∃ zz, FP.l2d (own_part y (2 : Int32)) = zz := ⟨_, rfl⟩
  refine Goes.by (T' := T15) (g' := (mkF m 44 #[.val (.long y), .second, .val (.int (3 : Int32)), .val (.ref r)] [(.double d2), (.int (2 : Int32)), (.ref r)])) (fun _ k => XS.l2dS X15.here hx rfl (hb hby d1_43) rfl q_d2 k) ?_
  obtain ⟨T16, h16, X16, e16, W16, V16, st16⟩ := stDS X15 hx hZ hk15 V_r (j := (2 : Int32)) 2 (by decide) (by show 2 < 3; decide) (g := (mkF m 44 #[.val (.long y), .second, .val (.int (3 : Int32)), .val (.ref r)] [(.double d2), (.int (2 : Int32)), (.ref r)])) rfl rfl (hb hby d1_44)
  have N0 := Fr.snoc X16 N0 ge_r
  have Z0 := Nat.le_trans Z0 (Nat.le_of_eq W16.size.symm)
  have K0 := K0.wr W16 (Or.inr sz_r)
  have V_r : Sar Z h16 r .double [(.double d0), (.double d1), (.double d2)] := V16
  refine Goes.by (T' := T16) (g' := (mkF m 45 #[.val (.long y), .second, .val (.int (3 : Int32)), .val (.ref r)] [])) st16 ?_
  refine Goes.by (T' := T16) (g' := (mkF m 46 #[.val (.long y), .second, .val (.int (3 : Int32)), .val (.ref r)] [(.ref r)])) (fun _ k => XS.aloadN X16.here hx rfl (hb hby d1_45) rfl rfl k) ?_
  subst q_d0
  subst q_d1
  subst q_d2
  exact outA X16 hx hlk hret rfl rfl rfl (hb hby d1_46) (by rw [e16]; exact ⟨_, rfl, sz_r, V_r, K0, N0⟩) (by decide) (by decide)
theorem d2_0 : decode prog_37_method_4_code 0 = .ok (.iconst 0, 1) := by decide +kernel
theorem d2_1 : decode prog_37_method_4_code 1 = .ok (.istore 4, 2) := by decide +kernel
theorem d2_3 : decode prog_37_method_4_code 3 = .ok (.iload 4, 2) := by decide +kernel
theorem d2_5 : decode prog_37_method_4_code 5 = .ok (.aload_n 0, 1) := by decide +kernel
theorem d2_6 : decode prog_37_method_4_code 6 = .ok (.arraylength, 1) := by decide +kernel
theorem d2_7 : decode prog_37_method_4_code 7 = .ok (.if_icmp .ge 22, 3) := by decide +kernel
theorem d2_10 : decode prog_37_method_4_code 10 = .ok (.aload_n 0, 1) := by decide +kernel
theorem d2_11 : decode prog_37_method_4_code 11 = .ok (.iload 4, 2) := by decide +kernel
theorem d2_13 : decode prog_37_method_4_code 13 = .ok (.dup2, 1) := by decide +kernel
theorem d2_14 : decode prog_37_method_4_code 14 = .ok (.daload, 1) := by decide +kernel
theorem d2_15 : decode prog_37_method_4_code 15 = .ok (.dload_n 1, 1) := by decide +kernel
theorem d2_16 : decode prog_37_method_4_code 16 = .ok (.aload_n 3, 1) := by decide +kernel
theorem d2_17 : decode prog_37_method_4_code 17 = .ok (.iload 4, 2) := by decide +kernel
theorem d2_19 : decode prog_37_method_4_code 19 = .ok (.daload, 1) := by decide +kernel
theorem d2_20 : decode prog_37_method_4_code 20 = .ok (.dmul, 1) := by decide +kernel
theorem d2_21 : decode prog_37_method_4_code 21 = .ok (.dadd, 1) := by decide +kernel
theorem d2_22 : decode prog_37_method_4_code 22 = .ok (.dastore, 1) := by decide +kernel
theorem d2_23 : decode prog_37_method_4_code 23 = .ok (.iinc 4 1, 3) := by decide +kernel
theorem d2_26 : decode prog_37_method_4_code 26 = .ok (.goto (-23), 3) := by decide +kernel
theorem d2_29 : decode prog_37_method_4_code 29 = .ok (.return_, 1) := by decide +kernel
theorem pn1 : plainName "com/example/adhoq/adhoq/Vectors" = true := by first | (simp [plainName, overriddenIn]; done) | decide +kernel
theorem pd2 : parseMethodDescriptor "([DD[D)V" = some ⟨[(.array .double), .double, (.array .double)], none⟩ := by decide +kernel
theorem ef_rm_add0 (m : MethodId) (x0 : Addr) (x1 : UInt64) (x2 : Addr) : entryFrame m #[(.ref x0), (.double x1), (.ref x2)] 5 = mkF m 0 #[.val (.ref x0), .val (.double x1), .second, .val (.ref x2), .unset] [] := by first | (simp [entryFrame, mkF, argsToLocals, Value.category, maxLocals]; done) | rfl
set_option maxRecDepth 65536 in
set_option maxHeartbeats 40000000 in
theorem rm_add0 (l : Launch) (Z : State) (a0 : Array Value) (hw : ∀ d ∈ tables_1, d.before a0 Z = true) (a b : Addr) (f : UInt64) (fi : Int)  (h0 : Heap) (n0 : Nat) (Z0 : n0 ≤ h0.size) (VA : Sar Z h0 a .double []) (VB : Sar Z h0 b .double []) (nab : a ≠ b) (ga : n0 ≤ a) (FI : Core.DInt fi f) (bf : fi.natAbs ≤ 2147483648)  :
    Does l (⟨"com/example/adhoq/adhoq/Vectors", "addTimes", "([DD[D)V"⟩ : MethodName) prog_37_method_4_code 5 none [] ({ frames := 0, cells := 0, slots := 0, locals := 0 } : Room) Z #[(.ref a), (.double f), (.ref b)] h0 (fun v h L => v = none ∧ Sar Z h a .double [] ∧ Keep h0 h [a] ∧ Fr n0 L) := by
  refine Does.of (plainFor_of_name pn1) ?_
  intro p e s m below meth c s₁ hx hby hml hret hlk hZ hown hnm X0 e0
  have N0 := Fr.nil n0
  refine Goes.cast (g' := mkF m 0 #[.val (.ref a), .val (.double f), .second, .val (.ref b), .unset] []) (ef_rm_add0 m a f b) ?_
  have K0 := Keep.refl h0 [a]
  refine Goes.by (T' := s₁) (g' := (mkF m 1 #[.val (.ref a), .val (.double f), .second, .val (.ref b), .unset] [(.int (0 : Int32))])) (fun _ k => XS.iconst X0.here hx rfl (hb hby d2_0)  k) ?_
  refine Goes.by (T' := s₁) (g' := (mkF m 3 #[.val (.ref a), .val (.double f), .second, .val (.ref b), .val (.int (0 : Int32))] [])) (fun _ k => XS.istore X0.here hx rfl (hb hby d2_1) rfl (l' := #[.val (.ref a), .val (.double f), .second, .val (.ref b), .val (.int (0 : Int32))]) rfl k) ?_
  refine Goes.by (T' := s₁) (g' := (mkF m 5 #[.val (.ref a), .val (.double f), .second, .val (.ref b), .val (.int (0 : Int32))] [(.int (0 : Int32))])) (fun _ k => XS.iload X0.here hx rfl (hb hby d2_3) rfl k) ?_
  refine Goes.by (T' := s₁) (g' := (mkF m 6 #[.val (.ref a), .val (.double f), .second, .val (.ref b), .val (.int (0 : Int32))] [(.ref a), (.int (0 : Int32))])) (fun _ k => XS.aloadN X0.here hx rfl (hb hby d2_5) rfl rfl k) ?_
  refine Goes.by (T' := s₁) (g' := (mkF m 7 #[.val (.ref a), .val (.double f), .second, .val (.ref b), .val (.int (0 : Int32))] [(.int (0 : Int32)), (.int (0 : Int32))])) (lenS X0 hx hZ e0 VA (n := (0 : Int32)) rfl (g := (mkF m 6 #[.val (.ref a), .val (.double f), .second, .val (.ref b), .val (.int (0 : Int32))] [(.ref a), (.int (0 : Int32))])) rfl rfl (hb hby d2_6)) ?_
  refine Goes.by (T' := s₁) (g' := (mkF m 29 #[.val (.ref a), .val (.double f), .second, .val (.ref b), .val (.int (0 : Int32))] [])) (fun _ k => XS.icmpYes X0.here hx rfl (pc0 := 7) (pc' := 29) rfl (hb hby d2_7) rfl (by decide) (by decide) (by decide) k) ?_
  exact outV X0 hx hlk hret (hb hby d2_29) (by rw [e0]; exact ⟨rfl, VA, K0, N0⟩) (by decide) (by decide)
theorem ef_rm_add1 (m : MethodId) (x0 : Addr) (x1 : UInt64) (x2 : Addr) : entryFrame m #[(.ref x0), (.double x1), (.ref x2)] 5 = mkF m 0 #[.val (.ref x0), .val (.double x1), .second, .val (.ref x2), .unset] [] := by first | (simp [entryFrame, mkF, argsToLocals, Value.category, maxLocals]; done) | rfl
set_option maxRecDepth 65536 in
set_option maxHeartbeats 40000000 in
theorem rm_add1 (l : Launch) (Z : State) (a0 : Array Value) (hw : ∀ d ∈ tables_1, d.before a0 Z = true) (a b : Addr) (f : UInt64) (fi : Int) (u0 v0 : UInt64) (i0 j0 : Int)  (h0 : Heap) (n0 : Nat) (Z0 : n0 ≤ h0.size) (VA : Sar Z h0 a .double [(.double u0)]) (VB : Sar Z h0 b .double [(.double v0)]) (nab : a ≠ b) (ga : n0 ≤ a) (FI : Core.DInt fi f) (bf : fi.natAbs ≤ 2147483648) (I0 : Core.DInt i0 u0) (J0 : Core.DInt j0 v0) (bi0 : i0.natAbs ≤ 32768) (bj0 : j0.natAbs ≤ 32768)  :
    Does l (⟨"com/example/adhoq/adhoq/Vectors", "addTimes", "([DD[D)V"⟩ : MethodName) prog_37_method_4_code 5 none [] ({ frames := 0, cells := 0, slots := 0, locals := 0 } : Room) Z #[(.ref a), (.double f), (.ref b)] h0 (fun v h L => v = none ∧ (∃ s0, Core.DInt (i0 + fi * j0) s0 ∧ Sar Z h a .double [(.double s0)]) ∧ Keep h0 h [a] ∧ Fr n0 L) := by
  refine Does.of (plainFor_of_name pn1) ?_
  intro p e s m below meth c s₁ hx hby hml hret hlk hZ hown hnm X0 e0
  have N0 := Fr.nil n0
  refine Goes.cast (g' := mkF m 0 #[.val (.ref a), .val (.double f), .second, .val (.ref b), .unset] []) (ef_rm_add1 m a f b) ?_
  have K0 := Keep.refl h0 [a]
  refine Goes.by (T' := s₁) (g' := (mkF m 1 #[.val (.ref a), .val (.double f), .second, .val (.ref b), .unset] [(.int (0 : Int32))])) (fun _ k => XS.iconst X0.here hx rfl (hb hby d2_0)  k) ?_
  refine Goes.by (T' := s₁) (g' := (mkF m 3 #[.val (.ref a), .val (.double f), .second, .val (.ref b), .val (.int (0 : Int32))] [])) (fun _ k => XS.istore X0.here hx rfl (hb hby d2_1) rfl (l' := #[.val (.ref a), .val (.double f), .second, .val (.ref b), .val (.int (0 : Int32))]) rfl k) ?_
  refine Goes.by (T' := s₁) (g' := (mkF m 5 #[.val (.ref a), .val (.double f), .second, .val (.ref b), .val (.int (0 : Int32))] [(.int (0 : Int32))])) (fun _ k => XS.iload X0.here hx rfl (hb hby d2_3) rfl k) ?_
  refine Goes.by (T' := s₁) (g' := (mkF m 6 #[.val (.ref a), .val (.double f), .second, .val (.ref b), .val (.int (0 : Int32))] [(.ref a), (.int (0 : Int32))])) (fun _ k => XS.aloadN X0.here hx rfl (hb hby d2_5) rfl rfl k) ?_
  refine Goes.by (T' := s₁) (g' := (mkF m 7 #[.val (.ref a), .val (.double f), .second, .val (.ref b), .val (.int (0 : Int32))] [(.int (1 : Int32)), (.int (0 : Int32))])) (lenS X0 hx hZ e0 VA (n := (1 : Int32)) rfl (g := (mkF m 6 #[.val (.ref a), .val (.double f), .second, .val (.ref b), .val (.int (0 : Int32))] [(.ref a), (.int (0 : Int32))])) rfl rfl (hb hby d2_6)) ?_
  refine Goes.by (T' := s₁) (g' := (mkF m 10 #[.val (.ref a), .val (.double f), .second, .val (.ref b), .val (.int (0 : Int32))] [])) (fun _ k => XS.icmpNo X0.here hx rfl (hb hby d2_7) rfl (by decide) k) ?_
  refine Goes.by (T' := s₁) (g' := (mkF m 11 #[.val (.ref a), .val (.double f), .second, .val (.ref b), .val (.int (0 : Int32))] [(.ref a)])) (fun _ k => XS.aloadN X0.here hx rfl (hb hby d2_10) rfl rfl k) ?_
  refine Goes.by (T' := s₁) (g' := (mkF m 13 #[.val (.ref a), .val (.double f), .second, .val (.ref b), .val (.int (0 : Int32))] [(.int (0 : Int32)), (.ref a)])) (fun _ k => XS.iload X0.here hx rfl (hb hby d2_11) rfl k) ?_
  refine Goes.by (T' := s₁) (g' := (mkF m 14 #[.val (.ref a), .val (.double f), .second, .val (.ref b), .val (.int (0 : Int32))] [(.int (0 : Int32)), (.ref a), (.int (0 : Int32)), (.ref a)])) (fun _ k => XT.dup2 X0.here hx rfl (hb hby d2_13) rfl rfl rfl k) ?_
  refine Goes.by (T' := s₁) (g' := (mkF m 15 #[.val (.ref a), .val (.double f), .second, .val (.ref b), .val (.int (0 : Int32))] [(.double u0), (.int (0 : Int32)), (.ref a)])) (ldDS X0 hx hZ e0 VA (v := (.double u0)) (j := (0 : Int32)) 0 (by decide) rfl (g := (mkF m 14 #[.val (.ref a), .val (.double f), .second, .val (.ref b), .val (.int (0 : Int32))] [(.int (0 : Int32)), (.ref a), (.int (0 : Int32)), (.ref a)])) rfl rfl (hb hby d2_14)) ?_
  refine Goes.by (T' := s₁) (g' := (mkF m 16 #[.val (.ref a), .val (.double f), .second, .val (.ref b), .val (.int (0 : Int32))] [(.double f), (.double u0), (.int (0 : Int32)), (.ref a)])) (fun _ k => XS.dloadN X0.here hx rfl (hb hby d2_15) rfl k) ?_
  refine Goes.by (T' := s₁) (g' := (mkF m 17 #[.val (.ref a), .val (.double f), .second, .val (.ref b), .val (.int (0 : Int32))] [(.ref b), (.double f), (.double u0), (.int (0 : Int32)), (.ref a)])) (fun _ k => XS.aloadN X0.here hx rfl (hb hby d2_16) rfl rfl k) ?_
  refine Goes.by (T' := s₁) (g' := (mkF m 19 #[.val (.ref a), .val (.double f), .second, .val (.ref b), .val (.int (0 : Int32))] [(.int (0 : Int32)), (.ref b), (.double f), (.double u0), (.int (0 : Int32)), (.ref a)])) (fun _ k => XS.iload X0.here hx rfl (hb hby d2_17) rfl k) ?_
  refine Goes.by (T' := s₁) (g' := (mkF m 20 #[.val (.ref a), .val (.double f), .second, .val (.ref b), .val (.int (0 : Int32))] [(.double v0), (.double f), (.double u0), (.int (0 : Int32)), (.ref a)])) (ldDS X0 hx hZ e0 VB (v := (.double v0)) (j := (0 : Int32)) 0 (by decide) rfl (g := (mkF m 19 #[.val (.ref a), .val (.double f), .second, .val (.ref b), .val (.int (0 : Int32))] [(.int (0 : Int32)), (.ref b), (.double f), (.double u0), (.int (0 : Int32)), (.ref a)])) rfl rfl (hb hby d2_19)) ?_
  obtain ⟨p0, hp0⟩ : ∃ z : Int, z = fi * j0 := ⟨_, rfl⟩
  have bp0 : p0.natAbs ≤ 2147483648 * 32768 := by rw [hp0]; exact own_mb bf bj0
  obtain ⟨m0, q_m0⟩ : ∃ zz, FP.dmul f v0 = zz := ⟨_, rfl⟩
  have DM0 : Core.DInt p0 m0 := by rw [hp0]; exact DInt_mul q_m0 FI J0 (by rw [← hp0]; omega)
  refine Goes.by (T' := s₁) (g' := (mkF m 21 #[.val (.ref a), .val (.double f), .second, .val (.ref b), .val (.int (0 : Int32))] [(.double m0), (.double u0), (.int (0 : Int32)), (.ref a)])) (fun _ k => XS.dmulS X0.here hx rfl (hb hby d2_20) rfl (by rw [q_m0]; exact DInt_nn DM0) q_m0 k) ?_
  obtain ⟨s0, q_s0⟩ : ∃ zz, FP.dadd u0 m0 = zz := ⟨_, rfl⟩
  have DS0 := DInt_add q_s0 I0 DM0 (by omega)
  refine Goes.by (T' := s₁) (g' := (mkF m 22 #[.val (.ref a), .val (.double f), .second, .val (.ref b), .val (.int (0 : Int32))] [(.double s0), (.int (0 : Int32)), (.ref a)])) (fun _ k => XS.daddS X0.here hx rfl (hb hby d2_21) rfl (by rw [q_s0]; exact DInt_nn DS0) q_s0 k) ?_
  obtain ⟨T17, h17, X17, e17, W17, V17, st17⟩ := stDS X0 hx hZ e0 VA (j := (0 : Int32)) 0 (by decide) (by show 0 < 1; decide) (g := (mkF m 22 #[.val (.ref a), .val (.double f), .second, .val (.ref b), .val (.int (0 : Int32))] [(.double s0), (.int (0 : Int32)), (.ref a)])) rfl rfl (hb hby d2_22)
  have N0 := Fr.snoc X17 N0 ga
  have VB := VB.other W17 (Ne.symm nab)
  have Z0 := Nat.le_trans Z0 (Nat.le_of_eq W17.size.symm)
  have K0 := K0.wr W17 (Or.inl (List.mem_singleton.mpr rfl))
  have VA : Sar Z h17 a .double [(.double s0)] := V17
  refine Goes.by (T' := T17) (g' := (mkF m 23 #[.val (.ref a), .val (.double f), .second, .val (.ref b), .val (.int (0 : Int32))] [])) st17 ?_
  refine Goes.by (T' := T17) (g' := (mkF m 26 #[.val (.ref a), .val (.double f), .second, .val (.ref b), .val (.int (1 : Int32))] [])) (fun _ k => XS.iinc X17.here hx rfl (hb hby d2_23) rfl (l' := #[.val (.ref a), .val (.double f), .second, .val (.ref b), .val (.int (1 : Int32))]) rfl k) ?_
  refine Goes.by (T' := T17) (g' := (mkF m 3 #[.val (.ref a), .val (.double f), .second, .val (.ref b), .val (.int (1 : Int32))] [])) (fun _ k => XS.goto X17.here hx rfl (pc0 := 26) (pc' := 3) rfl (hb hby d2_26) (by decide) (by decide) k) ?_
  refine Goes.by (T' := T17) (g' := (mkF m 5 #[.val (.ref a), .val (.double f), .second, .val (.ref b), .val (.int (1 : Int32))] [(.int (1 : Int32))])) (fun _ k => XS.iload X17.here hx rfl (hb hby d2_3) rfl k) ?_
  refine Goes.by (T' := T17) (g' := (mkF m 6 #[.val (.ref a), .val (.double f), .second, .val (.ref b), .val (.int (1 : Int32))] [(.ref a), (.int (1 : Int32))])) (fun _ k => XS.aloadN X17.here hx rfl (hb hby d2_5) rfl rfl k) ?_
  refine Goes.by (T' := T17) (g' := (mkF m 7 #[.val (.ref a), .val (.double f), .second, .val (.ref b), .val (.int (1 : Int32))] [(.int (1 : Int32)), (.int (1 : Int32))])) (lenS X17 hx hZ e17 VA (n := (1 : Int32)) rfl (g := (mkF m 6 #[.val (.ref a), .val (.double f), .second, .val (.ref b), .val (.int (1 : Int32))] [(.ref a), (.int (1 : Int32))])) rfl rfl (hb hby d2_6)) ?_
  refine Goes.by (T' := T17) (g' := (mkF m 29 #[.val (.ref a), .val (.double f), .second, .val (.ref b), .val (.int (1 : Int32))] [])) (fun _ k => XS.icmpYes X17.here hx rfl (pc0 := 7) (pc' := 29) rfl (hb hby d2_7) rfl (by decide) (by decide) (by decide) k) ?_
  subst hp0
  exact outV X17 hx hlk hret (hb hby d2_29) (by rw [e17]; exact ⟨rfl, ⟨_, DS0, VA⟩, K0, N0⟩) (by decide) (by decide)
theorem ef_rm_add2 (m : MethodId) (x0 : Addr) (x1 : UInt64) (x2 : Addr) : entryFrame m #[(.ref x0), (.double x1), (.ref x2)] 5 = mkF m 0 #[.val (.ref x0), .val (.double x1), .second, .val (.ref x2), .unset] [] := by first | (simp [entryFrame, mkF, argsToLocals, Value.category, maxLocals]; done) | rfl
set_option maxRecDepth 65536 in
set_option maxHeartbeats 40000000 in
theorem rm_add2 (l : Launch) (Z : State) (a0 : Array Value) (hw : ∀ d ∈ tables_1, d.before a0 Z = true) (a b : Addr) (f : UInt64) (fi : Int) (u0 v0 : UInt64) (i0 j0 : Int) (u1 v1 : UInt64) (i1 j1 : Int)  (h0 : Heap) (n0 : Nat) (Z0 : n0 ≤ h0.size) (VA : Sar Z h0 a .double [(.double u0), (.double u1)]) (VB : Sar Z h0 b .double [(.double v0), (.double v1)]) (nab : a ≠ b) (ga : n0 ≤ a) (FI : Core.DInt fi f) (bf : fi.natAbs ≤ 2147483648) (I0 : Core.DInt i0 u0) (J0 : Core.DInt j0 v0) (bi0 : i0.natAbs ≤ 32768) (bj0 : j0.natAbs ≤ 32768) (I1 : Core.DInt i1 u1) (J1 : Core.DInt j1 v1) (bi1 : i1.natAbs ≤ 32768) (bj1 : j1.natAbs ≤ 32768)  :
    Does l (⟨"com/example/adhoq/adhoq/Vectors", "addTimes", "([DD[D)V"⟩ : MethodName) prog_37_method_4_code 5 none [] ({ frames := 0, cells := 0, slots := 0, locals := 0 } : Room) Z #[(.ref a), (.double f), (.ref b)] h0 (fun v h L => v = none ∧ (∃ s0 s1, Core.DInt (i0 + fi * j0) s0 ∧ Core.DInt (i1 + fi * j1) s1 ∧ Sar Z h a .double [(.double s0), (.double s1)]) ∧ Keep h0 h [a] ∧ Fr n0 L) := by
  refine Does.of (plainFor_of_name pn1) ?_
  intro p e s m below meth c s₁ hx hby hml hret hlk hZ hown hnm X0 e0
  have N0 := Fr.nil n0
  refine Goes.cast (g' := mkF m 0 #[.val (.ref a), .val (.double f), .second, .val (.ref b), .unset] []) (ef_rm_add2 m a f b) ?_
  have K0 := Keep.refl h0 [a]
  refine Goes.by (T' := s₁) (g' := (mkF m 1 #[.val (.ref a), .val (.double f), .second, .val (.ref b), .unset] [(.int (0 : Int32))])) (fun _ k => XS.iconst X0.here hx rfl (hb hby d2_0)  k) ?_
  refine Goes.by (T' := s₁) (g' := (mkF m 3 #[.val (.ref a), .val (.double f), .second, .val (.ref b), .val (.int (0 : Int32))] [])) (fun _ k => XS.istore X0.here hx rfl (hb hby d2_1) rfl (l' := #[.val (.ref a), .val (.double f), .second, .val (.ref b), .val (.int (0 : Int32))]) rfl k) ?_
  refine Goes.by (T' := s₁) (g' := (mkF m 5 #[.val (.ref a), .val (.double f), .second, .val (.ref b), .val (.int (0 : Int32))] [(.int (0 : Int32))])) (fun _ k => XS.iload X0.here hx rfl (hb hby d2_3) rfl k) ?_
  refine Goes.by (T' := s₁) (g' := (mkF m 6 #[.val (.ref a), .val (.double f), .second, .val (.ref b), .val (.int (0 : Int32))] [(.ref a), (.int (0 : Int32))])) (fun _ k => XS.aloadN X0.here hx rfl (hb hby d2_5) rfl rfl k) ?_
  refine Goes.by (T' := s₁) (g' := (mkF m 7 #[.val (.ref a), .val (.double f), .second, .val (.ref b), .val (.int (0 : Int32))] [(.int (2 : Int32)), (.int (0 : Int32))])) (lenS X0 hx hZ e0 VA (n := (2 : Int32)) rfl (g := (mkF m 6 #[.val (.ref a), .val (.double f), .second, .val (.ref b), .val (.int (0 : Int32))] [(.ref a), (.int (0 : Int32))])) rfl rfl (hb hby d2_6)) ?_
  refine Goes.by (T' := s₁) (g' := (mkF m 10 #[.val (.ref a), .val (.double f), .second, .val (.ref b), .val (.int (0 : Int32))] [])) (fun _ k => XS.icmpNo X0.here hx rfl (hb hby d2_7) rfl (by decide) k) ?_
  refine Goes.by (T' := s₁) (g' := (mkF m 11 #[.val (.ref a), .val (.double f), .second, .val (.ref b), .val (.int (0 : Int32))] [(.ref a)])) (fun _ k => XS.aloadN X0.here hx rfl (hb hby d2_10) rfl rfl k) ?_
  refine Goes.by (T' := s₁) (g' := (mkF m 13 #[.val (.ref a), .val (.double f), .second, .val (.ref b), .val (.int (0 : Int32))] [(.int (0 : Int32)), (.ref a)])) (fun _ k => XS.iload X0.here hx rfl (hb hby d2_11) rfl k) ?_
  refine Goes.by (T' := s₁) (g' := (mkF m 14 #[.val (.ref a), .val (.double f), .second, .val (.ref b), .val (.int (0 : Int32))] [(.int (0 : Int32)), (.ref a), (.int (0 : Int32)), (.ref a)])) (fun _ k => XT.dup2 X0.here hx rfl (hb hby d2_13) rfl rfl rfl k) ?_
  refine Goes.by (T' := s₁) (g' := (mkF m 15 #[.val (.ref a), .val (.double f), .second, .val (.ref b), .val (.int (0 : Int32))] [(.double u0), (.int (0 : Int32)), (.ref a)])) (ldDS X0 hx hZ e0 VA (v := (.double u0)) (j := (0 : Int32)) 0 (by decide) rfl (g := (mkF m 14 #[.val (.ref a), .val (.double f), .second, .val (.ref b), .val (.int (0 : Int32))] [(.int (0 : Int32)), (.ref a), (.int (0 : Int32)), (.ref a)])) rfl rfl (hb hby d2_14)) ?_
  refine Goes.by (T' := s₁) (g' := (mkF m 16 #[.val (.ref a), .val (.double f), .second, .val (.ref b), .val (.int (0 : Int32))] [(.double f), (.double u0), (.int (0 : Int32)), (.ref a)])) (fun _ k => XS.dloadN X0.here hx rfl (hb hby d2_15) rfl k) ?_
  refine Goes.by (T' := s₁) (g' := (mkF m 17 #[.val (.ref a), .val (.double f), .second, .val (.ref b), .val (.int (0 : Int32))] [(.ref b), (.double f), (.double u0), (.int (0 : Int32)), (.ref a)])) (fun _ k => XS.aloadN X0.here hx rfl (hb hby d2_16) rfl rfl k) ?_
  refine Goes.by (T' := s₁) (g' := (mkF m 19 #[.val (.ref a), .val (.double f), .second, .val (.ref b), .val (.int (0 : Int32))] [(.int (0 : Int32)), (.ref b), (.double f), (.double u0), (.int (0 : Int32)), (.ref a)])) (fun _ k => XS.iload X0.here hx rfl (hb hby d2_17) rfl k) ?_
  refine Goes.by (T' := s₁) (g' := (mkF m 20 #[.val (.ref a), .val (.double f), .second, .val (.ref b), .val (.int (0 : Int32))] [(.double v0), (.double f), (.double u0), (.int (0 : Int32)), (.ref a)])) (ldDS X0 hx hZ e0 VB (v := (.double v0)) (j := (0 : Int32)) 0 (by decide) rfl (g := (mkF m 19 #[.val (.ref a), .val (.double f), .second, .val (.ref b), .val (.int (0 : Int32))] [(.int (0 : Int32)), (.ref b), (.double f), (.double u0), (.int (0 : Int32)), (.ref a)])) rfl rfl (hb hby d2_19)) ?_
  obtain ⟨p0, hp0⟩ : ∃ z : Int, z = fi * j0 := ⟨_, rfl⟩
  have bp0 : p0.natAbs ≤ 2147483648 * 32768 := by rw [hp0]; exact own_mb bf bj0
  obtain ⟨m0, q_m0⟩ : ∃ zz, FP.dmul f v0 = zz := ⟨_, rfl⟩
  have DM0 : Core.DInt p0 m0 := by rw [hp0]; exact DInt_mul q_m0 FI J0 (by rw [← hp0]; omega)
  refine Goes.by (T' := s₁) (g' := (mkF m 21 #[.val (.ref a), .val (.double f), .second, .val (.ref b), .val (.int (0 : Int32))] [(.double m0), (.double u0), (.int (0 : Int32)), (.ref a)])) (fun _ k => XS.dmulS X0.here hx rfl (hb hby d2_20) rfl (by rw [q_m0]; exact DInt_nn DM0) q_m0 k) ?_
  obtain ⟨s0, q_s0⟩ : ∃ zz, FP.dadd u0 m0 = zz := ⟨_, rfl⟩
  have DS0 := DInt_add q_s0 I0 DM0 (by omega)
  refine Goes.by (T' := s₁) (g' := (mkF m 22 #[.val (.ref a), .val (.double f), .second, .val (.ref b), .val (.int (0 : Int32))] [(.double s0), (.int (0 : Int32)), (.ref a)])) (fun _ k => XS.daddS X0.here hx rfl (hb hby d2_21) rfl (by rw [q_s0]; exact DInt_nn DS0) q_s0 k) ?_
  obtain ⟨T18, h18, X18, e18, W18, V18, st18⟩ := stDS X0 hx hZ e0 VA (j := (0 : Int32)) 0 (by decide) (by show 0 < 2; decide) (g := (mkF m 22 #[.val (.ref a), .val (.double f), .second, .val (.ref b), .val (.int (0 : Int32))] [(.double s0), (.int (0 : Int32)), (.ref a)])) rfl rfl (hb hby d2_22)
  have N0 := Fr.snoc X18 N0 ga
  have VB := VB.other W18 (Ne.symm nab)
  have Z0 := Nat.le_trans Z0 (Nat.le_of_eq W18.size.symm)
  have K0 := K0.wr W18 (Or.inl (List.mem_singleton.mpr rfl))
  have VA : Sar Z h18 a .double [(.double s0), (.double u1)] := V18
  refine Goes.by (T' := T18) (g' := (mkF m 23 #[.val (.ref a), .val (.double f), .second, .val (.ref b), .val (.int (0 : Int32))] [])) st18 ?_
  refine Goes.by (T' := T18) (g' := (mkF m 26 #[.val (.ref a), .val (.double f), .second, .val (.ref b), .val (.int (1 : Int32))] [])) (fun _ k => XS.iinc X18.here hx rfl (hb hby d2_23) rfl (l' := #[.val (.ref a), .val (.double f), .second, .val (.ref b), .val (.int (1 : Int32))]) rfl k) ?_
  refine Goes.by (T' := T18) (g' := (mkF m 3 #[.val (.ref a), .val (.double f), .second, .val (.ref b), .val (.int (1 : Int32))] [])) (fun _ k => XS.goto X18.here hx rfl (pc0 := 26) (pc' := 3) rfl (hb hby d2_26) (by decide) (by decide) k) ?_
  refine Goes.by (T' := T18) (g' := (mkF m 5 #[.val (.ref a), .val (.double f), .second, .val (.ref b), .val (.int (1 : Int32))] [(.int (1 : Int32))])) (fun _ k => XS.iload X18.here hx rfl (hb hby d2_3) rfl k) ?_
  refine Goes.by (T' := T18) (g' := (mkF m 6 #[.val (.ref a), .val (.double f), .second, .val (.ref b), .val (.int (1 : Int32))] [(.ref a), (.int (1 : Int32))])) (fun _ k => XS.aloadN X18.here hx rfl (hb hby d2_5) rfl rfl k) ?_
  refine Goes.by (T' := T18) (g' := (mkF m 7 #[.val (.ref a), .val (.double f), .second, .val (.ref b), .val (.int (1 : Int32))] [(.int (2 : Int32)), (.int (1 : Int32))])) (lenS X18 hx hZ e18 VA (n := (2 : Int32)) rfl (g := (mkF m 6 #[.val (.ref a), .val (.double f), .second, .val (.ref b), .val (.int (1 : Int32))] [(.ref a), (.int (1 : Int32))])) rfl rfl (hb hby d2_6)) ?_
  refine Goes.by (T' := T18) (g' := (mkF m 10 #[.val (.ref a), .val (.double f), .second, .val (.ref b), .val (.int (1 : Int32))] [])) (fun _ k => XS.icmpNo X18.here hx rfl (hb hby d2_7) rfl (by decide) k) ?_
  refine Goes.by (T' := T18) (g' := (mkF m 11 #[.val (.ref a), .val (.double f), .second, .val (.ref b), .val (.int (1 : Int32))] [(.ref a)])) (fun _ k => XS.aloadN X18.here hx rfl (hb hby d2_10) rfl rfl k) ?_
  refine Goes.by (T' := T18) (g' := (mkF m 13 #[.val (.ref a), .val (.double f), .second, .val (.ref b), .val (.int (1 : Int32))] [(.int (1 : Int32)), (.ref a)])) (fun _ k => XS.iload X18.here hx rfl (hb hby d2_11) rfl k) ?_
  refine Goes.by (T' := T18) (g' := (mkF m 14 #[.val (.ref a), .val (.double f), .second, .val (.ref b), .val (.int (1 : Int32))] [(.int (1 : Int32)), (.ref a), (.int (1 : Int32)), (.ref a)])) (fun _ k => XT.dup2 X18.here hx rfl (hb hby d2_13) rfl rfl rfl k) ?_
  refine Goes.by (T' := T18) (g' := (mkF m 15 #[.val (.ref a), .val (.double f), .second, .val (.ref b), .val (.int (1 : Int32))] [(.double u1), (.int (1 : Int32)), (.ref a)])) (ldDS X18 hx hZ e18 VA (v := (.double u1)) (j := (1 : Int32)) 1 (by decide) rfl (g := (mkF m 14 #[.val (.ref a), .val (.double f), .second, .val (.ref b), .val (.int (1 : Int32))] [(.int (1 : Int32)), (.ref a), (.int (1 : Int32)), (.ref a)])) rfl rfl (hb hby d2_14)) ?_
  refine Goes.by (T' := T18) (g' := (mkF m 16 #[.val (.ref a), .val (.double f), .second, .val (.ref b), .val (.int (1 : Int32))] [(.double f), (.double u1), (.int (1 : Int32)), (.ref a)])) (fun _ k => XS.dloadN X18.here hx rfl (hb hby d2_15) rfl k) ?_
  refine Goes.by (T' := T18) (g' := (mkF m 17 #[.val (.ref a), .val (.double f), .second, .val (.ref b), .val (.int (1 : Int32))] [(.ref b), (.double f), (.double u1), (.int (1 : Int32)), (.ref a)])) (fun _ k => XS.aloadN X18.here hx rfl (hb hby d2_16) rfl rfl k) ?_
  refine Goes.by (T' := T18) (g' := (mkF m 19 #[.val (.ref a), .val (.double f), .second, .val (.ref b), .val (.int (1 : Int32))] [(.int (1 : Int32)), (.ref b), (.double f), (.double u1), (.int (1 : Int32)), (.ref a)])) (fun _ k => XS.iload X18.here hx rfl (hb hby d2_17) rfl k) ?_
  refine Goes.by (T' := T18) (g' := (mkF m 20 #[.val (.ref a), .val (.double f), .second, .val (.ref b), .val (.int (1 : Int32))] [(.double v1), (.double f), (.double u1), (.int (1 : Int32)), (.ref a)])) (ldDS X18 hx hZ e18 VB (v := (.double v1)) (j := (1 : Int32)) 1 (by decide) rfl (g := (mkF m 19 #[.val (.ref a), .val (.double f), .second, .val (.ref b), .val (.int (1 : Int32))] [(.int (1 : Int32)), (.ref b), (.double f), (.double u1), (.int (1 : Int32)), (.ref a)])) rfl rfl (hb hby d2_19)) ?_
  obtain ⟨p1, hp1⟩ : ∃ z : Int, z = fi * j1 := ⟨_, rfl⟩
  have bp1 : p1.natAbs ≤ 2147483648 * 32768 := by rw [hp1]; exact own_mb bf bj1
  obtain ⟨m1, q_m1⟩ : ∃ zz, FP.dmul f v1 = zz := ⟨_, rfl⟩
  have DM1 : Core.DInt p1 m1 := by rw [hp1]; exact DInt_mul q_m1 FI J1 (by rw [← hp1]; omega)
  refine Goes.by (T' := T18) (g' := (mkF m 21 #[.val (.ref a), .val (.double f), .second, .val (.ref b), .val (.int (1 : Int32))] [(.double m1), (.double u1), (.int (1 : Int32)), (.ref a)])) (fun _ k => XS.dmulS X18.here hx rfl (hb hby d2_20) rfl (by rw [q_m1]; exact DInt_nn DM1) q_m1 k) ?_
  obtain ⟨s1, q_s1⟩ : ∃ zz, FP.dadd u1 m1 = zz := ⟨_, rfl⟩
  have DS1 := DInt_add q_s1 I1 DM1 (by omega)
  refine Goes.by (T' := T18) (g' := (mkF m 22 #[.val (.ref a), .val (.double f), .second, .val (.ref b), .val (.int (1 : Int32))] [(.double s1), (.int (1 : Int32)), (.ref a)])) (fun _ k => XS.daddS X18.here hx rfl (hb hby d2_21) rfl (by rw [q_s1]; exact DInt_nn DS1) q_s1 k) ?_
  obtain ⟨T19, h19, X19, e19, W19, V19, st19⟩ := stDS X18 hx hZ e18 VA (j := (1 : Int32)) 1 (by decide) (by show 1 < 2; decide) (g := (mkF m 22 #[.val (.ref a), .val (.double f), .second, .val (.ref b), .val (.int (1 : Int32))] [(.double s1), (.int (1 : Int32)), (.ref a)])) rfl rfl (hb hby d2_22)
  have N0 := Fr.snoc X19 N0 ga
  have VB := VB.other W19 (Ne.symm nab)
  have Z0 := Nat.le_trans Z0 (Nat.le_of_eq W19.size.symm)
  have K0 := K0.wr W19 (Or.inl (List.mem_singleton.mpr rfl))
  have VA : Sar Z h19 a .double [(.double s0), (.double s1)] := V19
  refine Goes.by (T' := T19) (g' := (mkF m 23 #[.val (.ref a), .val (.double f), .second, .val (.ref b), .val (.int (1 : Int32))] [])) st19 ?_
  refine Goes.by (T' := T19) (g' := (mkF m 26 #[.val (.ref a), .val (.double f), .second, .val (.ref b), .val (.int (2 : Int32))] [])) (fun _ k => XS.iinc X19.here hx rfl (hb hby d2_23) rfl (l' := #[.val (.ref a), .val (.double f), .second, .val (.ref b), .val (.int (2 : Int32))]) rfl k) ?_
  refine Goes.by (T' := T19) (g' := (mkF m 3 #[.val (.ref a), .val (.double f), .second, .val (.ref b), .val (.int (2 : Int32))] [])) (fun _ k => XS.goto X19.here hx rfl (pc0 := 26) (pc' := 3) rfl (hb hby d2_26) (by decide) (by decide) k) ?_
  refine Goes.by (T' := T19) (g' := (mkF m 5 #[.val (.ref a), .val (.double f), .second, .val (.ref b), .val (.int (2 : Int32))] [(.int (2 : Int32))])) (fun _ k => XS.iload X19.here hx rfl (hb hby d2_3) rfl k) ?_
  refine Goes.by (T' := T19) (g' := (mkF m 6 #[.val (.ref a), .val (.double f), .second, .val (.ref b), .val (.int (2 : Int32))] [(.ref a), (.int (2 : Int32))])) (fun _ k => XS.aloadN X19.here hx rfl (hb hby d2_5) rfl rfl k) ?_
  refine Goes.by (T' := T19) (g' := (mkF m 7 #[.val (.ref a), .val (.double f), .second, .val (.ref b), .val (.int (2 : Int32))] [(.int (2 : Int32)), (.int (2 : Int32))])) (lenS X19 hx hZ e19 VA (n := (2 : Int32)) rfl (g := (mkF m 6 #[.val (.ref a), .val (.double f), .second, .val (.ref b), .val (.int (2 : Int32))] [(.ref a), (.int (2 : Int32))])) rfl rfl (hb hby d2_6)) ?_
  refine Goes.by (T' := T19) (g' := (mkF m 29 #[.val (.ref a), .val (.double f), .second, .val (.ref b), .val (.int (2 : Int32))] [])) (fun _ k => XS.icmpYes X19.here hx rfl (pc0 := 7) (pc' := 29) rfl (hb hby d2_7) rfl (by decide) (by decide) (by decide) k) ?_
  subst hp0
  subst hp1
  exact outV X19 hx hlk hret (hb hby d2_29) (by rw [e19]; exact ⟨rfl, ⟨_, _, DS0, DS1, VA⟩, K0, N0⟩) (by decide) (by decide)
theorem ef_rm_add3 (m : MethodId) (x0 : Addr) (x1 : UInt64) (x2 : Addr) : entryFrame m #[(.ref x0), (.double x1), (.ref x2)] 5 = mkF m 0 #[.val (.ref x0), .val (.double x1), .second, .val (.ref x2), .unset] [] := by first | (simp [entryFrame, mkF, argsToLocals, Value.category, maxLocals]; done) | rfl
set_option maxRecDepth 65536 in
set_option maxHeartbeats 40000000 in
theorem rm_add3 (l : Launch) (Z : State) (a0 : Array Value) (hw : ∀ d ∈ tables_1, d.before a0 Z = true) (a b : Addr) (f : UInt64) (fi : Int) (u0 v0 : UInt64) (i0 j0 : Int) (u1 v1 : UInt64) (i1 j1 : Int) (u2 v2 : UInt64) (i2 j2 : Int)  (h0 : Heap) (n0 : Nat) (Z0 : n0 ≤ h0.size) (VA : Sar Z h0 a .double [(.double u0), (.double u1), (.double u2)]) (VB : Sar Z h0 b .double [(.double v0), (.double v1), (.double v2)]) (nab : a ≠ b) (ga : n0 ≤ a) (FI : Core.DInt fi f) (bf : fi.natAbs ≤ 2147483648) (I0 : Core.DInt i0 u0) (J0 : Core.DInt j0 v0) (bi0 : i0.natAbs ≤ 32768) (bj0 : j0.natAbs ≤ 32768) (I1 : Core.DInt i1 u1) (J1 : Core.DInt j1 v1) (bi1 : i1.natAbs ≤ 32768) (bj1 : j1.natAbs ≤ 32768) (I2 : Core.DInt i2 u2) (J2 : Core.DInt j2 v2) (bi2 : i2.natAbs ≤ 32768) (bj2 : j2.natAbs ≤ 32768)  :
    Does l (⟨"com/example/adhoq/adhoq/Vectors", "addTimes", "([DD[D)V"⟩ : MethodName) prog_37_method_4_code 5 none [] ({ frames := 0, cells := 0, slots := 0, locals := 0 } : Room) Z #[(.ref a), (.double f), (.ref b)] h0 (fun v h L => v = none ∧ (∃ s0 s1 s2, Core.DInt (i0 + fi * j0) s0 ∧ Core.DInt (i1 + fi * j1) s1 ∧ Core.DInt (i2 + fi * j2) s2 ∧ Sar Z h a .double [(.double s0), (.double s1), (.double s2)]) ∧ Keep h0 h [a] ∧ Fr n0 L) := by
  refine Does.of (plainFor_of_name pn1) ?_
  intro p e s m below meth c s₁ hx hby hml hret hlk hZ hown hnm X0 e0
  have N0 := Fr.nil n0
  refine Goes.cast (g' := mkF m 0 #[.val (.ref a), .val (.double f), .second, .val (.ref b), .unset] []) (ef_rm_add3 m a f b) ?_
  have K0 := Keep.refl h0 [a]
  refine Goes.by (T' := s₁) (g' := (mkF m 1 #[.val (.ref a), .val (.double f), .second, .val (.ref b), .unset] [(.int (0 : Int32))])) (fun _ k => XS.iconst X0.here hx rfl (hb hby d2_0)  k) ?_
  refine Goes.by (T' := s₁) (g' := (mkF m 3 #[.val (.ref a), .val (.double f), .second, .val (.ref b), .val (.int (0 : Int32))] [])) (fun _ k => XS.istore X0.here hx rfl (hb hby d2_1) rfl (l' := #[.val (.ref a), .val (.double f), .second, .val (.ref b), .val (.int (0 : Int32))]) rfl k) ?_
  refine Goes.by (T' := s₁) (g' := (mkF m 5 #[.val (.ref a), .val (.double f), .second, .val (.ref b), .val (.int (0 : Int32))] [(.int (0 : Int32))])) (fun _ k => XS.iload X0.here hx rfl (hb hby d2_3) rfl k) ?_
  refine Goes.by (T' := s₁) (g' := (mkF m 6 #[.val (.ref a), .val (.double f), .second, .val (.ref b), .val (.int (0 : Int32))] [(.ref a), (.int (0 : Int32))])) (fun _ k => XS.aloadN X0.here hx rfl (hb hby d2_5) rfl rfl k) ?_
  refine Goes.by (T' := s₁) (g' := (mkF m 7 #[.val (.ref a), .val (.double f), .second, .val (.ref b), .val (.int (0 : Int32))] [(.int (3 : Int32)), (.int (0 : Int32))])) (lenS X0 hx hZ e0 VA (n := (3 : Int32)) rfl (g := (mkF m 6 #[.val (.ref a), .val (.double f), .second, .val (.ref b), .val (.int (0 : Int32))] [(.ref a), (.int (0 : Int32))])) rfl rfl (hb hby d2_6)) ?_
  refine Goes.by (T' := s₁) (g' := (mkF m 10 #[.val (.ref a), .val (.double f), .second, .val (.ref b), .val (.int (0 : Int32))] [])) (fun _ k => XS.icmpNo X0.here hx rfl (hb hby d2_7) rfl (by decide) k) ?_
  refine Goes.by (T' := s₁) (g' := (mkF m 11 #[.val (.ref a), .val (.double f), .second, .val (.ref b), .val (.int (0 : Int32))] [(.ref a)])) (fun _ k => XS.aloadN X0.here hx rfl (hb hby d2_10) rfl rfl k) ?_
  refine Goes.by (T' := s₁) (g' := (mkF m 13 #[.val (.ref a), .val (.double f), .second, .val (.ref b), .val (.int (0 : Int32))] [(.int (0 : Int32)), (.ref a)])) (fun _ k => XS.iload X0.here hx rfl (hb hby d2_11) rfl k) ?_
  refine Goes.by (T' := s₁) (g' := (mkF m 14 #[.val (.ref a), .val (.double f), .second, .val (.ref b), .val (.int (0 : Int32))] [(.int (0 : Int32)), (.ref a), (.int (0 : Int32)), (.ref a)])) (fun _ k => XT.dup2 X0.here hx rfl (hb hby d2_13) rfl rfl rfl k) ?_
  refine Goes.by (T' := s₁) (g' := (mkF m 15 #[.val (.ref a), .val (.double f), .second, .val (.ref b), .val (.int (0 : Int32))] [(.double u0), (.int (0 : Int32)), (.ref a)])) (ldDS X0 hx hZ e0 VA (v := (.double u0)) (j := (0 : Int32)) 0 (by decide) rfl (g := (mkF m 14 #[.val (.ref a), .val (.double f), .second, .val (.ref b), .val (.int (0 : Int32))] [(.int (0 : Int32)), (.ref a), (.int (0 : Int32)), (.ref a)])) rfl rfl (hb hby d2_14)) ?_
  refine Goes.by (T' := s₁) (g' := (mkF m 16 #[.val (.ref a), .val (.double f), .second, .val (.ref b), .val (.int (0 : Int32))] [(.double f), (.double u0), (.int (0 : Int32)), (.ref a)])) (fun _ k => XS.dloadN X0.here hx rfl (hb hby d2_15) rfl k) ?_
  refine Goes.by (T' := s₁) (g' := (mkF m 17 #[.val (.ref a), .val (.double f), .second, .val (.ref b), .val (.int (0 : Int32))] [(.ref b), (.double f), (.double u0), (.int (0 : Int32)), (.ref a)])) (fun _ k => XS.aloadN X0.here hx rfl (hb hby d2_16) rfl rfl k) ?_
  refine Goes.by (T' := s₁) (g' := (mkF m 19 #[.val (.ref a), .val (.double f), .second, .val (.ref b), .val (.int (0 : Int32))] [(.int (0 : Int32)), (.ref b), (.double f), (.double u0), (.int (0 : Int32)), (.ref a)])) (fun _ k => XS.iload X0.here hx rfl (hb hby d2_17) rfl k) ?_
  refine Goes.by (T' := s₁) (g' := (mkF m 20 #[.val (.ref a), .val (.double f), .second, .val (.ref b), .val (.int (0 : Int32))] [(.double v0), (.double f), (.double u0), (.int (0 : Int32)), (.ref a)])) (ldDS X0 hx hZ e0 VB (v := (.double v0)) (j := (0 : Int32)) 0 (by decide) rfl (g := (mkF m 19 #[.val (.ref a), .val (.double f), .second, .val (.ref b), .val (.int (0 : Int32))] [(.int (0 : Int32)), (.ref b), (.double f), (.double u0), (.int (0 : Int32)), (.ref a)])) rfl rfl (hb hby d2_19)) ?_
  obtain ⟨p0, hp0⟩ : ∃ z : Int, z = fi * j0 := ⟨_, rfl⟩
  have bp0 : p0.natAbs ≤ 2147483648 * 32768 := by rw [hp0]; exact own_mb bf bj0
  obtain ⟨m0, q_m0⟩ : ∃ zz, FP.dmul f v0 = zz := ⟨_, rfl⟩
  have DM0 : Core.DInt p0 m0 := by rw [hp0]; exact DInt_mul q_m0 FI J0 (by rw [← hp0]; omega)
  refine Goes.by (T' := s₁) (g' := (mkF m 21 #[.val (.ref a), .val (.double f), .second, .val (.ref b), .val (.int (0 : Int32))] [(.double m0), (.double u0), (.int (0 : Int32)), (.ref a)])) (fun _ k => XS.dmulS X0.here hx rfl (hb hby d2_20) rfl (by rw [q_m0]; exact DInt_nn DM0) q_m0 k) ?_
  obtain ⟨s0, q_s0⟩ : ∃ zz, FP.dadd u0 m0 = zz := ⟨_, rfl⟩
  have DS0 := DInt_add q_s0 I0 DM0 (by omega)
  refine Goes.by (T' := s₁) (g' := (mkF m 22 #[.val (.ref a), .val (.double f), .second, .val (.ref b), .val (.int (0 : Int32))] [(.double s0), (.int (0 : Int32)), (.ref a)])) (fun _ k => XS.daddS X0.here hx rfl (hb hby d2_21) rfl (by rw [q_s0]; exact DInt_nn DS0) q_s0 k) ?_
  obtain ⟨T20, h20, X20, e20, W20, V20, st20⟩ := stDS X0 hx hZ e0 VA (j := (0 : Int32)) 0 (by decide) (by show 0 < 3; decide) (g := (mkF m 22 #[.val (.ref a), .val (.double f), .second, .val (.ref b), .val (.int (0 : Int32))] [(.double s0), (.int (0 : Int32)), (.ref a)])) rfl rfl (hb hby d2_22)
  have N0 := Fr.snoc X20 N0 ga
  have VB := VB.other W20 (Ne.symm nab)
  have Z0 := Nat.le_trans Z0 (Nat.le_of_eq W20.size.symm)
  have K0 := K0.wr W20 (Or.inl (List.mem_singleton.mpr rfl))
  have VA : Sar Z h20 a .double [(.double s0), (.double u1), (.double u2)] := V20
  refine Goes.by (T' := T20) (g' := (mkF m 23 #[.val (.ref a), .val (.double f), .second, .val (.ref b), .val (.int (0 : Int32))] [])) st20 ?_
  refine Goes.by (T' := T20) (g' := (mkF m 26 #[.val (.ref a), .val (.double f), .second, .val (.ref b), .val (.int (1 : Int32))] [])) (fun _ k => XS.iinc X20.here hx rfl (hb hby d2_23) rfl (l' := #[.val (.ref a), .val (.double f), .second, .val (.ref b), .val (.int (1 : Int32))]) rfl k) ?_
  refine Goes.by (T' := T20) (g' := (mkF m 3 #[.val (.ref a), .val (.double f), .second, .val (.ref b), .val (.int (1 : Int32))] [])) (fun _ k => XS.goto X20.here hx rfl (pc0 := 26) (pc' := 3) rfl (hb hby d2_26) (by decide) (by decide) k) ?_
  refine Goes.by (T' := T20) (g' := (mkF m 5 #[.val (.ref a), .val (.double f), .second, .val (.ref b), .val (.int (1 : Int32))] [(.int (1 : Int32))])) (fun _ k => XS.iload X20.here hx rfl (hb hby d2_3) rfl k) ?_
  refine Goes.by (T' := T20) (g' := (mkF m 6 #[.val (.ref a), .val (.double f), .second, .val (.ref b), .val (.int (1 : Int32))] [(.ref a), (.int (1 : Int32))])) (fun _ k => XS.aloadN X20.here hx rfl (hb hby d2_5) rfl rfl k) ?_
  refine Goes.by (T' := T20) (g' := (mkF m 7 #[.val (.ref a), .val (.double f), .second, .val (.ref b), .val (.int (1 : Int32))] [(.int (3 : Int32)), (.int (1 : Int32))])) (lenS X20 hx hZ e20 VA (n := (3 : Int32)) rfl (g := (mkF m 6 #[.val (.ref a), .val (.double f), .second, .val (.ref b), .val (.int (1 : Int32))] [(.ref a), (.int (1 : Int32))])) rfl rfl (hb hby d2_6)) ?_
  refine Goes.by (T' := T20) (g' := (mkF m 10 #[.val (.ref a), .val (.double f), .second, .val (.ref b), .val (.int (1 : Int32))] [])) (fun _ k => XS.icmpNo X20.here hx rfl (hb hby d2_7) rfl (by decide) k) ?_
  refine Goes.by (T' := T20) (g' := (mkF m 11 #[.val (.ref a), .val (.double f), .second, .val (.ref b), .val (.int (1 : Int32))] [(.ref a)])) (fun _ k => XS.aloadN X20.here hx rfl (hb hby d2_10) rfl rfl k) ?_
  refine Goes.by (T' := T20) (g' := (mkF m 13 #[.val (.ref a), .val (.double f), .second, .val (.ref b), .val (.int (1 : Int32))] [(.int (1 : Int32)), (.ref a)])) (fun _ k => XS.iload X20.here hx rfl (hb hby d2_11) rfl k) ?_
  refine Goes.by (T' := T20) (g' := (mkF m 14 #[.val (.ref a), .val (.double f), .second, .val (.ref b), .val (.int (1 : Int32))] [(.int (1 : Int32)), (.ref a), (.int (1 : Int32)), (.ref a)])) (fun _ k => XT.dup2 X20.here hx rfl (hb hby d2_13) rfl rfl rfl k) ?_
  refine Goes.by (T' := T20) (g' := (mkF m 15 #[.val (.ref a), .val (.double f), .second, .val (.ref b), .val (.int (1 : Int32))] [(.double u1), (.int (1 : Int32)), (.ref a)])) (ldDS X20 hx hZ e20 VA (v := (.double u1)) (j := (1 : Int32)) 1 (by decide) rfl (g := (mkF m 14 #[.val (.ref a), .val (.double f), .second, .val (.ref b), .val (.int (1 : Int32))] [(.int (1 : Int32)), (.ref a), (.int (1 : Int32)), (.ref a)])) rfl rfl (hb hby d2_14)) ?_
  refine Goes.by (T' := T20) (g' := (mkF m 16 #[.val (.ref a), .val (.double f), .second, .val (.ref b), .val (.int (1 : Int32))] [(.double f), (.double u1), (.int (1 : Int32)), (.ref a)])) (fun _ k => XS.dloadN X20.here hx rfl (hb hby d2_15) rfl k) ?_
  refine Goes.by (T' := T20) (g' := (mkF m 17 #[.val (.ref a), .val (.double f), .second, .val (.ref b), .val (.int (1 : Int32))] [(.ref b), (.double f), (.double u1), (.int (1 : Int32)), (.ref a)])) (fun _ k => XS.aloadN X20.here hx rfl (hb hby d2_16) rfl rfl k) ?_
  refine Goes.by (T' := T20) (g' := (mkF m 19 #[.val (.ref a), .val (.double f), .second, .val (.ref b), .val (.int (1 : Int32))] [(.int (1 : Int32)), (.ref b), (.double f), (.double u1), (.int (1 : Int32)), (.ref a)])) (fun _ k => XS.iload X20.here hx rfl (hb hby d2_17) rfl k) ?_
  refine Goes.by (T' := T20) (g' := (mkF m 20 #[.val (.ref a), .val (.double f), .second, .val (.ref b), .val (.int (1 : Int32))] [(.double v1), (.double f), (.double u1), (.int (1 : Int32)), (.ref a)])) (ldDS X20 hx hZ e20 VB (v := (.double v1)) (j := (1 : Int32)) 1 (by decide) rfl (g := (mkF m 19 #[.val (.ref a), .val (.double f), .second, .val (.ref b), .val (.int (1 : Int32))] [(.int (1 : Int32)), (.ref b), (.double f), (.double u1), (.int (1 : Int32)), (.ref a)])) rfl rfl (hb hby d2_19)) ?_
  obtain ⟨p1, hp1⟩ : ∃ z : Int, z = fi * j1 := ⟨_, rfl⟩
  have bp1 : p1.natAbs ≤ 2147483648 * 32768 := by rw [hp1]; exact own_mb bf bj1
  obtain ⟨m1, q_m1⟩ : ∃ zz, FP.dmul f v1 = zz := ⟨_, rfl⟩
  have DM1 : Core.DInt p1 m1 := by rw [hp1]; exact DInt_mul q_m1 FI J1 (by rw [← hp1]; omega)
  refine Goes.by (T' := T20) (g' := (mkF m 21 #[.val (.ref a), .val (.double f), .second, .val (.ref b), .val (.int (1 : Int32))] [(.double m1), (.double u1), (.int (1 : Int32)), (.ref a)])) (fun _ k => XS.dmulS X20.here hx rfl (hb hby d2_20) rfl (by rw [q_m1]; exact DInt_nn DM1) q_m1 k) ?_
  obtain ⟨s1, q_s1⟩ : ∃ zz, FP.dadd u1 m1 = zz := ⟨_, rfl⟩
  have DS1 := DInt_add q_s1 I1 DM1 (by omega)
  refine Goes.by (T' := T20) (g' := (mkF m 22 #[.val (.ref a), .val (.double f), .second, .val (.ref b), .val (.int (1 : Int32))] [(.double s1), (.int (1 : Int32)), (.ref a)])) (fun _ k => XS.daddS X20.here hx rfl (hb hby d2_21) rfl (by rw [q_s1]; exact DInt_nn DS1) q_s1 k) ?_
  obtain ⟨T21, h21, X21, e21, W21, V21, st21⟩ := stDS X20 hx hZ e20 VA (j := (1 : Int32)) 1 (by decide) (by show 1 < 3; decide) (g := (mkF m 22 #[.val (.ref a), .val (.double f), .second, .val (.ref b), .val (.int (1 : Int32))] [(.double s1), (.int (1 : Int32)), (.ref a)])) rfl rfl (hb hby d2_22)
  have N0 := Fr.snoc X21 N0 ga
  have VB := VB.other W21 (Ne.symm nab)
  have Z0 := Nat.le_trans Z0 (Nat.le_of_eq W21.size.symm)
  have K0 := K0.wr W21 (Or.inl (List.mem_singleton.mpr rfl))
  have VA : Sar Z h21 a .double [(.double s0), (.double s1), (.double u2)] := V21
  refine Goes.by (T' := T21) (g' := (mkF m 23 #[.val (.ref a), .val (.double f), .second, .val (.ref b), .val (.int (1 : Int32))] [])) st21 ?_
  refine Goes.by (T' := T21) (g' := (mkF m 26 #[.val (.ref a), .val (.double f), .second, .val (.ref b), .val (.int (2 : Int32))] [])) (fun _ k => XS.iinc X21.here hx rfl (hb hby d2_23) rfl (l' := #[.val (.ref a), .val (.double f), .second, .val (.ref b), .val (.int (2 : Int32))]) rfl k) ?_
  refine Goes.by (T' := T21) (g' := (mkF m 3 #[.val (.ref a), .val (.double f), .second, .val (.ref b), .val (.int (2 : Int32))] [])) (fun _ k => XS.goto X21.here hx rfl (pc0 := 26) (pc' := 3) rfl (hb hby d2_26) (by decide) (by decide) k) ?_
  refine Goes.by (T' := T21) (g' := (mkF m 5 #[.val (.ref a), .val (.double f), .second, .val (.ref b), .val (.int (2 : Int32))] [(.int (2 : Int32))])) (fun _ k => XS.iload X21.here hx rfl (hb hby d2_3) rfl k) ?_
  refine Goes.by (T' := T21) (g' := (mkF m 6 #[.val (.ref a), .val (.double f), .second, .val (.ref b), .val (.int (2 : Int32))] [(.ref a), (.int (2 : Int32))])) (fun _ k => XS.aloadN X21.here hx rfl (hb hby d2_5) rfl rfl k) ?_
  refine Goes.by (T' := T21) (g' := (mkF m 7 #[.val (.ref a), .val (.double f), .second, .val (.ref b), .val (.int (2 : Int32))] [(.int (3 : Int32)), (.int (2 : Int32))])) (lenS X21 hx hZ e21 VA (n := (3 : Int32)) rfl (g := (mkF m 6 #[.val (.ref a), .val (.double f), .second, .val (.ref b), .val (.int (2 : Int32))] [(.ref a), (.int (2 : Int32))])) rfl rfl (hb hby d2_6)) ?_
  refine Goes.by (T' := T21) (g' := (mkF m 10 #[.val (.ref a), .val (.double f), .second, .val (.ref b), .val (.int (2 : Int32))] [])) (fun _ k => XS.icmpNo X21.here hx rfl (hb hby d2_7) rfl (by decide) k) ?_
  refine Goes.by (T' := T21) (g' := (mkF m 11 #[.val (.ref a), .val (.double f), .second, .val (.ref b), .val (.int (2 : Int32))] [(.ref a)])) (fun _ k => XS.aloadN X21.here hx rfl (hb hby d2_10) rfl rfl k) ?_
  refine Goes.by (T' := T21) (g' := (mkF m 13 #[.val (.ref a), .val (.double f), .second, .val (.ref b), .val (.int (2 : Int32))] [(.int (2 : Int32)), (.ref a)])) (fun _ k => XS.iload X21.here hx rfl (hb hby d2_11) rfl k) ?_
  refine Goes.by (T' := T21) (g' := (mkF m 14 #[.val (.ref a), .val (.double f), .second, .val (.ref b), .val (.int (2 : Int32))] [(.int (2 : Int32)), (.ref a), (.int (2 : Int32)), (.ref a)])) (fun _ k => XT.dup2 X21.here hx rfl (hb hby d2_13) rfl rfl rfl k) ?_
  refine Goes.by (T' := T21) (g' := (mkF m 15 #[.val (.ref a), .val (.double f), .second, .val (.ref b), .val (.int (2 : Int32))] [(.double u2), (.int (2 : Int32)), (.ref a)])) (ldDS X21 hx hZ e21 VA (v := (.double u2)) (j := (2 : Int32)) 2 (by decide) rfl (g := (mkF m 14 #[.val (.ref a), .val (.double f), .second, .val (.ref b), .val (.int (2 : Int32))] [(.int (2 : Int32)), (.ref a), (.int (2 : Int32)), (.ref a)])) rfl rfl (hb hby d2_14)) ?_
  refine Goes.by (T' := T21) (g' := (mkF m 16 #[.val (.ref a), .val (.double f), .second, .val (.ref b), .val (.int (2 : Int32))] [(.double f), (.double u2), (.int (2 : Int32)), (.ref a)])) (fun _ k => XS.dloadN X21.here hx rfl (hb hby d2_15) rfl k) ?_
  refine Goes.by (T' := T21) (g' := (mkF m 17 #[.val (.ref a), .val (.double f), .second, .val (.ref b), .val (.int (2 : Int32))] [(.ref b), (.double f), (.double u2), (.int (2 : Int32)), (.ref a)])) (fun _ k => XS.aloadN X21.here hx rfl (hb hby d2_16) rfl rfl k) ?_
  refine Goes.by (T' := T21) (g' := (mkF m 19 #[.val (.ref a), .val (.double f), .second, .val (.ref b), .val (.int (2 : Int32))] [(.int (2 : Int32)), (.ref b), (.double f), (.double u2), (.int (2 : Int32)), (.ref a)])) (fun _ k => XS.iload X21.here hx rfl (hb hby d2_17) rfl k) ?_
  refine Goes.by (T' := T21) (g' := (mkF m 20 #[.val (.ref a), .val (.double f), .second, .val (.ref b), .val (.int (2 : Int32))] [(.double v2), (.double f), (.double u2), (.int (2 : Int32)), (.ref a)])) (ldDS X21 hx hZ e21 VB (v := (.double v2)) (j := (2 : Int32)) 2 (by decide) rfl (g := (mkF m 19 #[.val (.ref a), .val (.double f), .second, .val (.ref b), .val (.int (2 : Int32))] [(.int (2 : Int32)), (.ref b), (.double f), (.double u2), (.int (2 : Int32)), (.ref a)])) rfl rfl (hb hby d2_19)) ?_
  obtain ⟨p2, hp2⟩ : ∃ z : Int, z = fi * j2 := ⟨_, rfl⟩
  have bp2 : p2.natAbs ≤ 2147483648 * 32768 := by rw [hp2]; exact own_mb bf bj2
  obtain ⟨m2, q_m2⟩ : ∃ zz, FP.dmul f v2 = zz := ⟨_, rfl⟩
  have DM2 : Core.DInt p2 m2 := by rw [hp2]; exact DInt_mul q_m2 FI J2 (by rw [← hp2]; omega)
  refine Goes.by (T' := T21) (g' := (mkF m 21 #[.val (.ref a), .val (.double f), .second, .val (.ref b), .val (.int (2 : Int32))] [(.double m2), (.double u2), (.int (2 : Int32)), (.ref a)])) (fun _ k => XS.dmulS X21.here hx rfl (hb hby d2_20) rfl (by rw [q_m2]; exact DInt_nn DM2) q_m2 k) ?_
  obtain ⟨s2, q_s2⟩ : ∃ zz, FP.dadd u2 m2 = zz := ⟨_, rfl⟩
  have DS2 := DInt_add q_s2 I2 DM2 (by omega)
  refine Goes.by (T' := T21) (g' := (mkF m 22 #[.val (.ref a), .val (.double f), .second, .val (.ref b), .val (.int (2 : Int32))] [(.double s2), (.int (2 : Int32)), (.ref a)])) (fun _ k => XS.daddS X21.here hx rfl (hb hby d2_21) rfl (by rw [q_s2]; exact DInt_nn DS2) q_s2 k) ?_
  obtain ⟨T22, h22, X22, e22, W22, V22, st22⟩ := stDS X21 hx hZ e21 VA (j := (2 : Int32)) 2 (by decide) (by show 2 < 3; decide) (g := (mkF m 22 #[.val (.ref a), .val (.double f), .second, .val (.ref b), .val (.int (2 : Int32))] [(.double s2), (.int (2 : Int32)), (.ref a)])) rfl rfl (hb hby d2_22)
  have N0 := Fr.snoc X22 N0 ga
  have VB := VB.other W22 (Ne.symm nab)
  have Z0 := Nat.le_trans Z0 (Nat.le_of_eq W22.size.symm)
  have K0 := K0.wr W22 (Or.inl (List.mem_singleton.mpr rfl))
  have VA : Sar Z h22 a .double [(.double s0), (.double s1), (.double s2)] := V22
  refine Goes.by (T' := T22) (g' := (mkF m 23 #[.val (.ref a), .val (.double f), .second, .val (.ref b), .val (.int (2 : Int32))] [])) st22 ?_
  refine Goes.by (T' := T22) (g' := (mkF m 26 #[.val (.ref a), .val (.double f), .second, .val (.ref b), .val (.int (3 : Int32))] [])) (fun _ k => XS.iinc X22.here hx rfl (hb hby d2_23) rfl (l' := #[.val (.ref a), .val (.double f), .second, .val (.ref b), .val (.int (3 : Int32))]) rfl k) ?_
  refine Goes.by (T' := T22) (g' := (mkF m 3 #[.val (.ref a), .val (.double f), .second, .val (.ref b), .val (.int (3 : Int32))] [])) (fun _ k => XS.goto X22.here hx rfl (pc0 := 26) (pc' := 3) rfl (hb hby d2_26) (by decide) (by decide) k) ?_
  refine Goes.by (T' := T22) (g' := (mkF m 5 #[.val (.ref a), .val (.double f), .second, .val (.ref b), .val (.int (3 : Int32))] [(.int (3 : Int32))])) (fun _ k => XS.iload X22.here hx rfl (hb hby d2_3) rfl k) ?_
  refine Goes.by (T' := T22) (g' := (mkF m 6 #[.val (.ref a), .val (.double f), .second, .val (.ref b), .val (.int (3 : Int32))] [(.ref a), (.int (3 : Int32))])) (fun _ k => XS.aloadN X22.here hx rfl (hb hby d2_5) rfl rfl k) ?_
  refine Goes.by (T' := T22) (g' := (mkF m 7 #[.val (.ref a), .val (.double f), .second, .val (.ref b), .val (.int (3 : Int32))] [(.int (3 : Int32)), (.int (3 : Int32))])) (lenS X22 hx hZ e22 VA (n := (3 : Int32)) rfl (g := (mkF m 6 #[.val (.ref a), .val (.double f), .second, .val (.ref b), .val (.int (3 : Int32))] [(.ref a), (.int (3 : Int32))])) rfl rfl (hb hby d2_6)) ?_
  refine Goes.by (T' := T22) (g' := (mkF m 29 #[.val (.ref a), .val (.double f), .second, .val (.ref b), .val (.int (3 : Int32))] [])) (fun _ k => XS.icmpYes X22.here hx rfl (pc0 := 7) (pc' := 29) rfl (hb hby d2_7) rfl (by decide) (by decide) (by decide) k) ?_
  subst hp0
  subst hp1
  subst hp2
  exact outV X22 hx hlk hret (hb hby d2_29) (by rw [e22]; exact ⟨rfl, ⟨_, _, _, DS0, DS1, DS2, VA⟩, K0, N0⟩) (by decide) (by decide)
theorem d3_0 : decode method_4_code 0 = .ok (.iload 8, 2) := by decide +kernel
theorem d3_2 : decode method_4_code 2 = .ok (.iload 9, 2) := by decide +kernel
theorem d3_4 : decode method_4_code 4 = .ok (.if_icmp .lt 5, 3) := by decide +kernel
theorem d3_7 : decode method_4_code 7 = .ok (.iconst 1, 1) := by decide +kernel
theorem d3_8 : decode method_4_code 8 = .ok (.ireturn, 1) := by decide +kernel
theorem d3_9 : decode method_4_code 9 = .ok (.lload_n 2, 1) := by decide +kernel
theorem d3_10 : decode method_4_code 10 = .ok (.iload 8, 2) := by decide +kernel
theorem d3_12 : decode method_4_code 12 = .ok (.invokestatic 7, 3) := by decide +kernel
theorem d3_15 : decode method_4_code 15 = .ok (.lload 6, 2) := by decide +kernel
theorem d3_17 : decode method_4_code 17 = .ok (.lload 4, 2) := by decide +kernel
theorem d3_19 : decode method_4_code 19 = .ok (.iload 8, 2) := by decide +kernel
theorem d3_21 : decode method_4_code 21 = .ok (.invokestatic 7, 3) := by decide +kernel
theorem d3_24 : decode method_4_code 24 = .ok (.lmul, 1) := by decide +kernel
theorem d3_25 : decode method_4_code 25 = .ok (.ladd, 1) := by decide +kernel
theorem d3_26 : decode method_4_code 26 = .ok (.lstore 10, 2) := by decide +kernel
theorem d3_28 : decode method_4_code 28 = .ok (.aload_n 0, 1) := by decide +kernel
theorem d3_29 : decode method_4_code 29 = .ok (.iload 8, 2) := by decide +kernel
theorem d3_31 : decode method_4_code 31 = .ok (.daload, 1) := by decide +kernel
theorem d3_32 : decode method_4_code 32 = .ok (.lload 10, 2) := by decide +kernel
theorem d3_34 : decode method_4_code 34 = .ok (.l2d, 1) := by decide +kernel
theorem d3_35 : decode method_4_code 35 = .ok (.dcmp .l, 1) := by decide +kernel
theorem d3_36 : decode method_4_code 36 = .ok (.ifCond .ne 23, 3) := by decide +kernel
theorem d3_39 : decode method_4_code 39 = .ok (.aload_n 1, 1) := by decide +kernel
theorem d3_40 : decode method_4_code 40 = .ok (.iload 8, 2) := by decide +kernel
theorem d3_42 : decode method_4_code 42 = .ok (.daload, 1) := by decide +kernel
theorem d3_43 : decode method_4_code 43 = .ok (.lload 4, 2) := by decide +kernel
theorem d3_45 : decode method_4_code 45 = .ok (.iload 8, 2) := by decide +kernel
theorem d3_47 : decode method_4_code 47 = .ok (.invokestatic 7, 3) := by decide +kernel
theorem d3_50 : decode method_4_code 50 = .ok (.l2d, 1) := by decide +kernel
theorem d3_51 : decode method_4_code 51 = .ok (.dcmp .l, 1) := by decide +kernel
theorem d3_52 : decode method_4_code 52 = .ok (.ifCond .ne 7, 3) := by decide +kernel
theorem d3_55 : decode method_4_code 55 = .ok (.iconst 1, 1) := by decide +kernel
theorem d3_56 : decode method_4_code 56 = .ok (.goto 4, 3) := by decide +kernel
theorem d3_59 : decode method_4_code 59 = .ok (.iconst 0, 1) := by decide +kernel
theorem d3_60 : decode method_4_code 60 = .ok (.ireturn, 1) := by decide +kernel
theorem pd3 : parseMethodDescriptor "([D[DJJJII)Z" = some ⟨[(.array .double), (.array .double), .long, .long, .long, .int, .int], some .boolean⟩ := by decide +kernel
theorem ef_rm_ok1 (m : MethodId) (x0 : Addr) (x1 : Addr) (x2 : Int64) (x3 : Int64) (x4 : Int64) (x5 : Int32) (x6 : Int32) : entryFrame m #[(.ref x0), (.ref x1), (.long x2), (.long x3), (.long x4), (.int x5), (.int x6)] 12 = mkF m 0 #[.val (.ref x0), .val (.ref x1), .val (.long x2), .second, .val (.long x3), .second, .val (.long x4), .second, .val (.int x5), .val (.int x6), .unset, .unset] [] := by first | (simp [entryFrame, mkF, argsToLocals, Value.category, maxLocals]; done) | rfl
set_option maxRecDepth 65536 in
set_option maxHeartbeats 40000000 in
theorem rm_ok1 (l : Launch) (Z : State) (a0 : Array Value) (hw : ∀ d ∈ tables_1, d.before a0 Z = true) (a b : Addr) (y z f : Int64) (i n : Int32) (h0 : Heap) (n0 : Nat) (Z0 : n0 ≤ h0.size) (hin : ¬ i < n) :
    Does l (⟨"com/example/adhoq/adhoq/VectorsAddTimesPinLaw", "okAt", "([D[DJJJII)Z"⟩ : MethodName) method_4_code 12 (some .boolean) [] ({ frames := 0, cells := 0, slots := 0, locals := 0 } : Room) Z #[(.ref a), (.ref b), (.long y), (.long z), (.long f), (.int i), (.int n)] h0 (fun v h L => v = some (.int 1) ∧ Fr n0 L ∧ h = h0) := by
  refine Does.of (plainFor_of_name pn0) ?_
  intro p e s m below meth c s₁ hx hby hml hret hlk hZ hown hnm X0 e0
  have N0 := Fr.nil n0
  refine Goes.cast (g' := mkF m 0 #[.val (.ref a), .val (.ref b), .val (.long y), .second, .val (.long z), .second, .val (.long f), .second, .val (.int i), .val (.int n), .unset, .unset] []) (ef_rm_ok1 m a b y z f i n) ?_
  refine Goes.by (T' := s₁) (g' := (mkF m 2 #[.val (.ref a), .val (.ref b), .val (.long y), .second, .val (.long z), .second, .val (.long f), .second, .val (.int i), .val (.int n), .unset, .unset] [(.int i)])) (fun _ k => XS.iload X0.here hx rfl (hb hby d3_0) rfl k) ?_
  refine Goes.by (T' := s₁) (g' := (mkF m 4 #[.val (.ref a), .val (.ref b), .val (.long y), .second, .val (.long z), .second, .val (.long f), .second, .val (.int i), .val (.int n), .unset, .unset] [(.int n), (.int i)])) (fun _ k => XS.iload X0.here hx rfl (hb hby d3_2) rfl k) ?_
  refine Goes.by (T' := s₁) (g' := (mkF m 7 #[.val (.ref a), .val (.ref b), .val (.long y), .second, .val (.long z), .second, .val (.long f), .second, .val (.int i), .val (.int n), .unset, .unset] [])) (fun _ k => XS.icmpNo X0.here hx rfl (hb hby d3_4) rfl (flt hin).1 k) ?_
  refine Goes.by (T' := s₁) (g' := (mkF m 8 #[.val (.ref a), .val (.ref b), .val (.long y), .second, .val (.long z), .second, .val (.long f), .second, .val (.int i), .val (.int n), .unset, .unset] [(.int (1 : Int32))])) (fun _ k => XS.iconst X0.here hx rfl (hb hby d3_7)  k) ?_
  exact outZ X0 hx hlk hret (hb hby d3_8) (by rw [e0]; exact ⟨rfl, N0, rfl⟩) (by decide) (by decide)
theorem ef_rm_ok2 (m : MethodId) (x0 : Addr) (x1 : Addr) (x2 : Int64) (x3 : Int64) (x4 : Int64) (x5 : Int32) (x6 : Int32) : entryFrame m #[(.ref x0), (.ref x1), (.long x2), (.long x3), (.long x4), (.int x5), (.int x6)] 12 = mkF m 0 #[.val (.ref x0), .val (.ref x1), .val (.long x2), .second, .val (.long x3), .second, .val (.long x4), .second, .val (.int x5), .val (.int x6), .unset, .unset] [] := by first | (simp [entryFrame, mkF, argsToLocals, Value.category, maxLocals]; done) | rfl
set_option maxRecDepth 65536 in
set_option maxHeartbeats 40000000 in
theorem rm_ok2 (l : Launch) (Z : State) (a0 : Array Value) (hw : ∀ d ∈ tables_1, d.before a0 Z = true) (a b : Addr) (y z f : Int64) (i n : Int32) (us vs : List Value) (k : Nat) (u v : UInt64) (h0 : Heap) (n0 : Nat) (Z0 : n0 ≤ h0.size) (VA : Sar Z h0 a .double us) (VB : Sar Z h0 b .double vs) (hin : i < n) (hk : i.toInt = k) (hu : us[k]? = some (.double u)) (hv : vs[k]? = some (.double v)) (bf : f.toInt.natAbs ≤ 2147483648) (DU : Core.DInt ((own_part y i).toInt + f.toInt * (own_part z i).toInt) u) (DV : Core.DInt (own_part z i).toInt v) :
    Does l (⟨"com/example/adhoq/adhoq/VectorsAddTimesPinLaw", "okAt", "([D[DJJJII)Z"⟩ : MethodName) method_4_code 12 (some .boolean) [] ({ frames := 1, cells := 0, slots := 0, locals := 18 } : Room) Z #[(.ref a), (.ref b), (.long y), (.long z), (.long f), (.int i), (.int n)] h0 (fun v h L => v = some (.int 1) ∧ Fr n0 L ∧ h = h0) := by
  refine Does.of (plainFor_of_name pn0) ?_
  intro p e s m below meth c s₁ hx hby hml hret hlk hZ hown hnm X0 e0
  have N0 := Fr.nil n0
  refine Goes.cast (g' := mkF m 0 #[.val (.ref a), .val (.ref b), .val (.long y), .second, .val (.long z), .second, .val (.long f), .second, .val (.int i), .val (.int n), .unset, .unset] []) (ef_rm_ok2 m a b y z f i n) ?_
  refine Goes.by (T' := s₁) (g' := (mkF m 2 #[.val (.ref a), .val (.ref b), .val (.long y), .second, .val (.long z), .second, .val (.long f), .second, .val (.int i), .val (.int n), .unset, .unset] [(.int i)])) (fun _ k => XS.iload X0.here hx rfl (hb hby d3_0) rfl k) ?_
  refine Goes.by (T' := s₁) (g' := (mkF m 4 #[.val (.ref a), .val (.ref b), .val (.long y), .second, .val (.long z), .second, .val (.long f), .second, .val (.int i), .val (.int n), .unset, .unset] [(.int n), (.int i)])) (fun _ k => XS.iload X0.here hx rfl (hb hby d3_2) rfl k) ?_
  refine Goes.by (T' := s₁) (g' := (mkF m 9 #[.val (.ref a), .val (.ref b), .val (.long y), .second, .val (.long z), .second, .val (.long f), .second, .val (.int i), .val (.int n), .unset, .unset] [])) (fun _ k => XS.icmpYes X0.here hx rfl (pc0 := 4) (pc' := 9) rfl (hb hby d3_4) rfl (tlt hin).1 (by decide) (by decide) k) ?_
  refine Goes.by (T' := s₁) (g' := (mkF m 10 #[.val (.ref a), .val (.ref b), .val (.long y), .second, .val (.long z), .second, .val (.long f), .second, .val (.int i), .val (.int n), .unset, .unset] [(.long y)])) (fun _ k => XS.lloadN X0.here hx rfl (hb hby d3_9) rfl k) ?_
  refine Goes.by (T' := s₁) (g' := (mkF m 12 #[.val (.ref a), .val (.ref b), .val (.long y), .second, .val (.long z), .second, .val (.long f), .second, .val (.int i), .val (.int n), .unset, .unset] [(.int i), (.long y)])) (fun _ k => XS.iload X0.here hx rfl (hb hby d3_10) rfl k) ?_
  obtain ⟨v23, T23, L23, X23, hQ23, st23⟩ := callC X0 hx hZ (y := (⟨"com/example/adhoq/adhoq/VectorsAddTimesPinLaw", "part", "(JI)J"⟩ : MethodName)) hown (hw _ (List.mem_of_getElem? (i := 12) rfl)) (hw _ (List.mem_of_getElem? (i := 13) rfl)) (hw _ (List.mem_of_getElem? (i := 14) rfl)) (hw _ (List.mem_of_getElem? (i := 2) rfl)) (by decide) e0 (argsL := [(.long y), (.int i)]) (rest := []) (W := 0) (rm_part l Z a0 hw y i h0 n0 Z0) rfl (by decide) (by decide) (by decide) (by decide) (g := (mkF m 12 #[.val (.ref a), .val (.ref b), .val (.long y), .second, .val (.long z), .second, .val (.long f), .second, .val (.int i), .val (.int n), .unset, .unset] [(.int i), (.long y)])) rfl (by rw [hml]; rfl) (lenOf pd0 rfl) rfl (by show 2 * 0 + _ ≤ _; exact Nat.le_of_eq rfl) (hb hby d3_12)
  obtain ⟨rfl, NL23, hk23⟩ := hQ23
  have N0 := Fr.app N0 NL23
  refine Goes.by (T' := T23) (g' := (mkF m 15 #[.val (.ref a), .val (.ref b), .val (.long y), .second, .val (.long z), .second, .val (.long f), .second, .val (.int i), .val (.int n), .unset, .unset] [(.long (own_part y i))])) st23 ?_
  refine Goes.by (T' := T23) (g' := (mkF m 17 #[.val (.ref a), .val (.ref b), .val (.long y), .second, .val (.long z), .second, .val (.long f), .second, .val (.int i), .val (.int n), .unset, .unset] [(.long f), (.long (own_part y i))])) (fun _ k => XS.lload X23.here hx rfl (hb hby d3_15) rfl k) ?_
  refine Goes.by (T' := T23) (g' := (mkF m 19 #[.val (.ref a), .val (.ref b), .val (.long y), .second, .val (.long z), .second, .val (.long f), .second, .val (.int i), .val (.int n), .unset, .unset] [(.long z), (.long f), (.long (own_part y i))])) (fun _ k => XS.lload X23.here hx rfl (hb hby d3_17) rfl k) ?_
  refine Goes.by (T' := T23) (g' := (mkF m 21 #[.val (.ref a), .val (.ref b), .val (.long y), .second, .val (.long z), .second, .val (.long f), .second, .val (.int i), .val (.int n), .unset, .unset] [(.int i), (.long z), (.long f), (.long (own_part y i))])) (fun _ k => XS.iload X23.here hx rfl (hb hby d3_19) rfl k) ?_
  obtain ⟨v24, T24, L24, X24, hQ24, st24⟩ := callC X23 hx hZ (y := (⟨"com/example/adhoq/adhoq/VectorsAddTimesPinLaw", "part", "(JI)J"⟩ : MethodName)) hown (hw _ (List.mem_of_getElem? (i := 12) rfl)) (hw _ (List.mem_of_getElem? (i := 13) rfl)) (hw _ (List.mem_of_getElem? (i := 14) rfl)) (hw _ (List.mem_of_getElem? (i := 2) rfl)) (by decide) hk23 (argsL := [(.long z), (.int i)]) (rest := [(.long f), (.long (own_part y i))]) (W := 4) (rm_part l Z a0 hw z i h0 n0 Z0) rfl (by decide) (by decide) (by decide) (by decide) (g := (mkF m 21 #[.val (.ref a), .val (.ref b), .val (.long y), .second, .val (.long z), .second, .val (.long f), .second, .val (.int i), .val (.int n), .unset, .unset] [(.int i), (.long z), (.long f), (.long (own_part y i))])) rfl (by rw [hml]; rfl) (lenOf pd0 rfl) rfl (by show 2 * 0 + _ ≤ _; exact Nat.le_of_eq rfl) (hb hby d3_21)
  obtain ⟨rfl, NL24, hk24⟩ := hQ24
  have N0 := Fr.app N0 NL24
  refine Goes.by (T' := T24) (g' := (mkF m 24 #[.val (.ref a), .val (.ref b), .val (.long y), .second, .val (.long z), .second, .val (.long f), .second, .val (.int i), .val (.int n), .unset, .unset] [(.long (own_part z i)), (.long f), (.long (own_part y i))])) st24 ?_
  refine Goes.by (T' := T24) (g' := (mkF m 25 #[.val (.ref a), .val (.ref b), .val (.long y), .second, .val (.long z), .second, .val (.long f), .second, .val (.int i), .val (.int n), .unset, .unset] [(.long (f * (own_part z i))), (.long (own_part y i))])) (fun _ k => XS.lmul X24.here hx rfl (hb hby d3_24) rfl k) ?_
  refine Goes.by (T' := T24) (g' := (mkF m 26 #[.val (.ref a), .val (.ref b), .val (.long y), .second, .val (.long z), .second, .val (.long f), .second, .val (.int i), .val (.int n), .unset, .unset] [(.long ((own_part y i) + (f * (own_part z i))))])) (fun _ k => XS.ladd X24.here hx rfl (hb hby d3_25) rfl k) ?_
  obtain ⟨ex, q_ex⟩ : ∃ zz : Int64, zz = ((own_part y i) + (f * (own_part z i))) := ⟨_, rfl⟩
  rw [← q_ex]
  have b1 := own_part_bd y i
  have b2 := own_part_bd z i
  obtain ⟨pp, hpp⟩ : ∃ w : Int, w = f.toInt * (own_part z i).toInt := ⟨_, rfl⟩
  have bpp : pp.natAbs ≤ 2147483648 * 32768 := by rw [hpp]; exact own_mb bf b2
  have eex : ex.toInt = (own_part y i).toInt + pp := by
    have t : (f * own_part z i).toInt = pp := by rw [own_lmul (by rw [← hpp]; omega), hpp]
    rw [q_ex, own_ladd (by rw [t]; omega) (by rw [t]; omega), t]
  refine Goes.by (T' := T24) (g' := (mkF m 28 #[.val (.ref a), .val (.ref b), .val (.long y), .second, .val (.long z), .second, .val (.long f), .second, .val (.int i), .val (.int n), .val (.long ex), .second] [])) (fun _ k => XS.lstore X24.here hx rfl (hb hby d3_26) rfl (l' := #[.val (.ref a), .val (.ref b), .val (.long y), .second, .val (.long z), .second, .val (.long f), .second, .val (.int i), .val (.int n), .val (.long ex), .second]) rfl k) ?_
  refine Goes.by (T' := T24) (g' := (mkF m 29 #[.val (.ref a), .val (.ref b), .val (.long y), .second, .val (.long z), .second, .val (.long f), .second, .val (.int i), .val (.int n), .val (.long ex), .second] [(.ref a)])) (fun _ k => XS.aloadN X24.here hx rfl (hb hby d3_28) rfl rfl k) ?_
  refine Goes.by (T' := T24) (g' := (mkF m 31 #[.val (.ref a), .val (.ref b), .val (.long y), .second, .val (.long z), .second, .val (.long f), .second, .val (.int i), .val (.int n), .val (.long ex), .second] [(.int i), (.ref a)])) (fun _ k => XS.iload X24.here hx rfl (hb hby d3_29) rfl k) ?_
  refine Goes.by (T' := T24) (g' := (mkF m 32 #[.val (.ref a), .val (.ref b), .val (.long y), .second, .val (.long z), .second, .val (.long f), .second, .val (.int i), .val (.int n), .val (.long ex), .second] [(.double u)])) (ldDS X24 hx hZ hk24 VA (v := (.double u)) (j := i) k hk hu (g := (mkF m 31 #[.val (.ref a), .val (.ref b), .val (.long y), .second, .val (.long z), .second, .val (.long f), .second, .val (.int i), .val (.int n), .val (.long ex), .second] [(.int i), (.ref a)])) rfl rfl (hb hby d3_31)) ?_
  refine Goes.by (T' := T24) (g' := (mkF m 34 #[.val (.ref a), .val (.ref b), .val (.long y), .second, .val (.long z), .second, .val (.long f), .second, .val (.int i), .val (.int n), .val (.long ex), .second] [(.long ex), (.double u)])) (fun _ k => XS.lload X24.here hx rfl (hb hby d3_32) rfl k) ?_
  obtain ⟨d1, q_d1⟩ : ∃ zz, FP.l2d ex = zz := ⟨_, rfl⟩
  refine Goes.by (T' := T24) (g' := (mkF m 35 #[.val (.ref a), .val (.ref b), .val (.long y), .second, .val (.long z), .second, .val (.long f), .second, .val (.int i), .val (.int n), .val (.long ex), .second] [(.double d1), (.double u)])) (fun _ k => XS.l2dS X24.here hx rfl (hb hby d3_34) rfl q_d1 k) ?_
  have D1 : Core.DInt ex.toInt d1 := DInt_l2d q_d1 (by rw [eex]; omega)
  rw [eex, hpp] at D1
  refine Goes.by (T' := T24) (g' := (mkF m 36 #[.val (.ref a), .val (.ref b), .val (.long y), .second, .val (.long z), .second, .val (.long f), .second, .val (.int i), .val (.int n), .val (.long ex), .second] [(.int (0 : Int32))])) (fun _ k => XS.dcmpS X24.here hx rfl (hb hby d3_35) rfl (cmpD_eq DU D1 rfl _) k) ?_
  refine Goes.by (T' := T24) (g' := (mkF m 39 #[.val (.ref a), .val (.ref b), .val (.long y), .second, .val (.long z), .second, .val (.long f), .second, .val (.int i), .val (.int n), .val (.long ex), .second] [])) (fun _ k => XS.ifNo X24.here hx rfl (hb hby d3_36) rfl (by decide) k) ?_
  refine Goes.by (T' := T24) (g' := (mkF m 40 #[.val (.ref a), .val (.ref b), .val (.long y), .second, .val (.long z), .second, .val (.long f), .second, .val (.int i), .val (.int n), .val (.long ex), .second] [(.ref b)])) (fun _ k => XS.aloadN X24.here hx rfl (hb hby d3_39) rfl rfl k) ?_
  refine Goes.by (T' := T24) (g' := (mkF m 42 #[.val (.ref a), .val (.ref b), .val (.long y), .second, .val (.long z), .second, .val (.long f), .second, .val (.int i), .val (.int n), .val (.long ex), .second] [(.int i), (.ref b)])) (fun _ k => XS.iload X24.here hx rfl (hb hby d3_40) rfl k) ?_
  refine Goes.by (T' := T24) (g' := (mkF m 43 #[.val (.ref a), .val (.ref b), .val (.long y), .second, .val (.long z), .second, .val (.long f), .second, .val (.int i), .val (.int n), .val (.long ex), .second] [(.double v)])) (ldDS X24 hx hZ hk24 VB (v := (.double v)) (j := i) k hk hv (g := (mkF m 42 #[.val (.ref a), .val (.ref b), .val (.long y), .second, .val (.long z), .second, .val (.long f), .second, .val (.int i), .val (.int n), .val (.long ex), .second] [(.int i), (.ref b)])) rfl rfl (hb hby d3_42)) ?_
  refine Goes.by (T' := T24) (g' := (mkF m 45 #[.val (.ref a), .val (.ref b), .val (.long y), .second, .val (.long z), .second, .val (.long f), .second, .val (.int i), .val (.int n), .val (.long ex), .second] [(.long z), (.double v)])) (fun _ k => XS.lload X24.here hx rfl (hb hby d3_43) rfl k) ?_
  refine Goes.by (T' := T24) (g' := (mkF m 47 #[.val (.ref a), .val (.ref b), .val (.long y), .second, .val (.long z), .second, .val (.long f), .second, .val (.int i), .val (.int n), .val (.long ex), .second] [(.int i), (.long z), (.double v)])) (fun _ k => XS.iload X24.here hx rfl (hb hby d3_45) rfl k) ?_
  obtain ⟨v25, T25, L25, X25, hQ25, st25⟩ := callC X24 hx hZ (y := (⟨"com/example/adhoq/adhoq/VectorsAddTimesPinLaw", "part", "(JI)J"⟩ : MethodName)) hown (hw _ (List.mem_of_getElem? (i := 12) rfl)) (hw _ (List.mem_of_getElem? (i := 13) rfl)) (hw _ (List.mem_of_getElem? (i := 14) rfl)) (hw _ (List.mem_of_getElem? (i := 2) rfl)) (by decide) hk24 (argsL := [(.long z), (.int i)]) (rest := [(.double v)]) (W := 2) (rm_part l Z a0 hw z i h0 n0 Z0) rfl (by decide) (by decide) (by decide) (by decide) (g := (mkF m 47 #[.val (.ref a), .val (.ref b), .val (.long y), .second, .val (.long z), .second, .val (.long f), .second, .val (.int i), .val (.int n), .val (.long ex), .second] [(.int i), (.long z), (.double v)])) rfl (by rw [hml]; rfl) (lenOf pd0 rfl) rfl (by show 2 * 0 + _ ≤ _; exact Nat.le_of_eq rfl) (hb hby d3_47)
  obtain ⟨rfl, NL25, hk25⟩ := hQ25
  have N0 := Fr.app N0 NL25
  refine Goes.by (T' := T25) (g' := (mkF m 50 #[.val (.ref a), .val (.ref b), .val (.long y), .second, .val (.long z), .second, .val (.long f), .second, .val (.int i), .val (.int n), .val (.long ex), .second] [(.long (own_part z i)), (.double v)])) st25 ?_
  obtain ⟨d2, q_d2⟩ : ∃ zz, FP.l2d (own_part z i) = zz := ⟨_, rfl⟩
  refine Goes.by (T' := T25) (g' := (mkF m 51 #[.val (.ref a), .val (.ref b), .val (.long y), .second, .val (.long z), .second, .val (.long f), .second, .val (.int i), .val (.int n), .val (.long ex), .second] [(.double d2), (.double v)])) (fun _ k => XS.l2dS X25.here hx rfl (hb hby d3_50) rfl q_d2 k) ?_
  have D2 : Core.DInt (own_part z i).toInt d2 := DInt_l2d q_d2 (by omega)
  refine Goes.by (T' := T25) (g' := (mkF m 52 #[.val (.ref a), .val (.ref b), .val (.long y), .second, .val (.long z), .second, .val (.long f), .second, .val (.int i), .val (.int n), .val (.long ex), .second] [(.int (0 : Int32))])) (fun _ k => XS.dcmpS X25.here hx rfl (hb hby d3_51) rfl (cmpD_eq DV D2 rfl _) k) ?_
  refine Goes.by (T' := T25) (g' := (mkF m 55 #[.val (.ref a), .val (.ref b), .val (.long y), .second, .val (.long z), .second, .val (.long f), .second, .val (.int i), .val (.int n), .val (.long ex), .second] [])) (fun _ k => XS.ifNo X25.here hx rfl (hb hby d3_52) rfl (by decide) k) ?_
  refine Goes.by (T' := T25) (g' := (mkF m 56 #[.val (.ref a), .val (.ref b), .val (.long y), .second, .val (.long z), .second, .val (.long f), .second, .val (.int i), .val (.int n), .val (.long ex), .second] [(.int (1 : Int32))])) (fun _ k => XS.iconst X25.here hx rfl (hb hby d3_55)  k) ?_
  refine Goes.by (T' := T25) (g' := (mkF m 60 #[.val (.ref a), .val (.ref b), .val (.long y), .second, .val (.long z), .second, .val (.long f), .second, .val (.int i), .val (.int n), .val (.long ex), .second] [(.int (1 : Int32))])) (fun _ k => XS.goto X25.here hx rfl (pc0 := 56) (pc' := 60) rfl (hb hby d3_56) (by decide) (by decide) k) ?_
  exact outZ X25 hx hlk hret (hb hby d3_60) (by rw [hk25]; exact ⟨rfl, N0, rfl⟩) (by decide) (by decide)
theorem ef_rm_law (m : MethodId) (x0 : Int32) (x1 : Int32) (x2 : Int64) (x3 : Int64) : entryFrame m #[(.int x0), (.int x1), (.long x2), (.long x3)] maxLocals = mkF m 0 #[.val (.int x0), .val (.int x1), .val (.long x2), .second, .val (.long x3), .second, .unset, .unset, .unset, .unset, .unset] [] := by first | (simp [entryFrame, mkF, argsToLocals, Value.category, maxLocals]; done) | rfl
set_option maxRecDepth 65536 in
set_option maxHeartbeats 40000000 in
theorem rm_law (l : Launch) (Z : State) (a0 : Array Value) (hw : ∀ d ∈ tables_1, d.before a0 Z = true) (x0 x1 : Int32) (x2 x3 : Int64) (h0 : Heap) (n0 : Nat) (Z0 : n0 ≤ h0.size)  :
    Does l x code maxLocals ret tables_1 room_1 Z #[(.int x0), (.int x1), (.long x2), (.long x3)] h0 (fun v h L => v = some (.int 1) ∧ Fr n0 L) := by
  refine Does.of (plainFor_of_name pn0) ?_
  intro p e s m below meth c s₁ hx hby hml hret hlk hZ hown hnm X0 e0
  have N0 := Fr.nil n0
  refine Goes.cast (g' := mkF m 0 #[.val (.int x0), .val (.int x1), .val (.long x2), .second, .val (.long x3), .second, .unset, .unset, .unset, .unset, .unset] []) (ef_rm_law m x0 x1 x2 x3) ?_
  refine Goes.by (T' := s₁) (g' := (mkF m 1 #[.val (.int x0), .val (.int x1), .val (.long x2), .second, .val (.long x3), .second, .unset, .unset, .unset, .unset, .unset] [(.int x0)])) (fun _ k => XS.iloadN X0.here hx rfl (hb hby at_0) rfl k) ?_
  refine Goes.by (T' := s₁) (g' := (mkF m 2 #[.val (.int x0), .val (.int x1), .val (.long x2), .second, .val (.long x3), .second, .unset, .unset, .unset, .unset, .unset] [(.int (3 : Int32)), (.int x0)])) (fun _ k => XS.iconst X0.here hx rfl (hb hby at_1)  k) ?_
  refine Goes.by (T' := s₁) (g' := (mkF m 3 #[.val (.int x0), .val (.int x1), .val (.long x2), .second, .val (.long x3), .second, .unset, .unset, .unset, .unset, .unset] [(.int (x0 &&& (3 : Int32)))])) (fun _ k => XS.iand X0.here hx rfl (hb hby at_2) rfl k) ?_
  obtain ⟨n, q_n⟩ : ∃ zz : Int32, zz = (x0 &&& (3 : Int32)) := ⟨_, rfl⟩
  rw [← q_n]
  refine Goes.by (T' := s₁) (g' := (mkF m 5 #[.val (.int x0), .val (.int x1), .val (.long x2), .second, .val (.long x3), .second, .val (.int n), .unset, .unset, .unset, .unset] [])) (fun _ k => XS.istore X0.here hx rfl (hb hby at_3) rfl (l' := #[.val (.int x0), .val (.int x1), .val (.long x2), .second, .val (.long x3), .second, .val (.int n), .unset, .unset, .unset, .unset]) rfl k) ?_
  refine Goes.by (T' := s₁) (g' := (mkF m 6 #[.val (.int x0), .val (.int x1), .val (.long x2), .second, .val (.long x3), .second, .val (.int n), .unset, .unset, .unset, .unset] [(.long x2)])) (fun _ k => XS.lloadN X0.here hx rfl (hb hby at_5) rfl k) ?_
  refine Goes.by (T' := s₁) (g' := (mkF m 8 #[.val (.int x0), .val (.int x1), .val (.long x2), .second, .val (.long x3), .second, .val (.int n), .unset, .unset, .unset, .unset] [(.int n), (.long x2)])) (fun _ k => XS.iload X0.here hx rfl (hb hby at_6) rfl k) ?_
  rcases (q_n ▸ own_and3 x0 : n = 0 ∨ n = 1 ∨ n = 2 ∨ n = 3) with hn | hn | hn | hn
  · subst hn
    obtain ⟨v26, T26, L26, X26, hQ26, st26⟩ := callC X0 hx hZ (y := (⟨"com/example/adhoq/adhoq/VectorsAddTimesPinLaw", "make", "(JI)[D"⟩ : MethodName)) hown (hw _ (List.mem_of_getElem? (i := 0) rfl)) (hw _ (List.mem_of_getElem? (i := 1) rfl)) (hw _ (List.mem_of_getElem? (i := 3) rfl)) (hw _ (List.mem_of_getElem? (i := 2) rfl)) (by decide) e0 (argsL := [(.long x2), (.int (0 : Int32))]) (rest := []) (W := 0) (rm_make0 l Z a0 hw x2 h0 n0 Z0) rfl (by decide) (by decide) (by decide) (by decide) (g := (mkF m 8 #[.val (.int x0), .val (.int x1), .val (.long x2), .second, .val (.long x3), .second, .val (.int (0 : Int32)), .unset, .unset, .unset, .unset] [(.int (0 : Int32)), (.long x2)])) rfl (by rw [hml]; rfl) (lenOf pd1 rfl) rfl (by show 2 * 0 + _ ≤ _; exact Nat.le_of_eq rfl) (hb hby at_8)
    obtain ⟨ra, rfl, sza, V_ra, K26, NL26⟩ := hQ26
    have N0 := Fr.app N0 NL26
    have ge_ra : n0 ≤ ra := Nat.le_trans Z0 sza
    have e26 : T26.heap = T26.heap := rfl
    have Z0 := Nat.le_trans Z0 K26.1
    refine Goes.by (T' := T26) (g' := (mkF m 11 #[.val (.int x0), .val (.int x1), .val (.long x2), .second, .val (.long x3), .second, .val (.int (0 : Int32)), .unset, .unset, .unset, .unset] [(.ref ra)])) st26 ?_
    refine Goes.by (T' := T26) (g' := (mkF m 13 #[.val (.int x0), .val (.int x1), .val (.long x2), .second, .val (.long x3), .second, .val (.int (0 : Int32)), .val (.ref ra), .unset, .unset, .unset] [])) (fun _ k => XS.astore X26.here hx rfl (hb hby at_11) rfl rfl (l' := #[.val (.int x0), .val (.int x1), .val (.long x2), .second, .val (.long x3), .second, .val (.int (0 : Int32)), .val (.ref ra), .unset, .unset, .unset]) rfl k) ?_
    refine Goes.by (T' := T26) (g' := (mkF m 15 #[.val (.int x0), .val (.int x1), .val (.long x2), .second, .val (.long x3), .second, .val (.int (0 : Int32)), .val (.ref ra), .unset, .unset, .unset] [(.long x3)])) (fun _ k => XS.lload X26.here hx rfl (hb hby at_13) rfl k) ?_
    refine Goes.by (T' := T26) (g' := (mkF m 17 #[.val (.int x0), .val (.int x1), .val (.long x2), .second, .val (.long x3), .second, .val (.int (0 : Int32)), .val (.ref ra), .unset, .unset, .unset] [(.int (0 : Int32)), (.long x3)])) (fun _ k => XS.iload X26.here hx rfl (hb hby at_15) rfl k) ?_
    obtain ⟨v27, T27, L27, X27, hQ27, st27⟩ := callC X26 hx hZ (y := (⟨"com/example/adhoq/adhoq/VectorsAddTimesPinLaw", "make", "(JI)[D"⟩ : MethodName)) hown (hw _ (List.mem_of_getElem? (i := 0) rfl)) (hw _ (List.mem_of_getElem? (i := 1) rfl)) (hw _ (List.mem_of_getElem? (i := 3) rfl)) (hw _ (List.mem_of_getElem? (i := 2) rfl)) (by decide) e26 (argsL := [(.long x3), (.int (0 : Int32))]) (rest := []) (W := 0) (rm_make0 l Z a0 hw x3 T26.heap n0 Z0) rfl (by decide) (by decide) (by decide) (by decide) (g := (mkF m 17 #[.val (.int x0), .val (.int x1), .val (.long x2), .second, .val (.long x3), .second, .val (.int (0 : Int32)), .val (.ref ra), .unset, .unset, .unset] [(.int (0 : Int32)), (.long x3)])) rfl (by rw [hml]; rfl) (lenOf pd1 rfl) rfl (by show 2 * 0 + _ ≤ _; exact Nat.le_of_eq rfl) (hb hby at_17)
    obtain ⟨rb, rfl, szb, V_rb, K27, NL27⟩ := hQ27
    have N0 := Fr.app N0 NL27
    have ne_ra_rb : ra ≠ rb := fun q => Nat.lt_irrefl _ (Nat.lt_of_lt_of_le V_ra.lt (Nat.le_trans szb (Nat.le_of_eq q.symm)))
    have ge_rb : n0 ≤ rb := Nat.le_trans Z0 szb
    have e27 : T27.heap = T27.heap := rfl
    have V_ra := V_ra.keep K27 nin0
    have Z0 := Nat.le_trans Z0 K27.1
    refine Goes.by (T' := T27) (g' := (mkF m 20 #[.val (.int x0), .val (.int x1), .val (.long x2), .second, .val (.long x3), .second, .val (.int (0 : Int32)), .val (.ref ra), .unset, .unset, .unset] [(.ref rb)])) st27 ?_
    refine Goes.by (T' := T27) (g' := (mkF m 22 #[.val (.int x0), .val (.int x1), .val (.long x2), .second, .val (.long x3), .second, .val (.int (0 : Int32)), .val (.ref ra), .val (.ref rb), .unset, .unset] [])) (fun _ k => XS.astore X27.here hx rfl (hb hby at_20) rfl rfl (l' := #[.val (.int x0), .val (.int x1), .val (.long x2), .second, .val (.long x3), .second, .val (.int (0 : Int32)), .val (.ref ra), .val (.ref rb), .unset, .unset]) rfl k) ?_
    refine Goes.by (T' := T27) (g' := (mkF m 24 #[.val (.int x0), .val (.int x1), .val (.long x2), .second, .val (.long x3), .second, .val (.int (0 : Int32)), .val (.ref ra), .val (.ref rb), .unset, .unset] [(.ref ra)])) (fun _ k => XS.aload X27.here hx rfl (hb hby at_22) rfl rfl k) ?_
    refine Goes.by (T' := T27) (g' := (mkF m 25 #[.val (.int x0), .val (.int x1), .val (.long x2), .second, .val (.long x3), .second, .val (.int (0 : Int32)), .val (.ref ra), .val (.ref rb), .unset, .unset] [(.int x1), (.ref ra)])) (fun _ k => XS.iloadN X27.here hx rfl (hb hby at_24) rfl k) ?_
    obtain ⟨f, q_f⟩ : ∃ zz, FP.i2d x1 = zz := ⟨_, rfl⟩
    refine Goes.by (T' := T27) (g' := (mkF m 26 #[.val (.int x0), .val (.int x1), .val (.long x2), .second, .val (.long x3), .second, .val (.int (0 : Int32)), .val (.ref ra), .val (.ref rb), .unset, .unset] [(.double f), (.ref ra)])) (fun _ k => XS.i2dS X27.here hx rfl (hb hby at_25) rfl q_f k) ?_
    refine Goes.by (T' := T27) (g' := (mkF m 28 #[.val (.int x0), .val (.int x1), .val (.long x2), .second, .val (.long x3), .second, .val (.int (0 : Int32)), .val (.ref ra), .val (.ref rb), .unset, .unset] [(.ref rb), (.double f), (.ref ra)])) (fun _ k => XS.aload X27.here hx rfl (hb hby at_26) rfl rfl k) ?_
    have bf : x1.toInt.natAbs ≤ 2147483648 := by have := rng32 x1; omega
    obtain ⟨v28, T28, L28, X28, hQ28, st28⟩ := callC X27 hx hZ (y := (⟨"com/example/adhoq/adhoq/Vectors", "addTimes", "([DD[D)V"⟩ : MethodName)) hown (hw _ (List.mem_of_getElem? (i := 5) rfl)) (hw _ (List.mem_of_getElem? (i := 6) rfl)) (hw _ (List.mem_of_getElem? (i := 8) rfl)) (hw _ (List.mem_of_getElem? (i := 7) rfl)) (by decide) e27 (argsL := [(.ref ra), (.double f), (.ref rb)]) (rest := []) (W := 0) (rm_add0 l Z a0 hw ra rb f x1.toInt  T27.heap n0 Z0 V_ra V_rb ne_ra_rb ge_ra (DInt_i2d q_f) bf ) rfl (by decide) (by decide) (by decide) (by decide) (g := (mkF m 28 #[.val (.int x0), .val (.int x1), .val (.long x2), .second, .val (.long x3), .second, .val (.int (0 : Int32)), .val (.ref ra), .val (.ref rb), .unset, .unset] [(.ref rb), (.double f), (.ref ra)])) rfl (by rw [hml]; rfl) (lenOf pd2 rfl) rfl (by show 2 * 0 + _ ≤ _; exact Nat.le_of_eq rfl) (hb hby at_28)
    obtain ⟨rfl, V_ra, K28, NL28⟩ := hQ28
    have N0 := Fr.app N0 NL28
    have e28 : T28.heap = T28.heap := rfl
    have V_rb := V_rb.keep K28 (ninS (Ne.symm ne_ra_rb) nin0)
    have Z0 := Nat.le_trans Z0 K28.1
    refine Goes.by (T' := T28) (g' := (mkF m 31 #[.val (.int x0), .val (.int x1), .val (.long x2), .second, .val (.long x3), .second, .val (.int (0 : Int32)), .val (.ref ra), .val (.ref rb), .unset, .unset] [])) st28 ?_
    refine Goes.by (T' := T28) (g' := (mkF m 32 #[.val (.int x0), .val (.int x1), .val (.long x2), .second, .val (.long x3), .second, .val (.int (0 : Int32)), .val (.ref ra), .val (.ref rb), .unset, .unset] [(.int x1)])) (fun _ k => XS.iloadN X28.here hx rfl (hb hby at_31) rfl k) ?_
    refine Goes.by (T' := T28) (g' := (mkF m 33 #[.val (.int x0), .val (.int x1), .val (.long x2), .second, .val (.long x3), .second, .val (.int (0 : Int32)), .val (.ref ra), .val (.ref rb), .unset, .unset] [(.long ((x1).toInt64))])) (fun _ k => XS.i2l X28.here hx rfl (hb hby at_32) rfl k) ?_
    refine Goes.by (T' := T28) (g' := (mkF m 35 #[.val (.int x0), .val (.int x1), .val (.long x2), .second, .val (.long x3), .second, .val (.int (0 : Int32)), .val (.ref ra), .val (.ref rb), .val (.long ((x1).toInt64)), .second] [])) (fun _ k => XS.lstore X28.here hx rfl (hb hby at_33) rfl (l' := #[.val (.int x0), .val (.int x1), .val (.long x2), .second, .val (.long x3), .second, .val (.int (0 : Int32)), .val (.ref ra), .val (.ref rb), .val (.long ((x1).toInt64)), .second]) rfl k) ?_
    refine Goes.by (T' := T28) (g' := (mkF m 37 #[.val (.int x0), .val (.int x1), .val (.long x2), .second, .val (.long x3), .second, .val (.int (0 : Int32)), .val (.ref ra), .val (.ref rb), .val (.long ((x1).toInt64)), .second] [(.ref ra)])) (fun _ k => XS.aload X28.here hx rfl (hb hby at_35) rfl rfl k) ?_
    refine Goes.by (T' := T28) (g' := (mkF m 38 #[.val (.int x0), .val (.int x1), .val (.long x2), .second, .val (.long x3), .second, .val (.int (0 : Int32)), .val (.ref ra), .val (.ref rb), .val (.long ((x1).toInt64)), .second] [(.int (0 : Int32))])) (lenS X28 hx hZ e28 V_ra (n := (0 : Int32)) rfl (g := (mkF m 37 #[.val (.int x0), .val (.int x1), .val (.long x2), .second, .val (.long x3), .second, .val (.int (0 : Int32)), .val (.ref ra), .val (.ref rb), .val (.long ((x1).toInt64)), .second] [(.ref ra)])) rfl rfl (hb hby at_37)) ?_
    refine Goes.by (T' := T28) (g' := (mkF m 40 #[.val (.int x0), .val (.int x1), .val (.long x2), .second, .val (.long x3), .second, .val (.int (0 : Int32)), .val (.ref ra), .val (.ref rb), .val (.long ((x1).toInt64)), .second] [(.int (0 : Int32)), (.int (0 : Int32))])) (fun _ k => XS.iload X28.here hx rfl (hb hby at_38) rfl k) ?_
    refine Goes.by (T' := T28) (g' := (mkF m 43 #[.val (.int x0), .val (.int x1), .val (.long x2), .second, .val (.long x3), .second, .val (.int (0 : Int32)), .val (.ref ra), .val (.ref rb), .val (.long ((x1).toInt64)), .second] [])) (fun _ k => XS.icmpNo X28.here hx rfl (hb hby at_40) rfl (by decide) k) ?_
    refine Goes.by (T' := T28) (g' := (mkF m 45 #[.val (.int x0), .val (.int x1), .val (.long x2), .second, .val (.long x3), .second, .val (.int (0 : Int32)), .val (.ref ra), .val (.ref rb), .val (.long ((x1).toInt64)), .second] [(.ref rb)])) (fun _ k => XS.aload X28.here hx rfl (hb hby at_43) rfl rfl k) ?_
    refine Goes.by (T' := T28) (g' := (mkF m 46 #[.val (.int x0), .val (.int x1), .val (.long x2), .second, .val (.long x3), .second, .val (.int (0 : Int32)), .val (.ref ra), .val (.ref rb), .val (.long ((x1).toInt64)), .second] [(.int (0 : Int32))])) (lenS X28 hx hZ e28 V_rb (n := (0 : Int32)) rfl (g := (mkF m 45 #[.val (.int x0), .val (.int x1), .val (.long x2), .second, .val (.long x3), .second, .val (.int (0 : Int32)), .val (.ref ra), .val (.ref rb), .val (.long ((x1).toInt64)), .second] [(.ref rb)])) rfl rfl (hb hby at_45)) ?_
    refine Goes.by (T' := T28) (g' := (mkF m 48 #[.val (.int x0), .val (.int x1), .val (.long x2), .second, .val (.long x3), .second, .val (.int (0 : Int32)), .val (.ref ra), .val (.ref rb), .val (.long ((x1).toInt64)), .second] [(.int (0 : Int32)), (.int (0 : Int32))])) (fun _ k => XS.iload X28.here hx rfl (hb hby at_46) rfl k) ?_
    refine Goes.by (T' := T28) (g' := (mkF m 51 #[.val (.int x0), .val (.int x1), .val (.long x2), .second, .val (.long x3), .second, .val (.int (0 : Int32)), .val (.ref ra), .val (.ref rb), .val (.long ((x1).toInt64)), .second] [])) (fun _ k => XS.icmpNo X28.here hx rfl (hb hby at_48) rfl (by decide) k) ?_
    refine Goes.by (T' := T28) (g' := (mkF m 53 #[.val (.int x0), .val (.int x1), .val (.long x2), .second, .val (.long x3), .second, .val (.int (0 : Int32)), .val (.ref ra), .val (.ref rb), .val (.long ((x1).toInt64)), .second] [(.ref ra)])) (fun _ k => XS.aload X28.here hx rfl (hb hby at_51) rfl rfl k) ?_
    refine Goes.by (T' := T28) (g' := (mkF m 55 #[.val (.int x0), .val (.int x1), .val (.long x2), .second, .val (.long x3), .second, .val (.int (0 : Int32)), .val (.ref ra), .val (.ref rb), .val (.long ((x1).toInt64)), .second] [(.ref rb), (.ref ra)])) (fun _ k => XS.aload X28.here hx rfl (hb hby at_53) rfl rfl k) ?_
    refine Goes.by (T' := T28) (g' := (mkF m 56 #[.val (.int x0), .val (.int x1), .val (.long x2), .second, .val (.long x3), .second, .val (.int (0 : Int32)), .val (.ref ra), .val (.ref rb), .val (.long ((x1).toInt64)), .second] [(.long x2), (.ref rb), (.ref ra)])) (fun _ k => XS.lloadN X28.here hx rfl (hb hby at_55) rfl k) ?_
    refine Goes.by (T' := T28) (g' := (mkF m 58 #[.val (.int x0), .val (.int x1), .val (.long x2), .second, .val (.long x3), .second, .val (.int (0 : Int32)), .val (.ref ra), .val (.ref rb), .val (.long ((x1).toInt64)), .second] [(.long x3), (.long x2), (.ref rb), (.ref ra)])) (fun _ k => XS.lload X28.here hx rfl (hb hby at_56) rfl k) ?_
    refine Goes.by (T' := T28) (g' := (mkF m 60 #[.val (.int x0), .val (.int x1), .val (.long x2), .second, .val (.long x3), .second, .val (.int (0 : Int32)), .val (.ref ra), .val (.ref rb), .val (.long ((x1).toInt64)), .second] [(.long ((x1).toInt64)), (.long x3), (.long x2), (.ref rb), (.ref ra)])) (fun _ k => XS.lload X28.here hx rfl (hb hby at_58) rfl k) ?_
    refine Goes.by (T' := T28) (g' := (mkF m 61 #[.val (.int x0), .val (.int x1), .val (.long x2), .second, .val (.long x3), .second, .val (.int (0 : Int32)), .val (.ref ra), .val (.ref rb), .val (.long ((x1).toInt64)), .second] [(.int (0 : Int32)), (.long ((x1).toInt64)), (.long x3), (.long x2), (.ref rb), (.ref ra)])) (fun _ k => XS.iconst X28.here hx rfl (hb hby at_60)  k) ?_
    refine Goes.by (T' := T28) (g' := (mkF m 63 #[.val (.int x0), .val (.int x1), .val (.long x2), .second, .val (.long x3), .second, .val (.int (0 : Int32)), .val (.ref ra), .val (.ref rb), .val (.long ((x1).toInt64)), .second] [(.int (0 : Int32)), (.int (0 : Int32)), (.long ((x1).toInt64)), (.long x3), (.long x2), (.ref rb), (.ref ra)])) (fun _ k => XS.iload X28.here hx rfl (hb hby at_61) rfl k) ?_
    obtain ⟨v29, T29, L29, X29, hQ29, st29⟩ := callC X28 hx hZ (y := (⟨"com/example/adhoq/adhoq/VectorsAddTimesPinLaw", "okAt", "([D[DJJJII)Z"⟩ : MethodName)) hown (hw _ (List.mem_of_getElem? (i := 9) rfl)) (hw _ (List.mem_of_getElem? (i := 10) rfl)) (hw _ (List.mem_of_getElem? (i := 11) rfl)) (hw _ (List.mem_of_getElem? (i := 2) rfl)) (by decide) e28 (argsL := [(.ref ra), (.ref rb), (.long x2), (.long x3), (.long ((x1).toInt64)), (.int (0 : Int32)), (.int (0 : Int32))]) (rest := []) (W := 0) (rm_ok1 l Z a0 hw ra rb x2 x3 x1.toInt64 (0 : Int32) (0 : Int32) T28.heap n0 Z0 (by decide)) rfl (by decide) (by decide) (by decide) (by decide) (g := (mkF m 63 #[.val (.int x0), .val (.int x1), .val (.long x2), .second, .val (.long x3), .second, .val (.int (0 : Int32)), .val (.ref ra), .val (.ref rb), .val (.long ((x1).toInt64)), .second] [(.int (0 : Int32)), (.int (0 : Int32)), (.long ((x1).toInt64)), (.long x3), (.long x2), (.ref rb), (.ref ra)])) rfl (by rw [hml]; rfl) (lenOf pd3 rfl) rfl (by show 2 * 0 + _ ≤ _; exact Nat.le_of_eq rfl) (hb hby at_63)
    obtain ⟨rfl, NL29, hk29⟩ := hQ29
    have N0 := Fr.app N0 NL29
    refine Goes.by (T' := T29) (g' := (mkF m 66 #[.val (.int x0), .val (.int x1), .val (.long x2), .second, .val (.long x3), .second, .val (.int (0 : Int32)), .val (.ref ra), .val (.ref rb), .val (.long ((x1).toInt64)), .second] [(.int (1 : Int32))])) st29 ?_
    refine Goes.by (T' := T29) (g' := (mkF m 69 #[.val (.int x0), .val (.int x1), .val (.long x2), .second, .val (.long x3), .second, .val (.int (0 : Int32)), .val (.ref ra), .val (.ref rb), .val (.long ((x1).toInt64)), .second] [])) (fun _ k => XS.ifNo X29.here hx rfl (hb hby at_66) rfl (by decide) k) ?_
    refine Goes.by (T' := T29) (g' := (mkF m 71 #[.val (.int x0), .val (.int x1), .val (.long x2), .second, .val (.long x3), .second, .val (.int (0 : Int32)), .val (.ref ra), .val (.ref rb), .val (.long ((x1).toInt64)), .second] [(.ref ra)])) (fun _ k => XS.aload X29.here hx rfl (hb hby at_69) rfl rfl k) ?_
    refine Goes.by (T' := T29) (g' := (mkF m 73 #[.val (.int x0), .val (.int x1), .val (.long x2), .second, .val (.long x3), .second, .val (.int (0 : Int32)), .val (.ref ra), .val (.ref rb), .val (.long ((x1).toInt64)), .second] [(.ref rb), (.ref ra)])) (fun _ k => XS.aload X29.here hx rfl (hb hby at_71) rfl rfl k) ?_
    refine Goes.by (T' := T29) (g' := (mkF m 74 #[.val (.int x0), .val (.int x1), .val (.long x2), .second, .val (.long x3), .second, .val (.int (0 : Int32)), .val (.ref ra), .val (.ref rb), .val (.long ((x1).toInt64)), .second] [(.long x2), (.ref rb), (.ref ra)])) (fun _ k => XS.lloadN X29.here hx rfl (hb hby at_73) rfl k) ?_
    refine Goes.by (T' := T29) (g' := (mkF m 76 #[.val (.int x0), .val (.int x1), .val (.long x2), .second, .val (.long x3), .second, .val (.int (0 : Int32)), .val (.ref ra), .val (.ref rb), .val (.long ((x1).toInt64)), .second] [(.long x3), (.long x2), (.ref rb), (.ref ra)])) (fun _ k => XS.lload X29.here hx rfl (hb hby at_74) rfl k) ?_
    refine Goes.by (T' := T29) (g' := (mkF m 78 #[.val (.int x0), .val (.int x1), .val (.long x2), .second, .val (.long x3), .second, .val (.int (0 : Int32)), .val (.ref ra), .val (.ref rb), .val (.long ((x1).toInt64)), .second] [(.long ((x1).toInt64)), (.long x3), (.long x2), (.ref rb), (.ref ra)])) (fun _ k => XS.lload X29.here hx rfl (hb hby at_76) rfl k) ?_
    refine Goes.by (T' := T29) (g' := (mkF m 79 #[.val (.int x0), .val (.int x1), .val (.long x2), .second, .val (.long x3), .second, .val (.int (0 : Int32)), .val (.ref ra), .val (.ref rb), .val (.long ((x1).toInt64)), .second] [(.int (1 : Int32)), (.long ((x1).toInt64)), (.long x3), (.long x2), (.ref rb), (.ref ra)])) (fun _ k => XS.iconst X29.here hx rfl (hb hby at_78)  k) ?_
    refine Goes.by (T' := T29) (g' := (mkF m 81 #[.val (.int x0), .val (.int x1), .val (.long x2), .second, .val (.long x3), .second, .val (.int (0 : Int32)), .val (.ref ra), .val (.ref rb), .val (.long ((x1).toInt64)), .second] [(.int (0 : Int32)), (.int (1 : Int32)), (.long ((x1).toInt64)), (.long x3), (.long x2), (.ref rb), (.ref ra)])) (fun _ k => XS.iload X29.here hx rfl (hb hby at_79) rfl k) ?_
    obtain ⟨v30, T30, L30, X30, hQ30, st30⟩ := callC X29 hx hZ (y := (⟨"com/example/adhoq/adhoq/VectorsAddTimesPinLaw", "okAt", "([D[DJJJII)Z"⟩ : MethodName)) hown (hw _ (List.mem_of_getElem? (i := 9) rfl)) (hw _ (List.mem_of_getElem? (i := 10) rfl)) (hw _ (List.mem_of_getElem? (i := 11) rfl)) (hw _ (List.mem_of_getElem? (i := 2) rfl)) (by decide) hk29 (argsL := [(.ref ra), (.ref rb), (.long x2), (.long x3), (.long ((x1).toInt64)), (.int (1 : Int32)), (.int (0 : Int32))]) (rest := []) (W := 0) (rm_ok1 l Z a0 hw ra rb x2 x3 x1.toInt64 (1 : Int32) (0 : Int32) T28.heap n0 Z0 (by decide)) rfl (by decide) (by decide) (by decide) (by decide) (g := (mkF m 81 #[.val (.int x0), .val (.int x1), .val (.long x2), .second, .val (.long x3), .second, .val (.int (0 : Int32)), .val (.ref ra), .val (.ref rb), .val (.long ((x1).toInt64)), .second] [(.int (0 : Int32)), (.int (1 : Int32)), (.long ((x1).toInt64)), (.long x3), (.long x2), (.ref rb), (.ref ra)])) rfl (by rw [hml]; rfl) (lenOf pd3 rfl) rfl (by show 2 * 0 + _ ≤ _; exact Nat.le_of_eq rfl) (hb hby at_81)
    obtain ⟨rfl, NL30, hk30⟩ := hQ30
    have N0 := Fr.app N0 NL30
    refine Goes.by (T' := T30) (g' := (mkF m 84 #[.val (.int x0), .val (.int x1), .val (.long x2), .second, .val (.long x3), .second, .val (.int (0 : Int32)), .val (.ref ra), .val (.ref rb), .val (.long ((x1).toInt64)), .second] [(.int (1 : Int32))])) st30 ?_
    refine Goes.by (T' := T30) (g' := (mkF m 87 #[.val (.int x0), .val (.int x1), .val (.long x2), .second, .val (.long x3), .second, .val (.int (0 : Int32)), .val (.ref ra), .val (.ref rb), .val (.long ((x1).toInt64)), .second] [])) (fun _ k => XS.ifNo X30.here hx rfl (hb hby at_84) rfl (by decide) k) ?_
    refine Goes.by (T' := T30) (g' := (mkF m 89 #[.val (.int x0), .val (.int x1), .val (.long x2), .second, .val (.long x3), .second, .val (.int (0 : Int32)), .val (.ref ra), .val (.ref rb), .val (.long ((x1).toInt64)), .second] [(.ref ra)])) (fun _ k => XS.aload X30.here hx rfl (hb hby at_87) rfl rfl k) ?_
    refine Goes.by (T' := T30) (g' := (mkF m 91 #[.val (.int x0), .val (.int x1), .val (.long x2), .second, .val (.long x3), .second, .val (.int (0 : Int32)), .val (.ref ra), .val (.ref rb), .val (.long ((x1).toInt64)), .second] [(.ref rb), (.ref ra)])) (fun _ k => XS.aload X30.here hx rfl (hb hby at_89) rfl rfl k) ?_
    refine Goes.by (T' := T30) (g' := (mkF m 92 #[.val (.int x0), .val (.int x1), .val (.long x2), .second, .val (.long x3), .second, .val (.int (0 : Int32)), .val (.ref ra), .val (.ref rb), .val (.long ((x1).toInt64)), .second] [(.long x2), (.ref rb), (.ref ra)])) (fun _ k => XS.lloadN X30.here hx rfl (hb hby at_91) rfl k) ?_
    refine Goes.by (T' := T30) (g' := (mkF m 94 #[.val (.int x0), .val (.int x1), .val (.long x2), .second, .val (.long x3), .second, .val (.int (0 : Int32)), .val (.ref ra), .val (.ref rb), .val (.long ((x1).toInt64)), .second] [(.long x3), (.long x2), (.ref rb), (.ref ra)])) (fun _ k => XS.lload X30.here hx rfl (hb hby at_92) rfl k) ?_
    refine Goes.by (T' := T30) (g' := (mkF m 96 #[.val (.int x0), .val (.int x1), .val (.long x2), .second, .val (.long x3), .second, .val (.int (0 : Int32)), .val (.ref ra), .val (.ref rb), .val (.long ((x1).toInt64)), .second] [(.long ((x1).toInt64)), (.long x3), (.long x2), (.ref rb), (.ref ra)])) (fun _ k => XS.lload X30.here hx rfl (hb hby at_94) rfl k) ?_
    refine Goes.by (T' := T30) (g' := (mkF m 97 #[.val (.int x0), .val (.int x1), .val (.long x2), .second, .val (.long x3), .second, .val (.int (0 : Int32)), .val (.ref ra), .val (.ref rb), .val (.long ((x1).toInt64)), .second] [(.int (2 : Int32)), (.long ((x1).toInt64)), (.long x3), (.long x2), (.ref rb), (.ref ra)])) (fun _ k => XS.iconst X30.here hx rfl (hb hby at_96)  k) ?_
    refine Goes.by (T' := T30) (g' := (mkF m 99 #[.val (.int x0), .val (.int x1), .val (.long x2), .second, .val (.long x3), .second, .val (.int (0 : Int32)), .val (.ref ra), .val (.ref rb), .val (.long ((x1).toInt64)), .second] [(.int (0 : Int32)), (.int (2 : Int32)), (.long ((x1).toInt64)), (.long x3), (.long x2), (.ref rb), (.ref ra)])) (fun _ k => XS.iload X30.here hx rfl (hb hby at_97) rfl k) ?_
    obtain ⟨v31, T31, L31, X31, hQ31, st31⟩ := callC X30 hx hZ (y := (⟨"com/example/adhoq/adhoq/VectorsAddTimesPinLaw", "okAt", "([D[DJJJII)Z"⟩ : MethodName)) hown (hw _ (List.mem_of_getElem? (i := 9) rfl)) (hw _ (List.mem_of_getElem? (i := 10) rfl)) (hw _ (List.mem_of_getElem? (i := 11) rfl)) (hw _ (List.mem_of_getElem? (i := 2) rfl)) (by decide) hk30 (argsL := [(.ref ra), (.ref rb), (.long x2), (.long x3), (.long ((x1).toInt64)), (.int (2 : Int32)), (.int (0 : Int32))]) (rest := []) (W := 0) (rm_ok1 l Z a0 hw ra rb x2 x3 x1.toInt64 (2 : Int32) (0 : Int32) T28.heap n0 Z0 (by decide)) rfl (by decide) (by decide) (by decide) (by decide) (g := (mkF m 99 #[.val (.int x0), .val (.int x1), .val (.long x2), .second, .val (.long x3), .second, .val (.int (0 : Int32)), .val (.ref ra), .val (.ref rb), .val (.long ((x1).toInt64)), .second] [(.int (0 : Int32)), (.int (2 : Int32)), (.long ((x1).toInt64)), (.long x3), (.long x2), (.ref rb), (.ref ra)])) rfl (by rw [hml]; rfl) (lenOf pd3 rfl) rfl (by show 2 * 0 + _ ≤ _; exact Nat.le_of_eq rfl) (hb hby at_99)
    obtain ⟨rfl, NL31, hk31⟩ := hQ31
    have N0 := Fr.app N0 NL31
    refine Goes.by (T' := T31) (g' := (mkF m 102 #[.val (.int x0), .val (.int x1), .val (.long x2), .second, .val (.long x3), .second, .val (.int (0 : Int32)), .val (.ref ra), .val (.ref rb), .val (.long ((x1).toInt64)), .second] [(.int (1 : Int32))])) st31 ?_
    refine Goes.by (T' := T31) (g' := (mkF m 105 #[.val (.int x0), .val (.int x1), .val (.long x2), .second, .val (.long x3), .second, .val (.int (0 : Int32)), .val (.ref ra), .val (.ref rb), .val (.long ((x1).toInt64)), .second] [])) (fun _ k => XS.ifNo X31.here hx rfl (hb hby at_102) rfl (by decide) k) ?_
    refine Goes.by (T' := T31) (g' := (mkF m 106 #[.val (.int x0), .val (.int x1), .val (.long x2), .second, .val (.long x3), .second, .val (.int (0 : Int32)), .val (.ref ra), .val (.ref rb), .val (.long ((x1).toInt64)), .second] [(.int (1 : Int32))])) (fun _ k => XS.iconst X31.here hx rfl (hb hby at_105)  k) ?_
    refine Goes.by (T' := T31) (g' := (mkF m 110 #[.val (.int x0), .val (.int x1), .val (.long x2), .second, .val (.long x3), .second, .val (.int (0 : Int32)), .val (.ref ra), .val (.ref rb), .val (.long ((x1).toInt64)), .second] [(.int (1 : Int32))])) (fun _ k => XS.goto X31.here hx rfl (pc0 := 106) (pc' := 110) rfl (hb hby at_106) (by decide) (by decide) k) ?_
    exact outZ X31 hx hlk hret (hb hby at_110) (by exact ⟨rfl, N0⟩) (by decide) (by decide)
  · subst hn
    obtain ⟨v32, T32, L32, X32, hQ32, st32⟩ := callC X0 hx hZ (y := (⟨"com/example/adhoq/adhoq/VectorsAddTimesPinLaw", "make", "(JI)[D"⟩ : MethodName)) hown (hw _ (List.mem_of_getElem? (i := 0) rfl)) (hw _ (List.mem_of_getElem? (i := 1) rfl)) (hw _ (List.mem_of_getElem? (i := 3) rfl)) (hw _ (List.mem_of_getElem? (i := 2) rfl)) (by decide) e0 (argsL := [(.long x2), (.int (1 : Int32))]) (rest := []) (W := 0) (rm_make1 l Z a0 hw x2 h0 n0 Z0) rfl (by decide) (by decide) (by decide) (by decide) (g := (mkF m 8 #[.val (.int x0), .val (.int x1), .val (.long x2), .second, .val (.long x3), .second, .val (.int (1 : Int32)), .unset, .unset, .unset, .unset] [(.int (1 : Int32)), (.long x2)])) rfl (by rw [hml]; rfl) (lenOf pd1 rfl) rfl (by show 2 * 0 + _ ≤ _; exact Nat.le_of_eq rfl) (hb hby at_8)
    obtain ⟨ra, rfl, sza, V_ra, K32, NL32⟩ := hQ32
    have N0 := Fr.app N0 NL32
    have ge_ra : n0 ≤ ra := Nat.le_trans Z0 sza
    have e32 : T32.heap = T32.heap := rfl
    have Z0 := Nat.le_trans Z0 K32.1
    refine Goes.by (T' := T32) (g' := (mkF m 11 #[.val (.int x0), .val (.int x1), .val (.long x2), .second, .val (.long x3), .second, .val (.int (1 : Int32)), .unset, .unset, .unset, .unset] [(.ref ra)])) st32 ?_
    refine Goes.by (T' := T32) (g' := (mkF m 13 #[.val (.int x0), .val (.int x1), .val (.long x2), .second, .val (.long x3), .second, .val (.int (1 : Int32)), .val (.ref ra), .unset, .unset, .unset] [])) (fun _ k => XS.astore X32.here hx rfl (hb hby at_11) rfl rfl (l' := #[.val (.int x0), .val (.int x1), .val (.long x2), .second, .val (.long x3), .second, .val (.int (1 : Int32)), .val (.ref ra), .unset, .unset, .unset]) rfl k) ?_
    refine Goes.by (T' := T32) (g' := (mkF m 15 #[.val (.int x0), .val (.int x1), .val (.long x2), .second, .val (.long x3), .second, .val (.int (1 : Int32)), .val (.ref ra), .unset, .unset, .unset] [(.long x3)])) (fun _ k => XS.lload X32.here hx rfl (hb hby at_13) rfl k) ?_
    refine Goes.by (T' := T32) (g' := (mkF m 17 #[.val (.int x0), .val (.int x1), .val (.long x2), .second, .val (.long x3), .second, .val (.int (1 : Int32)), .val (.ref ra), .unset, .unset, .unset] [(.int (1 : Int32)), (.long x3)])) (fun _ k => XS.iload X32.here hx rfl (hb hby at_15) rfl k) ?_
    obtain ⟨v33, T33, L33, X33, hQ33, st33⟩ := callC X32 hx hZ (y := (⟨"com/example/adhoq/adhoq/VectorsAddTimesPinLaw", "make", "(JI)[D"⟩ : MethodName)) hown (hw _ (List.mem_of_getElem? (i := 0) rfl)) (hw _ (List.mem_of_getElem? (i := 1) rfl)) (hw _ (List.mem_of_getElem? (i := 3) rfl)) (hw _ (List.mem_of_getElem? (i := 2) rfl)) (by decide) e32 (argsL := [(.long x3), (.int (1 : Int32))]) (rest := []) (W := 0) (rm_make1 l Z a0 hw x3 T32.heap n0 Z0) rfl (by decide) (by decide) (by decide) (by decide) (g := (mkF m 17 #[.val (.int x0), .val (.int x1), .val (.long x2), .second, .val (.long x3), .second, .val (.int (1 : Int32)), .val (.ref ra), .unset, .unset, .unset] [(.int (1 : Int32)), (.long x3)])) rfl (by rw [hml]; rfl) (lenOf pd1 rfl) rfl (by show 2 * 0 + _ ≤ _; exact Nat.le_of_eq rfl) (hb hby at_17)
    obtain ⟨rb, rfl, szb, V_rb, K33, NL33⟩ := hQ33
    have N0 := Fr.app N0 NL33
    have ne_ra_rb : ra ≠ rb := fun q => Nat.lt_irrefl _ (Nat.lt_of_lt_of_le V_ra.lt (Nat.le_trans szb (Nat.le_of_eq q.symm)))
    have ge_rb : n0 ≤ rb := Nat.le_trans Z0 szb
    have e33 : T33.heap = T33.heap := rfl
    have V_ra := V_ra.keep K33 nin0
    have Z0 := Nat.le_trans Z0 K33.1
    refine Goes.by (T' := T33) (g' := (mkF m 20 #[.val (.int x0), .val (.int x1), .val (.long x2), .second, .val (.long x3), .second, .val (.int (1 : Int32)), .val (.ref ra), .unset, .unset, .unset] [(.ref rb)])) st33 ?_
    refine Goes.by (T' := T33) (g' := (mkF m 22 #[.val (.int x0), .val (.int x1), .val (.long x2), .second, .val (.long x3), .second, .val (.int (1 : Int32)), .val (.ref ra), .val (.ref rb), .unset, .unset] [])) (fun _ k => XS.astore X33.here hx rfl (hb hby at_20) rfl rfl (l' := #[.val (.int x0), .val (.int x1), .val (.long x2), .second, .val (.long x3), .second, .val (.int (1 : Int32)), .val (.ref ra), .val (.ref rb), .unset, .unset]) rfl k) ?_
    refine Goes.by (T' := T33) (g' := (mkF m 24 #[.val (.int x0), .val (.int x1), .val (.long x2), .second, .val (.long x3), .second, .val (.int (1 : Int32)), .val (.ref ra), .val (.ref rb), .unset, .unset] [(.ref ra)])) (fun _ k => XS.aload X33.here hx rfl (hb hby at_22) rfl rfl k) ?_
    refine Goes.by (T' := T33) (g' := (mkF m 25 #[.val (.int x0), .val (.int x1), .val (.long x2), .second, .val (.long x3), .second, .val (.int (1 : Int32)), .val (.ref ra), .val (.ref rb), .unset, .unset] [(.int x1), (.ref ra)])) (fun _ k => XS.iloadN X33.here hx rfl (hb hby at_24) rfl k) ?_
    obtain ⟨f, q_f⟩ : ∃ zz, FP.i2d x1 = zz := ⟨_, rfl⟩
    refine Goes.by (T' := T33) (g' := (mkF m 26 #[.val (.int x0), .val (.int x1), .val (.long x2), .second, .val (.long x3), .second, .val (.int (1 : Int32)), .val (.ref ra), .val (.ref rb), .unset, .unset] [(.double f), (.ref ra)])) (fun _ k => XS.i2dS X33.here hx rfl (hb hby at_25) rfl q_f k) ?_
    refine Goes.by (T' := T33) (g' := (mkF m 28 #[.val (.int x0), .val (.int x1), .val (.long x2), .second, .val (.long x3), .second, .val (.int (1 : Int32)), .val (.ref ra), .val (.ref rb), .unset, .unset] [(.ref rb), (.double f), (.ref ra)])) (fun _ k => XS.aload X33.here hx rfl (hb hby at_26) rfl rfl k) ?_
    have bf : x1.toInt.natAbs ≤ 2147483648 := by have := rng32 x1; omega
    have b_x2_0 := own_part_bd x2 (0 : Int32)
    have b_x3_0 := own_part_bd x3 (0 : Int32)
    obtain ⟨v34, T34, L34, X34, hQ34, st34⟩ := callC X33 hx hZ (y := (⟨"com/example/adhoq/adhoq/Vectors", "addTimes", "([DD[D)V"⟩ : MethodName)) hown (hw _ (List.mem_of_getElem? (i := 5) rfl)) (hw _ (List.mem_of_getElem? (i := 6) rfl)) (hw _ (List.mem_of_getElem? (i := 8) rfl)) (hw _ (List.mem_of_getElem? (i := 7) rfl)) (by decide) e33 (argsL := [(.ref ra), (.double f), (.ref rb)]) (rest := []) (W := 0) (rm_add1 l Z a0 hw ra rb f x1.toInt _ _ (own_part x2 (0 : Int32)).toInt (own_part x3 (0 : Int32)).toInt T33.heap n0 Z0 V_ra V_rb ne_ra_rb ge_ra (DInt_i2d q_f) bf (DInt_l2d rfl (by omega)) (DInt_l2d rfl (by omega)) b_x2_0 b_x3_0) rfl (by decide) (by decide) (by decide) (by decide) (g := (mkF m 28 #[.val (.int x0), .val (.int x1), .val (.long x2), .second, .val (.long x3), .second, .val (.int (1 : Int32)), .val (.ref ra), .val (.ref rb), .unset, .unset] [(.ref rb), (.double f), (.ref ra)])) rfl (by rw [hml]; rfl) (lenOf pd2 rfl) rfl (by show 2 * 0 + _ ≤ _; exact Nat.le_of_eq rfl) (hb hby at_28)
    obtain ⟨rfl, ⟨s0, DS0, V_ra⟩, K34, NL34⟩ := hQ34
    have N0 := Fr.app N0 NL34
    have e34 : T34.heap = T34.heap := rfl
    have V_rb := V_rb.keep K34 (ninS (Ne.symm ne_ra_rb) nin0)
    have Z0 := Nat.le_trans Z0 K34.1
    refine Goes.by (T' := T34) (g' := (mkF m 31 #[.val (.int x0), .val (.int x1), .val (.long x2), .second, .val (.long x3), .second, .val (.int (1 : Int32)), .val (.ref ra), .val (.ref rb), .unset, .unset] [])) st34 ?_
    refine Goes.by (T' := T34) (g' := (mkF m 32 #[.val (.int x0), .val (.int x1), .val (.long x2), .second, .val (.long x3), .second, .val (.int (1 : Int32)), .val (.ref ra), .val (.ref rb), .unset, .unset] [(.int x1)])) (fun _ k => XS.iloadN X34.here hx rfl (hb hby at_31) rfl k) ?_
    refine Goes.by (T' := T34) (g' := (mkF m 33 #[.val (.int x0), .val (.int x1), .val (.long x2), .second, .val (.long x3), .second, .val (.int (1 : Int32)), .val (.ref ra), .val (.ref rb), .unset, .unset] [(.long ((x1).toInt64))])) (fun _ k => XS.i2l X34.here hx rfl (hb hby at_32) rfl k) ?_
    refine Goes.by (T' := T34) (g' := (mkF m 35 #[.val (.int x0), .val (.int x1), .val (.long x2), .second, .val (.long x3), .second, .val (.int (1 : Int32)), .val (.ref ra), .val (.ref rb), .val (.long ((x1).toInt64)), .second] [])) (fun _ k => XS.lstore X34.here hx rfl (hb hby at_33) rfl (l' := #[.val (.int x0), .val (.int x1), .val (.long x2), .second, .val (.long x3), .second, .val (.int (1 : Int32)), .val (.ref ra), .val (.ref rb), .val (.long ((x1).toInt64)), .second]) rfl k) ?_
    refine Goes.by (T' := T34) (g' := (mkF m 37 #[.val (.int x0), .val (.int x1), .val (.long x2), .second, .val (.long x3), .second, .val (.int (1 : Int32)), .val (.ref ra), .val (.ref rb), .val (.long ((x1).toInt64)), .second] [(.ref ra)])) (fun _ k => XS.aload X34.here hx rfl (hb hby at_35) rfl rfl k) ?_
    refine Goes.by (T' := T34) (g' := (mkF m 38 #[.val (.int x0), .val (.int x1), .val (.long x2), .second, .val (.long x3), .second, .val (.int (1 : Int32)), .val (.ref ra), .val (.ref rb), .val (.long ((x1).toInt64)), .second] [(.int (1 : Int32))])) (lenS X34 hx hZ e34 V_ra (n := (1 : Int32)) rfl (g := (mkF m 37 #[.val (.int x0), .val (.int x1), .val (.long x2), .second, .val (.long x3), .second, .val (.int (1 : Int32)), .val (.ref ra), .val (.ref rb), .val (.long ((x1).toInt64)), .second] [(.ref ra)])) rfl rfl (hb hby at_37)) ?_
    refine Goes.by (T' := T34) (g' := (mkF m 40 #[.val (.int x0), .val (.int x1), .val (.long x2), .second, .val (.long x3), .second, .val (.int (1 : Int32)), .val (.ref ra), .val (.ref rb), .val (.long ((x1).toInt64)), .second] [(.int (1 : Int32)), (.int (1 : Int32))])) (fun _ k => XS.iload X34.here hx rfl (hb hby at_38) rfl k) ?_
    refine Goes.by (T' := T34) (g' := (mkF m 43 #[.val (.int x0), .val (.int x1), .val (.long x2), .second, .val (.long x3), .second, .val (.int (1 : Int32)), .val (.ref ra), .val (.ref rb), .val (.long ((x1).toInt64)), .second] [])) (fun _ k => XS.icmpNo X34.here hx rfl (hb hby at_40) rfl (by decide) k) ?_
    refine Goes.by (T' := T34) (g' := (mkF m 45 #[.val (.int x0), .val (.int x1), .val (.long x2), .second, .val (.long x3), .second, .val (.int (1 : Int32)), .val (.ref ra), .val (.ref rb), .val (.long ((x1).toInt64)), .second] [(.ref rb)])) (fun _ k => XS.aload X34.here hx rfl (hb hby at_43) rfl rfl k) ?_
    refine Goes.by (T' := T34) (g' := (mkF m 46 #[.val (.int x0), .val (.int x1), .val (.long x2), .second, .val (.long x3), .second, .val (.int (1 : Int32)), .val (.ref ra), .val (.ref rb), .val (.long ((x1).toInt64)), .second] [(.int (1 : Int32))])) (lenS X34 hx hZ e34 V_rb (n := (1 : Int32)) rfl (g := (mkF m 45 #[.val (.int x0), .val (.int x1), .val (.long x2), .second, .val (.long x3), .second, .val (.int (1 : Int32)), .val (.ref ra), .val (.ref rb), .val (.long ((x1).toInt64)), .second] [(.ref rb)])) rfl rfl (hb hby at_45)) ?_
    refine Goes.by (T' := T34) (g' := (mkF m 48 #[.val (.int x0), .val (.int x1), .val (.long x2), .second, .val (.long x3), .second, .val (.int (1 : Int32)), .val (.ref ra), .val (.ref rb), .val (.long ((x1).toInt64)), .second] [(.int (1 : Int32)), (.int (1 : Int32))])) (fun _ k => XS.iload X34.here hx rfl (hb hby at_46) rfl k) ?_
    refine Goes.by (T' := T34) (g' := (mkF m 51 #[.val (.int x0), .val (.int x1), .val (.long x2), .second, .val (.long x3), .second, .val (.int (1 : Int32)), .val (.ref ra), .val (.ref rb), .val (.long ((x1).toInt64)), .second] [])) (fun _ k => XS.icmpNo X34.here hx rfl (hb hby at_48) rfl (by decide) k) ?_
    refine Goes.by (T' := T34) (g' := (mkF m 53 #[.val (.int x0), .val (.int x1), .val (.long x2), .second, .val (.long x3), .second, .val (.int (1 : Int32)), .val (.ref ra), .val (.ref rb), .val (.long ((x1).toInt64)), .second] [(.ref ra)])) (fun _ k => XS.aload X34.here hx rfl (hb hby at_51) rfl rfl k) ?_
    refine Goes.by (T' := T34) (g' := (mkF m 55 #[.val (.int x0), .val (.int x1), .val (.long x2), .second, .val (.long x3), .second, .val (.int (1 : Int32)), .val (.ref ra), .val (.ref rb), .val (.long ((x1).toInt64)), .second] [(.ref rb), (.ref ra)])) (fun _ k => XS.aload X34.here hx rfl (hb hby at_53) rfl rfl k) ?_
    refine Goes.by (T' := T34) (g' := (mkF m 56 #[.val (.int x0), .val (.int x1), .val (.long x2), .second, .val (.long x3), .second, .val (.int (1 : Int32)), .val (.ref ra), .val (.ref rb), .val (.long ((x1).toInt64)), .second] [(.long x2), (.ref rb), (.ref ra)])) (fun _ k => XS.lloadN X34.here hx rfl (hb hby at_55) rfl k) ?_
    refine Goes.by (T' := T34) (g' := (mkF m 58 #[.val (.int x0), .val (.int x1), .val (.long x2), .second, .val (.long x3), .second, .val (.int (1 : Int32)), .val (.ref ra), .val (.ref rb), .val (.long ((x1).toInt64)), .second] [(.long x3), (.long x2), (.ref rb), (.ref ra)])) (fun _ k => XS.lload X34.here hx rfl (hb hby at_56) rfl k) ?_
    refine Goes.by (T' := T34) (g' := (mkF m 60 #[.val (.int x0), .val (.int x1), .val (.long x2), .second, .val (.long x3), .second, .val (.int (1 : Int32)), .val (.ref ra), .val (.ref rb), .val (.long ((x1).toInt64)), .second] [(.long ((x1).toInt64)), (.long x3), (.long x2), (.ref rb), (.ref ra)])) (fun _ k => XS.lload X34.here hx rfl (hb hby at_58) rfl k) ?_
    refine Goes.by (T' := T34) (g' := (mkF m 61 #[.val (.int x0), .val (.int x1), .val (.long x2), .second, .val (.long x3), .second, .val (.int (1 : Int32)), .val (.ref ra), .val (.ref rb), .val (.long ((x1).toInt64)), .second] [(.int (0 : Int32)), (.long ((x1).toInt64)), (.long x3), (.long x2), (.ref rb), (.ref ra)])) (fun _ k => XS.iconst X34.here hx rfl (hb hby at_60)  k) ?_
    refine Goes.by (T' := T34) (g' := (mkF m 63 #[.val (.int x0), .val (.int x1), .val (.long x2), .second, .val (.long x3), .second, .val (.int (1 : Int32)), .val (.ref ra), .val (.ref rb), .val (.long ((x1).toInt64)), .second] [(.int (1 : Int32)), (.int (0 : Int32)), (.long ((x1).toInt64)), (.long x3), (.long x2), (.ref rb), (.ref ra)])) (fun _ k => XS.iload X34.here hx rfl (hb hby at_61) rfl k) ?_
    obtain ⟨v35, T35, L35, X35, hQ35, st35⟩ := callC X34 hx hZ (y := (⟨"com/example/adhoq/adhoq/VectorsAddTimesPinLaw", "okAt", "([D[DJJJII)Z"⟩ : MethodName)) hown (hw _ (List.mem_of_getElem? (i := 9) rfl)) (hw _ (List.mem_of_getElem? (i := 10) rfl)) (hw _ (List.mem_of_getElem? (i := 11) rfl)) (hw _ (List.mem_of_getElem? (i := 2) rfl)) (by decide) e34 (argsL := [(.ref ra), (.ref rb), (.long x2), (.long x3), (.long ((x1).toInt64)), (.int (0 : Int32)), (.int (1 : Int32))]) (rest := []) (W := 0) (rm_ok2 l Z a0 hw ra rb x2 x3 x1.toInt64 (0 : Int32) (1 : Int32) [(.double s0)] [(.double (FP.l2d (own_part x3 (0 : Int32))))] 0 s0 _ T34.heap n0 Z0 V_ra V_rb (by decide) (by decide) rfl rfl (by rw [c_i2l]; exact bf) (by rw [c_i2l]; exact DS0) (DInt_l2d rfl (by omega))) rfl (by decide) (by decide) (by decide) (by decide) (g := (mkF m 63 #[.val (.int x0), .val (.int x1), .val (.long x2), .second, .val (.long x3), .second, .val (.int (1 : Int32)), .val (.ref ra), .val (.ref rb), .val (.long ((x1).toInt64)), .second] [(.int (1 : Int32)), (.int (0 : Int32)), (.long ((x1).toInt64)), (.long x3), (.long x2), (.ref rb), (.ref ra)])) rfl (by rw [hml]; rfl) (lenOf pd3 rfl) rfl (by show 2 * 0 + _ ≤ _; exact Nat.le_of_eq rfl) (hb hby at_63)
    obtain ⟨rfl, NL35, hk35⟩ := hQ35
    have N0 := Fr.app N0 NL35
    refine Goes.by (T' := T35) (g' := (mkF m 66 #[.val (.int x0), .val (.int x1), .val (.long x2), .second, .val (.long x3), .second, .val (.int (1 : Int32)), .val (.ref ra), .val (.ref rb), .val (.long ((x1).toInt64)), .second] [(.int (1 : Int32))])) st35 ?_
    refine Goes.by (T' := T35) (g' := (mkF m 69 #[.val (.int x0), .val (.int x1), .val (.long x2), .second, .val (.long x3), .second, .val (.int (1 : Int32)), .val (.ref ra), .val (.ref rb), .val (.long ((x1).toInt64)), .second] [])) (fun _ k => XS.ifNo X35.here hx rfl (hb hby at_66) rfl (by decide) k) ?_
    refine Goes.by (T' := T35) (g' := (mkF m 71 #[.val (.int x0), .val (.int x1), .val (.long x2), .second, .val (.long x3), .second, .val (.int (1 : Int32)), .val (.ref ra), .val (.ref rb), .val (.long ((x1).toInt64)), .second] [(.ref ra)])) (fun _ k => XS.aload X35.here hx rfl (hb hby at_69) rfl rfl k) ?_
    refine Goes.by (T' := T35) (g' := (mkF m 73 #[.val (.int x0), .val (.int x1), .val (.long x2), .second, .val (.long x3), .second, .val (.int (1 : Int32)), .val (.ref ra), .val (.ref rb), .val (.long ((x1).toInt64)), .second] [(.ref rb), (.ref ra)])) (fun _ k => XS.aload X35.here hx rfl (hb hby at_71) rfl rfl k) ?_
    refine Goes.by (T' := T35) (g' := (mkF m 74 #[.val (.int x0), .val (.int x1), .val (.long x2), .second, .val (.long x3), .second, .val (.int (1 : Int32)), .val (.ref ra), .val (.ref rb), .val (.long ((x1).toInt64)), .second] [(.long x2), (.ref rb), (.ref ra)])) (fun _ k => XS.lloadN X35.here hx rfl (hb hby at_73) rfl k) ?_
    refine Goes.by (T' := T35) (g' := (mkF m 76 #[.val (.int x0), .val (.int x1), .val (.long x2), .second, .val (.long x3), .second, .val (.int (1 : Int32)), .val (.ref ra), .val (.ref rb), .val (.long ((x1).toInt64)), .second] [(.long x3), (.long x2), (.ref rb), (.ref ra)])) (fun _ k => XS.lload X35.here hx rfl (hb hby at_74) rfl k) ?_
    refine Goes.by (T' := T35) (g' := (mkF m 78 #[.val (.int x0), .val (.int x1), .val (.long x2), .second, .val (.long x3), .second, .val (.int (1 : Int32)), .val (.ref ra), .val (.ref rb), .val (.long ((x1).toInt64)), .second] [(.long ((x1).toInt64)), (.long x3), (.long x2), (.ref rb), (.ref ra)])) (fun _ k => XS.lload X35.here hx rfl (hb hby at_76) rfl k) ?_
    refine Goes.by (T' := T35) (g' := (mkF m 79 #[.val (.int x0), .val (.int x1), .val (.long x2), .second, .val (.long x3), .second, .val (.int (1 : Int32)), .val (.ref ra), .val (.ref rb), .val (.long ((x1).toInt64)), .second] [(.int (1 : Int32)), (.long ((x1).toInt64)), (.long x3), (.long x2), (.ref rb), (.ref ra)])) (fun _ k => XS.iconst X35.here hx rfl (hb hby at_78)  k) ?_
    refine Goes.by (T' := T35) (g' := (mkF m 81 #[.val (.int x0), .val (.int x1), .val (.long x2), .second, .val (.long x3), .second, .val (.int (1 : Int32)), .val (.ref ra), .val (.ref rb), .val (.long ((x1).toInt64)), .second] [(.int (1 : Int32)), (.int (1 : Int32)), (.long ((x1).toInt64)), (.long x3), (.long x2), (.ref rb), (.ref ra)])) (fun _ k => XS.iload X35.here hx rfl (hb hby at_79) rfl k) ?_
    obtain ⟨v36, T36, L36, X36, hQ36, st36⟩ := callC X35 hx hZ (y := (⟨"com/example/adhoq/adhoq/VectorsAddTimesPinLaw", "okAt", "([D[DJJJII)Z"⟩ : MethodName)) hown (hw _ (List.mem_of_getElem? (i := 9) rfl)) (hw _ (List.mem_of_getElem? (i := 10) rfl)) (hw _ (List.mem_of_getElem? (i := 11) rfl)) (hw _ (List.mem_of_getElem? (i := 2) rfl)) (by decide) hk35 (argsL := [(.ref ra), (.ref rb), (.long x2), (.long x3), (.long ((x1).toInt64)), (.int (1 : Int32)), (.int (1 : Int32))]) (rest := []) (W := 0) (rm_ok1 l Z a0 hw ra rb x2 x3 x1.toInt64 (1 : Int32) (1 : Int32) T34.heap n0 Z0 (by decide)) rfl (by decide) (by decide) (by decide) (by decide) (g := (mkF m 81 #[.val (.int x0), .val (.int x1), .val (.long x2), .second, .val (.long x3), .second, .val (.int (1 : Int32)), .val (.ref ra), .val (.ref rb), .val (.long ((x1).toInt64)), .second] [(.int (1 : Int32)), (.int (1 : Int32)), (.long ((x1).toInt64)), (.long x3), (.long x2), (.ref rb), (.ref ra)])) rfl (by rw [hml]; rfl) (lenOf pd3 rfl) rfl (by show 2 * 0 + _ ≤ _; exact Nat.le_of_eq rfl) (hb hby at_81)
    obtain ⟨rfl, NL36, hk36⟩ := hQ36
    have N0 := Fr.app N0 NL36
    refine Goes.by (T' := T36) (g' := (mkF m 84 #[.val (.int x0), .val (.int x1), .val (.long x2), .second, .val (.long x3), .second, .val (.int (1 : Int32)), .val (.ref ra), .val (.ref rb), .val (.long ((x1).toInt64)), .second] [(.int (1 : Int32))])) st36 ?_
    refine Goes.by (T' := T36) (g' := (mkF m 87 #[.val (.int x0), .val (.int x1), .val (.long x2), .second, .val (.long x3), .second, .val (.int (1 : Int32)), .val (.ref ra), .val (.ref rb), .val (.long ((x1).toInt64)), .second] [])) (fun _ k => XS.ifNo X36.here hx rfl (hb hby at_84) rfl (by decide) k) ?_
    refine Goes.by (T' := T36) (g' := (mkF m 89 #[.val (.int x0), .val (.int x1), .val (.long x2), .second, .val (.long x3), .second, .val (.int (1 : Int32)), .val (.ref ra), .val (.ref rb), .val (.long ((x1).toInt64)), .second] [(.ref ra)])) (fun _ k => XS.aload X36.here hx rfl (hb hby at_87) rfl rfl k) ?_
    refine Goes.by (T' := T36) (g' := (mkF m 91 #[.val (.int x0), .val (.int x1), .val (.long x2), .second, .val (.long x3), .second, .val (.int (1 : Int32)), .val (.ref ra), .val (.ref rb), .val (.long ((x1).toInt64)), .second] [(.ref rb), (.ref ra)])) (fun _ k => XS.aload X36.here hx rfl (hb hby at_89) rfl rfl k) ?_
    refine Goes.by (T' := T36) (g' := (mkF m 92 #[.val (.int x0), .val (.int x1), .val (.long x2), .second, .val (.long x3), .second, .val (.int (1 : Int32)), .val (.ref ra), .val (.ref rb), .val (.long ((x1).toInt64)), .second] [(.long x2), (.ref rb), (.ref ra)])) (fun _ k => XS.lloadN X36.here hx rfl (hb hby at_91) rfl k) ?_
    refine Goes.by (T' := T36) (g' := (mkF m 94 #[.val (.int x0), .val (.int x1), .val (.long x2), .second, .val (.long x3), .second, .val (.int (1 : Int32)), .val (.ref ra), .val (.ref rb), .val (.long ((x1).toInt64)), .second] [(.long x3), (.long x2), (.ref rb), (.ref ra)])) (fun _ k => XS.lload X36.here hx rfl (hb hby at_92) rfl k) ?_
    refine Goes.by (T' := T36) (g' := (mkF m 96 #[.val (.int x0), .val (.int x1), .val (.long x2), .second, .val (.long x3), .second, .val (.int (1 : Int32)), .val (.ref ra), .val (.ref rb), .val (.long ((x1).toInt64)), .second] [(.long ((x1).toInt64)), (.long x3), (.long x2), (.ref rb), (.ref ra)])) (fun _ k => XS.lload X36.here hx rfl (hb hby at_94) rfl k) ?_
    refine Goes.by (T' := T36) (g' := (mkF m 97 #[.val (.int x0), .val (.int x1), .val (.long x2), .second, .val (.long x3), .second, .val (.int (1 : Int32)), .val (.ref ra), .val (.ref rb), .val (.long ((x1).toInt64)), .second] [(.int (2 : Int32)), (.long ((x1).toInt64)), (.long x3), (.long x2), (.ref rb), (.ref ra)])) (fun _ k => XS.iconst X36.here hx rfl (hb hby at_96)  k) ?_
    refine Goes.by (T' := T36) (g' := (mkF m 99 #[.val (.int x0), .val (.int x1), .val (.long x2), .second, .val (.long x3), .second, .val (.int (1 : Int32)), .val (.ref ra), .val (.ref rb), .val (.long ((x1).toInt64)), .second] [(.int (1 : Int32)), (.int (2 : Int32)), (.long ((x1).toInt64)), (.long x3), (.long x2), (.ref rb), (.ref ra)])) (fun _ k => XS.iload X36.here hx rfl (hb hby at_97) rfl k) ?_
    obtain ⟨v37, T37, L37, X37, hQ37, st37⟩ := callC X36 hx hZ (y := (⟨"com/example/adhoq/adhoq/VectorsAddTimesPinLaw", "okAt", "([D[DJJJII)Z"⟩ : MethodName)) hown (hw _ (List.mem_of_getElem? (i := 9) rfl)) (hw _ (List.mem_of_getElem? (i := 10) rfl)) (hw _ (List.mem_of_getElem? (i := 11) rfl)) (hw _ (List.mem_of_getElem? (i := 2) rfl)) (by decide) hk36 (argsL := [(.ref ra), (.ref rb), (.long x2), (.long x3), (.long ((x1).toInt64)), (.int (2 : Int32)), (.int (1 : Int32))]) (rest := []) (W := 0) (rm_ok1 l Z a0 hw ra rb x2 x3 x1.toInt64 (2 : Int32) (1 : Int32) T34.heap n0 Z0 (by decide)) rfl (by decide) (by decide) (by decide) (by decide) (g := (mkF m 99 #[.val (.int x0), .val (.int x1), .val (.long x2), .second, .val (.long x3), .second, .val (.int (1 : Int32)), .val (.ref ra), .val (.ref rb), .val (.long ((x1).toInt64)), .second] [(.int (1 : Int32)), (.int (2 : Int32)), (.long ((x1).toInt64)), (.long x3), (.long x2), (.ref rb), (.ref ra)])) rfl (by rw [hml]; rfl) (lenOf pd3 rfl) rfl (by show 2 * 0 + _ ≤ _; exact Nat.le_of_eq rfl) (hb hby at_99)
    obtain ⟨rfl, NL37, hk37⟩ := hQ37
    have N0 := Fr.app N0 NL37
    refine Goes.by (T' := T37) (g' := (mkF m 102 #[.val (.int x0), .val (.int x1), .val (.long x2), .second, .val (.long x3), .second, .val (.int (1 : Int32)), .val (.ref ra), .val (.ref rb), .val (.long ((x1).toInt64)), .second] [(.int (1 : Int32))])) st37 ?_
    refine Goes.by (T' := T37) (g' := (mkF m 105 #[.val (.int x0), .val (.int x1), .val (.long x2), .second, .val (.long x3), .second, .val (.int (1 : Int32)), .val (.ref ra), .val (.ref rb), .val (.long ((x1).toInt64)), .second] [])) (fun _ k => XS.ifNo X37.here hx rfl (hb hby at_102) rfl (by decide) k) ?_
    refine Goes.by (T' := T37) (g' := (mkF m 106 #[.val (.int x0), .val (.int x1), .val (.long x2), .second, .val (.long x3), .second, .val (.int (1 : Int32)), .val (.ref ra), .val (.ref rb), .val (.long ((x1).toInt64)), .second] [(.int (1 : Int32))])) (fun _ k => XS.iconst X37.here hx rfl (hb hby at_105)  k) ?_
    refine Goes.by (T' := T37) (g' := (mkF m 110 #[.val (.int x0), .val (.int x1), .val (.long x2), .second, .val (.long x3), .second, .val (.int (1 : Int32)), .val (.ref ra), .val (.ref rb), .val (.long ((x1).toInt64)), .second] [(.int (1 : Int32))])) (fun _ k => XS.goto X37.here hx rfl (pc0 := 106) (pc' := 110) rfl (hb hby at_106) (by decide) (by decide) k) ?_
    exact outZ X37 hx hlk hret (hb hby at_110) (by exact ⟨rfl, N0⟩) (by decide) (by decide)
  · subst hn
    obtain ⟨v38, T38, L38, X38, hQ38, st38⟩ := callC X0 hx hZ (y := (⟨"com/example/adhoq/adhoq/VectorsAddTimesPinLaw", "make", "(JI)[D"⟩ : MethodName)) hown (hw _ (List.mem_of_getElem? (i := 0) rfl)) (hw _ (List.mem_of_getElem? (i := 1) rfl)) (hw _ (List.mem_of_getElem? (i := 3) rfl)) (hw _ (List.mem_of_getElem? (i := 2) rfl)) (by decide) e0 (argsL := [(.long x2), (.int (2 : Int32))]) (rest := []) (W := 0) (rm_make2 l Z a0 hw x2 h0 n0 Z0) rfl (by decide) (by decide) (by decide) (by decide) (g := (mkF m 8 #[.val (.int x0), .val (.int x1), .val (.long x2), .second, .val (.long x3), .second, .val (.int (2 : Int32)), .unset, .unset, .unset, .unset] [(.int (2 : Int32)), (.long x2)])) rfl (by rw [hml]; rfl) (lenOf pd1 rfl) rfl (by show 2 * 0 + _ ≤ _; exact Nat.le_of_eq rfl) (hb hby at_8)
    obtain ⟨ra, rfl, sza, V_ra, K38, NL38⟩ := hQ38
    have N0 := Fr.app N0 NL38
    have ge_ra : n0 ≤ ra := Nat.le_trans Z0 sza
    have e38 : T38.heap = T38.heap := rfl
    have Z0 := Nat.le_trans Z0 K38.1
    refine Goes.by (T' := T38) (g' := (mkF m 11 #[.val (.int x0), .val (.int x1), .val (.long x2), .second, .val (.long x3), .second, .val (.int (2 : Int32)), .unset, .unset, .unset, .unset] [(.ref ra)])) st38 ?_
    refine Goes.by (T' := T38) (g' := (mkF m 13 #[.val (.int x0), .val (.int x1), .val (.long x2), .second, .val (.long x3), .second, .val (.int (2 : Int32)), .val (.ref ra), .unset, .unset, .unset] [])) (fun _ k => XS.astore X38.here hx rfl (hb hby at_11) rfl rfl (l' := #[.val (.int x0), .val (.int x1), .val (.long x2), .second, .val (.long x3), .second, .val (.int (2 : Int32)), .val (.ref ra), .unset, .unset, .unset]) rfl k) ?_
    refine Goes.by (T' := T38) (g' := (mkF m 15 #[.val (.int x0), .val (.int x1), .val (.long x2), .second, .val (.long x3), .second, .val (.int (2 : Int32)), .val (.ref ra), .unset, .unset, .unset] [(.long x3)])) (fun _ k => XS.lload X38.here hx rfl (hb hby at_13) rfl k) ?_
    refine Goes.by (T' := T38) (g' := (mkF m 17 #[.val (.int x0), .val (.int x1), .val (.long x2), .second, .val (.long x3), .second, .val (.int (2 : Int32)), .val (.ref ra), .unset, .unset, .unset] [(.int (2 : Int32)), (.long x3)])) (fun _ k => XS.iload X38.here hx rfl (hb hby at_15) rfl k) ?_
    obtain ⟨v39, T39, L39, X39, hQ39, st39⟩ := callC X38 hx hZ (y := (⟨"com/example/adhoq/adhoq/VectorsAddTimesPinLaw", "make", "(JI)[D"⟩ : MethodName)) hown (hw _ (List.mem_of_getElem? (i := 0) rfl)) (hw _ (List.mem_of_getElem? (i := 1) rfl)) (hw _ (List.mem_of_getElem? (i := 3) rfl)) (hw _ (List.mem_of_getElem? (i := 2) rfl)) (by decide) e38 (argsL := [(.long x3), (.int (2 : Int32))]) (rest := []) (W := 0) (rm_make2 l Z a0 hw x3 T38.heap n0 Z0) rfl (by decide) (by decide) (by decide) (by decide) (g := (mkF m 17 #[.val (.int x0), .val (.int x1), .val (.long x2), .second, .val (.long x3), .second, .val (.int (2 : Int32)), .val (.ref ra), .unset, .unset, .unset] [(.int (2 : Int32)), (.long x3)])) rfl (by rw [hml]; rfl) (lenOf pd1 rfl) rfl (by show 2 * 0 + _ ≤ _; exact Nat.le_of_eq rfl) (hb hby at_17)
    obtain ⟨rb, rfl, szb, V_rb, K39, NL39⟩ := hQ39
    have N0 := Fr.app N0 NL39
    have ne_ra_rb : ra ≠ rb := fun q => Nat.lt_irrefl _ (Nat.lt_of_lt_of_le V_ra.lt (Nat.le_trans szb (Nat.le_of_eq q.symm)))
    have ge_rb : n0 ≤ rb := Nat.le_trans Z0 szb
    have e39 : T39.heap = T39.heap := rfl
    have V_ra := V_ra.keep K39 nin0
    have Z0 := Nat.le_trans Z0 K39.1
    refine Goes.by (T' := T39) (g' := (mkF m 20 #[.val (.int x0), .val (.int x1), .val (.long x2), .second, .val (.long x3), .second, .val (.int (2 : Int32)), .val (.ref ra), .unset, .unset, .unset] [(.ref rb)])) st39 ?_
    refine Goes.by (T' := T39) (g' := (mkF m 22 #[.val (.int x0), .val (.int x1), .val (.long x2), .second, .val (.long x3), .second, .val (.int (2 : Int32)), .val (.ref ra), .val (.ref rb), .unset, .unset] [])) (fun _ k => XS.astore X39.here hx rfl (hb hby at_20) rfl rfl (l' := #[.val (.int x0), .val (.int x1), .val (.long x2), .second, .val (.long x3), .second, .val (.int (2 : Int32)), .val (.ref ra), .val (.ref rb), .unset, .unset]) rfl k) ?_
    refine Goes.by (T' := T39) (g' := (mkF m 24 #[.val (.int x0), .val (.int x1), .val (.long x2), .second, .val (.long x3), .second, .val (.int (2 : Int32)), .val (.ref ra), .val (.ref rb), .unset, .unset] [(.ref ra)])) (fun _ k => XS.aload X39.here hx rfl (hb hby at_22) rfl rfl k) ?_
    refine Goes.by (T' := T39) (g' := (mkF m 25 #[.val (.int x0), .val (.int x1), .val (.long x2), .second, .val (.long x3), .second, .val (.int (2 : Int32)), .val (.ref ra), .val (.ref rb), .unset, .unset] [(.int x1), (.ref ra)])) (fun _ k => XS.iloadN X39.here hx rfl (hb hby at_24) rfl k) ?_
    obtain ⟨f, q_f⟩ : ∃ zz, FP.i2d x1 = zz := ⟨_, rfl⟩
    refine Goes.by (T' := T39) (g' := (mkF m 26 #[.val (.int x0), .val (.int x1), .val (.long x2), .second, .val (.long x3), .second, .val (.int (2 : Int32)), .val (.ref ra), .val (.ref rb), .unset, .unset] [(.double f), (.ref ra)])) (fun _ k => XS.i2dS X39.here hx rfl (hb hby at_25) rfl q_f k) ?_
    refine Goes.by (T' := T39) (g' := (mkF m 28 #[.val (.int x0), .val (.int x1), .val (.long x2), .second, .val (.long x3), .second, .val (.int (2 : Int32)), .val (.ref ra), .val (.ref rb), .unset, .unset] [(.ref rb), (.double f), (.ref ra)])) (fun _ k => XS.aload X39.here hx rfl (hb hby at_26) rfl rfl k) ?_
    have bf : x1.toInt.natAbs ≤ 2147483648 := by have := rng32 x1; omega
    have b_x2_0 := own_part_bd x2 (0 : Int32)
    have b_x2_1 := own_part_bd x2 (1 : Int32)
    have b_x3_0 := own_part_bd x3 (0 : Int32)
    have b_x3_1 := own_part_bd x3 (1 : Int32)
    obtain ⟨v40, T40, L40, X40, hQ40, st40⟩ := callC X39 hx hZ (y := (⟨"com/example/adhoq/adhoq/Vectors", "addTimes", "([DD[D)V"⟩ : MethodName)) hown (hw _ (List.mem_of_getElem? (i := 5) rfl)) (hw _ (List.mem_of_getElem? (i := 6) rfl)) (hw _ (List.mem_of_getElem? (i := 8) rfl)) (hw _ (List.mem_of_getElem? (i := 7) rfl)) (by decide) e39 (argsL := [(.ref ra), (.double f), (.ref rb)]) (rest := []) (W := 0) (rm_add2 l Z a0 hw ra rb f x1.toInt _ _ (own_part x2 (0 : Int32)).toInt (own_part x3 (0 : Int32)).toInt _ _ (own_part x2 (1 : Int32)).toInt (own_part x3 (1 : Int32)).toInt T39.heap n0 Z0 V_ra V_rb ne_ra_rb ge_ra (DInt_i2d q_f) bf (DInt_l2d rfl (by omega)) (DInt_l2d rfl (by omega)) b_x2_0 b_x3_0 (DInt_l2d rfl (by omega)) (DInt_l2d rfl (by omega)) b_x2_1 b_x3_1) rfl (by decide) (by decide) (by decide) (by decide) (g := (mkF m 28 #[.val (.int x0), .val (.int x1), .val (.long x2), .second, .val (.long x3), .second, .val (.int (2 : Int32)), .val (.ref ra), .val (.ref rb), .unset, .unset] [(.ref rb), (.double f), (.ref ra)])) rfl (by rw [hml]; rfl) (lenOf pd2 rfl) rfl (by show 2 * 0 + _ ≤ _; exact Nat.le_of_eq rfl) (hb hby at_28)
    obtain ⟨rfl, ⟨s0, s1, DS0, DS1, V_ra⟩, K40, NL40⟩ := hQ40
    have N0 := Fr.app N0 NL40
    have e40 : T40.heap = T40.heap := rfl
    have V_rb := V_rb.keep K40 (ninS (Ne.symm ne_ra_rb) nin0)
    have Z0 := Nat.le_trans Z0 K40.1
    refine Goes.by (T' := T40) (g' := (mkF m 31 #[.val (.int x0), .val (.int x1), .val (.long x2), .second, .val (.long x3), .second, .val (.int (2 : Int32)), .val (.ref ra), .val (.ref rb), .unset, .unset] [])) st40 ?_
    refine Goes.by (T' := T40) (g' := (mkF m 32 #[.val (.int x0), .val (.int x1), .val (.long x2), .second, .val (.long x3), .second, .val (.int (2 : Int32)), .val (.ref ra), .val (.ref rb), .unset, .unset] [(.int x1)])) (fun _ k => XS.iloadN X40.here hx rfl (hb hby at_31) rfl k) ?_
    refine Goes.by (T' := T40) (g' := (mkF m 33 #[.val (.int x0), .val (.int x1), .val (.long x2), .second, .val (.long x3), .second, .val (.int (2 : Int32)), .val (.ref ra), .val (.ref rb), .unset, .unset] [(.long ((x1).toInt64))])) (fun _ k => XS.i2l X40.here hx rfl (hb hby at_32) rfl k) ?_
    refine Goes.by (T' := T40) (g' := (mkF m 35 #[.val (.int x0), .val (.int x1), .val (.long x2), .second, .val (.long x3), .second, .val (.int (2 : Int32)), .val (.ref ra), .val (.ref rb), .val (.long ((x1).toInt64)), .second] [])) (fun _ k => XS.lstore X40.here hx rfl (hb hby at_33) rfl (l' := #[.val (.int x0), .val (.int x1), .val (.long x2), .second, .val (.long x3), .second, .val (.int (2 : Int32)), .val (.ref ra), .val (.ref rb), .val (.long ((x1).toInt64)), .second]) rfl k) ?_
    refine Goes.by (T' := T40) (g' := (mkF m 37 #[.val (.int x0), .val (.int x1), .val (.long x2), .second, .val (.long x3), .second, .val (.int (2 : Int32)), .val (.ref ra), .val (.ref rb), .val (.long ((x1).toInt64)), .second] [(.ref ra)])) (fun _ k => XS.aload X40.here hx rfl (hb hby at_35) rfl rfl k) ?_
    refine Goes.by (T' := T40) (g' := (mkF m 38 #[.val (.int x0), .val (.int x1), .val (.long x2), .second, .val (.long x3), .second, .val (.int (2 : Int32)), .val (.ref ra), .val (.ref rb), .val (.long ((x1).toInt64)), .second] [(.int (2 : Int32))])) (lenS X40 hx hZ e40 V_ra (n := (2 : Int32)) rfl (g := (mkF m 37 #[.val (.int x0), .val (.int x1), .val (.long x2), .second, .val (.long x3), .second, .val (.int (2 : Int32)), .val (.ref ra), .val (.ref rb), .val (.long ((x1).toInt64)), .second] [(.ref ra)])) rfl rfl (hb hby at_37)) ?_
    refine Goes.by (T' := T40) (g' := (mkF m 40 #[.val (.int x0), .val (.int x1), .val (.long x2), .second, .val (.long x3), .second, .val (.int (2 : Int32)), .val (.ref ra), .val (.ref rb), .val (.long ((x1).toInt64)), .second] [(.int (2 : Int32)), (.int (2 : Int32))])) (fun _ k => XS.iload X40.here hx rfl (hb hby at_38) rfl k) ?_
    refine Goes.by (T' := T40) (g' := (mkF m 43 #[.val (.int x0), .val (.int x1), .val (.long x2), .second, .val (.long x3), .second, .val (.int (2 : Int32)), .val (.ref ra), .val (.ref rb), .val (.long ((x1).toInt64)), .second] [])) (fun _ k => XS.icmpNo X40.here hx rfl (hb hby at_40) rfl (by decide) k) ?_
    refine Goes.by (T' := T40) (g' := (mkF m 45 #[.val (.int x0), .val (.int x1), .val (.long x2), .second, .val (.long x3), .second, .val (.int (2 : Int32)), .val (.ref ra), .val (.ref rb), .val (.long ((x1).toInt64)), .second] [(.ref rb)])) (fun _ k => XS.aload X40.here hx rfl (hb hby at_43) rfl rfl k) ?_
    refine Goes.by (T' := T40) (g' := (mkF m 46 #[.val (.int x0), .val (.int x1), .val (.long x2), .second, .val (.long x3), .second, .val (.int (2 : Int32)), .val (.ref ra), .val (.ref rb), .val (.long ((x1).toInt64)), .second] [(.int (2 : Int32))])) (lenS X40 hx hZ e40 V_rb (n := (2 : Int32)) rfl (g := (mkF m 45 #[.val (.int x0), .val (.int x1), .val (.long x2), .second, .val (.long x3), .second, .val (.int (2 : Int32)), .val (.ref ra), .val (.ref rb), .val (.long ((x1).toInt64)), .second] [(.ref rb)])) rfl rfl (hb hby at_45)) ?_
    refine Goes.by (T' := T40) (g' := (mkF m 48 #[.val (.int x0), .val (.int x1), .val (.long x2), .second, .val (.long x3), .second, .val (.int (2 : Int32)), .val (.ref ra), .val (.ref rb), .val (.long ((x1).toInt64)), .second] [(.int (2 : Int32)), (.int (2 : Int32))])) (fun _ k => XS.iload X40.here hx rfl (hb hby at_46) rfl k) ?_
    refine Goes.by (T' := T40) (g' := (mkF m 51 #[.val (.int x0), .val (.int x1), .val (.long x2), .second, .val (.long x3), .second, .val (.int (2 : Int32)), .val (.ref ra), .val (.ref rb), .val (.long ((x1).toInt64)), .second] [])) (fun _ k => XS.icmpNo X40.here hx rfl (hb hby at_48) rfl (by decide) k) ?_
    refine Goes.by (T' := T40) (g' := (mkF m 53 #[.val (.int x0), .val (.int x1), .val (.long x2), .second, .val (.long x3), .second, .val (.int (2 : Int32)), .val (.ref ra), .val (.ref rb), .val (.long ((x1).toInt64)), .second] [(.ref ra)])) (fun _ k => XS.aload X40.here hx rfl (hb hby at_51) rfl rfl k) ?_
    refine Goes.by (T' := T40) (g' := (mkF m 55 #[.val (.int x0), .val (.int x1), .val (.long x2), .second, .val (.long x3), .second, .val (.int (2 : Int32)), .val (.ref ra), .val (.ref rb), .val (.long ((x1).toInt64)), .second] [(.ref rb), (.ref ra)])) (fun _ k => XS.aload X40.here hx rfl (hb hby at_53) rfl rfl k) ?_
    refine Goes.by (T' := T40) (g' := (mkF m 56 #[.val (.int x0), .val (.int x1), .val (.long x2), .second, .val (.long x3), .second, .val (.int (2 : Int32)), .val (.ref ra), .val (.ref rb), .val (.long ((x1).toInt64)), .second] [(.long x2), (.ref rb), (.ref ra)])) (fun _ k => XS.lloadN X40.here hx rfl (hb hby at_55) rfl k) ?_
    refine Goes.by (T' := T40) (g' := (mkF m 58 #[.val (.int x0), .val (.int x1), .val (.long x2), .second, .val (.long x3), .second, .val (.int (2 : Int32)), .val (.ref ra), .val (.ref rb), .val (.long ((x1).toInt64)), .second] [(.long x3), (.long x2), (.ref rb), (.ref ra)])) (fun _ k => XS.lload X40.here hx rfl (hb hby at_56) rfl k) ?_
    refine Goes.by (T' := T40) (g' := (mkF m 60 #[.val (.int x0), .val (.int x1), .val (.long x2), .second, .val (.long x3), .second, .val (.int (2 : Int32)), .val (.ref ra), .val (.ref rb), .val (.long ((x1).toInt64)), .second] [(.long ((x1).toInt64)), (.long x3), (.long x2), (.ref rb), (.ref ra)])) (fun _ k => XS.lload X40.here hx rfl (hb hby at_58) rfl k) ?_
    refine Goes.by (T' := T40) (g' := (mkF m 61 #[.val (.int x0), .val (.int x1), .val (.long x2), .second, .val (.long x3), .second, .val (.int (2 : Int32)), .val (.ref ra), .val (.ref rb), .val (.long ((x1).toInt64)), .second] [(.int (0 : Int32)), (.long ((x1).toInt64)), (.long x3), (.long x2), (.ref rb), (.ref ra)])) (fun _ k => XS.iconst X40.here hx rfl (hb hby at_60)  k) ?_
    refine Goes.by (T' := T40) (g' := (mkF m 63 #[.val (.int x0), .val (.int x1), .val (.long x2), .second, .val (.long x3), .second, .val (.int (2 : Int32)), .val (.ref ra), .val (.ref rb), .val (.long ((x1).toInt64)), .second] [(.int (2 : Int32)), (.int (0 : Int32)), (.long ((x1).toInt64)), (.long x3), (.long x2), (.ref rb), (.ref ra)])) (fun _ k => XS.iload X40.here hx rfl (hb hby at_61) rfl k) ?_
    obtain ⟨v41, T41, L41, X41, hQ41, st41⟩ := callC X40 hx hZ (y := (⟨"com/example/adhoq/adhoq/VectorsAddTimesPinLaw", "okAt", "([D[DJJJII)Z"⟩ : MethodName)) hown (hw _ (List.mem_of_getElem? (i := 9) rfl)) (hw _ (List.mem_of_getElem? (i := 10) rfl)) (hw _ (List.mem_of_getElem? (i := 11) rfl)) (hw _ (List.mem_of_getElem? (i := 2) rfl)) (by decide) e40 (argsL := [(.ref ra), (.ref rb), (.long x2), (.long x3), (.long ((x1).toInt64)), (.int (0 : Int32)), (.int (2 : Int32))]) (rest := []) (W := 0) (rm_ok2 l Z a0 hw ra rb x2 x3 x1.toInt64 (0 : Int32) (2 : Int32) [(.double s0), (.double s1)] [(.double (FP.l2d (own_part x3 (0 : Int32)))), (.double (FP.l2d (own_part x3 (1 : Int32))))] 0 s0 _ T40.heap n0 Z0 V_ra V_rb (by decide) (by decide) rfl rfl (by rw [c_i2l]; exact bf) (by rw [c_i2l]; exact DS0) (DInt_l2d rfl (by omega))) rfl (by decide) (by decide) (by decide) (by decide) (g := (mkF m 63 #[.val (.int x0), .val (.int x1), .val (.long x2), .second, .val (.long x3), .second, .val (.int (2 : Int32)), .val (.ref ra), .val (.ref rb), .val (.long ((x1).toInt64)), .second] [(.int (2 : Int32)), (.int (0 : Int32)), (.long ((x1).toInt64)), (.long x3), (.long x2), (.ref rb), (.ref ra)])) rfl (by rw [hml]; rfl) (lenOf pd3 rfl) rfl (by show 2 * 0 + _ ≤ _; exact Nat.le_of_eq rfl) (hb hby at_63)
    obtain ⟨rfl, NL41, hk41⟩ := hQ41
    have N0 := Fr.app N0 NL41
    refine Goes.by (T' := T41) (g' := (mkF m 66 #[.val (.int x0), .val (.int x1), .val (.long x2), .second, .val (.long x3), .second, .val (.int (2 : Int32)), .val (.ref ra), .val (.ref rb), .val (.long ((x1).toInt64)), .second] [(.int (1 : Int32))])) st41 ?_
    refine Goes.by (T' := T41) (g' := (mkF m 69 #[.val (.int x0), .val (.int x1), .val (.long x2), .second, .val (.long x3), .second, .val (.int (2 : Int32)), .val (.ref ra), .val (.ref rb), .val (.long ((x1).toInt64)), .second] [])) (fun _ k => XS.ifNo X41.here hx rfl (hb hby at_66) rfl (by decide) k) ?_
    refine Goes.by (T' := T41) (g' := (mkF m 71 #[.val (.int x0), .val (.int x1), .val (.long x2), .second, .val (.long x3), .second, .val (.int (2 : Int32)), .val (.ref ra), .val (.ref rb), .val (.long ((x1).toInt64)), .second] [(.ref ra)])) (fun _ k => XS.aload X41.here hx rfl (hb hby at_69) rfl rfl k) ?_
    refine Goes.by (T' := T41) (g' := (mkF m 73 #[.val (.int x0), .val (.int x1), .val (.long x2), .second, .val (.long x3), .second, .val (.int (2 : Int32)), .val (.ref ra), .val (.ref rb), .val (.long ((x1).toInt64)), .second] [(.ref rb), (.ref ra)])) (fun _ k => XS.aload X41.here hx rfl (hb hby at_71) rfl rfl k) ?_
    refine Goes.by (T' := T41) (g' := (mkF m 74 #[.val (.int x0), .val (.int x1), .val (.long x2), .second, .val (.long x3), .second, .val (.int (2 : Int32)), .val (.ref ra), .val (.ref rb), .val (.long ((x1).toInt64)), .second] [(.long x2), (.ref rb), (.ref ra)])) (fun _ k => XS.lloadN X41.here hx rfl (hb hby at_73) rfl k) ?_
    refine Goes.by (T' := T41) (g' := (mkF m 76 #[.val (.int x0), .val (.int x1), .val (.long x2), .second, .val (.long x3), .second, .val (.int (2 : Int32)), .val (.ref ra), .val (.ref rb), .val (.long ((x1).toInt64)), .second] [(.long x3), (.long x2), (.ref rb), (.ref ra)])) (fun _ k => XS.lload X41.here hx rfl (hb hby at_74) rfl k) ?_
    refine Goes.by (T' := T41) (g' := (mkF m 78 #[.val (.int x0), .val (.int x1), .val (.long x2), .second, .val (.long x3), .second, .val (.int (2 : Int32)), .val (.ref ra), .val (.ref rb), .val (.long ((x1).toInt64)), .second] [(.long ((x1).toInt64)), (.long x3), (.long x2), (.ref rb), (.ref ra)])) (fun _ k => XS.lload X41.here hx rfl (hb hby at_76) rfl k) ?_
    refine Goes.by (T' := T41) (g' := (mkF m 79 #[.val (.int x0), .val (.int x1), .val (.long x2), .second, .val (.long x3), .second, .val (.int (2 : Int32)), .val (.ref ra), .val (.ref rb), .val (.long ((x1).toInt64)), .second] [(.int (1 : Int32)), (.long ((x1).toInt64)), (.long x3), (.long x2), (.ref rb), (.ref ra)])) (fun _ k => XS.iconst X41.here hx rfl (hb hby at_78)  k) ?_
    refine Goes.by (T' := T41) (g' := (mkF m 81 #[.val (.int x0), .val (.int x1), .val (.long x2), .second, .val (.long x3), .second, .val (.int (2 : Int32)), .val (.ref ra), .val (.ref rb), .val (.long ((x1).toInt64)), .second] [(.int (2 : Int32)), (.int (1 : Int32)), (.long ((x1).toInt64)), (.long x3), (.long x2), (.ref rb), (.ref ra)])) (fun _ k => XS.iload X41.here hx rfl (hb hby at_79) rfl k) ?_
    obtain ⟨v42, T42, L42, X42, hQ42, st42⟩ := callC X41 hx hZ (y := (⟨"com/example/adhoq/adhoq/VectorsAddTimesPinLaw", "okAt", "([D[DJJJII)Z"⟩ : MethodName)) hown (hw _ (List.mem_of_getElem? (i := 9) rfl)) (hw _ (List.mem_of_getElem? (i := 10) rfl)) (hw _ (List.mem_of_getElem? (i := 11) rfl)) (hw _ (List.mem_of_getElem? (i := 2) rfl)) (by decide) hk41 (argsL := [(.ref ra), (.ref rb), (.long x2), (.long x3), (.long ((x1).toInt64)), (.int (1 : Int32)), (.int (2 : Int32))]) (rest := []) (W := 0) (rm_ok2 l Z a0 hw ra rb x2 x3 x1.toInt64 (1 : Int32) (2 : Int32) [(.double s0), (.double s1)] [(.double (FP.l2d (own_part x3 (0 : Int32)))), (.double (FP.l2d (own_part x3 (1 : Int32))))] 1 s1 _ T40.heap n0 Z0 V_ra V_rb (by decide) (by decide) rfl rfl (by rw [c_i2l]; exact bf) (by rw [c_i2l]; exact DS1) (DInt_l2d rfl (by omega))) rfl (by decide) (by decide) (by decide) (by decide) (g := (mkF m 81 #[.val (.int x0), .val (.int x1), .val (.long x2), .second, .val (.long x3), .second, .val (.int (2 : Int32)), .val (.ref ra), .val (.ref rb), .val (.long ((x1).toInt64)), .second] [(.int (2 : Int32)), (.int (1 : Int32)), (.long ((x1).toInt64)), (.long x3), (.long x2), (.ref rb), (.ref ra)])) rfl (by rw [hml]; rfl) (lenOf pd3 rfl) rfl (by show 2 * 0 + _ ≤ _; exact Nat.le_of_eq rfl) (hb hby at_81)
    obtain ⟨rfl, NL42, hk42⟩ := hQ42
    have N0 := Fr.app N0 NL42
    refine Goes.by (T' := T42) (g' := (mkF m 84 #[.val (.int x0), .val (.int x1), .val (.long x2), .second, .val (.long x3), .second, .val (.int (2 : Int32)), .val (.ref ra), .val (.ref rb), .val (.long ((x1).toInt64)), .second] [(.int (1 : Int32))])) st42 ?_
    refine Goes.by (T' := T42) (g' := (mkF m 87 #[.val (.int x0), .val (.int x1), .val (.long x2), .second, .val (.long x3), .second, .val (.int (2 : Int32)), .val (.ref ra), .val (.ref rb), .val (.long ((x1).toInt64)), .second] [])) (fun _ k => XS.ifNo X42.here hx rfl (hb hby at_84) rfl (by decide) k) ?_
    refine Goes.by (T' := T42) (g' := (mkF m 89 #[.val (.int x0), .val (.int x1), .val (.long x2), .second, .val (.long x3), .second, .val (.int (2 : Int32)), .val (.ref ra), .val (.ref rb), .val (.long ((x1).toInt64)), .second] [(.ref ra)])) (fun _ k => XS.aload X42.here hx rfl (hb hby at_87) rfl rfl k) ?_
    refine Goes.by (T' := T42) (g' := (mkF m 91 #[.val (.int x0), .val (.int x1), .val (.long x2), .second, .val (.long x3), .second, .val (.int (2 : Int32)), .val (.ref ra), .val (.ref rb), .val (.long ((x1).toInt64)), .second] [(.ref rb), (.ref ra)])) (fun _ k => XS.aload X42.here hx rfl (hb hby at_89) rfl rfl k) ?_
    refine Goes.by (T' := T42) (g' := (mkF m 92 #[.val (.int x0), .val (.int x1), .val (.long x2), .second, .val (.long x3), .second, .val (.int (2 : Int32)), .val (.ref ra), .val (.ref rb), .val (.long ((x1).toInt64)), .second] [(.long x2), (.ref rb), (.ref ra)])) (fun _ k => XS.lloadN X42.here hx rfl (hb hby at_91) rfl k) ?_
    refine Goes.by (T' := T42) (g' := (mkF m 94 #[.val (.int x0), .val (.int x1), .val (.long x2), .second, .val (.long x3), .second, .val (.int (2 : Int32)), .val (.ref ra), .val (.ref rb), .val (.long ((x1).toInt64)), .second] [(.long x3), (.long x2), (.ref rb), (.ref ra)])) (fun _ k => XS.lload X42.here hx rfl (hb hby at_92) rfl k) ?_
    refine Goes.by (T' := T42) (g' := (mkF m 96 #[.val (.int x0), .val (.int x1), .val (.long x2), .second, .val (.long x3), .second, .val (.int (2 : Int32)), .val (.ref ra), .val (.ref rb), .val (.long ((x1).toInt64)), .second] [(.long ((x1).toInt64)), (.long x3), (.long x2), (.ref rb), (.ref ra)])) (fun _ k => XS.lload X42.here hx rfl (hb hby at_94) rfl k) ?_
    refine Goes.by (T' := T42) (g' := (mkF m 97 #[.val (.int x0), .val (.int x1), .val (.long x2), .second, .val (.long x3), .second, .val (.int (2 : Int32)), .val (.ref ra), .val (.ref rb), .val (.long ((x1).toInt64)), .second] [(.int (2 : Int32)), (.long ((x1).toInt64)), (.long x3), (.long x2), (.ref rb), (.ref ra)])) (fun _ k => XS.iconst X42.here hx rfl (hb hby at_96)  k) ?_
    refine Goes.by (T' := T42) (g' := (mkF m 99 #[.val (.int x0), .val (.int x1), .val (.long x2), .second, .val (.long x3), .second, .val (.int (2 : Int32)), .val (.ref ra), .val (.ref rb), .val (.long ((x1).toInt64)), .second] [(.int (2 : Int32)), (.int (2 : Int32)), (.long ((x1).toInt64)), (.long x3), (.long x2), (.ref rb), (.ref ra)])) (fun _ k => XS.iload X42.here hx rfl (hb hby at_97) rfl k) ?_
    obtain ⟨v43, T43, L43, X43, hQ43, st43⟩ := callC X42 hx hZ (y := (⟨"com/example/adhoq/adhoq/VectorsAddTimesPinLaw", "okAt", "([D[DJJJII)Z"⟩ : MethodName)) hown (hw _ (List.mem_of_getElem? (i := 9) rfl)) (hw _ (List.mem_of_getElem? (i := 10) rfl)) (hw _ (List.mem_of_getElem? (i := 11) rfl)) (hw _ (List.mem_of_getElem? (i := 2) rfl)) (by decide) hk42 (argsL := [(.ref ra), (.ref rb), (.long x2), (.long x3), (.long ((x1).toInt64)), (.int (2 : Int32)), (.int (2 : Int32))]) (rest := []) (W := 0) (rm_ok1 l Z a0 hw ra rb x2 x3 x1.toInt64 (2 : Int32) (2 : Int32) T40.heap n0 Z0 (by decide)) rfl (by decide) (by decide) (by decide) (by decide) (g := (mkF m 99 #[.val (.int x0), .val (.int x1), .val (.long x2), .second, .val (.long x3), .second, .val (.int (2 : Int32)), .val (.ref ra), .val (.ref rb), .val (.long ((x1).toInt64)), .second] [(.int (2 : Int32)), (.int (2 : Int32)), (.long ((x1).toInt64)), (.long x3), (.long x2), (.ref rb), (.ref ra)])) rfl (by rw [hml]; rfl) (lenOf pd3 rfl) rfl (by show 2 * 0 + _ ≤ _; exact Nat.le_of_eq rfl) (hb hby at_99)
    obtain ⟨rfl, NL43, hk43⟩ := hQ43
    have N0 := Fr.app N0 NL43
    refine Goes.by (T' := T43) (g' := (mkF m 102 #[.val (.int x0), .val (.int x1), .val (.long x2), .second, .val (.long x3), .second, .val (.int (2 : Int32)), .val (.ref ra), .val (.ref rb), .val (.long ((x1).toInt64)), .second] [(.int (1 : Int32))])) st43 ?_
    refine Goes.by (T' := T43) (g' := (mkF m 105 #[.val (.int x0), .val (.int x1), .val (.long x2), .second, .val (.long x3), .second, .val (.int (2 : Int32)), .val (.ref ra), .val (.ref rb), .val (.long ((x1).toInt64)), .second] [])) (fun _ k => XS.ifNo X43.here hx rfl (hb hby at_102) rfl (by decide) k) ?_
    refine Goes.by (T' := T43) (g' := (mkF m 106 #[.val (.int x0), .val (.int x1), .val (.long x2), .second, .val (.long x3), .second, .val (.int (2 : Int32)), .val (.ref ra), .val (.ref rb), .val (.long ((x1).toInt64)), .second] [(.int (1 : Int32))])) (fun _ k => XS.iconst X43.here hx rfl (hb hby at_105)  k) ?_
    refine Goes.by (T' := T43) (g' := (mkF m 110 #[.val (.int x0), .val (.int x1), .val (.long x2), .second, .val (.long x3), .second, .val (.int (2 : Int32)), .val (.ref ra), .val (.ref rb), .val (.long ((x1).toInt64)), .second] [(.int (1 : Int32))])) (fun _ k => XS.goto X43.here hx rfl (pc0 := 106) (pc' := 110) rfl (hb hby at_106) (by decide) (by decide) k) ?_
    exact outZ X43 hx hlk hret (hb hby at_110) (by exact ⟨rfl, N0⟩) (by decide) (by decide)
  · subst hn
    obtain ⟨v44, T44, L44, X44, hQ44, st44⟩ := callC X0 hx hZ (y := (⟨"com/example/adhoq/adhoq/VectorsAddTimesPinLaw", "make", "(JI)[D"⟩ : MethodName)) hown (hw _ (List.mem_of_getElem? (i := 0) rfl)) (hw _ (List.mem_of_getElem? (i := 1) rfl)) (hw _ (List.mem_of_getElem? (i := 3) rfl)) (hw _ (List.mem_of_getElem? (i := 2) rfl)) (by decide) e0 (argsL := [(.long x2), (.int (3 : Int32))]) (rest := []) (W := 0) (rm_make3 l Z a0 hw x2 h0 n0 Z0) rfl (by decide) (by decide) (by decide) (by decide) (g := (mkF m 8 #[.val (.int x0), .val (.int x1), .val (.long x2), .second, .val (.long x3), .second, .val (.int (3 : Int32)), .unset, .unset, .unset, .unset] [(.int (3 : Int32)), (.long x2)])) rfl (by rw [hml]; rfl) (lenOf pd1 rfl) rfl (by show 2 * 0 + _ ≤ _; exact Nat.le_of_eq rfl) (hb hby at_8)
    obtain ⟨ra, rfl, sza, V_ra, K44, NL44⟩ := hQ44
    have N0 := Fr.app N0 NL44
    have ge_ra : n0 ≤ ra := Nat.le_trans Z0 sza
    have e44 : T44.heap = T44.heap := rfl
    have Z0 := Nat.le_trans Z0 K44.1
    refine Goes.by (T' := T44) (g' := (mkF m 11 #[.val (.int x0), .val (.int x1), .val (.long x2), .second, .val (.long x3), .second, .val (.int (3 : Int32)), .unset, .unset, .unset, .unset] [(.ref ra)])) st44 ?_
    refine Goes.by (T' := T44) (g' := (mkF m 13 #[.val (.int x0), .val (.int x1), .val (.long x2), .second, .val (.long x3), .second, .val (.int (3 : Int32)), .val (.ref ra), .unset, .unset, .unset] [])) (fun _ k => XS.astore X44.here hx rfl (hb hby at_11) rfl rfl (l' := #[.val (.int x0), .val (.int x1), .val (.long x2), .second, .val (.long x3), .second, .val (.int (3 : Int32)), .val (.ref ra), .unset, .unset, .unset]) rfl k) ?_
    refine Goes.by (T' := T44) (g' := (mkF m 15 #[.val (.int x0), .val (.int x1), .val (.long x2), .second, .val (.long x3), .second, .val (.int (3 : Int32)), .val (.ref ra), .unset, .unset, .unset] [(.long x3)])) (fun _ k => XS.lload X44.here hx rfl (hb hby at_13) rfl k) ?_
    refine Goes.by (T' := T44) (g' := (mkF m 17 #[.val (.int x0), .val (.int x1), .val (.long x2), .second, .val (.long x3), .second, .val (.int (3 : Int32)), .val (.ref ra), .unset, .unset, .unset] [(.int (3 : Int32)), (.long x3)])) (fun _ k => XS.iload X44.here hx rfl (hb hby at_15) rfl k) ?_
    obtain ⟨v45, T45, L45, X45, hQ45, st45⟩ := callC X44 hx hZ (y := (⟨"com/example/adhoq/adhoq/VectorsAddTimesPinLaw", "make", "(JI)[D"⟩ : MethodName)) hown (hw _ (List.mem_of_getElem? (i := 0) rfl)) (hw _ (List.mem_of_getElem? (i := 1) rfl)) (hw _ (List.mem_of_getElem? (i := 3) rfl)) (hw _ (List.mem_of_getElem? (i := 2) rfl)) (by decide) e44 (argsL := [(.long x3), (.int (3 : Int32))]) (rest := []) (W := 0) (rm_make3 l Z a0 hw x3 T44.heap n0 Z0) rfl (by decide) (by decide) (by decide) (by decide) (g := (mkF m 17 #[.val (.int x0), .val (.int x1), .val (.long x2), .second, .val (.long x3), .second, .val (.int (3 : Int32)), .val (.ref ra), .unset, .unset, .unset] [(.int (3 : Int32)), (.long x3)])) rfl (by rw [hml]; rfl) (lenOf pd1 rfl) rfl (by show 2 * 0 + _ ≤ _; exact Nat.le_of_eq rfl) (hb hby at_17)
    obtain ⟨rb, rfl, szb, V_rb, K45, NL45⟩ := hQ45
    have N0 := Fr.app N0 NL45
    have ne_ra_rb : ra ≠ rb := fun q => Nat.lt_irrefl _ (Nat.lt_of_lt_of_le V_ra.lt (Nat.le_trans szb (Nat.le_of_eq q.symm)))
    have ge_rb : n0 ≤ rb := Nat.le_trans Z0 szb
    have e45 : T45.heap = T45.heap := rfl
    have V_ra := V_ra.keep K45 nin0
    have Z0 := Nat.le_trans Z0 K45.1
    refine Goes.by (T' := T45) (g' := (mkF m 20 #[.val (.int x0), .val (.int x1), .val (.long x2), .second, .val (.long x3), .second, .val (.int (3 : Int32)), .val (.ref ra), .unset, .unset, .unset] [(.ref rb)])) st45 ?_
    refine Goes.by (T' := T45) (g' := (mkF m 22 #[.val (.int x0), .val (.int x1), .val (.long x2), .second, .val (.long x3), .second, .val (.int (3 : Int32)), .val (.ref ra), .val (.ref rb), .unset, .unset] [])) (fun _ k => XS.astore X45.here hx rfl (hb hby at_20) rfl rfl (l' := #[.val (.int x0), .val (.int x1), .val (.long x2), .second, .val (.long x3), .second, .val (.int (3 : Int32)), .val (.ref ra), .val (.ref rb), .unset, .unset]) rfl k) ?_
    refine Goes.by (T' := T45) (g' := (mkF m 24 #[.val (.int x0), .val (.int x1), .val (.long x2), .second, .val (.long x3), .second, .val (.int (3 : Int32)), .val (.ref ra), .val (.ref rb), .unset, .unset] [(.ref ra)])) (fun _ k => XS.aload X45.here hx rfl (hb hby at_22) rfl rfl k) ?_
    refine Goes.by (T' := T45) (g' := (mkF m 25 #[.val (.int x0), .val (.int x1), .val (.long x2), .second, .val (.long x3), .second, .val (.int (3 : Int32)), .val (.ref ra), .val (.ref rb), .unset, .unset] [(.int x1), (.ref ra)])) (fun _ k => XS.iloadN X45.here hx rfl (hb hby at_24) rfl k) ?_
    obtain ⟨f, q_f⟩ : ∃ zz, FP.i2d x1 = zz := ⟨_, rfl⟩
    refine Goes.by (T' := T45) (g' := (mkF m 26 #[.val (.int x0), .val (.int x1), .val (.long x2), .second, .val (.long x3), .second, .val (.int (3 : Int32)), .val (.ref ra), .val (.ref rb), .unset, .unset] [(.double f), (.ref ra)])) (fun _ k => XS.i2dS X45.here hx rfl (hb hby at_25) rfl q_f k) ?_
    refine Goes.by (T' := T45) (g' := (mkF m 28 #[.val (.int x0), .val (.int x1), .val (.long x2), .second, .val (.long x3), .second, .val (.int (3 : Int32)), .val (.ref ra), .val (.ref rb), .unset, .unset] [(.ref rb), (.double f), (.ref ra)])) (fun _ k => XS.aload X45.here hx rfl (hb hby at_26) rfl rfl k) ?_
    have bf : x1.toInt.natAbs ≤ 2147483648 := by have := rng32 x1; omega
    have b_x2_0 := own_part_bd x2 (0 : Int32)
    have b_x2_1 := own_part_bd x2 (1 : Int32)
    have b_x2_2 := own_part_bd x2 (2 : Int32)
    have b_x3_0 := own_part_bd x3 (0 : Int32)
    have b_x3_1 := own_part_bd x3 (1 : Int32)
    have b_x3_2 := own_part_bd x3 (2 : Int32)
    obtain ⟨v46, T46, L46, X46, hQ46, st46⟩ := callC X45 hx hZ (y := (⟨"com/example/adhoq/adhoq/Vectors", "addTimes", "([DD[D)V"⟩ : MethodName)) hown (hw _ (List.mem_of_getElem? (i := 5) rfl)) (hw _ (List.mem_of_getElem? (i := 6) rfl)) (hw _ (List.mem_of_getElem? (i := 8) rfl)) (hw _ (List.mem_of_getElem? (i := 7) rfl)) (by decide) e45 (argsL := [(.ref ra), (.double f), (.ref rb)]) (rest := []) (W := 0) (rm_add3 l Z a0 hw ra rb f x1.toInt _ _ (own_part x2 (0 : Int32)).toInt (own_part x3 (0 : Int32)).toInt _ _ (own_part x2 (1 : Int32)).toInt (own_part x3 (1 : Int32)).toInt _ _ (own_part x2 (2 : Int32)).toInt (own_part x3 (2 : Int32)).toInt T45.heap n0 Z0 V_ra V_rb ne_ra_rb ge_ra (DInt_i2d q_f) bf (DInt_l2d rfl (by omega)) (DInt_l2d rfl (by omega)) b_x2_0 b_x3_0 (DInt_l2d rfl (by omega)) (DInt_l2d rfl (by omega)) b_x2_1 b_x3_1 (DInt_l2d rfl (by omega)) (DInt_l2d rfl (by omega)) b_x2_2 b_x3_2) rfl (by decide) (by decide) (by decide) (by decide) (g := (mkF m 28 #[.val (.int x0), .val (.int x1), .val (.long x2), .second, .val (.long x3), .second, .val (.int (3 : Int32)), .val (.ref ra), .val (.ref rb), .unset, .unset] [(.ref rb), (.double f), (.ref ra)])) rfl (by rw [hml]; rfl) (lenOf pd2 rfl) rfl (by show 2 * 0 + _ ≤ _; exact Nat.le_of_eq rfl) (hb hby at_28)
    obtain ⟨rfl, ⟨s0, s1, s2, DS0, DS1, DS2, V_ra⟩, K46, NL46⟩ := hQ46
    have N0 := Fr.app N0 NL46
    have e46 : T46.heap = T46.heap := rfl
    have V_rb := V_rb.keep K46 (ninS (Ne.symm ne_ra_rb) nin0)
    have Z0 := Nat.le_trans Z0 K46.1
    refine Goes.by (T' := T46) (g' := (mkF m 31 #[.val (.int x0), .val (.int x1), .val (.long x2), .second, .val (.long x3), .second, .val (.int (3 : Int32)), .val (.ref ra), .val (.ref rb), .unset, .unset] [])) st46 ?_
    refine Goes.by (T' := T46) (g' := (mkF m 32 #[.val (.int x0), .val (.int x1), .val (.long x2), .second, .val (.long x3), .second, .val (.int (3 : Int32)), .val (.ref ra), .val (.ref rb), .unset, .unset] [(.int x1)])) (fun _ k => XS.iloadN X46.here hx rfl (hb hby at_31) rfl k) ?_
    refine Goes.by (T' := T46) (g' := (mkF m 33 #[.val (.int x0), .val (.int x1), .val (.long x2), .second, .val (.long x3), .second, .val (.int (3 : Int32)), .val (.ref ra), .val (.ref rb), .unset, .unset] [(.long ((x1).toInt64))])) (fun _ k => XS.i2l X46.here hx rfl (hb hby at_32) rfl k) ?_
    refine Goes.by (T' := T46) (g' := (mkF m 35 #[.val (.int x0), .val (.int x1), .val (.long x2), .second, .val (.long x3), .second, .val (.int (3 : Int32)), .val (.ref ra), .val (.ref rb), .val (.long ((x1).toInt64)), .second] [])) (fun _ k => XS.lstore X46.here hx rfl (hb hby at_33) rfl (l' := #[.val (.int x0), .val (.int x1), .val (.long x2), .second, .val (.long x3), .second, .val (.int (3 : Int32)), .val (.ref ra), .val (.ref rb), .val (.long ((x1).toInt64)), .second]) rfl k) ?_
    refine Goes.by (T' := T46) (g' := (mkF m 37 #[.val (.int x0), .val (.int x1), .val (.long x2), .second, .val (.long x3), .second, .val (.int (3 : Int32)), .val (.ref ra), .val (.ref rb), .val (.long ((x1).toInt64)), .second] [(.ref ra)])) (fun _ k => XS.aload X46.here hx rfl (hb hby at_35) rfl rfl k) ?_
    refine Goes.by (T' := T46) (g' := (mkF m 38 #[.val (.int x0), .val (.int x1), .val (.long x2), .second, .val (.long x3), .second, .val (.int (3 : Int32)), .val (.ref ra), .val (.ref rb), .val (.long ((x1).toInt64)), .second] [(.int (3 : Int32))])) (lenS X46 hx hZ e46 V_ra (n := (3 : Int32)) rfl (g := (mkF m 37 #[.val (.int x0), .val (.int x1), .val (.long x2), .second, .val (.long x3), .second, .val (.int (3 : Int32)), .val (.ref ra), .val (.ref rb), .val (.long ((x1).toInt64)), .second] [(.ref ra)])) rfl rfl (hb hby at_37)) ?_
    refine Goes.by (T' := T46) (g' := (mkF m 40 #[.val (.int x0), .val (.int x1), .val (.long x2), .second, .val (.long x3), .second, .val (.int (3 : Int32)), .val (.ref ra), .val (.ref rb), .val (.long ((x1).toInt64)), .second] [(.int (3 : Int32)), (.int (3 : Int32))])) (fun _ k => XS.iload X46.here hx rfl (hb hby at_38) rfl k) ?_
    refine Goes.by (T' := T46) (g' := (mkF m 43 #[.val (.int x0), .val (.int x1), .val (.long x2), .second, .val (.long x3), .second, .val (.int (3 : Int32)), .val (.ref ra), .val (.ref rb), .val (.long ((x1).toInt64)), .second] [])) (fun _ k => XS.icmpNo X46.here hx rfl (hb hby at_40) rfl (by decide) k) ?_
    refine Goes.by (T' := T46) (g' := (mkF m 45 #[.val (.int x0), .val (.int x1), .val (.long x2), .second, .val (.long x3), .second, .val (.int (3 : Int32)), .val (.ref ra), .val (.ref rb), .val (.long ((x1).toInt64)), .second] [(.ref rb)])) (fun _ k => XS.aload X46.here hx rfl (hb hby at_43) rfl rfl k) ?_
    refine Goes.by (T' := T46) (g' := (mkF m 46 #[.val (.int x0), .val (.int x1), .val (.long x2), .second, .val (.long x3), .second, .val (.int (3 : Int32)), .val (.ref ra), .val (.ref rb), .val (.long ((x1).toInt64)), .second] [(.int (3 : Int32))])) (lenS X46 hx hZ e46 V_rb (n := (3 : Int32)) rfl (g := (mkF m 45 #[.val (.int x0), .val (.int x1), .val (.long x2), .second, .val (.long x3), .second, .val (.int (3 : Int32)), .val (.ref ra), .val (.ref rb), .val (.long ((x1).toInt64)), .second] [(.ref rb)])) rfl rfl (hb hby at_45)) ?_
    refine Goes.by (T' := T46) (g' := (mkF m 48 #[.val (.int x0), .val (.int x1), .val (.long x2), .second, .val (.long x3), .second, .val (.int (3 : Int32)), .val (.ref ra), .val (.ref rb), .val (.long ((x1).toInt64)), .second] [(.int (3 : Int32)), (.int (3 : Int32))])) (fun _ k => XS.iload X46.here hx rfl (hb hby at_46) rfl k) ?_
    refine Goes.by (T' := T46) (g' := (mkF m 51 #[.val (.int x0), .val (.int x1), .val (.long x2), .second, .val (.long x3), .second, .val (.int (3 : Int32)), .val (.ref ra), .val (.ref rb), .val (.long ((x1).toInt64)), .second] [])) (fun _ k => XS.icmpNo X46.here hx rfl (hb hby at_48) rfl (by decide) k) ?_
    refine Goes.by (T' := T46) (g' := (mkF m 53 #[.val (.int x0), .val (.int x1), .val (.long x2), .second, .val (.long x3), .second, .val (.int (3 : Int32)), .val (.ref ra), .val (.ref rb), .val (.long ((x1).toInt64)), .second] [(.ref ra)])) (fun _ k => XS.aload X46.here hx rfl (hb hby at_51) rfl rfl k) ?_
    refine Goes.by (T' := T46) (g' := (mkF m 55 #[.val (.int x0), .val (.int x1), .val (.long x2), .second, .val (.long x3), .second, .val (.int (3 : Int32)), .val (.ref ra), .val (.ref rb), .val (.long ((x1).toInt64)), .second] [(.ref rb), (.ref ra)])) (fun _ k => XS.aload X46.here hx rfl (hb hby at_53) rfl rfl k) ?_
    refine Goes.by (T' := T46) (g' := (mkF m 56 #[.val (.int x0), .val (.int x1), .val (.long x2), .second, .val (.long x3), .second, .val (.int (3 : Int32)), .val (.ref ra), .val (.ref rb), .val (.long ((x1).toInt64)), .second] [(.long x2), (.ref rb), (.ref ra)])) (fun _ k => XS.lloadN X46.here hx rfl (hb hby at_55) rfl k) ?_
    refine Goes.by (T' := T46) (g' := (mkF m 58 #[.val (.int x0), .val (.int x1), .val (.long x2), .second, .val (.long x3), .second, .val (.int (3 : Int32)), .val (.ref ra), .val (.ref rb), .val (.long ((x1).toInt64)), .second] [(.long x3), (.long x2), (.ref rb), (.ref ra)])) (fun _ k => XS.lload X46.here hx rfl (hb hby at_56) rfl k) ?_
    refine Goes.by (T' := T46) (g' := (mkF m 60 #[.val (.int x0), .val (.int x1), .val (.long x2), .second, .val (.long x3), .second, .val (.int (3 : Int32)), .val (.ref ra), .val (.ref rb), .val (.long ((x1).toInt64)), .second] [(.long ((x1).toInt64)), (.long x3), (.long x2), (.ref rb), (.ref ra)])) (fun _ k => XS.lload X46.here hx rfl (hb hby at_58) rfl k) ?_
    refine Goes.by (T' := T46) (g' := (mkF m 61 #[.val (.int x0), .val (.int x1), .val (.long x2), .second, .val (.long x3), .second, .val (.int (3 : Int32)), .val (.ref ra), .val (.ref rb), .val (.long ((x1).toInt64)), .second] [(.int (0 : Int32)), (.long ((x1).toInt64)), (.long x3), (.long x2), (.ref rb), (.ref ra)])) (fun _ k => XS.iconst X46.here hx rfl (hb hby at_60)  k) ?_
    refine Goes.by (T' := T46) (g' := (mkF m 63 #[.val (.int x0), .val (.int x1), .val (.long x2), .second, .val (.long x3), .second, .val (.int (3 : Int32)), .val (.ref ra), .val (.ref rb), .val (.long ((x1).toInt64)), .second] [(.int (3 : Int32)), (.int (0 : Int32)), (.long ((x1).toInt64)), (.long x3), (.long x2), (.ref rb), (.ref ra)])) (fun _ k => XS.iload X46.here hx rfl (hb hby at_61) rfl k) ?_
    obtain ⟨v47, T47, L47, X47, hQ47, st47⟩ := callC X46 hx hZ (y := (⟨"com/example/adhoq/adhoq/VectorsAddTimesPinLaw", "okAt", "([D[DJJJII)Z"⟩ : MethodName)) hown (hw _ (List.mem_of_getElem? (i := 9) rfl)) (hw _ (List.mem_of_getElem? (i := 10) rfl)) (hw _ (List.mem_of_getElem? (i := 11) rfl)) (hw _ (List.mem_of_getElem? (i := 2) rfl)) (by decide) e46 (argsL := [(.ref ra), (.ref rb), (.long x2), (.long x3), (.long ((x1).toInt64)), (.int (0 : Int32)), (.int (3 : Int32))]) (rest := []) (W := 0) (rm_ok2 l Z a0 hw ra rb x2 x3 x1.toInt64 (0 : Int32) (3 : Int32) [(.double s0), (.double s1), (.double s2)] [(.double (FP.l2d (own_part x3 (0 : Int32)))), (.double (FP.l2d (own_part x3 (1 : Int32)))), (.double (FP.l2d (own_part x3 (2 : Int32))))] 0 s0 _ T46.heap n0 Z0 V_ra V_rb (by decide) (by decide) rfl rfl (by rw [c_i2l]; exact bf) (by rw [c_i2l]; exact DS0) (DInt_l2d rfl (by omega))) rfl (by decide) (by decide) (by decide) (by decide) (g := (mkF m 63 #[.val (.int x0), .val (.int x1), .val (.long x2), .second, .val (.long x3), .second, .val (.int (3 : Int32)), .val (.ref ra), .val (.ref rb), .val (.long ((x1).toInt64)), .second] [(.int (3 : Int32)), (.int (0 : Int32)), (.long ((x1).toInt64)), (.long x3), (.long x2), (.ref rb), (.ref ra)])) rfl (by rw [hml]; rfl) (lenOf pd3 rfl) rfl (by show 2 * 0 + _ ≤ _; exact Nat.le_of_eq rfl) (hb hby at_63)
    obtain ⟨rfl, NL47, hk47⟩ := hQ47
    have N0 := Fr.app N0 NL47
    refine Goes.by (T' := T47) (g' := (mkF m 66 #[.val (.int x0), .val (.int x1), .val (.long x2), .second, .val (.long x3), .second, .val (.int (3 : Int32)), .val (.ref ra), .val (.ref rb), .val (.long ((x1).toInt64)), .second] [(.int (1 : Int32))])) st47 ?_
    refine Goes.by (T' := T47) (g' := (mkF m 69 #[.val (.int x0), .val (.int x1), .val (.long x2), .second, .val (.long x3), .second, .val (.int (3 : Int32)), .val (.ref ra), .val (.ref rb), .val (.long ((x1).toInt64)), .second] [])) (fun _ k => XS.ifNo X47.here hx rfl (hb hby at_66) rfl (by decide) k) ?_
    refine Goes.by (T' := T47) (g' := (mkF m 71 #[.val (.int x0), .val (.int x1), .val (.long x2), .second, .val (.long x3), .second, .val (.int (3 : Int32)), .val (.ref ra), .val (.ref rb), .val (.long ((x1).toInt64)), .second] [(.ref ra)])) (fun _ k => XS.aload X47.here hx rfl (hb hby at_69) rfl rfl k) ?_
    refine Goes.by (T' := T47) (g' := (mkF m 73 #[.val (.int x0), .val (.int x1), .val (.long x2), .second, .val (.long x3), .second, .val (.int (3 : Int32)), .val (.ref ra), .val (.ref rb), .val (.long ((x1).toInt64)), .second] [(.ref rb), (.ref ra)])) (fun _ k => XS.aload X47.here hx rfl (hb hby at_71) rfl rfl k) ?_
    refine Goes.by (T' := T47) (g' := (mkF m 74 #[.val (.int x0), .val (.int x1), .val (.long x2), .second, .val (.long x3), .second, .val (.int (3 : Int32)), .val (.ref ra), .val (.ref rb), .val (.long ((x1).toInt64)), .second] [(.long x2), (.ref rb), (.ref ra)])) (fun _ k => XS.lloadN X47.here hx rfl (hb hby at_73) rfl k) ?_
    refine Goes.by (T' := T47) (g' := (mkF m 76 #[.val (.int x0), .val (.int x1), .val (.long x2), .second, .val (.long x3), .second, .val (.int (3 : Int32)), .val (.ref ra), .val (.ref rb), .val (.long ((x1).toInt64)), .second] [(.long x3), (.long x2), (.ref rb), (.ref ra)])) (fun _ k => XS.lload X47.here hx rfl (hb hby at_74) rfl k) ?_
    refine Goes.by (T' := T47) (g' := (mkF m 78 #[.val (.int x0), .val (.int x1), .val (.long x2), .second, .val (.long x3), .second, .val (.int (3 : Int32)), .val (.ref ra), .val (.ref rb), .val (.long ((x1).toInt64)), .second] [(.long ((x1).toInt64)), (.long x3), (.long x2), (.ref rb), (.ref ra)])) (fun _ k => XS.lload X47.here hx rfl (hb hby at_76) rfl k) ?_
    refine Goes.by (T' := T47) (g' := (mkF m 79 #[.val (.int x0), .val (.int x1), .val (.long x2), .second, .val (.long x3), .second, .val (.int (3 : Int32)), .val (.ref ra), .val (.ref rb), .val (.long ((x1).toInt64)), .second] [(.int (1 : Int32)), (.long ((x1).toInt64)), (.long x3), (.long x2), (.ref rb), (.ref ra)])) (fun _ k => XS.iconst X47.here hx rfl (hb hby at_78)  k) ?_
    refine Goes.by (T' := T47) (g' := (mkF m 81 #[.val (.int x0), .val (.int x1), .val (.long x2), .second, .val (.long x3), .second, .val (.int (3 : Int32)), .val (.ref ra), .val (.ref rb), .val (.long ((x1).toInt64)), .second] [(.int (3 : Int32)), (.int (1 : Int32)), (.long ((x1).toInt64)), (.long x3), (.long x2), (.ref rb), (.ref ra)])) (fun _ k => XS.iload X47.here hx rfl (hb hby at_79) rfl k) ?_
    obtain ⟨v48, T48, L48, X48, hQ48, st48⟩ := callC X47 hx hZ (y := (⟨"com/example/adhoq/adhoq/VectorsAddTimesPinLaw", "okAt", "([D[DJJJII)Z"⟩ : MethodName)) hown (hw _ (List.mem_of_getElem? (i := 9) rfl)) (hw _ (List.mem_of_getElem? (i := 10) rfl)) (hw _ (List.mem_of_getElem? (i := 11) rfl)) (hw _ (List.mem_of_getElem? (i := 2) rfl)) (by decide) hk47 (argsL := [(.ref ra), (.ref rb), (.long x2), (.long x3), (.long ((x1).toInt64)), (.int (1 : Int32)), (.int (3 : Int32))]) (rest := []) (W := 0) (rm_ok2 l Z a0 hw ra rb x2 x3 x1.toInt64 (1 : Int32) (3 : Int32) [(.double s0), (.double s1), (.double s2)] [(.double (FP.l2d (own_part x3 (0 : Int32)))), (.double (FP.l2d (own_part x3 (1 : Int32)))), (.double (FP.l2d (own_part x3 (2 : Int32))))] 1 s1 _ T46.heap n0 Z0 V_ra V_rb (by decide) (by decide) rfl rfl (by rw [c_i2l]; exact bf) (by rw [c_i2l]; exact DS1) (DInt_l2d rfl (by omega))) rfl (by decide) (by decide) (by decide) (by decide) (g := (mkF m 81 #[.val (.int x0), .val (.int x1), .val (.long x2), .second, .val (.long x3), .second, .val (.int (3 : Int32)), .val (.ref ra), .val (.ref rb), .val (.long ((x1).toInt64)), .second] [(.int (3 : Int32)), (.int (1 : Int32)), (.long ((x1).toInt64)), (.long x3), (.long x2), (.ref rb), (.ref ra)])) rfl (by rw [hml]; rfl) (lenOf pd3 rfl) rfl (by show 2 * 0 + _ ≤ _; exact Nat.le_of_eq rfl) (hb hby at_81)
    obtain ⟨rfl, NL48, hk48⟩ := hQ48
    have N0 := Fr.app N0 NL48
    refine Goes.by (T' := T48) (g' := (mkF m 84 #[.val (.int x0), .val (.int x1), .val (.long x2), .second, .val (.long x3), .second, .val (.int (3 : Int32)), .val (.ref ra), .val (.ref rb), .val (.long ((x1).toInt64)), .second] [(.int (1 : Int32))])) st48 ?_
    refine Goes.by (T' := T48) (g' := (mkF m 87 #[.val (.int x0), .val (.int x1), .val (.long x2), .second, .val (.long x3), .second, .val (.int (3 : Int32)), .val (.ref ra), .val (.ref rb), .val (.long ((x1).toInt64)), .second] [])) (fun _ k => XS.ifNo X48.here hx rfl (hb hby at_84) rfl (by decide) k) ?_
    refine Goes.by (T' := T48) (g' := (mkF m 89 #[.val (.int x0), .val (.int x1), .val (.long x2), .second, .val (.long x3), .second, .val (.int (3 : Int32)), .val (.ref ra), .val (.ref rb), .val (.long ((x1).toInt64)), .second] [(.ref ra)])) (fun _ k => XS.aload X48.here hx rfl (hb hby at_87) rfl rfl k) ?_
    refine Goes.by (T' := T48) (g' := (mkF m 91 #[.val (.int x0), .val (.int x1), .val (.long x2), .second, .val (.long x3), .second, .val (.int (3 : Int32)), .val (.ref ra), .val (.ref rb), .val (.long ((x1).toInt64)), .second] [(.ref rb), (.ref ra)])) (fun _ k => XS.aload X48.here hx rfl (hb hby at_89) rfl rfl k) ?_
    refine Goes.by (T' := T48) (g' := (mkF m 92 #[.val (.int x0), .val (.int x1), .val (.long x2), .second, .val (.long x3), .second, .val (.int (3 : Int32)), .val (.ref ra), .val (.ref rb), .val (.long ((x1).toInt64)), .second] [(.long x2), (.ref rb), (.ref ra)])) (fun _ k => XS.lloadN X48.here hx rfl (hb hby at_91) rfl k) ?_
    refine Goes.by (T' := T48) (g' := (mkF m 94 #[.val (.int x0), .val (.int x1), .val (.long x2), .second, .val (.long x3), .second, .val (.int (3 : Int32)), .val (.ref ra), .val (.ref rb), .val (.long ((x1).toInt64)), .second] [(.long x3), (.long x2), (.ref rb), (.ref ra)])) (fun _ k => XS.lload X48.here hx rfl (hb hby at_92) rfl k) ?_
    refine Goes.by (T' := T48) (g' := (mkF m 96 #[.val (.int x0), .val (.int x1), .val (.long x2), .second, .val (.long x3), .second, .val (.int (3 : Int32)), .val (.ref ra), .val (.ref rb), .val (.long ((x1).toInt64)), .second] [(.long ((x1).toInt64)), (.long x3), (.long x2), (.ref rb), (.ref ra)])) (fun _ k => XS.lload X48.here hx rfl (hb hby at_94) rfl k) ?_
    refine Goes.by (T' := T48) (g' := (mkF m 97 #[.val (.int x0), .val (.int x1), .val (.long x2), .second, .val (.long x3), .second, .val (.int (3 : Int32)), .val (.ref ra), .val (.ref rb), .val (.long ((x1).toInt64)), .second] [(.int (2 : Int32)), (.long ((x1).toInt64)), (.long x3), (.long x2), (.ref rb), (.ref ra)])) (fun _ k => XS.iconst X48.here hx rfl (hb hby at_96)  k) ?_
    refine Goes.by (T' := T48) (g' := (mkF m 99 #[.val (.int x0), .val (.int x1), .val (.long x2), .second, .val (.long x3), .second, .val (.int (3 : Int32)), .val (.ref ra), .val (.ref rb), .val (.long ((x1).toInt64)), .second] [(.int (3 : Int32)), (.int (2 : Int32)), (.long ((x1).toInt64)), (.long x3), (.long x2), (.ref rb), (.ref ra)])) (fun _ k => XS.iload X48.here hx rfl (hb hby at_97) rfl k) ?_
    obtain ⟨v49, T49, L49, X49, hQ49, st49⟩ := callC X48 hx hZ (y := (⟨"com/example/adhoq/adhoq/VectorsAddTimesPinLaw", "okAt", "([D[DJJJII)Z"⟩ : MethodName)) hown (hw _ (List.mem_of_getElem? (i := 9) rfl)) (hw _ (List.mem_of_getElem? (i := 10) rfl)) (hw _ (List.mem_of_getElem? (i := 11) rfl)) (hw _ (List.mem_of_getElem? (i := 2) rfl)) (by decide) hk48 (argsL := [(.ref ra), (.ref rb), (.long x2), (.long x3), (.long ((x1).toInt64)), (.int (2 : Int32)), (.int (3 : Int32))]) (rest := []) (W := 0) (rm_ok2 l Z a0 hw ra rb x2 x3 x1.toInt64 (2 : Int32) (3 : Int32) [(.double s0), (.double s1), (.double s2)] [(.double (FP.l2d (own_part x3 (0 : Int32)))), (.double (FP.l2d (own_part x3 (1 : Int32)))), (.double (FP.l2d (own_part x3 (2 : Int32))))] 2 s2 _ T46.heap n0 Z0 V_ra V_rb (by decide) (by decide) rfl rfl (by rw [c_i2l]; exact bf) (by rw [c_i2l]; exact DS2) (DInt_l2d rfl (by omega))) rfl (by decide) (by decide) (by decide) (by decide) (g := (mkF m 99 #[.val (.int x0), .val (.int x1), .val (.long x2), .second, .val (.long x3), .second, .val (.int (3 : Int32)), .val (.ref ra), .val (.ref rb), .val (.long ((x1).toInt64)), .second] [(.int (3 : Int32)), (.int (2 : Int32)), (.long ((x1).toInt64)), (.long x3), (.long x2), (.ref rb), (.ref ra)])) rfl (by rw [hml]; rfl) (lenOf pd3 rfl) rfl (by show 2 * 0 + _ ≤ _; exact Nat.le_of_eq rfl) (hb hby at_99)
    obtain ⟨rfl, NL49, hk49⟩ := hQ49
    have N0 := Fr.app N0 NL49
    refine Goes.by (T' := T49) (g' := (mkF m 102 #[.val (.int x0), .val (.int x1), .val (.long x2), .second, .val (.long x3), .second, .val (.int (3 : Int32)), .val (.ref ra), .val (.ref rb), .val (.long ((x1).toInt64)), .second] [(.int (1 : Int32))])) st49 ?_
    refine Goes.by (T' := T49) (g' := (mkF m 105 #[.val (.int x0), .val (.int x1), .val (.long x2), .second, .val (.long x3), .second, .val (.int (3 : Int32)), .val (.ref ra), .val (.ref rb), .val (.long ((x1).toInt64)), .second] [])) (fun _ k => XS.ifNo X49.here hx rfl (hb hby at_102) rfl (by decide) k) ?_
    refine Goes.by (T' := T49) (g' := (mkF m 106 #[.val (.int x0), .val (.int x1), .val (.long x2), .second, .val (.long x3), .second, .val (.int (3 : Int32)), .val (.ref ra), .val (.ref rb), .val (.long ((x1).toInt64)), .second] [(.int (1 : Int32))])) (fun _ k => XS.iconst X49.here hx rfl (hb hby at_105)  k) ?_
    refine Goes.by (T' := T49) (g' := (mkF m 110 #[.val (.int x0), .val (.int x1), .val (.long x2), .second, .val (.long x3), .second, .val (.int (3 : Int32)), .val (.ref ra), .val (.ref rb), .val (.long ((x1).toInt64)), .second] [(.int (1 : Int32))])) (fun _ k => XS.goto X49.here hx rfl (pc0 := 106) (pc' := 110) rfl (hb hby at_106) (by decide) (by decide) k) ?_
    exact outZ X49 hx hlk hret (hb hby at_110) (by exact ⟨rfl, N0⟩) (by decide) (by decide)
set_option maxRecDepth 65536 in
set_option maxHeartbeats 40000000 in
theorem comes_1 {Post : Tables → Env → Array Value → State → Outcome → State → Prop} (hpost : ∀ tb e args s v u, (limb_1_1.after args s (.returned v) u = true ∧ limb_1_2.after args s (.returned v) u = true ∧ True) → FrameEnd s (.returned v) u (Jvm.fieldLocs frame_1_writes args s ++ Jvm.arrayLocs frame_1_arrays args s ++ Jvm.staticLocs frame_1_statics s) 16 128 → Post tb e args s (.returned v) u) :
    ArmFor flags0 classFile x code maxLocals ret World_1 tables_1 room_1 Calls_1 rest_1 Pre_1 Post := by
  intro l hfl _ _ p e ha hc hk s m args below hf hA hF happ hP
  obtain ⟨hcalls, hrest, hpre⟩ := hP
  obtain ⟨-, -, -, hnamed, -, -, -, hat⟩ := (Spec.applies_iff hf).mp happ
  obtain ⟨hg, hn⟩ := and_e (Cond.before_iff.mp (show (Jvm.Cond.and given_1 narrow_1).before args s = true from hpre))
  obtain ⟨g0, t0⟩ := and_e hg
  obtain ⟨g1, t1⟩ := and_e t0
  obtain ⟨g2, t2⟩ := and_e t1
  obtain ⟨g3, t3⟩ := and_e t2
  obtain ⟨w0, w1, w2, w3, rfl⟩ : ∃ w0 w1 w2 w3 : Value, args = #[w0, w1, w2, w3] := by
    have hs : args.size = 4 := by simpa [Cond.value, given_1] using g0
    obtain ⟨L⟩ := args
    match L, hs with
    | [w0, w1, w2, w3], _ => exact ⟨w0, w1, w2, w3, rfl⟩
  have hw := fun d (hd : d ∈ tables_1) => atoms_spec (ws := Jvm.Cond.code x code maxLocals ret :: tables_1) hat d (List.mem_cons_of_mem _ hd)
  obtain ⟨i0, e0⟩ := is_v g1
  obtain rfl : w0 = (.int i0) := Option.some.inj e0
  obtain ⟨i1, e1⟩ := is_v g2
  obtain rfl : w1 = (.int i1) := Option.some.inj e1
  obtain ⟨i2, e2⟩ := isL_v g3
  obtain rfl : w2 = (.long i2) := Option.some.inj e2
  obtain ⟨i3, e3⟩ := isL_v t3
  obtain rfl : w3 = (.long i3) := Option.some.inj e3
  obtain ⟨n, o, h1, h2, h3, _, L, rfl, ⟨rfl, N⟩, hq⟩ := rm_law l s _ hw i0 i1 i2 i3 s.heap s.heap.size (Nat.le_refl _)  p e ha hc hk s m _ below hf ((Spec.applies_iff_loose hf).mp happ).1 ⟨rfl, State.Warmed39.refl s, rfl⟩ trivial
  refine ⟨n, _, h1, h2, h3, hpost _ _ _ _ _ _ ⟨Cond.after_iff.mpr rfl, Cond.after_iff.mpr (eq_i res_at (Term.int_eval (1)) rfl), trivial⟩ ⟨hq.1, hq.2.1, (hq.2.2.sift fun y hy => Or.inr (N y hy)).mono (by decide) (by decide)⟩⟩
theorem main_1_1 : Claimed_1_1 := comes_1 fun _ _ _ _ _ _ h hF => ⟨h.1, hF⟩
theorem main_1_2 : Claimed_1_2 := comes_1 fun _ _ _ _ _ _ h hF => ⟨h.2.1, hF⟩
end Jvm.Pilot.@@N@@
namespace Jvm.Pilot.@@N@@
open Jvm Jvm.ClassFile Sem Op Lib Jvm.Free Jvm.Stand Jvm.Pilot.@@N@@.Jvm.D
/-! MADE BY PROGRAM (witnessworld.py) out of the Statement's table words and the real class files: 9 classes; the members and pool entries that the words name. The judged class is class 1, her method 4. -/
namespace start1
open Jvm.ClassFile
def u (s : String) : CpInfo := .utf8 (stringToUtf16 s)
/-- a pool by its gaps: so many unusable entries, then the entry; so many at the end -/
def gap : Nat → List CpInfo → List CpInfo
  | 0, r => r
  | n + 1, r => .unusable :: gap n r
def poolList (es : List (Nat × CpInfo)) (last : Nat) : List CpInfo := es.foldr (fun e r => gap e.1 (e.2 :: r)) (gap last [])
def pool (es : List (Nat × CpInfo)) (last : Nat) : Array CpInfo := ⟨poolList es last⟩
def fileOf (pool : Array CpInfo) (this : Nat) (attrs : Array Attribute := #[]) (ms : Array MethodInfo := #[]) (fl : Nat := 33) (sup : Nat := 0) (ifs : Array Nat := #[]) (fds : Array FieldInfo := #[]) : ClassFile where
  minorVersion := 0
  majorVersion := 65
  constantPool := pool
  accessFlags := fl
  thisClass := this
  superClass := sup
  interfaces := ifs
  fields := fds
  methods := ms
  attributes := attrs
def plain (name : String) (sup : Option ClassId) : Class where
  name := name
  kind := .ordinary
  loader := none
  accessFlags := 33
  super := sup
  interfaces := #[]
  cf := none
  fields := #[]
  methods := #[]
  instanceTypes := #[]
  staticTypes := #[]
  resolved := #[]
  callSites := []
  init := .initialized
  statics := none
  mirror := none

def pool0 : Array CpInfo := pool [(5, u "<init>"), (0, u "()V"), (1, .class_ 10), (1, u "java/lang/Object")] 113

def k0m0 : Method := { name := "<init>", desc := "()V", sig := { parameters := [], returnType := none }, accessFlags := 1, code := none }
/-- java/lang/Object -/
def k0 : Class := { plain "java/lang/Object" none with
  accessFlags := 33
  interfaces := #[]
  cf := some (fileOf pool0 8 #[] #[{ accessFlags := 1, nameIndex := 5, descriptorIndex := 6, attributes := #[] }] 33 0 #[] #[])
  fields := #[]
  methods := #[k0m0]
  instanceTypes := #[]
  staticTypes := #[]
  resolved := Array.replicate 124 none
  statics := none }

def pool1 : Array CpInfo := pool [(2, .class_ 4), (1, u "java/lang/Object"), (0, u "<init>"), (0, u "()V"), (0, .methodref 8 9), (0, .class_ 10), (0, .nameAndType 11 12), (0, u "com/example/adhoq/adhoq/VectorsAddTimesPinLaw"), (0, u "part"), (0, u "(JI)J"), (0, .methodref 8 14), (0, .nameAndType 15 16), (0, u "make"), (0, u "(JI)[D"), (0, .methodref 18 19), (0, .class_ 20), (0, .nameAndType 21 22), (0, u "com/example/adhoq/adhoq/Vectors"), (0, u "addTimes"), (0, u "([DD[D)V"), (0, .methodref 8 24), (0, .nameAndType 25 26), (0, u "okAt"), (0, u "([D[DJJJII)Z"), (5, u "law"), (0, u "(IIJJ)Z")] 2

def k1m0 : Method := { name := "<init>", desc := "()V", sig := { parameters := [], returnType := none }, accessFlags := 2, code := none }
def k1c1 : Code := { maxStack := 4, maxLocals := 3, code := method_2_code, exceptionTable := #[], attributes := #[] }
def k1m1 : Method := { name := "part", desc := "(JI)J", sig := { parameters := [.long, .int], returnType := some .long }, accessFlags := 10, code := some k1c1 }
def k1c2 : Code := { maxStack := 5, maxLocals := 4, code := method_3_code, exceptionTable := #[], attributes := #[] }
def k1m2 : Method := { name := "make", desc := "(JI)[D", sig := { parameters := [.long, .int], returnType := some (.array .double) }, accessFlags := 10, code := some k1c2 }
def k1c3 : Code := { maxStack := 7, maxLocals := 12, code := method_4_code, exceptionTable := #[], attributes := #[] }
def k1m3 : Method := { name := "okAt", desc := "([D[DJJJII)Z", sig := { parameters := [(.array .double), (.array .double), .long, .long, .long, .int, .int], returnType := some .boolean }, accessFlags := 10, code := some k1c3 }
def k1c4 : Code := { maxStack := 10, maxLocals := 11, code := code, exceptionTable := #[], attributes := #[] }
def k1m4 : Method := { name := "law", desc := "(IIJJ)Z", sig := { parameters := [.int, .int, .long, .long], returnType := some .boolean }, accessFlags := 9, code := some k1c4 }
/-- com/example/adhoq/adhoq/VectorsAddTimesPinLaw -/
def k1 : Class := { plain "com/example/adhoq/adhoq/VectorsAddTimesPinLaw" (some 0) with
  accessFlags := 49
  interfaces := #[]
  cf := some (fileOf pool1 8 #[] #[{ accessFlags := 2, nameIndex := 5, descriptorIndex := 6, attributes := #[] }, { accessFlags := 10, nameIndex := 11, descriptorIndex := 12, attributes := #[] }, { accessFlags := 10, nameIndex := 15, descriptorIndex := 16, attributes := #[] }, { accessFlags := 10, nameIndex := 25, descriptorIndex := 26, attributes := #[] }, { accessFlags := 9, nameIndex := 32, descriptorIndex := 33, attributes := #[] }] 49 2 #[] #[])
  fields := #[]
  methods := #[k1m0, k1m1, k1m2, k1m3, k1m4]
  instanceTypes := #[]
  staticTypes := #[]
  resolved := Array.replicate 36 none
  statics := none }

def pool2 : Array CpInfo := pool [(2, .class_ 4), (1, u "java/lang/Object"), (0, u "<init>"), (0, u "()V"), (1, .class_ 10), (1, u "com/example/adhoq/adhoq/Vectors"), (13, u "addTimes"), (0, u "([DD[D)V")] 6

def k2m0 : Method := { name := "<init>", desc := "()V", sig := { parameters := [], returnType := none }, accessFlags := 2, code := none }
def k2c1 : Code := { maxStack := 8, maxLocals := 5, code := prog_37_method_4_code, exceptionTable := #[], attributes := #[] }
def k2m1 : Method := { name := "addTimes", desc := "([DD[D)V", sig := { parameters := [(.array .double), .double, (.array .double)], returnType := none }, accessFlags := 8, code := some k2c1 }
/-- com/example/adhoq/adhoq/Vectors -/
def k2 : Class := { plain "com/example/adhoq/adhoq/Vectors" (some 0) with
  accessFlags := 48
  interfaces := #[]
  cf := some (fileOf pool2 8 #[] #[{ accessFlags := 2, nameIndex := 5, descriptorIndex := 6, attributes := #[] }, { accessFlags := 8, nameIndex := 24, descriptorIndex := 25, attributes := #[] }] 48 2 #[] #[])
  fields := #[]
  methods := #[k2m0, k2m1]
  instanceTypes := #[]
  staticTypes := #[]
  resolved := Array.replicate 32 none
  statics := none }

def pool3 : Array CpInfo := pool [(1, u "java/lang/Cloneable"), (0, .class_ 1), (0, u "java/lang/Object"), (0, .class_ 3)] 3

/-- java/lang/Cloneable -/
def k3 : Class := { plain "java/lang/Cloneable" (some 0) with
  accessFlags := 1537
  interfaces := #[]
  cf := some (fileOf pool3 2 #[] #[] 1537 4 #[] #[])
  fields := #[]
  methods := #[]
  instanceTypes := #[]
  staticTypes := #[]
  resolved := Array.replicate 8 none
  statics := none }

def pool4 : Array CpInfo := pool [(1, u "java/io/Serializable"), (0, .class_ 1), (0, u "java/lang/Object"), (0, .class_ 3)] 3

/-- java/io/Serializable -/
def k4 : Class := { plain "java/io/Serializable" (some 0) with
  accessFlags := 1537
  interfaces := #[]
  cf := some (fileOf pool4 2 #[] #[] 1537 4 #[] #[])
  fields := #[]
  methods := #[]
  instanceTypes := #[]
  staticTypes := #[]
  resolved := Array.replicate 8 none
  statics := none }

/-- the primitive byte -/
def k5 : Class := { plain "byte" none with kind := .primitive 'B', accessFlags := 0x411 }
/-- [B -/
def k6 : Class := { plain "[B" (some 0) with kind := .array 5 .byte, interfaces := #[3, 4], accessFlags := 1041 }

/-- the primitive int -/
def k7 : Class := { plain "int" none with kind := .primitive 'I', accessFlags := 0x411 }
/-- [I -/
def k8 : Class := { plain "[I" (some 0) with kind := .array 7 .int, interfaces := #[3, 4], accessFlags := 1041 }

/-- the primitive double -/
def k9 : Class := { plain "double" none with kind := .primitive 'D', accessFlags := 0x411 }
/-- [D -/
def k10 : Class := { plain "[D" (some 0) with kind := .array 9 .double, interfaces := #[3, 4], accessFlags := 1041 }
def heap : Heap := #[]
def classes : Array Class := #[k0, k1, k2, k3, k4, k5, k6, k7, k8, k9, k10]
def interned : List (Array UInt16 × Addr) := []
def slotsUsed : Nat := 0
def theMethod : MethodId := ⟨1, 4⟩
def args0 : Array Value := #[.int 2, .int 5, .long 7, .long 9]
def aboutOver (below : List Frame) : State where
  vm := { classes := classes, interned := interned.toArray }
  heap := heap
  slotsUsed := slotsUsed
  threads := #[{ frames := .invoking theMethod args0 :: below }]
def below0 : List Frame := [.native { method := ⟨0, 0⟩, args := #[] }]
def about1 : State := aboutOver below0
def p0 : Program := .bare "" "" ""
def e0 : Env := launch0.env 0 0 0
theorem w_frames : about1.frames = Frame.invoking theMethod args0 :: below0 := rfl
set_option maxRecDepth 65536 in
theorem w_args : argsFit about1.vm theMethod args0 = true := by decide +kernel
set_option maxRecDepth 65536 in
theorem w_heap : heapFits about1 = true := by decide +kernel
set_option maxRecDepth 65536 in
theorem w_runnable : about1.curStatus? = some .runnable := by decide +kernel
set_option maxRecDepth 65536 in
theorem w_alone : about1.alone = true := by decide +kernel
set_option maxRecDepth 65536 in
theorem w_named : about1.methodNamed? x = some theMethod := by decide +kernel
set_option maxRecDepth 65536 in
theorem w_hears : about1.hears theMethod below0 = true := by decide +kernel
set_option maxRecDepth 65536 in
theorem w_ripe : about1.ripe theMethod args0 below0 = true := by decide +kernel
theorem w_running : about1.status = .running := rfl
set_option maxRecDepth 65536 in
theorem w_room : about1.hasRoom e0.platform room_1 = true :=
  launch0.hasRoom_least _ room_1 (by decide +kernel) (by decide +kernel) (by decide +kernel) (by decide +kernel) (by decide +kernel) (by decide +kernel)
theorem allAtoms_all (ts : List Jvm.Cond) (a : Array Jvm.Value) (st : Jvm.State) : (allAtoms ts).before a st = ts.all (fun c => c.before a st) := by
  induction ts with
  | nil => rfl
  | cons c t ih =>
    show (Jvm.Cond.and c (allAtoms t)).before a st = _
    rw [Jvm.Cond.before_and, ih, List.all_cons]
def words1 : List Jvm.Cond := Jvm.Cond.code x code maxLocals ret :: tables_1
/-- a 'code' word, met by the world's own term for the bytes: nothing is compared byte by byte -/
theorem code_word {y : MethodName} {bytes : ByteArray} {mx : Nat} {rt : Option FieldType} {a : Array Value} {s : State} {m : MethodId} {meth : Method} {c : Code} (h1 : s.methodNamed? y = some m) (h2 : s.vm.method? m = some meth) (h3 : meth.code = some c) (h4 : c.code = bytes)
    (h5 : (c.maxLocals == mx && c.exceptionTable.isEmpty && decide (c.maxStack ≤ mostOperands) && decide (meth.sig.returnType = rt) && !meth.locks && decide (parseMethodDescriptor y.desc = some meth.sig)) = true) : (Jvm.Cond.code y bytes mx rt).before a s = true := by
  simp only [Bool.and_eq_true, beq_iff_eq, Bool.not_eq_true', decide_eq_true_eq] at h5
  obtain ⟨⟨⟨⟨⟨g1, g2⟩, g3⟩, g4⟩, g5⟩, g6⟩ := h5
  simp [Cond.before, Cond.holds, Cond.value, h1, h2, h3, h4, g1, g2, g3, g4, g5, g6]
def isCode : Jvm.Cond → Bool
  | .code _ _ _ _ => true
  | _ => false
theorem all_split {L : List Jvm.Cond} {P : Jvm.Cond → Bool} (h1 : L.all (fun c => isCode c || P c) = true) (h2 : ∀ c ∈ L.filter isCode, P c = true) : L.all P = true := by
  refine List.all_eq_true.mpr fun c hc => ?_
  have h := List.all_eq_true.mp h1 c hc
  rcases Bool.eq_false_or_eq_true (isCode c) with hi | hi
  · exact h2 c (List.mem_filter.mpr ⟨hc, hi⟩)
  · simpa [hi] using h
set_option maxRecDepth 65536 in
theorem w_c0 : (Jvm.Cond.code x code maxLocals ret).before args0 about1 = true := code_word (m := ⟨1, 4⟩) (meth := k1m4) (c := k1c4) (by decide +kernel) rfl rfl rfl (by decide +kernel)
set_option maxRecDepth 65536 in
theorem w_c1 : (Jvm.Cond.code ({ cls := "com/example/adhoq/adhoq/VectorsAddTimesPinLaw", name := "make", desc := "(JI)[D" } : Jvm.MethodName) method_3_code (4 : Nat) (Option.some (Jvm.ClassFile.FieldType.array Jvm.ClassFile.FieldType.double))).before args0 about1 = true := code_word (m := ⟨1, 2⟩) (meth := k1m2) (c := k1c2) (by decide +kernel) rfl rfl rfl (by decide +kernel)
set_option maxRecDepth 65536 in
theorem w_c2 : (Jvm.Cond.code ({ cls := "com/example/adhoq/adhoq/Vectors", name := "addTimes", desc := "([DD[D)V" } : Jvm.MethodName) prog_37_method_4_code (5 : Nat) (Option.none : Option Jvm.ClassFile.FieldType)).before args0 about1 = true := code_word (m := ⟨2, 1⟩) (meth := k2m1) (c := k2c1) (by decide +kernel) rfl rfl rfl (by decide +kernel)
set_option maxRecDepth 65536 in
theorem w_c3 : (Jvm.Cond.code ({ cls := "com/example/adhoq/adhoq/VectorsAddTimesPinLaw", name := "okAt", desc := "([D[DJJJII)Z" } : Jvm.MethodName) method_4_code (12 : Nat) (Option.some Jvm.ClassFile.FieldType.boolean)).before args0 about1 = true := code_word (m := ⟨1, 3⟩) (meth := k1m3) (c := k1c3) (by decide +kernel) rfl rfl rfl (by decide +kernel)
set_option maxRecDepth 65536 in
theorem w_c4 : (Jvm.Cond.code ({ cls := "com/example/adhoq/adhoq/VectorsAddTimesPinLaw", name := "part", desc := "(JI)J" } : Jvm.MethodName) method_2_code (3 : Nat) (Option.some Jvm.ClassFile.FieldType.long)).before args0 about1 = true := code_word (m := ⟨1, 1⟩) (meth := k1m1) (c := k1c1) (by decide +kernel) rfl rfl rfl (by decide +kernel)
def codes1 : List Jvm.Cond := [Jvm.Cond.code x code maxLocals ret, Jvm.Cond.code ({ cls := "com/example/adhoq/adhoq/VectorsAddTimesPinLaw", name := "make", desc := "(JI)[D" } : Jvm.MethodName) method_3_code (4 : Nat) (Option.some (Jvm.ClassFile.FieldType.array Jvm.ClassFile.FieldType.double)), Jvm.Cond.code ({ cls := "com/example/adhoq/adhoq/Vectors", name := "addTimes", desc := "([DD[D)V" } : Jvm.MethodName) prog_37_method_4_code (5 : Nat) (Option.none : Option Jvm.ClassFile.FieldType), Jvm.Cond.code ({ cls := "com/example/adhoq/adhoq/VectorsAddTimesPinLaw", name := "okAt", desc := "([D[DJJJII)Z" } : Jvm.MethodName) method_4_code (12 : Nat) (Option.some Jvm.ClassFile.FieldType.boolean), Jvm.Cond.code ({ cls := "com/example/adhoq/adhoq/VectorsAddTimesPinLaw", name := "part", desc := "(JI)J" } : Jvm.MethodName) method_2_code (3 : Nat) (Option.some Jvm.ClassFile.FieldType.long)]
set_option maxRecDepth 65536 in
theorem codes_eq : words1.filter isCode = codes1 := rfl
theorem w_codes : ∀ c ∈ words1.filter isCode, c.before args0 about1 = true := by
  rw [codes_eq]
  intro c hc
  simp only [codes1, List.mem_cons, List.not_mem_nil, or_false] at hc
  rcases hc with rfl | rfl | rfl | rfl | rfl
  · exact w_c0
  · exact w_c1
  · exact w_c2
  · exact w_c3
  · exact w_c4
set_option maxRecDepth 65536 in
theorem w_t1 : words1.all (fun c => isCode c || c.before args0 about1) = true := by decide +kernel
theorem w_tables : (allAtoms (Jvm.Cond.code x code maxLocals ret :: tables_1)).before args0 about1 = true := by
  rw [allAtoms_all]
  show words1.all (fun c => c.before args0 about1) = true
  refine all_split ?_ w_codes
  rw [w_t1]
set_option maxRecDepth 65536 in
theorem w_case : (Jvm.Cond.and given_1 narrow_1).before args0 about1 = true := by decide +kernel
theorem w_applies : (headSpec (Jvm.Cond.code x code maxLocals ret :: tables_1) room_1).applies x e0.platform about1 = true :=
  (Spec.applies_iff w_frames).mpr ⟨w_running, w_runnable, w_alone, w_named, w_hears, w_ripe, w_room, w_tables⟩
theorem atStart : AtStart classFile x code maxLocals ret World_1 tables_1 room_1 Calls_1 rest_1 Pre_1 launch0 p0 e0 about1 theMethod args0 below0 :=
  ⟨lists_1, trivial, launch0.admits_env _ _ _, launch0.least_env, fairChoices_fair.cas, fairChoices_fair.clock, w_frames, w_args, w_heap, w_applies, trivial, trivial, w_case⟩
end start1
theorem witness_1 : WitnessClaimed_1 := ⟨start1.p0, start1.e0, start1.about1, start1.theMethod, start1.args0, start1.below0, start1.atStart⟩
end Jvm.Pilot.@@N@@
